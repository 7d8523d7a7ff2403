import PyProof.Rows.All
import Wide.All
import OpenK.AllK
import Wide.FinOn
import PySem.Challenge.RW_wn0040_01
section
open PySem PySem.W PyProof.Rows
set_option Elab.async false
set_option maxRecDepth 20000
set_option linter.unusedVariables false
namespace W40
open PySem PySem.W PyProof.Rows PySem.Calls

/-- data of the text -/
inductive D where
  | none | bool (b : Bool) | int (i : Int) | str (x : Str) | st (x : Str) (n : Nat)
  | il (l : List Int) | sl (l : List Str) | pl (l : List (Int × Int)) | tl (l : List (Str × Int))
  | mp (l : List (Int × Int)) | en (l : List Str) | ip (p : Int × Int) | sp (p : Str × Int)

structure IsIP (h : Heap) (v : Value) (p : Int × Int) (b : Addr) : Prop where
  eq : v = .ref b
  tup : ∃ t u, h.IsTuple b #[.int p.1 t, .int p.2 u]
structure IsSP (h : Heap) (v : Value) (p : Str × Int) (b : Addr) : Prop where
  eq : v = .ref b
  tup : ∃ t u, h.IsTuple b #[.str p.1 t, .int p.2 u]
inductive IPs (h : Heap) : List Value → List (Int × Int) → List Addr → Prop
  | nil : IPs h [] [] []
  | cons {v p b vs ps bs} : IsIP h v p b → IPs h vs ps bs → IPs h (v :: vs) (p :: ps) (b :: bs)
inductive SPs (h : Heap) : List Value → List (Str × Int) → List Addr → Prop
  | nil : SPs h [] [] []
  | cons {v p b vs ps bs} : IsSP h v p b → SPs h vs ps bs → SPs h (v :: vs) (p :: ps) (b :: bs)
inductive KVs : List (Int × Value) → List (Int × Int) → Prop
  | nil : KVs [] []
  | cons {k x t kvs l} : KVs kvs l → KVs ((k, .int x t) :: kvs) ((k, x) :: l)

/-- keys: texts all -/
def StrKeys (es : List DictEntry) : Prop := ∀ e ∈ es, ∃ y t, e.key = Value.str y t
/-- an entry's four fields: two lists, two nothings -/
structure IsEntry (C : Addr) (h : Heap) (x : Addr) (l : List Str) (fp : List Addr) : Prop where
  ex : ∃ dx a b va vb es n, h.get? x = some (instObj C dx) ∧ h.get? dx = some (dictOf es n) ∧ StrKeys es ∧ es.length ≤ 100 ∧ a ≠ b ∧
    getL "useragents" es = some (some (.ref a)) ∧ getL "rulelines" es = some (some (.ref b)) ∧ getL "delay" es = some (some .none) ∧ getL "req_rate" es = some (some .none) ∧
    h.get? a = some { cls := .type "list", data := .seq #[] va } ∧ (∃ vs : List Value, h.get? b = some { cls := .type "list", data := .seq vs.toArray vb } ∧ StrsAre vs l) ∧ fp = [x, dx, a, b]

def Rep (C : Addr) (h : Heap) (v : Value) (d : D) (fp : List Addr) : Prop :=
  match d with
  | .none => v = .none ∧ fp = []
  | .bool b => v = .bool b ∧ fp = []
  | .int i => (∃ t, v = .int i t) ∧ fp = []
  | .str x => (∃ t, v = .str x t) ∧ fp = []
  | .st x n => (∃ t : Nat, v = .str x t ∧ 1 ≤ t ∧ t < n) ∧ fp = []
  | .il l => ∃ a vs, v = .ref a ∧ h.PlainList a (List.toArray vs) ∧ IntsAre vs l ∧ fp = [a]
  | .sl l => ∃ a vs, v = .ref a ∧ h.PlainList a (List.toArray vs) ∧ StrsAre vs l ∧ fp = [a]
  | .pl l => ∃ a vs bs, v = .ref a ∧ h.PlainList a (List.toArray vs) ∧ IPs h vs l bs ∧ fp = a :: bs
  | .tl l => ∃ a vs bs, v = .ref a ∧ h.PlainList a (List.toArray vs) ∧ SPs h vs l bs ∧ fp = a :: bs
  | .mp l => ∃ a kvs, v = .ref a ∧ (∃ o, h.get? a = some o) ∧ (∀ (prog : Program) (w : World), h.DictOf (intKind prog w) a kvs) ∧ KVs kvs l ∧ (a == sysModules) = false ∧ fp = [a]
  | .en l => ∃ x, v = .ref x ∧ IsEntry C h x l fp
  | .ip p => ∃ b, IsIP h v p b ∧ fp = [b]
  | .sp p => ∃ b, IsSP h v p b ∧ fp = [b]

theorem IsIP.at {h h' : Heap} {v p b} (x : IsIP h v p b) (e : ∀ o, h.get? b = some o → h'.get? b = some o) : IsIP h' v p b := by
  obtain ⟨e1, t, u, o, ho, r⟩ := x
  exact ⟨e1, t, u, o, e _ ho, r⟩
theorem IsSP.at {h h' : Heap} {v p b} (x : IsSP h v p b) (e : ∀ o, h.get? b = some o → h'.get? b = some o) : IsSP h' v p b := by
  obtain ⟨e1, t, u, o, ho, r⟩ := x
  exact ⟨e1, t, u, o, e _ ho, r⟩
theorem IPs.at {h h' : Heap} {vs ps bs} (x : IPs h vs ps bs) (e : ∀ b ∈ bs, ∀ o, h.get? b = some o → h'.get? b = some o) : IPs h' vs ps bs := by
  induction x with
  | nil => exact .nil
  | cons h1 _ ih => exact .cons (h1.at (e _ (.head _))) (ih fun b hb => e b (.tail _ hb))
theorem SPs.at {h h' : Heap} {vs ps bs} (x : SPs h vs ps bs) (e : ∀ b ∈ bs, ∀ o, h.get? b = some o → h'.get? b = some o) : SPs h' vs ps bs := by
  induction x with
  | nil => exact .nil
  | cons h1 _ ih => exact .cons (h1.at (e _ (.head _))) (ih fun b hb => e b (.tail _ hb))

theorem plt {h : Heap} {a : Addr} {its : Array Value} (x : h.PlainList a its) : a < h.objs.size := let ⟨_, e⟩ := x; Heap.lt_size e
theorem dictOf_at {prog : Program} {w : World} {h h' : Heap} {a : Addr} {kvs : List (Int × Value)} (x : h.DictOf (intKind prog w) a kvs) (e : ∀ o, h.get? a = some o → h'.get? a = some o) : h'.DictOf (intKind prog w) a kvs := by
  obtain ⟨o, es, ep, ho, r⟩ := x
  exact ⟨o, es, ep, e _ ho, r⟩

theorem Rep.at {C : Addr} {h h' : Heap} {v d fp} (x : Rep C h v d fp) (e : ∀ b ∈ fp, ∀ o, h.get? b = some o → h'.get? b = some o) : Rep C h' v d fp := by
  cases d with
  | none => exact x
  | bool b => exact x
  | int i => exact x
  | str y => exact x
  | st y n => exact x
  | il l => obtain ⟨a, vs, rfl, hl, hi, rfl⟩ := x; exact ⟨a, vs, rfl, hl.at (e a (.head _)), hi, rfl⟩
  | sl l => obtain ⟨a, vs, rfl, hl, hi, rfl⟩ := x; exact ⟨a, vs, rfl, hl.at (e a (.head _)), hi, rfl⟩
  | pl l => obtain ⟨a, vs, bs, rfl, hl, hi, rfl⟩ := x; exact ⟨a, vs, bs, rfl, hl.at (e a (.head _)), hi.at fun b hb => e b (.tail _ hb), rfl⟩
  | tl l => obtain ⟨a, vs, bs, rfl, hl, hi, rfl⟩ := x; exact ⟨a, vs, bs, rfl, hl.at (e a (.head _)), hi.at fun b hb => e b (.tail _ hb), rfl⟩
  | mp l => obtain ⟨a, kvs, rfl, ⟨o, ho⟩, hl, hi, hs, rfl⟩ := x; exact ⟨a, kvs, rfl, ⟨o, e a (.head _) _ ho⟩, fun p w => dictOf_at (hl p w) (e a (.head _)), hi, hs, rfl⟩
  | en l =>
    obtain ⟨x, rfl, dx, a, b, va, vb, es, n, h1, h2, sk, sl, hab, g1, g2, g3, g4, h3, ⟨vs, h4, hs⟩, rfl⟩ := x
    exact ⟨x, rfl, dx, a, b, va, vb, es, n, e x (by simp) _ h1, e dx (by simp) _ h2, sk, sl, hab, g1, g2, g3, g4, e a (by simp) _ h3, ⟨vs, e b (by simp) _ h4, hs⟩, rfl⟩
  | ip p => obtain ⟨b, hi, rfl⟩ := x; exact ⟨b, hi.at (e b (.head _)), rfl⟩
  | sp p => obtain ⟨b, hi, rfl⟩ := x; exact ⟨b, hi.at (e b (.head _)), rfl⟩

theorem IPs.live {h : Heap} {vs ps bs} (x : IPs h vs ps bs) : ∀ b ∈ bs, ∃ o, h.get? b = some o := by
  induction x with
  | nil => intro b hb; cases hb
  | cons h1 _ ih =>
    intro b hb
    rcases List.mem_cons.mp hb with rfl | hb
    · obtain ⟨_, t, u, o, ho, _⟩ := h1; exact ⟨o, ho⟩
    · exact ih b hb
theorem SPs.live {h : Heap} {vs ps bs} (x : SPs h vs ps bs) : ∀ b ∈ bs, ∃ o, h.get? b = some o := by
  induction x with
  | nil => intro b hb; cases hb
  | cons h1 _ ih =>
    intro b hb
    rcases List.mem_cons.mp hb with rfl | hb
    · obtain ⟨_, t, u, o, ho, _⟩ := h1; exact ⟨o, ho⟩
    · exact ih b hb

theorem Rep.live {C : Addr} {h : Heap} {v d fp} (x : Rep C h v d fp) : ∀ b ∈ fp, ∃ o, h.get? b = some o := by
  cases d with
  | none => obtain ⟨_, rfl⟩ := x; intro b hb; cases hb
  | bool b => obtain ⟨_, rfl⟩ := x; intro b hb; cases hb
  | int i => obtain ⟨_, rfl⟩ := x; intro b hb; cases hb
  | str y => obtain ⟨_, rfl⟩ := x; intro b hb; cases hb
  | st y n => obtain ⟨_, rfl⟩ := x; intro b hb; cases hb
  | il l => obtain ⟨a, vs, rfl, ⟨n, ho⟩, hi, rfl⟩ := x; intro b hb; rw [List.mem_singleton.mp hb]; exact ⟨_, ho⟩
  | sl l => obtain ⟨a, vs, rfl, ⟨n, ho⟩, hi, rfl⟩ := x; intro b hb; rw [List.mem_singleton.mp hb]; exact ⟨_, ho⟩
  | pl l =>
    obtain ⟨a, vs, bs, rfl, ⟨n, ho⟩, hi, rfl⟩ := x; intro b hb
    rcases List.mem_cons.mp hb with rfl | hb
    · exact ⟨_, ho⟩
    · exact hi.live b hb
  | tl l =>
    obtain ⟨a, vs, bs, rfl, ⟨n, ho⟩, hi, rfl⟩ := x; intro b hb
    rcases List.mem_cons.mp hb with rfl | hb
    · exact ⟨_, ho⟩
    · exact hi.live b hb
  | mp l =>
    obtain ⟨a, kvs, rfl, ⟨o, ho⟩, hl, hi, hs, rfl⟩ := x
    intro b hb; rw [List.mem_singleton.mp hb]
    exact ⟨o, ho⟩
  | en l =>
    obtain ⟨x, rfl, dx, a, b, va, vb, es, n, h1, h2, sk, sl, hab, g1, g2, g3, g4, h3, ⟨vs, h4, hs⟩, rfl⟩ := x
    intro c hc
    simp only [List.mem_cons, List.not_mem_nil, or_false] at hc
    rcases hc with rfl | rfl | rfl | rfl
    · exact ⟨_, h1⟩
    · exact ⟨_, h2⟩
    · exact ⟨_, h3⟩
    · exact ⟨_, h4⟩
  | ip p => obtain ⟨b, ⟨_, t, u, o, ho, _⟩, rfl⟩ := x; intro c hc; rw [List.mem_singleton.mp hc]; exact ⟨o, ho⟩
  | sp p => obtain ⟨b, ⟨_, t, u, o, ho, _⟩, rfl⟩ := x; intro c hc; rw [List.mem_singleton.mp hc]; exact ⟨o, ho⟩

end W40
end
section
open PySem PySem.W PyProof.Rows
set_option Elab.async false
set_option maxRecDepth 20000
set_option linter.unusedVariables false
namespace W40
open PySem PySem.W PyProof.Rows PySem.Calls

/-- what stays: the program, the world, the written part, the entry's class, a floor of the tokens -/
structure Cx where
  prog : Program
  w : World
  K : Frag
  C : Addr
  T : Nat

structure Gl (X : Cx) (s : Shared) : Prop where
  kin : X.K.In s.heap
  glb : ∃ mg mb, s.heap.Ns mainGlobals mg ∧ s.heap.Ns builtinsNs mb ∧ ∀ x : Str, x ≠ "__name__" → mb x = bootBuiltins x
  lim : s.heap.NoLimit
  tok : X.T ≤ s.toks

/-- kept: every object as it was, the tokens no fewer -/
structure Kp (s s' : Shared) : Prop where
  same : ∃ h tk, s' = { s with heap := h, toks := tk }
  keep : ∀ b o, s.heap.get? b = some o → s'.heap.get? b = some o
  tok : s.toks ≤ s'.toks
theorem Kp.refl (s : Shared) : Kp s s := ⟨⟨_, _, rfl⟩, fun _ _ e => e, Nat.le_refl _⟩
theorem Kp.trans {a b c : Shared} (x : Kp a b) (y : Kp b c) : Kp a c := by
  obtain ⟨h, tk, rfl⟩ := x.same
  obtain ⟨h', tk', rfl⟩ := y.same
  exact ⟨⟨_, _, rfl⟩, fun b o e => y.keep b o (x.keep b o e), Nat.le_trans x.tok y.tok⟩
theorem Kp.toks {s : Shared} {n : Nat} (h : s.toks ≤ n) : Kp s { s with toks := n } := ⟨⟨_, _, rfl⟩, fun _ _ e => e, h⟩
theorem Kp.tok1 (s : Shared) : Kp s { s with toks := s.toks + 1 } := Kp.toks (Nat.le_succ _)
theorem Kp.push (s : Shared) (o : Obj) : Kp s { s with heap := s.heap.push o } := ⟨⟨_, _, rfl⟩, fun _ _ e => Heap.get?_push_of_some _ e, Nat.le_refl _⟩
theorem Kp.keeps {s s' : Shared} (x : Kp s s') : Keeps s s' := by
  obtain ⟨h, tk, rfl⟩ := x.same
  exact ⟨h, tk, rfl, x.keep⟩
theorem Kp.of {s s' : Shared} (x : Keeps s s') (t : s.toks ≤ s'.toks) : Kp s s' := by
  obtain ⟨h, tk, rfl, k⟩ := x
  exact ⟨⟨h, tk, rfl⟩, k, t⟩
theorem Kp.fresh {s s' : Shared} (x : Kp s s') {a : Addr} (e : s'.heap.get? a = none) : s.heap.get? a = none := by
  cases q : s.heap.get? a with
  | none => rfl
  | some o => rw [x.keep _ _ q] at e; cases e

theorem Gl.kp {X : Cx} {s s' : Shared} (g : Gl X s) (k : Kp s s') : Gl X s' :=
  ⟨g.kin.keeps k.keep, let ⟨mg, mb, a, b, c⟩ := g.glb; ⟨mg, mb, a.keeps k.keep, b.keeps k.keep, c⟩, g.lim.keeps k.keep, Nat.le_trans g.tok k.tok⟩

/-- room for n more frames -/
structure AOk (n : Nat) (A : Around) : Prop where
  hand : A.handled = none
  depth : A.depth + n < recursionLimit
  units : A.units + 16 * n + 64 < cLine
theorem AOk.in1 {n : Nat} {A : Around} (a : AOk (n + 1) A) : AOk n A.in1 := ⟨a.hand, by have := a.depth; show A.depth + n < _; omega, by have := a.units; show A.units + 1 + 16 * n + 64 < _; omega⟩
theorem AOk.deeper {n : Nat} {A : Around} (a : AOk (n + 1) A) (env : Env) : AOk n (A.deeper env) := ⟨a.hand, by have := a.depth; show A.depth + 1 + n < _; omega, by have := a.units; show A.units + 3 + 16 * n + 64 < _; omega⟩
theorem AOk.le {n m : Nat} {A : Around} (a : AOk n A) (h : m ≤ n) : AOk m A := ⟨a.hand, by have := a.depth; omega, by have := a.units; omega⟩
theorem AOk.room {n : Nat} {A : Around} (a : AOk n A) : A.depth < recursionLimit := by have := a.depth; omega

structure EnvOk (env : Env) : Prop where
  kind : env.scope.kind = .function
  glob : env.globals = mainGlobals
  blt : env.builtins = builtinsNs

def plainName (x : Str) : Bool := !(x == ("__debug__" : Str)) && !(x == ("__classdict__" : Str))
structure VarIs (env : Env) (h : Heap) (x : Str) (v : Value) : Prop where
  nm : plainName x = true
  at_ : (env.kindOf x = some .local ∧ ∃ m, h.Ns env.locals m ∧ m x = some v) ∨
    ((env.kindOf x = some .cell ∨ env.kindOf x = some .free) ∧ ∃ c, env.cells.lookup x = some c ∧ h.IsCell c (some v))
theorem VarIs.keeps {env : Env} {h h' : Heap} {x : Str} {v : Value} (y : VarIs env h x v) (hk : ∀ b o, h.get? b = some o → h'.get? b = some o) : VarIs env h' x v :=
  ⟨y.nm, y.at_.imp (fun ⟨a, m, b, c⟩ => ⟨a, m, b.keeps hk, c⟩) fun ⟨a, c, b, d⟩ => ⟨a, c, b, d.keeps hk⟩⟩

def TOk (d : Option Nat) (n : Nat) : Prop := match d with | some t => 1 ≤ t ∧ t < n | none => True
theorem TOk.le {d : Option Nat} {n m : Nat} (h : TOk d n) (hm : n ≤ m) : TOk d m := by
  cases d with | none => trivial | some t => exact ⟨h.1, Nat.lt_of_lt_of_le h.2 hm⟩

def RelR (X : Cx) (env : Env) (s : Shared) (σ : List (Str × D)) : Prop := ∀ p ∈ σ, ∃ v fp, VarIs env s.heap p.1 v ∧ Rep X.C s.heap v p.2 fp
theorem Rep.keeps {C : Addr} {h h' : Heap} {v d fp} (x : Rep C h v d fp) (hk : ∀ b o, h.get? b = some o → h'.get? b = some o) : Rep C h' v d fp := x.at fun b _ o e => hk b o e
theorem RelR.kp {X : Cx} {env : Env} {s s' : Shared} {σ} (r : RelR X env s σ) (k : Kp s s') : RelR X env s' σ := fun p hp =>
  let ⟨v, fp, a, b⟩ := r p hp; ⟨v, fp, a.keeps k.keep, b.keeps k.keep⟩
theorem RelR.sub {X : Cx} {env : Env} {s : Shared} {σ σ'} (r : RelR X env s σ) (h : ∀ p ∈ σ', p ∈ σ) : RelR X env s σ' := fun p hp => r p (h p hp)

def PostV (X : Cx) (s : Shared) (d : D) (v : Value) (s' : Shared) : Prop := Kp s s' ∧ ∃ fp, Rep X.C s'.heap v d fp
def PostF (X : Cx) (s : Shared) (d : D) (v : Value) (s' : Shared) : Prop := Kp s s' ∧ ∃ fp, Rep X.C s'.heap v d fp ∧ ∀ a ∈ fp, s.heap.get? a = none
theorem PostF.v {X : Cx} {s s' : Shared} {d v} (h : PostF X s d v s') : PostV X s d v s' := ⟨h.1, let ⟨fp, r, _⟩ := h.2; ⟨fp, r⟩⟩

variable {X : Cx} {n : Nat} {env : Env} {σ : List (Str × D)}

def Ev (X : Cx) (n : Nat) (env : Env) (σ : List (Str × D)) (e : Expr) (d : D) : Prop :=
  ∀ A s E, AOk n A → Gl X s → RelR X env s σ → wpAny (model X.prog X.w) A (eval e env) (PostV X s d) E s
def EvF (X : Cx) (n : Nat) (env : Env) (σ : List (Str × D)) (e : Expr) (d : D) : Prop :=
  ∀ A s E, AOk n A → Gl X s → RelR X env s σ → wpAny (model X.prog X.w) A (eval e env) (PostF X s d) E s
/-- a test -/
def Cn (X : Cx) (n : Nat) (env : Env) (σ : List (Str × D)) (e : Expr) (b : Bool) : Prop :=
  ∀ A s E, AOk n A → Gl X s → RelR X env s σ → wpAny (model X.prog X.w) A (isTrue e env (eval e env)) (fun r s' => r = b ∧ Kp s s') E s
theorem EvF.ev {e : Expr} {d : D} (h : EvF X n env σ e d) : Ev X n env σ e d := fun A s E a g r => wpAny_mono (h A s E a g r) (fun _ _ x => x.v) fun _ _ x => x

theorem Ev.le {m : Nat} {e : Expr} {d : D} (h : Ev X m env σ e d) (hm : m ≤ n) : Ev X n env σ e d := fun A s E a g r => h A s E (a.le hm) g r
theorem EvF.le {m : Nat} {e : Expr} {d : D} (h : EvF X m env σ e d) (hm : m ≤ n) : EvF X n env σ e d := fun A s E a g r => h A s E (a.le hm) g r

def D.flat : D → Bool
  | .none | .bool _ | .int _ | .str _ | .st _ _ => true
  | _ => false
theorem Rep.flat {C : Addr} {h : Heap} {v d fp} (x : Rep C h v d fp) (hd : d.flat = true) : fp = [] := by
  cases d <;> first | exact x.2 | cases hd
theorem Ev.evF {e : Expr} {d : D} (h : Ev X n env σ e d) (hd : d.flat = true) : EvF X n env σ e d := fun A s E a g r => wpAny_mono (h A s E a g r)
  (fun _ _ x => ⟨x.1, let ⟨fp, r⟩ := x.2; ⟨fp, r, by rw [r.flat hd]; intro a ha; cases ha⟩⟩) fun _ _ x => x

/-- tokens never fall -/
theorem tok_up {α : Type} {M : Model} {A : Around} {E : Value → Shared → Prop} {s : Shared} {t : Sem α} {Q : α → Shared → Prop} (h : wpAny M A t (fun a s' => s.toks ≤ s'.toks → Q a s') E s) : wpAny M A t Q E s :=
  wpAny_mono (wpAny_toks h) (fun _ _ x => x.2 x.1) fun _ _ x => x.2

section leaves
theorem ev_int {i : Int} {k : Nat} {pos : Pos} : EvF X n env σ (.Constant (.int i) k pos) (.int i) := fun _ s _ _ _ _ =>
  wpAny_Constant_int ⟨Kp.tok1 s, [], ⟨⟨_, rfl⟩, rfl⟩, by intro a ha; cases ha⟩
theorem ev_str {x : Str} {k : Nat} {pos : Pos} : EvF X n env σ (.Constant (.str x) k pos) (.str x) := fun _ s _ _ _ _ =>
  wpAny_Constant_str ⟨Kp.tok1 s, [], ⟨⟨_, rfl⟩, rfl⟩, by intro a ha; cases ha⟩
theorem ev_none {k : Nat} {pos : Pos} : EvF X n env σ (.Constant .none k pos) .none := fun _ s _ _ _ _ =>
  wpAny_Constant_none ⟨Kp.refl s, [], ⟨rfl, rfl⟩, by intro a ha; cases ha⟩
theorem ev_bool {b : Bool} {k : Nat} {pos : Pos} : EvF X n env σ (.Constant (.bool b) k pos) (.bool b) := fun _ s _ _ _ _ =>
  wpAny_Constant_bool ⟨Kp.refl s, [], ⟨rfl, rfl⟩, by intro a ha; cases ha⟩

theorem loadName_var {M : Model} {A : Around} {E : Value → Shared → Prop} {s : Shared} {x : Str} {v : Value} {Q : Value → Shared → Prop} (ho : EnvOk env) (hv : VarIs env s.heap x v) (h : Q v s) : wpAny M A (loadName env x) Q E s := by
  have hn := hv.nm
  simp only [plainName, Bool.and_eq_true, Bool.not_eq_true'] at hn
  rcases hv.at_ with ⟨hk, m, hm, hx⟩ | ⟨hk | hk, c, hc, hx⟩
  · exact wpAny_loadName_local ho.kind hk hm hx h
  · exact wpAny_loadName_cell ho.kind hk hc hx h
  · exact wpAny_loadName_free ho.kind hk hc hx h hn.2
theorem name_var {M : Model} {A : Around} {E : Value → Shared → Prop} {s : Shared} {x : Str} {pos : Pos} {v : Value} {Q : Value → Shared → Prop} (ho : EnvOk env) (hv : VarIs env s.heap x v) (h : Q v s) : wpAny M A (eval (.Name x pos) env) Q E s := by
  have hn := hv.nm
  simp only [plainName, Bool.and_eq_true, Bool.not_eq_true'] at hn
  exact wpAny_Name (loadName_var ho hv h) hn.1
theorem ev_name {x : Str} {d : D} {pos : Pos} (ho : EnvOk env) (hm : (x, d) ∈ σ) : Ev X n env σ (.Name x pos) d := fun _ s _ _ _ r => by
  obtain ⟨v, fp, hv, hr⟩ := r _ hm
  exact name_var ho hv ⟨Kp.refl s, fp, hr⟩

/-- names of the text's top, and of the built-ins -/
def GName (X : Cx) (x : Str) (v : Value) : Prop := nsIn X.K mainGlobals x = some (some v)
def BName (X : Cx) (x : Str) (v : Value) : Prop := nsIn X.K mainGlobals x = some none ∧ bootBuiltins x = some v ∧ x ≠ "__name__"
theorem name_glob {M : Model} {A : Around} {E : Value → Shared → Prop} {s : Shared} {x : Str} {pos : Pos} {v : Value} {Q : Value → Shared → Prop} (ho : EnvOk env) (g : Gl X s) (e : GName X x v) (hk : env.kindOf x = some .globalImplicit) (hd : (x == ("__debug__" : Str)) = false) (h : Q v s) : wpAny M A (eval (.Name x pos) env) Q E s := by
  obtain ⟨mg, mb, hg, hb, hbb⟩ := g.glb
  exact Name_function_global ho.kind hk (loadGlobal_global (by rw [ho.glob]; exact hg) (mg_of g.kin hg e) h) hd
theorem name_blt {M : Model} {A : Around} {E : Value → Shared → Prop} {s : Shared} {x : Str} {pos : Pos} {v : Value} {Q : Value → Shared → Prop} (ho : EnvOk env) (g : Gl X s) (e : BName X x v) (hk : env.kindOf x = some .globalImplicit) (hd : (x == ("__debug__" : Str)) = false) (h : Q v s) : wpAny M A (eval (.Name x pos) env) Q E s := by
  obtain ⟨mg, mb, hg, hb, hbb⟩ := g.glb
  exact Name_function_global ho.kind hk (loadGlobal_builtin (by rw [ho.glob]; exact hg) (mg_none_of g.kin hg e.1) (by rw [ho.blt]; exact hb) ((hbb x e.2.2).trans e.2.1) h) hd
end leaves

section ops
def OpOk (X : Cx) (n : Nat) (op : Operator) (d1 d2 d : D) : Prop :=
  ∀ A s E v1 v2 fp1 fp2, AOk n A → Gl X s → Rep X.C s.heap v1 d1 fp1 → Rep X.C s.heap v2 d2 fp2 → wpAny (model X.prog X.w) A (binaryOp op v1 v2) (PostF X s d) E s
def InOk (X : Cx) (n : Nat) (op : Operator) (d1 d2 d : D) : Prop :=
  ∀ A s E v1 v2 fp1 fp2, AOk n A → Gl X s → Rep X.C s.heap v1 d1 fp1 → Rep X.C s.heap v2 d2 fp2 → wpAny (model X.prog X.w) A (inplaceOp op v1 v2) (PostF X s d) E s
def CmpOk (X : Cx) (n : Nat) (op : CmpOp) (d1 d2 : D) (b : Bool) : Prop :=
  ∀ A s E v1 v2 fp1 fp2, AOk n A → Gl X s → Rep X.C s.heap v1 d1 fp1 → Rep X.C s.heap v2 d2 fp2 → wpAny (model X.prog X.w) A (compareOp op v1 v2) (fun v s' => v = .bool b ∧ Kp s s') E s

theorem PostF.lift {s s₁ s' : Shared} {d : D} {v : Value} (k : Kp s s₁) (h : PostF X s₁ d v s') : PostF X s d v s' :=
  ⟨k.trans h.1, let ⟨fp, r, f⟩ := h.2; ⟨fp, r, fun a ha => k.fresh (f a ha)⟩⟩

theorem ev_bin {l r : Expr} {op : Operator} {pos : Pos} {d1 d2 d : D} (hl : Ev X n env σ l d1) (hr : Ev X n env σ r d2) (ho : OpOk X n op d1 d2 d) : EvF X n env σ (.BinOp l op r pos) d := fun A s E a g rel => by
  refine wpAny_BinOp (wpAny_mono (hl A s E a g rel) (fun v1 s1 h1 => ?_) fun _ _ x => x)
  obtain ⟨k1, fp1, r1⟩ := h1
  refine wpAny_mono (hr A s1 E a (g.kp k1) (rel.kp k1)) (fun v2 s2 h2 => ?_) fun _ _ x => x
  obtain ⟨k2, fp2, r2⟩ := h2
  exact wpAny_mono (ho A s2 E v1 v2 fp1 fp2 a (g.kp (k1.trans k2)) (r1.keeps k2.keep) r2) (fun v s3 h3 => h3.lift (k1.trans k2)) fun _ _ x => x

theorem PostF.flatV {s s' : Shared} {d : D} {v : Value} (k : Kp s s') (hr : Rep X.C s'.heap v d []) : PostF X s d v s' := ⟨k, [], hr, by intro a ha; cases ha⟩
theorem PostF.int {s s' : Shared} {i : Int} {t : Tok} (k : Kp s s') : PostF X s (.int i) (.int i t) s' := .flatV k ⟨⟨_, rfl⟩, rfl⟩
theorem PostF.str {s s' : Shared} {x : Str} {t : Tok} (k : Kp s s') : PostF X s (.str x) (.str x t) s' := .flatV k ⟨⟨_, rfl⟩, rfl⟩
theorem PostF.bool {s s' : Shared} {b : Bool} (k : Kp s s') : PostF X s (.bool b) (.bool b) s' := .flatV k ⟨rfl, rfl⟩

theorem op_add {a b : Int} : OpOk X n .Add (.int a) (.int b) (.int (a + b)) := by
  rintro A s E _ _ _ _ ha g ⟨⟨t, rfl⟩, _⟩ ⟨⟨u, rfl⟩, _⟩; exact add_int (PostF.int (Kp.tok1 s))
theorem in_add {a b : Int} : InOk X n .Add (.int a) (.int b) (.int (a + b)) := by
  rintro A s E _ _ _ _ ha g ⟨⟨t, rfl⟩, _⟩ ⟨⟨u, rfl⟩, _⟩; exact iadd_int (PostF.int (Kp.tok1 s))
theorem op_sub {a b : Int} : OpOk X n .Sub (.int a) (.int b) (.int (a - b)) := by
  rintro A s E _ _ _ _ ha g ⟨⟨t, rfl⟩, _⟩ ⟨⟨u, rfl⟩, _⟩; exact sub_int' (PostF.int (Kp.tok1 s))
theorem in_sub {a b : Int} : InOk X n .Sub (.int a) (.int b) (.int (a - b)) := by
  rintro A s E _ _ _ _ ha g ⟨⟨t, rfl⟩, _⟩ ⟨⟨u, rfl⟩, _⟩; exact isub_int (PostF.int (Kp.tok1 s))
theorem op_mul {a b : Int} (hm : IntMulOk a b) : OpOk X n .Mult (.int a) (.int b) (.int (a * b)) := by
  rintro A s E _ _ _ _ ha g ⟨⟨t, rfl⟩, _⟩ ⟨⟨u, rfl⟩, _⟩; exact PyProof.Rows.mul_int (PostF.int (Kp.tok1 s)) hm
theorem op_div {a b : Int} (hb : b ≠ 0) (hs : b.natAbs.log2 < 9000) : OpOk X n .FloorDiv (.int a) (.int b) (.int (a.fdiv b)) := by
  rintro A s E _ _ _ _ ha g ⟨⟨t, rfl⟩, _⟩ ⟨⟨u, rfl⟩, _⟩; exact PyProof.Rows.floordiv_int hb (PostF.int (Kp.tok1 s)) (.inl (PyProof.noPylong_of_log2 hs))
theorem op_mod {a b : Int} (hb : b ≠ 0) (hs : b.natAbs.log2 < 9000) : OpOk X n .Mod (.int a) (.int b) (.int (a.fmod b)) := by
  rintro A s E _ _ _ _ ha g ⟨⟨t, rfl⟩, _⟩ ⟨⟨u, rfl⟩, _⟩; exact PyProof.Rows.mod_int' hb (PostF.int (Kp.tok1 s))
theorem op_pow {a b : Int} (hn : 0 ≤ b) (hs : (Builtin.Int.intBits a : Int) * b ≤ 2 ^ 27) : OpOk X n .Pow (.int a) (.int b) (.int (a ^ b.toNat)) := by
  rintro A s E _ _ _ _ ha g ⟨⟨t, rfl⟩, _⟩ ⟨⟨u, rfl⟩, _⟩; exact PyProof.Rows.pow_int hn hs (PostF.int (Kp.tok1 s))
theorem op_and {a b : Int} : OpOk X n .BitAnd (.int a) (.int b) (.int (Builtin.bitAnd a b)) := by
  rintro A s E _ _ _ _ ha g ⟨⟨t, rfl⟩, _⟩ ⟨⟨u, rfl⟩, _⟩; exact PyProof.Rows.and_int (PostF.int (Kp.tok1 s))
theorem op_or {a b : Int} : OpOk X n .BitOr (.int a) (.int b) (.int (Builtin.bitOr a b)) := by
  rintro A s E _ _ _ _ ha g ⟨⟨t, rfl⟩, _⟩ ⟨⟨u, rfl⟩, _⟩; exact PyProof.Rows.or_int (PostF.int (Kp.tok1 s))
theorem in_or {a b : Int} : InOk X n .BitOr (.int a) (.int b) (.int (Builtin.bitOr a b)) := by
  rintro A s E _ _ _ _ ha g ⟨⟨t, rfl⟩, _⟩ ⟨⟨u, rfl⟩, _⟩; exact PyProof.Rows.ior_int (PostF.int (Kp.tok1 s))
theorem op_cat {a b : Str} (hz : a.length + b.length ≤ sizeLine) : OpOk X n .Add (.str a) (.str b) (.str (a ++ b)) := by
  rintro A s E _ _ _ _ ha g ⟨⟨t, rfl⟩, _⟩ ⟨⟨u, rfl⟩, _⟩
  exact tok_up (PyProof.Rows.add_str (fun t' tk ht => PostF.str (Kp.toks ht)) hz)
theorem in_cat {a b : Str} (hz : a.length + b.length ≤ sizeLine) : InOk X n .Add (.str a) (.str b) (.str (a ++ b)) := by
  rintro A s E _ _ _ _ ha g ⟨⟨t, rfl⟩, _⟩ ⟨⟨u, rfl⟩, _⟩
  exact tok_up (PyProof.Rows.iadd_str (fun t' tk ht => PostF.str (Kp.toks ht)) hz)

theorem cmp_lt {a b : Int} : CmpOk X n .Lt (.int a) (.int b) (decide (a < b)) := by
  rintro A s E _ _ _ _ ha g ⟨⟨t, rfl⟩, _⟩ ⟨⟨u, rfl⟩, _⟩; exact PyProof.Rows.lt_int ⟨rfl, Kp.refl s⟩
theorem cmp_gt {a b : Int} : CmpOk X n .Gt (.int a) (.int b) (decide (b < a)) := by
  rintro A s E _ _ _ _ ha g ⟨⟨t, rfl⟩, _⟩ ⟨⟨u, rfl⟩, _⟩; exact PyProof.Rows.gt_int ⟨rfl, Kp.refl s⟩
theorem cmp_ge {a b : Int} : CmpOk X n .GtE (.int a) (.int b) (decide (b ≤ a)) := by
  rintro A s E _ _ _ _ ha g ⟨⟨t, rfl⟩, _⟩ ⟨⟨u, rfl⟩, _⟩; exact PyProof.Rows.ge_int ⟨rfl, Kp.refl s⟩
theorem cmp_eq {a b : Int} : CmpOk X n .Eq (.int a) (.int b) (decide (a = b)) := by
  rintro A s E _ _ _ _ ha g ⟨⟨t, rfl⟩, _⟩ ⟨⟨u, rfl⟩, _⟩; exact PyProof.Rows.eq_int ⟨by congr 1, Kp.refl s⟩
theorem cmp_ne {a b : Int} : CmpOk X n .NotEq (.int a) (.int b) (decide (a ≠ b)) := by
  rintro A s E _ _ _ _ ha g ⟨⟨t, rfl⟩, _⟩ ⟨⟨u, rfl⟩, _⟩
  refine PyProof.Rows.ne_int ⟨?_, Kp.refl s⟩
  congr 1
  by_cases h : a = b <;> simp [h]
theorem cmp_seq {a b : Str} : CmpOk X n .Eq (.str a) (.str b) (decide (a = b)) := by
  rintro A s E _ _ _ _ ha g ⟨⟨t, rfl⟩, _⟩ ⟨⟨u, rfl⟩, _⟩; exact PyProof.Rows.eq_str ⟨by congr 1, Kp.refl s⟩
theorem cmp_sne {a b : Str} : CmpOk X n .NotEq (.str a) (.str b) (decide (a ≠ b)) := by
  rintro A s E _ _ _ _ ha g ⟨⟨t, rfl⟩, _⟩ ⟨⟨u, rfl⟩, _⟩
  refine PyProof.Rows.ne_str ⟨?_, Kp.refl s⟩
  congr 1
  by_cases h : a = b <;> simp [h]

theorem ev_cmp {l r : Expr} {op : CmpOp} {pos : Pos} {d1 d2 : D} {b : Bool} (hl : Ev X n env σ l d1) (hr : Ev X n env σ r d2) (ho : CmpOk X n op d1 d2 b) (hm : behindInMarks op r = false) : EvF X n env σ (.Compare l [op] [r] pos) (.bool b) := fun A s E a g rel => by
  refine wpAny_Compare1 (wpAny_mono (hl A s E a g rel) (fun v1 s1 h1 => ?_) fun _ _ x => x) hm
  obtain ⟨k1, fp1, r1⟩ := h1
  refine wpAny_mono (hr A s1 E a (g.kp k1) (rel.kp k1)) (fun v2 s2 h2 => ?_) fun _ _ x => x
  obtain ⟨k2, fp2, r2⟩ := h2
  refine wpAny_mono (ho A s2 E v1 v2 fp1 fp2 a (g.kp (k1.trans k2)) (r1.keeps k2.keep) r2) (fun v s3 h3 => ?_) fun _ _ x => x
  obtain ⟨rfl, k3⟩ := h3
  exact PostF.bool ((k1.trans k2).trans k3)
theorem cn_cmp {l r : Expr} {op : CmpOp} {pos : Pos} {d1 d2 : D} {b : Bool} (hl : Ev X n env σ l d1) (hr : Ev X n env σ r d2) (ho : CmpOk X n op d1 d2 b) (hm : behindInMarks op r = false) : Cn X n env σ (.Compare l [op] [r] pos) b := fun A s E a g rel => by
  refine wpAny_isTrue_Compare1 (wpAny_mono (hl A s E a g rel) (fun v1 s1 h1 => ?_) fun _ _ x => x) hm
  obtain ⟨k1, fp1, r1⟩ := h1
  refine wpAny_mono (hr A s1 E a (g.kp k1) (rel.kp k1)) (fun v2 s2 h2 => ?_) fun _ _ x => x
  obtain ⟨k2, fp2, r2⟩ := h2
  refine wpAny_mono (ho A s2 E v1 v2 fp1 fp2 a (g.kp (k1.trans k2)) (r1.keeps k2.keep) r2) (fun v s3 h3 => ?_) fun _ _ x => x
  obtain ⟨rfl, k3⟩ := h3
  exact wpAny_truthy_bool ⟨rfl, (k1.trans k2).trans k3⟩
theorem cn_not {e : Expr} {pos : Pos} {b : Bool} (h : Cn X n env σ e b) : Cn X n env σ (.UnaryOp .Not e pos) (!b) := fun A s E a g rel =>
  wpAny_isTrue_Not (wpAny_mono (h A s E a g rel) (fun v s1 h1 => ⟨by rw [h1.1], h1.2⟩) fun _ _ x => x)
theorem cn_or {e1 e2 : Expr} {pos : Pos} {b1 b2 : Bool} (h1 : Cn X n env σ e1 b1) (h2 : b1 = false → Cn X n env σ e2 b2) : Cn X n env σ (.BoolOp .Or [e1, e2] pos) (b1 || b2) := fun A s E a g rel => by
  refine wpAny_isTrue_BoolOp (wpAny_allTrue_Or_cons (wpAny_mono (h1 A s E a g rel) (fun v s1 q1 => ?_) fun _ _ x => x))
  obtain ⟨rfl, k1⟩ := q1
  cases hb : v with
  | true => exact ⟨rfl, k1⟩
  | false =>
    simp only [Bool.false_eq_true, if_false]
    refine wpAny_allTrue_Or_cons (wpAny_mono (h2 hb A s1 E a (g.kp k1) (rel.kp k1)) (fun v2 s2 q2 => ?_) fun _ _ x => x)
    obtain ⟨rfl, k2⟩ := q2
    cases v2 with
    | true => exact ⟨rfl, k1.trans k2⟩
    | false => exact wpAny_allTrue_Or_nil ⟨rfl, k1.trans k2⟩
theorem cn_value {e : Expr} {b : Bool} (h : Ev X n env σ e (.bool b)) (he : ∀ whole, isTrue e env whole = (do let v ← whole; standAt e.pos; holding [v] (truthy v))) : Cn X n env σ e b := fun A s E a g rel => by
  refine wpAny_isTrue_value (wpAny_mono (h A s E a g rel) (fun v s1 h1 => ?_) fun _ _ x => x) (he _)
  obtain ⟨k1, fp, rfl, _⟩ := h1
  exact wpAny_truthy_bool ⟨rfl, k1⟩
end ops
end W40
end
section
open PySem PySem.W PyProof.Rows
set_option Elab.async false
set_option maxRecDepth 20000
set_option linter.unusedVariables false
namespace W40
open PySem PySem.W PyProof.Rows PySem.Calls
variable {X : Cx} {n : Nat} {env : Env} {σ : List (Str × D)}

inductive RepL (C : Addr) (h : Heap) : List Value → List D → Prop
  | nil : RepL C h [] []
  | cons {v d fp vs ds} : Rep C h v d fp → RepL C h vs ds → RepL C h (v :: vs) (d :: ds)
theorem RepL.keeps {C : Addr} {h h' : Heap} {vs ds} (x : RepL C h vs ds) (hk : ∀ b o, h.get? b = some o → h'.get? b = some o) : RepL C h' vs ds := by
  induction x with
  | nil => exact .nil
  | cons r _ ih => exact .cons (r.keeps hk) ih

/-- a row of expressions, read from the left -/
def Evs (X : Cx) (n : Nat) (env : Env) (σ : List (Str × D)) (es : List Expr) (ds : List D) : Prop :=
  ∀ pos A s E, AOk n A → Gl X s → RelR X env s σ → wpAny (model X.prog X.w) A (spliced (backTo pos (starEach es env))) (fun vs s' => Kp s s' ∧ RepL X.C s'.heap vs ds) E s
theorem evs_nil : Evs X n env σ [] [] := fun _ _ s _ _ _ _ => wpAny_items_nil ⟨Kp.refl s, .nil⟩
theorem evs_cons {e : Expr} {es : List Expr} {d : D} {ds : List D} (he : Ev X n env σ e d) (hs : Evs X n env σ es ds) (hx : starEach (e :: es) env = (false, eval e env) :: starEach es env := by rfl) : Evs X n env σ (e :: es) (d :: ds) :=
  fun pos A s E a g r => wpAny_items_cons (wpAny_mono (he A s E a g r) (fun v s1 ⟨k1, fp, h1⟩ =>
    wpAny_mono (hs pos A s1 E a (g.kp k1) (r.kp k1)) (fun vs s2 ⟨k2, h2⟩ => ⟨k1.trans k2, .cons (h1.keeps k2.keep) h2⟩) fun _ _ x => x) fun _ _ x => x) hx

theorem starAll {es : List Expr} {ds : List D} {pos : Pos} (h : (backTo pos (starEach es env)).any (·.1) = false) : (backTo pos (starEach es env)).any (·.1) = false := h

/-- the arguments of a call, at least one -/
theorem args_of {f : Value} {e : Expr} {es : List Expr} {ds : List D} {pos : Pos} {A : Around} {s : Shared} {E : Value → Shared → Prop} {Q : Args → Shared → Prop}
    (h : Evs X n env σ (e :: es) ds) (a : AOk n A) (g : Gl X s) (r : RelR X env s σ) (hx : starEach (e :: es) env = (false, eval e env) :: starEach es env)
    (q : ∀ vs s', Kp s s' → RepL X.C s'.heap vs ds → Q ⟨vs, []⟩ s') : wpAny (model X.prog X.w) A (evalArgs f true (backTo pos (starEach (e :: es) env)) []) Q E s := by
  have h' := h pos A s E a g r
  rw [hx] at h' ⊢
  exact evalArgs_plain (wpAny_mono h' (fun vs s' ⟨k, r⟩ => q vs s' k r) fun _ _ x => x)
theorem args_none {f : Value} {pos : Pos} {A : Around} {s : Shared} {E : Value → Shared → Prop} {Q : Args → Shared → Prop} (q : Q ⟨[], []⟩ s) : wpAny (model X.prog X.w) A (evalArgs f true (backTo pos (starEach [] env)) []) Q E s := PySem.evalArgs_none q

/-- a def of the text's: what it gives back -/
def FnOk (X : Cx) (n : Nat) (f : Addr) (ds : List D) (d : D) : Prop :=
  ∀ A s E vs, AOk n A → Gl X s → RepL X.C s.heap vs ds → wpAny (model X.prog X.w) A (call (.ref f) vs) (PostF X s d) E s
theorem FnOk.le {m : Nat} {f : Addr} {ds : List D} {d : D} (h : FnOk X m f ds d) (hm : m ≤ n) : FnOk X n f ds d := fun A s E vs a g r => h A s E vs (a.le hm) g r

def isFnAt (K : Frag) (f : Addr) : Prop := ∃ o fd, K.lookup f = some o ∧ o.data = .func fd

theorem ev_call {x : Str} {p pos : Pos} {f : Addr} {e : Expr} {es : List Expr} {ds : List D} {d : D} (ho : EnvOk env) (hg : GName X x (.ref f)) (hk : env.kindOf x = some .globalImplicit) (hd : (x == ("__debug__" : Str)) = false)
    (hf : isFnAt X.K f) (ha : Evs X n env σ (e :: es) ds) (hc : FnOk X n f ds d) (hx : starEach (e :: es) env = (false, eval e env) :: starEach es env := by rfl) : EvF X n env σ (.Call (.Name x p) (e :: es) [] pos) d := fun A s E a g r => by
  obtain ⟨o, fd, hl, hfd⟩ := hf
  refine wpAny_Call_NameR (name_glob ho g hg hk hd (callWith_function (o := o) (fd := fd) (args_of ha a g r hx fun vs s' k rv => ⟨⟨(g.kp k).kin _ _ hl, hfd⟩, ?_⟩)))
  exact wpAny_mono (hc A s' E vs a (g.kp k) rv) (fun v s2 h2 => h2.lift k) fun _ _ x => x

/-- a built-in function of one argument or more -/
def BlOk (X : Cx) (n : Nat) (id : String) (ds : List D) (d : D) : Prop :=
  ∀ A s E vs, AOk n A → Gl X s → RepL X.C s.heap vs ds → wpAny (model X.prog X.w) A (call (.builtin id) vs) (PostF X s d) E s
def TyOk (X : Cx) (n : Nat) (id : String) (ds : List D) (d : D) : Prop :=
  ∀ A s E vs, AOk n A → Gl X s → RepL X.C s.heap vs ds → wpAny (model X.prog X.w) A (call (.type id) vs) (PostF X s d) E s

theorem ev_blt {x : Str} {p pos : Pos} {id : String} {e : Expr} {es : List Expr} {ds : List D} {d : D} (ho : EnvOk env) (hg : BName X x (.builtin id)) (hk : env.kindOf x = some .globalImplicit) (hd : (x == ("__debug__" : Str)) = false)
    (ha : Evs X n env σ (e :: es) ds) (hc : BlOk X n id ds d) (hx : starEach (e :: es) env = (false, eval e env) :: starEach es env := by rfl) (hs : (backTo pos (starEach (e :: es) env)).any (·.1) = false := by rfl) : EvF X n env σ (.Call (.Name x p) (e :: es) [] pos) d := fun A s E a g r =>
  wpAny_Call_NameR (name_blt ho g hg hk hd (callWith_builtin hs (args_of ha a g r hx fun vs s' k rv => wpAny_mono (hc A s' E vs a (g.kp k) rv) (fun v s2 h2 => h2.lift k) fun _ _ x => x)))
theorem ev_typ {x : Str} {p pos : Pos} {id : String} {e : Expr} {es : List Expr} {ds : List D} {d : D} (ho : EnvOk env) (hg : BName X x (.type id)) (hk : env.kindOf x = some .globalImplicit) (hd : (x == ("__debug__" : Str)) = false)
    (ha : Evs X n env σ (e :: es) ds) (hc : TyOk X n id ds d) (hx : starEach (e :: es) env = (false, eval e env) :: starEach es env := by rfl) (hs : (backTo pos (starEach (e :: es) env)).any (·.1) = false := by rfl) : EvF X n env σ (.Call (.Name x p) (e :: es) [] pos) d := fun A s E a g r =>
  wpAny_Call_NameR (name_blt ho g hg hk hd (PySem.callWith_type hs (args_of ha a g r hx fun vs s' k rv => wpAny_mono (hc A s' E vs a (g.kp k) rv) (fun v s2 h2 => h2.lift k) fun _ _ x => x)))

theorem ints_size {vs : List Value} {l : List Int} (h : IntsAre vs l) : vs.toArray.size = l.length := by simp [h.length]
theorem strs_size {vs : List Value} {l : List Str} (h : StrsAre vs l) : vs.toArray.size = l.length := by simp [h.length]

theorem fit_of {n : Nat} (h : n ≤ sizeLine) : ((n : Nat) : Int) < 2 ^ 63 := by rw [sizeLine_eq] at h; omega

theorem bl_len_str {x : Str} (h : x.length ≤ sizeLine) : BlOk X n "len" [.str x] (.int x.length) := by
  rintro A s E _ a g (_ | ⟨⟨⟨t, rfl⟩, _⟩, (_ | _)⟩)
  exact P.len_str (by have := fit_of h; omega) (PostF.int (Kp.toks (by omega)))
theorem bl_len_ints {l : List Int} (h : l.length ≤ sizeLine) : BlOk X n "len" [.il l] (.int l.length) := by
  rintro A s E _ a g (_ | ⟨⟨b, vs, rfl, hl, hi, rfl⟩, (_ | _)⟩)
  have e := ints_size hi
  refine PyProof.Rows.len_list hl.isList (by rw [e]; exact fit_of h) ?_
  rw [e]; exact PostF.int (Kp.toks (by omega))
theorem bl_len_strs {l : List Str} (h : l.length ≤ sizeLine) : BlOk X n "len" [.sl l] (.int l.length) := by
  rintro A s E _ a g (_ | ⟨⟨b, vs, rfl, hl, hi, rfl⟩, (_ | _)⟩)
  have e := strs_size hi
  refine PyProof.Rows.len_list hl.isList (by rw [e]; exact fit_of h) ?_
  rw [e]; exact PostF.int (Kp.toks (by omega))

theorem preSum_take (l : List Int) : ∀ k, k ≤ l.length → preSum (fun i => l.getD i 0) k = (l.take k).sum
  | 0, _ => rfl
  | k + 1, h => by
    have hk : k < l.length := h
    rw [preSum, preSum_take l k (by omega), List.take_add_one, List.getElem?_eq_getElem hk, Option.toList_some, List.sum_append]
    simp [List.getD_eq_getElem?_getD, hk]

theorem bl_sum {l : List Int} : BlOk X n "sum" [.il l] (.int l.sum) := by
  rintro A s E _ a g (_ | ⟨⟨b, vs, rfl, hl, hi, rfl⟩, (_ | _)⟩)
  refine tok_up (call_sum_walkAnyS (wpAny_pyIter_list hl.isList ?_))
  have hb : b < s.heap.objs.size := (plt hl)
  have hne : b ≠ s.heap.objs.size := Nat.ne_of_lt hb
  have W := (Walks.list (prog := X.prog) (w := X.w) (A := A.in1) a.hand s.heap.objs.size b hne vs.toArray).toS
  have e := ints_size hi
  rw [e] at W
  refine ⟨_, _, _, _, _, _, _, fun i => l.getD i 0, rfl, W, ⟨⟨_, Heap.get?_push_size _ rfl, rfl, rfl⟩, hl.isList.at fun o q => Heap.get?_push_of_some _ q⟩, ?_, ?_, ?_⟩
  · intro c hc
    show c < (s.heap.push _).objs.size
    rw [Heap.size_push]
    rcases List.mem_cons.mp hc with q | hc
    · rw [q]; exact Nat.lt_succ_self _
    · rw [List.mem_singleton.mp hc]; exact Nat.lt_succ_of_lt hb
  · intro i v hv
    obtain ⟨m, t, rfl, hm⟩ := hi.at i v (by simpa using hv)
    exact ⟨t, by show Value.int m t = Value.int (l.getD i 0) t; rw [List.getD_eq_getElem?_getD, hm]; rfl⟩
  · intro s' t' M ht
    rw [preSum_take l l.length (Nat.le_refl _), List.take_length]
    refine PostF.int ⟨⟨s'.heap, s'.toks, ?_⟩, fun c o q => M.heap c o (fun hm => ?_) (Heap.get?_push_of_some _ q), ht⟩
    · have h1 := M.gens; have h2 := M.drawn; have h3 := M.os
      cases s'; simp only at h1 h2 h3 ⊢; rw [h1, h2, h3]
    · rw [List.mem_singleton.mp hm] at q
      exact Nat.lt_irrefl _ (Heap.lt_size q)

theorem argBest_lt (bt : Nat → Nat → Bool) : ∀ k, argBest bt k ≤ k
  | 0 => Nat.le_refl _
  | k + 1 => by
    unfold argBest
    split
    · exact Nat.le_refl _
    · exact Nat.le_succ_of_le (argBest_lt bt k)
theorem argBest_max (l : List Int) : ∀ k, k < l.length → ∀ j, j ≤ k → l.getD j 0 ≤ l.getD (argBest (fun i j => decide (l.getD j 0 < l.getD i 0)) k) 0
  | 0, _, j, hj => by rw [Nat.le_zero.mp hj]; exact Int.le_refl _
  | k + 1, hk, j, hj => by
    have ih := argBest_max l k (by omega)
    unfold argBest
    split
    · rename_i h
      have h := of_decide_eq_true h
      rcases Nat.lt_or_eq_of_le hj with q | q
      · exact Int.le_trans (ih j (by omega)) (Int.le_of_lt h)
      · rw [q]; exact Int.le_refl _
    · rename_i h
      have h : ¬ _ := fun q => h (decide_eq_true q)
      rcases Nat.lt_or_eq_of_le hj with q | q
      · exact ih j (by omega)
      · rw [q]; omega

theorem bl_max {l : List Int} {m : Int} (hm : m ∈ l) (hle : ∀ x ∈ l, x ≤ m) : BlOk X n "max" [.il l] (.int m) := by
  rintro A s E _ a g (_ | ⟨⟨b, vs, rfl, hl, hi, rfl⟩, (_ | _)⟩)
  refine tok_up (call_max_walk (wpAny_pyIter_list hl.isList ?_))
  have hb : b < s.heap.objs.size := (plt hl)
  have hne : b ≠ s.heap.objs.size := Nat.ne_of_lt hb
  have W := (Walks.list (prog := X.prog) (w := X.w) (A := A.in1) a.hand s.heap.objs.size b hne vs.toArray)
  have e := ints_size hi
  rw [e] at W
  have hpos : 0 < l.length := List.length_pos_of_mem hm
  refine ⟨_, _, _, _, _, _, fun i j => decide (l.getD j 0 < l.getD i 0), rfl, W, ⟨⟨_, Heap.get?_push_size _ rfl, rfl, rfl⟩, hl.isList.at fun o q => Heap.get?_push_of_some _ q⟩, ?_, hpos, ?_, ?_⟩
  · intro c hc
    show c < (s.heap.push _).objs.size
    rw [Heap.size_push]
    rcases List.mem_cons.mp hc with q | hc
    · rw [q]; exact Nat.lt_succ_self _
    · rw [List.mem_singleton.mp hc]; exact Nat.lt_succ_of_lt hb
  · intro i j vi vj s Q E hvi hvj hQ
    obtain ⟨p, t, rfl, hp⟩ := hi.at i vi (by simpa using hvi)
    obtain ⟨q, u, rfl, hq⟩ := hi.at j vj (by simpa using hvj)
    have hQ : Q (Value.bool (decide (l.getD j 0 < l.getD i 0))) s := hQ
    rw [List.getD_eq_getElem?_getD, List.getD_eq_getElem?_getD, hp, hq] at hQ
    exact PyProof.Rows.gt_int hQ
  · intro v h' tk hv hk ht
    have h3 := argBest_max l (l.length - 1) (by omega)
    generalize argBest (fun i j => decide (l.getD j 0 < l.getD i 0)) (l.length - 1) = k at h3 hv
    obtain ⟨p, t, rfl, hp⟩ := hi.at k v (by simpa using hv)
    have hpm : p = m := by
      have h1 : p ∈ l := List.mem_of_getElem? hp
      have h2 := hle p h1
      obtain ⟨j, hj, rfl⟩ := List.getElem_of_mem hm
      have h3 := h3 j (by omega)
      rw [List.getD_eq_getElem?_getD, List.getD_eq_getElem?_getD, hp] at h3
      simp only [List.getElem?_eq_getElem hj, Option.getD_some] at h3
      omega
    subst hpm
    refine PostF.int ⟨⟨_, _, rfl⟩, fun c o q => hk c o (fun hm => ?_) (Heap.get?_push_of_some _ q), ht⟩
    rw [List.mem_singleton.mp hm] at q
    exact Nat.lt_irrefl _ (Heap.lt_size q)
end W40
end
section
open PySem PySem.W PyProof.Rows
set_option Elab.async false
set_option maxRecDepth 20000
set_option linter.unusedVariables false
namespace W40
open PySem PySem.W PyProof.Rows PySem.Calls
variable {X : Cx} {n : Nat} {env : Env} {σ : List (Str × D)}

/-- an item read -/
def GetOk (X : Cx) (n : Nat) (d1 d2 d : D) : Prop :=
  ∀ A s E v1 v2 fp1 fp2, AOk n A → Gl X s → Rep X.C s.heap v1 d1 fp1 → Rep X.C s.heap v2 d2 fp2 →
    (∃ T id, s.TypeIs v1 T ∧ typeLookup (.type T) "__getitem__" = pure (some (.builtin id))) ∧ wpAny (model X.prog X.w) A (getItem v1 v2) (PostF X s d) E s
theorem ev_sub {value slice : Expr} {pos : Pos} {d1 d2 d : D} (h1 : Ev X n env σ value d1) (h2 : Ev X n env σ slice d2) (hg : GetOk X n d1 d2 d)
    (hs : ∀ o i, subscripted slice false o i = operate [o, i] (getItem o i)) : EvF X n env σ (.Subscript value slice pos) d := fun A s E a g r => by
  refine Subscript_ (wpAny_mono (h1 A s E a g r) (fun v1 s1 ⟨k1, fp1, r1⟩ => wpAny_mono (h2 A s1 E a (g.kp k1) (r.kp k1)) (fun v2 s2 ⟨k2, fp2, r2⟩ => ?_) fun _ _ x => x) fun _ _ x => x)
  obtain ⟨⟨T, id, hT, hl⟩, hw⟩ := hg A s2 E v1 v2 fp1 fp2 a (g.kp (k1.trans k2)) (r1.keeps k2.keep) r2
  exact tail_any hT hl (wpAny_mono hw (fun v s3 h3 => h3.lift (k1.trans k2)) fun _ _ x => x) (hs v1 v2)

theorem pl_type {s : Shared} {a : Addr} {its : Array Value} (h : s.heap.PlainList a its) : s.TypeIs (.ref a) "list" := h.isList.typeIs

theorem get_ints {l : List Int} {k i : Int} (h0 : 0 ≤ k) (hf : k < 2 ^ 63) (hx : l[k.toNat]? = some i) : GetOk X n (.il l) (.int k) (.int i) := by
  rintro A s E _ _ _ _ a g ⟨b, vs, rfl, hl, hi, rfl⟩ ⟨⟨t, rfl⟩, _⟩
  obtain ⟨u, hu⟩ := hi.get _ _ hx
  exact ⟨⟨_, _, pl_type hl, slot_list_getitem.lookup⟩, wpAny_getItem_list hl.isList h0 hf (by simpa using hu) (PostF.int (Kp.refl s))⟩
theorem get_strs {l : List Str} {k : Int} {x : Str} (h0 : 0 ≤ k) (hf : k < 2 ^ 63) (hx : l[k.toNat]? = some x) : GetOk X n (.sl l) (.int k) (.str x) := by
  rintro A s E _ _ _ _ a g ⟨b, vs, rfl, hl, hi, rfl⟩ ⟨⟨t, rfl⟩, _⟩
  obtain ⟨u, hu⟩ := hi.get _ _ hx
  exact ⟨⟨_, _, pl_type hl, slot_list_getitem.lookup⟩, wpAny_getItem_list hl.isList h0 hf (by simpa using hu) (PostF.str (Kp.refl s))⟩
theorem get_ints_last {l : List Int} {i : Int} (hx : l.getLast? = some i) : GetOk X n (.il l) (.int (-1)) (.int i) := by
  rintro A s E _ _ _ _ a g ⟨b, vs, rfl, hl, hi, rfl⟩ ⟨⟨t, rfl⟩, _⟩
  rw [List.getLast?_eq_getElem?] at hx
  obtain ⟨u, hu⟩ := hi.get _ _ hx
  have hpos : 0 < l.length := by cases l with | nil => simp at hx | cons _ _ => simp
  have e := ints_size hi
  refine ⟨⟨_, _, pl_type hl, slot_list_getitem.lookup⟩, wpAny_getItem_list_neg hl.isList (by decide) (by rw [e]; omega) (by decide) (x := .int i u) ?_ (PostF.int (Kp.refl s))⟩
  rw [e]
  have : ((-1 : Int) + (l.length : Int)).toNat = l.length - 1 := by omega
  rw [this]; simpa using hu
theorem get_strs_last {l : List Str} {x : Str} (hx : l.getLast? = some x) : GetOk X n (.sl l) (.int (-1)) (.str x) := by
  rintro A s E _ _ _ _ a g ⟨b, vs, rfl, hl, hi, rfl⟩ ⟨⟨t, rfl⟩, _⟩
  rw [List.getLast?_eq_getElem?] at hx
  obtain ⟨u, hu⟩ := hi.get _ _ hx
  have hpos : 0 < l.length := by cases l with | nil => simp at hx | cons _ _ => simp
  have e := strs_size hi
  refine ⟨⟨_, _, pl_type hl, slot_list_getitem.lookup⟩, wpAny_getItem_list_neg hl.isList (by decide) (by rw [e]; omega) (by decide) (x := .str x u) ?_ (PostF.str (Kp.refl s))⟩
  rw [e]
  have : ((-1 : Int) + (l.length : Int)).toNat = l.length - 1 := by omega
  rw [this]; simpa using hu
theorem get_str {x : Str} {k : Int} {c : Nat} (h0 : 0 ≤ k) (hf : k < 2 ^ 63) (hx : x.cps[k.toNat]? = some c) : GetOk X n (.str x) (.int k) (.str ⟨#[c]⟩) := by
  rintro A s E _ _ _ _ a g ⟨⟨t, rfl⟩, _⟩ ⟨⟨u, rfl⟩, _⟩
  refine ⟨⟨"str", _, rfl, PyProof.Rows.slot_str_getitem.lookup⟩, PyProof.Rows.getItem_str (by simp; omega) ?_ (PostF.str (Kp.tok1 s))⟩
  have hlt : k.toNat < x.length := by
    obtain ⟨h, _⟩ := Array.getElem?_eq_some_iff.mp hx; exact h
  exact StrLaws.at_nonneg h0 hx

theorem ev_neg {e : Expr} {pos : Pos} {i : Int} (h : Ev X n env σ e (.int i)) : EvF X n env σ (.UnaryOp .USub e pos) (.int (-i)) := fun A s E a g r =>
  wpAny_UnaryOp (wpAny_mono (h A s E a g r) (fun v s1 ⟨k1, fp, ⟨t, hv⟩, _⟩ => by subst hv; exact PyProof.Rows.neg_int (PostF.int (k1.trans (Kp.tok1 s1)))) fun _ _ x => x)

theorem slice_post {x : Str} {t : Tok} {l u : Option (Int × Tok)} {Q : Value → Shared → Prop} {s : Shared} (hz : x.length ≤ sizeLine) (h : ∀ t' k, Q (.str (Txt.slice x (l.map (·.1)) (u.map (·.1))) t') { s with toks := k }) : (sliceMade x t l u none).post Q s := by
  exact post_val_or_str ⟨Nat.le_trans (Txt.slice_le x _ _) hz, h⟩

abbrev S (l : List Nat) : Str := ⟨l.toArray⟩
theorem S_len (l : List Nat) : (S l).length = l.length := by simp [Str.length]
theorem S_cat (a b : List Nat) : S a ++ S b = S (a ++ b) := by
  show (⟨a.toArray ++ b.toArray⟩ : Str) = _
  simp
theorem S_eta (x : Str) : S x.cps.toList = x := by simp
theorem S_inj {a b : List Nat} : S a = S b ↔ a = b := by
  constructor
  · intro h; have := congrArg (fun x : Str => x.cps.toList) h; simpa using this
  · intro h; rw [h]

theorem slice_to {l : List Nat} {j : Int} (h0 : 0 ≤ j) (hj : j ≤ l.length) : Txt.slice (S l) none (some j) = S (l.take j.toNat) := by
  have := StrLaws.sliceText_to (x := S l) (j := j) ⟨h0, by simpa using hj⟩
  refine Eq.trans this ?_
  simp
theorem slice_mid {l : List Nat} {i j : Int} (h0 : 0 ≤ i) (hij : i ≤ j) (hj : j ≤ l.length) : Txt.slice (S l) (some i) (some j) = S ((l.drop i.toNat).take (j - i).toNat) := by
  have := StrLaws.sliceText_plain (x := S l) (i := i) (j := j) ⟨h0, hij, by simpa using hj⟩
  exact this

theorem Kp.pushT {s s2 : Shared} (k : Kp s s2) (o : Obj) {t : Nat} (ht : s.toks ≤ t) : Kp s { s2 with heap := s2.heap.push o, toks := t } := by
  obtain ⟨h, tk, rfl⟩ := k.same
  exact ⟨⟨_, _, rfl⟩, fun b o e => Heap.get?_push_of_some _ (k.keep b o e), ht⟩

/-- x[:j] -/
theorem ev_upto {value u : Expr} {p pos : Pos} {l : List Nat} {j : Int} (h1 : Ev X n env σ value (.str (S l))) (h2 : Ev X n env σ u (.int j)) (h0 : 0 ≤ j) (hj : j ≤ l.length) (hz : l.length ≤ sizeLine) : EvF X n env σ (.Subscript value (.Slice none (some u) none p) pos) (.str (S (l.take j.toNat))) := fun A s E a g r => by
  refine tok_up (Subscript_ (wpAny_mono (h1 A s E a g r) (fun v1 s1 ⟨k1, fp1, ⟨t, hv1⟩, _⟩ => wpAny_Slice ?_) fun _ _ x => x))
  subst hv1
  rw [evalPart_none]
  refine wpAny_pure ?_
  refine wpAny_mono (h2 A s1 E a (g.kp k1) (r.kp k1)) (fun v2 s2 ⟨k2, fp2, ⟨t2, hv2⟩, _⟩ => ?_) fun _ _ x => x
  subst hv2
  refine wpAny_pure (tail_any (T := "str") (typeIs_str _ _ t) F.slot_str_getitem.lookup (wpAny_getItem_str_slice (l := none) (u := some (j, t2)) (st := none) ⟨_, Heap.get?_push_size _ rfl, rfl, rfl⟩ rfl ?_) rfl)
  refine slice_post (by rw [S_len]; exact hz) fun t' k ht => ?_
  rw [show Txt.slice (S l) (Option.map (·.1) (none : Option (Int × Tok))) (Option.map (·.1) (some (j, t2))) = S (l.take j.toNat) from slice_to h0 hj]
  exact PostF.str ((k1.trans k2).pushT _ ht)
/-- x[i:j] -/
theorem ev_cut {value o u : Expr} {p pos : Pos} {l : List Nat} {i j : Int} (h1 : Ev X n env σ value (.str (S l))) (h2 : Ev X n env σ o (.int i)) (h3 : Ev X n env σ u (.int j)) (h0 : 0 ≤ i) (hij : i ≤ j) (hj : j ≤ l.length) (hz : l.length ≤ sizeLine) : EvF X n env σ (.Subscript value (.Slice (some o) (some u) none p) pos) (.str (S ((l.drop i.toNat).take (j - i).toNat))) := fun A s E a g r => by
  refine tok_up (Subscript_ (wpAny_mono (h1 A s E a g r) (fun v1 s1 ⟨k1, fp1, ⟨t, hv1⟩, _⟩ => wpAny_Slice ?_) fun _ _ x => x))
  subst hv1
  refine wpAny_mono (h2 A s1 E a (g.kp k1) (r.kp k1)) (fun v2 s2 ⟨k2, fp2, ⟨t2, hv2⟩, _⟩ => ?_) fun _ _ x => x
  subst hv2
  have k12 := k1.trans k2
  refine wpAny_mono (h3 A s2 E a (g.kp k12) (r.kp k12)) (fun v3 s3 ⟨k3, fp3, ⟨t3, hv3⟩, _⟩ => ?_) fun _ _ x => x
  subst hv3
  rw [evalPart_none]
  refine wpAny_pure (tail_any (T := "str") (typeIs_str _ _ t) F.slot_str_getitem.lookup (wpAny_getItem_str_slice (l := some (i, t2)) (u := some (j, t3)) (st := none) ⟨_, Heap.get?_push_size _ rfl, rfl, rfl⟩ rfl ?_) rfl)
  refine slice_post (by rw [S_len]; exact hz) fun t' k ht => ?_
  rw [show Txt.slice (S l) (Option.map (·.1) (some (i, t2))) (Option.map (·.1) (some (j, t3))) = S ((l.drop i.toNat).take (j - i).toNat) from slice_mid h0 hij hj]
  exact PostF.str ((k12.trans k3).pushT _ ht)

theorem RepL.ints {C : Addr} {h : Heap} : ∀ {vs : List Value} {l : List Int}, RepL C h vs (l.map .int) → IntsAre vs l
  | _, [], .nil => .nil
  | _, i :: l, .cons ⟨⟨t, e⟩, _⟩ r => by subst e; exact .cons i t r.ints
theorem RepL.strs {C : Addr} {h : Heap} : ∀ {vs : List Value} {l : List Str}, RepL C h vs (l.map .str) → StrsAre vs l
  | _, [], .nil => .nil
  | _, i :: l, .cons ⟨⟨t, e⟩, _⟩ r => by subst e; exact .cons i t r.strs
theorem RepL.length {C : Addr} {h : Heap} {vs ds} (x : RepL C h vs ds) : vs.length = ds.length := by
  induction x with | nil => rfl | cons _ _ ih => simp [ih]

theorem pl_push (h : Heap) (vs : List Value) : (h.push { cls := .type "list", data := .seq vs.toArray }).PlainList h.objs.size vs.toArray := ⟨0, Heap.get?_push_size _ rfl⟩
theorem none_at_size (h : Heap) : h.get? h.objs.size = none := Heap.get?_none_of_le (Nat.le_refl _)

theorem PostF.ints {s s2 : Shared} {l : List Int} {vs : List Value} (k : Kp s s2) (hi : IntsAre vs l) : PostF X s (.il l) (.ref s2.heap.objs.size) { s2 with heap := s2.heap.push { cls := .type "list", data := .seq vs.toArray } } :=
  ⟨k.trans (Kp.push _ _), [s2.heap.objs.size], ⟨_, vs, rfl, pl_push _ _, hi, rfl⟩, fun b hb => by rw [List.mem_singleton.mp hb]; exact k.fresh (none_at_size _)⟩
theorem PostF.strs {s s2 : Shared} {l : List Str} {vs : List Value} (k : Kp s s2) (hi : StrsAre vs l) : PostF X s (.sl l) (.ref s2.heap.objs.size) { s2 with heap := s2.heap.push { cls := .type "list", data := .seq vs.toArray } } :=
  ⟨k.trans (Kp.push _ _), [s2.heap.objs.size], ⟨_, vs, rfl, pl_push _ _, hi, rfl⟩, fun b hb => by rw [List.mem_singleton.mp hb]; exact k.fresh (none_at_size _)⟩

theorem ev_list_ints {es : List Expr} {pos : Pos} {l : List Int} (h : Evs X n env σ es (l.map .int)) (hz : l.length ≤ sizeLine) : EvF X n env σ (.List es pos) (.il l) := fun A s E a g r =>
  wpAny_List (wpAny_mono (h pos A s E a g r) (fun vs s1 ⟨k, rv⟩ => ⟨by rw [rv.length, List.length_map]; exact hz, PostF.ints k rv.ints⟩) fun _ _ x => x)
theorem ev_list_strs {es : List Expr} {pos : Pos} {l : List Str} (h : Evs X n env σ es (l.map .str)) (hz : l.length ≤ sizeLine) : EvF X n env σ (.List es pos) (.sl l) := fun A s E a g r =>
  wpAny_List (wpAny_mono (h pos A s E a g r) (fun vs s1 ⟨k, rv⟩ => ⟨by rw [rv.length, List.length_map]; exact hz, PostF.strs k rv.strs⟩) fun _ _ x => x)
theorem ev_list_nil_pl {pos : Pos} : EvF X n env σ (.List [] pos) (.pl []) := fun A s E a g r =>
  wpAny_List (wpAny_items_nil ⟨Nat.zero_le _, Kp.push _ _, [s.heap.objs.size], ⟨_, [], [], rfl, pl_push _ _, .nil, rfl⟩, fun b hb => by rw [List.mem_singleton.mp hb]; exact none_at_size _⟩)

theorem tup_push (h : Heap) (vs : List Value) : (h.push { cls := .type "tuple", data := .seq vs.toArray }).IsTuple h.objs.size vs.toArray := ⟨_, Heap.get?_push_size _ rfl, rfl, _, rfl⟩
theorem ev_tup_ii {e1 e2 : Expr} {k : Nat} {pos : Pos} {i j : Int} (h : Evs X n env σ [e1, e2] [.int i, .int j]) : EvF X n env σ (.Tuple [e1, e2] k pos) (.ip (i, j)) := fun A s E a g r => by
  refine wpAny_Tuple (wpAny_mono (h pos A s E a g r) (fun vs s1 ⟨k, rv⟩ => ?_) fun _ _ x => x)
  rcases rv with _ | ⟨⟨⟨t, rfl⟩, _⟩, _ | ⟨⟨⟨u, rfl⟩, _⟩, _ | _⟩⟩
  refine ⟨by show 2 ≤ sizeLine; decide, k.trans (Kp.push _ _), [s1.heap.objs.size], ⟨_, ⟨rfl, t, u, tup_push _ _⟩, rfl⟩, fun b hb => by rw [List.mem_singleton.mp hb]; exact k.fresh (none_at_size _)⟩
theorem ev_tup_si {e1 e2 : Expr} {k : Nat} {pos : Pos} {i : Str} {j : Int} (h : Evs X n env σ [e1, e2] [.str i, .int j]) : EvF X n env σ (.Tuple [e1, e2] k pos) (.sp (i, j)) := fun A s E a g r => by
  refine wpAny_Tuple (wpAny_mono (h pos A s E a g r) (fun vs s1 ⟨k, rv⟩ => ?_) fun _ _ x => x)
  rcases rv with _ | ⟨⟨⟨t, rfl⟩, _⟩, _ | ⟨⟨⟨u, rfl⟩, _⟩, _ | _⟩⟩
  refine ⟨by show 2 ≤ sizeLine; decide, k.trans (Kp.push _ _), [s1.heap.objs.size], ⟨_, ⟨rfl, t, u, tup_push _ _⟩, rfl⟩, fun b hb => by rw [List.mem_singleton.mp hb]; exact k.fresh (none_at_size _)⟩
theorem RepL.sps {C : Addr} {h : Heap} : ∀ {vs : List Value} {l : List (Str × Int)}, RepL C h vs (l.map .sp) → ∃ bs, SPs h vs l bs
  | _, [], .nil => ⟨[], .nil⟩
  | _, i :: l, .cons ⟨b, hi, _⟩ r => let ⟨bs, hr⟩ := r.sps; ⟨b :: bs, .cons hi hr⟩
/-- a list of tuples: read alone (not fresh as a whole) -/
theorem ev_list_sps {es : List Expr} {pos : Pos} {l : List (Str × Int)} (h : Evs X n env σ es (l.map .sp)) (hz : l.length ≤ sizeLine) : Ev X n env σ (.List es pos) (.tl l) := fun A s E a g r =>
  wpAny_List (wpAny_mono (h pos A s E a g r) (fun vs s1 ⟨k, rv⟩ => by
    obtain ⟨bs, hb⟩ := rv.sps
    exact ⟨by rw [rv.length, List.length_map]; exact hz, k.trans (Kp.push _ _), _, _, vs, bs, rfl, pl_push _ _, hb.at fun b hb o e => Heap.get?_push_of_some _ e, rfl⟩) fun _ _ x => x)

theorem op_add_strs {a b : List Str} (hz : a.length + b.length ≤ sizeLine) : OpOk X n .Add (.sl a) (.sl b) (.sl (a ++ b)) := by
  rintro A s E _ _ _ _ ha g ⟨c, vs, rfl, ⟨k, hl⟩, hi, rfl⟩ ⟨c', vs', rfl, ⟨k', hl'⟩, hi', rfl⟩
  refine P.add_list hl hl' ?_ (by rw [strs_size hi, strs_size hi']; exact hz)
  rw [List.append_toArray]
  exact PostF.strs (Kp.refl s) (hi.append' hi')

theorem rep_zero (k : Nat) (t : Tok) : IntsAre (List.replicate k (Value.int 0 t)) (List.replicate k 0) := by
  induction k with
  | zero => exact .nil
  | succ k ih => exact .cons _ _ ih
theorem foldl_rep (v : Value) : ∀ (k : Nat) (acc : List Value), List.foldl (fun x1 x2 => x1 ++ x2) acc.toArray (List.replicate k #[v]) = (acc ++ List.replicate k v).toArray
  | 0, acc => by simp
  | k + 1, acc => by
    have h := foldl_rep v k (acc ++ [v])
    rw [List.replicate_succ, List.foldl_cons]
    rw [show acc.toArray ++ #[v] = (acc ++ [v]).toArray by simp, h]
    simp [List.replicate_succ]
theorem mul_raw {prog : Program} {w : World} {A : Around} {E : Value → Shared → Prop} {s : Shared} {c : Addr} {items : Array Value} {q : Nat} {x : Int} {t : Tok} {Q : Value → Shared → Prop} (hl : IsL s.heap c items q) (hlo : -(2 ^ 63 : Int) ≤ x) (hhi : x < 2 ^ 63) (hsz : items.size * x.toNat ≤ 2 ^ 24)
    (h : Q (.ref s.heap.objs.size) { s with heap := s.heap.push { cls := .type "list", data := .seq (List.foldl (fun x1 x2 => x1 ++ x2) #[] (List.replicate (if items.isEmpty = true then 0 else x.toNat) items)) } }) : wpAny (model prog w) A (binaryOp .Mult (.ref c) (.int x t)) Q E s :=
  wpAny_binaryOp_repeat_ref (T := "list") (U := "int") (by decide) ⟨_, hl, rfl⟩ (fun s' => typeIs_int s' x t) noFill_list_mul F.fills_int_mul F.slot_int_rmul repeat_list F.slot_int_index.lookup
    (call_meets F.slot_int_rmul (typeIs_int s x t) F.entry_int_rmul (F.args_int_rmul_2 _ _) (int___rmul___int_list x t c items q)
      ⟨hl, rfl, ⟨_, hl, rfl⟩, call_meets F.slot_list_mul ⟨_, hl, rfl⟩ F.entry_list_mul (F.args_list_mul_2 _ _)
        (AutoListH.list___mul___list_int_3 c items q x t (by unfold Builtin.List.listFitsIndex; simp; omega) (by omega) (by unfold Builtin.List.listTooLong; rw [sizeLine_eq]; simp; omega))
        ⟨hl, h⟩⟩)
/-- [0] * k -/
theorem op_zeros {k : Nat} (hz : k ≤ 16777216) : OpOk X n .Mult (.il [0]) (.int k) (.il (List.replicate k 0)) := by
  rintro A s E _ _ _ _ ha g ⟨c, vs, rfl, ⟨q, hl⟩, hi, rfl⟩ ⟨⟨t, rfl⟩, _⟩
  obtain ⟨u, vs', rfl, hn⟩ := hi.cons_inv
  have := hn.nil_inv; subst this
  have e : List.foldl (fun x1 x2 => x1 ++ x2) #[] (List.replicate (if ([Value.int 0 u].toArray).isEmpty = true then 0 else ((k : Nat) : Int).toNat) [Value.int 0 u].toArray) = (List.replicate k (Value.int 0 u)).toArray := by
    have := foldl_rep (Value.int 0 u) k []
    simpa using this
  refine mul_raw hl (by omega) (by omega) (by simp; omega) ?_
  rw [e]
  exact PostF.ints (Kp.refl s) (rep_zero k u)

/-- a op b op c, as a test -/
theorem cn_chain {l m r : Expr} {op op' : CmpOp} {pos : Pos} {d1 d2 d3 : D} {b b' : Bool} (hl : Ev X n env σ l d1) (hm : Ev X n env σ m d2) (hr : Ev X n env σ r d3) (ho : CmpOk X n op d1 d2 b) (ho' : CmpOk X n op' d2 d3 b') (hb : lastMarks [op, op'] [m, r] = false) : Cn X n env σ (.Compare l [op, op'] [m, r] pos) (b && b') := fun A s E a g rel => by
  refine isTrue_chain (wpAny_mono (hl A s E a g rel) (fun v1 s1 h1 => ?_) fun _ _ x => x) hb
  obtain ⟨k1, fp1, r1⟩ := h1
  refine test_link (wpAny_mono (hm A s1 E a (g.kp k1) (rel.kp k1)) (fun v2 s2 h2 => ?_) fun _ _ x => x)
  obtain ⟨k2, fp2, r2⟩ := h2
  refine wpAny_mono (ho A s2 E v1 v2 fp1 fp2 a (g.kp (k1.trans k2)) (r1.keeps k2.keep) r2) (fun v s3 h3 => ?_) fun _ _ x => x
  obtain ⟨rfl, k3⟩ := h3
  have k13 := (k1.trans k2).trans k3
  refine wpAny_truthy_bool ?_
  cases b with
  | false => exact ⟨rfl, k13⟩
  | true =>
    simp only [if_true, Bool.true_and]
    refine test_last (wpAny_mono (hr A s3 E a (g.kp k13) (rel.kp k13)) (fun v4 s4 h4 => ?_) fun _ _ x => x)
    obtain ⟨k4, fp4, r4⟩ := h4
    refine wpAny_mono (ho' A s4 E v2 v4 fp2 fp4 a (g.kp (k13.trans k4)) (r2.keeps (k3.trans k4).keep) r4) (fun v5 s5 h5 => ?_) fun _ _ x => x
    obtain ⟨rfl, k5⟩ := h5
    exact wpAny_truthy_bool ⟨rfl, (k13.trans k4).trans k5⟩

theorem cmp_ints_eq {a b : List Int} : CmpOk X n .Eq (.il a) (.il b) (decide (a = b)) := by
  rintro A s E _ _ _ _ ha g ⟨c, vs, rfl, hl, hi, rfl⟩ ⟨c', vs', rfl, hl', hi', rfl⟩
  exact eq_intsK hl.isList hi hl'.isList hi' (by have := ha.units; omega) ⟨rfl, Kp.refl s⟩
theorem cmp_ints_ne {a b : List Int} : CmpOk X n .NotEq (.il a) (.il b) (!decide (a = b)) := by
  rintro A s E _ _ _ _ ha g ⟨c, vs, rfl, hl, hi, rfl⟩ ⟨c', vs', rfl, hl', hi', rfl⟩
  exact ne_intsK hl.isList hi hl'.isList hi' (by have := ha.units; omega) ⟨rfl, Kp.refl s⟩
end W40
end
section
open PySem PySem.W PyProof.Rows
set_option Elab.async false
set_option maxRecDepth 20000
set_option linter.unusedVariables false
namespace W40
open PySem PySem.W PyProof.Rows PySem.Calls Builtin.Str
variable {X : Cx} {n : Nat} {env : Env} {σ : List (Str × D)}

/-- a method of a built-in type's -/
def MeOk (X : Cx) (n : Nat) (name : Str) (d0 : D) (ds : List D) (d : D) : Prop :=
  ∃ T id, PlainAttrs T ∧ Slot T name id ∧ typeOf (.builtin id) = pure (.type "method_descriptor") ∧
    (∀ (s : Shared) v fp, Rep X.C s.heap v d0 fp → s.TypeIs v T ∧ ∀ a, v = .ref a → ∃ ob, s.heap.get? a = some ob ∧ ob.dict = none) ∧
    ∀ A s E v fp vs, AOk n A → Gl X s → Rep X.C s.heap v d0 fp → RepL X.C s.heap vs ds → wpAny (model X.prog X.w) A (call (.builtin id) (v :: vs)) (PostF X s d) E s

theorem few_of {es : List Expr} {pos : Pos} : ((backTo pos (starEach es env)).all (fun x => !x.1) && (backToKw pos (keywordEach [] env)).all (fun x => x.1.isSome) && decide (es.length + ([] : List Keyword).length + (if ([] : List Keyword).isEmpty then 0 else 1) < 30)) = true →
  ((backTo pos (starEach es env)).all (fun x => !x.1) && (backToKw pos (keywordEach [] env)).all (fun x => x.1.isSome) && decide (es.length + ([] : List Keyword).length + (if ([] : List Keyword).isEmpty then 0 else 1) < 30)) = true := id

theorem ev_meth {o : Expr} {name : Str} {apos pos : Pos} {e : Expr} {es : List Expr} {d0 d : D} {ds : List D} (h0 : Ev X n env σ o d0) (hs : Evs X n env σ (e :: es) ds) (hm : MeOk X n name d0 ds d)
    (hbase : ∀ whole, attributeBase o name env whole = whole) (hline : (apos.endLine == pos.line) = true)
    (hx : starEach (e :: es) env = (false, eval e env) :: starEach es env := by rfl)
    (hfew : ((backTo pos (starEach (e :: es) env)).all (fun x => !x.1) && (backToKw pos (keywordEach [] env)).all (fun x => x.1.isSome) && decide ((e :: es).length + ([] : List Keyword).length + (if ([] : List Keyword).isEmpty then 0 else 1) < 30)) = true := by rfl)
    (hany : (backTo pos (starEach (e :: es) env)).any (·.1) = false := by rfl) :
    EvF X n env σ (.Call (.Attribute o name apos) (e :: es) [] pos) d := fun A s E a g r => by
  obtain ⟨T, id, pa, slot, ty, hT, hc⟩ := hm
  refine wpAny_Call_method_lateS (hbase _) hfew hline (wpAny_mono (h0 A s E a g r) (fun v s1 ⟨k1, fp, r1⟩ => ?_) fun _ _ x => x)
  refine ⟨T, id, pa, slot, ty, (hT s1 v fp r1).1, (hT s1 v fp r1).2, callWith_builtin hany (args_of hs a (g.kp k1) (r.kp k1) hx fun vs s2 k2 rv => ?_)⟩
  exact wpAny_mono (hc A s2 E v fp vs a (g.kp (k1.trans k2)) (r1.keeps k2.keep) rv) (fun v s3 h3 => h3.lift (k1.trans k2)) fun _ _ x => x

theorem str_type {C : Addr} {x : Str} : ∀ (s : Shared) v fp, Rep C s.heap v (.str x) fp → s.TypeIs v "str" ∧ ∀ a, v = .ref a → ∃ ob, s.heap.get? a = some ob ∧ ob.dict = none := by
  rintro s _ _ ⟨⟨t, rfl⟩, _⟩
  exact ⟨rfl, fun a e => nomatch e⟩

theorem me_startswith {x y : Str} : MeOk X n "startswith" (.str x) [.str y] (.bool (Txt.startswith x y)) :=
  ⟨"str", _, F.plainAttrs_str, F.slot_str_startswith, F.type_str_startswith, str_type, by
    rintro A s E _ _ _ a g ⟨⟨t, rfl⟩, _⟩ (_ | ⟨⟨⟨u, rfl⟩, _⟩, (_ | _)⟩)
    exact SC.startswith (PostF.bool (Kp.refl s))⟩
theorem me_endswith {x y : Str} : MeOk X n "endswith" (.str x) [.str y] (.bool (Txt.endswith x y)) :=
  ⟨"str", _, F.plainAttrs_str, F.slot_str_endswith, F.type_str_endswith, str_type, by
    rintro A s E _ _ _ a g ⟨⟨t, rfl⟩, _⟩ (_ | ⟨⟨⟨u, rfl⟩, _⟩, (_ | _)⟩)
    exact SC.endswith (PostF.bool (Kp.refl s))⟩

theorem strsAre_of_values' : ∀ l : List (Str × Tok), StrsAre (strValues l) (l.map (·.1))
  | [] => .nil
  | p :: r => .cons p.1 p.2 (strsAre_of_values' r)
theorem strsFrom_are (tk : Nat) (xs : List Str) : StrsAre (strsFrom tk xs) xs := by
  rw [strsFrom_eq]
  have := strsAre_of_values' (numbered tk xs)
  rwa [numbered_texts] at this

theorem PostF.strsT {s : Shared} {l : List Str} {vs : List Value} {t : Nat} (ht : s.toks ≤ t) (hi : StrsAre vs l) : PostF X s (.sl l) (.ref s.heap.objs.size) { s with heap := s.heap.push { cls := .type "list", data := .seq vs.toArray }, toks := t } :=
  ⟨(Kp.refl s).pushT _ ht, [s.heap.objs.size], ⟨_, vs, rfl, pl_push _ _, hi, rfl⟩, fun b hb => by rw [List.mem_singleton.mp hb]; exact none_at_size _⟩

theorem me_split {x y : Str} (hy : (y.length == 0) = false) (hx : x.length ≤ 1000000) : MeOk X n "split" (.str x) [.str y] (.sl (Txt.split x y)) :=
  ⟨"str", _, F.plainAttrs_str, F.slot_str_split, F.type_str_split, str_type, by
    rintro A s E _ _ _ a g ⟨⟨t, rfl⟩, _⟩ (_ | ⟨⟨⟨u, rfl⟩, _⟩, (_ | _)⟩)
    have hz : x.length ≤ sizeLine := by rw [sizeLine_eq]; omega
    have hsl := split_le x y
    refine tok_up ?_
    cases h1 : (decide (x.length < y.length) || decide (strKind x < strKind y))
    · cases hf : (occurrences x y 0 x.length (x.length + 1)).isEmpty
      · have e : Txt.split x y = partsBetween x (occurrences x y 0 x.length (x.length + 1)) y.length := by unfold Txt.split; rw [if_neg (by rw [h1]; decide), if_neg (by rw [hf]; decide)]
        refine call_meets F.slot_str_split rfl F.entry_str_split (F.args_str_split_2 _ _) (meets_str_split_sep x y t u h1 hy hf hz (by rw [← e, sizeLine_eq]; omega)) ?_
        rw [e]
        exact fun ht => PostF.strsT ht (strsFrom_are _ _)
      · have e : Txt.split x y = [x] := by unfold Txt.split; rw [if_neg (by rw [h1]; decide), if_pos hf]
        refine call_meets F.slot_str_split rfl F.entry_str_split (F.args_str_split_2 _ _) (meets_str_split_not_found x y t u h1 hy hf) ?_
        rw [e]
        exact fun ht => PostF.strsT ht (.cons x t .nil)
    · have e : Txt.split x y = [x] := by unfold Txt.split; rw [if_pos h1]
      refine call_meets F.slot_str_split rfl F.entry_str_split (F.args_str_split_2 _ _) (meets_str_split_cannot_occur x y t u h1) ?_
      rw [e]
      exact fun ht => PostF.strsT ht (.cons x t .nil)⟩

theorem strs_values : ∀ {vs : List Value} {l : List Str}, StrsAre vs l → ∃ ps : List (Str × Tok), strValues ps = vs ∧ ps.map (·.1) = l
  | _, _, .nil => ⟨[], rfl, rfl⟩
  | _, _, .cons y t h => let ⟨ps, a, b⟩ := strs_values h; ⟨(y, t) :: ps, by show _ :: strValues ps = _; rw [a], by show _ :: _ = _; rw [b]⟩

theorem me_join {x : Str} {l : List Str} (hok : JoinOk x l = true) : MeOk X n "join" (.str x) [.sl l] (.str (Txt.join x l)) :=
  ⟨"str", _, F.plainAttrs_str, F.slot_str_join, F.type_str_join, str_type, by
    rintro A s E _ _ _ a g ⟨⟨t, rfl⟩, _⟩ (_ | ⟨⟨b, vs, rfl, hl, hi, rfl⟩, (_ | _)⟩)
    obtain ⟨ps, hv, hp⟩ := strs_values hi
    rw [← hv] at hl
    exact tok_up (SC.join hl.isList hp hok fun t' k ht => PostF.str (Kp.toks ht))⟩
end W40
end
section
open PySem PySem.W PyProof.Rows
set_option Elab.async false
set_option maxRecDepth 20000
set_option linter.unusedVariables false
namespace W40
open PySem PySem.W PyProof.Rows PySem.Calls
variable {X : Cx} {n : Nat} {env : Env} {σ : List (Str × D)}

inductive AllIs {β : Type} (isv : β → Value → Prop) : List Value → List β → Prop
  | nil : AllIs isv [] []
  | cons {v y vs ys} : isv y v → AllIs isv vs ys → AllIs isv (v :: vs) (y :: ys)
theorem AllIs.snoc {β : Type} {isv : β → Value → Prop} {vs : List Value} {ys : List β} (h : AllIs isv vs ys) {v : Value} {y : β} (hy : isv y v) : AllIs isv (vs ++ [v]) (ys ++ [y]) := by
  induction h with
  | nil => exact .cons hy .nil
  | cons a _ ih => exact .cons a ih
theorem AllIs.length {β : Type} {isv : β → Value → Prop} {vs : List Value} {ys : List β} (h : AllIs isv vs ys) : vs.length = ys.length := by
  induction h with | nil => rfl | cons _ _ ih => simp [ih]
def isI (i : Int) (v : Value) : Prop := ∃ t, v = .int i t
def isS (x : Str) (v : Value) : Prop := ∃ t, v = .str x t
theorem AllIs.ints : ∀ {vs : List Value} {l : List Int}, AllIs isI vs l → IntsAre vs l
  | _, _, .nil => .nil
  | _, _, .cons ⟨t, e⟩ r => by subst e; exact .cons _ t r.ints
theorem AllIs.strs : ∀ {vs : List Value} {l : List Str}, AllIs isS vs l → StrsAre vs l
  | _, _, .nil => .nil
  | _, _, .cons ⟨t, e⟩ r => by subst e; exact .cons _ t r.strs

/-- the block of a comprehension -/
def cEnv (scope : Scope) (cl : List (Str × Addr)) (C : Addr) (env : Env) : Env :=
  { scope := relabel scope env, locals := C, globals := env.globals, cells := cellsFrom (C + 1) scope.names cl, qual := env.qual, func := none, code := env.code, frame := env.frame, builtins := env.builtins }
theorem cEnv_ok {scope : Scope} {cl : List (Str × Addr)} {C : Addr} (h : EnvOk env) (hk : scope.kind = .function) : EnvOk (cEnv scope cl C env) := ⟨hk, h.glob, h.blt⟩

/-- the loop's name: a name of the block's, or a cell of its own -/
inductive XKind (scope : Scope) (cl : List (Str × Addr)) (x : Str) : Prop
  | loc : scope.names.lookup x = some .local → (∀ y ∈ scope.names, y.2 ≠ .cell) → XKind scope cl x
  | cell : scope.names.lookup x = some .cell → (∀ C, cellsFrom (C + 1) scope.names cl = (x, C + 1) :: cl) → (∀ h, pushCells h scope.names = h.push { cls := .type "cell", data := .cell none }) → XKind scope cl x

theorem relabel_at {env : Env} {k : NameKind} : ∀ {names : List (Str × NameKind)} {x : Str}, names.lookup x = some k →
    (names.map fun (n, k) => if (k == NameKind.free && env.scope.kind == .function && env.kindOf n == some .cell) then (n, NameKind.cell) else (n, k)).lookup x =
      some (if (k == NameKind.free && env.scope.kind == .function && env.kindOf x == some .cell) then .cell else k)
  | [], _, h => by simp at h
  | (n, k') :: r, x, h => by
    have ih := @relabel_at env k r x
    rw [List.map_cons]
    dsimp only
    cases hx : x == n with
    | true =>
      have e : x = n := eq_of_beq hx
      subst e
      simp only [List.lookup_cons, beq_self_eq_true] at h
      cases h
      by_cases hc : (k == NameKind.free && env.scope.kind == .function && env.kindOf x == some .cell) = true
      · rw [if_pos hc, if_pos hc]; simp
      · rw [if_neg hc, if_neg hc]; simp
    | false =>
      simp only [List.lookup_cons, hx] at h
      by_cases hc : (k' == NameKind.free && env.scope.kind == .function && env.kindOf n == some .cell) = true
      · rw [if_pos hc]; simp only [List.lookup_cons, hx]; exact ih h
      · rw [if_neg hc]; simp only [List.lookup_cons, hx]; exact ih h
theorem relabel_cell {env : Env} {names : List (Str × NameKind)} {x : Str} (h : names.lookup x = some .cell) :
    (names.map fun (n, k) => if (k == NameKind.free && env.scope.kind == .function && env.kindOf n == some .cell) then (n, NameKind.cell) else (n, k)).lookup x = some .cell := by
  rw [relabel_at h]; rfl
/-- a free name is a cell of the def's, or free still -/
theorem relabel_free {env : Env} {names : List (Str × NameKind)} {x : Str} (h : names.lookup x = some .free) :
    (names.map fun (n, k) => if (k == NameKind.free && env.scope.kind == .function && env.kindOf n == some .cell) then (n, NameKind.cell) else (n, k)).lookup x = some .cell ∨
    (names.map fun (n, k) => if (k == NameKind.free && env.scope.kind == .function && env.kindOf n == some .cell) then (n, NameKind.cell) else (n, k)).lookup x = some .free := by
  rw [relabel_at h]
  split
  · exact .inl rfl
  · exact .inr rfl

/-- seen from the block: a free name of its, whose cell is handed on -/
structure Seen (env : Env) (scope : Scope) (cl : List (Str × Addr)) (y : Str) : Prop where
  free : scope.names.lookup y = some .free
  cell : ∀ C, ∃ c, env.cells.lookup y = some c ∧ (cellsFrom (C + 1) scope.names cl).lookup y = some c
  out : env.kindOf y = some .cell ∨ env.kindOf y = some .free
theorem Seen.var {scope : Scope} {cl : List (Str × Addr)} {y : Str} (z : Seen env scope cl y) {C : Addr} {h : Heap} {v : Value} (hv : VarIs env h y v) : VarIs (cEnv scope cl C env) h y v := by
  refine ⟨hv.nm, .inr ⟨relabel_free z.free, ?_⟩⟩
  obtain ⟨c, h1, h2⟩ := z.cell C
  rcases hv.at_ with ⟨hk, _⟩ | ⟨_, c', hc, hx⟩
  · rcases z.out with q | q <;> rw [q] at hk <;> cases hk
  · rw [h1] at hc; cases hc
    exact ⟨c, h2, hx⟩

/-- the block's own part of the heap: its names, its cell -/
structure Blk (scope : Scope) (cl : List (Str × Addr)) (x : Str) (C : Addr) (h : Heap) : Prop where
  ns : ∃ m, h.Ns C m
  cell : scope.names.lookup x = some .cell → ∃ ov, h.IsCell (C + 1) ov
theorem Blk.keeps {scope : Scope} {cl : List (Str × Addr)} {x : Str} {C : Addr} {h h' : Heap} (b : Blk scope cl x C h) (hk : ∀ c o, c = C ∨ c = C + 1 → h.get? c = some o → h'.get? c = some o) : Blk scope cl x C h' := by
  obtain ⟨⟨m, o, es, ep, ho, r⟩, hc⟩ := b
  refine ⟨⟨m, o, es, ep, hk _ _ (.inl rfl) ho, r⟩, fun q => ?_⟩
  obtain ⟨ov, o, ho, hd⟩ := hc q
  exact ⟨ov, o, hk _ _ (.inr rfl) ho, hd⟩

/-- the loop's name takes an item -/
theorem blk_store {M : Model} {A : Around} {E : Value → Shared → Prop} {s : Shared} {scope : Scope} {cl : List (Str × Addr)} {x : Str} {px : Pos} {C : Addr} {v : Value} {Q : Unit → Shared → Prop}
    (hk : scope.kind = .function) (hp : plainName x = true) (hx : XKind scope cl x) (b : Blk scope cl x C s.heap)
    (h : ∀ h' tk, s.toks ≤ tk → VarIs (cEnv scope cl C env) h' x v → Blk scope cl x C h' → (∀ c o, c ≠ C → c ≠ C + 1 → s.heap.get? c = some o → h'.get? c = some o) → Q () { s with heap := h', toks := tk }) :
    wpAny M A (assign (.Name x px) (cEnv scope cl C env) v) Q E s := by
  refine wpAny_assign_Name ?_
  obtain ⟨⟨m, hm⟩, hcell⟩ := b
  rcases hx with ⟨hl, hno⟩ | ⟨hl, hc, _⟩
  · have hkind : (cEnv scope cl C env).kindOf x = some .local := lookup_relabel_local hl
    refine wpAny_storeName_local hkind hm (fun h' hn hs => h h' _ (Nat.le_succ _) ⟨hp, .inl ⟨hkind, _, hn, by simp⟩⟩ ⟨⟨_, hn⟩, fun q => ?_⟩ fun c o hC hC1 e => hs.extBut c o hC e) ?_
    · rw [hl] at q; cases q
    · show (scope.kind == .class || (scope.kind == .module && _)) = false
      rw [hk]; rfl
  · have hkind : (cEnv scope cl C env).kindOf x = some .cell := relabel_cell hl
    have hcl : (cEnv scope cl C env).cells.lookup x = some (C + 1) := by
      show (cellsFrom (C + 1) scope.names cl).lookup x = _
      rw [hc C]; simp
    obtain ⟨ov, ho⟩ := hcell hl
    have hne : C ≠ C + 1 := Nat.ne_of_lt (Nat.lt_succ_self _)
    exact wpAny_storeName_cell hk hkind hcl ho fun h' hv hs => h h' _ (Nat.le_refl _) ⟨hp, .inr ⟨.inl hkind, _, hcl, hv⟩⟩ ⟨⟨_, hm.sameBut hs hne⟩, fun _ => ⟨_, hv⟩⟩ fun c o hC hC1 e => hs.extBut c o hC1 e

/-- what a turn of the block does with one item -/
structure Turn (X : Cx) {β : Type} (A : Around) (env : Env) (scope : Scope) (cl : List (Str × Addr)) (x : Str) (ifs : List Expr) (elt : Expr) (wr : List Addr) (P : Nat → Value → Prop) (isv : β → Value → Prop) (res : Nat → Option β) (s₂ : Shared) : Prop where
  tests : ∀ C i v s₃ E', P i v → (∃ h tk, s₃ = { s₂ with heap := h, toks := tk }) → VarIs (cEnv scope cl C env) s₃.heap x v → (∀ b o, b ∉ wr → s₂.heap.get? b = some o → s₃.heap.get? b = some o) → s₂.toks ≤ s₃.toks →
    wpAny (model X.prog X.w) A (forIn ifs true fun c r => if r = true then do let ok ← isTrue c (cEnv scope cl C env) (eval c (cEnv scope cl C env)); pure (ForInStep.yield ok) else pure (ForInStep.yield r))
      (fun ok s₄ => ok = (res i).isSome ∧ Kp s₃ s₄) E' s₃
  elt : ∀ C i v s₃ E' y, P i v → res i = some y → (∃ h tk, s₃ = { s₂ with heap := h, toks := tk }) → VarIs (cEnv scope cl C env) s₃.heap x v → (∀ b o, b ∉ wr → s₂.heap.get? b = some o → s₃.heap.get? b = some o) → s₂.toks ≤ s₃.toks →
    wpAny (model X.prog X.w) A (eval elt (cEnv scope cl C env)) (fun yv s₄ => isv y yv ∧ Kp s₃ s₄) E' s₃

theorem filterMap_range_succ {β : Type} (res : Nat → Option β) (k : Nat) : (List.range (k + 1)).filterMap res = (List.range k).filterMap res ++ (res k).toList := by
  rw [List.range_succ, List.filterMap_append]
  rfl

theorem fresh_at {h : Heap} {a : Addr} (ha : h.objs.size ≤ a) : h.get? a = none := Heap.get?_none_of_le ha

theorem comp_loop {β : Type} {isv : β → Value → Prop} {res : Nat → Option β} {A : Around} {R : Result → Shared → Prop} {elt iter : Expr} {x : Str} {px : Pos} {ifs : List Expr} {scope : Scope} {cl : List (Str × Addr)} {pos : Pos} {s₂ s : Shared} {I : Addr} {fp wr : List Addr} {N : Nat} {P : Nat → Value → Prop}
    {Sti : Nat → Heap → Prop} {C Da : Addr} (W : Walks X.prog X.w A I fp wr N P Sti) (hsz : N ≤ sizeLine) (hk : scope.kind = .function) (hp : plainName x = true) (hx : XKind scope cl x)
    (hD : s₂.heap.objs.size ≤ Da) (hC : s₂.heap.objs.size ≤ C) (hDC : Da ≠ C) (hDC1 : Da ≠ C + 1) (hfp : ∀ b ∈ fp, b < s₂.heap.objs.size)
    (hs : ∃ h tk, s = { s₂ with heap := h, toks := tk }) (htk : s₂.toks ≤ s.toks) (hkeep : ∀ b o, s₂.heap.get? b = some o → s.heap.get? b = some o)
    (hst : Sti 0 s.heap) (hacc : s.heap.PlainList Da #[]) (hb : Blk scope cl x C s.heap)
    (T : Turn X A env scope cl x ifs elt wr P isv res s₂)
    (hR : ∀ h' tk ys, Blk scope cl x C h' → h'.PlainList Da (List.toArray ys) → AllIs isv ys ((List.range N).filterMap res) → (∀ b o, b ∉ wr → s₂.heap.get? b = some o → h'.get? b = some o) → s₂.toks ≤ tk → R (.ok .next) { s₂ with heap := h', toks := tk }) :
    codeAny (model X.prog X.w) A (.compLoop (.ListComp elt [⟨.Name x px, iter, ifs, 0⟩] scope pos) 0 (.ref I) (.ref Da) (cEnv scope cl C env)) R s := by
  have notFp : ∀ a, s₂.heap.objs.size ≤ a → a ∉ fp := fun a ha hm => Nat.lt_irrefl _ (Nat.lt_of_lt_of_le (hfp a hm) ha)
  have notWr : ∀ a, s₂.heap.objs.size ≤ a → a ∉ wr := fun a ha hm => notFp a ha (W.sub _ hm)
  have hC1 : s₂.heap.objs.size ≤ C + 1 := Nat.le_succ_of_le hC
  refine codeAny_compLoop_tests
    (fun k s' => ∃ h' tk i ys, s' = { s₂ with heap := h', toks := tk } ∧ Sti i h' ∧ h'.PlainList Da (List.toArray ys) ∧ Blk scope cl x C h' ∧ AllIs isv ys ((List.range i).filterMap res) ∧ i ≤ N ∧ k = N + 1 - i ∧
      (∀ b o, b ∉ wr → s₂.heap.get? b = some o → h'.get? b = some o) ∧ s₂.toks ≤ tk) ?_ (N + 1) ?_
  · rintro k s' ⟨H, tk, i, ys, rfl, hst', hacc', hb', hF, hi, rfl, hk', htk'⟩
    by_cases hlt : i < N
    · refine wpAny_with_toks (n := s₂.toks) htk' (W.item i _ _ _ hlt hst' fun v h₁ tk₁ hPv hst₁ hk₁ htk₁ => ?_)
      have hb₁ : Blk scope cl x C h₁ := hb'.keeps fun c o hc e => hk₁ c o (by rcases hc with rfl | rfl; exact notWr _ hC; exact notWr _ hC1) e
      refine blk_store hk hp hx hb₁ fun h₂ tk₂ ht₂ hv₂ hb₂ hk₂ => ?_
      have up : ∀ b o, b ∉ wr → s₂.heap.get? b = some o → h₂.get? b = some o := fun b o hbw e => by
        have hlt := Heap.lt_size e
        exact hk₂ b o (Nat.ne_of_lt (Nat.lt_of_lt_of_le hlt hC)) (Nat.ne_of_lt (Nat.lt_of_lt_of_le hlt hC1)) (hk₁ b o hbw (hk' b o hbw e))
      have hst₂ : Sti (i + 1) h₂ := W.frame _ _ _ hst₁ fun b hb o e => hk₂ b o (fun q => notFp _ hC (q ▸ hb)) (fun q => notFp _ hC1 (q ▸ hb)) e
      have hacc₂ : h₂.PlainList Da (List.toArray ys) := (hacc'.at fun o e => hk₁ _ o (notWr _ hD) e).at fun o e => hk₂ _ o hDC hDC1 e
      have ht₂' : s₂.toks ≤ tk₂ := Nat.le_trans htk₁ ht₂
      refine wpAny_mono (T.tests C i v _ _ hPv ⟨_, _, rfl⟩ hv₂ up ht₂') (fun ok s₃ ⟨hok, k₃⟩ => ?_) fun _ _ e => e
      subst hok
      obtain ⟨h₃, tk₃, rfl⟩ := k₃.same
      have hst₃ : Sti (i + 1) h₃ := W.frame _ _ _ hst₂ fun b _ o e => k₃.keep b o e
      have hacc₃ : h₃.PlainList Da (List.toArray ys) := hacc₂.at fun o e => k₃.keep _ o e
      have hb₃ : Blk scope cl x C h₃ := hb₂.keeps fun c o _ e => k₃.keep c o e
      have up₃ : ∀ b o, b ∉ wr → s₂.heap.get? b = some o → h₃.get? b = some o := fun b o hbw e => k₃.keep b o (up b o hbw e)
      have ht₃ : s₂.toks ≤ tk₃ := Nat.le_trans ht₂' k₃.tok
      cases hr : res i with
      | none =>
        simp only [Option.isSome_none, Bool.false_eq_true, if_false]
        refine ⟨N + 1 - (i + 1), by omega, h₃, tk₃, i + 1, ys, rfl, hst₃, hacc₃, hb₃, ?_, hlt, rfl, up₃, ht₃⟩
        rw [filterMap_range_succ, hr]; simpa using hF
      | some y =>
        simp only [Option.isSome_some, if_true]
        refine wpAny_mono (T.elt C i v _ _ y hPv hr ⟨_, _, rfl⟩ (hv₂.keeps k₃.keep) up₃ ht₃) (fun yv s₄ ⟨hy, k₄⟩ => ?_) fun _ _ e => e
        obtain ⟨h₄, tk₄, rfl⟩ := k₄.same
        have hys : ys.length ≤ i := by
          rw [hF.length]
          refine Nat.le_trans (List.length_filterMap_le _ _) ?_
          rw [List.length_range]; exact Nat.le_refl _
        refine wpAny_list_append_plain (hacc₃.at fun o e => k₄.keep _ o e) (fun h₅ hl₅ hs₅ => ?_) (by rw [List.size_toArray]; omega)
        refine ⟨N + 1 - (i + 1), by omega, h₅, tk₄, i + 1, ys ++ [yv], rfl, ?_, by simpa using hl₅, ?_, ?_, hlt, rfl, ?_, Nat.le_trans ht₃ k₄.tok⟩
        · exact W.frame _ _ _ hst₃ fun b hb o e => hs₅.extBut b o (fun q => notFp _ hD (q ▸ hb)) (k₄.keep b o e)
        · exact hb₃.keeps fun c o hc e => hs₅.extBut c o (by rcases hc with rfl | rfl; exact fun q => hDC q.symm; exact fun q => hDC1 q.symm) (k₄.keep c o e)
        · rw [filterMap_range_succ, hr]; exact hF.snoc hy
        · intro b o hbw e
          exact hs₅.extBut b o (Nat.ne_of_lt (Nat.lt_of_lt_of_le (Heap.lt_size e) hD)) (k₄.keep b o (up₃ b o hbw e))
    · have hin : i = N := by omega
      subst hin
      refine wpAny_with_toks (n := s₂.toks) htk' (W.done _ _ _ hst' fun h₁ tk₁ hk₁ ht₁ => ?_)
      refine hR h₁ tk₁ ys (hb'.keeps fun c o hc e => hk₁ c o (by rcases hc with rfl | rfl; exact notWr _ hC; exact notWr _ hC1) e) (hacc'.at fun o e => hk₁ _ o (notWr _ hD) e) hF (fun b o hbw e => hk₁ b o hbw (hk' b o hbw e)) ht₁
  · obtain ⟨h, tk, rfl⟩ := hs
    exact ⟨h, tk, 0, [], rfl, hst, hacc, hb, .nil, Nat.zero_le _, rfl, fun b o _ e => hkeep b o e, htk⟩

/-- the list made, the block laid, the loop run -/
theorem comp_block {β : Type} {isv : β → Value → Prop} {res : Nat → Option β} {A : Around} {E : Value → Shared → Prop} {elt iter : Expr} {x : Str} {px : Pos} {ifs : List Expr} {scope : Scope} {cl : List (Str × Addr)} {pos : Pos} {s₂ : Shared} {I : Addr} {fp wr : List Addr} {N : Nat} {P : Nat → Value → Prop}
    {Sti : Nat → Heap → Prop} {RR : Value → Addr → Result → Shared → Prop} (W : Walks X.prog X.w A I fp wr N P Sti) (hsz : N ≤ sizeLine) (hk : scope.kind = .function) (hp : plainName x = true) (hx : XKind scope cl x)
    (hfp : ∀ b ∈ fp, b < s₂.heap.objs.size) (hst : Sti 0 s₂.heap)
    (T : Turn X A env scope cl x ifs elt wr P isv res s₂)
    (hR : ∀ Da C h' tk ys, s₂.heap.get? Da = none → s₂.heap.get? C = none → Da ≠ C → (∃ m, h'.Ns C m) → h'.PlainList Da (List.toArray ys) → AllIs isv ys ((List.range N).filterMap res) → (∀ b o, b ∉ wr → s₂.heap.get? b = some o → h'.get? b = some o) → s₂.toks ≤ tk → RR (.ref Da) C (.ok .next) { s₂ with heap := h', toks := tk }) :
    wpAny (model X.prog X.w) A (newList []) (fun acc s₃ => wpAny (model X.prog X.w) A (newFunctionEnv scope env.globals cl [] env.qual none .none (some env)) (fun cenv s₄ =>
      codeAny (model X.prog X.w) A (.compStart (.ListComp elt [⟨.Name x px, iter, ifs, 0⟩] scope pos) 0 (.ref I) acc { cenv with scope := relabel scope env }) (RR acc cenv.locals) s₄) E s₃) E s₂ := by
  refine wpAny_newObj_type ?_
  try dsimp only
  generalize hH2 : s₂.heap.push { cls := .type "list", dict := none, data := .seq ([] : List Value).toArray } = H2
  have hCs : H2.objs.size = s₂.heap.objs.size + 1 := by rw [← hH2, Heap.size_push]
  have hne : @Ne Nat s₂.heap.objs.size H2.objs.size := by omega
  have hne1 : @Ne Nat s₂.heap.objs.size (H2.objs.size + 1) := by omega
  have hle : @LE.le Nat _ s₂.heap.objs.size H2.objs.size := by omega
  simp only [newFunctionEnv, Option.isSome_some, if_true]
  refine wpAny_bind (wpAny_alloc ?_)
  refine wpAny_bind (wpAny_layCells _ (fun name kind cells => by cases hkc : kind == NameKind.cell <;> simp [hkc]) _ _ _ _ ?_)
  dsimp only
  rw [show (H2.push { cls := .type "dict", data := .dict #[] }).objs.size = H2.objs.size + 1 from Heap.size_push ..]
  rw [List.forIn_nil]
  refine wpAny_bind (wpAny_pure (wpAny_pure ?_))
  have kp : ∀ b o, s₂.heap.get? b = some o → (pushCells (H2.push { cls := .type "dict", data := .dict #[] }) scope.names).get? b = some o := fun b o e =>
    pushCells_keeps _ _ b o (Heap.get?_push_of_some _ (hH2 ▸ Heap.get?_push_of_some _ e))
  have hacc : (pushCells (H2.push { cls := .type "dict", data := .dict #[] }) scope.names).PlainList s₂.heap.objs.size #[] := ⟨0, pushCells_keeps _ _ _ _ (Heap.get?_push_of_some _ (hH2 ▸ Heap.get?_push_size _ rfl))⟩
  have hns : (pushCells (H2.push { cls := .type "dict", data := .dict #[] }) scope.names).Ns H2.objs.size (fun _ => none) := (Heap.Ns.new H2 (.type "dict")).keeps (pushCells_keeps _ _)
  have hblk : Blk scope cl x H2.objs.size (pushCells (H2.push { cls := .type "dict", data := .dict #[] }) scope.names) := ⟨⟨_, hns⟩, fun q => by
    rcases hx with ⟨hl, hno⟩ | ⟨hl, hc, hpc⟩
    · rw [hl] at q; cases q
    · rw [hpc]
      refine ⟨none, { cls := .type "cell", data := .cell none }, ?_, rfl⟩
      have e : (H2.push { cls := .type "dict", data := .dict #[] }).objs.size = H2.objs.size + 1 := Heap.size_push ..
      have := Heap.get?_push_size (H2.push { cls := .type "dict", data := .dict #[] }) (o := { cls := .type "cell", data := .cell none }) rfl
      rwa [e] at this⟩
  have hst' : Sti 0 (pushCells (H2.push { cls := .type "dict", data := .dict #[] }) scope.names) := W.frame _ _ _ hst fun b _ o e => kp b o e
  have loop : codeAny (model X.prog X.w) A (.compLoop (.ListComp elt [⟨.Name x px, iter, ifs, 0⟩] scope pos) 0 (.ref I) (.ref s₂.heap.objs.size) (cEnv scope cl H2.objs.size env)) (RR (.ref s₂.heap.objs.size) H2.objs.size)
      { s₂ with heap := pushCells (H2.push { cls := .type "dict", data := .dict #[] }) scope.names } := by
    refine comp_loop W hsz hk hp hx (Nat.le_refl _) hle hne hne1 hfp ⟨_, _, rfl⟩ (Nat.le_refl _) kp hst' hacc hblk T fun h' tk ys hb' hl' hF hk' ht' => ?_
    exact hR _ _ h' tk ys (fresh_at (Nat.le_refl _)) (fresh_at hle) hne hb'.ns hl' hF hk' ht'
  exact codeAny_compStart_list loop (W.self 0 _ _ _ hst' loop)

/-- where the items come from -/
def It (X : Cx) (n : Nat) (env : Env) (σ : List (Str × D)) (iter : Expr) (src : List D) : Prop :=
  ∀ A s E, AOk n A → Gl X s → RelR X env s σ → wpAny (model X.prog X.w) A (eval iter env) (fun xv s₁ => wpAny (model X.prog X.w) A (pyIter xv) (fun it s₂ =>
    Kp s s₂ ∧ ∃ I fp wr Sti, it = .ref I ∧ Walks X.prog X.w A I fp wr src.length (fun i v => ∃ d, src[i]? = some d ∧ Rep X.C s₂.heap v d []) Sti ∧ Sti 0 s₂.heap ∧ (∀ b ∈ fp, b < s₂.heap.objs.size) ∧ (∀ b ∈ wr, s.heap.get? b = none)) E s₁) E s

def Tests (X : Cx) (n : Nat) (env : Env) (σ : List (Str × D)) : List Expr → Bool → Prop
  | [], b => b = true
  | [c], b => Cn X n env σ c b
  | _, _ => False

theorem Rep.nilAt {C : Addr} {h h' : Heap} {v d} (x : Rep C h v d []) : Rep C h' v d [] := x.at fun b hb => nomatch hb

theorem turn_of {β : Type} {isv : β → Value → Prop} {mk : β → D} {res : Nat → Option β} {A : Around} {scope : Scope} {cl : List (Str × Addr)} {x : Str} {ifs : List Expr} {elt : Expr} {src : List D} {σ0 : List (Str × D)} {s s₂ : Shared} {wr : List Addr}
    (ha : AOk n A) (g : Gl X s) (r : RelR X env s σ) (k : Kp s s₂) (hwr : ∀ b ∈ wr, s.heap.get? b = none)
    (hσ : ∀ p ∈ σ0, p ∈ σ ∧ Seen env scope cl p.1) (hmk : ∀ y v h fp, Rep X.C h v (mk y) fp → isv y v)
    (ht : ∀ C i d, src[i]? = some d → Tests X n (cEnv scope cl C env) ((x, d) :: σ0) ifs (res i).isSome)
    (he : ∀ C i d y, src[i]? = some d → res i = some y → Ev X n (cEnv scope cl C env) ((x, d) :: σ0) elt (mk y)) :
    Turn X A env scope cl x ifs elt wr (fun i v => ∃ d, src[i]? = some d ∧ Rep X.C s₂.heap v d []) isv res s₂ := by
  have up : ∀ s₃ : Shared, (∃ h tk, s₃ = { s₂ with heap := h, toks := tk }) → (∀ b o, b ∉ wr → s₂.heap.get? b = some o → s₃.heap.get? b = some o) → s₂.toks ≤ s₃.toks → Kp s s₃ := by
    rintro s₃ ⟨h, tk, rfl⟩ hk ht
    obtain ⟨h₂, t₂, rfl⟩ := k.same
    exact ⟨⟨_, _, rfl⟩, fun b o e => hk b o (fun hb => by rw [hwr b hb] at e; cases e) (k.keep b o e), Nat.le_trans k.tok ht⟩
  have rel : ∀ C v d (s₃ : Shared), Kp s s₃ → Rep X.C s₂.heap v d [] → VarIs (cEnv scope cl C env) s₃.heap x v → RelR X (cEnv scope cl C env) s₃ ((x, d) :: σ0) := by
    intro C v d s₃ k₃ hr hv p hp
    rcases List.mem_cons.mp hp with rfl | hp
    · exact ⟨v, [], hv, hr.nilAt⟩
    · obtain ⟨h1, h2⟩ := hσ p hp
      obtain ⟨u, fp, hu, hru⟩ := r p h1
      exact ⟨u, fp, h2.var (hu.keeps k₃.keep), hru.keeps k₃.keep⟩
  constructor
  · rintro C i v s₃ E' ⟨d, hd, hr⟩ hs hv hk htk
    have k₃ := up s₃ hs hk htk
    have h := ht C i d hd
    match ifs, h with
    | [], h => rw [show (res i).isSome = true from h]; exact wpAny_tests_nil ⟨rfl, Kp.refl _⟩
    | [c], h => exact wpAny_tests_one (h A s₃ E' ha (g.kp k₃) (rel C v d s₃ k₃ hr hv))
  · rintro C i v s₃ E' y ⟨d, hd, hr⟩ hy hs hv hk htk
    have k₃ := up s₃ hs hk htk
    exact wpAny_mono (he C i d y hd hy A s₃ E' ha (g.kp k₃) (rel C v d s₃ k₃ hr hv)) (fun yv s₄ ⟨k₄, fp, hr'⟩ => ⟨hmk y yv _ fp hr', k₄⟩) fun _ _ e => e

theorem ev_comp {β : Type} {isv : β → Value → Prop} {mk : β → D} {dl : List β → D} {res : Nat → Option β} {elt iter : Expr} {x : Str} {px : Pos} {ifs : List Expr} {scope : Scope} {cl : List (Str × Addr)} {pos : Pos} {src : List D} {σ0 : List (Str × D)}
    (hdl : ∀ h Da ys l, Heap.PlainList h Da (List.toArray ys) → AllIs isv ys l → Rep X.C h (.ref Da) (dl l) [Da])
    (hmk : ∀ y v h fp, Rep X.C h v (mk y) fp → isv y v)
    (hclos : closureFor scope env = pure cl) (hk : scope.kind = .function) (hnames : ∀ y ∈ scope.names, y.2 = .local → scope.names.lookup y.1 = some .local) (hp : plainName x = true) (hx : XKind scope cl x)
    (hs : ∀ x, foldedSetIterable iter env x = pure x) (hsz : src.length ≤ sizeLine)
    (hi : It X n env σ iter src) (hσ : ∀ p ∈ σ0, p ∈ σ ∧ Seen env scope cl p.1)
    (ht : ∀ C i d, src[i]? = some d → Tests X n (cEnv scope cl C env) ((x, d) :: σ0) ifs (res i).isSome)
    (he : ∀ C i d y, src[i]? = some d → res i = some y → Ev X n (cEnv scope cl C env) ((x, d) :: σ0) elt (mk y)) :
    EvF X n env σ (.ListComp elt [⟨.Name x px, iter, ifs, 0⟩] scope pos) (dl ((List.range src.length).filterMap res)) := fun A s E a g r => by
  rw [eval_ListComp]
  refine wpAny_comprehension_free (use := none) rfl hs hclos hk hnames (wpAny_mono (hi A s E a g r) (fun xv s₁ h₁ => wpAny_mono h₁ (fun it s₂ h₂ => ?_) fun _ _ e => e) fun _ _ e => e)
  obtain ⟨k, I, fp, wr, Sti, rfl, W, hst, hfp, hwr⟩ := h₂
  refine comp_block (RR := fun acc C => compPost (model X.prog X.w) A E none (PostF X s (dl ((List.range src.length).filterMap res))) acc C) W hsz hk hp hx hfp hst (turn_of a g r k hwr hσ hmk ht he) ?_
  intro Da C h' tk ys hD hC hDC hn hl hF hk' htk
  obtain ⟨m, hm⟩ := hn
  refine ⟨m, hm, fun h'' hs'' => ?_⟩
  have hl'' := hl.extBut hs''.extBut hDC
  obtain ⟨h₂, t₂, rfl⟩ := k.same
  refine ⟨⟨⟨_, _, rfl⟩, fun b o e => ?_, Nat.le_trans k.tok htk⟩, [Da], hdl _ _ _ _ hl'' hF, fun b hb => by rw [List.mem_singleton.mp hb]; exact k.fresh hD⟩
  have e2 := k.keep b o e
  exact hs''.extBut b o (fun q => by rw [q, hC] at e2; cases e2) (hk' b o (fun hb => by rw [hwr b hb] at e; cases e) e2)

theorem dl_ints {C : Addr} : ∀ h Da ys l, Heap.PlainList h Da (List.toArray ys) → AllIs isI ys l → Rep C h (.ref Da) (.il l) [Da] := fun h Da ys l hl hi => ⟨Da, ys, rfl, hl, hi.ints, rfl⟩
theorem dl_strs {C : Addr} : ∀ h Da ys l, Heap.PlainList h Da (List.toArray ys) → AllIs isS ys l → Rep C h (.ref Da) (.sl l) [Da] := fun h Da ys l hl hi => ⟨Da, ys, rfl, hl, hi.strs, rfl⟩
theorem mk_int {C : Addr} : ∀ y v h fp, Rep C h v (.int y) fp → isI y v := fun y v h fp x => x.1
theorem mk_str {C : Addr} : ∀ y v h fp, Rep C h v (.str y) fp → isS y v := fun y v h fp x => x.1
end W40
end
section
open PySem PySem.W PyProof.Rows
set_option Elab.async false
set_option maxRecDepth 20000
set_option linter.unusedVariables false
namespace W40
open PySem PySem.W PyProof.Rows PySem.Calls
variable {X : Cx} {n : Nat} {env : Env} {σ σ' : List (Str × D)} {O O' : List Str} {Z : List (Addr × Obj)} {W : List Addr} {s₀ s : Shared}

def Off (env : Env) (a : Addr) : Prop := a ≠ env.locals ∧ ∀ c ∈ env.cells, a ≠ c.2
structure VarV (env : Env) (m cm : Str → Option Value) (x : Str) (v : Value) : Prop where
  nm : plainName x = true
  at_ : (env.kindOf x = some .local ∧ m x = some v) ∨ (env.kindOf x = some .cell ∧ cm x = some v ∧ ∃ c, env.cells.lookup x = some c)
structure KOk (env : Env) (x : Str) : Prop where
  nm : plainName x = true
  kd : env.kindOf x = some .local ∨ (env.kindOf x = some .cell ∧ ∃ c, env.cells.lookup x = some c)

/-- the state of a def's call: what its names hold, which of them hold something of their own, what must stay (Z), which objects turn by themselves (W) -/
structure StD (X : Cx) (s₀ : Shared) (env : Env) (σ : List (Str × D)) (O : List Str) (Z : List (Addr × Obj)) (W : List Addr) (s : Shared) (m cm : Str → Option Value) (V : Str → Value) (FP : Str → List Addr) : Prop where
  call : InCallC s₀ env.locals m env.cells cm s
  gl : Gl X s₀
  tok : s₀.toks ≤ s.toks
  ev : EnvOk env
  var : ∀ p ∈ σ, VarV env m cm p.1 (V p.1)
  rep : ∀ p ∈ σ, Rep X.C s.heap (V p.1) p.2 (FP p.1)
  off : ∀ p ∈ σ, ∀ a ∈ FP p.1, Off env a ∧ a ∉ W
  new : ∀ p ∈ σ, p.1 ∈ O → ∀ a ∈ FP p.1, s₀.heap.get? a = none
  own : ∀ p ∈ σ, p.1 ∈ O → ∀ a ∈ FP p.1, (∀ q ∈ σ, q.1 ≠ p.1 → a ∉ FP q.1) ∧ ∀ z ∈ Z, a ≠ z.1
  zed : ∀ z ∈ Z, s.heap.get? z.1 = some z.2 ∧ Off env z.1
  wz : ∀ b ∈ W, ∃ o, (b, o) ∈ Z
def St (X : Cx) (s₀ : Shared) (env : Env) (σ : List (Str × D)) (O : List Str) (Z : List (Addr × Obj)) (W : List Addr) (s : Shared) : Prop := ∃ m cm V FP, StD X s₀ env σ O Z W s m cm V FP

theorem icc_kp {m cm : Str → Option Value} {cs : List (Str × Addr)} {L : Addr} {s s' : Shared} (x : InCallC s₀ L m cs cm s) (k : Kp s s') : InCallC s₀ L m cs cm s' := by
  obtain ⟨h, tk, rfl⟩ := k.same
  refine ⟨⟨?_, x.toInCall.ns.keeps k.keep, fun b o e => k.keep b o (x.toInCall.keep b o e), x.toInCall.fresh⟩, fun y c hc => (x.cell y c hc).keeps k.keep, x.apart, x.above⟩
  obtain ⟨h₁, t₁, rfl⟩ := x.toInCall.same
  exact ⟨_, _, rfl⟩
theorem icc_but {m cm : Str → Option Value} {cs : List (Str × Addr)} {L a : Addr} {s : Shared} {h' : Heap} {tk : Nat} (x : InCallC s₀ L m cs cm s) (hs : Heap.SameBut a s.heap h') (ha : a ≠ L) (hc : ∀ c ∈ cs, a ≠ c.2) (hn : s₀.heap.get? a = none) : InCallC s₀ L m cs cm { s with heap := h', toks := tk } := by
  refine ⟨⟨?_, x.toInCall.ns.sameBut hs (Ne.symm ha), fun b o e => hs.extBut b o (fun q => by rw [q, hn] at e; cases e) (x.toInCall.keep b o e), x.toInCall.fresh⟩, fun y c hl => (x.cell y c hl).sameBut hs (Ne.symm (hc _ (mem_of_lookup hl))), x.apart, x.above⟩
  obtain ⟨h₁, t₁, rfl⟩ := x.toInCall.same
  exact ⟨_, _, rfl⟩

theorem StD.kp {m cm V FP} (x : StD X s₀ env σ O Z W s m cm V FP) {s' : Shared} (k : Kp s s') : StD X s₀ env σ O Z W s' m cm V FP where
  call := icc_kp x.call k
  gl := x.gl
  tok := Nat.le_trans x.tok k.tok
  ev := x.ev
  var := x.var
  rep := fun p hp => (x.rep p hp).keeps k.keep
  off := x.off
  new := x.new
  own := x.own
  zed := fun z hz => ⟨k.keep _ _ (x.zed z hz).1, (x.zed z hz).2⟩
  wz := x.wz
theorem St.kp (x : St X s₀ env σ O Z W s) {s' : Shared} (k : Kp s s') : St X s₀ env σ O Z W s' := let ⟨m, cm, V, FP, y⟩ := x; ⟨m, cm, V, FP, y.kp k⟩

theorem StD.base {m cm V FP} (x : StD X s₀ env σ O Z W s m cm V FP) : Kp s₀ s := by
  have c := x.call.toInCall
  exact ⟨c.same, c.keep, x.tok⟩
theorem St.base (x : St X s₀ env σ O Z W s) : Kp s₀ s := let ⟨m, cm, V, FP, y⟩ := x; y.base
theorem St.envOk (x : St X s₀ env σ O Z W s) : EnvOk env := let ⟨m, cm, V, FP, y⟩ := x; y.ev
theorem St.gl (x : St X s₀ env σ O Z W s) : Gl X s := let ⟨m, cm, V, FP, y⟩ := x; y.gl.kp y.base

theorem StD.varIs {m cm V FP} (x : StD X s₀ env σ O Z W s m cm V FP) {p} (hp : p ∈ σ) : VarIs env s.heap p.1 (V p.1) := by
  have v := x.var p hp
  refine ⟨v.nm, v.at_.imp (fun ⟨a, b⟩ => ⟨a, _, x.call.toInCall.ns, b⟩) fun ⟨a, b, c, hc⟩ => ⟨.inl a, c, hc, ?_⟩⟩
  have := x.call.cell _ c hc
  rwa [b] at this
theorem St.rel (x : St X s₀ env σ O Z W s) : RelR X env s σ := let ⟨m, cm, V, FP, y⟩ := x; fun p hp => ⟨V p.1, FP p.1, y.varIs hp, y.rep p hp⟩

theorem StD.sub {m cm V FP} (x : StD X s₀ env σ O Z W s m cm V FP) (hσ : ∀ p ∈ σ', p ∈ σ) (hO : ∀ y ∈ O', y ∈ O) : StD X s₀ env σ' O' Z W s m cm V FP where
  call := x.call
  gl := x.gl
  tok := x.tok
  ev := x.ev
  var := fun p hp => x.var p (hσ p hp)
  rep := fun p hp => x.rep p (hσ p hp)
  off := fun p hp => x.off p (hσ p hp)
  new := fun p hp ho => x.new p (hσ p hp) (hO _ ho)
  own := fun p hp ho a ha => ⟨fun q hq => ((x.own p (hσ p hp) (hO _ ho) a ha).1 q (hσ q hq)), (x.own p (hσ p hp) (hO _ ho) a ha).2⟩
  zed := x.zed
  wz := x.wz
theorem St.sub (x : St X s₀ env σ O Z W s) (hσ : ∀ p ∈ σ', p ∈ σ) (hO : ∀ y ∈ O', y ∈ O) : St X s₀ env σ' O' Z W s := let ⟨m, cm, V, FP, y⟩ := x; ⟨m, cm, V, FP, y.sub hσ hO⟩

theorem StD.frame_live {m cm V FP} (x : StD X s₀ env σ O Z W s m cm V FP) (hcell : ∀ c ∈ env.cells, ∃ y, env.cells.lookup y = some c.2) {a : Addr} (h : s.heap.get? a = none) : Off env a := by
  constructor
  · rintro rfl
    obtain ⟨o, es, ep, ho, _⟩ := x.call.toInCall.ns
    rw [h] at ho; cases ho
  · intro c hc e
    obtain ⟨y, hy⟩ := hcell c hc
    obtain ⟨o, ho, _⟩ := x.call.cell y c.2 hy
    rw [← e, h] at ho; cases ho

theorem lookup_mem_val : ∀ {cs : List (Str × Addr)}, (cs.Pairwise fun x y => x.2 ≠ y.2) → (cs.map (·.1)).Nodup → ∀ c ∈ cs, ∃ y, cs.lookup y = some c.2 := fun _ hn c hc => ⟨c.1, lookup_of_mem_nodup hn hc⟩

/-- a name takes a value: m or cm turned -/
theorem wp_store {M : Model} {A : Around} {E : Value → Shared → Prop} {m cm V FP} {x : Str} {v : Value} {Q : Unit → Shared → Prop} (y : StD X s₀ env σ O Z W s m cm V FP) (hx : KOk env x)
    (h : ∀ s' m' cm' a, Heap.SameBut a s.heap s'.heap → (a = env.locals ∨ ∃ c ∈ env.cells, a = c.2) → InCallC s₀ env.locals m' env.cells cm' s' → s.toks ≤ s'.toks → VarV env m' cm' x v → (∀ z u, z ≠ x → VarV env m cm z u → VarV env m' cm' z u) → (env.kindOf x = some .local → s.toks < s'.toks) → Q () s') :
    wpAny M A (storeName env x v) Q E s := by
  have hk := y.ev.kind
  rcases hx.kd with hl | ⟨hl, c, hc⟩
  · refine wpAny_storeName_local hl y.call.toInCall.ns (fun h' hn' hs' => ?_) (by rw [hk]; rfl)
    refine h _ (fun z => if z = x then some v else m z) cm env.locals hs' (.inl rfl) ⟨⟨?_, hn', fun b o e => ?_, y.call.toInCall.fresh⟩, fun k c hc => ?_, y.call.apart, y.call.above⟩ (Nat.le_succ _) ⟨hx.nm, .inl ⟨hl, by simp⟩⟩ (fun z u hz hv => ⟨hv.nm, hv.at_.imp (fun ⟨a, b⟩ => ⟨a, by simpa [hz] using b⟩) id⟩) fun _ => Nat.lt_succ_self _
    · obtain ⟨h₁, tk, rfl⟩ := y.call.toInCall.same
      exact ⟨h', _, rfl⟩
    · exact hs'.extBut b o (Nat.ne_of_lt (Nat.lt_of_lt_of_le (Heap.lt_size e) y.call.toInCall.fresh)) (y.call.toInCall.keep b o e)
    · exact (y.call.cell k c hc).sameBut hs' (Nat.ne_of_gt (y.call.above k c (mem_of_lookup hc)))
  · have hLc := y.call.above x c (mem_of_lookup hc)
    refine wpAny_storeName_cell hk hl hc (y.call.cell x c hc) fun h' hc' hs' => ?_
    refine h _ m (fun z => if z = x then some v else cm z) c hs' (.inr ⟨_, mem_of_lookup hc, rfl⟩) ⟨⟨?_, y.call.toInCall.ns.sameBut hs' (Nat.ne_of_lt hLc), fun b o e => ?_, y.call.toInCall.fresh⟩, fun k c' hk' => ?_, y.call.apart, y.call.above⟩ (Nat.le_refl _) ⟨hx.nm, .inr ⟨hl, by simp, c, hc⟩⟩ (fun z u hz hv => ⟨hv.nm, hv.at_.imp id fun ⟨a, b, r⟩ => ⟨a, by simpa [hz] using b, r⟩⟩) fun q => by rw [hl] at q; cases q
    · obtain ⟨h₁, tk, rfl⟩ := y.call.toInCall.same
      exact ⟨h', _, rfl⟩
    · exact hs'.extBut b o (Nat.ne_of_lt (Nat.lt_trans (Nat.lt_of_lt_of_le (Heap.lt_size e) y.call.toInCall.fresh) hLc)) (y.call.toInCall.keep b o e)
    · by_cases hkn : k = x
      · subst hkn
        rw [hc] at hk'; cases hk'
        simpa using hc'
      · simp only [if_neg hkn]
        exact (y.call.cell k c' hk').sameBut hs' fun e => hkn (name_of_addr y.call.apart (mem_of_lookup hk') (e ▸ mem_of_lookup hc))

/-- the names less one -/
inductive Del (x : Str) : List (Str × D) → List (Str × D) → Prop
  | nil : Del x [] []
  | skip {p r r'} : p.1 = x → Del x r r' → Del x (p :: r) r'
  | keep {p r r'} : p.1 ≠ x → Del x r r' → Del x (p :: r) (p :: r')
theorem Del.mem {x : Str} {r r' : List (Str × D)} (d : Del x r r') : ∀ p ∈ r', p ∈ r ∧ p.1 ≠ x := by
  induction d with
  | nil => intro p hp; cases hp
  | skip _ _ ih => exact fun p hp => ⟨.tail _ (ih p hp).1, (ih p hp).2⟩
  | keep h _ ih =>
    intro p hp
    rcases List.mem_cons.mp hp with rfl | hp
    · exact ⟨.head _, h⟩
    · exact ⟨.tail _ (ih p hp).1, (ih p hp).2⟩

def CellsOkN (env : Env) : Prop := ∀ c ∈ env.cells, ∃ y, env.cells.lookup y = some c.2

/-- x takes a new value: fresh since s, where the state stood -/
theorem st_storeD {M : Model} {A : Around} {E : Value → Shared → Prop} {x : Str} {v : Value} {d : D} {fp : List Addr} {s₁ : Shared} {Q : Unit → Shared → Prop} {m cm V FP} (y : StD X s₀ env σ O Z W s m cm V FP) (k : Kp s s₁) (hx : KOk env x) (hce : CellsOkN env)
    (hr : Rep X.C s₁.heap v d fp) (hf : ∀ a ∈ fp, s.heap.get? a = none) (hd : Del x σ σ') (hO : ∀ z ∈ O', z = x ∨ z ∈ O)
    (h : ∀ s' m' cm', StD X s₀ env ((x, d) :: σ') O' Z W s' m' cm' (fun z => if z = x then v else V z) (fun z => if z = x then fp else FP z) → (env.kindOf x = some .local → s₁.toks < s'.toks) → (∃ b, Heap.SameBut b s₁.heap s'.heap ∧ (b = env.locals ∨ ∃ c ∈ env.cells, b = c.2)) → Q () s') : wpAny M A (storeName env x v) Q E s₁ := by
  have y₁ := y.kp k
  have hoff : ∀ a ∈ fp, Off env a := fun a ha => y.frame_live hce (hf a ha)
  have live : ∀ p ∈ σ, ∀ a ∈ FP p.1, ∃ o, s.heap.get? a = some o := fun p hp => (y.rep p hp).live
  have fne : ∀ a ∈ fp, ∀ p ∈ σ, a ∉ FP p.1 := fun a ha p hp hq => by
    obtain ⟨o, ho⟩ := live p hp a hq
    rw [hf a ha] at ho; cases ho
  have fnz : ∀ a ∈ fp, ∀ z ∈ Z, a ≠ z.1 := fun a ha z hz q => by
    have := (y.zed z hz).1
    rw [← q, hf a ha] at this; cases this
  refine wp_store y₁ hx fun s' m' cm' b hs hb hcall htk hv hold htl => ?_
  have boff : ∀ a, Off env a → a ≠ b := fun a ho q => by
    rcases hb with rfl | ⟨c, hc, rfl⟩
    · exact ho.1 q
    · exact ho.2 c hc q
  have hnm := hd.mem
  refine h s' m' cm' ?_ htl ⟨b, hs, hb⟩
  constructor
  · exact hcall
  · exact y.gl
  · exact Nat.le_trans y₁.tok htk
  · exact y.ev
  · intro p hp
    rcases List.mem_cons.mp hp with rfl | hp
    · simpa using hv
    · obtain ⟨h1, h2⟩ := hnm p hp
      simp only [if_neg h2]
      exact hold _ _ h2 (y.var p h1)
  · intro p hp
    rcases List.mem_cons.mp hp with rfl | hp
    · simp only [if_true]
      exact hr.at fun c hc o e => hs.extBut c o (boff c (hoff c hc)) e
    · obtain ⟨h1, h2⟩ := hnm p hp
      simp only [if_neg h2]
      exact (y₁.rep p h1).at fun c hc o e => hs.extBut c o (boff c (y.off p h1 c hc).1) e
  · intro p hp
    rcases List.mem_cons.mp hp with rfl | hp
    · simp only [if_true]
      intro a ha
      refine ⟨hoff a ha, fun hw => ?_⟩
      obtain ⟨o, ho⟩ := y.wz a hw
      exact fnz a ha _ ho rfl
    · obtain ⟨h1, h2⟩ := hnm p hp
      simp only [if_neg h2]
      exact y.off p h1
  · intro p hp ho
    rcases List.mem_cons.mp hp with rfl | hp
    · simp only [if_true]
      exact fun a ha => y.base.fresh (hf a ha)
    · obtain ⟨h1, h2⟩ := hnm p hp
      simp only [if_neg h2]
      exact y.new p h1 ((hO _ ho).resolve_left h2)
  · intro p hp ho
    rcases List.mem_cons.mp hp with rfl | hp
    · simp only [if_true]
      refine fun a ha => ⟨fun q hq hne => ?_, fnz a ha⟩
      rcases List.mem_cons.mp hq with rfl | hq
      · exact absurd rfl hne
      · simp only [if_neg hne]
        exact fne a ha q (hnm q hq).1
    · obtain ⟨h1, h2⟩ := hnm p hp
      simp only [if_neg h2]
      refine fun a ha => ⟨fun q hq hne => ?_, (y.own p h1 ((hO _ ho).resolve_left h2) a ha).2⟩
      rcases List.mem_cons.mp hq with rfl | hq
      · simp only [if_true]
        exact fun hq' => fne a hq' p h1 ha
      · obtain ⟨g1, g2⟩ := hnm q hq
        simp only [if_neg g2]
        exact (y.own p h1 ((hO _ ho).resolve_left h2) a ha).1 q g1 hne
  · exact fun z hz => ⟨hs.extBut _ _ (boff _ (y.zed z hz).2) (y₁.zed z hz).1, (y.zed z hz).2⟩
  · exact y.wz
theorem st_storeT {M : Model} {A : Around} {E : Value → Shared → Prop} {x : Str} {v : Value} {d : D} {fp : List Addr} {s₁ : Shared} {Q : Unit → Shared → Prop} (y : St X s₀ env σ O Z W s) (k : Kp s s₁) (hx : KOk env x) (hce : CellsOkN env)
    (hr : Rep X.C s₁.heap v d fp) (hf : ∀ a ∈ fp, s.heap.get? a = none) (hd : Del x σ σ') (hO : ∀ z ∈ O', z = x ∨ z ∈ O)
    (h : ∀ s', St X s₀ env ((x, d) :: σ') O' Z W s' → (env.kindOf x = some .local → s₁.toks < s'.toks) → Q () s') : wpAny M A (storeName env x v) Q E s₁ := by
  obtain ⟨m, cm, V, FP, y⟩ := y
  exact st_storeD y k hx hce hr hf hd hO fun s' m' cm' y' ht _ => h s' ⟨m', cm', _, _, y'⟩ ht
/-- a thing turned that is none of the state's -/
theorem StD.but {m cm V FP} (y : StD X s₀ env σ O Z W s m cm V FP) {C : Addr} {h' : Heap} (hs : Heap.SameBut C s.heap h') (hC : Off env C) (hf : ∀ p ∈ σ, C ∉ FP p.1) (hz : ∀ z ∈ Z, C ≠ z.1) (hn : s₀.heap.get? C = none) : StD X s₀ env σ O Z W { s with heap := h' } m cm V FP where
  call := by
    have := icc_but (tk := s.toks) y.call hs hC.1 hC.2 hn
    exact this
  gl := y.gl
  tok := y.tok
  ev := y.ev
  var := y.var
  rep := fun p hp => (y.rep p hp).at fun c hc o e => hs.extBut c o (fun q => hf p hp (q ▸ hc)) e
  off := y.off
  new := y.new
  own := y.own
  zed := fun z hzz => ⟨hs.extBut _ _ (fun q => hz z hzz q.symm) (y.zed z hzz).1, (y.zed z hzz).2⟩
  wz := y.wz
theorem st_store {M : Model} {A : Around} {E : Value → Shared → Prop} {x : Str} {v : Value} {d : D} {fp : List Addr} {s₁ : Shared} {Q : Unit → Shared → Prop} (y : St X s₀ env σ O Z W s) (k : Kp s s₁) (hx : KOk env x) (hce : CellsOkN env)
    (hr : Rep X.C s₁.heap v d fp) (hf : ∀ a ∈ fp, s.heap.get? a = none) (hd : Del x σ σ') (hO : ∀ z ∈ O', z = x ∨ z ∈ O)
    (h : ∀ s', St X s₀ env ((x, d) :: σ') O' Z W s' → Q () s') : wpAny M A (storeName env x v) Q E s₁ := st_storeT y k hx hce hr hf hd hO fun s' y' _ => h s' y'
end W40
end
section
open PySem PySem.W PyProof.Rows
set_option Elab.async false
set_option maxRecDepth 20000
set_option linter.unusedVariables false
namespace W40
open PySem PySem.W PyProof.Rows PySem.Calls
variable {X : Cx} {n : Nat} {env : Env} {σ σ' : List (Str × D)} {O O' : List Str} {Z : List (Addr × Obj)} {W : List Addr} {s₀ s : Shared}

/-- what a name of its own holds may be turned -/
theorem st_mutate (y : St X s₀ env σ O Z W s) {x : Str} {d : D} (hm : (x, d) ∈ σ) (ho : x ∈ O) :
    ∃ v fp, VarIs env s.heap x v ∧ Rep X.C s.heap v d fp ∧ ∀ s₁ a h' tk fp' d', Kp s s₁ → a ∈ fp → Heap.SameBut a s₁.heap h' → Rep X.C h' v d' fp' → (∀ b ∈ fp', b ∈ fp ∨ s.heap.get? b = none) → CellsOkN env → s₁.toks ≤ tk → Del x σ σ' →
      St X s₀ env ((x, d') :: σ') O Z W { s₁ with heap := h', toks := tk } := by
  obtain ⟨m, cm, V, FP, y⟩ := y
  refine ⟨V x, FP x, y.varIs hm, y.rep _ hm, fun s₁ a h' tk fp' d' k ha hs hr hfp hce htk hd => ?_⟩
  have y₁ := y.kp k
  have hnm := hd.mem
  have hown := y.own _ hm ho
  have aoff := (y.off _ hm a ha).1
  have live : ∀ p ∈ σ, ∀ a ∈ FP p.1, ∃ o, s.heap.get? a = some o := fun p hp => (y.rep p hp).live
  have nfp : ∀ b ∈ fp', b ∉ FP x → s.heap.get? b = none := fun b hb hn => (hfp b hb).resolve_left hn
  have apart : ∀ b ∈ fp', ∀ p ∈ σ, p.1 ≠ x → b ∉ FP p.1 := fun b hb p hp hne hq => by
    rcases hfp b hb with h1 | h1
    · exact (hown b h1).1 p hp hne hq
    · obtain ⟨o, e⟩ := live p hp b hq
      rw [h1] at e; cases e
  have zapart : ∀ b ∈ fp', ∀ z ∈ Z, b ≠ z.1 := fun b hb z hz q => by
    rcases hfp b hb with h1 | h1
    · exact (hown b h1).2 z hz q
    · have := (y.zed z hz).1
      rw [← q, h1] at this; cases this
  refine ⟨m, cm, V, fun z => if z = x then fp' else FP z, ?_⟩
  constructor
  · exact icc_but y₁.call hs aoff.1 aoff.2 (y.new _ hm ho a ha)
  · exact y.gl
  · exact Nat.le_trans y₁.tok htk
  · exact y.ev
  · intro p hp
    rcases List.mem_cons.mp hp with rfl | hp
    · exact y.var (_, d) hm
    · exact y.var p (hnm p hp).1
  · intro p hp
    rcases List.mem_cons.mp hp with rfl | hp
    · simpa using hr
    · obtain ⟨h1, h2⟩ := hnm p hp
      simp only [if_neg h2]
      exact (y₁.rep p h1).at fun c hc o e => hs.extBut c o (fun q => (hown a ha).1 p h1 h2 (q ▸ hc)) e
  · intro p hp
    rcases List.mem_cons.mp hp with rfl | hp
    · simp only [if_true]
      intro b hb
      rcases hfp b hb with h1 | h1
      · exact y.off _ hm b h1
      · refine ⟨y.frame_live hce h1, fun hw => ?_⟩
        obtain ⟨o, hz⟩ := y.wz b hw
        exact zapart b hb _ hz rfl
    · obtain ⟨h1, h2⟩ := hnm p hp
      simp only [if_neg h2]
      exact y.off p h1
  · intro p hp hpo
    rcases List.mem_cons.mp hp with rfl | hp
    · simp only [if_true]
      intro b hb
      rcases hfp b hb with h1 | h1
      · exact y.new _ hm ho b h1
      · exact y.base.fresh h1
    · obtain ⟨h1, h2⟩ := hnm p hp
      simp only [if_neg h2]
      exact y.new p h1 hpo
  · intro p hp hpo
    rcases List.mem_cons.mp hp with rfl | hp
    · simp only [if_true]
      refine fun b hb => ⟨fun q hq hne => ?_, zapart b hb⟩
      rcases List.mem_cons.mp hq with rfl | hq
      · exact absurd rfl hne
      · simp only [if_neg hne]
        exact apart b hb q (hnm q hq).1 hne
    · obtain ⟨h1, h2⟩ := hnm p hp
      simp only [if_neg h2]
      refine fun b hb => ⟨fun q hq hne => ?_, (y.own p h1 hpo b hb).2⟩
      rcases List.mem_cons.mp hq with rfl | hq
      · simp only [if_true]
        exact fun hb' => apart b hb' p h1 h2 hb
      · obtain ⟨g1, g2⟩ := hnm q hq
        simp only [if_neg g2]
        exact (y.own p h1 hpo b hb).1 q g1 hne
  · exact fun z hz => ⟨hs.extBut _ _ (fun q => (hown a ha).2 z hz q.symm) (y₁.zed z hz).1, (y.zed z hz).2⟩
  · exact y.wz

/-- the state by which a rule goes on -/
abbrev Wp (X : Cx) (A : Around) (env : Env) (sts : List Stmt) (Q : Flow → Shared → Prop) (E : Value → Shared → Prop) (s : Shared) : Prop := wpAny (model X.prog X.w) A (execs sts env) Q E s
/-- behind a block: the rest, or out -/
def Th (X : Cx) (A : Around) (env : Env) (rest : List Stmt) (Q : Flow → Shared → Prop) (E : Value → Shared → Prop) : Flow → Shared → Prop := fun f s' => match f with
  | .next => Wp X A env rest Q E s'
  | f => Q f s'
variable {A : Around} {E : Value → Shared → Prop} {Q : Flow → Shared → Prop} {rest : List Stmt}

theorem ex_nil (h : Q .next s) : Wp X A env [] Q E s := wpAny_execs_nil h

/-- x = e -/
theorem ex_assign {x : Str} {px pos : Pos} {e : Expr} {d : D} (y : St X s₀ env σ O Z W s) (a : AOk n A) (he : EvF X n env σ e d) (hx : KOk env x) (hce : CellsOkN env) (hd : Del x σ σ') (hO : ∀ z ∈ O', z = x ∨ z ∈ O)
    (k : ∀ s', St X s₀ env ((x, d) :: σ') O' Z W s' → Wp X A env rest Q E s') (hs : swapsWith e (some (.Name x px)) pos.line env = pure false := by rfl) : Wp X A env (.Assign [.Name x px] e pos :: rest) Q E s := by
  refine wpAny_execs_cons (wpAny_Assign_Name (wpAny_mono (he A s E a y.gl y.rel) (fun v s₁ ⟨k₁, fp, hr, hf⟩ => ?_) fun _ _ x => x) hs)
  exact st_store y k₁ hx hce hr hf hd hO fun s' y' => k s' y'

/-- x = e, a token spent -/
theorem ex_assignT {x : Str} {px pos : Pos} {e : Expr} {d : D} (y : St X s₀ env σ O Z W s) (a : AOk n A) (he : EvF X n env σ e d) (hl : env.kindOf x = some .local) (hx : KOk env x) (hce : CellsOkN env) (hd : Del x σ σ') (hO : ∀ z ∈ O', z = x ∨ z ∈ O)
    (k : ∀ s', St X s₀ env ((x, d) :: σ') O' Z W s' → 1 ≤ s'.toks → Wp X A env rest Q E s') (hs : swapsWith e (some (.Name x px)) pos.line env = pure false := by rfl) : Wp X A env (.Assign [.Name x px] e pos :: rest) Q E s := by
  refine wpAny_execs_cons (wpAny_Assign_Name (wpAny_mono (he A s E a y.gl y.rel) (fun v s₁ ⟨k₁, fp, hr, hf⟩ => ?_) fun _ _ x => x) hs)
  exact st_storeT y k₁ hx hce hr hf hd hO fun s' y' ht => k s' y' (Nat.lt_of_le_of_lt (Nat.zero_le _) (ht hl))
/-- the floor of the tokens raised -/
theorem St.raise {X' : Cx} (y : St X s₀ env σ O Z W s) (h1 : X'.prog = X.prog) (h2 : X'.w = X.w) (h3 : X'.K = X.K) (h4 : X'.C = X.C) (ht : X'.T ≤ s.toks) (h0 : s₀.toks ≤ s.toks) : St X' { s₀ with toks := s.toks } env σ O Z W s := by
  obtain ⟨m, cm, V, FP, y⟩ := y
  refine ⟨m, cm, V, FP, ⟨⟨?_, y.call.toInCall.ns, y.call.toInCall.keep, y.call.toInCall.fresh⟩, y.call.cell, y.call.apart, y.call.above⟩, ⟨by rw [h3]; exact y.gl.kin, y.gl.glb, y.gl.lim, ht⟩, Nat.le_refl _, y.ev, y.var, fun p hp => by rw [h4]; exact y.rep p hp, y.off, y.new, y.own, y.zed, y.wz⟩
  obtain ⟨h, tk, e⟩ := y.call.toInCall.same
  exact ⟨h, tk, by rw [e]⟩
theorem ev_loadName {x : Str} {d : D} (y : St X s₀ env σ O Z W s) (hm : (x, d) ∈ σ) {Q : Value → Shared → Prop} (h : ∀ v fp, Rep X.C s.heap v d fp → Q v s) : wpAny (model X.prog X.w) A (loadName env x) Q E s := by
  obtain ⟨v, fp, hv, hr⟩ := y.rel _ hm
  exact loadName_var y.envOk hv (h v fp hr)

/-- x op= e -/
theorem ex_aug {x : Str} {px pos : Pos} {op : Operator} {e : Expr} {d1 d2 d : D} (y : St X s₀ env σ O Z W s) (a : AOk n A) (hm : (x, d1) ∈ σ) (he : Ev X n env σ e d2) (hop : InOk X n op d1 d2 d) (hx : KOk env x) (hce : CellsOkN env) (hd : Del x σ σ') (hO : ∀ z ∈ O', z = x ∨ z ∈ O)
    (k : ∀ s', St X s₀ env ((x, d) :: σ') O' Z W s' → Wp X A env rest Q E s') : Wp X A env (.AugAssign (.Name x px) op e pos :: rest) Q E s := by
  refine wpAny_execs_cons (wpAny_AugAssign_Name (ev_loadName y hm fun v1 fp1 r1 => wpAny_mono (he A s E a y.gl y.rel) (fun v2 s1 ⟨k1, fp2, r2⟩ => ?_) fun _ _ x => x))
  refine wpAny_mono (hop A s1 E v1 v2 fp1 fp2 a (y.gl.kp k1) (r1.keeps k1.keep) r2) (fun v s2 ⟨k2, fp, hr, hf⟩ => ?_) fun _ _ x => x
  exact st_store y (k1.trans k2) hx hce hr (fun b hb => k1.fresh (hf b hb)) hd hO fun s' y' => k s' y'

/-- if -/
theorem ex_if {test : Expr} {body orelse : List Stmt} {pos : Pos} {b : Bool} (y : St X s₀ env σ O Z W s) (a : AOk n A) (hc : Cn X n env σ test b)
    (h1 : b = true → ∀ s', St X s₀ env σ O Z W s' → Wp X A env body (Th X A env rest Q E) E s') (h2 : b = false → ∀ s', St X s₀ env σ O Z W s' → Wp X A env orelse (Th X A env rest Q E) E s') : Wp X A env (.If test body orelse pos :: rest) Q E s := by
  refine wpAny_execs_cons (wpAny_If (wpAny_mono (hc A s E a y.gl y.rel) (fun c s1 ⟨hc', k1⟩ => ?_) fun _ _ x => x))
  subst hc'
  cases c with
  | true => exact h1 rfl s1 (y.kp k1)
  | false => exact h2 rfl s1 (y.kp k1)
theorem ex_pass_break {pos : Pos} (h : Q .brk s) : Wp X A env (.Break pos :: rest) Q E s := wpAny_execs_cons (wpAny_Break h)
/-- return e, a new value -/
theorem ex_return {e : Expr} {d : D} {pos : Pos} (y : St X s₀ env σ O Z W s) (a : AOk n A) (he : EvF X n env σ e d) (h : ∀ v s', PostF X s₀ d v s' → Q (.ret v) s') : Wp X A env (.Return (some e) pos :: rest) Q E s :=
  wpAny_execs_cons (wpAny_Return_some (wpAny_mono (he A s E a y.gl y.rel) (fun v s₁ hp => h v s₁ (hp.lift y.base)) fun _ _ x => x))
/-- return x, a thing of the call's own -/
theorem ex_return_own {x : Str} {px pos : Pos} {d : D} (y : St X s₀ env σ O Z W s) (hm : (x, d) ∈ σ) (ho : x ∈ O) (h : ∀ v s', PostF X s₀ d v s' → Q (.ret v) s') : Wp X A env (.Return (some (.Name x px)) pos :: rest) Q E s := by
  obtain ⟨m, cm, V, FP, y⟩ := y
  exact wpAny_execs_cons (wpAny_Return_some (name_var y.ev (y.varIs hm) (h _ _ ⟨y.base, FP x, y.rep _ hm, y.new _ hm ho⟩)))

theorem set_are_ints : ∀ {vs : List Value} {l : List Int}, IntsAre vs l → ∀ (j : Nat) (i : Int) (t : Tok), IntsAre (vs.set j (.int i t)) (l.set j i)
  | _, _, .nil, _, _, _ => .nil
  | _, _, .cons m u h, 0, i, t => .cons i t h
  | _, _, .cons m u h, j + 1, i, t => .cons m u (set_are_ints h j i t)
theorem set_are_strs : ∀ {vs : List Value} {l : List Str}, StrsAre vs l → ∀ (j : Nat) (i : Str) (t : Tok), StrsAre (vs.set j (.str i t)) (l.set j i)
  | _, _, .nil, _, _, _ => .nil
  | _, _, .cons m u h, 0, i, t => .cons i t h
  | _, _, .cons m u h, j + 1, i, t => .cons m u (set_are_strs h j i t)

/-- l[k] = v upon a plain list: at a place counted from the front -/
theorem set_front {prog : Program} {w : World} {s : Shared} {Q : Unit → Shared → Prop} {l : Addr} {vs : List Value} {k : Int} {t : Tok} {v : Value} (hl : s.heap.PlainList l vs.toArray) (h0 : 0 ≤ k) (hfit : k < 2 ^ 63) (hn : k < vs.length)
    (hQ : ∀ h', h'.PlainList l (vs.set k.toNat v).toArray → Heap.SameBut l s.heap h' → Q () { s with heap := h' }) : wpAny (model prog w) A (setItem (.ref l) (.int k t) v) Q E s := by
  obtain ⟨q, ho⟩ := id hl
  have hT : s.TypeIs (.ref l) "list" := pl_type hl
  unfold setItem
  try with_reducible refine wpAny_holding ?_
  refine wpAny_bind (wpAny_sequenceKey hT (by decide) ?_)
  refine wpAny_bind (wpAny_callSpecial?_slot (name := Str.ofString "__setitem__") hT slot_list_setitem (wpAny_call_entry slot_list_setitem hT entry_list_setitem ?_ (args_list_setitem _ _ _)))
  show wpAny _ _ (Builtin.List.listSubscript? (.int k t) >>= _) _ _ s
  refine wpAny_bind (wpAny_listSubscript_int (fitsIndex_of h0 hfit) ?_)
  clear hfit
  obtain ⟨j, rfl⟩ := Int.eq_ofNat_of_zero_le h0
  have hj : j < vs.toArray.size := by rw [List.size_toArray]; omega
  show wpAny _ _ ((seqItemAt l j >>= fun r => pure (r.map (j, ·))) >>= _) _ _ s
  refine wpAny_bind (wpAny_bind (wpAny_seqItemAt ho rfl (wpAny_pure ?_)))
  rw [Array.getElem?_eq_getElem hj]
  show wpAny _ _ (setSeqItemAt l j v >>= _) _ _ s
  refine wpAny_bind (wpAny_setSeqItemAt ho rfl ?_)
  have hfin : (s.heap.update l (Obj.mapSeq (·.setIfInBounds j v))).PlainList l (vs.set j v).toArray := by
    have := IsL.update ho (·.setIfInBounds j v)
    rw [List.setIfInBounds_toArray] at this
    exact ⟨_, this⟩
  first
    | exact wpAny_bind (wpAny_pure (wpAny_pure ⟨.none, rfl, wpAny_pure (hQ _ hfin (Heap.SameBut.update ..))⟩))
    | exact wpAny_pure ⟨.none, rfl, wpAny_pure (hQ _ hfin (Heap.SameBut.update ..))⟩
/-- l[-1] = v -/
theorem set_last {prog : Program} {w : World} {s : Shared} {Q : Unit → Shared → Prop} {l : Addr} {vs : List Value} {t : Tok} {v : Value} (hl : s.heap.PlainList l vs.toArray) (hn : 0 < vs.length)
    (hQ : ∀ h', h'.PlainList l (vs.set (vs.length - 1) v).toArray → Heap.SameBut l s.heap h' → Q () { s with heap := h' }) : wpAny (model prog w) A (setItem (.ref l) (.int (-1) t) v) Q E s := by
  obtain ⟨q, ho⟩ := id hl
  have hT : s.TypeIs (.ref l) "list" := pl_type hl
  unfold setItem
  try with_reducible refine wpAny_holding ?_
  refine wpAny_bind (wpAny_sequenceKey hT (by decide) ?_)
  refine wpAny_bind (wpAny_callSpecial?_slot (name := Str.ofString "__setitem__") hT slot_list_setitem (wpAny_call_entry slot_list_setitem hT entry_list_setitem ?_ (args_list_setitem _ _ _)))
  show wpAny _ _ (Builtin.List.listSubscript? (.int (-1) t) >>= _) _ _ s
  refine wpAny_bind (wpAny_listSubscript_int (fitsIndex_neg (by decide) (by decide)) ?_)
  have hidx := seqIndex_neg (k := -1) (n := vs.length) (by decide) (by omega)
  have ej : ((-1 : Int) + (vs.length : Int)).toNat = vs.length - 1 := by omega
  rw [ej] at hidx
  show wpAny _ _ ((Builtin.List.listItems (.ref l) >>= fun xs => pure ((seqIndex? (Int.negSucc 0) xs.size).bind fun i => xs[i]?.map (i, ·))) >>= _) _ _ s
  refine wpAny_bind (wpAny_bind ?_)
  show wpAny _ _ (seqItems? (.ref l) >>= _) _ _ s
  refine wpAny_bind (wpAny_seqItems ho rfl (wpAny_pure (wpAny_pure ?_)))
  have hlt : vs.length - 1 < vs.toArray.size := by rw [List.size_toArray]; omega
  rw [show seqIndex? (Int.negSucc 0) vs.toArray.size = some (vs.length - 1) by rw [List.size_toArray]; exact hidx]
  simp only [Option.bind_some, Array.getElem?_eq_getElem hlt, Option.map_some]
  show wpAny _ _ (setSeqItemAt l (vs.length - 1) v >>= _) _ _ s
  refine wpAny_bind (wpAny_setSeqItemAt ho rfl ?_)
  have hfin : (s.heap.update l (Obj.mapSeq (·.setIfInBounds (vs.length - 1) v))).PlainList l (vs.set (vs.length - 1) v).toArray := by
    have := IsL.update ho (·.setIfInBounds (vs.length - 1) v)
    rw [List.setIfInBounds_toArray] at this
    exact ⟨_, this⟩
  first
    | exact wpAny_bind (wpAny_pure (wpAny_pure ⟨.none, rfl, wpAny_pure (hQ _ hfin (Heap.SameBut.update ..))⟩))
    | exact wpAny_pure ⟨.none, rfl, wpAny_pure (hQ _ hfin (Heap.SameBut.update ..))⟩

/-- x[i] = e, x a list of ints of the call's own -/
theorem ex_set_int {x : Str} {px pos' pos : Pos} {i e : Expr} {l : List Int} {k v : Int} (y : St X s₀ env σ O Z W s) (a : AOk n A) (hm : (x, .il l) ∈ σ) (ho : x ∈ O) (he : Ev X n env σ e (.int v)) (hi : Ev X n env σ i (.int k)) (h0 : 0 ≤ k) (hf : k < 2 ^ 63) (hk : k < l.length) (hce : CellsOkN env) (hd : Del x σ σ')
    (kk : ∀ s', St X s₀ env ((x, .il (l.set k.toNat v)) :: σ') O Z W s' → Wp X A env rest Q E s') (hs : swapsWith e (some (.Subscript (.Name x px) i pos')) pos.line env = pure false := by rfl) : Wp X A env (.Assign [.Subscript (.Name x px) i pos'] e pos :: rest) Q E s := by
  obtain ⟨u, fp, hv, hr, mutz⟩ := st_mutate y hm ho
  obtain ⟨b, vs, rfl, hl, hi', rfl⟩ := hr
  refine wpAny_execs_cons (wpAny_Assign_Subscript (wpAny_mono (he A s E a y.gl y.rel) (fun v1 s1 ⟨k1, fp1, ⟨t1, hv1⟩, _⟩ => ?_) fun _ _ x => x) hs)
  subst hv1
  refine name_var y.envOk (hv.keeps k1.keep) ?_
  refine wpAny_mono (hi A s1 E a (y.gl.kp k1) (y.rel.kp k1)) (fun v2 s2 ⟨k2, fp2, ⟨t2, hv2⟩, _⟩ => ?_) fun _ _ x => x
  subst hv2
  have k12 := k1.trans k2
  refine set_front (hl.at fun o e => k12.keep _ o e) h0 hf (by rw [hi'.length]; exact hk) fun h' hl' hs' => kk _ ?_
  obtain ⟨hh, tt, rfl⟩ := k12.same
  exact mutz _ b h' tt [b] _ k12 (.head _) hs' ⟨b, _, rfl, hl', set_are_ints hi' _ _ _, rfl⟩ (fun c hc => .inl hc) hce (Nat.le_refl _) hd
theorem ex_set_str {x : Str} {px pos' pos : Pos} {i e : Expr} {l : List Str} {k : Int} {v : Str} (y : St X s₀ env σ O Z W s) (a : AOk n A) (hm : (x, .sl l) ∈ σ) (ho : x ∈ O) (he : Ev X n env σ e (.str v)) (hi : Ev X n env σ i (.int k)) (h0 : 0 ≤ k) (hf : k < 2 ^ 63) (hk : k < l.length) (hce : CellsOkN env) (hd : Del x σ σ')
    (kk : ∀ s', St X s₀ env ((x, .sl (l.set k.toNat v)) :: σ') O Z W s' → Wp X A env rest Q E s') (hs : swapsWith e (some (.Subscript (.Name x px) i pos')) pos.line env = pure false := by rfl) : Wp X A env (.Assign [.Subscript (.Name x px) i pos'] e pos :: rest) Q E s := by
  obtain ⟨u, fp, hv, hr, mutz⟩ := st_mutate y hm ho
  obtain ⟨b, vs, rfl, hl, hi', rfl⟩ := hr
  refine wpAny_execs_cons (wpAny_Assign_Subscript (wpAny_mono (he A s E a y.gl y.rel) (fun v1 s1 ⟨k1, fp1, ⟨t1, hv1⟩, _⟩ => ?_) fun _ _ x => x) hs)
  subst hv1
  refine name_var y.envOk (hv.keeps k1.keep) ?_
  refine wpAny_mono (hi A s1 E a (y.gl.kp k1) (y.rel.kp k1)) (fun v2 s2 ⟨k2, fp2, ⟨t2, hv2⟩, _⟩ => ?_) fun _ _ x => x
  subst hv2
  have k12 := k1.trans k2
  refine set_front (hl.at fun o e => k12.keep _ o e) h0 hf (by rw [hi'.length]; exact hk) fun h' hl' hs' => kk _ ?_
  obtain ⟨hh, tt, rfl⟩ := k12.same
  exact mutz _ b h' tt [b] _ k12 (.head _) hs' ⟨b, _, rfl, hl', set_are_strs hi' _ _ _, rfl⟩ (fun c hc => .inl hc) hce (Nat.le_refl _) hd
theorem ex_set_last {x : Str} {px pos' pos : Pos} {i e : Expr} {l : List Str} {v : Str} (y : St X s₀ env σ O Z W s) (a : AOk n A) (hm : (x, .sl l) ∈ σ) (ho : x ∈ O) (he : Ev X n env σ e (.str v)) (hi : Ev X n env σ i (.int (-1))) (hk : 0 < l.length) (hce : CellsOkN env) (hd : Del x σ σ')
    (kk : ∀ s', St X s₀ env ((x, .sl (l.set (l.length - 1) v)) :: σ') O Z W s' → Wp X A env rest Q E s') (hs : swapsWith e (some (.Subscript (.Name x px) i pos')) pos.line env = pure false := by rfl) : Wp X A env (.Assign [.Subscript (.Name x px) i pos'] e pos :: rest) Q E s := by
  obtain ⟨u, fp, hv, hr, mutz⟩ := st_mutate y hm ho
  obtain ⟨b, vs, rfl, hl, hi', rfl⟩ := hr
  refine wpAny_execs_cons (wpAny_Assign_Subscript (wpAny_mono (he A s E a y.gl y.rel) (fun v1 s1 ⟨k1, fp1, ⟨t1, hv1⟩, _⟩ => ?_) fun _ _ x => x) hs)
  subst hv1
  refine name_var y.envOk (hv.keeps k1.keep) ?_
  refine wpAny_mono (hi A s1 E a (y.gl.kp k1) (y.rel.kp k1)) (fun v2 s2 ⟨k2, fp2, ⟨t2, hv2⟩, _⟩ => ?_) fun _ _ x => x
  subst hv2
  have k12 := k1.trans k2
  refine set_last (hl.at fun o e => k12.keep _ o e) (by rw [hi'.length]; exact hk) fun h' hl' hs' => kk _ ?_
  obtain ⟨hh, tt, rfl⟩ := k12.same
  rw [hi'.length] at hl'
  exact mutz _ b h' tt [b] _ k12 (.head _) hs' ⟨b, _, rfl, hl', set_are_strs hi' _ _ _, rfl⟩ (fun c hc => .inl hc) hce (Nat.le_refl _) hd

/-- x[i] += e, x a list of ints of the call's own -/
theorem ex_augset_int {x : Str} {px pos' pos : Pos} {i e : Expr} {op : Operator} {l : List Int} {k v o r : Int} (y : St X s₀ env σ O Z W s) (a : AOk n A) (hm : (x, .il l) ∈ σ) (ho : x ∈ O) (he : Ev X n env σ e (.int v)) (hi : Ev X n env σ i (.int k)) (h0 : 0 ≤ k) (hf : k < 2 ^ 63) (hk : l[k.toNat]? = some o) (hop : InOk X n op (.int o) (.int v) (.int r)) (hce : CellsOkN env) (hd : Del x σ σ')
    (kk : ∀ s', St X s₀ env ((x, .il (l.set k.toNat r)) :: σ') O Z W s' → Wp X A env rest Q E s') (hs : ∀ ov iv new, augStore i ov iv new = (do holding [new, ov, iv] (setItem ov iv new); release [new, ov, iv] []; pure .next) := by intro _ _ _; rfl) : Wp X A env (.AugAssign (.Subscript (.Name x px) i pos') op e pos :: rest) Q E s := by
  obtain ⟨u, fp, hv, hr, mutz⟩ := st_mutate y hm ho
  obtain ⟨b, vs, rfl, hl, hi', rfl⟩ := hr
  have hlen : k < l.length := by
    have : k.toNat < l.length := by
      rcases Nat.lt_or_ge k.toNat l.length with h | h
      · exact h
      · rw [List.getElem?_eq_none h] at hk; cases hk
    omega
  refine wpAny_execs_cons (wpAny_AugAssign_SubscriptAny (name_var y.envOk hv ?_) hs)
  refine wpAny_mono (hi A s E a y.gl y.rel) (fun v1 s1 ⟨k1, fp1, ⟨t1, hv1⟩, _⟩ => ?_) fun _ _ x => x
  subst hv1
  obtain ⟨t9, h9⟩ := hi'.get _ _ hk
  refine wpAny_getItem_list (hl.isList.at fun o e => k1.keep _ o e) h0 hf (by simpa using h9) ?_
  refine wpAny_mono (he A s1 E a (y.gl.kp k1) (y.rel.kp k1)) (fun v2 s2 ⟨k2, fp2, r2⟩ => ?_) fun _ _ x => x
  have k12 := k1.trans k2
  refine wpAny_mono (hop A s2 E _ v2 [] fp2 a (y.gl.kp k12) ⟨⟨t9, rfl⟩, rfl⟩ r2) (fun v3 s3 ⟨k3, fp3, ⟨⟨t3, hv3⟩, _⟩, _⟩ => ?_) fun _ _ x => x
  subst hv3
  have k13 := k12.trans k3
  refine set_front (hl.at fun o e => k13.keep _ o e) h0 hf (by rw [hi'.length]; exact hlen) fun h' hl' hs' => kk _ ?_
  obtain ⟨hh, tt, rfl⟩ := k13.same
  exact mutz _ b h' tt [b] _ k13 (.head _) hs' ⟨b, _, rfl, hl', set_are_ints hi' _ _ _, rfl⟩ (fun c hc => .inl hc) hce (Nat.le_refl _) hd

theorem snoc_ints {vs : List Value} {l : List Int} (h : IntsAre vs l) (i : Int) (t : Tok) : IntsAre (vs ++ [.int i t]) (l ++ [i]) := h.append (.cons i t .nil)
theorem snoc_strs {vs : List Value} {l : List Str} (h : StrsAre vs l) (i : Str) (t : Tok) : StrsAre (vs ++ [.str i t]) (l ++ [i]) := h.append' (.cons i t .nil)
theorem snoc_ips {h : Heap} {vs : List Value} {l : List (Int × Int)} {bs : List Addr} (x : IPs h vs l bs) {v : Value} {p : Int × Int} {b : Addr} (y : IsIP h v p b) : IPs h (vs ++ [v]) (l ++ [p]) (bs ++ [b]) := by
  induction x with
  | nil => exact .cons y .nil
  | cons h1 _ ih => exact .cons h1 ih

/-- x.append(e) -/
theorem ex_append {x : Str} {px ap cp ep : Pos} {e : Expr} {d dv d' : D} (y : St X s₀ env σ O Z W s) (a : AOk n A) (hm : (x, d) ∈ σ) (ho : x ∈ O) (he : EvF X n env σ e dv) (hce : CellsOkN env) (hd : Del x σ σ')
    (hrep : ∀ (h : Heap) v fp, Rep X.C h v d fp → ∃ b vs fp', v = .ref b ∧ fp = b :: fp' ∧ h.PlainList b (List.toArray vs) ∧ vs.length ≤ sizeLine ∧
      ∀ h' u fpu, h'.PlainList b (List.toArray (vs ++ [u])) → (∀ c o, c ≠ b → h.get? c = some o → h'.get? c = some o) → b ∉ fpu → Rep X.C h' u dv fpu → ∃ fp'', Rep X.C h' (.ref b) d' fp'' ∧ ∀ c ∈ fp'', c ∈ fp ∨ c ∈ fpu)
    (kk : ∀ s', St X s₀ env ((x, d') :: σ') O Z W s' → Wp X A env rest Q E s')
    (hline : (ap.endLine == cp.line) = true) (hx : starEach [e] env = [(false, eval e env)] := by rfl) (hint : interactive env = false := by rfl)
    (hsw : swapsWith (.Call (.Attribute (.Name x px) "append" ap) [e] [] cp) none ep.line env = pure false := by rfl)
    (hfew : ((backTo cp (starEach [e] env)).all (fun x => !x.1) && (backToKw cp (keywordEach [] env)).all (fun x => x.1.isSome) && decide ([e].length + ([] : List Keyword).length + (if ([] : List Keyword).isEmpty then 0 else 1) < 30)) = true := by rfl)
    (hany : (backTo cp (starEach [e] env)).any (·.1) = false := by rfl) : Wp X A env (.Expr (.Call (.Attribute (.Name x px) "append" ap) [e] [] cp) ep :: rest) Q E s := by
  obtain ⟨v, fp, hv, hr, mutz⟩ := st_mutate y hm ho
  obtain ⟨b, vs, fp', rfl, rfl, hl, hz, hrep⟩ := hrep _ _ _ hr
  refine wpAny_execs_cons (wpAny_Expr ?_ hint hsw)
  refine wpAny_Call_method_lateS rfl hfew hline (name_var y.envOk hv ?_)
  refine ⟨"list", _, F.plainAttrs_list, F.slot_list_append, F.type_list_append, pl_type hl, fun c e => ?_, callWith_builtin hany ?_⟩
  · cases e
    obtain ⟨q, ho⟩ := hl
    exact ⟨_, ho, rfl⟩
  · rw [hx]
    refine evalArgs_plain (spliced_cons (wpAny_mono (he A s E a y.gl y.rel) (fun u s1 ⟨k1, fpu, ru, fu⟩ => spliced_nil ?_) fun _ _ x => x))
    have hl1 : s1.heap.PlainList b (List.toArray vs) := hl.at fun o e => k1.keep _ o e
    refine wpAny_list_append_plain hl1 (fun h' hl' hs' => ?_) (by rw [List.size_toArray]; exact hz)
    have hlb : b ∉ fpu := fun hb => by
      obtain ⟨q, ho⟩ := hl
      rw [fu b hb] at ho; cases ho
    obtain ⟨fp'', r'', hf''⟩ := hrep h' u fpu (by simpa using hl') (fun c o hc e => hs'.extBut c o hc (k1.keep c o e)) hlb (ru.at fun c hc o e => hs'.extBut c o (fun q => hlb (q ▸ hc)) e)
    refine kk _ ?_
    obtain ⟨hh, tt, rfl⟩ := k1.same
    exact mutz _ b h' tt fp'' _ k1 (.head _) hs' r'' (fun c hc => (hf'' c hc).imp id fun q => fu c q) hce (Nat.le_refl _) hd

theorem ap_int {l : List Int} {i : Int} (hz : l.length ≤ sizeLine) : ∀ (h : Heap) v fp, Rep X.C h v (.il l) fp → ∃ b vs fp', v = .ref b ∧ fp = b :: fp' ∧ h.PlainList b (List.toArray vs) ∧ vs.length ≤ sizeLine ∧
      ∀ h' u fpu, h'.PlainList b (List.toArray (vs ++ [u])) → (∀ c o, c ≠ b → h.get? c = some o → h'.get? c = some o) → b ∉ fpu → Rep X.C h' u (.int i) fpu → ∃ fp'', Rep X.C h' (.ref b) (.il (l ++ [i])) fp'' ∧ ∀ c ∈ fp'', c ∈ fp ∨ c ∈ fpu := by
  rintro h _ _ ⟨b, vs, rfl, hl, hi, rfl⟩
  refine ⟨b, vs, [], rfl, rfl, hl, by rw [hi.length]; exact hz, ?_⟩
  rintro h' _ _ hl' _ _ ⟨⟨t, rfl⟩, _⟩
  exact ⟨[b], ⟨b, _, rfl, hl', snoc_ints hi i t, rfl⟩, fun c hc => .inl hc⟩
theorem ap_str {l : List Str} {i : Str} (hz : l.length ≤ sizeLine) : ∀ (h : Heap) v fp, Rep X.C h v (.sl l) fp → ∃ b vs fp', v = .ref b ∧ fp = b :: fp' ∧ h.PlainList b (List.toArray vs) ∧ vs.length ≤ sizeLine ∧
      ∀ h' u fpu, h'.PlainList b (List.toArray (vs ++ [u])) → (∀ c o, c ≠ b → h.get? c = some o → h'.get? c = some o) → b ∉ fpu → Rep X.C h' u (.str i) fpu → ∃ fp'', Rep X.C h' (.ref b) (.sl (l ++ [i])) fp'' ∧ ∀ c ∈ fp'', c ∈ fp ∨ c ∈ fpu := by
  rintro h _ _ ⟨b, vs, rfl, hl, hi, rfl⟩
  refine ⟨b, vs, [], rfl, rfl, hl, by rw [hi.length]; exact hz, ?_⟩
  rintro h' _ _ hl' _ _ ⟨⟨t, rfl⟩, _⟩
  exact ⟨[b], ⟨b, _, rfl, hl', snoc_strs hi i t, rfl⟩, fun c hc => .inl hc⟩
theorem ips_len {h : Heap} {vs ps bs} (x : IPs h vs ps bs) : vs.length = ps.length := by induction x with | nil => rfl | cons _ _ ih => simp [ih]
theorem ap_ip {l : List (Int × Int)} {p : Int × Int} (hz : l.length ≤ sizeLine) : ∀ (h : Heap) v fp, Rep X.C h v (.pl l) fp → ∃ b vs fp', v = .ref b ∧ fp = b :: fp' ∧ h.PlainList b (List.toArray vs) ∧ vs.length ≤ sizeLine ∧
      ∀ h' u fpu, h'.PlainList b (List.toArray (vs ++ [u])) → (∀ c o, c ≠ b → h.get? c = some o → h'.get? c = some o) → b ∉ fpu → Rep X.C h' u (.ip p) fpu → ∃ fp'', Rep X.C h' (.ref b) (.pl (l ++ [p])) fp'' ∧ ∀ c ∈ fp'', c ∈ fp ∨ c ∈ fpu := by
  rintro h _ _ ⟨b, vs, bs, rfl, hl, hi, rfl⟩
  refine ⟨b, vs, bs, rfl, rfl, hl, by rw [ips_len hi]; exact hz, ?_⟩
  rintro h' u _ hl' hk hb ⟨c, hc, rfl⟩
  have hne : ∀ q ∈ bs, q ≠ b := by
    rintro q hq rfl
    obtain ⟨o, ho⟩ := hi.live q hq
    have : ∀ {vs ps bs}, IPs h vs ps bs → q ∈ bs → ∃ items, h.IsTuple q items := by
      intro vs ps bs x
      induction x with
      | nil => intro h; cases h
      | cons h1 _ ih =>
        intro hm
        rcases List.mem_cons.mp hm with rfl | hm
        · obtain ⟨_, t, u, r⟩ := h1; exact ⟨_, r⟩
        · exact ih hm
    obtain ⟨items, o', ho', hcls, _⟩ := this hi hq
    obtain ⟨n', hl''⟩ := hl
    rw [hl''] at ho'; cases ho'; exact absurd hcls (show ¬ (Value.type "list" = Value.type "tuple") by decide)
  refine ⟨b :: (bs ++ [c]), ⟨b, _, _, rfl, hl', snoc_ips (hi.at fun q hq o e => hk q o (hne q hq) e) hc, rfl⟩, fun q hq => ?_⟩
  rcases List.mem_cons.mp hq with rfl | hq
  · exact .inl (.head _)
  · rcases List.mem_append.mp hq with hq | hq
    · exact .inl (.tail _ hq)
    · exact .inr hq
end W40
end
section
open PySem PySem.W PyProof.Rows
set_option Elab.async false
set_option maxRecDepth 20000
set_option linter.unusedVariables false
namespace W40
open PySem PySem.W PyProof.Rows PySem.Calls
variable {X : Cx} {n : Nat} {env : Env} {σ σ' : List (Str × D)} {O O' : List Str} {Z Z' : List (Addr × Obj)} {W W' : List Addr} {s₀ s : Shared} {A : Around} {E : Value → Shared → Prop} {Q : Flow → Shared → Prop} {rest : List Stmt}

theorem St.zsub (x : St X s₀ env σ O Z W s) (hz : ∀ z ∈ Z', z ∈ Z) (hw : ∀ b ∈ W', b ∈ W) (hwz : ∀ b ∈ W', ∃ o, (b, o) ∈ Z') : St X s₀ env σ O Z' W' s := by
  obtain ⟨m, cm, V, FP, y⟩ := x
  exact ⟨m, cm, V, FP, y.call, y.gl, y.tok, y.ev, y.var, y.rep, fun p hp a ha => ⟨(y.off p hp a ha).1, fun h => (y.off p hp a ha).2 (hw a h)⟩, y.new,
    fun p hp ho a ha => ⟨(y.own p hp ho a ha).1, fun z h => (y.own p hp ho a ha).2 z (hz z h)⟩, fun z h => y.zed z (hz z h), hwz⟩
theorem St.wz (x : St X s₀ env σ O Z W s) : ∀ b ∈ W, ∃ o, (b, o) ∈ Z := let ⟨m, cm, V, FP, y⟩ := x; y.wz

theorem objs_of {h : Heap} (fp : List Addr) (hl : ∀ b ∈ fp, ∃ o, h.get? b = some o) : ∃ Zf : List (Addr × Obj), (∀ z ∈ Zf, h.get? z.1 = some z.2 ∧ z.1 ∈ fp) ∧ ∀ b ∈ fp, ∃ o, (b, o) ∈ Zf := by
  induction fp with
  | nil => exact ⟨[], (fun _ h => nomatch h), fun _ h => nomatch h⟩
  | cons b r ih =>
    obtain ⟨Zf, h1, h2⟩ := ih fun c hc => hl c (.tail _ hc)
    obtain ⟨o, ho⟩ := hl b (.head _)
    refine ⟨(b, o) :: Zf, fun z hz => ?_, fun c hc => ?_⟩
    · rcases List.mem_cons.mp hz with rfl | hz
      · exact ⟨ho, .head _⟩
      · exact ⟨(h1 z hz).1, .tail _ (h1 z hz).2⟩
    · rcases List.mem_cons.mp hc with rfl | hc
      · exact ⟨o, .head _⟩
      · obtain ⟨o', h'⟩ := h2 c hc
        exact ⟨o', .tail _ h'⟩

/-- the loop's iterator and its source stay out of what the names hold -/
structure Apt (env : Env) (s₀ : Shared) (σ : List (Str × D)) (O : List Str) (fp wr : List Addr) (Z : List (Addr × Obj)) (FP : Str → List Addr) : Prop where
  off : ∀ b ∈ fp, Off env b
  own : ∀ b ∈ fp, ∀ p ∈ σ, p.1 ∈ O → b ∉ FP p.1
  cut : ∀ b ∈ wr, ∀ p ∈ σ, b ∉ FP p.1
  z : ∀ b ∈ wr, ∀ z ∈ Z, b ≠ z.1
  new : ∀ b ∈ wr, s₀.heap.get? b = none

/-- a loop's end of a turn -/
def LoopQ (X : Cx) (s₀ : Shared) (env : Env) (σn : List (Str × D)) (O : List Str) (Z : List (Addr × Obj)) (W : List Addr) (Q : Flow → Shared → Prop) : Flow → Shared → Prop := fun f s => match f with
  | .next | .cont => St X s₀ env σn O Z W s
  | .brk => False
  | .ret v => Q (.ret v) s

/-- the target takes an item: what is known behind it -/
def AsgOk (X : Cx) (s₀ : Shared) (A : Around) (env : Env) (target : Expr) (d : D) (σ : List (Str × D)) (O : List Str) (add : List (Str × D)) : Prop :=
  ∀ Z W s v fpv E Q, St X s₀ env σ O Z W s → Rep X.C s.heap v d fpv → (∀ s', St X s₀ env (add ++ σ) O Z W s' → Q () s') → wpAny (model X.prog X.w) A (assign target env v) Q E s

theorem del_self {x : Str} : ∀ {l : List (Str × D)}, (∀ p ∈ l, p.1 ≠ x) → Del x l l
  | [], _ => .nil
  | p :: r, h => .keep (h p (.head _)) (del_self fun q hq => h q (.tail _ hq))

theorem asg_name {x : Str} {px : Pos} {d : D} (hx : KOk env x) (hce : CellsOkN env) (hf : d.flat = true) (hn : ∀ p ∈ σ, p.1 ≠ x) : AsgOk X s₀ A env (.Name x px) d σ O [(x, d)] := by
  intro Z W s v fpv E Q y hr h
  have := hr.flat hf
  subst this
  exact wpAny_assign_Name (st_store y (Kp.refl s) hx hce hr (fun a ha => nomatch ha) (del_self hn) (fun z hz => .inr hz) h)

theorem loop_core {target : Expr} {body : List Stmt} {N : Nat} {item : Nat → D} {sg add : Nat → List (Str × D)} {R : Result → Shared → Prop} {s₂ : Shared} {I : Addr} {fp wr : List Addr} {Sti : Nat → Heap → Prop}
    {m cm : Str → Option Value} {V : Str → Value} {FP : Str → List Addr} (y : StD X s₀ env σ O Z W s₂ m cm V FP)
    (Wk : Walks X.prog X.w A I fp wr N (fun i v => i < N ∧ ∃ fpv, Rep X.C s₂.heap v (item i) fpv ∧ ∀ b ∈ fpv, b ∈ fp ∧ b ∉ wr) Sti) (hst : Sti 0 s₂.heap) (hlive : ∀ i h, Sti i h → ∀ b ∈ fp, ∃ o, h.get? b = some o)
    (ap : Apt env s₀ σ O fp wr Z FP) (h0 : ∀ p ∈ sg 0, p ∈ σ)
    (hgo : ∀ i s v Q E, Sti i s.heap → Q () s → wpAny (model X.prog X.w) A (letOwnedTupleGo target (.ref I) v) Q E s)
    (hasg : ∀ i, i < N → AsgOk X s₀ A env target (item i) (sg i) O (add i))
    (hbody : ∀ i, i < N → ∀ Z' W' E' s', St X s₀ env (add i ++ sg i) O Z' W' s' → Wp X A env body (LoopQ X s₀ env (sg (i + 1)) O Z' W' (fun f s => match f with | .ret v => R (.ok (.ret v)) s | _ => False)) E' s')
    (hdone : ∀ s', St X s₀ env (sg N) O Z W s' → R (.ok .next) s') :
    codeAny (model X.prog X.w) A (.forLoop target (.ref I) body [] env) R s₂ := by
  refine codeAny_forLoop_any (fun k s' => ∃ i m cm V FP, StD X s₀ env (sg i) O Z W s' m cm V FP ∧ Apt env s₀ (sg i) O fp wr Z FP ∧ Sti i s'.heap ∧ i ≤ N ∧ k = N + 1 - i ∧ (∃ h tk, s' = { s₂ with heap := h, toks := tk }) ∧
      (∀ b ∈ fp, b ∉ wr → ∀ o, s₂.heap.get? b = some o → s'.heap.get? b = some o)) ?_ (N + 1)
    ⟨0, m, cm, V, FP, y.sub h0 (fun _ h => h), ⟨ap.off, fun b hb p hp => ap.own b hb p (h0 p hp), fun b hb p hp => ap.cut b hb p (h0 p hp), ap.z, ap.new⟩, hst, Nat.zero_le _, rfl, ⟨_, _, rfl⟩, fun _ _ _ _ e => e⟩
  rintro k s' ⟨i, m, cm, V, FP, y, ap, hst, hi, rfl, ⟨h', tk', rfl⟩, hkeep⟩
  -- a step of the iterator: the state stands
  have step : ∀ h₁ tk₁, (∀ b o, b ∉ wr → h'.get? b = some o → h₁.get? b = some o) → s₀.toks ≤ tk₁ → StD X s₀ env (sg i) O Z W { s₂ with heap := h₁, toks := tk₁ } m cm V FP := by
    intro h₁ tk₁ hk₁ htk₁
    constructor
    · refine ⟨⟨?_, y.call.toInCall.ns.at' fun o e => hk₁ _ o (fun hw => (ap.off _ (Wk.sub _ hw)).1 rfl) e, fun b o e => hk₁ b o (fun hw => ?_) (y.call.toInCall.keep b o e), y.call.toInCall.fresh⟩, fun z c hc => ?_, y.call.apart, y.call.above⟩
      · obtain ⟨h₀, t₀, e⟩ := y.call.toInCall.same
        exact ⟨h₁, tk₁, by rw [show ({ s₂ with heap := h₁, toks := tk₁ } : Shared) = { ({ s₂ with heap := h', toks := tk' } : Shared) with heap := h₁, toks := tk₁ } from rfl, e]⟩
      · rw [ap.new b hw] at e; cases e
      · obtain ⟨o, ho, hd'⟩ := y.call.cell z c hc
        exact ⟨o, hk₁ c o (fun hw => (ap.off _ (Wk.sub _ hw)).2 _ (mem_of_lookup hc) rfl) ho, hd'⟩
    · exact y.gl
    · exact htk₁
    · exact y.ev
    · exact y.var
    · exact fun p hp => (y.rep p hp).at fun b hb o e => hk₁ b o (fun hw => ap.cut b hw p hp hb) e
    · exact y.off
    · exact y.new
    · exact y.own
    · exact fun z hz => ⟨hk₁ _ _ (fun hw => ap.z _ hw z hz rfl) (y.zed z hz).1, (y.zed z hz).2⟩
    · exact y.wz
  by_cases hlt : i < N
  · refine wpAny_with_toks (n := s₀.toks) y.tok (Wk.item i _ _ _ hlt hst fun v h₁ tk₁ hPv hst₁ hk₁ htk₁ => ?_)
    obtain ⟨_, fpv, hrv, hfv⟩ := hPv
    have y₁ := step h₁ tk₁ hk₁ htk₁
    refine hgo _ _ _ _ _ hst₁ ?_
    obtain ⟨Zf, hZ1, hZ2⟩ := objs_of fp (hlive _ _ hst₁)
    have y₂ : StD X s₀ env (sg i) O (Zf ++ Z) (wr ++ W) { s₂ with heap := h₁, toks := tk₁ } m cm V FP := by
      refine ⟨y₁.call, y₁.gl, y₁.tok, y₁.ev, y₁.var, y₁.rep, fun p hp a ha => ⟨(y₁.off p hp a ha).1, fun h => ?_⟩, y₁.new, fun p hp ho a ha => ⟨(y₁.own p hp ho a ha).1, fun z h => ?_⟩, fun z h => ?_, fun b h => ?_⟩
      · rcases List.mem_append.mp h with h | h
        · exact ap.cut a h p hp ha
        · exact (y₁.off p hp a ha).2 h
      · rcases List.mem_append.mp h with h | h
        · rintro rfl; exact ap.own _ (hZ1 z h).2 p hp ho ha
        · exact (y₁.own p hp ho a ha).2 z h
      · rcases List.mem_append.mp h with h | h
        · exact ⟨(hZ1 z h).1, ap.off _ (hZ1 z h).2⟩
        · exact y₁.zed z h
      · rcases List.mem_append.mp h with h | h
        · obtain ⟨o, ho⟩ := hZ2 b (Wk.sub _ h)
          exact ⟨o, List.mem_append_left _ ho⟩
        · obtain ⟨o, ho⟩ := y₁.wz b h
          exact ⟨o, List.mem_append_right _ ho⟩
    have hrv₁ : Rep X.C h₁ v (item i) fpv := hrv.at fun b hb o e => hk₁ b o (hfv b hb).2 (hkeep b (hfv b hb).1 (hfv b hb).2 o e)
    refine hasg i hlt _ _ _ v fpv _ _ ⟨m, cm, V, FP, y₂⟩ hrv₁ fun s₃ y₃ => ?_
    refine wpAny_mono (hbody i hlt _ _ _ s₃ y₃) (fun f s₄ h₄ => ?_) fun _ _ e => e
    have fin : St X s₀ env (sg (i + 1)) O (Zf ++ Z) (wr ++ W) s₄ → ∃ j, j < N + 1 - i ∧ ∃ i m cm V FP, StD X s₀ env (sg i) O Z W s₄ m cm V FP ∧ Apt env s₀ (sg i) O fp wr Z FP ∧ Sti i s₄.heap ∧ i ≤ N ∧ j = N + 1 - i ∧ (∃ h tk, s₄ = { s₂ with heap := h, toks := tk }) ∧
        (∀ b ∈ fp, b ∉ wr → ∀ o, s₂.heap.get? b = some o → s₄.heap.get? b = some o) := by
      rintro ⟨m', cm', V', FP', y₅⟩
      have zk : ∀ b ∈ fp, ∀ o, h₁.get? b = some o → s₄.heap.get? b = some o := by
        intro b hb o e
        obtain ⟨o', ho'⟩ := hZ2 b hb
        have e1 := (hZ1 _ ho').1
        rw [e] at e1; cases e1
        exact (y₅.zed _ (List.mem_append_left _ ho')).1
      obtain ⟨hA, tA, eA⟩ := y₅.call.toInCall.same
      obtain ⟨hB, tB, eB⟩ := y.call.toInCall.same
      refine ⟨N + 1 - (i + 1), by omega, i + 1, m', cm', V', FP', ?_, ⟨ap.off, fun b hb p hp ho hq => ?_, fun b hb p hp hq => (y₅.off p hp b hq).2 (List.mem_append_left _ hb), ap.z, ap.new⟩, Wk.frame _ _ _ hst₁ zk, hlt, rfl, ⟨s₄.heap, s₄.toks, ?_⟩, fun b hb hw o e => zk b hb o (hk₁ b o hw (hkeep b hb hw o e))⟩
      · exact ⟨y₅.call, y₅.gl, y₅.tok, y₅.ev, y₅.var, y₅.rep, fun p hp a ha => ⟨(y₅.off p hp a ha).1, fun h => (y₅.off p hp a ha).2 (List.mem_append_right _ h)⟩, y₅.new, fun p hp ho a ha => ⟨(y₅.own p hp ho a ha).1, fun z h => (y₅.own p hp ho a ha).2 z (List.mem_append_right _ h)⟩, fun z h => y₅.zed z (List.mem_append_right _ h), y.wz⟩
      · obtain ⟨o', ho'⟩ := hZ2 b hb
        exact (y₅.own p hp ho b hq).2 _ (List.mem_append_left _ ho') rfl
      · have e2 : ({ s₂ with heap := h', toks := tk' } : Shared).gens = s₀.gens ∧ ({ s₂ with heap := h', toks := tk' } : Shared).drawn = s₀.drawn ∧ ({ s₂ with heap := h', toks := tk' } : Shared).os = s₀.os := by rw [eB]; exact ⟨rfl, rfl, rfl⟩
        have e3 : s₄.gens = s₀.gens ∧ s₄.drawn = s₀.drawn ∧ s₄.os = s₀.os := by rw [eA]; exact ⟨rfl, rfl, rfl⟩
        obtain ⟨g1, g2, g3⟩ := e2
        obtain ⟨f1, f2, f3⟩ := e3
        cases s₄
        simp only at f1 f2 f3 g1 g2 g3 ⊢
        rw [f1, f2, f3, ← g1, ← g2, ← g3]
    cases f with
    | next => exact fin h₄
    | cont => exact fin h₄
    | brk => exact h₄.elim
    | ret v => exact h₄
  · have hin : i = N := by omega
    subst hin
    refine wpAny_with_toks (n := s₀.toks) y.tok (Wk.done _ _ _ hst fun h₁ tk₁ hk₁ htk₁ => wpAny_execs_nil ?_)
    exact hdone _ ⟨m, cm, V, FP, step h₁ tk₁ hk₁ htk₁⟩

/-- where a for's items come from: new things all -/
def SrcF (X : Cx) (n : Nat) (env : Env) (σ : List (Str × D)) (target iter : Expr) (N : Nat) (item : Nat → D) : Prop :=
  ∀ A s E, AOk n A → Gl X s → RelR X env s σ → wpAny (model X.prog X.w) A (eval iter env) (fun xv s₁ => wpAny (model X.prog X.w) A (pyIter xv) (fun it s₂ =>
    Kp s s₂ ∧ ∃ I fp wr Sti, it = .ref I ∧ Walks X.prog X.w A I fp wr N (fun i v => i < N ∧ ∃ fpv, Rep X.C s₂.heap v (item i) fpv ∧ ∀ b ∈ fpv, b ∈ fp ∧ b ∉ wr) Sti ∧ Sti 0 s₂.heap ∧
      (∀ i h, Sti i h → ∀ b ∈ fp, ∃ o, h.get? b = some o) ∧ (∀ b ∈ fp, s.heap.get? b = none) ∧
      (∀ i s v Q E, Sti i s.heap → Q () s → wpAny (model X.prog X.w) A (letOwnedTupleGo target (.ref I) v) Q E s)) E s₁) E s

/-- for target in iter: new things all -/
theorem ex_for {target iter : Expr} {body : List Stmt} {pos : Pos} {N : Nat} {item : Nat → D} {sg add : Nat → List (Str × D)} (y : St X s₀ env σ O Z W s) (a : AOk n A) (hce : CellsOkN env) (src : SrcF X n env σ target iter N item)
    (h0 : ∀ p ∈ sg 0, p ∈ σ) (hO : ∀ z ∈ O', z ∈ O)
    (hasg : ∀ i, i < N → AsgOk X s₀ A env target (item i) (sg i) O' (add i))
    (hbody : ∀ i, i < N → ∀ Z' W' E' s', St X s₀ env (add i ++ sg i) O' Z' W' s' → Wp X A env body (LoopQ X s₀ env (sg (i + 1)) O' Z' W' Q) E' s')
    (hrest : ∀ s', St X s₀ env (sg N) O' Z W s' → Wp X A env rest Q E s')
    (hs : ∀ x, foldedSetIterable iter env x = pure x := by intro _; rfl) : Wp X A env (.For target iter body [] pos :: rest) Q E s := by
  refine wpAny_execs_cons (wpAny_For (wpAny_mono (src A s E a y.gl y.rel) (fun xv s₁ h₁ => wpAny_mono h₁ (fun it s₂ h₂ => ?_) fun _ _ e => e) fun _ _ e => e) hs)
  obtain ⟨k, I, fp, wr, Sti, rfl, Wk, hst, hlive, hnew, hgo⟩ := h₂
  obtain ⟨m, cm, V, FP, y⟩ := y
  have live : ∀ p ∈ σ, ∀ a ∈ FP p.1, ∃ o, s.heap.get? a = some o := fun p hp => (y.rep p hp).live
  have ap : Apt env s₀ σ O' fp wr Z FP := by
    refine ⟨fun b hb => y.frame_live hce (hnew b hb), fun b hb p hp _ hq => ?_, fun b hb p hp hq => ?_, fun b hb z hz q => ?_, fun b hb => y.base.fresh (hnew b (Wk.sub _ hb))⟩
    · obtain ⟨o, ho⟩ := live p hp b hq
      rw [hnew b hb] at ho; cases ho
    · obtain ⟨o, ho⟩ := live p hp b hq
      rw [hnew b (Wk.sub _ hb)] at ho; cases ho
    · have := (y.zed z hz).1
      rw [← q, hnew b (Wk.sub _ hb)] at this; cases this
  refine loop_core ((y.sub (fun _ h => h) hO).kp k) Wk hst hlive ap h0 hgo hasg (fun i hi Z' W' E' s' y' => wpAny_mono (hbody i hi Z' W' E' s' y') (fun f s₄ h₄ => ?_) fun _ _ e => e) fun s' y' => hrest s' y'
  cases f with
  | next => exact h₄
  | cont => exact h₄
  | brk => exact h₄
  | ret v => exact h₄

/-- for target in x: x a name that isn't turned in the loop -/
theorem ex_for_name {target : Expr} {x : Str} {px : Pos} {body : List Stmt} {pos : Pos} {N : Nat} {d : D} {item : Nat → D} {sg add : Nat → List (Str × D)} (y : St X s₀ env σ O Z W s) (a : AOk n A) (hce : CellsOkN env) (hm : (x, d) ∈ σ) (hno : x ∉ O')
    (src : ∀ (s : Shared) v fp E, Rep X.C s.heap v d fp → Gl X s → wpAny (model X.prog X.w) A (pyIter v) (fun it s₂ => Kp s s₂ ∧ ∃ I fp' wr Sti, it = .ref I ∧ Walks X.prog X.w A I fp' wr N (fun i v => i < N ∧ ∃ fpv, Rep X.C s₂.heap v (item i) fpv ∧ ∀ b ∈ fpv, b ∈ fp' ∧ b ∉ wr) Sti ∧ Sti 0 s₂.heap ∧
      (∀ i h, Sti i h → ∀ b ∈ fp', ∃ o, h.get? b = some o) ∧ (∀ b ∈ fp', b ∈ fp ∨ s.heap.get? b = none) ∧ (∀ b ∈ wr, s.heap.get? b = none) ∧
      (∀ i s v Q E, Sti i s.heap → Q () s → wpAny (model X.prog X.w) A (letOwnedTupleGo target (.ref I) v) Q E s)) E s)
    (h0 : ∀ p ∈ sg 0, p ∈ σ) (hO : ∀ z ∈ O', z ∈ O)
    (hasg : ∀ i, i < N → AsgOk X s₀ A env target (item i) (sg i) O' (add i))
    (hbody : ∀ i, i < N → ∀ Z' W' E' s', St X s₀ env (add i ++ sg i) O' Z' W' s' → Wp X A env body (LoopQ X s₀ env (sg (i + 1)) O' Z' W' Q) E' s')
    (hrest : ∀ s', St X s₀ env (sg N) O' Z W s' → Wp X A env rest Q E s') : Wp X A env (.For target (.Name x px) body [] pos :: rest) Q E s := by
  obtain ⟨m, cm, V, FP, y⟩ := y
  have hr := y.rep _ hm
  refine wpAny_execs_cons (wpAny_For (name_var y.ev (y.varIs hm) (wpAny_mono (src s _ _ E hr (y.gl.kp y.base)) (fun it s₂ h₂ => ?_) fun _ _ e => e)) (by intro _; rfl))
  obtain ⟨k, I, fp, wr, Sti, rfl, Wk, hst, hlive, hin, hnew, hgo⟩ := h₂
  have live : ∀ p ∈ σ, ∀ a ∈ FP p.1, ∃ o, s.heap.get? a = some o := fun p hp => (y.rep p hp).live
  have ap : Apt env s₀ σ O' fp wr Z FP := by
    refine ⟨fun b hb => ?_, fun b hb p hp ho hq => ?_, fun b hb p hp hq => ?_, fun b hb z hz q => ?_, fun b hb => y.base.fresh (hnew b hb)⟩
    · rcases hin b hb with h | h
      · exact (y.off _ hm b h).1
      · exact y.frame_live hce h
    · rcases hin b hb with h | h
      · exact (y.own p hp (hO _ ho) b hq).1 _ hm (fun e => hno (by have e' : x = p.1 := e; rw [e']; exact ho)) h
      · obtain ⟨o, ho⟩ := live p hp b hq
        rw [h] at ho; cases ho
    · obtain ⟨o, ho⟩ := live p hp b hq
      rw [hnew b hb] at ho; cases ho
    · have := (y.zed z hz).1
      rw [← q, hnew b hb] at this; cases this
  refine loop_core ((y.sub (fun _ h => h) hO).kp k) Wk hst hlive ap h0 hgo hasg (fun i hi Z' W' E' s' y' => wpAny_mono (hbody i hi Z' W' E' s' y') (fun f s₄ h₄ => ?_) fun _ _ e => e) fun s' y' => hrest s' y'
  cases f with
  | next => exact h₄
  | cont => exact h₄
  | brk => exact h₄
  | ret v => exact h₄

/-- a while, its else, a break -/
theorem ex_while {ι : Type} {test : Expr} {body orelse : List Stmt} {pos : Pos} (μ : ι → Nat) (sg : ι → List (Str × D)) (Inv : ι → Prop) (tst : ι → Bool) (i0 : ι) (y : St X s₀ env σ O Z W s) (a : AOk n A) (h0 : ∀ p ∈ sg i0, p ∈ σ) (hi0 : Inv i0)
    (hc : ∀ i, Inv i → Cn X n env (sg i) test (tst i))
    (hbody : ∀ i, Inv i → tst i = true → ∀ E' s', St X s₀ env (sg i) O Z W s' → Wp X A env body (fun f s₃ => match f with
      | .next | .cont => ∃ j, Inv j ∧ μ j < μ i ∧ St X s₀ env (sg j) O Z W s₃
      | .brk => Wp X A env rest Q E s₃
      | .ret v => Q (.ret v) s₃) E' s')
    (helse : ∀ i, Inv i → tst i = false → ∀ E' s', St X s₀ env (sg i) O Z W s' → Wp X A env orelse (Th X A env rest Q E) E' s') : Wp X A env (.While test body orelse pos :: rest) Q E s := by
  refine wpAny_execs_cons (wpAny_While ?_)
  refine codeAny_whileLoop (fun k s' => ∃ i, μ i = k ∧ Inv i ∧ St X s₀ env (sg i) O Z W s') ?_ (μ i0) ⟨i0, rfl, hi0, y.sub h0 (fun _ h => h)⟩
  rintro k s' ⟨i, rfl, hi, y⟩
  refine wpAny_mono (hc i hi A s' _ a y.gl y.rel) (fun b s₂ ⟨hb, k₂⟩ => ?_) fun _ _ e => e
  subst hb
  have y₂ := y.kp k₂
  cases ht : tst i with
  | true =>
    simp only [if_true]
    refine wpAny_mono (hbody i hi ht _ s₂ y₂) (fun f s₃ h₃ => ?_) fun _ _ e => e
    cases f with
    | next => obtain ⟨j, h1, h2, h3⟩ := h₃; exact ⟨μ j, h2, j, rfl, h1, h3⟩
    | cont => obtain ⟨j, h1, h2, h3⟩ := h₃; exact ⟨μ j, h2, j, rfl, h1, h3⟩
    | brk => exact h₃
    | ret v => exact h₃
  | false =>
    simp only [Bool.false_eq_true, if_false]
    refine wpAny_mono (helse i hi ht _ s₂ y₂) (fun f s₃ h₃ => ?_) fun _ _ e => e
    cases f with
    | next => exact h₃
    | cont => exact h₃
    | brk => exact h₃
    | ret v => exact h₃
end W40
end
section
open PySem PySem.W PyProof.Rows
set_option Elab.async false
set_option maxRecDepth 20000
set_option linter.unusedVariables false
namespace W40
open PySem PySem.W PyProof.Rows PySem.Calls
variable {X : Cx} {n : Nat} {env : Env} {σ σ' : List (Str × D)} {O O' : List Str} {Z Z' : List (Addr × Obj)} {W W' : List Addr} {s₀ s : Shared} {A : Around} {E : Value → Shared → Prop} {Q : Flow → Shared → Prop} {rest : List Stmt}

/-- a range -/
def REv (X : Cx) (n : Nat) (env : Env) (σ : List (Str × D)) (e : Expr) (a b c : Int) : Prop :=
  ∀ A s E, AOk n A → Gl X s → RelR X env s σ → wpAny (model X.prog X.w) A (eval e env) (fun v s' => Kp s s' ∧ ∃ r t u w, v = .ref r ∧ IsRange s'.heap r a b c t u w ∧ s.heap.get? r = none) E s

theorem rng1 {p pos : Pos} {e : Expr} {b : Int} (ho : EnvOk env) (hg : BName X "range" (.type "range")) (hk : env.kindOf "range" = some .globalImplicit) (ha : Evs X n env σ [e] [.int b])
    (hx : starEach [e] env = [(false, eval e env)] := by rfl) (hs : (backTo pos (starEach [e] env)).any (·.1) = false := by rfl) : REv X n env σ (.Call (.Name "range" p) [e] [] pos) 0 b 1 := fun A s E a g r =>
  wpAny_Call_NameR (name_blt ho g hg hk (by decide) (PySem.callWith_type hs (args_of ha a g r hx fun vs s' k rv => by
    rcases rv with _ | ⟨⟨⟨t, rfl⟩, _⟩, _ | _⟩
    exact call_range_1 ⟨k.pushT _ (Nat.le_trans k.tok (by omega)), _, _, _, _, rfl, Heap.get?_push_size _ rfl, k.fresh (none_at_size _)⟩)))
theorem rng2 {p pos : Pos} {e e2 : Expr} {b c : Int} (ho : EnvOk env) (hg : BName X "range" (.type "range")) (hk : env.kindOf "range" = some .globalImplicit) (ha : Evs X n env σ [e, e2] [.int b, .int c])
    (hx : starEach [e, e2] env = (false, eval e env) :: starEach [e2] env := by rfl) (hs : (backTo pos (starEach [e, e2] env)).any (·.1) = false := by rfl) : REv X n env σ (.Call (.Name "range" p) [e, e2] [] pos) b c 1 := fun A s E a g r =>
  wpAny_Call_NameR (name_blt ho g hg hk (by decide) (PySem.callWith_type hs (args_of ha a g r hx fun vs s' k rv => by
    rcases rv with _ | ⟨⟨⟨t, rfl⟩, _⟩, _ | ⟨⟨⟨u, rfl⟩, _⟩, _ | _⟩⟩
    exact call_range_2 ⟨k.pushT _ (Nat.le_trans k.tok (by omega)), _, _, _, _, rfl, Heap.get?_push_size _ rfl, k.fresh (none_at_size _)⟩)))
theorem rng3 {p pos : Pos} {e e2 e3 : Expr} {b c d : Int} (hd : d ≠ 0) (hz : d.natAbs.log2 < 9000) (ho : EnvOk env) (hg : BName X "range" (.type "range")) (hk : env.kindOf "range" = some .globalImplicit) (ha : Evs X n env σ [e, e2, e3] [.int b, .int c, .int d])
    (hx : starEach [e, e2, e3] env = (false, eval e env) :: starEach [e2, e3] env := by rfl) (hs : (backTo pos (starEach [e, e2, e3] env)).any (·.1) = false := by rfl) : REv X n env σ (.Call (.Name "range" p) [e, e2, e3] [] pos) b c d := fun A s E a g r =>
  wpAny_Call_NameR (name_blt ho g hg hk (by decide) (PySem.callWith_type hs (args_of ha a g r hx fun vs s' k rv => by
    rcases rv with _ | ⟨⟨⟨t, rfl⟩, _⟩, _ | ⟨⟨⟨u, rfl⟩, _⟩, _ | ⟨⟨⟨v, rfl⟩, _⟩, _ | _⟩⟩⟩
    exact call_range_3 hd ⟨k.pushT _ k.tok, _, _, _, _, rfl, Heap.get?_push_size _ rfl, k.fresh (none_at_size _)⟩ (.inl (PyProof.noPylong_of_log2 hz)))))

theorem range_walk {A : Around} (hh : A.handled = none) {s : Shared} {r : Addr} {a b c : Int} {t u w : Tok} {N : Nat} {E : Value → Shared → Prop} {Q : Value → Shared → Prop} (hr : IsRange s.heap r a b c t u w) (hsm : Builtin.Range.small a b c = true) (hN : Builtin.Range.rangeSize a b c = N)
    (h : ∀ I, I = s.heap.objs.size → Kp s { s with heap := s.heap.push { cls := .type "range_iterator", data := .fields #[rawInt a, rawInt (Builtin.Range.rangeSize a b c), rawInt c] } } →
      Walks X.prog X.w A I [I] [I] N (fun i v => ∃ t, v = .int (a + i * c) t) (fun i h => IsRangeIter h I (a + (i : Nat) * c) ((N : Int) - (i : Nat)) c) →
      IsRangeIter (s.heap.push { cls := .type "range_iterator", data := .fields #[rawInt a, rawInt (Builtin.Range.rangeSize a b c), rawInt c] }) I (a + ((0 : Nat) : Int) * c) ((N : Int) - ((0 : Nat) : Int)) c →
      Q (.ref I) { s with heap := s.heap.push { cls := .type "range_iterator", data := .fields #[rawInt a, rawInt (Builtin.Range.rangeSize a b c), rawInt c] } }) : wpAny (model X.prog X.w) A (pyIter (.ref r)) Q E s := by
  refine wpAny_pyIter_range hr hsm (h _ rfl (Kp.push _ _) (Walks.range hh _ a c N) ?_)
  show Heap.get? _ _ = _
  rw [Heap.get?_push_size _ rfl, hN]
  simp

theorem small_down {a b : Int} (ha : -(2 ^ 62) ≤ a) (ha' : a < 2 ^ 62) (hb : -(2 ^ 62) ≤ b) (hb' : b < 2 ^ 62) : Builtin.Range.small a b (-1) = true := by
  have e : Builtin.Range.rangeSize a b (-1) = if a > b then a - b else 0 := by
    unfold Builtin.Range.rangeSize
    simp only [show ¬ ((-1 : Int) > 0) by decide, if_false, Int.neg_neg, Int.ediv_one]
    split <;> omega
  unfold Builtin.Range.small
  rw [e]
  simp only [Builtin.Range.rangeFitsLong, Bool.and_eq_true, Bool.or_eq_true, decide_eq_true_eq, beq_iff_eq, show ¬ ((-1 : Int) > 0) by decide, if_false]
  split <;> omega
theorem size_down (a b : Int) : Builtin.Range.rangeSize a b (-1) = ((a - b).toNat : Nat) := by
  unfold Builtin.Range.rangeSize
  simp only [show ¬ ((-1 : Int) > 0) by decide, if_false, Int.neg_neg, Int.ediv_one]
  split <;> omega
theorem size_up (a b : Int) : Builtin.Range.rangeSize a b 1 = ((b - a).toNat : Nat) := by
  rw [rangeSize_one]; split <;> omega

theorem it_range {e : Expr} {a b c : Int} {N : Nat} (hr : REv X n env σ e a b c) (hsm : Builtin.Range.small a b c = true) (hN : Builtin.Range.rangeSize a b c = N) : It X n env σ e ((List.range N).map fun (i : Nat) => .int (a + (i : Int) * c)) := fun A s E ha g r => by
  refine wpAny_mono (hr A s E ha g r) (fun v s1 ⟨k1, q, t, u, w, hv, hq, hf⟩ => ?_) fun _ _ x => x
  subst hv
  refine range_walk ha.hand hq hsm hN fun I hI k W h0 => ⟨k1.trans k, I, [I], [I], (fun i h => IsRangeIter h I (a + (i : Nat) * c) ((N : Int) - (i : Nat)) c), rfl, ?_, h0, fun b hb => ?_, fun b hb => ?_⟩
  · simp only [List.length_map, List.length_range]
    refine ⟨W.sub, W.frame, fun i s Q E hi st hQ => W.item i s Q E hi st fun v h' tk hp hst => hQ v h' tk ?_ hst, W.done, W.self⟩
    obtain ⟨t, rfl⟩ := hp
    exact ⟨.int (a + i * c), by simp [hi], ⟨t, rfl⟩, rfl⟩
  · rw [List.mem_singleton.mp hb, hI]
    show _ < (s1.heap.push _).objs.size
    rw [Heap.size_push]; exact Nat.lt_succ_self _
  · rw [List.mem_singleton.mp hb, hI]; exact k1.fresh (none_at_size _)
theorem src_range {e : Expr} {x : Str} {px : Pos} {a b c : Int} {N : Nat} (hr : REv X n env σ e a b c) (hsm : Builtin.Range.small a b c = true) (hN : Builtin.Range.rangeSize a b c = N) : SrcF X n env σ (.Name x px) e N (fun (i : Nat) => .int (a + (i : Int) * c)) := fun A s E ha g r => by
  refine wpAny_mono (hr A s E ha g r) (fun v s1 ⟨k1, q, t, u, w, hv, hq, hf⟩ => ?_) fun _ _ x => x
  subst hv
  refine range_walk ha.hand hq hsm hN fun I hI k W h0 => ⟨k1.trans k, I, [I], [I], (fun i h => IsRangeIter h I (a + (i : Nat) * c) ((N : Int) - (i : Nat)) c), rfl, ?_, h0, fun i h hi b hb => ?_, fun b hb => ?_, fun i s v Q E _ q => wpAny_of_eq (a := ()) rfl q⟩
  · refine ⟨W.sub, W.frame, fun i s Q E hi st hQ => W.item i s Q E hi st fun v h' tk hp hst => hQ v h' tk ?_ hst, W.done, W.self⟩
    obtain ⟨t, rfl⟩ := hp
    exact ⟨hi, [], ⟨⟨t, rfl⟩, rfl⟩, fun b hb => nomatch hb⟩
  · rw [List.mem_singleton.mp hb]; exact ⟨_, hi⟩
  · rw [List.mem_singleton.mp hb, hI]; exact k1.fresh (none_at_size _)

/-- up from a to b -/
theorem it_up {e : Expr} {a b : Int} (hr : REv X n env σ e a b 1) (ha : -(2 ^ 62) ≤ a) (ha' : a < 2 ^ 62) (hb : -(2 ^ 62) ≤ b) (hb' : b < 2 ^ 62) : It X n env σ e ((List.range (b - a).toNat).map fun (i : Nat) => .int (a + (i : Int))) := by
  have := it_range hr (small_one ha ha' hb hb') (size_up a b)
  simpa using this
theorem src_up {e : Expr} {x : Str} {px : Pos} {a b : Int} (hr : REv X n env σ e a b 1) (ha : -(2 ^ 62) ≤ a) (ha' : a < 2 ^ 62) (hb : -(2 ^ 62) ≤ b) (hb' : b < 2 ^ 62) : SrcF X n env σ (.Name x px) e (b - a).toNat (fun i => .int (a + (i : Int))) := by
  have := src_range (x := x) (px := px) hr (small_one ha ha' hb hb') (size_up a b)
  simpa using this
theorem src_to {e : Expr} {x : Str} {px : Pos} {a b : Int} {N : Nat} (hr : REv X n env σ e a b 1) (ha : -(2 ^ 62) ≤ a ∧ a < 2 ^ 62 ∧ -(2 ^ 62) ≤ b ∧ b < 2 ^ 62 ∧ (b - a).toNat = N) : SrcF X n env σ (.Name x px) e N (fun i => .int (a + (i : Int))) := by
  obtain ⟨h1, h2, h3, h4, rfl⟩ := ha
  exact src_up hr h1 h2 h3 h4
theorem src_n {e : Expr} {x : Str} {px : Pos} {N : Nat} (hr : REv X n env σ e 0 (N : Int) 1) (hb : N ≤ 1000000) : SrcF X n env σ (.Name x px) e N (fun i => .int (i : Int)) := by
  have := src_up (x := x) (px := px) hr (by decide) (by decide) (by omega) (by omega)
  simpa using this
theorem it_n {e : Expr} {N : Nat} (hr : REv X n env σ e 0 (N : Int) 1) (hb : N ≤ 1000000) : It X n env σ e ((List.range N).map fun (i : Nat) => .int (i : Int)) := by
  have := it_up hr (by decide) (by decide) (by omega) (by omega)
  simpa using this
theorem src_down {e : Expr} {x : Str} {px : Pos} {a b : Int} (hr : REv X n env σ e a b (-1)) (ha : -(2 ^ 62) ≤ a) (ha' : a < 2 ^ 62) (hb : -(2 ^ 62) ≤ b) (hb' : b < 2 ^ 62) : SrcF X n env σ (.Name x px) e (a - b).toNat (fun i => .int (a - (i : Int))) := by
  have := src_range (x := x) (px := px) hr (small_down ha ha' hb hb') (size_down a b)
  have e : ∀ i : Nat, a + (i : Int) * (-1) = a - i := fun i => by omega
  simp only [e] at this
  exact this

theorem it_to {e : Expr} {a b : Int} {N : Nat} (hr : REv X n env σ e a b 1) (ha : -(2 ^ 62) ≤ a ∧ a < 2 ^ 62 ∧ -(2 ^ 62) ≤ b ∧ b < 2 ^ 62 ∧ (b - a).toNat = N) : It X n env σ e ((List.range N).map fun (i : Nat) => .int (a + (i : Int))) := by
  obtain ⟨h1, h2, h3, h4, rfl⟩ := ha
  exact it_up hr h1 h2 h3 h4
theorem fm_some {α β : Type} (f : α → β) : ∀ l : List α, l.filterMap (fun i => some (f i)) = l.map f
  | [] => rfl
  | a :: r => by simp [fm_some f r]
theorem rg_at {β : Type} {f : Nat → β} {N i : Nat} {d : β} (h : ((List.range N).map f)[i]? = some d) : i < N ∧ d = f i := by
  rw [List.getElem?_map] at h
  by_cases hi : i < N
  · rw [List.getElem?_range hi] at h
    cases h; exact ⟨hi, rfl⟩
  · rw [List.getElem?_eq_none (by simpa using hi)] at h; cases h
theorem src_dn {e : Expr} {x : Str} {px : Pos} {a b : Int} {N : Nat} (hr : REv X n env σ e a b (-1)) (ha : -(2 ^ 62) ≤ a ∧ a < 2 ^ 62 ∧ -(2 ^ 62) ≤ b ∧ b < 2 ^ 62 ∧ (a - b).toNat = N) : SrcF X n env σ (.Name x px) e N (fun i => .int (a - (i : Int))) := by
  obtain ⟨h1, h2, h3, h4, rfl⟩ := ha
  exact src_down hr h1 h2 h3 h4
/-- a list that a name holds, item by item -/
theorem list_walk {A : Around} (hh : A.handled = none) {s : Shared} {b : Addr} {vs : List Value} {E : Value → Shared → Prop} {Q : Value → Shared → Prop} (hl : s.heap.PlainList b (List.toArray vs))
    (h : ∀ I o, I = s.heap.objs.size → b ≠ I → Kp s { s with heap := s.heap.push o } → Walks X.prog X.w A I [I, b] [I] vs.length (fun i v => vs[i]? = some v) (fun i h => h.IsListIter I b i ∧ h.IsList b vs.toArray) →
      ((s.heap.push o).IsListIter I b 0 ∧ (s.heap.push o).IsList b vs.toArray) → Q (.ref I) { s with heap := s.heap.push o }) : wpAny (model X.prog X.w) A (pyIter (.ref b)) Q E s := by
  have hne : b ≠ s.heap.objs.size := Nat.ne_of_lt (plt hl)
  have W := Walks.list (prog := X.prog) (w := X.w) (A := A) hh s.heap.objs.size b hne vs.toArray
  refine wpAny_pyIter_list hl.isList (h _ _ rfl hne (Kp.push _ _) ?_ ⟨⟨_, Heap.get?_push_size _ rfl, rfl, rfl⟩, hl.isList.at fun o q => Heap.get?_push_of_some _ q⟩)
  simpa using W

theorem listIter_live {i : Nat} {h : Heap} {I b : Addr} {its : Array Value} (x : h.IsListIter I b i ∧ h.IsList b its) : ∀ c ∈ [I, b], ∃ o, h.get? c = some o := by
  intro c hc
  rcases List.mem_cons.mp hc with rfl | hc
  · obtain ⟨⟨o, ho, _⟩, _⟩ := x; exact ⟨o, ho⟩
  · rw [List.mem_singleton.mp hc]
    obtain ⟨_, o, ho, _⟩ := x; exact ⟨o, ho⟩

theorem src_ints {x : Str} {px : Pos} {l : List Int} (hA : A.handled = none) : ∀ (s : Shared) v fp E, Rep X.C s.heap v (.il l) fp → Gl X s → wpAny (model X.prog X.w) A (pyIter v) (fun it s₂ => Kp s s₂ ∧ ∃ I fp' wr Sti, it = .ref I ∧ Walks X.prog X.w A I fp' wr l.length (fun i v => i < l.length ∧ ∃ fpv, Rep X.C s₂.heap v (.int (l.getD i 0)) fpv ∧ ∀ b ∈ fpv, b ∈ fp' ∧ b ∉ wr) Sti ∧ Sti 0 s₂.heap ∧
      (∀ i h, Sti i h → ∀ b ∈ fp', ∃ o, h.get? b = some o) ∧ (∀ b ∈ fp', b ∈ fp ∨ s.heap.get? b = none) ∧ (∀ b ∈ wr, s.heap.get? b = none) ∧
      (∀ i s v Q E, Sti i s.heap → Q () s → wpAny (model X.prog X.w) A (letOwnedTupleGo (.Name x px) (.ref I) v) Q E s)) E s := by
  rintro s _ _ E ⟨b, vs, rfl, hl, hi, rfl⟩ g
  refine list_walk hA hl fun I o hI hne k W h0 => ⟨k, I, [I, b], [I], (fun i h => h.IsListIter I b i ∧ h.IsList b vs.toArray), rfl, ?_, h0, fun i h hi c hc => listIter_live hi c hc, fun c hc => ?_, fun c hc => ?_, fun i s v Q E _ q => wpAny_of_eq (a := ()) rfl q⟩
  · rw [← hi.length]
    refine ⟨W.sub, W.frame, fun i s Q E hlt st hQ => W.item i s Q E hlt st fun v h' tk hp hst => hQ v h' tk ?_ hst, W.done, W.self⟩
    obtain ⟨m, t, rfl, hm⟩ := hi.at i v hp
    exact ⟨hlt, [], ⟨⟨t, by rw [List.getD_eq_getElem?_getD, hm]; rfl⟩, rfl⟩, fun b hb => nomatch hb⟩
  · rcases List.mem_cons.mp hc with rfl | hc
    · right; rw [hI]; exact none_at_size _
    · left; exact hc
  · rw [List.mem_singleton.mp hc, hI]; exact none_at_size _
end W40
end
section
open PySem PySem.W PyProof.Rows
set_option Elab.async false
set_option maxRecDepth 20000
set_option linter.unusedVariables false
namespace W40
open PySem PySem.W PyProof.Rows PySem.Calls
variable {X : Cx} {n : Nat}

theorem bindL_other {k : Str → Option NameKind} {x : Str} : ∀ {b : List (Str × Value)} {m : Str → Option Value}, x ∉ b.map (·.1) → bindL k b m x = m x
  | [], _, _ => rfl
  | (y, v) :: r, m, h => by
    simp only [List.map_cons, List.mem_cons, not_or] at h
    unfold bindL
    rw [bindL_other h.2]
    split
    · simp only [if_neg h.1]
    · rfl
theorem bindC_other {k : Str → Option NameKind} {x : Str} : ∀ {b : List (Str × Value)} {m : Str → Option Value}, x ∉ b.map (·.1) → bindC k b m x = m x
  | [], _, _ => rfl
  | (y, v) :: r, m, h => by
    simp only [List.map_cons, List.mem_cons, not_or] at h
    unfold bindC
    rw [bindC_other h.2]
    split
    · rfl
    · simp only [if_neg h.1]
theorem bindL_at {k : Str → Option NameKind} {x : Str} {v : Value} (hk : k x = some .local) : ∀ {b : List (Str × Value)} {m : Str → Option Value}, (b.map (·.1)).Nodup → (x, v) ∈ b → bindL k b m x = some v
  | (y, u) :: r, m, hn, hm => by
    rw [List.map_cons, List.nodup_cons] at hn
    rcases List.mem_cons.mp hm with e | hm
    · cases e
      unfold bindL
      rw [if_pos hk, bindL_other hn.1, if_pos rfl]
    · unfold bindL
      exact bindL_at hk hn.2 hm
theorem bindC_at {k : Str → Option NameKind} {x : Str} {v : Value} (hk : k x ≠ some .local) : ∀ {b : List (Str × Value)} {m : Str → Option Value}, (b.map (·.1)).Nodup → (x, v) ∈ b → bindC k b m x = some v
  | (y, u) :: r, m, hn, hm => by
    rw [List.map_cons, List.nodup_cons] at hn
    rcases List.mem_cons.mp hm with e | hm
    · cases e
      unfold bindC
      rw [if_neg hk, bindC_other hn.1]
      simp
    · unfold bindC
      exact bindC_at hk hn.2 hm

theorem params_of {C : Addr} {h : Heap} : ∀ {ps : List Str} {vs : List Value} {ds : List D}, ps.Nodup → ps.length = ds.length → RepL C h vs ds →
    vs.length = ps.length ∧ (ps.zip vs).map (·.1) = ps ∧ ∃ (V : Str → Value) (FP : Str → List Addr), ∀ p ∈ ps.zip ds, (p.1, V p.1) ∈ ps.zip vs ∧ Rep C h (V p.1) p.2 (FP p.1)
  | [], _, [], _, _, .nil => ⟨rfl, rfl, fun _ => .none, fun _ => [], fun p hp => nomatch hp⟩
  | x :: ps, _, d :: ds, hn, hl, .cons (v := v) (vs := vs) (fp := fp) hr r => by
    rw [List.nodup_cons] at hn
    obtain ⟨h1, h2, V, FP, h3⟩ := params_of hn.2 (by simpa using hl) r
    refine ⟨by simp [h1], by simp [h2], fun y => if y = x then v else V y, fun y => if y = x then fp else FP y, fun p hp => ?_⟩
    rw [List.zip_cons_cons] at hp ⊢
    rcases List.mem_cons.mp hp with rfl | hp
    · simp only [if_true]
      exact ⟨.head _, hr⟩
    · have hne : p.1 ≠ x := by
        rintro e
        have := (List.of_mem_zip hp).1
        rw [e] at this
        exact hn.1 this
      simp only [if_neg hne]
      exact ⟨.tail _ (h3 p hp).1, (h3 p hp).2⟩

theorem fn_ok {fd : FuncData} {o : Obj} {f : Addr} {ps : List Str} {ds : List D} {d : D} {body : List Stmt} {cns : List Str} (σ : List (Str × D)) (hσ : ps.zip ds = σ)
    (hl : X.K.lookup f = some o) (hfd : o.data = .func fd) (hb : fd.body = .stmts body) (hclo : fd.closure = []) (hcode : codeIn X.K fd.code fd.qualname = true)
    (hbind : ∀ vs : List Value, vs.length = ps.length → bindArgs fd ⟨vs, []⟩ = pure (ps.zip vs)) (hps : ps.Nodup) (hplain : ∀ p ∈ ps, plainName p = true) (hlen : ps.length = ds.length)
    (hkind : ∀ L, ∀ p ∈ ps, fd.scope.names.lookup p = some .local ∨ (fd.scope.names.lookup p = some .cell ∧ ((cellsFrom (L + 1) fd.scope.names []).lookup p).isSome = true))
    (hcn : ∀ L, (cellsFrom (L + 1) fd.scope.names []).map (·.1) = cns) (hcnd : cns.Nodup)
    (hg : fd.globals = mainGlobals) (hbl : fd.builtins = builtinsNs) (hco : fd.scope.isCoroutine = false) (hgen : fd.scope.isGenerator = false) (hk : fd.scope.kind = .function)
    (h : ∀ A s₀ L s₁, AOk n A → CellsOkN (callEnvC fd L f) → St X s₀ (callEnvC fd L f) σ [] [] [] s₁ → Wp X A (callEnvC fd L f) body (fun fl s' => ∃ v, fl = .ret v ∧ PostF X s₀ d v s') (fun _ _ => False) s₁) : FnOk X (n + 1) f ds d := by
  subst hσ
  intro A s E vs a g rv
  obtain ⟨h1, h2, V, FP, h3⟩ := params_of hps hlen rv
  refine wpAny_call (codeAny_call_function (a.room) (g.kin _ _ hl) hfd hco hgen hb (codeRec_of g.kin hcode) ?_)
  rw [hbind vs h1, hclo]
  refine wpAny_pure (tok_up (wpAny_newFunctionEnv_cells hk (fun x hx => hkind _ _ (List.of_mem_zip (a := x.1) (b := x.2) hx).1) fun env he s' x ht => ?_))
  have he : env = callEnvC fd s.heap.objs.size f := he
  subst he
  refine ⟨g.lim.keeps x.toInCall.keep, codeAny_func ?_⟩
  have hkd : (callEnvC fd s.heap.objs.size f).kindOf = fun y => fd.scope.names.lookup y := rfl
  have hce : CellsOkN (callEnvC fd s.heap.objs.size f) := by
    refine lookup_mem_val x.apart ?_
    show ((cellsFrom (s.heap.objs.size + 1) fd.scope.names []).map (·.1)).Nodup
    rw [hcn]; exact hcnd
  refine wpAny_mono (h _ s _ s' (a.deeper _) hce ⟨bindL (callEnvC fd s.heap.objs.size f).kindOf (ps.zip vs) fun _ => none, bindC (callEnvC fd s.heap.objs.size f).kindOf (ps.zip vs) fun _ => none, V, FP, ?_⟩) (fun fl s₂ ⟨v, hv, hp⟩ => ?_) (fun _ _ x => x.elim)
  · constructor
    · exact x
    · exact g
    · exact ht
    · exact ⟨hk, hg, hbl⟩
    · intro p hp
      obtain ⟨q1, q2⟩ := h3 p hp
      refine ⟨hplain _ (List.of_mem_zip (a := p.1) (b := p.2) hp).1, ?_⟩
      rcases hkind s.heap.objs.size p.1 (List.of_mem_zip (a := p.1) (b := p.2) hp).1 with hkk | ⟨hkk, hc⟩
      · exact .inl ⟨hkk, bindL_at hkk (by rw [h2]; exact hps) q1⟩
      · refine .inr ⟨hkk, bindC_at (fun q => ?_) (by rw [h2]; exact hps) q1, Option.isSome_iff_exists.mp hc⟩
        have q : fd.scope.names.lookup p.1 = some .local := q
        rw [hkk] at q; cases q
    · exact fun p hp => (h3 p hp).2.keeps x.toInCall.keep
    · intro p hp b hb
      obtain ⟨o, ho⟩ := (h3 p hp).2.live b hb
      have hlt := Heap.lt_size ho
      refine ⟨⟨Nat.ne_of_lt hlt, fun c hc => Nat.ne_of_lt (Nat.lt_trans hlt (x.above c.1 c.2 hc))⟩, fun hw => (by cases hw)⟩
    · intro p hp ho; cases ho
    · intro p hp ho; cases ho
    · intro z hz; cases hz
    · intro b hb; cases hb
  · subst hv
    exact hp

inductive SubL {α : Type} : List α → List α → Prop
  | nil {l} : SubL [] l
  | cons {a r l} : a ∈ l → SubL r l → SubL (a :: r) l
theorem SubL.all {α : Type} {r l : List α} (x : SubL r l) : ∀ p ∈ r, p ∈ l := by
  induction x with
  | nil => intro p hp; cases hp
  | cons h _ ih =>
    intro p hp
    rcases List.mem_cons.mp hp with rfl | hp
    · exact h
    · exact ih p hp
inductive NoN {β : Type} (x : Str) : List (Str × β) → Prop
  | nil : NoN x []
  | cons {p r} : p.1 ≠ x → NoN x r → NoN x (p :: r)
theorem NoN.all {β : Type} {x : Str} {r : List (Str × β)} (y : NoN x r) : ∀ p ∈ r, p.1 ≠ x := by
  induction y with
  | nil => intro p hp; cases hp
  | cons h _ ih =>
    intro p hp
    rcases List.mem_cons.mp hp with rfl | hp
    · exact h
    · exact ih p hp
theorem NoN.c {β : Type} {x y : Str} {d : β} {r : List (Str × β)} (h : (y == x) = false) (z : NoN x r) : NoN x ((y, d) :: r) := .cons (fun e => by rw [show y = x from e] at h; simp at h) z
theorem Del.k {x y : Str} {d : D} {r r' : List (Str × D)} (h : (y == x) = false) (z : Del x r r') : Del x ((y, d) :: r) ((y, d) :: r') := .keep (fun e => by rw [show y = x from e] at h; simp at h) z
end W40
end
section
open PySem PySem.W PyProof.Rows
set_option Elab.async false
set_option maxRecDepth 100000
set_option linter.unusedVariables false
namespace W40
open PySem PySem.W PyProof.Rows PySem.Calls

theorem slot_map_iter : Slot "map" "__iter__" "map.__iter__" :=
  .of (owner := "map") (n := "__iter__") (by rw [typeLookup_type, builtinLookup_eq_fast]; kernel_rfl) (by decide +kernel) (by decide +kernel) (by decide +kernel)
    (by first | exact .inl (by decide +kernel) | exact .inr (by decide +kernel)) (by rw [isSubtype_type]; kernel_rfl)
theorem slot_map_next : Slot "map" "__next__" "map.__next__" :=
  .of (owner := "map") (n := "__next__") (by rw [typeLookup_type, builtinLookup_eq_fast]; kernel_rfl) (by decide +kernel) (by decide +kernel) (by decide +kernel)
    (by first | exact .inl (by decide +kernel) | exact .inr (by decide +kernel)) (by rw [isSubtype_type]; kernel_rfl)
theorem slot_map_init : Slot "map" "__init__" "object.__init__" :=
  .of (owner := "object") (n := "__init__") (by rw [typeLookup_type, builtinLookup_eq_fast]; kernel_rfl) (by decide +kernel) (by decide +kernel) (by decide +kernel)
    (by first | exact .inl (by decide +kernel) | exact .inr (by decide +kernel)) (by rw [isSubtype_type]; kernel_rfl)
theorem owner_map : Manifest.owners.lookup (String.ofList ['p', 'a', 'm'].reverse) = some Manifest.sig_map := by kernel_rfl
theorem args_map_iter_1 (a : Value) : argsOk "map.__iter__" ⟨[a], []⟩ := by
  unfold argsOk; rw [signature?_of (id := "map.__iter__") (n := ['_', '_', 'r', 'e', 't', 'i', '_', '_']) (o := ['p', 'a', 'm']) (by kernel_rfl) owner_map]; kernel_rfl
theorem args_map_next_1 (a : Value) : argsOk "map.__next__" ⟨[a], []⟩ := by
  unfold argsOk; rw [signature?_of (id := "map.__next__") (n := ['_', '_', 't', 'x', 'e', 'n', '_', '_']) (o := ['p', 'a', 'm']) (by kernel_rfl) owner_map]; kernel_rfl
theorem entry_map_iter : entryFor table "map.__iter__" = some Builtin.«dict_keyiterator.__iter__» :=
  entryFor_alias (id' := "dict_keyiterator.__iter__") (by kernel_rfl) (by first | rfl | decide +kernel | (unfold String.splitOn; simp +decide [String.splitOnAux])) (by decide +kernel) (by kernel_rfl)
theorem entry_map_next : entryFor table "map.__next__" = some Builtin.«map.__next__» := entryFor_of_tree (by kernel_rfl)
theorem entry_map_new : entryFor table "map.__new__" = some Builtin.«map.__new__» := entryFor_of_tree (by kernel_rfl)
theorem mro_map : mroOf (.type "map") = pure [.type "map", .type "object"] := by rw [mroOf_type]; kernel_rfl
theorem lookup_map_new : typeLookup (.type "map") "__new__" = pure (some (.builtin "map.__new__")) := by rw [typeLookup_type, builtinLookup_eq_fast]; kernel_rfl
theorem called_map : TypeCalled "map" "map.__new__" "object.__init__" :=
  ⟨by decide +kernel, by decide +kernel, ⟨_, _, mro_map⟩, madeBy_type mro_map lookup_map_new (by decide +kernel), by decide +kernel, by rw [isSubtype_type]; kernel_rfl, slot_map_init⟩
theorem typeCall_map_2 (a b : Value) : checkTypeCall "map" ⟨[a, b], []⟩ = pure () := by kernel_rfl
theorem newCall_map_2 (a b : Value) : checkBuiltinCall "map.__new__" ⟨[.type "map", a, b], []⟩ = pure () := by kernel_rfl
theorem map_no_len : typeLookup (.type "map") "__len__" = pure none := by rw [typeLookup_type, builtinLookup_eq_fast]; kernel_rfl
theorem map_no_hint : typeLookup (.type "map") "__length_hint__" = pure none := by rw [typeLookup_type, builtinLookup_eq_fast]; kernel_rfl
theorem sub_map : isSubtype (.type "map") (.type "map") = pure true := by rw [isSubtype_type]; kernel_rfl

abbrev mapH1 (h : Heap) (l1 : Addr) : Heap := h.push { cls := .type "list_iterator", data := .fields #[.ref l1, .int 0 0] }
abbrev mapH2 (h : Heap) (l1 : Addr) : Heap := (mapH1 h l1).push { cls := .type "tuple", data := .seq #[.ref h.objs.size] }
abbrev mapH3 (f : Value) (h : Heap) (l1 : Addr) : Heap := (mapH2 h l1).push { cls := .type "map", data := .fields #[.ref (mapH1 h l1).objs.size, f] }
theorem meets_map_new (f : Value) (l1 : Addr) (xs : Array Value) :
    Meets (Builtin.«map.__new__» ⟨[.type "map", f, .ref l1], []⟩) (fun _ R s => s.heap.IsList l1 xs ∧
      R (.ok (.ret (.ref (mapH2 s.heap l1).objs.size))) { s with heap := mapH3 f s.heap l1 }) :=
  .of_wp fun prog w A R s h => by
    obtain ⟨hp, g, d, tk, os⟩ := s; obtain ⟨hl1, h⟩ := h
    have hsub := sub_map
    have hL1 : Heap.IsList (Shared.heap ⟨hp, g, d, tk, os⟩) l1 xs := hl1
    wp_walk using wpAny_pyIter_list hL1
    exact ⟨_, rfl, h⟩
end W40
end
section
open PySem PySem.W PyProof.Rows
set_option Elab.async false
set_option maxRecDepth 100000
set_option linter.unusedVariables false
namespace W40
open PySem PySem.W PyProof.Rows PySem.Calls
section
variable {prog : Program} {w : World} {A : Around} {E : Value → Shared → Prop} {s : Shared}
abbrev IsMap (h : Heap) (z T : Addr) (f : Value) : Prop := h.get? z = some { cls := .type "map", data := .fields #[.ref T, f] }
abbrev IsOne (h : Heap) (T it : Addr) : Prop := h.get? T = some { cls := .type "tuple", data := .seq #[.ref it] }

theorem map_next_item {z T it l : Addr} {i : Nat} {items : Array Value} {x f : Value} {Q : Value → Shared → Prop} (hz : IsMap s.heap z T f) (hT : IsOne s.heap T it) (hit : s.heap.IsListIter it l i) (hl : s.heap.IsList l items) (hx : items[i]? = some x) (hzi : z ≠ it)
    (h : ∀ h', h'.IsListIter it l (i + 1) → Heap.SameBut it s.heap h' → wpAny (model prog w) A (call f [x]) Q E { s with heap := h' }) :
    wpAny (model prog w) A (Builtin.«map.__next__» ⟨[.ref z], []⟩) (fun fin s' => ∃ v, fin = .done (.ret v) ∧ Q v s') E s := by
  obtain ⟨hp, g, d, tk, os⟩ := s
  show wpAny _ _ (field (.ref z) 0 >>= _) _ _ _
  refine wpAny_bind (wpAny_field hz rfl (x := .ref T) rfl ?_)
  show wpAny _ _ (seqItems? (.ref T) >>= _) _ _ _
  refine wpAny_bind (wpAny_seqItems hT rfl ?_)
  show wpAny _ _ ((forIn #[Value.ref it] (#[] : Array Value) _) >>= _) _ _ _
  simp only [List.forIn_toArray, List.forIn_cons, List.forIn_nil, bind_assoc, pure_bind]
  refine wpAny_bind (wpAny_holding (wpAny_nextOf_list_item hit hl hx fun h' hit' hs' => ?_))
  have hz' : IsMap h' z T f := hs'.extBut _ _ hzi hz
  try dsimp only
  show wpAny _ _ (field (.ref z) 1 >>= _) _ _ ⟨h', g, d, tk, os⟩
  refine wpAny_bind (wpAny_field hz' rfl (x := f) rfl ?_)
  refine wpAny_bind (wpAny_holding (wpAny_mono (h h' hit' hs') (fun v s' hq => ?_) fun _ _ e => e))
  refine wpAny_bind (wpAny_letGo ?_)
  exact wpAny_pure ⟨v, rfl, hq⟩
theorem map_next_end {z T it l : Addr} {i : Nat} {items : Array Value} {f : Value} {Q : Fin → Shared → Prop} (hh : A.handled = none) (hz : IsMap s.heap z T f) (hT : IsOne s.heap T it) (hit : s.heap.IsListIter it l i) (hl : s.heap.IsList l items) (hx : items[i]? = none)
    (hE : ∀ h' e, Heap.ExtBut it s.heap h' → (∃ o, h'.get? e = some o ∧ o.cls = .type "StopIteration") → E (.ref e) { s with heap := h' }) :
    wpAny (model prog w) A (Builtin.«map.__next__» ⟨[.ref z], []⟩) Q E s := by
  obtain ⟨hp, g, d, tk, os⟩ := s
  show wpAny _ _ (field (.ref z) 0 >>= _) _ _ _
  refine wpAny_bind (wpAny_field hz rfl (x := .ref T) rfl ?_)
  show wpAny _ _ (seqItems? (.ref T) >>= _) _ _ _
  refine wpAny_bind (wpAny_seqItems hT rfl ?_)
  show wpAny _ _ ((forIn #[Value.ref it] (#[] : Array Value) _) >>= _) _ _ _
  simp only [List.forIn_toArray, List.forIn_cons, List.forIn_nil, bind_assoc, pure_bind]
  exact wpAny_bind (wpAny_holding (wpAny_nextOf_list_end hh hit hl hx fun h' e hs' he => hE h' e hs' he))

theorem pyNext_map_item {z T it l : Addr} {i : Nat} {items : Array Value} {x f : Value} {Q : Option Value → Shared → Prop} (hz : IsMap s.heap z T f) (hT : IsOne s.heap T it) (hit : s.heap.IsListIter it l i) (hl : s.heap.IsList l items) (hx : items[i]? = some x) (hzi : z ≠ it)
    (h : ∀ h', h'.IsListIter it l (i + 1) → Heap.SameBut it s.heap h' → wpAny (model prog w) A.in1 (call f [x]) (fun v s' => Q (some v) s') (fun _ _ => False) { s with heap := h' }) :
    wpAny (model prog w) A (pyNext (.ref z)) Q E s := by
  have hT' : s.TypeIs (.ref z) "map" := ⟨_, hz, rfl⟩
  unfold pyNext
  refine wpAny_bind (wpAny_attempt (wpAny_callSpecial?_slot (name := Str.ofString "__next__") hT' slot_map_next
    (wpAny_call_entry slot_map_next hT' entry_map_next (map_next_item hz hT hit hl hx hzi fun h' a1 a2 => ?_) (args_map_next_1 _))))
  exact wpAny_mono (h h' a1 a2) (fun v s' hq => wpAny_pure hq) fun _ _ e => e.elim
theorem pyNext_map_end {z T it l : Addr} {i : Nat} {items : Array Value} {f : Value} {Q : Option Value → Shared → Prop} (hh : A.handled = none) (hz : IsMap s.heap z T f) (hT : IsOne s.heap T it) (hit : s.heap.IsListIter it l i) (hl : s.heap.IsList l items) (hx : items[i]? = none)
    (hQ : ∀ h', Heap.ExtBut it s.heap h' → Q none { s with heap := h' }) : wpAny (model prog w) A (pyNext (.ref z)) Q E s := by
  have hT' : s.TypeIs (.ref z) "map" := ⟨_, hz, rfl⟩
  unfold pyNext
  refine wpAny_bind (wpAny_attempt (wpAny_callSpecial?_slot (name := Str.ofString "__next__") hT' slot_map_next
    (wpAny_call_entry slot_map_next hT' entry_map_next (map_next_end hh hz hT hit hl hx fun h' e a1 a2 => ?_) (args_map_next_1 _))))
  obtain ⟨o, ho, hc⟩ := a2
  refine wpAny_bind (wpAny_isInstance (T := "StopIteration") (b := true) ⟨o, ho, hc⟩ isSubtype_stop ?_)
  exact wpAny_pure (hQ _ a1)
theorem pyIter_map {z T : Addr} {f : Value} {Q : Value → Shared → Prop} (hz : IsMap s.heap z T f) (h : Q (.ref z) s) : wpAny (model prog w) A (pyIter (.ref z)) Q E s := by
  have hT : s.TypeIs (.ref z) "map" := ⟨_, hz, rfl⟩
  refine wpAny_pyIter_slot hT slot_map_iter (wpAny_call_entry slot_map_iter hT entry_map_iter ?_ (args_map_iter_1 _))
  show wpAny _ _ (ret (.ref z)) _ _ s
  exact wpAny_pure ⟨_, rfl, "map", _, hT, slot_map_next.lookup, h⟩

/-- map(f, l) made -/
theorem call_map_2 {f : Value} {l : Addr} {xs : Array Value} {Q : Value → Shared → Prop} (hl : s.heap.IsList l xs)
    (h : ∀ h', IsMap h' (s.heap.objs.size + 2) (s.heap.objs.size + 1) f → IsOne h' (s.heap.objs.size + 1) s.heap.objs.size → h'.IsListIter s.heap.objs.size l 0 → h'.objs.size = s.heap.objs.size + 3 →
      (∀ c o, s.heap.get? c = some o → h'.get? c = some o) → Q (.ref (s.heap.objs.size + 2)) { s with heap := h' }) :
    wpAny (model prog w) A (call (.type "map") [f, .ref l]) Q E s := by
  refine callType_new called_map (by decide) (typeCall_map_2 _ _) (newCall_map_2 _ _) (fun obj => F.args_object_init_3 obj _ _) entry_map_new (meets_map_new f l xs) ⟨hl, ?_⟩
  have z1 : (mapH1 s.heap l).objs.size = s.heap.objs.size + 1 := Heap.size_push ..
  have z2 : (mapH2 s.heap l).objs.size = s.heap.objs.size + 2 := by rw [Heap.size_push, z1]
  have z3 : (mapH3 f s.heap l).objs.size = s.heap.objs.size + 3 := by rw [Heap.size_push, z2]
  have g3 : (mapH3 f s.heap l).get? (mapH2 s.heap l).objs.size = some _ := Heap.get?_push_size _ rfl
  have g2 : (mapH3 f s.heap l).get? (mapH1 s.heap l).objs.size = some _ := Heap.get?_push_of_some _ (Heap.get?_push_size _ rfl)
  have g1 : (mapH3 f s.heap l).get? s.heap.objs.size = some _ := Heap.get?_push_of_some _ (Heap.get?_push_of_some _ (Heap.get?_push_size _ rfl))
  show _ ∧ _
  rw [z1, z2] at g3
  rw [z1] at g2
  rw [z2]
  exact ⟨⟨_, g3, rfl⟩, h _ g3 g2 ⟨_, g1, rfl, rfl⟩ z3 fun c o x => Heap.get?_push_of_some _ (Heap.get?_push_of_some _ (Heap.get?_push_of_some _ x))⟩
end
end W40
end
section
open PySem PySem.W PyProof.Rows
set_option Elab.async false
set_option maxRecDepth 100000
set_option linter.unusedVariables false
namespace W40
open PySem PySem.W PyProof.Rows PySem.Calls
section
variable {prog : Program} {w : World} {A : Around} {s : Shared} {R : Result → Shared → Prop}
variable {I : Addr} {fp wr : List Addr} {G : Array GenState → Array GenState → Prop} {n : Nat} {P : Nat → Value → Prop} {St : Nat → Shared → Prop}

/-- list's growing by an iterator that tells no length -/
theorem extend_plain {Ty : String} (hl : (Value.type Ty == Value.type "list") = false) (ht : (Value.type Ty == Value.type "tuple") = false) (hnl : typeLookup (.type Ty) "__len__" = pure none) (hnh : typeLookup (.type Ty) "__length_hint__" = pure none)
    (W : WalksS prog w A.in1 I fp wr G n P St) (hT : ∀ i s, St i s → s.TypeIs (.ref I) Ty) (S : Addr) (res : Value) (c₀ : Nat) (hst : St 0 s) (hSf : S ∉ fp) (hI : I ∈ fp) (hS : s.heap.get? S = some { cls := .type "list", data := .seq #[] c₀ })
    (hR : ∀ s' acc' c', Moved (S :: wr) G s s' → s'.heap.get? S = some { cls := .type "list", dict := none, data := .seq acc' c', slots := #[] } → ItemsOf P acc' n → R (.ok (.ret res)) s') (hn : n ≤ sizeLine) :
    wpAny (model prog w) A.in1 (Builtin.List.listExtendWith (.ref S) (.ref I) res)
      (fun fin s' => match fin with | .done f => R (.ok f) s' | .again c' => c'.quiet = true ∧ codeAny (model prog w) A c' R s') (fun e s' => R (.error e) s') s := by
  have hSI : S ≠ I := fun e => hSf (e ▸ hI)
  unfold Builtin.List.listExtendWith
  refine wpAny_bind (wpAny_typeOf (hT 0 _ hst) ?_)
  have h1 : Builtin.List.listSameRef (.ref S) (.ref I) = false := by simp [Builtin.List.listSameRef, hSI]
  simp only [h1, hl, ht, Bool.or_false, Bool.false_eq_true, if_false]
  refine wpAny_bind (W.self 0 _ _ _ hst (wpAny_bind (wpAny_holding ?_)))
  unfold Builtin.List.listLengthHint
  refine wpAny_bind (wpAny_specialOf (hT 0 _ hst) hnl ?_)
  show wpAny _ A.in1 (specialOf (Value.ref I) (Str.ofString "__length_hint__") >>= _) _ _ _
  refine wpAny_bind (wpAny_specialOf (hT 0 _ hst) hnh (wpAny_pure ?_))
  show wpAny _ A.in1 (rule "list.extend.makes-room" >>= fun _ => Builtin.List.listTouch (.ref S) >>= fun _ =>
    again (.builtin "list.extend.loop" ⟨[.ref S, .ref I, res], []⟩)) _ _ _
  refine wpAny_bind (wpAny_rule (wpAny_bind ?_))
  show wpAny _ A.in1 (updateSeq S (·.push .none) >>= fun _ => updateSeq S (·.pop)) _ _ _
  refine wpAny_bind (wpAny_updateSeq hS rfl ?_)
  have hS₂ := Heap.get?_update_self (Obj.mapSeq (·.push Value.none)) hS rfl
  refine wpAny_updateSeq (hz := by seq_fits) hS₂ rfl ?_
  have hS₃ := Heap.get?_update_self (Obj.mapSeq (·.pop)) hS₂ rfl
  have oth : ∀ b o, b ≠ S → s.heap.get? b = some o → ((s.heap.update S (Obj.mapSeq (·.push Value.none))).update S (Obj.mapSeq (·.pop))).get? b = some o :=
    fun b o hb e => (Heap.get?_update_other _ _ (Ne.symm hb)).trans ((Heap.get?_update_other _ _ (Ne.symm hb)).trans e)
  refine wpAny_pure ⟨plainId_quiet F.plain_extend_loop _, codeAny_extend_loopS W hn _ hSf _ n 0 _ _ _ rfl (Nat.zero_le _)
    (W.frame 0 s _ s.toks hst (Nat.le_refl _) fun b hb o e => oth b o (fun h => hSf (h ▸ hb)) e) hS₃ (ItemsOf.nil P) fun s' acc' c' hm hS' hacc => ?_⟩
  exact hR s' acc' c' (Moved.trans W.gtrans ((Moved.refl W.grefl).then_heap (Nat.le_refl _) fun b o hb e => oth b o (fun h => hb (h ▸ List.mem_cons_self)) e) hm) hS' hacc

theorem list_init_plain {Ty : String} (hl : (Value.type Ty == Value.type "list") = false) (ht : (Value.type Ty == Value.type "tuple") = false) (hnl : typeLookup (.type Ty) "__len__" = pure none) (hnh : typeLookup (.type Ty) "__length_hint__" = pure none)
    (W : WalksS prog w A.in1 I fp wr G n P St) (hT : ∀ i s, St i s → s.TypeIs (.ref I) Ty) (S : Addr) (hst : St 0 s) (hSf : S ∉ fp) (hI : I ∈ fp) (hS : s.heap.get? S = some { cls := .type "list", data := .seq #[] })
    (hR : ∀ s' acc' c', Moved (S :: wr) G s s' → s'.heap.get? S = some { cls := .type "list", dict := none, data := .seq acc' c', slots := #[] } → ItemsOf P acc' n → R (.ok (.ret .none)) s') (hn : n ≤ sizeLine) :
    wpAny (model prog w) A.in1 (Builtin.«list.__init__» ⟨[.ref S, .ref I], []⟩)
      (fun fin s' => match fin with | .done f => R (.ok f) s' | .again c' => c'.quiet = true ∧ codeAny (model prog w) A c' R s') (fun e s' => R (.error e) s') s := by
  show wpAny _ A.in1 (do let old ← Builtin.List.listItems (.ref S); Builtin.List.listUpdate (.ref S) (fun _ => #[]); letGo old.toList.reverse; Builtin.List.listExtendWith (.ref S) (.ref I) .none) _ _ s
  refine wpAny_bind ?_
  unfold Builtin.List.listItems
  refine wpAny_bind (wpAny_seqItems hS rfl (wpAny_pure ?_))
  show wpAny _ A.in1 (updateSeq S (fun _ => #[]) >>= fun _ => letGo (#[] : Array Value).toList.reverse >>= fun _ => Builtin.List.listExtendWith (.ref S) (.ref I) .none) _ _ s
  refine wpAny_bind (wpAny_updateSeq hS rfl ?_)
  have hS₂ := Heap.get?_update_self (Obj.mapSeq (fun _ => (#[] : Array Value))) hS rfl
  have oth : ∀ b o, b ≠ S → s.heap.get? b = some o → (s.heap.update S (Obj.mapSeq (fun _ => (#[] : Array Value)))).get? b = some o :=
    fun b o hb e => (Heap.get?_update_other _ _ (Ne.symm hb)).trans e
  refine wpAny_bind (wpAny_letGo ?_)
  refine extend_plain hl ht hnl hnh W hT S .none _ (W.frame 0 s _ s.toks hst (Nat.le_refl _) fun b hb o e => oth b o (fun h => hSf (h ▸ hb)) e) hSf hI hS₂ (fun s' acc' c' hm hS' hacc => ?_) hn
  exact hR s' acc' c' (Moved.trans W.gtrans ((Moved.refl W.grefl).then_heap (Nat.le_refl _) fun b o hb e => oth b o (fun h => hb (h ▸ List.mem_cons_self)) e) hm) hS' hacc
end
section
variable {prog : Program} {w : World} {A : Around} {E : Value → Shared → Prop} {s : Shared}
variable {I : Addr} {fp wr : List Addr} {G : Array GenState → Array GenState → Prop} {n : Nat} {P : Nat → Value → Prop} {St : Nat → Shared → Prop}
theorem call_list_plain {Ty : String} {Q : Value → Shared → Prop} (hl : (Value.type Ty == Value.type "list") = false) (ht : (Value.type Ty == Value.type "tuple") = false) (hnl : typeLookup (.type Ty) "__len__" = pure none) (hnh : typeLookup (.type Ty) "__length_hint__" = pure none)
    (W : WalksS prog w A.in1.in1 I fp wr G n P St) (hT : ∀ i s, St i s → s.TypeIs (.ref I) Ty) (hst : St 0 s) (hfp : ∀ b ∈ fp, b < s.heap.objs.size) (hI : I ∈ fp)
    (hQ : ∀ s' acc' c', Moved (s.heap.objs.size :: wr) G { s with heap := s.heap.push { cls := .type "list", data := .seq #[] } } s' →
      s'.heap.get? s.heap.objs.size = some { cls := .type "list", dict := none, data := .seq acc' c', slots := #[] } → ItemsOf P acc' n → Q (.ref s.heap.objs.size) s') (hn : n ≤ sizeLine) :
    wpAny (model prog w) A (call (.type "list") [.ref I]) Q E s := by
  have hSf : s.heap.objs.size ∉ fp := fun hm => Nat.lt_irrefl _ (hfp _ hm)
  refine callType_codes (Q₁ := fun obj s₁ => obj = .ref s.heap.objs.size ∧ s₁ = { s with heap := s.heap.push { cls := .type "list", data := .seq #[] } }) F.called_list (F.typeCall_list_1 _) F.entry_list_init
    (code_list_new _ ⟨rfl, rfl⟩) fun obj s₁ h₁ => ?_
  obtain ⟨rfl, rfl⟩ := h₁
  have hS : (s.heap.push { cls := .type "list", data := .seq #[] }).get? s.heap.objs.size = some { cls := .type "list", data := .seq #[] } := Heap.get?_push_size _ rfl
  refine ⟨⟨_, hS, rfl⟩, F.args_list_init_2 _ _, list_init_plain hl ht hnl hnh W hT _ (W.frame 0 s _ s.toks hst (Nat.le_refl _) fun b _ o e => Heap.get?_push_of_some _ e) hSf hI hS (fun s' acc' c' hm hS' hacc => ?_) hn⟩
  exact ⟨rfl, hQ s' acc' c' hm hS' hacc⟩
end

variable {X : Cx} {n : Nat} {env : Env} {σ : List (Str × D)}
theorem AOk.in2 {n : Nat} {A : Around} (a : AOk (n + 2) A) : AOk n A.in1.in1 := (AOk.in1 (n := n + 1) a).in1
theorem AOk.in3 {n : Nat} {A : Around} (a : AOk (n + 3) A) : AOk n A.in1.in1.in1 := (AOk.in2 (n := n + 1) a).in1

/-- a map over a list of texts, walked -/
theorem walk_map {A : Around} {s₀ : Shared} {z T it b : Addr} {f : Addr} {vs : List Value} {l : List Str} {g : Str → Str} (a : AOk (n + 1) A) (hg : Gl X s₀) (hlt : ∀ c o, s₀.heap.get? c = some o → c ≠ it) (hi : StrsAre vs l) (hzi : z ≠ it) (hTi : T ≠ it) (hbi : b ≠ it) (N0 : Nat)
    (hz0 : z < N0) (hT0 : T < N0) (hit0 : it < N0) (hb0 : b < N0) (h0 : s₀.heap.objs.size ≤ N0) (hf : ∀ y ∈ l, FnOk X n f [.str y] (.str (g y))) :
    WalksS X.prog X.w A z (List.range N0) [it] (fun a b => b = a) l.length (fun (i : Nat) (v : Value) => ∃ y t, l[i]? = some y ∧ v = .str (g y) t)
      (fun i s => (∀ c o, s₀.heap.get? c = some o → s.heap.get? c = some o) ∧ IsMap s.heap z T (.ref f) ∧ IsOne s.heap T it ∧ s.heap.IsListIter it b i ∧ s.heap.PlainList b vs.toArray ∧ s₀.toks ≤ s.toks) where
  sub := fun c hc => by rw [List.mem_singleton.mp hc]; exact List.mem_range.2 hit0
  grefl := fun _ => rfl
  gtrans := fun a b c h1 h2 => h2.trans h1
  frame := fun i s h' tk ⟨h1, h2, h3, h4, h5, h6⟩ ht hk => ⟨fun c o e => hk c (List.mem_range.2 (Nat.lt_of_lt_of_le (Heap.lt_size e) h0)) o (h1 c o e), hk z (List.mem_range.2 hz0) _ h2, hk T (List.mem_range.2 hT0) _ h3,
    h4.at fun o e => hk it (List.mem_range.2 hit0) o e, h5.at fun o e => hk b (List.mem_range.2 hb0) o e, Nat.le_trans h6 ht⟩
  item := fun i s Q E hlt' ⟨h1, h2, h3, h4, h5, h6⟩ hQ => by
    have hy : l[i]? = some l[i] := List.getElem?_eq_getElem hlt'
    generalize l[i] = y at hy
    obtain ⟨t, hv⟩ := hi.get _ _ hy
    have hx : vs.toArray[i]? = some (.str y t) := by simpa using hv
    refine pyNext_map_item h2 h3 h4 h5.isList hx hzi fun h' hit' hs' => ?_
    have k1 : ∀ c o, s₀.heap.get? c = some o → h'.get? c = some o := fun c o e => hs'.extBut c o (hlt c o e) (h1 c o e)
    have kp : Gl X { s with heap := h' } := ⟨hg.kin.keeps k1, let ⟨mg, mb, p, q, r⟩ := hg.glb; ⟨mg, mb, p.keeps k1, q.keeps k1, r⟩, hg.lim.keeps k1, Nat.le_trans hg.tok h6⟩
    refine wpAny_mono (hf y (List.mem_of_getElem? hy) A.in1 _ _ [.str y t] a.in1 kp (.cons ⟨⟨t, rfl⟩, rfl⟩ .nil)) (fun v s' ⟨k, fp, ⟨⟨u, hu⟩, _⟩, _⟩ => ?_) fun _ _ e => e
    subst hu
    obtain ⟨h₂, t₂, rfl⟩ := k.same
    exact hQ _ _ ⟨y, u, hy, rfl⟩ ⟨fun c o e => k.keep c o (k1 c o e), k.keep _ _ (hs'.extBut _ _ hzi h2), k.keep _ _ (hs'.extBut _ _ hTi h3), hit'.at fun o e => k.keep _ o e, h5.at fun o e => k.keep _ o (hs'.extBut _ o hbi e), Nat.le_trans h6 k.tok⟩
      ⟨fun c o hc e => k.keep c o (hs'.extBut c o (fun q => hc (by rw [q]; exact List.mem_singleton.mpr rfl)) e), rfl, rfl, rfl, k.tok⟩
  done := fun s Q E ⟨h1, h2, h3, h4, h5, h6⟩ hQ => by
    refine pyNext_map_end a.hand h2 h3 h4 h5.isList (by simp [hi.length]) fun h' hs' => hQ _ ⟨fun c o hc e => hs' c o (fun q => hc (by rw [q]; exact List.mem_singleton.mpr rfl)) e, rfl, rfl, rfl, Nat.le_refl _⟩
  self := fun i s Q E ⟨h1, h2, h3, h4, h5, h6⟩ hQ => pyIter_map h2 hQ

theorem itemsOf_strs {l : List Str} {g : Str → Str} {acc : Array Value} (h : ItemsOf (fun (i : Nat) (v : Value) => ∃ y t, l[i]? = some y ∧ v = .str (g y) t) acc l.length) : StrsAre acc.toList (l.map g) := by
  obtain ⟨h1, h2⟩ := h
  have aux : ∀ (l : List Str) (vs : List Value), vs.length = l.length → (∀ (j : Nat) v, vs[j]? = some v → ∃ y t, l[j]? = some y ∧ v = Value.str (g y) t) → StrsAre vs (l.map g) := by
    intro l
    induction l with
    | nil => intro vs hv _; rw [List.length_eq_zero_iff.mp hv]; exact .nil
    | cons y r ih =>
      intro vs hv hq
      cases vs with
      | nil => simp at hv
      | cons v vs =>
        obtain ⟨y', t, e1, e2⟩ := hq 0 v rfl
        have e1 : y = y' := by simpa using e1
        subst e1; subst e2
        exact .cons _ t (ih vs (by simpa using hv) fun j v hj => hq (j + 1) v (by simpa using hj))
  exact aux l acc.toList (by simpa using h1) fun j v hj => h2 j v (by simpa using hj)

/-- list(map(f, e)) -/
theorem ev_list_map {fx : Str} {p1 p2 p3 pos1 pos2 : Pos} {f : Addr} {e : Expr} {l : List Str} {g : Str → Str} (ho : EnvOk env) (hbl : BName X "list" (.type "list")) (hbm : BName X "map" (.type "map")) (hgf : GName X fx (.ref f))
    (hk1 : env.kindOf "list" = some .globalImplicit) (hk2 : env.kindOf "map" = some .globalImplicit) (hk3 : env.kindOf fx = some .globalImplicit) (hd : (fx == ("__debug__" : Str)) = false) (he : Ev X n env σ e (.sl l)) (hf : ∀ y ∈ l, FnOk X n f [.str y] (.str (g y))) (hz : l.length ≤ sizeLine)
    (hx1 : starEach [.Call (.Name "map" p2) [.Name fx p3, e] [] pos2] env = [(false, eval (.Call (.Name "map" p2) [.Name fx p3, e] [] pos2) env)] := by rfl) (hx2 : starEach [.Name fx p3, e] env = [(false, eval (.Name fx p3) env), (false, eval e env)] := by rfl)
    (hs1 : (backTo pos1 (starEach [.Call (.Name "map" p2) [.Name fx p3, e] [] pos2] env)).any (·.1) = false := by rfl) (hs2 : (backTo pos2 (starEach [.Name fx p3, e] env)).any (·.1) = false := by rfl) :
    EvF X (n + 4) env σ (.Call (.Name "list" p1) [.Call (.Name "map" p2) [.Name fx p3, e] [] pos2] [] pos1) (.sl (l.map g)) := fun A s E a gl r => by
  have a' : AOk n A := a.le (by omega)
  refine wpAny_Call_NameR (name_blt ho gl hbl hk1 (by decide) (PySem.callWith_type hs1 ?_))
  rw [hx1]
  refine evalArgs_plain (spliced_cons ?_)
  refine wpAny_Call_NameR (name_blt ho gl hbm hk2 (by decide) (PySem.callWith_type hs2 ?_))
  rw [hx2]
  refine evalArgs_plain (spliced_cons (name_glob ho gl hgf hk3 hd (spliced_cons (wpAny_mono (he A s E a' gl r) (fun v s1 ⟨k1, fp, hr⟩ => spliced_nil ?_) fun _ _ x => x))))
  obtain ⟨b, vs, rfl, hl, hi, rfl⟩ := hr
  refine call_map_2 hl.isList fun h' hm ho hit hsz hk => ?_
  refine spliced_nil ?_
  have kp1 : Kp s1 { s1 with heap := h' } := ⟨⟨_, _, rfl⟩, hk, Nat.le_refl _⟩
  have hbl : b < s1.heap.objs.size := plt hl
  have g1 := gl.kp k1
  have W := walk_map (X := X) (n := n) (A := A.in1.in1) (s₀ := s1) (z := s1.heap.objs.size + 2) (T := s1.heap.objs.size + 1) (it := s1.heap.objs.size) (b := b) (f := f) (vs := vs) (l := l) (g := g) (AOk.in2 (a.le (by omega))) g1
    (fun c o e => Nat.ne_of_lt (Heap.lt_size e)) hi (by show @Ne Nat _ _; omega) (by show @Ne Nat _ _; omega) (Nat.ne_of_lt hbl) (s1.heap.objs.size + 3) (Nat.lt_succ_self _) (by show @LT.lt Nat _ _ _; omega) (by show @LT.lt Nat _ _ _; omega) (Nat.lt_of_lt_of_le hbl (by omega)) (by omega) hf
  refine tok_up (call_list_plain (Ty := "map") (by decide) (by decide) map_no_len map_no_hint W (fun i s h => ⟨_, h.2.1, rfl⟩) ⟨hk, hm, ho, hit, hl.at fun o e => hk _ o e, Nat.le_refl _⟩ ?_ (List.mem_range.2 (by omega)) ?_ hz)
  · intro c hc
    rw [hsz]; exact List.mem_range.1 hc
  · intro s' acc' c' M hS hacc ht
    refine ⟨k1.trans ⟨⟨s'.heap, s'.toks, ?_⟩, fun c o q => M.heap c o (fun hm => ?_) (Heap.get?_push_of_some _ (hk c o q)), ht⟩, _, ⟨_, acc'.toList, rfl, ?_, itemsOf_strs hacc, rfl⟩, fun c hc => ?_⟩
    · have h1 := M.gens; have h2 := M.drawn; have h3 := M.os
      cases s'; simp only at h1 h2 h3 ⊢; rw [h1, h2, h3]
    · rcases List.mem_cons.mp hm with hm | hm
      · have hq := hk c o q
        rw [hm] at hq; exact Nat.lt_irrefl _ (Heap.lt_size hq)
      · rw [List.mem_singleton.mp hm] at q; exact Nat.lt_irrefl _ (Heap.lt_size q)
    · rw [Array.toArray_toList]; exact ⟨_, hS⟩
    · rw [List.mem_singleton.mp hc]
      exact (k1.trans kp1).fresh (none_at_size _)
end W40
end
section
open PySem PySem.W PyProof.Rows
set_option Elab.async false
set_option maxRecDepth 100000
set_option linter.unusedVariables false
namespace W40
open PySem PySem.W PyProof.Rows PySem.Calls
section
variable {prog : Program} {w : World} {A : Around} {E : Value → Shared → Prop} {s : Shared}
theorem sub_key_lookup : isSubtype (.type "KeyError") (.type "LookupError") = pure true := by rw [isSubtype_type]; kernel_rfl
theorem tl_in {d : Addr} {f : Int → Option Value} {c : Nat} {t : Str} {u : Tok} {Q : Builtin.Str.Mapped → Shared → Prop} (hm : s.heap.MapOf (intKind prog w) d f) (hv : f c = some (.str t u)) (h : ∀ tk, s.toks ≤ tk → Q (.text t) { s with toks := tk }) : wpAny (model prog w) A (Builtin.Str.tableLookup (.ref d) c) Q E s := by
  unfold Builtin.Str.tableLookup
  refine wpAny_bind (wpAny_attempt (wpAny_bind (wpAny_mkInt ?_)))
  refine wpAny_getItem_of (knd := intKind prog w) (k := (c : Int)) (by simp [intKind, Value.isInt]) hm hv ?_
  show wpAny _ _ (asInt? (.str t u) >>= _) _ _ _
  refine wpAny_bind ?_
  show wpAny _ _ (do notAStandIn (.str t u); pure none) _ _ _
  refine wpAny_bind (wpAny_pure (wpAny_pure ?_))
  show wpAny _ _ (asStr? (.str t u) >>= _) _ _ _
  exact wpAny_bind (wpAny_pure (wpAny_pure (h _ (by show s.toks ≤ s.toks + 1 + 1; omega))))
theorem tl_out {d : Addr} {f : Int → Option Value} {c : Nat} {Q : Builtin.Str.Mapped → Shared → Prop} (hh : A.handled = none) (hd : (d == sysModules) = false) (hm : s.heap.MapOf (intKind prog w) d f) (hv : f c = none) (h : ∀ h' tk, (∀ b o, s.heap.get? b = some o → h'.get? b = some o) → s.toks ≤ tk → Q .keep { s with heap := h', toks := tk }) : wpAny (model prog w) A (Builtin.Str.tableLookup (.ref d) c) Q E s := by
  unfold Builtin.Str.tableLookup
  refine wpAny_bind (wpAny_attempt (wpAny_bind (wpAny_mkInt ?_)))
  refine wpAny_getItem_missing_of (knd := intKind prog w) (k := (c : Int)) (by simp [intKind, Value.isInt]) hd hh hm hv fun h' e ne => ?_
  obtain ⟨ob, t, ho, hc, _⟩ := ne.there
  refine wpAny_bind (wpAny_isInstance (T := "KeyError") (b := true) ⟨ob, ho, hc⟩ sub_key_lookup ?_)
  exact wpAny_bind (wpAny_rule (wpAny_pure (h _ _ ne.keeps (by show s.toks ≤ s.toks + 1 + 1; omega))))

theorem forIn_inv {α β : Type} {M : Model} {A : Around} {E : Value → Shared → Prop} {body : α → β → Sem (ForInStep β)} (Inv : List α → β → Shared → Prop) : ∀ (l : List α) (b : β) (s : Shared), Inv l b s →
    (∀ a r b s, Inv (a :: r) b s → wpAny M A (body a b) (fun st s' => ∃ b', st = .yield b' ∧ Inv r b' s') E s) → ∀ {Q : β → Shared → Prop}, (∀ b s, Inv [] b s → Q b s) → wpAny M A (forIn l b body) Q E s
  | [], b, s, h, _, Q, hq => by rw [List.forIn_nil]; exact wpAny_pure (hq b s h)
  | a :: r, b, s, h, hb, Q, hq => by
    rw [List.forIn_cons]
    refine wpAny_bind (wpAny_mono (hb a r b s h) (fun st s' ⟨b', e, h'⟩ => ?_) fun _ _ e => e)
    subst e
    exact forIn_inv Inv r b' s' h' hb hq

def escF (f : Int → Option Value) (l : List Nat) : List Nat := l.flatMap fun (c : Nat) => match f (c : Int) with | some (.str t _) => t.cps.toList | _ => [c]
structure TInv (s : Shared) (f : Int → Option Value) (l0 : List Nat) (r : List Nat) (b : List Str × Nat × Bool × List (Nat × Option Nat) × Bool) (s' : Shared) : Prop where
  dn : ∃ dn, dn ++ r = l0 ∧ b.1.reverse.foldl (fun acc p => acc ++ p.cps) #[] = (escF f dn).toArray ∧ b.2.1 ≤ 2 * dn.length
  kp : Kp s s'
  ad : b.2.2.2.2 = false
  kn : ∀ (c : Nat) a, b.2.2.2.1.lookup c = some a → a = some c ∧ f c = none
theorem TInv.step {s : Shared} {f : Int → Option Value} {l0 r : List Nat} {c : Nat} {p : List Str} {tot : Nat} {fast : Bool} {kn : List (Nat × Option Nat)} {ad : Bool} {s' : Shared} (h : TInv s f l0 (c :: r) (p, tot, fast, kn, ad) s')
    {x : Str} {fast' : Bool} {kn' : List (Nat × Option Nat)} {s'' : Shared} (hx : escF f [c] = x.cps.toList) (hl : x.length ≤ 2) (hk : Kp s' s'') (hkn : ∀ (c : Nat) a, kn'.lookup c = some a → a = some c ∧ f c = none) : TInv s f l0 r (x :: p, tot + x.length, fast', kn', false) s'' := by
  obtain ⟨⟨dn, h1, h2, h3⟩, h4, h5, h6⟩ := h
  refine ⟨⟨dn ++ [c], by simpa using h1, ?_, ?_⟩, h4.trans hk, rfl, hkn⟩
  · dsimp only at h2 ⊢
    rw [List.reverse_cons, List.foldl_append, h2]
    show (escF f dn).toArray ++ x.cps = _
    have : escF f (dn ++ [c]) = escF f dn ++ x.cps.toList := by rw [← hx]; simp [escF]
    rw [this]; simp
  · dsimp only at h3 ⊢
    simp; omega

theorem escF_len {f : Int → Option Value} : ∀ {l : List Nat}, (∀ c ∈ l, f (c : Int) = none ∨ ∃ t u, f (c : Int) = some (.str t u) ∧ t.length = 2) → (escF f l).length ≤ 2 * l.length
  | [], _ => Nat.zero_le _
  | c :: r, h => by
    have ih := escF_len (l := r) fun c hc => h c (.tail _ hc)
    have e : escF f (c :: r) = escF f [c] ++ escF f r := by simp [escF]
    rw [e, List.length_append, List.length_cons]
    have : (escF f [c]).length ≤ 2 := by
      rcases h c (.head _) with hn | ⟨t, u, ht, h2⟩
      · simp [escF, hn]
      · have hx : t.cps.size = 2 := h2
        simp [escF, ht, hx]
    omega
theorem translate_walk {d : Addr} {f : Int → Option Value} {l : List Nat} {t : Tok} {Q : Value → Shared → Prop} (hh : A.handled = none) (hd : (d == sysModules) = false) (hm : s.heap.MapOf (intKind prog w) d f)
    (hl : ∀ c ∈ l, f (c : Int) = none ∨ ∃ t u, f (c : Int) = some (.str t u) ∧ t.length = 2) (hz : l.length ≤ 1000) (hq : ∀ s' u, Kp s s' → Q (.str (S (escF f l)) u) s') : wpAny (model prog w) A (Builtin.«str.translate» ⟨[.str (S l) t, .ref d], []⟩) (fun fin s' => ∃ v, fin = .done (.ret v) ∧ Q v s') E s := by
  unfold Builtin.«str.translate»
  show wpAny _ _ (Builtin.Str.strOneArg "translate" ⟨[.str (S l) t, .ref d], []⟩ >>= _) _ _ _
  refine wpAny_bind (wpAny_of_eq (a := (.str (S l) t, S l, .ref d)) (by rfl) ?_)
  dsimp only
  cases l with
  | nil =>
    have h0 : ((S []).length == 0) = true := rfl
    rw [h0]
    simp only [if_true]
    refine wpAny_bind (wpAny_rule ?_)
    show wpAny _ _ (Builtin.Str.strUnchanged (.str (S []) t) (S []) >>= _) _ _ _
    have he : Builtin.Str.isExactStr (.str (S []) t) = true := rfl
    unfold Builtin.Str.strUnchanged
    rw [he]
    simp only [if_true]
    exact wpAny_bind (wpAny_pure (wpAny_pure ⟨_, rfl, hq s t (Kp.refl s)⟩))
  | cons c0 r0 =>
    have h0 : ((S (c0 :: r0)).length == 0) = false := by rw [S_len]; rfl
    rw [h0]
    simp only [Bool.false_eq_true, if_false]
    have tl : ∀ n, n ≤ 3000 → Builtin.Str.tooLong n = false := fun n hn => by unfold Builtin.Str.tooLong; simp [sizeLine_eq]; omega
    have en : ∀ c : Nat, f (c : Int) = none → escF f [c] = [c] := fun c hc => by simp [escF, hc]
    have es : ∀ (c : Nat) t u, f (c : Int) = some (.str t u) → escF f [c] = t.cps.toList := fun c t u hc => by simp [escF, hc]
    rw [List.forIn_toArray]
    refine wpAny_bind (forIn_inv (TInv s f (c0 :: r0)) (c0 :: r0) _ s ⟨⟨[], rfl, rfl, Nat.zero_le _⟩, Kp.refl s, rfl, fun c a e => by simp at e⟩ ?_ ?_)
    · rintro c r ⟨p, tot, fast, kn, ad⟩ s' h
      obtain ⟨dn, h1, h2, h3⟩ := h.dn
      have hc : c ∈ c0 :: r0 := by rw [← h1]; simp
      have hlen : dn.length ≤ 1000 := by have := congrArg List.length h1; simp at this hz; omega
      have htl := tl tot (by dsimp only at h3; omega)
      have had : ad = false := h.ad
      subst had
      have hm' : s'.heap.MapOf (intKind prog w) d f := by
        obtain ⟨o, es, ep, ho, r⟩ := hm
        exact ⟨o, es, ep, h.kp.keep _ _ ho, r⟩
      dsimp only
      rw [htl]
      simp only [Bool.false_eq_true, if_false]
      have slow : ∀ kn' s'', Kp s' s'' → (∀ (c : Nat) a, kn'.lookup c = some a → a = some c ∧ f c = none) → wpAny (model prog w) A (do
          let m ← Builtin.Str.tableLookup (.ref d) c
          match m with
          | .keep => pure (ForInStep.yield (⟨#[c]⟩ :: p, tot + 1, false, kn', false))
          | .drop => pure (ForInStep.yield (p, tot, false, kn', true))
          | .char d => pure (ForInStep.yield (⟨#[d]⟩ :: p, tot + 1, false, kn', false))
          | .text t => pure (ForInStep.yield (t :: p, tot + t.length, false, kn', false))) (fun st s' => ∃ b', st = .yield b' ∧ TInv s f (c0 :: r0) r b' s') E s'' := by
        intro kn' s'' k' hkn
        have hm'' : s''.heap.MapOf (intKind prog w) d f := by
          obtain ⟨o, es, ep, ho, r⟩ := hm'
          exact ⟨o, es, ep, k'.keep _ _ ho, r⟩
        rcases hl c hc with hn | ⟨x, u, hx, hx2⟩
        · refine wpAny_bind (tl_out hh hd hm'' hn fun h' tk hk ht => wpAny_pure ⟨_, rfl, h.step (x := ⟨#[c]⟩) (by rw [en c hn]) (by simp [Str.length]) (k'.trans ⟨⟨_, _, rfl⟩, hk, ht⟩) hkn⟩)
        · refine wpAny_bind (tl_in hm'' hx fun tk ht => wpAny_pure ⟨_, rfl, h.step (x := x) (by rw [es c x u hx]) (by omega) (k'.trans (Kp.toks ht)) hkn⟩)
      cases fast with
      | false =>
        simp only [Bool.false_eq_true, if_false]
        exact slow kn s' (Kp.refl s') h.kn
      | true =>
        simp only [if_true]
        cases hlk : kn.lookup c with
        | some a =>
          obtain ⟨rfl, hn⟩ := h.kn c a hlk
          simp only
          refine wpAny_bind (wpAny_pure (wpAny_pure ⟨_, rfl, h.step (x := ⟨#[c]⟩) (by rw [en c hn]) (by simp [Str.length]) (Kp.refl s') h.kn⟩))
        | none =>
          simp only
          rcases hl c hc with hn | ⟨x, u, hx, hx2⟩
          · refine wpAny_bind (tl_out hh hd hm' hn fun h' tk hk ht => ?_)
            simp only
            refine wpAny_bind (wpAny_pure (wpAny_pure ⟨_, rfl, h.step (x := ⟨#[c]⟩) (by rw [en c hn]) (by simp [Str.length]) ⟨⟨_, _, rfl⟩, hk, ht⟩ fun c' a' e => ?_⟩))
            rw [List.lookup_cons] at e
            split at e
            · rename_i hcc
              cases e
              rw [eq_of_beq hcc]; exact ⟨rfl, hn⟩
            · exact h.kn c' a' e
          · refine wpAny_bind (tl_in hm' hx fun tk ht => ?_)
            have hx1 : (x.length == 1) = false := by rw [hx2]; rfl
            simp only [hx1, Bool.false_and, Bool.false_eq_true, if_false]
            refine wpAny_bind (wpAny_pure ?_)
            simp only
            refine wpAny_bind (wpAny_rule ?_)
            exact slow kn _ (Kp.toks ht) h.kn
    · rintro ⟨p, tot, fast, kn, ad⟩ s' h
      obtain ⟨dn, h1, h2, h3⟩ := h.dn
      have h1 : dn = c0 :: r0 := by simpa using h1
      dsimp only at h2 h3 ⊢
      rw [tl tot (by rw [h1] at h3; simp at h3 hz; omega)]
      simp only [Bool.false_eq_true, if_false]
      rw [h2, h1]
      unfold retStr
      have hlen := escF_len hl
      refine wpAny_bind (wpAny_mkStr (wpAny_pure ⟨_, rfl, hq _ _ (h.kp.trans (Kp.tok1 _))⟩) ?_)
      show (S (escF f (c0 :: r0))).length ≤ _
      rw [S_len, sizeLine_eq]; omega
end
end W40
end
section
open PySem PySem.W PyProof.Rows
set_option Elab.async false
set_option maxRecDepth 100000
set_option linter.unusedVariables false
namespace W40
open PySem PySem.W PyProof.Rows PySem.Calls Builtin Builtin.ObjectAttr

theorem slot_md_get : Slot "method_descriptor" "__get__" "method_descriptor.__get__" :=
  .of (owner := "method_descriptor") (n := "__get__") (by rw [typeLookup_type, builtinLookup_eq_fast]; kernel_rfl) (by decide +kernel) (by decide +kernel) (by decide +kernel)
    (by first | exact .inl (by decide +kernel) | exact .inr (by decide +kernel)) (by rw [isSubtype_type]; kernel_rfl)
theorem entry_md_get : entryFor table "method_descriptor.__get__" = some Builtin.«method_descriptor.__get__» := entryFor_of_tree (by kernel_rfl)
theorem args_md_get (a b c : Value) : argsOk "method_descriptor.__get__" ⟨[a, b, c], []⟩ := by unfold argsOk; kernel_rfl
theorem md_no_set : typeLookup (.type "method_descriptor") "__set__" = pure none := by rw [typeLookup_type, builtinLookup_eq_fast]; kernel_rfl
theorem md_no_del : typeLookup (.type "method_descriptor") "__delete__" = pure none := by rw [typeLookup_type, builtinLookup_eq_fast]; kernel_rfl
theorem entry_set_ga : entryFor table "set.__getattribute__" = some Builtin.«object.__getattribute__» :=
  entryFor_alias (id' := "object.__getattribute__") (by kernel_rfl) (by first | rfl | decide +kernel) (by decide +kernel) (by kernel_rfl)
theorem args_set_ga (a b : Value) : argsOk "set.__getattribute__" ⟨[a, b], []⟩ := by unfold argsOk; kernel_rfl
theorem told_sc : Manifest.toldItsClass.contains "set.__contains__" = false := by decide +kernel
theorem owner_sc : (".".intercalate ("set.__contains__".cutAt '.').dropLast) = "set" := by
  have e0 : "set.__contains__".cutAt '.' = ["set", "__contains__"] := by first | rfl | decide +kernel
  rw [e0]; decide +kernel
theorem name_sc : ("set.__contains__".cutAt '.').getLastD "" = "__contains__" := by
  have e0 : "set.__contains__".cutAt '.' = ["set", "__contains__"] := by first | rfl | decide +kernel
  rw [e0]; decide +kernel
section
variable {prog : Program} {w : World} {A : Around} {E : Value → Shared → Prop} {s : Shared} {a : Addr}
def boundSc (a : Addr) : Obj := { cls := .type "builtin_function_or_method", data := .fields #[.builtin "set.__contains__", .ref a] }

theorem run_md_get {P : Fin → Shared → Prop} (hT : s.TypeIs (.ref a) "set") (h : P (.done (.ret (.ref s.heap.objs.size))) { s with heap := s.heap.push (boundSc a) }) :
    wpAny (model prog w) A (Builtin.«method_descriptor.__get__» ⟨[.builtin "set.__contains__", .ref a, .type "set"], []⟩) P E s := by
  unfold Builtin.«method_descriptor.__get__»
  refine wpAny_bind (wpAny_of_eq (a := (.builtin "set.__contains__", some (.ref a), some (.type "set"))) (by first | rfl | kernel_rfl) ?_)
  simp only [told_sc, Bool.false_eq_true, if_false]
  refine wpAny_bind ?_
  refine wpAny_bind ?_
  refine wpAny_of_eq (a := (((("set.__contains__".cutAt '.').getLastD "" : String) : Str), Value.type (".".intercalate ("set.__contains__".cutAt '.').dropLast))) rfl ?_
  dsimp only
  rw [owner_sc]
  refine wpAny_bind (wpAny_isInstance hT sub_set_self ?_)
  simp only [Bool.not_true, Bool.false_eq_true, if_false]
  refine wpAny_pure ?_
  exact wpAny_bind (wpAny_newObj_type (wpAny_pure h))

theorem sc_bound {tk : Tok} {P : Fin → Shared → Prop} (hx : ∃ o, s.heap.get? a = some o ∧ o.cls = .type "set" ∧ o.dict = none ∧ ∃ x y z, o.data = .set x y z) (h : P (.done (.ret (.ref s.heap.objs.size))) { s with heap := s.heap.push (boundSc a) }) :
    wpAny (model prog w) A (Builtin.«object.__getattribute__» ⟨[.ref a, .str "__contains__" tk], []⟩) P E s := by
  obtain ⟨⟨oc, odi, oda, osl⟩, ho, hc, hn, x, y, z, hd⟩ := hx
  dsimp only at hc hn hd
  subst hc hn hd
  obtain ⟨hp, g, d, t, os⟩ := s
  have hT : (⟨hp, g, d, t, os⟩ : Shared).TypeIs (.ref a) "set" := ⟨_, ho, rfl⟩
  have f4 := F.slot_set_contains.lookup
  have f5 := F.type_set_contains
  have f6 := slot_md_get.lookup
  have f7 := md_no_set
  have f8 := md_no_del
  repeat (any_goals (first | assumption | wp_step))
  have hT5 : (⟨hp, g, d, t, os⟩ : Shared).TypeIs (.builtin "set.__contains__") "method_descriptor" := F.type_set_contains
  refine codeAny_call_builtin slot_md_get.plain entry_md_get (slot_md_get.check _ _ _ _ _ _ _ _ hT5 (args_md_get _ _ _) ?_)
  exact run_md_get hT (wpAny_pure h)

theorem sc_attr {expr : Bool} {Q : Value → Shared → Prop} (hx : ∃ o, s.heap.get? a = some o ∧ o.cls = .type "set" ∧ o.dict = none ∧ ∃ x y z, o.data = .set x y z) (hq : Q (.ref s.heap.objs.size) { s with heap := s.heap.push (boundSc a), toks := s.toks + 1 }) :
    wpAny (model prog w) A (getAttr (.ref a) "__contains__" expr) Q E s := by
  obtain ⟨hp, g, d, t, os⟩ := s
  have hT : ∀ t', (⟨hp, g, d, t', os⟩ : Shared).TypeIs (.ref a) "set" := fun _ => let ⟨o, ho, hc, _⟩ := hx; ⟨o, ho, hc⟩
  have f2 := F.slot_set_getattribute.lookup
  have f3 := F.slot_set_getattribute.bind (.ref a)
  have hx0 : (expr && onTheHeap (Value.builtin "set.__getattribute__")) = false := by cases expr <;> rfl
  have hT1 := hT (t + 1)
  unfold getAttr getAttrBy
  repeat (any_goals (first | assumption | wp_step))
  refine codeAny_call_builtin F.slot_set_getattribute.plain entry_set_ga (F.slot_set_getattribute.check _ _ _ _ _ _ _ _ hT1 (args_set_ga _ _) ?_)
  refine sc_bound hx ?_
  show wpAny _ _ (handedOut (.ref hp.objs.size)) _ _ _
  exact wpAny_pure hq
end
end W40
end
section
open PySem PySem.W PyProof.Rows
set_option Elab.async false
set_option maxRecDepth 100000
set_option linter.unusedVariables false
namespace W40
open PySem PySem.W PyProof.Rows PySem.Calls

theorem slot_fil_iter : Slot "filter" "__iter__" "filter.__iter__" :=
  .of (owner := "filter") (n := "__iter__") (by rw [typeLookup_type, builtinLookup_eq_fast]; kernel_rfl) (by decide +kernel) (by decide +kernel) (by decide +kernel)
    (by first | exact .inl (by decide +kernel) | exact .inr (by decide +kernel)) (by rw [isSubtype_type]; kernel_rfl)
theorem slot_fil_next : Slot "filter" "__next__" "filter.__next__" :=
  .of (owner := "filter") (n := "__next__") (by rw [typeLookup_type, builtinLookup_eq_fast]; kernel_rfl) (by decide +kernel) (by decide +kernel) (by decide +kernel)
    (by first | exact .inl (by decide +kernel) | exact .inr (by decide +kernel)) (by rw [isSubtype_type]; kernel_rfl)
theorem slot_fil_init : Slot "filter" "__init__" "object.__init__" :=
  .of (owner := "object") (n := "__init__") (by rw [typeLookup_type, builtinLookup_eq_fast]; kernel_rfl) (by decide +kernel) (by decide +kernel) (by decide +kernel)
    (by first | exact .inl (by decide +kernel) | exact .inr (by decide +kernel)) (by rw [isSubtype_type]; kernel_rfl)
theorem args_fil_iter_1 (a : Value) : argsOk "filter.__iter__" ⟨[a], []⟩ := by unfold argsOk; kernel_rfl
theorem args_fil_next_1 (a : Value) : argsOk "filter.__next__" ⟨[a], []⟩ := by unfold argsOk; kernel_rfl
theorem entry_fil_iter : entryFor table "filter.__iter__" = some Builtin.«dict_keyiterator.__iter__» :=
  entryFor_alias (id' := "dict_keyiterator.__iter__") (by kernel_rfl) (by first | rfl | decide +kernel | (unfold String.splitOn; simp +decide [String.splitOnAux])) (by decide +kernel) (by kernel_rfl)
theorem entry_fil_next : entryFor table "filter.__next__" = some Builtin.«filter.__next__» := entryFor_of_tree (by kernel_rfl)
theorem entry_fil_new : entryFor table "filter.__new__" = some Builtin.«filter.__new__» := entryFor_of_tree (by kernel_rfl)
theorem mro_fil : mroOf (.type "filter") = pure [.type "filter", .type "object"] := by rw [mroOf_type]; kernel_rfl
theorem lookup_fil_new : typeLookup (.type "filter") "__new__" = pure (some (.builtin "filter.__new__")) := by rw [typeLookup_type, builtinLookup_eq_fast]; kernel_rfl
theorem called_fil : TypeCalled "filter" "filter.__new__" "object.__init__" :=
  ⟨by decide +kernel, by decide +kernel, ⟨_, _, mro_fil⟩, madeBy_type mro_fil lookup_fil_new (by decide +kernel), by decide +kernel, by rw [isSubtype_type]; kernel_rfl, slot_fil_init⟩
theorem typeCall_fil_2 (a b : Value) : checkTypeCall "filter" ⟨[a, b], []⟩ = pure () := by kernel_rfl
theorem newCall_fil_2 (a b : Value) : checkBuiltinCall "filter.__new__" ⟨[.type "filter", a, b], []⟩ = pure () := by kernel_rfl
theorem fil_no_len : typeLookup (.type "filter") "__len__" = pure none := by rw [typeLookup_type, builtinLookup_eq_fast]; kernel_rfl
theorem fil_no_hint : typeLookup (.type "filter") "__length_hint__" = pure none := by rw [typeLookup_type, builtinLookup_eq_fast]; kernel_rfl
theorem sub_fil : isSubtype (.type "filter") (.type "filter") = pure true := by rw [isSubtype_type]; kernel_rfl

abbrev filH1 (h : Heap) (l1 : Addr) : Heap := h.push { cls := .type "list_iterator", data := .fields #[.ref l1, .int 0 0] }
abbrev filH2 (f : Value) (h : Heap) (l1 : Addr) : Heap := (filH1 h l1).push { cls := .type "filter", data := .fields #[f, .ref h.objs.size] }
theorem meets_fil_new (f : Value) (l1 : Addr) (xs : Array Value) :
    Meets (Builtin.«filter.__new__» ⟨[.type "filter", f, .ref l1], []⟩) (fun _ R s => s.heap.IsList l1 xs ∧
      R (.ok (.ret (.ref (filH1 s.heap l1).objs.size))) { s with heap := filH2 f s.heap l1 }) :=
  .of_wp fun prog w A R s h => by
    obtain ⟨hp, g, d, tk, os⟩ := s; obtain ⟨hl1, h⟩ := h
    have hsub := sub_fil
    have hL1 : Heap.IsList (Shared.heap ⟨hp, g, d, tk, os⟩) l1 xs := hl1
    wp_walk using wpAny_pyIter_list hL1
    exact ⟨_, rfl, h⟩
section
variable {prog : Program} {w : World} {A : Around} {E : Value → Shared → Prop} {s : Shared}
abbrev IsFil (h : Heap) (z it : Addr) (f : Value) : Prop := h.get? z = some { cls := .type "filter", data := .fields #[f, .ref it] }

theorem cs_next_end {it l : Addr} {i : Nat} {items : Array Value} {Q : Option Value → Shared → Prop} (hh : A.handled = none) (hit : s.heap.IsListIter it l i) (hl : s.heap.IsList l items) (hx : items[i]? = none)
    (hE : ∀ h' e, Heap.ExtBut it s.heap h' → (∃ o, h'.get? e = some o ∧ o.cls = .type "StopIteration") → E (.ref e) { s with heap := h' }) : wpAny (model prog w) A (callSpecial? (.ref it) "__next__") Q E s := by
  obtain ⟨o, ho, hc, hd⟩ := id hit
  obtain ⟨ol, hol, _, nl, hdl⟩ := hl
  refine wpAny_callSpecial?_slot (name := Str.ofString "__next__") hit.typeIs slot_listiter_next
    (wpAny_call_entry slot_listiter_next hit.typeIs entry_listiter_next ?_ (args_listiter_next _))
  show wpAny _ _ (field (.ref it) 0 >>= _) _ _ s
  refine wpAny_bind (wpAny_field ho hd (x := .ref l) rfl ?_)
  show wpAny _ _ (if (Value.ref l == Value.none) = true then _ else _) _ _ s
  rw [if_neg (show ¬ ((Value.ref l == Value.none) = true) from Bool.false_ne_true)]
  show wpAny _ _ (field (.ref it) 1 >>= _) _ _ s
  refine wpAny_bind (wpAny_field ho hd (x := .int i 0) rfl ?_)
  show wpAny _ _ (seqItems? (.ref l) >>= _) _ _ s
  refine wpAny_bind (wpAny_seqItems hol hdl ?_)
  simp only [Int.toNat_natCast, hx]
  refine wpAny_bind (wpAny_rule (wpAny_bind (wpAny_setField ho hd (by simp) ?_)))
  show wpAny _ _ (newExc (.type "StopIteration") [] >>= _) _ _ _
  refine wpAny_bind ?_
  simp only [newExc, newTuple]
  refine wpAny_bind (wpAny_newObj_type ?_ (by size_fits))
  refine wpAny_bind (m := firstArgMember _ _) (wpAny_of_eq (a := Value.none) (by first | rfl | (simp only [firstArgMember]; rfl)) ?_)
  refine wpAny_newObj_type ?_ (by size_fits)
  simp only [raiseNew]
  refine wpAny_bind (wpAny_handled ?_)
  first | rw [show A.in1.handled = none from hh] | rw [hh]
  refine wpAny_bind (wpAny_pure (wpAny_throw ?_))
  exact hE _ _ (((Heap.SameBut.update ..).extBut.push _).push _) ⟨_, Heap.get?_push_size _ rfl, rfl⟩

theorem pyNext_fil_end {z it l : Addr} {i : Nat} {items : Array Value} {f : Value} {Q : Option Value → Shared → Prop} (hh : A.handled = none) (hz : IsFil s.heap z it f) (hit : s.heap.IsListIter it l i) (hl : s.heap.IsList l items) (hx : items[i]? = none)
    (hQ : ∀ h', Heap.ExtBut it s.heap h' → Q none { s with heap := h' }) : wpAny (model prog w) A (pyNext (.ref z)) Q E s := by
  have hT' : s.TypeIs (.ref z) "filter" := ⟨_, hz, rfl⟩
  unfold pyNext
  refine wpAny_bind (wpAny_attempt (wpAny_callSpecial?_slot (name := Str.ofString "__next__") hT' slot_fil_next
    (wpAny_call_entry slot_fil_next hT' entry_fil_next ?_ (args_fil_next_1 _))))
  obtain ⟨hp, g, d, tk, os⟩ := s
  show wpAny _ _ (field (.ref z) 0 >>= _) _ _ _
  refine wpAny_bind (wpAny_field hz rfl (x := f) rfl ?_)
  show wpAny _ _ (field (.ref z) 1 >>= _) _ _ _
  refine wpAny_bind (wpAny_field hz rfl (x := .ref it) rfl ?_)
  refine wpAny_bind (cs_next_end hh hit hl hx fun h' e a1 a2 => ?_)
  obtain ⟨o, ho, hc⟩ := a2
  refine wpAny_bind (wpAny_isInstance (T := "StopIteration") (b := true) ⟨o, ho, hc⟩ isSubtype_stop ?_)
  exact wpAny_pure (hQ _ a1)
theorem pyIter_fil {z it : Addr} {f : Value} {Q : Value → Shared → Prop} (hz : IsFil s.heap z it f) (h : Q (.ref z) s) : wpAny (model prog w) A (pyIter (.ref z)) Q E s := by
  have hT : s.TypeIs (.ref z) "filter" := ⟨_, hz, rfl⟩
  refine wpAny_pyIter_slot hT slot_fil_iter (wpAny_call_entry slot_fil_iter hT entry_fil_iter ?_ (args_fil_iter_1 _))
  show wpAny _ _ (ret (.ref z)) _ _ s
  exact wpAny_pure ⟨_, rfl, "filter", _, hT, slot_fil_next.lookup, h⟩
theorem call_fil_2 {f : Value} {l : Addr} {xs : Array Value} {Q : Value → Shared → Prop} (hl : s.heap.IsList l xs)
    (h : ∀ h', IsFil h' (s.heap.objs.size + 1) s.heap.objs.size f → h'.IsListIter s.heap.objs.size l 0 → h'.objs.size = s.heap.objs.size + 2 →
      (∀ c o, s.heap.get? c = some o → h'.get? c = some o) → Q (.ref (s.heap.objs.size + 1)) { s with heap := h' }) :
    wpAny (model prog w) A (call (.type "filter") [f, .ref l]) Q E s := by
  refine callType_new called_fil (by decide) (typeCall_fil_2 _ _) (newCall_fil_2 _ _) (fun obj => F.args_object_init_3 obj _ _) entry_fil_new (meets_fil_new f l xs) ⟨hl, ?_⟩
  have z1 : (filH1 s.heap l).objs.size = s.heap.objs.size + 1 := Heap.size_push ..
  have z2 : (filH2 f s.heap l).objs.size = s.heap.objs.size + 2 := by rw [Heap.size_push, z1]
  have g2 : (filH2 f s.heap l).get? (filH1 s.heap l).objs.size = some _ := Heap.get?_push_size _ rfl
  have g1 : (filH2 f s.heap l).get? s.heap.objs.size = some _ := Heap.get?_push_of_some _ (Heap.get?_push_size _ rfl)
  show _ ∧ _
  rw [z1] at g2
  rw [z1]
  exact ⟨⟨_, g2, rfl⟩, h _ g2 ⟨_, g1, rfl, rfl⟩ z2 fun c o x => Heap.get?_push_of_some _ (Heap.get?_push_of_some _ x)⟩

/-- list(filter(f, l)), l empty -/
theorem call_list_fil {z it b : Addr} {f : Value} {Q : Value → Shared → Prop} (hh : A.handled = none) (hz : IsFil s.heap z it f) (hit : s.heap.IsListIter it b 0) (hl : s.heap.IsList b #[]) (hzi : z ≠ it) (hbi : b ≠ it)
    (h : ∀ s', (∃ h tk, s' = { s with heap := h, toks := tk }) → (∀ c o, c ≠ it → s.heap.get? c = some o → s'.heap.get? c = some o) → s'.heap.PlainList s.heap.objs.size #[] → Q (.ref s.heap.objs.size) s') : wpAny (model prog w) A (call (.type "list") [.ref z]) Q E s := by
  have W : WalksS prog w A.in1.in1 z [z, it, b] [it] (fun a b => b = a) 0 (fun _ _ => True) (fun _ s' => IsFil s'.heap z it f ∧ s'.heap.IsListIter it b 0 ∧ s'.heap.IsList b #[]) := by
    refine ⟨fun c hc => by rw [List.mem_singleton.mp hc]; simp, fun _ => rfl, fun _ _ _ h1 h2 => h2.trans h1, fun i s h' tk ⟨h1, h2, h3⟩ _ hk => ⟨hk z (by simp) _ h1, h2.at fun o e => hk it (by simp) o e, h3.at fun o e => hk b (by simp) o e⟩, fun i s Q E hi => absurd hi (Nat.not_lt_zero _), fun s Q E ⟨h1, h2, h3⟩ hQ => ?_, fun i s Q E ⟨h1, _, _⟩ hQ => pyIter_fil h1 hQ⟩
    exact pyNext_fil_end hh h1 h2 h3 rfl fun h' hs' => hQ _ ⟨fun c o hc e => hs' c o (fun q => hc (by rw [q]; exact List.mem_singleton.mpr rfl)) e, rfl, rfl, rfl, Nat.le_refl _⟩
  refine call_list_plain (Ty := "filter") (by decide) (by decide) fil_no_len fil_no_hint W (fun i s h => ⟨_, h.1, rfl⟩) ⟨hz, hit, hl⟩ ?_ (by simp) ?_ (Nat.zero_le _)
  · intro c hc
    simp only [List.mem_cons, List.not_mem_nil, or_false] at hc
    rcases hc with rfl | rfl | rfl
    · exact Heap.lt_size hz
    · obtain ⟨o, ho, _⟩ := hit; exact Heap.lt_size ho
    · obtain ⟨o, ho, _⟩ := hl; exact Heap.lt_size ho
  · intro s' acc' c' M hS hacc
    refine h s' ⟨s'.heap, s'.toks, ?_⟩ (fun c o hc q => M.heap c o (fun hm => ?_) (Heap.get?_push_of_some _ q)) ?_
    · have h1 := M.gens; have h2 := M.drawn; have h3 := M.os
      cases s'; simp only at h1 h2 h3 ⊢; rw [h1, h2, h3]
    · rcases List.mem_cons.mp hm with hm | hm
      · rw [hm] at q; exact Nat.lt_irrefl _ (Heap.lt_size q)
      · exact hc (List.mem_singleton.mp hm)
    · have : acc' = #[] := Array.eq_empty_of_size_eq_zero hacc.1
      subst this
      exact ⟨_, hS⟩
end
end W40
end
section
open PySem PySem.W PyProof.Rows
set_option Elab.async false
set_option maxRecDepth 100000
set_option linter.unusedVariables false
namespace W40
open PySem PySem.W PyProof.Rows PySem.Calls
section
variable {prog : Program} {w : World} {A : Around} {E : Value → Shared → Prop} {s : Shared} {K : Frag} {C x dx : Addr} {R : Result → Shared → Prop}

theorem osa_set {ox od od' : Obj} {name : Str} {tk : Tok} {v : Value} {es : List DictEntry} {n : Nat} (X : K.In s.heap)
    (I : PySem.W.InstAt s.heap x ox C (some od)) (hd : ox.dict = some dx) (hp : plainOver K C = true) (ht : takerIn K C name = some none) (hh : (clsIn K C).any (·.hasDict) = true)
    (hl : (lookIn name od).isSome = true) (e : Obj.putName name (PyData.keyHash w.params name) (.str name s.toks) v od = od') (e' : od'.data = .dict es.toArray n) (hz : es.length ≤ 1000)
    (h : ∀ h', Heap.SameBut dx s.heap h' → h'.get? dx = some od' → R (.ok (.ret .none)) { s with heap := h', toks := s.toks + 1 }) :
    codeAny (model prog w) A (.call (.builtin "object.__setattr__") ⟨[.ref x, .str name tk, v], []⟩) R s := by
  refine osa_open X I hp ht fun b => ?_
  obtain ⟨cd, hc, hd'⟩ := any_some hh
  obtain ⟨hx, hcl, hn, hdict⟩ := I
  obtain ⟨oc, odi, oda, osl⟩ := ox
  dsimp only at hcl hd hdict
  subst hcl hd
  dsimp only at hdict
  have D : s.heap.get? dx = some od := hdict
  have D' : (s.heap.update dx (Obj.putName name (PyData.keyHash w.params name) (.str name s.toks) v)).get? dx = some od' := by
    have := Heap.get?_update_self (Obj.putName name (PyData.keyHash w.params name) (.str name s.toks) v) D (by rw [e]; obtain ⟨_, _, dd, _⟩ := od'; cases e'; rfl)
    rwa [e] at this
  refine wpAny_bind (wpAny_pure (wpAny_bind (wpAny_bind (wpAny_loadPart hx (wpAny_bind ((looks_clsIn X hc).here ?_))))))
  rw [hd']
  refine wpAny_pure (a := some dx) (wpAny_bind (wpAny_pure (wpAny_bind ?_)))
  unfold nsSet
  refine wpAny_bind (wpAny_bind (wpAny_askSetting (wpAny_pure (wpAny_bind (wpAny_mkText (wpAny_bind (wpAny_loadPart D ?_)))))))
  unfold lookIn at hl
  split at hl
  · rename_i es₀ n₀ q
    rw [q]
    dsimp only
    have c : (!es₀.any (·.key.isStr name) && es₀.any (·.refKey)) = false := by
      rw [← Array.any_toList, ← Array.any_toList]
      split at hl
      · rename_i en he
        rw [List.any_eq_true.mpr ⟨en, List.mem_of_find?_eq_some he, List.find?_some he⟩]; rfl
      · split at hl
        · cases hl
        · rename_i z; rw [Bool.not_eq_true] at z; rw [z, Bool.and_false]
    rw [aRefKeyMayBeTheName_at, c]
    refine wpAny_updatePart D ?_
    refine wpAny_bind (wpAny_lookBehind D' (by rw [e']; exact pastItsLine_dict (by rw [List.size_toArray, sizeLine_eq]; omega)) ?_)
    exact wpAny_pure (h _ (Heap.SameBut.update ..) D')
  · cases hl

/-- x.name = v, x of a plain class -/
theorem attr_set {es es' : List DictEntry} {n n' : Nat} {name : Str} {v : Value} {ox : Obj} {Q : Unit → Shared → Prop} (X : K.In s.heap) (I : PySem.W.InstAt s.heap x ox C (some (dictOf es n))) (hd : ox.dict = some dx)
    (hs : findIn K (.ref C) "__setattr__" = some (some (.builtin "object.__setattr__"))) (hp : plainOver K C = true) (ht : takerIn K C name = some none) (hh : hasDictIn K C = true) (hl : (getL name es).isSome = true)
    (e : (putL name (PyData.keyHash w.params name) (.str name (s.toks + 1)) v es, putN name es n) = (es', n')) (hz : es'.length ≤ 1000)
    (h : ∀ h', Heap.SameBut dx s.heap h' → h'.get? dx = some (dictOf es' n') → Q () { s with heap := h', toks := s.toks + 2 }) : wpAny (model prog w) A (setAttr (.ref x) name v) Q E s := by
  obtain ⟨e1, e2⟩ := Prod.mk.inj e
  exact set_plain X I hs (osa_set (s := { s with toks := s.toks + 1 }) X I hd hp ht hh hl (by rw [putName_dict, e1, e2]) rfl hz fun h' a b => h h' a b)
/-- x.name, x of a plain class -/
theorem attr_get {es : List DictEntry} {n : Nat} {name : Str} {v : Value} {ox : Obj} {expr : Bool} {Q : Value → Shared → Prop} (X : K.In s.heap) (I : PySem.W.InstAt s.heap x ox C (some (dictOf es n))) (hg : plainGet K C name = true) (hh : hasDictIn K C = true)
    {attr : Option Value} (ha : findIn K (.ref C) name = some attr) (hn : noGet K attr = true) (hl : getL name es = some (some v)) (hv : handedIn v = true) (h : Q v { s with toks := s.toks + 1 }) :
    wpAny (model prog w) A (getAttr (.ref x) name expr) Q E s :=
  get_value X I (plainGet_of hg).1 (findObj_own hh ha hn hl) hv h
end
end W40
end
section
open PySem PySem.W PyProof.Rows
set_option Elab.async false
set_option maxRecDepth 20000
set_option linter.unusedVariables false
namespace W40
open PySem PySem.W PyProof.Rows PySem.Calls
noncomputable def stm (i : Nat) : Stmt := Challenge.pw_wn0040_01.main.body.getD i (.Pass ⟨0, 0, 0, 0⟩)
noncomputable def blk : Stmt → List Stmt
  | .ClassDef _ _ _ b _ _ _ _ _ _ _ => b
  | .FunctionDef _ _ b _ _ _ _ _ _ _ => b
  | _ => []
noncomputable def mth (i j : Nat) : Stmt := (blk (stm i)).getD j (.Pass ⟨0, 0, 0, 0⟩)
noncomputable def fP : Stmt → Arguments
  | .FunctionDef _ a _ _ _ _ _ _ _ _ => a
  | _ => ⟨[], [], none, [], [], none, []⟩
noncomputable def fB (s : Stmt) : FuncBody := .stmts (blk s)
noncomputable def fS : Stmt → Scope
  | .FunctionDef _ _ _ _ _ _ sc _ _ _ => sc
  | _ => { kind := .module, names := [], isGenerator := false, isCoroutine := false, more := [] }
noncomputable def frag (P : Params) : Frag :=
[(2, Obj.mk Value.none none (Data.dict #[]) #[]),
(3,
Obj.mk (Value.type "dict") none
(Data.dict
#[DictEntry.mk (PyData.keyHash P (Str.ofString "__name__")) (Value.str (Str.ofString "__name__") 165) (Value.str (Str.ofString "law_wn0040_01") 440), DictEntry.mk (PyData.keyHash P (Str.ofString "__doc__")) (Value.str (Str.ofString "__doc__") 166) Value.none, DictEntry.mk (PyData.keyHash P (Str.ofString "__package__")) (Value.str (Str.ofString "__package__") 167) Value.none,
DictEntry.mk (PyData.keyHash P (Str.ofString "__loader__")) (Value.str (Str.ofString "__loader__") 168) (Value.builtin "__main__.__loader__#opaque"), DictEntry.mk (PyData.keyHash P (Str.ofString "__spec__")) (Value.str (Str.ofString "__spec__") 169) Value.none,
DictEntry.mk (PyData.keyHash P (Str.ofString "__annotations__")) (Value.str (Str.ofString "__annotations__") 170) (Value.ref 6), DictEntry.mk (PyData.keyHash P (Str.ofString "__builtins__")) (Value.str (Str.ofString "__builtins__") 171) (Value.ref 4),
DictEntry.mk (PyData.keyHash P (Str.ofString "__file__")) (Value.str (Str.ofString "__file__") 173) (Value.str (Str.ofString "/claim/cut.py") 172), DictEntry.mk (PyData.keyHash P (Str.ofString "__cached__")) (Value.str (Str.ofString "__cached__") 174) Value.none, DictEntry.mk (PyData.keyHash P (Str.ofString "_wall")) (Value.str (Str.ofString "_wall") 193) (Value.ref 21),
DictEntry.mk (PyData.keyHash P (Str.ofString "Entry")) (Value.str (Str.ofString "Entry") 252) (Value.ref 59), DictEntry.mk (PyData.keyHash P (Str.ofString "_special_chars_map")) (Value.str (Str.ofString "_special_chars_map") 400) (Value.ref 65), DictEntry.mk (PyData.keyHash P (Str.ofString "escape")) (Value.str (Str.ofString "escape") 407) (Value.ref 75),
DictEntry.mk (PyData.keyHash P (Str.ofString "translate_pattern")) (Value.str (Str.ofString "translate_pattern") 418) (Value.ref 82), DictEntry.mk (PyData.keyHash P (Str.ofString "merge_entries")) (Value.str (Str.ofString "merge_entries") 427) (Value.ref 89),
DictEntry.mk (PyData.keyHash P (Str.ofString "_generate_overlap_table")) (Value.str (Str.ofString "_generate_overlap_table") 439) (Value.ref 96), DictEntry.mk (PyData.keyHash P (Str.ofString "_law_cells")) (Value.str (Str.ofString "_law_cells") 450) (Value.ref 103), DictEntry.mk (PyData.keyHash P (Str.ofString "_law_word")) (Value.str (Str.ofString "_law_word") 462) (Value.ref 110),
DictEntry.mk (PyData.keyHash P (Str.ofString "_law_pieces")) (Value.str (Str.ofString "_law_pieces") 474) (Value.ref 117), DictEntry.mk (PyData.keyHash P (Str.ofString "_law_record")) (Value.str (Str.ofString "_law_record") 482) (Value.ref 124), DictEntry.mk (PyData.keyHash P (Str.ofString "_law_table")) (Value.str (Str.ofString "_law_table") 488) (Value.ref 129),
DictEntry.mk (PyData.keyHash P (Str.ofString "_law_first")) (Value.str (Str.ofString "_law_first") 507) (Value.ref 136), DictEntry.mk (PyData.keyHash P (Str.ofString "_law_by_laps")) (Value.str (Str.ofString "_law_by_laps") 513) (Value.ref 141), DictEntry.mk (PyData.keyHash P (Str.ofString "_law_by_places")) (Value.str (Str.ofString "_law_by_places") 519) (Value.ref 146),
DictEntry.mk (PyData.keyHash P (Str.ofString "law")) (Value.str (Str.ofString "law") 525) (Value.ref 151)]
25)
#[]),
(15, Obj.mk (Value.type "tuple") none (Data.seq #[]) #[]), (17, Obj.mk (Value.type "tuple") none (Data.seq #[Value.str (Str.ofString "k") 190]) #[]), (18, Obj.mk (Value.type "tuple") none (Data.seq #[]) #[]),
(20,
Obj.mk (Value.type "code") none
(Data.fields
#[Value.str (Str.ofString "_wall") 187, Value.str (Str.ofString "_wall") 188, Value.str (Str.ofString "/claim/cut.py") 189, Value.int 1 0, Value.int 1 0, Value.int 0 0, Value.int 0 0, Value.int 3 0, Value.ref 15, Value.bool true, Value.int 181 0, Value.ref 16, Value.none, Value.ref 17, Value.ref 18, Value.ref 19, Value.int 191 0, Value.int 1 0,
Value.str (Str.ofString "/claim/cut.py") 192])
#[]),
(21, Obj.mk (Value.type "function") none (Data.func (FuncData.mk (Str.ofString "_wall") (Str.ofString "_wall") (fP (stm 0)) (fB (stm 0)) (fS (stm 0)) 3 [] Value.none Value.none Value.none (Value.str (Str.ofString "__main__") 164) none (Value.ref 20) Value.none 0)) #[]), (29, Obj.mk (Value.type "tuple") none (Data.seq #[]) #[]),
(31, Obj.mk (Value.type "tuple") none (Data.seq #[Value.str (Str.ofString "self") 211]) #[]), (32, Obj.mk (Value.type "tuple") none (Data.seq #[]) #[]),
(34,
Obj.mk (Value.type "code") none
(Data.fields
#[Value.str (Str.ofString "__init__") 208, Value.str (Str.ofString "Entry.__init__") 209, Value.str (Str.ofString "/claim/cut.py") 210, Value.int 7 0, Value.int 1 0, Value.int 0 0, Value.int 0 0, Value.int 3 0, Value.ref 29, Value.bool true, Value.int 181 0, Value.ref 30, Value.none, Value.ref 31, Value.ref 32, Value.ref 33, Value.int 212 0, Value.int 7 0,
Value.str (Str.ofString "/claim/cut.py") 213])
#[]),
(35, Obj.mk (Value.type "function") none (Data.func (FuncData.mk (Str.ofString "__init__") (Str.ofString "Entry.__init__") (fP (mth 2 0)) (fB (mth 2 0)) (fS (mth 2 0)) 3 [] Value.none Value.none Value.none (Value.str (Str.ofString "cpy313.urllib.robotparser") 194) none (Value.ref 34) Value.none 0)) #[]), (36, Obj.mk (Value.type "tuple") none (Data.seq #[]) #[]),
(38, Obj.mk (Value.type "tuple") none (Data.seq #[Value.str (Str.ofString "self") 218, Value.str (Str.ofString "ret") 219, Value.str (Str.ofString "agent") 220, Value.str (Str.ofString "rate") 221]) #[]), (39, Obj.mk (Value.type "tuple") none (Data.seq #[]) #[]),
(41,
Obj.mk (Value.type "code") none
(Data.fields
#[Value.str (Str.ofString "__str__") 215, Value.str (Str.ofString "Entry.__str__") 216, Value.str (Str.ofString "/claim/cut.py") 217, Value.int 13 0, Value.int 1 0, Value.int 0 0, Value.int 0 0, Value.int 3 0, Value.ref 36, Value.bool true, Value.int 181 0, Value.ref 37, Value.none, Value.ref 38, Value.ref 39, Value.ref 40, Value.int 222 0, Value.int 13 0,
Value.str (Str.ofString "/claim/cut.py") 223])
#[]),
(42, Obj.mk (Value.type "function") none (Data.func (FuncData.mk (Str.ofString "__str__") (Str.ofString "Entry.__str__") (fP (mth 2 1)) (fB (mth 2 1)) (fS (mth 2 1)) 3 [] Value.none Value.none Value.none (Value.str (Str.ofString "cpy313.urllib.robotparser") 194) none (Value.ref 41) Value.none 0)) #[]), (43, Obj.mk (Value.type "tuple") none (Data.seq #[]) #[]),
(45, Obj.mk (Value.type "tuple") none (Data.seq #[Value.str (Str.ofString "self") 228, Value.str (Str.ofString "useragent") 229]) #[]), (46, Obj.mk (Value.type "tuple") none (Data.seq #[]) #[]),
(48,
Obj.mk (Value.type "code") none
(Data.fields
#[Value.str (Str.ofString "applies_to") 225, Value.str (Str.ofString "Entry.applies_to") 226, Value.str (Str.ofString "/claim/cut.py") 227, Value.int 30 0, Value.int 2 0, Value.int 0 0, Value.int 0 0, Value.int 3 0, Value.ref 43, Value.bool true, Value.int 181 0, Value.ref 44, Value.none, Value.ref 45, Value.ref 46, Value.ref 47, Value.int 230 0, Value.int 30 0,
Value.str (Str.ofString "/claim/cut.py") 231])
#[]),
(49, Obj.mk (Value.type "function") none (Data.func (FuncData.mk (Str.ofString "applies_to") (Str.ofString "Entry.applies_to") (fP (mth 2 2)) (fB (mth 2 2)) (fS (mth 2 2)) 3 [] Value.none Value.none Value.none (Value.str (Str.ofString "cpy313.urllib.robotparser") 194) none (Value.ref 48) Value.none 0)) #[]), (50, Obj.mk (Value.type "tuple") none (Data.seq #[]) #[]),
(52, Obj.mk (Value.type "tuple") none (Data.seq #[Value.str (Str.ofString "self") 236, Value.str (Str.ofString "filename") 237]) #[]), (53, Obj.mk (Value.type "tuple") none (Data.seq #[]) #[]),
(55,
Obj.mk (Value.type "code") none
(Data.fields
#[Value.str (Str.ofString "allowance") 233, Value.str (Str.ofString "Entry.allowance") 234, Value.str (Str.ofString "/claim/cut.py") 235, Value.int 33 0, Value.int 2 0, Value.int 0 0, Value.int 0 0, Value.int 3 0, Value.ref 50, Value.bool true, Value.int 181 0, Value.ref 51, Value.none, Value.ref 52, Value.ref 53, Value.ref 54, Value.int 238 0, Value.int 33 0,
Value.str (Str.ofString "/claim/cut.py") 239])
#[]),
(56, Obj.mk (Value.type "function") none (Data.func (FuncData.mk (Str.ofString "allowance") (Str.ofString "Entry.allowance") (fP (mth 2 3)) (fB (mth 2 3)) (fS (mth 2 3)) 3 [] Value.none Value.none Value.none (Value.str (Str.ofString "cpy313.urllib.robotparser") 194) none (Value.ref 55) Value.none 0)) #[]),
(57, Obj.mk (Value.type "tuple") none (Data.seq #[Value.str (Str.ofString "delay") 241, Value.str (Str.ofString "req_rate") 242, Value.str (Str.ofString "rulelines") 243, Value.str (Str.ofString "useragents") 244]) #[]),
(58,
Obj.mk (Value.type "dict") none
(Data.dict
#[DictEntry.mk (PyData.keyHash P (Str.ofString "__module__")) (Value.str (Str.ofString "__module__") 203) (Value.str (Str.ofString "cpy313.urllib.robotparser") 194), DictEntry.mk (PyData.keyHash P (Str.ofString "__firstlineno__")) (Value.str (Str.ofString "__firstlineno__") 207) (Value.int 5 206),
DictEntry.mk (PyData.keyHash P (Str.ofString "__init__")) (Value.str (Str.ofString "__init__") 214) (Value.ref 35), DictEntry.mk (PyData.keyHash P (Str.ofString "__str__")) (Value.str (Str.ofString "__str__") 224) (Value.ref 42), DictEntry.mk (PyData.keyHash P (Str.ofString "applies_to")) (Value.str (Str.ofString "applies_to") 232) (Value.ref 49),
DictEntry.mk (PyData.keyHash P (Str.ofString "allowance")) (Value.str (Str.ofString "allowance") 240) (Value.ref 56), DictEntry.mk (PyData.keyHash P (Str.ofString "__static_attributes__")) (Value.str (Str.ofString "__static_attributes__") 245) (Value.ref 57), DictEntry.mk (PyData.keyHash P (Str.ofString "__dict__")) (Value.str (Str.ofString "__dict__") 247) (Value.ref 60),
DictEntry.mk (PyData.keyHash P (Str.ofString "__weakref__")) (Value.str (Str.ofString "__weakref__") 249) (Value.ref 61), DictEntry.mk (PyData.keyHash P (Str.ofString "__doc__")) (Value.str (Str.ofString "__doc__") 250) Value.none]
4)
#[]),
(59, Obj.mk (Value.type "type") none (Data.cls (ClassData.mk (Str.ofString "Entry") [Value.type "object"] [Value.ref 59, Value.type "object"] 58 (Str.ofString "Entry") true [] [] false none false)) #[none, none, some (Value.str (Str.ofString "Entry") 196), some (Value.str (Str.ofString "Entry") 204), some (Value.builtin "object.__new__"), some (Value.bool true)]),
(60, Obj.mk (Value.type "getset_descriptor") none (Data.fields #[Value.str (Str.ofString "__dict__") 246, Value.ref 59, Value.builtin "function.__dict__", Value.builtin "function.__dict__#set"]) #[]), (61, Obj.mk (Value.type "getset_descriptor") none (Data.fields #[Value.str (Str.ofString "__weakref__") 248, Value.ref 59, Value.builtin "ExceptionGroup.__weakref__", Value.none]) #[]),
(65,
Obj.mk (Value.type "dict") none
(Data.dict
#[DictEntry.mk 40 (Value.int 40 256) (Value.str (Str.ofString "\\(") 260), DictEntry.mk 41 (Value.int 41 262) (Value.str (Str.ofString "\\)") 266), DictEntry.mk 91 (Value.int 91 268) (Value.str (Str.ofString "\\[") 272), DictEntry.mk 93 (Value.int 93 274) (Value.str (Str.ofString "\\]") 278), DictEntry.mk 123 (Value.int 123 280) (Value.str (Str.ofString "\\{") 284),
DictEntry.mk 125 (Value.int 125 286) (Value.str (Str.ofString "\\}") 290), DictEntry.mk 63 (Value.int 63 292) (Value.str (Str.ofString "\\?") 296), DictEntry.mk 42 (Value.int 42 298) (Value.str (Str.ofString "\\*") 302), DictEntry.mk 43 (Value.int 43 304) (Value.str (Str.ofString "\\+") 308), DictEntry.mk 45 (Value.int 45 310) (Value.str (Str.ofString "\\-") 314),
DictEntry.mk 124 (Value.int 124 316) (Value.str (Str.ofString "\\|") 320), DictEntry.mk 94 (Value.int 94 322) (Value.str (Str.ofString "\\^") 326), DictEntry.mk 36 (Value.int 36 328) (Value.str (Str.ofString "\\$") 332), DictEntry.mk 92 (Value.int 92 334) (Value.str (Str.ofString "\\\\") 338), DictEntry.mk 46 (Value.int 46 340) (Value.str (Str.ofString "\\.") 344),
DictEntry.mk 38 (Value.int 38 346) (Value.str (Str.ofString "\\&") 350), DictEntry.mk 126 (Value.int 126 352) (Value.str (Str.ofString "\\~") 356), DictEntry.mk 35 (Value.int 35 358) (Value.str (Str.ofString "\\#") 362), DictEntry.mk 32 (Value.int 32 364) (Value.str (Str.ofString "\\ ") 368), DictEntry.mk 9 (Value.int 9 370) (Value.str (Str.ofString "\\\t") 374),
DictEntry.mk 10 (Value.int 10 376) (Value.str (Str.ofString "\\\n") 380), DictEntry.mk 13 (Value.int 13 382) (Value.str (Str.ofString "\\\x0d") 386), DictEntry.mk 11 (Value.int 11 388) (Value.str (Str.ofString "\\\x0b") 392), DictEntry.mk 12 (Value.int 12 394) (Value.str (Str.ofString "\\\x0c") 398)]
24)
#[]),
(69, Obj.mk (Value.type "tuple") none (Data.seq #[]) #[]), (71, Obj.mk (Value.type "tuple") none (Data.seq #[Value.str (Str.ofString "pattern") 404]) #[]), (72, Obj.mk (Value.type "tuple") none (Data.seq #[]) #[]),
(74,
Obj.mk (Value.type "code") none
(Data.fields
#[Value.str (Str.ofString "escape") 401, Value.str (Str.ofString "escape") 402, Value.str (Str.ofString "/claim/cut.py") 403, Value.int 37 0, Value.int 1 0, Value.int 0 0, Value.int 0 0, Value.int 3 0, Value.ref 69, Value.bool true, Value.int 181 0, Value.ref 70, Value.none, Value.ref 71, Value.ref 72, Value.ref 73, Value.int 405 0, Value.int 37 0,
Value.str (Str.ofString "/claim/cut.py") 406])
#[]),
(75, Obj.mk (Value.type "function") none (Data.func (FuncData.mk (Str.ofString "escape") (Str.ofString "escape") (fP (stm 5)) (fB (stm 5)) (fS (stm 5)) 3 [] Value.none Value.none Value.none (Value.str (Str.ofString "re") 253) none (Value.ref 74) Value.none 0)) #[]), (76, Obj.mk (Value.type "tuple") none (Data.seq #[]) #[]),
(78, Obj.mk (Value.type "tuple") none (Data.seq #[Value.str (Str.ofString "path") 413, Value.str (Str.ofString "parts") 414, Value.str (Str.ofString "i") 415]) #[]), (79, Obj.mk (Value.type "tuple") none (Data.seq #[]) #[]),
(81,
Obj.mk (Value.type "code") none
(Data.fields
#[Value.str (Str.ofString "translate_pattern") 410, Value.str (Str.ofString "translate_pattern") 411, Value.str (Str.ofString "/claim/cut.py") 412, Value.int 44 0, Value.int 1 0, Value.int 0 0, Value.int 0 0, Value.int 3 0, Value.ref 76, Value.bool true, Value.int 181 0, Value.ref 77, Value.none, Value.ref 78, Value.ref 79, Value.ref 80, Value.int 416 0, Value.int 44 0,
Value.str (Str.ofString "/claim/cut.py") 417])
#[]),
(82, Obj.mk (Value.type "function") none (Data.func (FuncData.mk (Str.ofString "translate_pattern") (Str.ofString "translate_pattern") (fP (stm 7)) (fB (stm 7)) (fS (stm 7)) 3 [] Value.none Value.none Value.none (Value.str (Str.ofString "cpy313.urllib.robotparser") 408) none (Value.ref 81) Value.none 0)) #[]), (83, Obj.mk (Value.type "tuple") none (Data.seq #[]) #[]),
(85, Obj.mk (Value.type "tuple") none (Data.seq #[Value.str (Str.ofString "e1") 422, Value.str (Str.ofString "e2") 423, Value.str (Str.ofString "entry") 424]) #[]), (86, Obj.mk (Value.type "tuple") none (Data.seq #[]) #[]),
(88,
Obj.mk (Value.type "code") none
(Data.fields
#[Value.str (Str.ofString "merge_entries") 419, Value.str (Str.ofString "merge_entries") 420, Value.str (Str.ofString "/claim/cut.py") 421, Value.int 50 0, Value.int 2 0, Value.int 0 0, Value.int 0 0, Value.int 3 0, Value.ref 83, Value.bool true, Value.int 181 0, Value.ref 84, Value.none, Value.ref 85, Value.ref 86, Value.ref 87, Value.int 425 0, Value.int 50 0,
Value.str (Str.ofString "/claim/cut.py") 426])
#[]),
(89, Obj.mk (Value.type "function") none (Data.func (FuncData.mk (Str.ofString "merge_entries") (Str.ofString "merge_entries") (fP (stm 8)) (fB (stm 8)) (fS (stm 8)) 3 [] Value.none Value.none Value.none (Value.str (Str.ofString "cpy313.urllib.robotparser") 408) none (Value.ref 88) Value.none 0)) #[]), (90, Obj.mk (Value.type "tuple") none (Data.seq #[]) #[]),
(92, Obj.mk (Value.type "tuple") none (Data.seq #[Value.str (Str.ofString "prefix") 433, Value.str (Str.ofString "table") 434, Value.str (Str.ofString "i") 435, Value.str (Str.ofString "idx") 436]) #[]), (93, Obj.mk (Value.type "tuple") none (Data.seq #[]) #[]),
(95,
Obj.mk (Value.type "code") none
(Data.fields
#[Value.str (Str.ofString "_generate_overlap_table") 430, Value.str (Str.ofString "_generate_overlap_table") 431, Value.str (Str.ofString "/claim/cut.py") 432, Value.int 58 0, Value.int 1 0, Value.int 0 0, Value.int 0 0, Value.int 3 0, Value.ref 90, Value.bool true, Value.int 181 0, Value.ref 91, Value.none, Value.ref 92, Value.ref 93, Value.ref 94, Value.int 437 0, Value.int 58 0,
Value.str (Str.ofString "/claim/cut.py") 438])
#[]),
(96, Obj.mk (Value.type "function") none (Data.func (FuncData.mk (Str.ofString "_generate_overlap_table") (Str.ofString "_generate_overlap_table") (fP (stm 10)) (fB (stm 10)) (fS (stm 10)) 3 [] Value.none Value.none Value.none (Value.str (Str.ofString "cpy313.re._compiler") 428) none (Value.ref 95) Value.none 0)) #[]),
(97, Obj.mk (Value.type "tuple") none (Data.seq #[]) #[]), (99, Obj.mk (Value.type "tuple") none (Data.seq #[Value.str (Str.ofString "script") 445, Value.str (Str.ofString "cells") 446, Value.str (Str.ofString "place") 447]) #[]), (100, Obj.mk (Value.type "tuple") none (Data.seq #[]) #[]),
(102,
Obj.mk (Value.type "code") none
(Data.fields
#[Value.str (Str.ofString "_law_cells") 442, Value.str (Str.ofString "_law_cells") 443, Value.str (Str.ofString "/claim/cut.py") 444, Value.int 71 0, Value.int 1 0, Value.int 0 0, Value.int 0 0, Value.int 3 0, Value.ref 97, Value.bool true, Value.int 181 0, Value.ref 98, Value.none, Value.ref 99, Value.ref 100, Value.ref 101, Value.int 448 0, Value.int 71 0,
Value.str (Str.ofString "/claim/cut.py") 449])
#[]),
(103, Obj.mk (Value.type "function") none (Data.func (FuncData.mk (Str.ofString "_law_cells") (Str.ofString "_law_cells") (fP (stm 12)) (fB (stm 12)) (fS (stm 12)) 3 [] Value.none Value.none Value.none (Value.str (Str.ofString "law_wn0040_01") 440) none (Value.ref 102) Value.none 0)) #[]), (104, Obj.mk (Value.type "tuple") none (Data.seq #[]) #[]),
(106, Obj.mk (Value.type "tuple") none (Data.seq #[Value.str (Str.ofString "number") 454, Value.str (Str.ofString "size") 455, Value.str (Str.ofString "letter") 456, Value.str (Str.ofString "mark") 457, Value.str (Str.ofString "word") 458, Value.str (Str.ofString "k") 459]) #[]), (107, Obj.mk (Value.type "tuple") none (Data.seq #[]) #[]),
(109,
Obj.mk (Value.type "code") none
(Data.fields
#[Value.str (Str.ofString "_law_word") 451, Value.str (Str.ofString "_law_word") 452, Value.str (Str.ofString "/claim/cut.py") 453, Value.int 76 0, Value.int 4 0, Value.int 0 0, Value.int 0 0, Value.int 3 0, Value.ref 104, Value.bool true, Value.int 181 0, Value.ref 105, Value.none, Value.ref 106, Value.ref 107, Value.ref 108, Value.int 460 0, Value.int 76 0,
Value.str (Str.ofString "/claim/cut.py") 461])
#[]),
(110, Obj.mk (Value.type "function") none (Data.func (FuncData.mk (Str.ofString "_law_word") (Str.ofString "_law_word") (fP (stm 13)) (fB (stm 13)) (fS (stm 13)) 3 [] Value.none Value.none Value.none (Value.str (Str.ofString "law_wn0040_01") 440) none (Value.ref 109) Value.none 0)) #[]), (111, Obj.mk (Value.type "tuple") none (Data.seq #[]) #[]),
(113, Obj.mk (Value.type "tuple") none (Data.seq #[Value.str (Str.ofString "pattern") 466, Value.str (Str.ofString "parts") 467, Value.str (Str.ofString "pieces") 468, Value.str (Str.ofString "k") 469, Value.str (Str.ofString "head") 470, Value.str (Str.ofString "tail") 471]) #[]), (114, Obj.mk (Value.type "tuple") none (Data.seq #[]) #[]),
(116,
Obj.mk (Value.type "code") none
(Data.fields
#[Value.str (Str.ofString "_law_pieces") 463, Value.str (Str.ofString "_law_pieces") 464, Value.str (Str.ofString "/claim/cut.py") 465, Value.int 81 0, Value.int 1 0, Value.int 0 0, Value.int 0 0, Value.int 3 0, Value.ref 111, Value.bool true, Value.int 181 0, Value.ref 112, Value.none, Value.ref 113, Value.ref 114, Value.ref 115, Value.int 472 0, Value.int 81 0,
Value.str (Str.ofString "/claim/cut.py") 473])
#[]),
(117, Obj.mk (Value.type "function") none (Data.func (FuncData.mk (Str.ofString "_law_pieces") (Str.ofString "_law_pieces") (fP (stm 14)) (fB (stm 14)) (fS (stm 14)) 3 [] Value.none Value.none Value.none (Value.str (Str.ofString "law_wn0040_01") 440) none (Value.ref 116) Value.none 0)) #[]), (118, Obj.mk (Value.type "tuple") none (Data.seq #[]) #[]),
(120, Obj.mk (Value.type "tuple") none (Data.seq #[Value.str (Str.ofString "path") 478, Value.str (Str.ofString "record") 479]) #[]), (121, Obj.mk (Value.type "tuple") none (Data.seq #[]) #[]),
(123,
Obj.mk (Value.type "code") none
(Data.fields
#[Value.str (Str.ofString "_law_record") 475, Value.str (Str.ofString "_law_record") 476, Value.str (Str.ofString "/claim/cut.py") 477, Value.int 98 0, Value.int 1 0, Value.int 0 0, Value.int 0 0, Value.int 3 0, Value.ref 118, Value.bool true, Value.int 181 0, Value.ref 119, Value.none, Value.ref 120, Value.ref 121, Value.ref 122, Value.int 480 0, Value.int 98 0,
Value.str (Str.ofString "/claim/cut.py") 481])
#[]),
(124, Obj.mk (Value.type "function") none (Data.func (FuncData.mk (Str.ofString "_law_record") (Str.ofString "_law_record") (fP (stm 15)) (fB (stm 15)) (fS (stm 15)) 3 [] Value.none Value.none Value.none (Value.str (Str.ofString "law_wn0040_01") 440) none (Value.ref 123) Value.none 0)) #[]), (125, Obj.mk (Value.type "tuple") none (Data.seq #[]) #[]),
(128,
Obj.mk (Value.type "code") none
(Data.fields
#[Value.str (Str.ofString "_law_table") 483, Value.str (Str.ofString "_law_table") 484, Value.str (Str.ofString "/claim/cut.py") 485, Value.int 102 0, Value.int 1 0, Value.int 0 0, Value.int 0 0, Value.int 3 0, Value.ref 125, Value.bool true, Value.int 181 0, Value.ref 126, Value.none, Value.none, Value.none, Value.ref 127, Value.int 486 0, Value.int 102 0,
Value.str (Str.ofString "/claim/cut.py") 487])
#[]),
(129, Obj.mk (Value.type "function") none (Data.func (FuncData.mk (Str.ofString "_law_table") (Str.ofString "_law_table") (fP (stm 16)) (fB (stm 16)) (fS (stm 16)) 3 [] Value.none Value.none Value.none (Value.str (Str.ofString "law_wn0040_01") 440) none (Value.ref 128) Value.none 0)) #[]), (130, Obj.mk (Value.type "tuple") none (Data.seq #[]) #[]),
(132,
Obj.mk (Value.type "tuple") none
(Data.seq
#[Value.str (Str.ofString "piece") 492, Value.str (Str.ofString "letters") 493, Value.str (Str.ofString "kinds") 494, Value.str (Str.ofString "top") 495, Value.str (Str.ofString "table") 496, Value.str (Str.ofString "border") 497, Value.str (Str.ofString "steps") 498, Value.str (Str.ofString "k") 499, Value.str (Str.ofString "free") 500, Value.str (Str.ofString "ended") 501,
Value.str (Str.ofString "size") 502, Value.str (Str.ofString "count") 503, Value.str (Str.ofString "step") 504])
#[]),
(133, Obj.mk (Value.type "tuple") none (Data.seq #[]) #[]),
(135,
Obj.mk (Value.type "code") none
(Data.fields
#[Value.str (Str.ofString "_law_first") 489, Value.str (Str.ofString "_law_first") 490, Value.str (Str.ofString "/claim/cut.py") 491, Value.int 104 0, Value.int 4 0, Value.int 0 0, Value.int 0 0, Value.int 3 0, Value.ref 130, Value.bool true, Value.int 181 0, Value.ref 131, Value.none, Value.ref 132, Value.ref 133, Value.ref 134, Value.int 505 0, Value.int 104 0,
Value.str (Str.ofString "/claim/cut.py") 506])
#[]),
(136, Obj.mk (Value.type "function") none (Data.func (FuncData.mk (Str.ofString "_law_first") (Str.ofString "_law_first") (fP (stm 17)) (fB (stm 17)) (fS (stm 17)) 3 [] Value.none Value.none Value.none (Value.str (Str.ofString "law_wn0040_01") 440) none (Value.ref 135) Value.none 0)) #[]), (137, Obj.mk (Value.type "tuple") none (Data.seq #[]) #[]),
(140,
Obj.mk (Value.type "code") none
(Data.fields
#[Value.str (Str.ofString "_law_by_laps") 508, Value.str (Str.ofString "_law_by_laps") 509, Value.str (Str.ofString "/claim/cut.py") 510, Value.int 124 0, Value.int 4 0, Value.int 0 0, Value.int 0 0, Value.int 3 0, Value.ref 137, Value.bool true, Value.int 181 0, Value.ref 138, Value.none, Value.none, Value.none, Value.ref 139, Value.int 511 0, Value.int 124 0,
Value.str (Str.ofString "/claim/cut.py") 512])
#[]),
(141, Obj.mk (Value.type "function") none (Data.func (FuncData.mk (Str.ofString "_law_by_laps") (Str.ofString "_law_by_laps") (fP (stm 18)) (fB (stm 18)) (fS (stm 18)) 3 [] Value.none Value.none Value.none (Value.str (Str.ofString "law_wn0040_01") 440) none (Value.ref 140) Value.none 0)) #[]), (142, Obj.mk (Value.type "tuple") none (Data.seq #[]) #[]),
(145,
Obj.mk (Value.type "code") none
(Data.fields
#[Value.str (Str.ofString "_law_by_places") 514, Value.str (Str.ofString "_law_by_places") 515, Value.str (Str.ofString "/claim/cut.py") 516, Value.int 133 0, Value.int 5 0, Value.int 0 0, Value.int 0 0, Value.int 3 0, Value.ref 142, Value.bool true, Value.int 181 0, Value.ref 143, Value.none, Value.none, Value.none, Value.ref 144, Value.int 517 0, Value.int 133 0,
Value.str (Str.ofString "/claim/cut.py") 518])
#[]),
(146, Obj.mk (Value.type "function") none (Data.func (FuncData.mk (Str.ofString "_law_by_places") (Str.ofString "_law_by_places") (fP (stm 19)) (fB (stm 19)) (fS (stm 19)) 3 [] Value.none Value.none Value.none (Value.str (Str.ofString "law_wn0040_01") 440) none (Value.ref 145) Value.none 0)) #[]), (147, Obj.mk (Value.type "tuple") none (Data.seq #[]) #[]),
(150,
Obj.mk (Value.type "code") none
(Data.fields
#[Value.str (Str.ofString "law") 520, Value.str (Str.ofString "law") 521, Value.str (Str.ofString "/claim/cut.py") 522, Value.int 153 0, Value.int 1 0, Value.int 0 0, Value.int 0 0, Value.int 3 0, Value.ref 147, Value.bool true, Value.int 181 0, Value.ref 148, Value.none, Value.none, Value.none, Value.ref 149, Value.int 523 0, Value.int 153 0,
Value.str (Str.ofString "/claim/cut.py") 524])
#[]),
(151, Obj.mk (Value.type "function") none (Data.func (FuncData.mk (Str.ofString "law") (Str.ofString "law") (fP (stm 20)) (fB (stm 20)) (fS (stm 20)) 3 [] Value.none Value.none Value.none (Value.str (Str.ofString "law_wn0040_01") 440) none (Value.ref 150) Value.none 0)) #[])]
end W40
end
section
open PySem PySem.W PyProof.Rows
set_option Elab.async false
set_option maxRecDepth 20000
set_option linter.unusedVariables false
namespace W40
open PySem PySem.W PyProof.Rows PySem.Calls
variable {prog : Program} {w : World} {T : Nat} {n : Nat}

noncomputable def XX (prog : Program) (w : World) (T : Nat) : Cx := ⟨prog, w, frag w.params, 59, T⟩

theorem bn_len : BName (XX prog w T) "len" (.builtin "len") := ⟨by rfl, by rfl, by decide⟩
theorem bn_range : BName (XX prog w T) "range" (.type "range") := ⟨by rfl, by rfl, by decide⟩
theorem bn_sum : BName (XX prog w T) "sum" (.builtin "sum") := ⟨by rfl, by rfl, by decide⟩
theorem bn_max : BName (XX prog w T) "max" (.builtin "max") := ⟨by rfl, by rfl, by decide⟩
theorem gn_pat : GName (XX prog w T) "translate_pattern" (.ref 82) := by rfl
end W40
end
section
open PySem PySem.W PyProof.Rows
set_option Elab.async false
set_option maxRecDepth 100000
set_option linter.unusedVariables false
namespace W40
open PySem PySem.W PyProof.Rows PySem.Calls

theorem putL_keys {name : Str} {hsh : Int} {t : Tok} {v : Value} : ∀ {es : List DictEntry}, StrKeys es → StrKeys (putL name hsh (.str name t) v es)
  | [], _ => fun e he => by
    have : e = ⟨hsh, .str name t, v⟩ := by simpa [putL] using he
    subst this; exact ⟨_, _, rfl⟩
  | e :: r, h => fun e' he' => by
    unfold putL at he'
    split at he'
    · rcases List.mem_cons.mp he' with rfl | hm
      · exact h e (.head _)
      · exact h e' (.tail _ hm)
    · rcases List.mem_cons.mp he' with rfl | hm
      · exact h e' (.head _)
      · exact putL_keys (fun q hq => h q (.tail _ hq)) e' hm
theorem putL_len {name : Str} {hsh : Int} {key v : Value} : ∀ {es : List DictEntry}, (putL name hsh key v es).length ≤ es.length + 1
  | [] => Nat.le_refl _
  | e :: r => by
    unfold putL
    split
    · simp
    · have := putL_len (name := name) (hsh := hsh) (key := key) (v := v) (es := r)
      simp only [List.length_cons]; omega
theorem putL_len_there {name : Str} {hsh : Int} {key v : Value} : ∀ {es : List DictEntry}, es.any (·.key.isStr name) = true → (putL name hsh key v es).length = es.length
  | [], h => by simp at h
  | e :: r, h => by
    unfold putL
    split
    · simp
    · rename_i hn
      rw [List.any_cons] at h
      have hr : r.any (·.key.isStr name) = true := by simpa [hn] using h
      simp only [List.length_cons, putL_len_there hr]
theorem noRef {es : List DictEntry} (h : StrKeys es) : es.any (·.refKey) = false := by
  rw [List.any_eq_false]
  intro e he
  obtain ⟨y, t, hk⟩ := h e he
  simp [DictEntry.refKey, hk]
theorem getL_isSome {es : List DictEntry} (h : StrKeys es) (name : Str) : (getL name es).isSome = true := by
  unfold getL
  rw [noRef h]
  split <;> rfl
theorem getL_any {es : List DictEntry} {name : Str} {v : Value} (h : getL name es = some (some v)) : es.any (·.key.isStr name) = true := by
  unfold getL at h
  split at h
  · rename_i e he
    exact List.any_eq_true.mpr ⟨e, List.mem_of_find?_eq_some he, List.find?_some (p := fun x : DictEntry => x.key.isStr name) he⟩
  · split at h <;> cases h
theorem getL_put_self {name : Str} {hsh : Int} {t : Tok} {v : Value} {es : List DictEntry} : getL name (putL name hsh (.str name t) v es) = some (some v) := by
  unfold getL
  have : (putL name hsh (.str name t) v es).find? (·.key.isStr name) = some ⟨((putL name hsh (.str name t) v es).find? (·.key.isStr name)).get!.hash, ((putL name hsh (.str name t) v es).find? (·.key.isStr name)).get!.key, v⟩ := by
    induction es with
    | nil => simp [putL, Value.isStr]
    | cons e r ih =>
      unfold putL
      cases h : e.key.isStr name with
      | true => simp [h]
      | false =>
        simp only [Bool.false_eq_true, if_false, List.find?_cons, h]
        exact ih
  rw [this]
theorem getL_put_other {name name' : Str} {hsh : Int} {t : Tok} {v : Value} {es : List DictEntry} (hne : name' ≠ name) (h : StrKeys es) : getL name' (putL name hsh (.str name t) v es) = getL name' es := by
  unfold getL
  rw [noRef h, noRef (putL_keys h)]
  have e : ((putL name hsh (.str name t) v es).find? (·.key.isStr name')).map (·.val) = (es.find? (·.key.isStr name')).map (·.val) := by
    clear h
    induction es with
    | nil => simp [putL, Value.isStr, Ne.symm hne]
    | cons e r ih =>
      unfold putL
      cases h : e.key.isStr name with
      | true =>
        have h' : e.key.isStr name' = false := by
          cases q : e.key.isStr name' with
          | false => rfl
          | true => exact absurd (Value.isStr_inj _ _ _ q h) hne
        simp [h']
      | false =>
        simp only [Bool.false_eq_true, if_false, List.find?_cons]
        cases q : e.key.isStr name' with
        | true => rfl
        | false => exact ih
  cases h1 : (putL name hsh (.str name t) v es).find? (·.key.isStr name') with
  | none =>
    rw [h1] at e
    cases h2 : es.find? (·.key.isStr name') with
    | none => rfl
    | some q => rw [h2] at e; cases e
  | some p =>
    rw [h1] at e
    cases h2 : es.find? (·.key.isStr name') with
    | none => rw [h2] at e; cases e
    | some q =>
      rw [h2] at e
      have e : p.val = q.val := by simpa using e
      simp only [e]
end W40
end
section
open PySem PySem.W PyProof.Rows
set_option Elab.async false
set_option maxRecDepth 20000
set_option linter.unusedVariables false
set_option pp.deepTerms false
set_option pp.deepTerms.threshold 4
namespace W40
open PySem PySem.W PyProof.Rows PySem.Calls
variable {prog : Program} {w : World} {T : Nat} {n : Nat} {env : Env} {A : Around} {E : Value → Shared → Prop} {Q : Flow → Shared → Prop} {rest : List Stmt} {s0 s : Shared} {x dx : Addr} {es : List DictEntry} {m : Nat}

structure SelfSt (prog : Program) (w : World) (T : Nat) (s0 : Shared) (env : Env) (x dx : Addr) (es : List DictEntry) (m : Nat) (s : Shared) : Prop where
  gl : Gl (XX prog w T) s0
  kp : Kp s0 s
  ev : EnvOk env
  kd : env.kindOf "self" = some .local
  ns : ∃ f, s.heap.Ns env.locals f ∧ f "self" = some (.ref x)
  hx : s.heap.get? x = some (instObj 59 dx)
  hd : s.heap.get? dx = some (dictOf es m)
  sk : StrKeys es
  ld : env.locals ≠ dx
  xd : x ≠ dx
  nd : s0.heap.get? dx = none

theorem self_attr (y : SelfSt prog w T s0 env x dx es m s) {nm : Str} {p ap pos : Pos} {e : Expr} {P : Value → Shared → Prop} (he : wpAny (model prog w) A (eval e env) (fun v s' => Kp s s' ∧ P v s') E s) (hz : es.length < 900)
    (ht : takerIn (XX prog w T).K 59 nm = some none)
    (k : ∀ v s' s'', Kp s s' → P v s' → (∀ b o, b ≠ dx → s'.heap.get? b = some o → s''.heap.get? b = some o) → SelfSt prog w T s0 env x dx (putL nm (PyData.keyHash w.params nm) (.str nm (s'.toks + 1)) v es) (putN nm es m) s'' → Wp (XX prog w T) A env rest Q E s'')
    (hs : swapsWith e (some (.Attribute (.Name "self" p) nm ap)) pos.line env = pure false := by rfl) : Wp (XX prog w T) A env (.Assign [.Attribute (.Name "self" p) nm ap] e pos :: rest) Q E s := by
  refine wpAny_execs_cons (plainObj_wpAny_Assign_Attribute (wpAny_mono he (fun v s' ⟨k1, hp⟩ => ?_) fun _ _ x => x) hs)
  have kp := y.kp.trans k1
  have gl := y.gl.kp kp
  obtain ⟨f, hf, hself⟩ := y.ns
  refine wpAny_Name (wpAny_loadName_local y.ev.kind y.kd (hf.keeps k1.keep) hself ?_) (by decide)
  have I : PySem.W.InstAt s'.heap x (instObj 59 dx) 59 (some (dictOf es m)) := ⟨k1.keep _ _ y.hx, rfl, rfl, k1.keep _ _ y.hd⟩
  refine attr_set (K := (XX prog w T).K) gl.kin I rfl (by rfl) (by rfl) ht (by rfl) (getL_isSome y.sk nm) rfl (Nat.le_trans putL_len (by omega)) fun h' hs' hd' => ?_
  refine k v s' _ k1 hp (fun b o hb e => hs'.extBut b o hb e) ⟨y.gl, ⟨?_, fun b o e => hs'.extBut b o (fun q => by rw [q, y.nd] at e; cases e) (kp.keep b o e), Nat.le_trans kp.tok (by show s'.toks ≤ s'.toks + 2; omega)⟩, y.ev, y.kd, ⟨f, (hf.keeps k1.keep).sameBut hs' y.ld, hself⟩, hs'.extBut _ _ y.xd (k1.keep _ _ y.hx), hd', putL_keys y.sk, y.ld, y.xd, y.nd⟩
  obtain ⟨h1, t1, rfl⟩ := kp.same
  exact ⟨_, _, rfl⟩

theorem under_tc {A : Around} (a : AOk (n + 4) A) : AOk n (A.under (.builtin "type.__call__" ⟨[.ref 59], []⟩)) := by
  have h1 : (Code.builtin "type.__call__" ⟨[.ref 59], []⟩).weight ≤ 4 := by decide +kernel
  have h2 : (Code.builtin "type.__call__" ⟨[.ref 59], []⟩).cUnits ≤ 60 := by decide +kernel
  exact ⟨a.hand, by have := a.depth; show A.depth + _ + n < _; omega, by have := a.units; show A.units + _ + 16 * n + 64 < _; omega⟩

theorem none_ev {k : Nat} {pos : Pos} {env : Env} : wpAny (model prog w) A (eval (.Constant .none k pos) env) (fun v s' => Kp s s' ∧ v = .none) E s := wpAny_Constant_none ⟨Kp.refl s, rfl⟩
theorem nil_ev {pos : Pos} {env : Env} : wpAny (model prog w) A (eval (.List [] pos) env) (fun v s' => Kp s s' ∧ ∃ a, v = .ref a ∧ s'.heap.get? a = some { cls := .type "list", data := .seq #[] } ∧ s.heap.get? a = none) E s :=
  wpAny_List (wpAny_items_nil ⟨Nat.zero_le _, Kp.push _ _, _, rfl, Heap.get?_push_size _ rfl, none_at_size _⟩)

theorem entry_new (a : AOk (n + 6) A) (g : Gl (XX prog w T) s) : wpAny (model prog w) A (call (.ref 59) []) (PostF (XX prog w T) s (.en [])) E s := by
  obtain ⟨hh, gg, d, t, os⟩ := s
  have hkin := g.kin
  refine wpAny_call (make_core (makes_of (K := (XX prog w T).K) hkin (by rfl)) (looks_findIn (K := (XX prog w T).K) hkin (by rfl : findIn (XX prog w T).K (.ref 59) "__init__" = some (some (.ref 35)))) (fun self => bind_fn (K := (XX prog w T).K) hkin self (by rfl)) (.inl rfl) ?_)
  have a' : AOk (n + 2) (A.under (.builtin "type.__call__" ⟨[.ref 59], []⟩)) := under_tc a
  generalize A.under (.builtin "type.__call__" ⟨[.ref 59], []⟩) = A' at a'
  have k1 : Kp ⟨hh, gg, d, t, os⟩ ⟨(hh.push emptyDict).push (instObj 59 hh.objs.size), gg, d, t, os⟩ := (Kp.push _ _).trans (Kp.push ⟨hh.push emptyDict, gg, d, t, os⟩ _)
  have g1 := g.kp k1
  have h35 := g1.kin 35 _ rfl
  refine codeAny_call_function a'.room h35 rfl rfl rfl rfl (codeRec_of (K := (XX prog w T).K) g1.kin (by rfl)) ?_
  have hb : ∀ {fd : FuncData} {v : Value} {Q : List (Str × Value) → Shared → Prop} {s : Shared} {E}, bindArgs fd ⟨[v], []⟩ = pure ((["self"] : List Str).zip [v]) → Q [("self", v)] s → wpAny (model prog w) A'.in1 (bindArgs fd ⟨[v], []⟩) Q E s := fun h q => wpAny_of_eq h q
  refine hb (by exact rfl) ?_
  refine tok_up (wpAny_newFunctionEnv_cells rfl (fun x hx => ?_) fun env he s' y ht => ?_)
  · rw [List.mem_singleton.1 hx]; exact .inl rfl
  subst he
  refine ⟨g1.lim.keeps y.toInCall.keep, codeAny_func ?_⟩
  have sz2 : ((hh.push emptyDict).push (instObj 59 hh.objs.size)).objs.size = hh.objs.size + 2 := by rw [Heap.size_push, Heap.size_push]
  have hx2 : ((hh.push emptyDict).push (instObj 59 hh.objs.size)).get? (hh.objs.size + 1) = some (instObj 59 hh.objs.size) := by
    have := Heap.get?_push_size (hh.push emptyDict) (o := instObj 59 hh.objs.size) rfl
    rwa [Heap.size_push] at this
  have hd2 : ((hh.push emptyDict).push (instObj 59 hh.objs.size)).get? hh.objs.size = some (dictOf [] 0) := Heap.get?_push_of_some _ (Heap.get?_push_size _ rfl)
  have S0 : SelfSt prog w T ⟨hh, gg, d, t, os⟩ _ (hh.objs.size + 1) hh.objs.size [] 0 s' := ⟨g, k1.trans ⟨y.toInCall.same, y.toInCall.keep, ht⟩, ⟨rfl, rfl, rfl⟩, rfl, ⟨_, y.toInCall.ns, rfl⟩, y.toInCall.keep _ _ hx2, y.toInCall.keep _ _ hd2, (fun e he => nomatch he), ?_, Nat.succ_ne_self _, none_at_size _⟩
  · refine self_attr S0 nil_ev (by decide) (by rfl) fun v1 t1 s1 k1 h1 kk1 S1 => ?_
    obtain ⟨a1, rfl, ha1, hn1⟩ := h1
    refine self_attr S1 nil_ev (Nat.lt_of_le_of_lt putL_len (by decide)) (by rfl) fun v2 t2 s2 k2 h2 kk2 S2 => ?_
    obtain ⟨a2, rfl, ha2, hn2⟩ := h2
    refine self_attr S2 none_ev (Nat.lt_of_le_of_lt putL_len (Nat.lt_of_le_of_lt (Nat.succ_le_succ putL_len) (by decide))) (by rfl) fun v3 t3 s3 k3 h3 kk3 S3 => ?_
    subst h3
    refine self_attr S3 none_ev (Nat.lt_of_le_of_lt putL_len (Nat.lt_of_le_of_lt (Nat.succ_le_succ putL_len) (Nat.lt_of_le_of_lt (Nat.succ_le_succ (Nat.succ_le_succ putL_len)) (by decide)))) (by rfl) fun v4 t4 s4 k4 h4 kk4 S4 => ?_
    subst h4
    refine wpAny_execs_nil ?_
    have nd1 : a1 ≠ hh.objs.size := fun q => by rw [q, S0.hd] at hn1; cases hn1
    have nd2 : a2 ≠ hh.objs.size := fun q => by rw [q, S1.hd] at hn2; cases hn2
    have f1 : s4.heap.get? a1 = some { cls := .type "list", data := .seq #[] } := kk4 _ _ nd1 (k4.keep _ _ (kk3 _ _ nd1 (k3.keep _ _ (kk2 _ _ nd1 (k2.keep _ _ (kk1 _ _ nd1 ha1))))))
    have f2 : s4.heap.get? a2 = some { cls := .type "list", data := .seq #[] } := kk4 _ _ nd2 (k4.keep _ _ (kk3 _ _ nd2 (k3.keep _ _ (kk2 _ _ nd2 ha2))))
    refine ⟨rfl, S4.kp, _, ⟨_, rfl, ⟨hh.objs.size, a1, a2, 0, 0, _, _, S4.hx, S4.hd, S4.sk, ?_, ?_, ?_, ?_, ?_, ?_, f1, ⟨[], f2, .nil⟩, rfl⟩⟩, fun c hc => ?_⟩
    · exact Nat.le_trans putL_len (Nat.le_trans (Nat.succ_le_succ putL_len) (Nat.le_trans (Nat.succ_le_succ (Nat.succ_le_succ putL_len)) (Nat.le_trans (Nat.succ_le_succ (Nat.succ_le_succ (Nat.succ_le_succ putL_len))) (by decide))))
    · exact fun q => by rw [← q, kk1 _ _ nd1 ha1] at hn2; cases hn2
    · rw [getL_put_other (by decide) S3.sk, getL_put_other (by decide) S2.sk, getL_put_other (by decide) S1.sk, getL_put_self]
    · rw [getL_put_other (by decide) S3.sk, getL_put_other (by decide) S2.sk, getL_put_self]
    · rw [getL_put_other (by decide) S3.sk, getL_put_self]
    · rw [getL_put_self]
    · have nn : ∀ b, hh.objs.size ≤ b → hh.get? b = none := fun b hb => Heap.get?_none_of_le hb
      simp only [List.mem_cons, List.not_mem_nil, or_false] at hc
      rcases hc with rfl | rfl | rfl | rfl
      · exact nn _ (Nat.le_succ _)
      · exact nn _ (Nat.le_refl _)
      · exact S0.kp.fresh hn1
      · exact S1.kp.fresh hn2
  · show @Ne Nat ((hh.push emptyDict).push (instObj 59 hh.objs.size)).objs.size hh.objs.size
    rw [sz2]; omega
end W40
end
section
open PySem PySem.W PyProof.Rows
set_option Elab.async false
set_option maxRecDepth 20000
set_option linter.unusedVariables false
set_option pp.deepTerms false
set_option pp.deepTerms.threshold 6
namespace W40
open PySem PySem.W PyProof.Rows PySem.Calls
variable {prog : Program} {w : World} {T : Nat} {n : Nat}

def cellsOf (l : List Int) : Nat → List Int
  | 0 => [14, 2, 13, 34]
  | i + 1 => (cellsOf l i).set (i % 4) ((cellsOf l i).getD (i % 4) 0 + l.getD i 0)
theorem cellsOf_len (l : List Int) : ∀ i, (cellsOf l i).length = 4
  | 0 => rfl
  | i + 1 => by rw [cellsOf, List.length_set]; exact cellsOf_len l i
theorem getD_at {l : List Int} {i : Nat} (h : i < l.length) : l[i]? = some (l.getD i 0) := by rw [List.getD_eq_getElem?_getD, List.getElem?_eq_getElem h]; rfl

theorem fn_cells {l : List Int} (hz : l.length ≤ 1000) : FnOk (XX prog w T) (n + 1) 103 [.il l] (.il (cellsOf l l.length)) := by
  refine fn_ok (ps := ["script"]) [("script", .il l)] rfl rfl rfl rfl rfl rfl (fun | [_], _ => rfl) (by decide) (by decide) rfl (by intro L p hp; simp only [List.mem_cons, List.not_mem_nil, or_false] at hp; rcases hp with rfl | rfl | rfl | rfl | rfl <;> first | exact .inl rfl | exact .inr ⟨rfl, rfl⟩) (fun _ => rfl) (by decide) rfl rfl rfl rfl rfl ?_
  intro A s₀ L s₁ a hce y
  refine ex_assign y a (ev_list_ints (l := [14, 2, 13, 34]) (evs_cons ev_int.ev (evs_cons ev_int.ev (evs_cons ev_int.ev (evs_cons ev_int.ev evs_nil)))) (by decide)) ⟨rfl, .inl rfl⟩ hce (by repeat (first | exact Del.nil | (apply Del.skip; · rfl) | (apply Del.k; · decide))) (O' := ["cells"]) (by decide) fun s₂ y => ?_
  have ho := y.envOk
  have hz' : l.length ≤ sizeLine := by rw [sizeLine_eq]; omega
  refine ex_for y a hce (src_n (rng1 ho bn_range rfl (evs_cons (ev_blt ho bn_len rfl rfl (evs_cons (ev_name ho (by repeat (first | exact List.Mem.head _ | apply List.Mem.tail))) evs_nil) (bl_len_ints hz')).ev evs_nil)) (by omega))
    (sg := fun i => [("cells", .il (cellsOf l i)), ("script", .il l)]) (add := fun i => [("place", .int i)]) (O' := ["cells"]) (SubL.all (by repeat (first | exact SubL.nil | refine SubL.cons (by repeat (first | exact List.Mem.head _ | apply List.Mem.tail)) ?_))) (by decide) (fun i hi => asg_name ⟨rfl, .inl rfl⟩ hce rfl (NoN.all (by repeat (first | exact NoN.nil | refine NoN.c (by decide) ?_)))) (fun i hi Z' W' E' s' y => ?_) fun s₃ y => ?_
  · have fm : (i : Int).fmod 4 = ((i % 4 : Nat) : Int) := by rw [Int.fmod_eq_emod_of_nonneg _ (by decide)]; omega
    have hk : ((i % 4 : Nat) : Int) < 2 ^ 63 := by omega
    refine ex_augset_int (k := ((i % 4 : Nat) : Int)) (v := l.getD i 0) (o := (cellsOf l i).getD (i % 4) 0) y a (by repeat (first | exact List.Mem.head _ | apply List.Mem.tail)) (by decide) (ev_sub (ev_name ho (by repeat (first | exact List.Mem.head _ | apply List.Mem.tail))) (ev_name ho (by repeat (first | exact List.Mem.head _ | apply List.Mem.tail))) (get_ints (by omega) (by omega) (by simpa using getD_at hi)) (fun _ _ => rfl)).ev
      (by rw [← fm]; exact (ev_bin (ev_name ho (by repeat (first | exact List.Mem.head _ | apply List.Mem.tail))) ev_int.ev (op_mod (by decide) (by decide))).ev) (by omega) hk ?_ in_add hce (by repeat (first | exact Del.nil | (apply Del.skip; · rfl) | (apply Del.k; · decide))) fun s₃ y => ex_nil (y.sub (SubL.all (by repeat (first | exact SubL.nil | refine SubL.cons (by repeat (first | exact List.Mem.head _ | apply List.Mem.tail)) ?_))) (by decide))
    exact getD_at (by rw [cellsOf_len]; simp; omega)
  · exact ex_return_own y (by repeat (first | exact List.Mem.head _ | apply List.Mem.tail)) (by decide) fun v s' hp => ⟨v, rfl, hp⟩
end W40
end
section
open PySem PySem.W PyProof.Rows
set_option Elab.async false
set_option maxRecDepth 20000
set_option linter.unusedVariables false
set_option pp.deepTerms false
set_option pp.deepTerms.threshold 4
namespace W40
open PySem PySem.W PyProof.Rows PySem.Calls
variable {prog : Program} {w : World} {T : Nat} {n : Nat}

def bitOf (number : Int) (k : Nat) : Nat := ((number.fdiv (2 ^ k)).fmod 2).toNat
theorem bitOf_eq (number : Int) (k : Nat) : ((number.fdiv (2 ^ k)).fmod 2) = (bitOf number k : Int) := by
  have h : (0 : Int) ≤ (number.fdiv (2 ^ k)).fmod 2 := Int.fmod_nonneg_of_pos _ (by decide)
  unfold bitOf; omega
theorem bitOf_lt (number : Int) (k : Nat) : bitOf number k < 2 := by
  have h1 := bitOf_eq number k
  have h : (number.fdiv (2 ^ k)).fmod 2 < 2 := Int.fmod_lt_of_pos _ (by decide)
  omega
/-- signs: 0 the letter, 1 the mark -/
def signsOf (number : Int) (size : Nat) : List Nat := (List.range size).map (bitOf number)
def spell (a m : Nat) (l : List Nat) : List Nat := l.map fun b => if b = 0 then a else m
theorem spell_len (a m : Nat) (l : List Nat) : (spell a m l).length = l.length := List.length_map ..
theorem signs_len (number : Int) (size : Nat) : (signsOf number size).length = size := by simp [signsOf]
theorem word_step (number : Int) (a m k : Nat) : spell a m (signsOf number (k + 1)) = spell a m (signsOf number k) ++ [if bitOf number k = 0 then a else m] := by
  simp [spell, signsOf, List.range_succ]

theorem fn_word {number : Int} {size a m : Nat} (hz : size ≤ 1000) : FnOk (XX prog w T) (n + 1) 110 [.int number, .int size, .str (S [a]), .str (S [m])] (.str (S (spell a m (signsOf number size)))) := by
  refine fn_ok (ps := ["number", "size", "letter", "mark"]) [("number", .int number), ("size", .int size), ("letter", .str (S [a])), ("mark", .str (S [m]))] rfl rfl rfl rfl rfl rfl (fun | [_, _, _, _], _ => rfl) (by decide) (by decide) rfl (by intro L p hp; simp only [List.mem_cons, List.not_mem_nil, or_false] at hp; rcases hp with rfl | rfl | rfl | rfl | rfl <;> first | exact .inl rfl | exact .inr ⟨rfl, rfl⟩) (fun _ => rfl) (by decide) rfl rfl rfl rfl rfl ?_
  intro A s₀ L s₁ ha hce y
  refine ex_assign y ha ev_str ⟨rfl, .inl rfl⟩ hce (by repeat (first | exact Del.nil | (apply Del.skip; · rfl) | (apply Del.k; · decide))) (O' := []) (by decide) fun s₂ y => ?_
  have ho := y.envOk
  refine ex_for y ha hce (src_n (rng1 ho bn_range rfl (evs_cons (ev_name ho (by repeat (first | exact List.Mem.head _ | apply List.Mem.tail))) evs_nil)) (by omega))
    (sg := fun i => [("word", .str (S (spell a m (signsOf number i)))), ("number", .int number), ("letter", .str (S [a])), ("mark", .str (S [m]))]) (add := fun i => [("k", .int i)]) (O' := []) (SubL.all (by repeat (first | exact SubL.nil | refine SubL.cons (by repeat (first | exact List.Mem.head _ | apply List.Mem.tail)) ?_))) (by decide) (fun i hi => asg_name ⟨rfl, .inl rfl⟩ hce rfl (NoN.all (by repeat (first | exact NoN.nil | refine NoN.c (by decide) ?_)))) (fun i hi Z' W' E' s' y => ?_) fun s₃ y => ?_
  · have hp : (2 : Int) ^ i ≠ 0 := by have := Int.pow_pos (n := 2) (m := i) (by decide); omega
    have hl2 : ((2 : Int) ^ i).natAbs.log2 < 9000 := by rw [Int.natAbs_pow]; show (2 ^ i).log2 < 9000; rw [Nat.log2_two_pow]; omega
    refine ex_aug y ha (by repeat (first | exact List.Mem.head _ | apply List.Mem.tail)) (ev_sub (d := .str (S [if bitOf number i = 0 then a else m])) (ev_list_strs (l := [S [a], S [m]]) (evs_cons (ev_name ho (by repeat (first | exact List.Mem.head _ | apply List.Mem.tail))) (evs_cons (ev_name ho (by repeat (first | exact List.Mem.head _ | apply List.Mem.tail))) evs_nil)) (show 2 ≤ sizeLine by decide)).ev
      (ev_bin (ev_bin (ev_name ho (by repeat (first | exact List.Mem.head _ | apply List.Mem.tail))) (ev_bin ev_int.ev (ev_name ho (by repeat (first | exact List.Mem.head _ | apply List.Mem.tail))) (op_pow (b := (i : Int)) (by omega) ?_)).ev (op_div ?_ ?_)).ev ev_int.ev (op_mod (by decide) (by decide))).ev ?_ (fun _ _ => rfl)).ev
      (in_cat ?_) ⟨rfl, .inl rfl⟩ hce (by repeat (first | exact Del.nil | (apply Del.skip; · rfl) | (apply Del.k; · decide))) (O' := []) (by decide) fun s₄ y => ex_nil ?_
    · have : (Builtin.Int.intBits 2 : Int) = 2 := by rfl
      rw [this]; omega
    · simpa using hp
    · simpa using hl2
    · rw [show ((i : Int)).toNat = i by omega, bitOf_eq]
      have := bitOf_lt number i
      refine get_strs (by omega) (by omega) ?_
      rw [show ((bitOf number i : Nat) : Int).toNat = bitOf number i by omega]
      rcases (by omega : bitOf number i = 0 ∨ bitOf number i = 1) with h | h <;> rw [h] <;> rfl
    · rw [S_len, S_len, spell_len, signs_len, sizeLine_eq]; simp; omega
    · rw [S_cat, ← word_step] at y
      exact y.sub (SubL.all (by repeat (first | exact SubL.nil | refine SubL.cons (by repeat (first | exact List.Mem.head _ | apply List.Mem.tail)) ?_))) (by decide)
  · exact ex_return y ha ((ev_name ho (by repeat (first | exact List.Mem.head _ | apply List.Mem.tail))).evF rfl) fun v s' hp => ⟨v, rfl, hp⟩
end W40
end
section
/- borders, plain -/
set_option linter.unusedVariables false
set_option linter.unusedSimpArgs false
namespace W40
def isB (p : List Nat) (n k : Nat) : Bool := p.take k == (p.drop (n - k)).take k
def bm (p : List Nat) (n : Nat) : Nat → Nat
  | 0 => 0
  | k + 1 => if isB p n k then k else bm p n k
def bmax (p : List Nat) (n : Nat) : Nat := bm p n n

theorem bm_ge {p : List Nat} {n : Nat} : ∀ {m k : Nat}, k < m → isB p n k = true → k ≤ bm p n m
  | m + 1, k, hk, h => by
    unfold bm
    split
    · omega
    · rename_i hn
      refine bm_ge ?_ h
      rcases Nat.lt_or_eq_of_le (Nat.le_of_lt_succ hk) with q | q
      · exact q
      · rw [q] at h; exact absurd h hn
theorem isB_zero (p : List Nat) (n : Nat) : isB p n 0 = true := by simp [isB]
theorem bm_is {p : List Nat} {n : Nat} : ∀ {m : Nat}, 0 < m → isB p n (bm p n m) = true ∧ bm p n m < m
  | m + 1, _ => by
    unfold bm
    split
    · rename_i h; exact ⟨h, Nat.lt_succ_self _⟩
    · cases m with
      | zero => rename_i h; exact absurd (isB_zero p n) h
      | succ m => have := bm_is (p := p) (n := n) (m := m + 1) (Nat.succ_pos _); exact ⟨this.1, by omega⟩
theorem bmax_is {p : List Nat} {n : Nat} (h : 0 < n) : isB p n (bmax p n) = true ∧ bmax p n < n := bm_is h
theorem bmax_ge {p : List Nat} {n k : Nat} (hk : k < n) (h : isB p n k = true) : k ≤ bmax p n := bm_ge hk h
theorem bmax_eq {p : List Nat} {n k : Nat} (hk : k < n) (h : isB p n k = true) (hm : ∀ j, j < n → isB p n j = true → j ≤ k) : bmax p n = k :=
  Nat.le_antisymm (hm _ (bmax_is (by omega)).2 (bmax_is (by omega)).1) (bmax_ge hk h)

theorem isB_iff {p : List Nat} {n k : Nat} (hk : k ≤ n) (hn : n ≤ p.length) : isB p n k = true ↔ ∀ j, j < k → p.getD j 0 = p.getD (n - k + j) 0 := by
  unfold isB
  rw [beq_iff_eq]
  constructor
  · intro h j hj
    have := congrArg (fun l : List Nat => l[j]?) h
    simp only [List.getElem?_take, if_pos hj, List.getElem?_drop] at this
    rw [List.getD_eq_getElem?_getD, List.getD_eq_getElem?_getD, this]
  · intro h
    apply List.ext_getElem?
    intro j
    simp only [List.getElem?_take, List.getElem?_drop]
    by_cases hj : j < k
    · rw [if_pos hj, if_pos hj]
      have := h j hj
      rw [List.getD_eq_getElem?_getD, List.getD_eq_getElem?_getD, List.getElem?_eq_getElem (by omega), List.getElem?_eq_getElem (by omega)] at this
      rw [List.getElem?_eq_getElem (by omega), List.getElem?_eq_getElem (by omega)]
      simpa using this
    · rw [if_neg hj, if_neg hj]

theorem isB_step {p : List Nat} {n k : Nat} (hk : k ≤ n) (hn : n < p.length) : isB p (n + 1) (k + 1) = true ↔ isB p n k = true ∧ p.getD k 0 = p.getD n 0 := by
  rw [isB_iff (by omega) (by omega), isB_iff hk (by omega)]
  have e : n + 1 - (k + 1) = n - k := by omega
  rw [e]
  constructor
  · intro h
    refine ⟨fun j hj => h j (by omega), ?_⟩
    have := h k (by omega)
    rwa [show n - k + k = n by omega] at this
  · rintro ⟨h1, h2⟩ j hj
    rcases Nat.lt_or_eq_of_le (Nat.le_of_lt_succ hj) with q | q
    · exact h1 j q
    · rw [q, show n - k + k = n by omega]; exact h2
theorem isB_nest {p : List Nat} {n k j : Nat} (hj : j ≤ k) (hk : k ≤ n) (hn : n ≤ p.length) (h : isB p n k = true) : isB p n j = true ↔ isB p k j = true := by
  rw [isB_iff (by omega) hn, isB_iff hj (by omega)]
  rw [isB_iff hk hn] at h
  constructor
  · intro q i hi
    rw [q i hi, h (k - j + i) (by omega)]
    congr 1; omega
  · intro q i hi
    rw [q i hi, h (k - j + i) (by omega)]
    congr 1; omega

def tabs (p : List Nat) (t : Nat) : List Int := (List.range p.length).map fun j => if j < t then (bmax p (j + 1) : Int) else 0
def table (p : List Nat) : List Int := (List.range p.length).map fun j => (bmax p (j + 1) : Int)
theorem tabs_len (p : List Nat) (t : Nat) : (tabs p t).length = p.length := by simp [tabs]
theorem bmax_one (p : List Nat) : bmax p 1 = 0 := by have := (bmax_is (p := p) (n := 1) (by omega)).2; omega
theorem tabs_one (p : List Nat) : tabs p 1 = List.replicate p.length 0 := by
  apply List.ext_getElem?
  intro j
  unfold tabs
  simp only [List.getElem?_map, List.getElem?_range, List.getElem?_replicate]
  by_cases h : j < p.length
  · simp only [h, if_true]
    rw [List.getElem?_range h, Option.map_some]
    by_cases h1 : j < 1
    · have : j = 0 := by omega
      subst this; simp [bmax_one]
    · simp [h1]
  · simp only [if_neg h]
    rw [List.getElem?_eq_none (by simpa using h)]; rfl
theorem tabs_at {p : List Nat} {t j : Nat} (hj : j < t) (hp : j < p.length) : (tabs p t)[j]? = some (bmax p (j + 1) : Int) := by
  unfold tabs
  rw [List.getElem?_map, List.getElem?_range hp]; simp [hj]
theorem tabs_set {p : List Nat} {t : Nat} (hp : t < p.length) {v : Int} (hv : (bmax p (t + 1) : Int) = v) : (tabs p t).set t v = tabs p (t + 1) := by
  apply List.ext_getElem?
  intro j
  rw [List.getElem?_set, tabs_len]
  unfold tabs
  simp only [List.getElem?_map]
  by_cases h : j < p.length
  · rw [List.getElem?_range h]
    by_cases e : t = j
    · subst e; simp [hp, ← hv]
    · rw [if_neg e]
      by_cases h1 : j < t
      · simp [h1, show j < t + 1 by omega]
      · simp [h1, show ¬ j < t + 1 by omega]
  · rw [List.getElem?_eq_none (by simpa using h)]
    have : t ≠ j := by omega
    simp [this]
theorem tabs_all (p : List Nat) {t : Nat} (h : p.length ≤ t) : tabs p t = table p := by
  unfold tabs table
  apply List.map_congr_left
  intro j hj
  rw [List.mem_range] at hj
  rw [if_pos (by omega)]

/-- the search's invariant: a border of what lies ahead of i, and none that goes on with i's sign is longer -/
structure Srch (p : List Nat) (i k : Nat) : Prop where
  lt : k < i
  is : isB p i k = true
  max : ∀ j, j < i → isB p i j = true → p.getD j 0 = p.getD i 0 → j ≤ k
theorem Srch.start {p : List Nat} {i : Nat} (hi : 0 < i) : Srch p i (bmax p i) := ⟨(bmax_is hi).2, (bmax_is hi).1, fun j hj h _ => bmax_ge hj h⟩
theorem Srch.next {p : List Nat} {i k : Nat} (s : Srch p i k) (hi : i < p.length) (hk : 0 < k) (hne : p.getD k 0 ≠ p.getD i 0) : Srch p i (bmax p k) := by
  have hb := bmax_is (p := p) hk
  have hlt := s.lt
  refine ⟨by omega, (isB_nest (by omega) (by omega) (by omega) s.is).2 hb.1, fun j hj h e => ?_⟩
  have h1 := s.max j hj h e
  have h2 : j ≠ k := fun q => hne (q ▸ e)
  exact bmax_ge (by omega) ((isB_nest (by omega) (by omega) (by omega) s.is).1 h)
theorem Srch.hit {p : List Nat} {i k : Nat} (s : Srch p i k) (hi : i < p.length) (he : p.getD k 0 = p.getD i 0) : bmax p (i + 1) = k + 1 := by
  have hlt := s.lt
  refine bmax_eq (by omega) ((isB_step (by omega) hi).2 ⟨s.is, he⟩) fun j hj h => ?_
  cases j with
  | zero => omega
  | succ j =>
    have := (isB_step (by omega) hi).1 h
    have := s.max j (by omega) this.1 this.2
    omega
theorem Srch.miss {p : List Nat} {i : Nat} (s : Srch p i 0) (hi : i < p.length) (hne : p.getD 0 0 ≠ p.getD i 0) : bmax p (i + 1) = 0 := by
  refine bmax_eq (by omega) (isB_zero _ _) fun j hj h => ?_
  cases j with
  | zero => omega
  | succ j =>
    have h1 := (isB_step (by omega) hi).1 h
    have h2 := s.max j (by omega) h1.1 h1.2
    have h3 : j = 0 := by omega
    subst h3
    exact absurd h1.2 hne
end W40
end
section
open PySem PySem.W PyProof.Rows
set_option Elab.async false
set_option maxRecDepth 20000
set_option linter.unusedVariables false
set_option pp.deepTerms false
set_option pp.deepTerms.threshold 4
namespace W40
open PySem PySem.W PyProof.Rows PySem.Calls
variable {prog : Program} {w : World} {T : Nat} {n : Nat}

theorem S_at {p : List Nat} {j : Nat} (h : j < p.length) : (S p).cps[j]? = some (p.getD j 0) := by
  show p.toArray[j]? = _
  rw [List.getElem?_toArray, List.getElem?_eq_getElem h, List.getD_eq_getElem?_getD, List.getElem?_eq_getElem h]; rfl
theorem S1_eq {a b : Nat} : (S [a] = S [b]) ↔ a = b := by rw [S_inj]; simp

theorem fn_table {p : List Nat} (hz : p.length ≤ 100000) : FnOk (XX prog w T) (n + 1) 96 [.str (S p)] (.il (table p)) := by
  refine fn_ok (ps := ["prefix"]) [("prefix", .str (S p))] rfl rfl rfl rfl rfl rfl (fun | [_], _ => rfl) (by decide) (by decide) rfl (by intro L p hp; simp only [List.mem_cons, List.not_mem_nil, or_false] at hp; rcases hp with rfl | rfl | rfl | rfl | rfl <;> first | exact .inl rfl | exact .inr ⟨rfl, rfl⟩) (fun _ => rfl) (by decide) rfl rfl rfl rfl rfl ?_
  intro A s₀ L s₁ ha hce y
  have hlen : (S p).length ≤ sizeLine := by rw [S_len, sizeLine_eq]; omega
  have ho := y.envOk
  refine ex_assign y ha (ev_bin (ev_list_ints (l := [0]) (evs_cons ev_int.ev evs_nil) (by decide)).ev (ev_blt ho bn_len rfl rfl (evs_cons (ev_name ho (by repeat (first | exact List.Mem.head _ | apply List.Mem.tail))) evs_nil) (bl_len_str hlen)).ev (op_zeros (by rw [S_len]; omega))) ⟨rfl, .inl rfl⟩ hce (by repeat (first | exact Del.nil | (apply Del.skip; · rfl) | (apply Del.k; · decide))) (O' := ["table"]) (by decide) fun s₂ y => ?_
  rw [S_len, ← tabs_one] at y
  refine ex_for y ha hce (src_to (N := p.length - 1) (rng2 ho bn_range rfl (evs_cons ev_int.ev (evs_cons (ev_blt ho bn_len rfl rfl (evs_cons (ev_name ho (by repeat (first | exact List.Mem.head _ | apply List.Mem.tail))) evs_nil) (bl_len_str hlen)).ev evs_nil))) (by rw [S_len]; omega))
    (sg := fun i => [("table", .il (tabs p (1 + i))), ("prefix", .str (S p))]) (add := fun i => [("i", .int (1 + (i : Int)))]) (O' := ["table"]) (SubL.all (by repeat (first | exact SubL.nil | refine SubL.cons (by repeat (first | exact List.Mem.head _ | apply List.Mem.tail)) ?_))) (by decide) (fun i hi => asg_name ⟨rfl, .inl rfl⟩ hce rfl (NoN.all (by repeat (first | exact NoN.nil | refine NoN.c (by decide) ?_)))) (fun i hi Z' W' E' s' y => ?_) fun s₃ y => ?_
  · have hi : 1 + i < p.length := by omega
    have e1 : (1 + (i : Int) - 1).toNat = i := by omega
    have e2 : (1 + (i : Int)).toNat = 1 + i := by omega
    refine ex_assign y ha (ev_sub (d := .int (bmax p (1 + i))) (ev_name ho (by repeat (first | exact List.Mem.head _ | apply List.Mem.tail))) (ev_bin (ev_name ho (by repeat (first | exact List.Mem.head _ | apply List.Mem.tail))) ev_int.ev op_sub).ev (get_ints (by omega) (by omega) ?_) (fun _ _ => rfl)) ⟨rfl, .inl rfl⟩ hce (by repeat (first | exact Del.nil | (apply Del.skip; · rfl) | (apply Del.k; · decide))) (O' := ["table"]) (by decide) fun s₄ y => ?_
    · rw [e1, tabs_at (by omega) (by omega), Nat.add_comm i 1]
    · have hb : (Srch p (1 + i) (bmax p (1 + i))) := Srch.start (by omega)
      refine ex_while (ι := Nat) (fun k => k) (fun k => [("idx", .int (k : Int)), ("i", .int (1 + (i : Int))), ("table", .il (tabs p (1 + i))), ("prefix", .str (S p))]) (fun k => Srch p (1 + i) k) (fun k => decide (S [p.getD (1 + i) 0] ≠ S [p.getD k 0])) (bmax p (1 + i)) y ha (SubL.all (by repeat (first | exact SubL.nil | refine SubL.cons (by repeat (first | exact List.Mem.head _ | apply List.Mem.tail)) ?_))) hb (fun k hk => ?_) (fun k hk ht E₅ s₅ y => ?_) fun k hk ht E₅ s₅ y => ?_
      · have hlt := hk.lt
        refine cn_cmp (ev_sub (ev_name ho (by repeat (first | exact List.Mem.head _ | apply List.Mem.tail))) (ev_name ho (by repeat (first | exact List.Mem.head _ | apply List.Mem.tail))) (get_str (by omega) (by omega) (by rw [e2]; exact S_at hi)) (fun _ _ => rfl)).ev (ev_sub (ev_name ho (by repeat (first | exact List.Mem.head _ | apply List.Mem.tail))) (ev_name ho (by repeat (first | exact List.Mem.head _ | apply List.Mem.tail))) (get_str (by omega) (by omega) (S_at (by simpa using (by omega : k < p.length)))) (fun _ _ => rfl)).ev cmp_sne rfl
      · have hlt := hk.lt
        have hne : p.getD (1 + i) 0 ≠ p.getD k 0 := fun q => of_decide_eq_true ht (by rw [q])
        refine ex_if y ha (cn_cmp (ev_name ho (by repeat (first | exact List.Mem.head _ | apply List.Mem.tail))) ev_int.ev cmp_eq rfl) (fun h0 s₆ y => ?_) fun h0 s₆ y => ?_
        · have h0 : k = 0 := by have := of_decide_eq_true h0; omega
          subst h0
          refine ex_set_int y ha (by repeat (first | exact List.Mem.head _ | apply List.Mem.tail)) (by decide) ev_int.ev (ev_name ho (by repeat (first | exact List.Mem.head _ | apply List.Mem.tail))) (by omega) (by omega) (by rw [tabs_len]; omega) hce (by repeat (first | exact Del.nil | (apply Del.skip; · rfl) | (apply Del.k; · decide))) fun s₇ y => ex_pass_break ?_
          rw [e2, tabs_set hi (by rw [hk.miss hi (Ne.symm hne)]; rfl), Nat.add_assoc] at y
          exact ex_nil (y.sub (SubL.all (by repeat (first | exact SubL.nil | refine SubL.cons (by repeat (first | exact List.Mem.head _ | apply List.Mem.tail)) ?_))) (by decide))
        · have h0 : 0 < k := by have := of_decide_eq_false h0; omega
          refine ex_nil ?_
          refine ex_assign y ha (ev_sub (d := .int (bmax p k)) (ev_name ho (by repeat (first | exact List.Mem.head _ | apply List.Mem.tail))) (ev_bin (ev_name ho (by repeat (first | exact List.Mem.head _ | apply List.Mem.tail))) ev_int.ev op_sub).ev (get_ints (by omega) (by omega) ?_) (fun _ _ => rfl)) ⟨rfl, .inl rfl⟩ hce (by repeat (first | exact Del.nil | (apply Del.skip; · rfl) | (apply Del.k; · decide))) (O' := ["table"]) (by decide) fun s₇ y => ex_nil ⟨bmax p k, hk.next hi h0 (Ne.symm hne), (bmax_is h0).2, y.sub (SubL.all (by repeat (first | exact SubL.nil | refine SubL.cons (by repeat (first | exact List.Mem.head _ | apply List.Mem.tail)) ?_))) (by decide)⟩
          rw [show ((k : Int) - 1).toNat = k - 1 by omega, tabs_at (by omega) (by omega), show k - 1 + 1 = k by omega]
      · have he : p.getD (1 + i) 0 = p.getD k 0 := by
          have := of_decide_eq_false ht
          exact Decidable.byContradiction fun q => this fun r => q (S1_eq.1 r)
        refine ex_set_int y ha (by repeat (first | exact List.Mem.head _ | apply List.Mem.tail)) (by decide) (ev_bin (ev_name ho (by repeat (first | exact List.Mem.head _ | apply List.Mem.tail))) ev_int.ev op_add).ev (ev_name ho (by repeat (first | exact List.Mem.head _ | apply List.Mem.tail))) (by omega) (by omega) (by rw [tabs_len]; omega) hce (by repeat (first | exact Del.nil | (apply Del.skip; · rfl) | (apply Del.k; · decide))) fun s₇ y => ex_nil ?_
        rw [e2, tabs_set hi (by rw [hk.hit hi he.symm]; omega), Nat.add_assoc] at y
        exact ex_nil (y.sub (SubL.all (by repeat (first | exact SubL.nil | refine SubL.cons (by repeat (first | exact List.Mem.head _ | apply List.Mem.tail)) ?_))) (by decide))
  · rw [tabs_all p (by omega)] at y
    exact ex_return_own y (by repeat (first | exact List.Mem.head _ | apply List.Mem.tail)) (by decide) fun v s' hp => ⟨v, rfl, hp⟩
end W40
end
section
open PySem PySem.W PyProof.Rows
set_option Elab.async false
set_option maxRecDepth 20000
set_option linter.unusedVariables false
set_option pp.deepTerms false
set_option pp.deepTerms.threshold 4
namespace W40
open PySem PySem.W PyProof.Rows PySem.Calls
variable {prog : Program} {w : World} {T : Nat} {n : Nat}

theorem max_borders {p : List Nat} {j : Nat} (hj : 0 < j) {l : List Int} (hl : l = (List.range j).filterMap fun k => if isB p j k then some (k : Int) else none) : (bmax p j : Int) ∈ l ∧ ∀ x ∈ l, x ≤ (bmax p j : Int) := by
  subst hl
  have hb := bmax_is (p := p) hj
  constructor
  · exact List.mem_filterMap.2 ⟨_, List.mem_range.2 hb.2, by simp [hb.1]⟩
  · intro x hx
    obtain ⟨k, hk, he⟩ := List.mem_filterMap.1 hx
    split at he
    · rename_i h
      cases he
      exact Int.ofNat_le.2 (bmax_ge (List.mem_range.1 hk) h)
    · cases he

theorem fn_law_table {p : List Nat} (hz : p.length ≤ 100000) : FnOk (XX prog w T) (n + 1) 129 [.str (S p)] (.il (table p)) := by
  refine fn_ok (ps := ["row"]) (cns := ["row"]) [("row", .str (S p))] rfl rfl rfl rfl rfl rfl (fun | [_], _ => rfl) (by decide) (by decide) rfl (by intro L p hp; simp only [List.mem_cons, List.not_mem_nil, or_false] at hp; rcases hp with rfl | rfl | rfl | rfl | rfl <;> first | exact .inl rfl | exact .inr ⟨rfl, rfl⟩) (fun _ => rfl) (by decide) rfl rfl rfl rfl rfl ?_
  intro A s₀ L s₁ ha hce y
  have hlen : (S p).length ≤ sizeLine := by rw [S_len, sizeLine_eq]; omega
  have hlen' : p.length ≤ sizeLine := by rw [sizeLine_eq]; omega
  have ho := y.envOk
  have e : ((List.range ((List.range p.length).map fun (i : Nat) => D.int (1 + (i : Int))).length).filterMap fun i => some (bmax p (i + 1) : Int)) = table p := by
    rw [List.length_map, List.length_range, fm_some]; rfl
  refine ex_return y ha ?_ fun v s' hp => ⟨v, rfl, hp⟩
  rw [← e]
  refine ev_comp (mk := .int) (isv := isI) (σ0 := [("row", .str (S p))]) dl_ints mk_int rfl rfl (by decide) rfl (.cell rfl (fun _ => rfl) (fun _ => rfl)) (fun _ => rfl) ?_ ?_ ?_ ?_ ?_
  · rw [List.length_map, List.length_range]; exact hlen'
  · exact it_to (rng2 ho bn_range rfl (evs_cons ev_int.ev (evs_cons (ev_bin (ev_blt ho bn_len rfl rfl (evs_cons (ev_name ho (by repeat (first | exact List.Mem.head _ | apply List.Mem.tail))) evs_nil) (bl_len_str hlen)).ev ev_int.ev op_add).ev evs_nil))) (by rw [S_len]; omega)
  · intro q hq
    rw [List.mem_singleton.1 hq]
    exact ⟨.head _, rfl, fun C => ⟨_, rfl, rfl⟩, .inl rfl⟩
  · intro C i d hd; rfl
  · intro C i d v hd hv
    obtain ⟨hi, rfl⟩ := rg_at hd
    cases hv
    have ej : (1 + (i : Int)) = ((i + 1 : Nat) : Int) := by omega
    obtain ⟨m1, m2⟩ := max_borders (p := p) (j := i + 1) (by omega) rfl
    have hlt : i + 1 ≤ 100000 := by omega
    have hlen'' : i + 1 ≤ sizeLine := by rw [sizeLine_eq]; omega
    refine (ev_blt (cEnv_ok ho rfl) bn_max rfl rfl (evs_cons (d := .il ((List.range (i + 1)).filterMap fun k => if isB p (i + 1) k then some (k : Int) else none)) ?_ evs_nil) (bl_max m1 m2)).ev
    have e2 : ((List.range ((List.range (i + 1)).map fun (k : Nat) => D.int (k : Int)).length).filterMap fun k => if isB p (i + 1) k then some (k : Int) else none) = (List.range (i + 1)).filterMap fun k => if isB p (i + 1) k then some (k : Int) else none := by
      rw [List.length_map, List.length_range]
    rw [← e2]
    refine (ev_comp (mk := .int) (isv := isI) (σ0 := [("j", .int (1 + (i : Int))), ("row", .str (S p))]) dl_ints mk_int rfl rfl (by decide) rfl (.loc rfl (by decide)) (fun _ => rfl) ?_ ?_ ?_ ?_ ?_).ev
    · rw [List.length_map, List.length_range]; exact hlen''
    · refine it_n (rng1 (cEnv_ok ho rfl) bn_range rfl (evs_cons ?_ evs_nil)) (by omega)
      rw [← ej]
      exact ev_name (cEnv_ok ho rfl) (by repeat (first | exact List.Mem.head _ | apply List.Mem.tail))
    · intro q hq
      simp only [List.mem_cons, List.not_mem_nil, or_false] at hq
      rcases hq with rfl | rfl
      · exact ⟨.head _, rfl, fun C => ⟨_, rfl, rfl⟩, .inl rfl⟩
      · exact ⟨.tail _ (.head _), rfl, fun C => ⟨_, rfl, rfl⟩, .inl rfl⟩
    · intro C' k d hd
      obtain ⟨hk, rfl⟩ := rg_at hd
      have hb : (if isB p (i + 1) k then some (k : Int) else none).isSome = decide (S (p.take (k : Int).toNat) = S ((p.drop ((1 + (i : Int)) - (k : Int)).toNat).take ((1 + (i : Int)) - ((1 + (i : Int)) - (k : Int))).toNat)) := by
        rw [show ((1 + (i : Int)) - (k : Int)).toNat = i + 1 - k by omega, show ((1 + (i : Int)) - ((1 + (i : Int)) - (k : Int))).toNat = k by omega, show (k : Int).toNat = k by omega]
        unfold isB
        by_cases h : p.take k = (p.drop (i + 1 - k)).take k
        · rw [← h]; simp
        · have h' : ¬ S (p.take k) = S ((p.drop (i + 1 - k)).take k) := fun q => h (S_inj.1 q)
          simp [h, h']
      show Cn _ _ _ _ _ _
      rw [hb]
      refine cn_cmp (ev_upto (ev_name (cEnv_ok (cEnv_ok ho rfl) rfl) (by repeat (first | exact List.Mem.head _ | apply List.Mem.tail))) (ev_name (cEnv_ok (cEnv_ok ho rfl) rfl) (by repeat (first | exact List.Mem.head _ | apply List.Mem.tail))) (by omega) (by omega) hlen').ev
        (ev_cut (ev_name (cEnv_ok (cEnv_ok ho rfl) rfl) (by repeat (first | exact List.Mem.head _ | apply List.Mem.tail))) (ev_bin (ev_name (cEnv_ok (cEnv_ok ho rfl) rfl) (by repeat (first | exact List.Mem.head _ | apply List.Mem.tail))) (ev_name (cEnv_ok (cEnv_ok ho rfl) rfl) (by repeat (first | exact List.Mem.head _ | apply List.Mem.tail))) op_sub).ev (ev_name (cEnv_ok (cEnv_ok ho rfl) rfl) (by repeat (first | exact List.Mem.head _ | apply List.Mem.tail))) (by omega) (by omega) (by omega) hlen').ev cmp_seq rfl
    · intro C' k d v hd hv
      obtain ⟨hk, rfl⟩ := rg_at hd
      split at hv
      · cases hv
        exact ev_name (cEnv_ok (cEnv_ok ho rfl) rfl) (by repeat (first | exact List.Mem.head _ | apply List.Mem.tail))
      · cases hv
end W40
end
section
open PySem PySem.W PyProof.Rows
set_option Elab.async false
set_option maxRecDepth 20000
set_option linter.unusedVariables false
set_option linter.unusedSimpArgs false
namespace W40
open PySem PySem.W PyProof.Rows PySem.Calls

def joinL (z : List Nat) : List (List Nat) → List Nat
  | [] => []
  | [x] => x
  | x :: y :: r => x ++ z ++ joinL z (y :: r)
theorem joinL_cons (z x : List Nat) {r : List (List Nat)} (h : r ≠ []) : joinL z (x :: r) = x ++ z ++ joinL z r := by
  cases r with
  | nil => exact absurd rfl h
  | cons y r => rfl
theorem join_S (z : List Nat) : ∀ l : List (List Nat), Str.join (S z) (l.map S) = S (joinL z l)
  | [] => rfl
  | [x] => rfl
  | x :: y :: r => by
    have ih := join_S z (y :: r)
    rw [List.map_cons] at ih
    show S x ++ S z ++ Str.join (S z) (S y :: r.map S) = _
    rw [ih, S_cat, S_cat]; rfl

theorem app_free {c : Nat} : ∀ {a b x y : List Nat}, c ∉ a → c ∉ b → a ++ c :: x = b ++ c :: y → a = b ∧ x = y
  | [], [], x, y, _, _, h => ⟨rfl, by simpa using h⟩
  | [], d :: b, x, y, _, hb, h => by
    simp only [List.nil_append, List.cons_append, List.cons.injEq] at h
    exact absurd (h.1 ▸ List.mem_cons_self) hb
  | d :: a, [], x, y, ha, _, h => by
    simp only [List.nil_append, List.cons_append, List.cons.injEq] at h
    exact absurd (h.1 ▸ List.mem_cons_self) ha
  | d :: a, e :: b, x, y, ha, hb, h => by
    simp only [List.cons_append, List.cons.injEq] at h
    obtain ⟨h1, h2⟩ := app_free (fun q => ha (.tail _ q)) (fun q => hb (.tail _ q)) h.2
    exact ⟨by rw [h.1, h1], h2⟩
theorem not_free {c : Nat} {a x b : List Nat} (hb : c ∉ b) (h : a ++ c :: x = b) : False := hb (by rw [← h]; simp)
theorem joinL_inj {c : Nat} : ∀ {l m : List (List Nat)}, l ≠ [] → m ≠ [] → (∀ p ∈ l, c ∉ p) → (∀ p ∈ m, c ∉ p) → joinL [c] l = joinL [c] m → l = m
  | [x], [y], _, _, _, _, h => by rw [show x = y from h]
  | [x], y :: y' :: m, _, _, hl, hm, h => by
    simp only [joinL, List.append_assoc, List.cons_append, List.nil_append] at h
    exact (not_free (hl x (.head _)) h.symm).elim
  | x :: x' :: l, [y], _, _, hl, hm, h => by
    simp only [joinL, List.append_assoc, List.cons_append, List.nil_append] at h
    exact (not_free (hm y (.head _)) h).elim
  | x :: x' :: l, y :: y' :: m, _, _, hl, hm, h => by
    simp only [joinL, List.append_assoc, List.cons_append, List.nil_append] at h
    obtain ⟨h1, h2⟩ := app_free (hl x (.head _)) (hm y (.head _)) h
    rw [h1, joinL_inj (by simp) (by simp) (fun p hp => hl p (.tail _ hp)) (fun p hp => hm p (.tail _ hp)) h2]

theorem map_S_of (l : List Str) : ∃ m : List (List Nat), m.map S = l ∧ ∀ p ∈ m, ∃ q ∈ l, q.cps.toList = p := by
  refine ⟨l.map fun x => x.cps.toList, ?_, fun p hp => ?_⟩
  · rw [List.map_map]
    exact List.map_id'' (fun x => S_eta x) l
  · obtain ⟨q, hq, rfl⟩ := List.mem_map.1 hp
    exact ⟨q, hq, rfl⟩
theorem map_S_inj {l m : List (List Nat)} (h : l.map S = m.map S) : l = m := by
  have := congrArg (List.map fun x : Str => x.cps.toList) h
  simpa [List.map_map, Function.comp_def] using this

theorem split_S {c : Nat} {l : List (List Nat)} (hn : l ≠ []) (hf : ∀ p ∈ l, c ∉ p) : Txt.split (S (joinL [c] l)) (S [c]) = l.map S := by
  obtain ⟨m, hm, hq⟩ := map_S_of (Txt.split (S (joinL [c] l)) (S [c]))
  have h1 := StrLaws.join_split (S (joinL [c] l)) (S [c])
  rw [← hm, join_S, S_inj] at h1
  rw [← hm]
  have hne : m ≠ [] := by
    rintro rfl
    have := split_pos (S (joinL [c] l)) (S [c])
    rw [← hm] at this
    simp at this
  have hfree : ∀ p ∈ m, c ∉ p := fun p hp => by
    obtain ⟨q, hq1, rfl⟩ := hq p hp
    exact StrLaws.split_free _ c q hq1
  rw [joinL_inj hne hn hfree hf h1]

/-- each c struck -/
theorem strike_S (x : List Nat) (c : Nat) : Txt.replace (S x) (S [c]) (S []) = S (x.filter (· != c)) := by
  have := replace_strikes (S x) c
  rw [← S_eta (Txt.replace (S x) (S [c]) (S []))]
  congr 1
/-- each c with z for it -/
def subL (c : Nat) (z : List Nat) (x : List Nat) : List Nat := x.flatMap fun k => if k = c then z else [k]
theorem subL_free {c : Nat} {z x : List Nat} (h : c ∉ x) : subL c z x = x := by
  unfold subL
  induction x with
  | nil => rfl
  | cons k r ih =>
    have hk : k ≠ c := fun e => h (e ▸ .head _)
    rw [List.flatMap_cons, ih (fun q => h (.tail _ q))]
    simp [hk]
theorem subL_app (c : Nat) (z x y : List Nat) : subL c z (x ++ y) = subL c z x ++ subL c z y := by simp [subL]
theorem subL_join (c : Nat) (z : List Nat) : ∀ l : List (List Nat), (∀ p ∈ l, c ∉ p) → subL c z (joinL [c] l) = joinL z l
  | [], _ => rfl
  | [x], h => subL_free (h x (.head _))
  | x :: y :: r, h => by
    show subL c z (x ++ [c] ++ joinL [c] (y :: r)) = x ++ z ++ joinL z (y :: r)
    rw [subL_app, subL_app, subL_free (h x (.head _)), subL_join c z (y :: r) fun p hp => h p (.tail _ hp)]
    simp [subL]
theorem replace_S (x z : List Nat) (c : Nat) : Txt.replace (S x) (S [c]) (S z) = S (subL c z x) := by
  have h := StrLaws.replace_one (S x) (S z) c
  refine Eq.trans h ?_
  obtain ⟨m, hm, hq⟩ := map_S_of (Txt.split (S x) (S [c]))
  have h1 := StrLaws.join_split (S x) (S [c])
  rw [← hm, join_S, S_inj] at h1
  have hfree : ∀ p ∈ m, c ∉ p := fun p hp => by
    obtain ⟨q, hq1, rfl⟩ := hq p hp
    exact StrLaws.split_free _ c q hq1
  show Str.join (S z) (Txt.split (S x) (S [c])) = _
  rw [← hm, join_S, ← subL_join c z m hfree, h1]

/-- parts of a written pattern, cut at its stars -/
def headOf (N k : Nat) : List Nat := if 0 < k ∧ k + 1 < N then [63] else []
def tailOf (N k : Nat) : List Nat := (if 0 < k ∧ k + 1 < N then [41] else []) ++ (if k + 2 < N then [40, 63, 62, 46] else if k + 2 = N then [46] else [])
def decoAt (xs : List (List Nat)) (k : Nat) : List Nat := headOf xs.length k ++ xs.getD k [] ++ tailOf xs.length k
def deco (xs : List (List Nat)) : List (List Nat) := (List.range xs.length).map (decoAt xs)
theorem deco_len (xs : List (List Nat)) : (deco xs).length = xs.length := by simp [deco]
theorem deco_at {xs : List (List Nat)} {k : Nat} (h : k < xs.length) : (deco xs)[k]? = some (decoAt xs k) := by
  unfold deco; rw [List.getElem?_map, List.getElem?_range h]; rfl

theorem glued_S (z : List Nat) (l : List (List Nat)) : Txt.join (S z) (l.map S) = S (joinL z l) := by
  show Builtin.Str.glued _ _ = _
  rw [StrLaws.glued_eq_join, join_S]
end W40
end
section
open PySem PySem.W PyProof.Rows
set_option Elab.async false
set_option maxRecDepth 20000
set_option linter.unusedVariables false
set_option pp.deepTerms false
set_option pp.deepTerms.threshold 4
namespace W40
open PySem PySem.W PyProof.Rows PySem.Calls
section
variable {X : Cx} {n : Nat} {env : Env} {σ σ' : List (Str × D)} {O O' : List Str} {Z Z' : List (Addr × Obj)} {W W' : List Addr} {s₀ s : Shared} {A : Around} {E : Value → Shared → Prop} {Q : Flow → Shared → Prop} {rest : List Stmt}
/-- an if whose two arms meet again -/
theorem ex_if_join {test : Expr} {body orelse : List Stmt} {pos : Pos} {b : Bool} (σ' : List (Str × D)) (O' : List Str) (y : St X s₀ env σ O Z W s) (a : AOk n A) (hc : Cn X n env σ test b)
    (h1 : b = true → ∀ E' s', St X s₀ env σ O Z W s' → Wp X A env body (fun f s'' => f = .next ∧ St X s₀ env σ' O' Z W s'') E' s') (h2 : b = false → ∀ E' s', St X s₀ env σ O Z W s' → Wp X A env orelse (fun f s'' => f = .next ∧ St X s₀ env σ' O' Z W s'') E' s')
    (k : ∀ s', St X s₀ env σ' O' Z W s' → Wp X A env rest Q E s') : Wp X A env (.If test body orelse pos :: rest) Q E s := by
  refine ex_if y a hc (fun hb s' y' => wpAny_mono (h1 hb _ s' y') (fun f s'' h => ?_) fun _ _ x => x) (fun hb s' y' => wpAny_mono (h2 hb _ s' y') (fun f s'' h => ?_) fun _ _ x => x)
  · obtain ⟨rfl, h⟩ := h
    exact k s'' h
  · obtain ⟨rfl, h⟩ := h
    exact k s'' h
theorem Ev.eq {e : Expr} {d d' : D} (h : Ev X n env σ e d) (q : d = d') : Ev X n env σ e d' := q ▸ h
theorem EvF.eq {e : Expr} {d d' : D} (h : EvF X n env σ e d) (q : d = d') : EvF X n env σ e d' := q ▸ h
theorem S_starts {a b : List Nat} : Txt.startswith (S (a ++ b)) (S a) = true := by rw [← S_cat]; exact KT.starts_app _ _
theorem S_ends {a b : List Nat} : Txt.endswith (S (a ++ b)) (S b) = true := by rw [← S_cat]; exact KT.ends_app _ _
end
variable {prog : Program} {w : World} {T : Nat} {n : Nat}

theorem deco_starts (xs : List (List Nat)) (k : Nat) : Txt.startswith (S (decoAt xs k)) (S (headOf xs.length k)) = true := by
  unfold decoAt; rw [List.append_assoc]; exact S_starts
theorem deco_ends (xs : List (List Nat)) (k : Nat) : Txt.endswith (S (decoAt xs k)) (S (tailOf xs.length k)) = true := by
  unfold decoAt; exact S_ends

theorem fn_pieces {t : List Nat} {xs : List (List Nat)} (hz : t.length ≤ 1000) (hx : Txt.split (S t) (S [42]) = (deco xs).map S) (hb : ∀ p ∈ deco xs, p.length ≤ 1000) (hN : xs.length ≤ 1000) :
    FnOk (XX prog w T) (n + 1) 117 [.str (S t)] (.sl (xs.map S)) := by
  refine fn_ok (ps := ["pattern"]) [("pattern", .str (S t))] rfl rfl rfl rfl rfl rfl (fun | [_], _ => rfl) (by decide) (by decide) rfl (by intro L p hp; simp only [List.mem_cons, List.not_mem_nil, or_false] at hp; rcases hp with rfl | rfl | rfl | rfl | rfl <;> first | exact .inl rfl | exact .inr ⟨rfl, rfl⟩) (fun _ => rfl) (by decide) rfl rfl rfl rfl rfl ?_
  intro A s₀ L s₁ ha hce y
  have ho := y.envOk
  have hN' : xs.length ≤ sizeLine := by rw [sizeLine_eq]; omega
  have hdl : ((deco xs).map S).length = xs.length := by rw [List.length_map, deco_len]
  have hml := me_split (X := XX prog w T) (n := n) (x := S t) (y := S [42]) rfl (by rw [S_len]; omega)
  rw [hx] at hml
  refine ex_assign y ha (ev_meth (ev_name ho (by repeat (first | exact List.Mem.head _ | apply List.Mem.tail))) (evs_cons ev_str.ev evs_nil) hml (fun _ => rfl) rfl) ⟨rfl, .inl rfl⟩ hce (by repeat (first | exact Del.nil | (apply Del.skip; · rfl) | (apply Del.k; · decide))) (O' := ["parts"]) (by decide) fun s₂ y => ?_
  refine ex_assign y ha (ev_list_strs (l := []) evs_nil (Nat.zero_le _)) ⟨rfl, .inl rfl⟩ hce (by repeat (first | exact Del.nil | (apply Del.skip; · rfl) | (apply Del.k; · decide))) (O' := ["pieces"]) (by decide) fun s₃ y => ?_
  have hpl : ((deco xs).map S).length ≤ sizeLine := by rw [hdl]; exact hN'
  refine ex_for y ha hce (src_to (N := xs.length) (rng1 ho bn_range rfl (evs_cons (ev_blt ho bn_len rfl rfl (evs_cons (ev_name ho (by repeat (first | exact List.Mem.head _ | apply List.Mem.tail))) evs_nil) (bl_len_strs hpl)).ev evs_nil)) (by rw [hdl]; omega))
    (sg := fun i => [("pieces", .sl ((xs.take i).map S)), ("parts", .sl ((deco xs).map S))]) (add := fun i => [("k", .int (0 + (i : Int)))]) (O' := ["pieces"]) (SubL.all (by repeat (first | exact SubL.nil | refine SubL.cons (by repeat (first | exact List.Mem.head _ | apply List.Mem.tail)) ?_))) (by decide) (fun i hi => asg_name ⟨rfl, .inl rfl⟩ hce rfl (NoN.all (by repeat (first | exact NoN.nil | refine NoN.c (by decide) ?_)))) (fun i hi Z' W' E' s' y => ?_) fun s₃ y => ?_
  · refine ex_assign y ha ev_str ⟨rfl, .inl rfl⟩ hce (by repeat (first | exact Del.nil | (apply Del.skip; · rfl) | (apply Del.k; · decide))) (O' := ["pieces"]) (by decide) fun s₄ y => ?_
    refine ex_assign y ha ev_str ⟨rfl, .inl rfl⟩ hce (by repeat (first | exact Del.nil | (apply Del.skip; · rfl) | (apply Del.k; · decide))) (O' := ["pieces"]) (by decide) fun s₅ y => ?_
    have hc : (decide ((0 : Int) < 0 + (i : Int)) && decide (0 + (i : Int) < (((deco xs).map S).length : Int) - 1)) = decide (0 < i ∧ i + 1 < xs.length) := by
      rw [hdl, ← Bool.decide_and]; congr 1; apply propext; omega
    refine ex_if_join [("head", .str (S (headOf xs.length i))), ("tail", .str (S (if 0 < i ∧ i + 1 < xs.length then [41] else []))), ("k", .int (0 + (i : Int))), ("pieces", .sl ((xs.take i).map S)), ("parts", .sl ((deco xs).map S))] ["pieces"]
      y ha (cn_chain ev_int.ev (ev_name ho (by repeat (first | exact List.Mem.head _ | apply List.Mem.tail))) (ev_bin (ev_blt ho bn_len rfl rfl (evs_cons (ev_name ho (by repeat (first | exact List.Mem.head _ | apply List.Mem.tail))) evs_nil) (bl_len_strs hpl)).ev ev_int.ev op_sub).ev cmp_lt cmp_lt rfl) (fun h E₁ s₆ y => ?_) (fun h E₁ s₆ y => ?_) fun s₆ y => ?_
    · rw [hc] at h
      have h := of_decide_eq_true h
      refine ex_assign y ha ev_str ⟨rfl, .inl rfl⟩ hce (by repeat (first | exact Del.nil | (apply Del.skip; · rfl) | (apply Del.k; · decide))) (O' := ["pieces"]) (by decide) fun s₇ y => ?_
      refine ex_assign y ha ev_str ⟨rfl, .inl rfl⟩ hce (by repeat (first | exact Del.nil | (apply Del.skip; · rfl) | (apply Del.k; · decide))) (O' := ["pieces"]) (by decide) fun s₈ y => ex_nil ⟨rfl, ?_⟩
      unfold headOf
      rw [if_pos h, if_pos h]
      exact y.sub (SubL.all (by repeat (first | exact SubL.nil | refine SubL.cons (by repeat (first | exact List.Mem.head _ | apply List.Mem.tail)) ?_))) (by decide)
    · rw [hc] at h
      have h := of_decide_eq_false h
      refine ex_nil ⟨rfl, ?_⟩
      unfold headOf
      rw [if_neg h, if_neg h]
      exact y.sub (SubL.all (by repeat (first | exact SubL.nil | refine SubL.cons (by repeat (first | exact List.Mem.head _ | apply List.Mem.tail)) ?_))) (by decide)
    refine ex_if_join [("tail", .str (S (tailOf xs.length i))), ("head", .str (S (headOf xs.length i))), ("k", .int (0 + (i : Int))), ("pieces", .sl ((xs.take i).map S)), ("parts", .sl ((deco xs).map S))] ["pieces"]
      y ha (cn_cmp (ev_name ho (by repeat (first | exact List.Mem.head _ | apply List.Mem.tail))) (ev_bin (ev_blt ho bn_len rfl rfl (evs_cons (ev_name ho (by repeat (first | exact List.Mem.head _ | apply List.Mem.tail))) evs_nil) (bl_len_strs hpl)).ev ev_int.ev op_sub).ev cmp_lt rfl) (fun h E₁ s₆ y => ?_) (fun h E₁ s₆ y => ?_) fun s₆ y => ?_
    · have h := of_decide_eq_true h
      rw [hdl] at h
      refine ex_aug y ha (by repeat (first | exact List.Mem.head _ | apply List.Mem.tail)) ev_str.ev (in_cat (b := S [40, 63, 62, 46]) ?_) ⟨rfl, .inl rfl⟩ hce (by repeat (first | exact Del.nil | (apply Del.skip; · rfl) | (apply Del.k; · decide))) (O' := ["pieces"]) (by decide) fun s₇ y => ex_nil ⟨rfl, ?_⟩
      · rw [S_len, S_len, sizeLine_eq]; split <;> decide
      · rw [S_cat] at y
        unfold tailOf
        rw [if_pos (show i + 2 < xs.length by omega)]
        exact y.sub (SubL.all (by repeat (first | exact SubL.nil | refine SubL.cons (by repeat (first | exact List.Mem.head _ | apply List.Mem.tail)) ?_))) (by decide)
    · have h := of_decide_eq_false h
      rw [hdl] at h
      refine ex_if y ha (cn_cmp (ev_name ho (by repeat (first | exact List.Mem.head _ | apply List.Mem.tail))) (ev_bin (ev_blt ho bn_len rfl rfl (evs_cons (ev_name ho (by repeat (first | exact List.Mem.head _ | apply List.Mem.tail))) evs_nil) (bl_len_strs hpl)).ev ev_int.ev op_sub).ev cmp_eq rfl) (fun h' s₇ y => ?_) fun h' s₇ y => ?_
      · have h' := of_decide_eq_true h'
        rw [hdl] at h'
        refine ex_aug y ha (by repeat (first | exact List.Mem.head _ | apply List.Mem.tail)) ev_str.ev (in_cat (b := S [46]) ?_) ⟨rfl, .inl rfl⟩ hce (by repeat (first | exact Del.nil | (apply Del.skip; · rfl) | (apply Del.k; · decide))) (O' := ["pieces"]) (by decide) fun s₇ y => ex_nil (ex_nil ⟨rfl, ?_⟩)
        · rw [S_len, S_len, sizeLine_eq]; split <;> decide
        · rw [S_cat] at y
          unfold tailOf
          rw [if_neg (show ¬ i + 2 < xs.length by omega), if_pos (show i + 2 = xs.length by omega)]
          exact y.sub (SubL.all (by repeat (first | exact SubL.nil | refine SubL.cons (by repeat (first | exact List.Mem.head _ | apply List.Mem.tail)) ?_))) (by decide)
      · have h' := of_decide_eq_false h'
        rw [hdl] at h'
        refine ex_nil (ex_nil ⟨rfl, ?_⟩)
        unfold tailOf
        rw [if_neg (show ¬ i + 2 < xs.length by omega), if_neg (show ¬ i + 2 = xs.length by omega), List.append_nil]
        exact y.sub (SubL.all (by repeat (first | exact SubL.nil | refine SubL.cons (by repeat (first | exact List.Mem.head _ | apply List.Mem.tail)) ?_))) (by decide)
    have hk : ((deco xs).map S)[(0 + (i : Int)).toNat]? = some (S (decoAt xs i)) := by
      rw [show (0 + (i : Int)).toNat = i by omega, List.getElem?_map, deco_at hi]; rfl
    have gk : GetOk (XX prog w T) n (.sl ((deco xs).map S)) (.int (0 + (i : Int))) (.str (S (decoAt xs i))) := get_strs (by omega) (by omega) hk
    have ms := me_startswith (X := XX prog w T) (n := n) (x := S (decoAt xs i)) (y := S (headOf xs.length i))
    have me := me_endswith (X := XX prog w T) (n := n) (x := S (decoAt xs i)) (y := S (tailOf xs.length i))
    rw [deco_starts] at ms
    rw [deco_ends] at me
    have hal : (decoAt xs i).length ≤ 1000 := hb _ (List.mem_map.2 ⟨i, List.mem_range.2 hi, rfl⟩)
    have hcut : decoAt xs i = headOf xs.length i ++ xs.getD i [] ++ tailOf xs.length i := rfl
    have hla : (decoAt xs i).length = (headOf xs.length i).length + (xs.getD i []).length + (tailOf xs.length i).length := by rw [hcut]; simp; omega
    refine ex_if y ha (cn_or (cn_not (cn_value (ev_meth (ev_sub (ev_name ho (by repeat (first | exact List.Mem.head _ | apply List.Mem.tail))) (ev_name ho (by repeat (first | exact List.Mem.head _ | apply List.Mem.tail))) gk (fun _ _ => rfl)).ev (evs_cons (ev_name ho (by repeat (first | exact List.Mem.head _ | apply List.Mem.tail))) evs_nil) ms (fun _ => rfl) rfl).ev (fun _ => rfl))) fun _ => cn_not (cn_value (ev_meth (ev_sub (ev_name ho (by repeat (first | exact List.Mem.head _ | apply List.Mem.tail))) (ev_name ho (by repeat (first | exact List.Mem.head _ | apply List.Mem.tail))) gk (fun _ _ => rfl)).ev (evs_cons (ev_name ho (by repeat (first | exact List.Mem.head _ | apply List.Mem.tail))) evs_nil) me (fun _ => rfl) rfl).ev (fun _ => rfl)))
      (fun h => nomatch h) fun _ s₇ y => ex_nil ?_
    refine ex_append y ha (by repeat (first | exact List.Mem.head _ | apply List.Mem.tail)) (by decide) (ev_cut (i := ((headOf xs.length i).length : Int)) (j := ((decoAt xs i).length : Int) - ((tailOf xs.length i).length : Int)) (ev_sub (ev_name ho (by repeat (first | exact List.Mem.head _ | apply List.Mem.tail))) (ev_name ho (by repeat (first | exact List.Mem.head _ | apply List.Mem.tail))) gk (fun _ _ => rfl)).ev ?_ ?_ (by omega) (by omega) (by omega) (by rw [sizeLine_eq]; omega)) hce (by repeat (first | exact Del.nil | (apply Del.skip; · rfl) | (apply Del.k; · decide))) (ap_str ?_) (fun s₈ y => ex_nil ?_) rfl
    · exact (ev_blt ho bn_len rfl rfl (evs_cons (ev_name (d := .str (S (headOf xs.length i))) ho (by repeat (first | exact List.Mem.head _ | apply List.Mem.tail))) evs_nil) (bl_len_str (by rw [S_len, sizeLine_eq]; omega))).ev.eq (by rw [S_len])
    · refine (ev_bin (d1 := .int ((decoAt xs i).length : Int)) (d2 := .int ((tailOf xs.length i).length : Int)) ?_ ?_ op_sub).ev
      · exact (ev_blt ho bn_len rfl rfl (evs_cons (ev_sub (ev_name ho (by repeat (first | exact List.Mem.head _ | apply List.Mem.tail))) (ev_name ho (by repeat (first | exact List.Mem.head _ | apply List.Mem.tail))) gk (fun _ _ => rfl)).ev evs_nil) (bl_len_str (by rw [S_len, sizeLine_eq]; omega))).ev.eq (by rw [S_len])
      · exact (ev_blt ho bn_len rfl rfl (evs_cons (ev_name (d := .str (S (tailOf xs.length i))) ho (by repeat (first | exact List.Mem.head _ | apply List.Mem.tail))) evs_nil) (bl_len_str (by rw [S_len, sizeLine_eq]; omega))).ev.eq (by rw [S_len])
    · rw [List.length_map, List.length_take, sizeLine_eq]; omega
    · have e : (xs.take i).map S ++ [S (((decoAt xs i).drop ((headOf xs.length i).length : Int).toNat).take (((decoAt xs i).length : Int) - ((tailOf xs.length i).length : Int) - ((headOf xs.length i).length : Int)).toNat)] = (xs.take (i + 1)).map S := by
        have e1 : (((decoAt xs i).length : Int) - ((tailOf xs.length i).length : Int) - ((headOf xs.length i).length : Int)).toNat = (xs.getD i []).length := by omega
        rw [e1, Int.toNat_natCast, hcut, List.append_assoc, List.drop_left, List.take_left, List.take_add_one, List.map_append, List.getElem?_eq_getElem hi, List.getD_eq_getElem?_getD, List.getElem?_eq_getElem hi]
        rfl
      rw [e] at y
      exact y.sub (SubL.all (by repeat (first | exact SubL.nil | refine SubL.cons (by repeat (first | exact List.Mem.head _ | apply List.Mem.tail)) ?_))) (by decide)
  · rw [List.take_length] at y
    exact ex_return_own y (by repeat (first | exact List.Mem.head _ | apply List.Mem.tail)) (by decide) fun v s' hp => ⟨v, rfl, hp⟩
end W40
end
section
open PySem PySem.W PyProof.Rows
set_option Elab.async false
set_option maxRecDepth 20000
set_option linter.unusedVariables false
set_option pp.deepTerms false
set_option pp.deepTerms.threshold 4
namespace W40
open PySem PySem.W PyProof.Rows PySem.Calls
variable {prog : Program} {w : World} {T : Nat} {n : Nat}

def marksL : List Nat := [40, 41, 91, 93, 123, 125, 63, 43, 45, 124, 94, 36, 46, 38, 126, 35, 32, 9, 10, 13, 11, 12]
def lettersL : List Nat := [97, 65, 47, 37]
def alpha : List Nat := lettersL ++ marksL
def isSp (c : Nat) : Bool := marksL.contains c || c == 42 || c == 92
def esc (l : List Nat) : List Nat := l.flatMap fun c => if isSp c then [92, c] else [c]

def keysOk (l : List DictEntry) : Bool := l.all fun e => match e.key with | .int k _ => e.hash == hashInt k | _ => false
theorem keysOk_of {prog : Program} {w : World} {es : Array DictEntry} (h : keysOk es.toList = true) : PySem.KeysOf (intKind prog w) es := by
  intro e he
  unfold keysOk at h
  rw [List.all_eq_true] at h
  have := h e (Array.mem_def.1 he)
  split at this
  · rename_i k t hk
    exact ⟨k, by rw [hk]; simp [intKind, Value.isInt], eq_of_beq this⟩
  · cases this
def alphaOk (es : Array DictEntry) : Bool := alpha.all fun c => match findBy Value.isInt es (c : Int) with | some (.str t _) => isSp c && t == S [92, c] | none => !isSp c | _ => false

theorem alpha_of {es : Array DictEntry} (h : alphaOk es = true) : ∀ c ∈ alpha, (isSp c = true ∧ ∃ u, findBy Value.isInt es (c : Int) = some (.str (S [92, c]) u)) ∨ (isSp c = false ∧ findBy Value.isInt es (c : Int) = none) := by
  intro c hc
  unfold alphaOk at h
  rw [List.all_eq_true] at h
  have := h c hc
  split at this
  · rename_i t u hf
    rw [Bool.and_eq_true] at this
    rw [hf, eq_of_beq this.2]
    exact .inl ⟨this.1, u, rfl⟩
  · rename_i hf
    rw [hf]
    exact .inr ⟨by simpa using this, rfl⟩
  · cases this
theorem esc_map {h : Heap} (hk : (XX prog w T).K.In h) : ∃ f : Int → Option Value, h.MapOf (intKind prog w) 65 f ∧ ∀ c ∈ alpha, (isSp c = true ∧ ∃ u, f (c : Int) = some (.str (S [92, c]) u)) ∨ (isSp c = false ∧ f (c : Int) = none) := by
  have h0 := hk 65 _ rfl
  exact ⟨_, ⟨_, _, _, h0, ⟨rfl, rfl, rfl⟩, rfl, keysOk_of (by rfl), fun k => rfl⟩, alpha_of (by rfl)⟩
theorem flatMap_cong {α β : Type} {f g : α → List β} : ∀ {l : List α}, (∀ a ∈ l, f a = g a) → l.flatMap f = l.flatMap g
  | [], _ => rfl
  | a :: r, h => by rw [List.flatMap_cons, List.flatMap_cons, h a (.head _), flatMap_cong fun b hb => h b (.tail _ hb)]
theorem escF_esc {f : Int → Option Value} {l : List Nat} (hl : ∀ c ∈ l, (isSp c = true ∧ ∃ u, f (c : Int) = some (.str (S [92, c]) u)) ∨ (isSp c = false ∧ f (c : Int) = none)) : escF f l = esc l := by
  unfold escF esc
  apply flatMap_cong
  intro c hc
  rcases hl c hc with ⟨h1, u, h2⟩ | ⟨h1, h2⟩
  · rw [h2, h1]; rfl
  · rw [h2, h1]; rfl

theorem ev_isinst {env : Env} {σ : List (Str × D)} {x : Str} {p0 p1 p2 pos : Pos} {y : Str} (ho : EnvOk env) (hx : (x, .str y) ∈ σ) (hk1 : env.kindOf "isinstance" = some .globalImplicit) (hk2 : env.kindOf "str" = some .globalImplicit)
    (hs : (backTo pos (starEach [.Name x p1, .Name "str" p2] env)).any (·.1) = false := by rfl) (hx2 : starEach [.Name x p1, .Name "str" p2] env = [(false, eval (.Name x p1) env), (false, eval (.Name "str" p2) env)] := by rfl) :
    Ev (XX prog w T) n env σ (.Call (.Name "isinstance" p0) [.Name x p1, .Name "str" p2] [] pos) (.bool true) := fun A s E a g r => by
  refine wpAny_Call_NameR (name_blt ho g (⟨by rfl, by rfl, by decide⟩ : BName (XX prog w T) "isinstance" (.builtin "isinstance")) hk1 (by decide) (callWith_builtin hs ?_))
  rw [hx2]
  refine evalArgs_plain (spliced_cons ?_)
  obtain ⟨v, fp, hv, ⟨t, rfl⟩, _⟩ := r _ hx
  refine name_var ho hv (spliced_cons (name_blt ho g (⟨by rfl, by rfl, by decide⟩ : BName (XX prog w T) "str" (.type "str")) hk2 (by decide) (spliced_nil ?_)))
  exact IsiPair.str_str ⟨Kp.refl s, [], rfl, rfl⟩

theorem ev_translate {env : Env} {σ : List (Str × D)} {x : Str} {p1 p2 pos apos : Pos} {l : List Nat} (ho : EnvOk env) (hx : (x, .str (S l)) ∈ σ) (hk : env.kindOf "_special_chars_map" = some .globalImplicit) (hl : ∀ c ∈ l, c ∈ alpha) (hz : l.length ≤ 1000) (hline : (apos.endLine == pos.line) = true)
    (hbase : ∀ whole, attributeBase (.Name x p1) "translate" env whole = whole := by intro _; rfl)
    (hxx : starEach [.Name "_special_chars_map" p2] env = [(false, eval (.Name "_special_chars_map" p2) env)] := by rfl)
    (hfew : ((backTo pos (starEach [.Name "_special_chars_map" p2] env)).all (fun x => !x.1) && (backToKw pos (keywordEach [] env)).all (fun x => x.1.isSome) && decide ([Expr.Name "_special_chars_map" p2].length + ([] : List Keyword).length + (if ([] : List Keyword).isEmpty then 0 else 1) < 30)) = true := by rfl)
    (hany : (backTo pos (starEach [.Name "_special_chars_map" p2] env)).any (·.1) = false := by rfl) :
    EvF (XX prog w T) n env σ (.Call (.Attribute (.Name x p1) "translate" apos) [.Name "_special_chars_map" p2] [] pos) (.str (S (esc l))) := fun A s E a g r => by
  obtain ⟨v, fp, hv, ⟨t, rfl⟩, _⟩ := r _ hx
  refine wpAny_Call_method_lateS (hbase _) hfew hline (name_var ho hv ?_)
  refine ⟨"str", _, F.plainAttrs_str, F.slot_str_translate, F.type_str_translate, rfl, (fun a e => nomatch e), callWith_builtin hany ?_⟩
  rw [hxx]
  refine evalArgs_plain (spliced_cons (name_glob ho g (by rfl : GName (XX prog w T) "_special_chars_map" (.ref 65)) hk (by decide) (spliced_nil ?_)))
  obtain ⟨f, hm, hf⟩ := esc_map (prog := prog) (w := w) (T := T) g.kin
  refine wpAny_call_entry F.slot_str_translate rfl F.entry_str_translate (translate_walk (f := f) a.hand rfl hm (fun c hc => ?_) hz fun s' u k => ?_) (F.args_str_translate_2 _ _)
  · rcases hf c (hl c hc) with ⟨_, u, h2⟩ | ⟨_, h2⟩
    · exact .inr ⟨_, u, h2, rfl⟩
    · exact .inl h2
  · rw [escF_esc fun c hc => hf c (hl c hc)]
    exact PostF.str k

theorem fn_escape {l : List Nat} (hl : ∀ c ∈ l, c ∈ alpha) (hz : l.length ≤ 1000) : FnOk (XX prog w T) (n + 1) 75 [.str (S l)] (.str (S (esc l))) := by
  refine fn_ok (ps := ["pattern"]) [("pattern", .str (S l))] rfl rfl rfl rfl rfl rfl (fun | [_], _ => rfl) (by decide) (by decide) rfl (by intro L p hp; simp only [List.mem_cons, List.not_mem_nil, or_false] at hp; rcases hp with rfl | rfl | rfl | rfl | rfl <;> first | exact .inl rfl | exact .inr ⟨rfl, rfl⟩) (fun _ => rfl) (by decide) rfl rfl rfl rfl rfl ?_
  intro A s₀ L s₁ ha hce y
  have ho := y.envOk
  refine ex_if y ha (cn_value (ev_isinst ho (by repeat (first | exact List.Mem.head _ | apply List.Mem.tail)) rfl rfl) (fun _ => rfl)) (fun _ s₂ y => ?_) fun h => nomatch h
  exact ex_return y ha (ev_translate ho (by repeat (first | exact List.Mem.head _ | apply List.Mem.tail)) rfl hl hz rfl) fun v s' hp => ⟨v, rfl, hp⟩
end W40
end
section
open PySem PySem.W PyProof.Rows
set_option Elab.async false
set_option maxRecDepth 20000
set_option linter.unusedVariables false
set_option linter.unusedSimpArgs false
set_option pp.deepTerms false
set_option pp.deepTerms.threshold 4
namespace W40
open PySem PySem.W PyProof.Rows PySem.Calls
section
variable {X : Cx} {n : Nat} {env : Env} {σ : List (Str × D)}
theorem ev_fv {e : Expr} {pos : Pos} {x : Str} (h : Ev X n env σ e (.str x)) (hz : x.length ≤ sizeLine) : Ev X n env σ (.FormattedValue e (-1) none pos) (.str x) := fun A s E a g r =>
  tok_up (FormattedValue_plain (wpAny_mono (h A s E a g r) (fun v s1 ⟨k1, fp, ⟨t, hv⟩, _⟩ => by
    subst hv
    refine formatField_str (fun t' tk ht => ⟨?_, [], ⟨_, rfl⟩, rfl⟩) hz
    obtain ⟨h1, t1, rfl⟩ := k1.same
    exact ⟨⟨_, _, rfl⟩, k1.keep, ht⟩) fun _ _ x => x))
/-- an f-string's parts -/
def Jp (X : Cx) (n : Nat) (env : Env) (σ : List (Str × D)) (out : Str) (es : List Expr) (x : Str) : Prop :=
  ∀ A s E, AOk n A → Gl X s → RelR X env s σ → wpAny (model X.prog X.w) A (joinParts out (evalEach es env)) (PostF X s (.str x)) E s
theorem jp_nil {out : Str} (hz : out.length ≤ sizeLine) : Jp X n env σ out [] out := fun A s E a g r => joinParts_nilE (joinParts_nil (PostF.str (Kp.tok1 s)) hz)
theorem jp_cons {out x y : Str} {e : Expr} {es : List Expr} (he : Ev X n env σ e (.str y)) (hz : (out ++ y).length ≤ sizeLine) (h : Jp X n env σ (out ++ y) es x) : Jp X n env σ out (e :: es) x := fun A s E a g r =>
  joinParts_consE (joinParts_cons (wpAny_mono (he A s E a g r) (fun v s1 ⟨k1, fp, ⟨t, hv⟩, _⟩ => by
    subst hv
    exact ⟨hz, wpAny_mono (h A s1 E a (g.kp k1) (r.kp k1)) (fun v s2 h2 => h2.lift k1) fun _ _ x => x⟩) fun _ _ x => x))
theorem ev_joined {e1 e2 : Expr} {es : List Expr} {pos : Pos} {x : Str} (h : Jp X n env σ Str.empty (e1 :: e2 :: es) x) : EvF X n env σ (.JoinedStr (e1 :: e2 :: es) pos) (.str x) := fun A s E a g r => JoinedStr_many (h A s E a g r)
theorem ev_join {o e : Expr} {apos pos : Pos} {sep x : Str} {l : List Str} (h0 : Ev X n env σ o (.str sep)) (h1 : Ev X n env σ e (.sl l)) (hok : JoinOk sep l = true) (ej : Txt.join sep l = x)
    (hbase : ∀ whole, attributeBase o "join" env whole = whole) (hline : (apos.endLine == pos.line) = true)
    (hx : starEach [e] env = (false, eval e env) :: starEach [] env)
    (hfew : ((backTo pos (starEach [e] env)).all (fun x => !x.1) && (backToKw pos (keywordEach [] env)).all (fun x => x.1.isSome) && decide ([e].length + ([] : List Keyword).length + (if ([] : List Keyword).isEmpty then 0 else 1) < 30)) = true)
    (hany : (backTo pos (starEach [e] env)).any (·.1) = false) : EvF X n env σ (.Call (.Attribute o "join" apos) [e] [] pos) (.str x) := by
  have mj := me_join (X := X) (n := n) hok
  rw [ej] at mj
  exact ev_meth h0 (evs_cons h1 evs_nil hx) mj hbase hline hx hfew hany
end
variable {prog : Program} {w : World} {T : Nat} {n : Nat}

def midL (x : List Nat) : List Nat := [40, 63, 62, 46, 42, 63] ++ x ++ [41]
def ptAt (xs : List (List Nat)) (t k : Nat) : List Nat := if 1 ≤ k ∧ k < 1 + t then midL (xs.getD k []) else xs.getD k []
def pt (xs : List (List Nat)) (t : Nat) : List (List Nat) := (List.range xs.length).map (ptAt xs t)
def transP (xs : List (List Nat)) : List (List Nat) := (pt xs (xs.length - 2)).set (xs.length - 1) ([46, 42] ++ xs.getD (xs.length - 1) [])
def trans (xs : List (List Nat)) : List Nat := joinL [] (transP xs)
theorem pt_len (xs : List (List Nat)) (t : Nat) : (pt xs t).length = xs.length := by simp [pt]
theorem pt_at {xs : List (List Nat)} {t k : Nat} (h : k < xs.length) : (pt xs t)[k]? = some (ptAt xs t k) := by
  unfold pt; rw [List.getElem?_map, List.getElem?_range h]; rfl
theorem range_getD {α : Type} (d : α) (l : List α) : (List.range l.length).map (fun k => l.getD k d) = l := by
    apply List.ext_getElem?
    intro k
    rw [List.getElem?_map]
    by_cases h : k < l.length
    · rw [List.getElem?_range h, List.getElem?_eq_getElem h]; simp [List.getD_eq_getElem?_getD, h]
    · rw [List.getElem?_eq_none (by simpa using h), List.getElem?_eq_none (by omega)]; rfl
theorem pt_zero (xs : List (List Nat)) : pt xs 0 = xs := by
  have : pt xs 0 = (List.range xs.length).map fun k => xs.getD k [] := by
    unfold pt
    apply List.map_congr_left
    intro k hk
    unfold ptAt
    rw [if_neg (by omega)]
  rw [this, range_getD]
theorem pt_set {xs : List (List Nat)} {t : Nat} (h : 1 + t < xs.length) : (pt xs t).set (1 + t) (midL (xs.getD (1 + t) [])) = pt xs (t + 1) := by
  apply List.ext_getElem?
  intro j
  rw [List.getElem?_set, pt_len]
  by_cases hj : j < xs.length
  · rw [pt_at hj, pt_at hj]
    by_cases e : 1 + t = j
    · subst e
      simp only [if_true, h]
      unfold ptAt
      rw [if_pos (by omega)]
    · rw [if_neg e]
      unfold ptAt
      by_cases h1 : 1 ≤ j ∧ j < 1 + t
      · rw [if_pos h1, if_pos (by omega)]
      · rw [if_neg h1, if_neg (by omega)]
  · rw [List.getElem?_eq_none (by rw [pt_len]; omega), List.getElem?_eq_none (by rw [pt_len]; omega), if_neg (by omega)]

theorem fn_pat {path : List Nat} {ps : List (List Nat)} (hz : path.length ≤ 1000) (hx : Txt.split (S path) (S [42]) = ps.map S) (hN : 2 ≤ ps.length) (hN' : ps.length ≤ 100) (hb : ∀ p ∈ ps, (∀ c ∈ p, c ∈ alpha) ∧ p.length ≤ 100) (hb2 : ∀ p ∈ ps, (esc p).length ≤ 300)
    (hok : JoinOk (S []) ((transP (ps.map esc)).map S) = true) : FnOk (XX prog w T) (n + 11) 82 [.str (S path)] (.str (S (trans (ps.map esc)))) := by
  refine fn_ok (ps := ["path"]) [("path", .str (S path))] rfl rfl rfl rfl rfl rfl (fun | [_], _ => rfl) (by decide) (by decide) rfl (by intro L p hp; simp only [List.mem_cons, List.not_mem_nil, or_false] at hp; rcases hp with rfl | rfl | rfl | rfl | rfl <;> first | exact .inl rfl | exact .inr ⟨rfl, rfl⟩) (fun _ => rfl) (by decide) rfl rfl rfl rfl rfl ?_
  intro A s₀ L s₁ ha hce y
  have ho := y.envOk
  have hml := me_split (X := XX prog w T) (n := n + 6) (x := S path) (y := S [42]) rfl (by rw [S_len]; omega)
  rw [hx] at hml
  have hmeq : (ps.map S).map (fun y => S (esc y.cps.toList)) = (pt (ps.map esc) 0).map S := by rw [pt_zero, List.map_map, List.map_map]; rfl
  have hlen : (ps.map esc).length = ps.length := List.length_map ..
  refine ex_assign (d := .sl ((pt (ps.map esc) 0).map S)) y ha ?_ ⟨rfl, .inl rfl⟩ hce (by repeat (first | exact Del.nil | (apply Del.skip; · rfl) | (apply Del.k; · decide))) (O' := ["parts"]) (by decide) fun s₂ y => ?_
  · rw [← hmeq]
    refine ev_list_map (n := n + 6) (g := fun y => S (esc y.cps.toList)) (f := 75) ho (⟨by rfl, by rfl, by decide⟩ : BName (XX prog w T) "list" (.type "list")) (⟨by rfl, by rfl, by decide⟩ : BName (XX prog w T) "map" (.type "map")) (by rfl) rfl rfl rfl (by decide)
      (ev_meth (ev_name ho (by repeat (first | exact List.Mem.head _ | apply List.Mem.tail))) (evs_cons ev_str.ev evs_nil) hml (fun _ => rfl) rfl).ev (fun y hy => ?_) (by rw [List.length_map, sizeLine_eq]; omega)
    obtain ⟨p, hp, rfl⟩ := List.mem_map.1 hy
    exact fn_escape (hb p hp).1 (by have := (hb p hp).2; omega)
  have hpl : ∀ t, ((pt (ps.map esc) t).map S).length ≤ sizeLine := fun t => by rw [List.length_map, pt_len, hlen, sizeLine_eq]; omega
  have hxl : ∀ k, ((ps.map esc).getD k []).length ≤ 300 := fun k => by
    rw [List.getD_eq_getElem?_getD]
    cases h : (ps.map esc)[k]? with
    | none => simp
    | some q =>
      obtain ⟨p, hp, rfl⟩ := List.mem_map.1 (List.mem_of_getElem? h)
      exact hb2 p hp
  refine ex_for y ha hce (src_to (N := ps.length - 2) (rng2 ho bn_range rfl (evs_cons ev_int.ev (evs_cons (ev_bin (ev_blt ho bn_len rfl rfl (evs_cons (ev_name ho (by repeat (first | exact List.Mem.head _ | apply List.Mem.tail))) evs_nil) (bl_len_strs (hpl 0))).ev ev_int.ev op_sub).ev evs_nil))) (by rw [List.length_map, pt_len, hlen]; omega))
    (sg := fun i => [("parts", .sl ((pt (ps.map esc) i).map S))]) (add := fun i => [("i", .int (1 + (i : Int)))]) (O' := ["parts"]) (SubL.all (by repeat (first | exact SubL.nil | refine SubL.cons (by repeat (first | exact List.Mem.head _ | apply List.Mem.tail)) ?_))) (by decide) (fun i hi => asg_name ⟨rfl, .inl rfl⟩ hce rfl (NoN.all (by repeat (first | exact NoN.nil | refine NoN.c (by decide) ?_)))) (fun i hi Z' W' E' s' y => ?_) fun s₃ y => ?_
  · have e2 : (1 + (i : Int)).toNat = 1 + i := by omega
    have hat : ((pt (ps.map esc) i).map S)[(1 + (i : Int)).toNat]? = some (S ((ps.map esc).getD (1 + i) [])) := by
      rw [e2, List.getElem?_map, pt_at (by rw [hlen]; omega)]
      unfold ptAt
      rw [if_neg (by omega)]; rfl
    have hx1 := hxl (1 + i)
    refine ex_set_str (v := S (midL ((ps.map esc).getD (1 + i) []))) y ha (by repeat (first | exact List.Mem.head _ | apply List.Mem.tail)) (by decide) ?_ (ev_name ho (by repeat (first | exact List.Mem.head _ | apply List.Mem.tail))) (by omega) (by omega) (by rw [List.length_map, pt_len, hlen]; omega) hce (by repeat (first | exact Del.nil | (apply Del.skip; · rfl) | (apply Del.k; · decide))) fun s₄ y => ex_nil ?_
    · have ev : ∀ a b c : List Nat, a.length ≤ 100 → c.length ≤ 100 → b.length ≤ 300 → (Str.empty ++ S a).length ≤ sizeLine ∧ (Str.empty ++ S a ++ S b).length ≤ sizeLine ∧ (Str.empty ++ S a ++ S b ++ S c).length ≤ sizeLine ∧ Str.empty ++ S a ++ S b ++ S c = S (a ++ b ++ c) := by
        intro a b c h1 h2 h3
        have e : (Str.empty : Str) = S [] := rfl
        rw [e, S_cat, S_cat, S_cat, S_len, S_len, S_len, sizeLine_eq]
        simp; omega
      obtain ⟨h1, h2, h3, h4⟩ := ev [40, 63, 62, 46, 42, 63] ((ps.map esc).getD (1 + i) []) [41] (by decide) (by decide) hx1
      refine (ev_joined (jp_cons (y := S [40, 63, 62, 46, 42, 63]) ev_str.ev h1 (jp_cons (ev_fv (ev_sub (ev_name ho (by repeat (first | exact List.Mem.head _ | apply List.Mem.tail))) (ev_name ho (by repeat (first | exact List.Mem.head _ | apply List.Mem.tail))) (get_strs (by omega) (by omega) hat) (fun _ _ => rfl)).ev (by rw [S_len, sizeLine_eq]; omega)) h2 (jp_cons (y := S [41]) ev_str.ev h3 ((?_ : Jp _ _ _ _ _ _ _)))))).ev
      rw [h4]
      exact jp_nil (by rw [← h4]; exact h3)
    · have e : ((pt (ps.map esc) i).map S).set (1 + (i : Int)).toNat (S (midL ((ps.map esc).getD (1 + i) []))) = (pt (ps.map esc) (i + 1)).map S := by
        rw [e2, ← pt_set (by rw [hlen]; omega), List.map_set]
      rw [e] at y
      exact y.sub (SubL.all (by repeat (first | exact SubL.nil | refine SubL.cons (by repeat (first | exact List.Mem.head _ | apply List.Mem.tail)) ?_))) (by decide)
  · have hat : ((pt (ps.map esc) (ps.length - 2)).map S).getLast? = some (S ((ps.map esc).getD (ps.length - 1) [])) := by
      rw [List.getLast?_eq_getElem?, List.length_map, pt_len, hlen, List.getElem?_map, pt_at (by rw [hlen]; omega)]
      unfold ptAt
      rw [if_neg (by omega)]; rfl
    have hx1 := hxl (ps.length - 1)
    refine ex_set_last (v := S ([46, 42] ++ (ps.map esc).getD (ps.length - 1) [])) y ha (by repeat (first | exact List.Mem.head _ | apply List.Mem.tail)) (by decide) ?_ (ev_neg ev_int.ev).ev (by rw [List.length_map, pt_len, hlen]; omega) hce (by repeat (first | exact Del.nil | (apply Del.skip; · rfl) | (apply Del.k; · decide))) fun s₄ y => ?_
    · have e0 : (Str.empty : Str) = S [] := rfl
      refine (ev_joined (jp_cons (y := S [46, 42]) ev_str.ev ?_ (jp_cons (ev_fv (ev_sub (ev_name ho (by repeat (first | exact List.Mem.head _ | apply List.Mem.tail))) (ev_neg ev_int.ev).ev (get_strs_last hat) (fun _ _ => rfl)).ev (by rw [S_len, sizeLine_eq]; omega)) ?_ ((?_ : Jp _ _ _ _ _ _ _))))).ev
      · rw [e0, S_cat, S_len, sizeLine_eq]; decide
      · rw [e0, S_cat, S_cat, S_len, sizeLine_eq]; simp only [List.length_append, List.length_cons, List.length_nil]; omega
      · rw [e0, S_cat, S_cat, List.nil_append]
        exact jp_nil (by rw [S_len, sizeLine_eq]; simp only [List.length_append, List.length_cons, List.length_nil]; omega)
    · have e : ((pt (ps.map esc) (ps.length - 2)).map S).set (((pt (ps.map esc) (ps.length - 2)).map S).length - 1) (S ([46, 42] ++ (ps.map esc).getD (ps.length - 1) [])) = (transP (ps.map esc)).map S := by
        unfold transP
        rw [List.length_map, pt_len, hlen, List.map_set]
      rw [e] at y
      have em : (Str.ofString "" : Str) = S [] := by rfl
      have ej : Txt.join (Str.ofString "") ((transP (ps.map esc)).map S) = S (trans (ps.map esc)) := by rw [em, glued_S]; rfl
      refine ex_return y ha (ev_join (ev_str.ev) (ev_name ho (by repeat (first | exact List.Mem.head _ | apply List.Mem.tail))) (by rw [em]; exact hok) ej (fun _ => rfl) rfl rfl rfl rfl) fun v s' hp => ⟨v, rfl, hp⟩
end W40
end
section
open PySem PySem.W PyProof.Rows
set_option Elab.async false
set_option maxRecDepth 20000
set_option linter.unusedVariables false
set_option linter.unusedSimpArgs false
set_option pp.deepTerms false
set_option pp.deepTerms.threshold 4
namespace W40
open PySem PySem.W PyProof.Rows PySem.Calls
variable {prog : Program} {w : World} {T : Nat} {n : Nat} {env : Env} {σ σ' : List (Str × D)} {O O' : List Str} {Z Z' : List (Addr × Obj)} {W W' : List Addr} {s₀ s : Shared} {A : Around} {E : Value → Shared → Prop} {Q : Flow → Shared → Prop} {rest : List Stmt}

/-- a field read -/
theorem ev_attr {e : Expr} {nm : Str} {pos : Pos} {l : List Str} {d : D} (he : Ev (XX prog w T) n env σ e (.en l))
    (hf : ∀ h x fp, IsEntry 59 h x l fp → ∃ dx es m v fp', h.get? x = some (instObj 59 dx) ∧ h.get? dx = some (dictOf es m) ∧ getL nm es = some (some v) ∧ handedIn v = true ∧ Rep 59 h v d fp')
    (hbase : ∀ whole, attributeBase e nm env whole = whole) (hfind : findIn (XX prog w T).K (.ref 59) nm = some none) : Ev (XX prog w T) n env σ (.Attribute e nm pos) d := fun A s E a g r => by
  refine Attribute_any_ (wpAny_mono (he A s E a g r) (fun v s1 ⟨k1, fp, hr⟩ => ?_) fun _ _ x => x) (by rw [arm_eval_Attribute, hbase])
  obtain ⟨x, rfl, hE⟩ := hr
  obtain ⟨dx, es, m, v, fp', h1, h2, h3, h4, h5⟩ := hf _ _ _ hE
  have g1 := g.kp k1
  refine attr_get (K := (XX prog w T).K) (ox := instObj 59 dx) g1.kin ⟨h1, rfl, rfl, h2⟩ (by
    unfold plainGet; rfl) (by rfl) hfind rfl h3 h4 ⟨k1.trans (Kp.tok1 _), fp', h5⟩

theorem f_rules {l : List Str} : ∀ h x fp, IsEntry 59 h x l fp → ∃ dx es m v fp', h.get? x = some (instObj 59 dx) ∧ h.get? dx = some (dictOf es m) ∧ getL "rulelines" es = some (some v) ∧ handedIn v = true ∧ Rep 59 h v (.sl l) fp' := by
  rintro h x fp ⟨dx, a, b, va, vb, es, m, h1, h2, sk, sl, hab, g1, g2, g3, g4, h3, ⟨vs, h4, hs⟩, rfl⟩
  exact ⟨dx, es, m, _, [b], h1, h2, g2, rfl, b, vs, rfl, ⟨_, h4⟩, hs, rfl⟩
theorem f_agents {l : List Str} : ∀ h x fp, IsEntry 59 h x l fp → ∃ dx es m v fp', h.get? x = some (instObj 59 dx) ∧ h.get? dx = some (dictOf es m) ∧ getL "useragents" es = some (some v) ∧ handedIn v = true ∧ Rep 59 h v (.il []) fp' := by
  rintro h x fp ⟨dx, a, b, va, vb, es, m, h1, h2, sk, sl, hab, g1, g2, g3, g4, h3, ⟨vs, h4, hs⟩, rfl⟩
  exact ⟨dx, es, m, _, [a], h1, h2, g1, rfl, a, [], rfl, ⟨_, h3⟩, .nil, rfl⟩
theorem f_delay {l : List Str} : ∀ h x fp, IsEntry 59 h x l fp → ∃ dx es m v fp', h.get? x = some (instObj 59 dx) ∧ h.get? dx = some (dictOf es m) ∧ getL "delay" es = some (some v) ∧ handedIn v = true ∧ Rep 59 h v .none fp' := by
  rintro h x fp ⟨dx, a, b, va, vb, es, m, h1, h2, sk, sl, hab, g1, g2, g3, g4, h3, ⟨vs, h4, hs⟩, rfl⟩
  exact ⟨dx, es, m, _, [], h1, h2, g3, rfl, rfl, rfl⟩
theorem f_rate {l : List Str} : ∀ h x fp, IsEntry 59 h x l fp → ∃ dx es m v fp', h.get? x = some (instObj 59 dx) ∧ h.get? dx = some (dictOf es m) ∧ getL "req_rate" es = some (some v) ∧ handedIn v = true ∧ Rep 59 h v .none fp' := by
  rintro h x fp ⟨dx, a, b, va, vb, es, m, h1, h2, sk, sl, hab, g1, g2, g3, g4, h3, ⟨vs, h4, hs⟩, rfl⟩
  exact ⟨dx, es, m, _, [], h1, h2, g4, rfl, rfl, rfl⟩

/-- what a field may take -/
inductive Fld : Str → D → List Str → List Str → Prop
  | rules {l l'} : Fld "rulelines" (.sl l') l l'
  | agents {l} : Fld "useragents" (.il []) l l
  | delay {l} : Fld "delay" .none l l
  | rate {l} : Fld "req_rate" .none l l

theorem set_entry {C : Addr} {h : Heap} {x : Addr} {nm : Str} {d : D} {l l' : List Str} {fp : List Addr} (f : Fld nm d l l') (hE : IsEntry C h x l fp) :
    ∃ dx es m, dx ∈ fp ∧ h.get? x = some (instObj C dx) ∧ h.get? dx = some (dictOf es m) ∧ StrKeys es ∧ es.length ≤ 100 ∧
      ∀ hsh t v fpv h', Heap.SameBut dx h h' → h'.get? dx = some (dictOf (putL nm hsh (.str nm t) v es) (putN nm es m)) → Rep C h v d fpv → (∀ c ∈ fpv, c ∉ fp) → ∃ fp', Rep C h' (.ref x) (.en l') fp' ∧ ∀ b ∈ fp', b ∈ fp ∨ b ∈ fpv := by
  obtain ⟨dx, a, b, va, vb, es, m, h1, h2, sk, sl, hab, g1, g2, g3, g4, h3, ⟨vs, h4, hs⟩, rfl⟩ := hE
  have xd : x ≠ dx := fun q => by rw [q, h2] at h1; cases h1
  have ad : a ≠ dx := fun q => by rw [q, h2] at h3; exact absurd (congrArg Obj.cls (Option.some.inj h3)) (show ¬ (Value.type "dict" = Value.type "list") by decide)
  have bd : b ≠ dx := fun q => by rw [q, h2] at h4; exact absurd (congrArg Obj.cls (Option.some.inj h4)) (show ¬ (Value.type "dict" = Value.type "list") by decide)
  refine ⟨dx, es, m, by simp, h1, h2, sk, sl, fun hsh t v fpv h' hsm hd hr hn => ?_⟩
  have k1 := hsm.extBut _ _ xd h1
  have k3 := hsm.extBut _ _ ad h3
  have k4 := hsm.extBut _ _ bd h4
  have len : ∀ {u : Value}, getL nm es = some (some u) → (putL nm hsh (.str nm t) v es).length ≤ 100 := fun q => by rw [putL_len_there (getL_any q)]; exact sl
  cases f with
  | rules =>
    obtain ⟨c, ws, rfl, ⟨nn, hl⟩, hi, rfl⟩ := hr
    have hc : h'.get? c = _ := hsm.extBut _ _ (fun q => hn c (by simp) (by rw [q]; simp)) hl
    refine ⟨[x, dx, a, c], ⟨x, rfl, dx, a, c, va, nn, _, _, k1, hd, putL_keys sk, len g2, fun q => hn c (by simp) (by rw [← q]; simp), ?_, ?_, ?_, ?_, k3, ⟨ws, hc, hi⟩, rfl⟩, fun z hz => ?_⟩
    · rw [getL_put_other (by decide) sk]; exact g1
    · rw [getL_put_self]
    · rw [getL_put_other (by decide) sk]; exact g3
    · rw [getL_put_other (by decide) sk]; exact g4
    · simp only [List.mem_cons, List.not_mem_nil, or_false] at hz ⊢
      rcases hz with rfl | rfl | rfl | rfl <;> simp
  | agents =>
    obtain ⟨c, ws, rfl, ⟨nn, hl⟩, hi, rfl⟩ := hr
    have := hi.nil_inv
    subst this
    have hc : h'.get? c = _ := hsm.extBut _ _ (fun q => hn c (by simp) (by rw [q]; simp)) hl
    refine ⟨[x, dx, c, b], ⟨x, rfl, dx, c, b, nn, vb, _, _, k1, hd, putL_keys sk, len g1, fun q => hn c (by simp) (by rw [q]; simp), ?_, ?_, ?_, ?_, hc, ⟨vs, k4, hs⟩, rfl⟩, fun z hz => ?_⟩
    · rw [getL_put_self]
    · rw [getL_put_other (by decide) sk]; exact g2
    · rw [getL_put_other (by decide) sk]; exact g3
    · rw [getL_put_other (by decide) sk]; exact g4
    · simp only [List.mem_cons, List.not_mem_nil, or_false] at hz ⊢
      rcases hz with rfl | rfl | rfl | rfl <;> simp
  | delay =>
    obtain ⟨rfl, rfl⟩ := hr
    refine ⟨[x, dx, a, b], ⟨x, rfl, dx, a, b, va, vb, _, _, k1, hd, putL_keys sk, len g3, hab, ?_, ?_, ?_, ?_, k3, ⟨vs, k4, hs⟩, rfl⟩, fun z hz => .inl hz⟩
    · rw [getL_put_other (by decide) sk]; exact g1
    · rw [getL_put_other (by decide) sk]; exact g2
    · rw [getL_put_self]
    · rw [getL_put_other (by decide) sk]; exact g4
  | rate =>
    obtain ⟨rfl, rfl⟩ := hr
    refine ⟨[x, dx, a, b], ⟨x, rfl, dx, a, b, va, vb, _, _, k1, hd, putL_keys sk, len g4, hab, ?_, ?_, ?_, ?_, k3, ⟨vs, k4, hs⟩, rfl⟩, fun z hz => .inl hz⟩
    · rw [getL_put_other (by decide) sk]; exact g1
    · rw [getL_put_other (by decide) sk]; exact g2
    · rw [getL_put_other (by decide) sk]; exact g3
    · rw [getL_put_self]

/-- x.nm = e, x an entry of the call's own -/
theorem ex_setattr {x nm : Str} {px ap pos : Pos} {e : Expr} {d : D} {l l' : List Str} (f : Fld nm d l l') (y : St (XX prog w T) s₀ env σ O Z W s) (a : AOk n A) (hm : (x, .en l) ∈ σ) (ho : x ∈ O) (he : EvF (XX prog w T) n env σ e d) (hce : CellsOkN env) (hd : Del x σ σ')
    (ht : takerIn (XX prog w T).K 59 nm = some none)
    (kk : ∀ s', St (XX prog w T) s₀ env ((x, .en l') :: σ') O Z W s' → Wp (XX prog w T) A env rest Q E s') (hs : swapsWith e (some (.Attribute (.Name x px) nm ap)) pos.line env = pure false := by rfl) : Wp (XX prog w T) A env (.Assign [.Attribute (.Name x px) nm ap] e pos :: rest) Q E s := by
  obtain ⟨v, fp, hv, hr, mutz⟩ := st_mutate y hm ho
  obtain ⟨ax, rfl, hE⟩ := hr
  refine wpAny_execs_cons (plainObj_wpAny_Assign_Attribute (wpAny_mono (he A s E a y.gl y.rel) (fun u s1 ⟨k1, fpu, ru, fu⟩ => ?_) fun _ _ x => x) hs)
  refine name_var y.envOk (hv.keeps k1.keep) ?_
  have hE1 : IsEntry 59 s1.heap ax l fp := by
    have : Rep 59 s1.heap (.ref ax) (.en l) fp := Rep.keeps (C := 59) (d := .en l) ⟨ax, rfl, hE⟩ k1.keep
    obtain ⟨ax', q, h⟩ := this
    cases q; exact h
  obtain ⟨dx, es, m, hdx, h1, h2, sk, sl, fin⟩ := set_entry f hE1
  have hnd : ∀ c ∈ fpu, c ∉ fp := fun c hc hq => by
    obtain ⟨o, ho⟩ := (show Rep 59 s.heap (.ref ax) (.en l) fp from ⟨ax, rfl, hE⟩).live c hq
    rw [fu c hc] at ho; cases ho
  refine attr_set (K := (XX prog w T).K) (y.gl.kp k1).kin (⟨h1, rfl, rfl, h2⟩ : PySem.W.InstAt s1.heap ax (instObj 59 dx) 59 (some (dictOf es m))) rfl (by rfl) (by rfl) ht (by rfl) (getL_isSome sk nm) rfl (Nat.le_trans putL_len (by omega)) fun h' hs' hd' => ?_
  obtain ⟨fp', hr', hf'⟩ := fin _ _ _ _ h' hs' hd' ru hnd
  refine kk _ ?_
  obtain ⟨hh, tt, rfl⟩ := k1.same
  exact mutz _ dx h' _ fp' _ k1 hdx hs' hr' (fun c hc => (hf' c hc).imp id fun q => fu c q) hce (by show tt ≤ tt + 2; omega) hd

/-- a if a test, b if not -/
theorem ev_ife {test body orelse : Expr} {pos : Pos} {b : Bool} {d : D} (hc : Cn (XX prog w T) n env σ test b) (h1 : b = true → Ev (XX prog w T) n env σ body d) (h2 : b = false → Ev (XX prog w T) n env σ orelse d) : Ev (XX prog w T) n env σ (.IfExp test body orelse pos) d := fun A s E a g r => by
  refine wpAny_IfExp (wpAny_mono (hc A s E a g r) (fun c s1 ⟨hc', k1⟩ => ?_) fun _ _ x => x)
  subst hc'
  cases c with
  | true => simp only [if_true]; exact wpAny_mono (h1 rfl A s1 E a (g.kp k1) (r.kp k1)) (fun v s2 ⟨k2, h⟩ => ⟨k1.trans k2, h⟩) fun _ _ x => x
  | false => simp only [Bool.false_eq_true, if_false]; exact wpAny_mono (h2 rfl A s1 E a (g.kp k1) (r.kp k1)) (fun v s2 ⟨k2, h⟩ => ⟨k1.trans k2, h⟩) fun _ _ x => x
theorem cmp_none : CmpOk (XX prog w T) n .Is .none .none true := by
  rintro A s E _ _ _ _ ha g ⟨rfl, _⟩ ⟨rfl, _⟩
  exact is_none ⟨rfl, Kp.refl s⟩
/-- Entry() -/
theorem ev_entry {p pos : Pos} (ho : EnvOk env) (hk : env.kindOf "Entry" = some .globalImplicit) (hx : starEach [] env = [] := by rfl) : EvF (XX prog w T) (n + 6) env σ (.Call (.Name "Entry" p) [] [] pos) (.en []) := fun A s E a g r => by
  refine wpAny_Call_NameR (name_glob ho g (by rfl : GName (XX prog w T) "Entry" (.ref 59)) hk (by decide) ?_)
  refine callWith_K0 (K := (XX prog w T).K) g.kin (by rfl) ?_
  exact entry_new a g

theorem bn_list : BName (XX prog w T) "list" (.type "list") := ⟨by rfl, by rfl, by decide⟩
theorem bn_filter : BName (XX prog w T) "filter" (.type "filter") := ⟨by rfl, by rfl, by decide⟩
theorem bn_set : BName (XX prog w T) "set" (.type "set") := ⟨by rfl, by rfl, by decide⟩

/-- list(filter(set(a).__contains__, b)), a and b empty -/
theorem ev_filter {p1 p2 p3 p4 pos1 pos2 pos3 : Pos} {e1 e2 : Expr} (ho : EnvOk env) (hk1 : env.kindOf "list" = some .globalImplicit) (hk2 : env.kindOf "filter" = some .globalImplicit) (hk3 : env.kindOf "set" = some .globalImplicit)
    (h2 : Ev (XX prog w T) n env σ e2 (.il [])) (h1 : Ev (XX prog w T) n env σ e1 (.il []))
    (hx1 : starEach [.Call (.Name "filter" p2) [.Attribute (.Call (.Name "set" p3) [e2] [] pos3) "__contains__" p4, e1] [] pos2] env = [(false, eval (.Call (.Name "filter" p2) [.Attribute (.Call (.Name "set" p3) [e2] [] pos3) "__contains__" p4, e1] [] pos2) env)])
    (hx2 : starEach [.Attribute (.Call (.Name "set" p3) [e2] [] pos3) "__contains__" p4, e1] env = [(false, eval (.Attribute (.Call (.Name "set" p3) [e2] [] pos3) "__contains__" p4) env), (false, eval e1 env)]) (hx3 : starEach [e2] env = [(false, eval e2 env)])
    (hbase : ∀ whole, attributeBase (.Call (.Name "set" p3) [e2] [] pos3) "__contains__" env whole = whole) :
    EvF (XX prog w T) (n + 4) env σ (.Call (.Name "list" p1) [.Call (.Name "filter" p2) [.Attribute (.Call (.Name "set" p3) [e2] [] pos3) "__contains__" p4, e1] [] pos2] [] pos1) (.il []) := fun A s E a g r => by
  have a' : AOk n A := a.le (by omega)
  refine wpAny_Call_NameR (name_blt ho g bn_list hk1 (by decide) (PySem.callWith_type (by rw [hx1]; rfl) ?_))
  rw [hx1]
  refine evalArgs_plain (spliced_cons ?_)
  refine wpAny_Call_NameR (name_blt ho g bn_filter hk2 (by decide) (PySem.callWith_type (by rw [hx2]; rfl) ?_))
  rw [hx2]
  refine evalArgs_plain (spliced_cons (Attribute_any_ ?_ (by rw [arm_eval_Attribute, hbase])))
  refine wpAny_Call_NameR (name_blt ho g bn_set hk3 (by decide) (PySem.callWith_type (by rw [hx3]; rfl) ?_))
  rw [hx3]
  refine evalArgs_plain (spliced_cons (wpAny_mono (h2 A s E a' g r) (fun v s1 ⟨k1, fp, hr⟩ => spliced_nil ?_) fun _ _ x => x))
  obtain ⟨b, vs, rfl, hl, hi, rfl⟩ := hr
  refine tok_up (PySem.call_set_list (ns := []) a.hand hl.isList (by simpa using hi) (by have := hi.nil_inv; subst this; decide) fun h' tk hS hk ht => ?_)
  obtain ⟨o, es, ep, t, ho', hex, hd, -⟩ := hS
  have k2 : Kp s1 { s1 with heap := h', toks := tk } := ⟨⟨_, _, rfl⟩, fun c o e => hk c o (Heap.lt_size e) e, ht⟩
  refine sc_attr (a := s1.heap.objs.size) ⟨o, ho', hex.1, hex.2.1, es, ep, t, hd⟩ ?_
  have k3 := (k1.trans k2).trans (Kp.pushT (Kp.refl { s1 with heap := h', toks := tk }) (boundSc s1.heap.objs.size) (t := tk + 1) (Nat.le_succ _))
  refine spliced_cons (wpAny_mono (h1 A _ E a' (g.kp k3) (r.kp k3)) (fun v s2 ⟨k4, fp, hr⟩ => spliced_nil ?_) fun _ _ x => x)
  obtain ⟨c, vs', rfl, hl', hi', rfl⟩ := hr
  have := hi'.nil_inv
  subst this
  have k5 := k3.trans k4
  refine call_fil_2 hl'.isList fun h'' hz hit hsz hkk => ?_
  refine spliced_nil ?_
  have hcl : c < s2.heap.objs.size := plt hl'
  refine tok_up (call_list_fil (b := c) (it := s2.heap.objs.size) a.hand hz hit (hl'.isList.at fun o e => hkk _ o e) (by show @Ne Nat _ _; omega) (Nat.ne_of_lt hcl) fun s' hs hks hpl ht => ?_)
  obtain ⟨h3, t3, rfl⟩ := hs
  obtain ⟨h5, t5, rfl⟩ := k5.same
  refine ⟨⟨⟨_, _, rfl⟩, fun q o e => ?_, Nat.le_trans k5.tok ht⟩, _, ⟨_, [], rfl, hpl, .nil, rfl⟩, fun q hq => ?_⟩
  · have e5 := k5.keep _ _ e
    exact hks q o (Nat.ne_of_lt (Heap.lt_size e5)) (hkk q o e5)
  · rw [List.mem_singleton.mp hq]
    refine k5.fresh (Heap.get?_none_of_le ?_)
    show h5.objs.size ≤ h''.objs.size
    rw [hsz]; exact Nat.le_add_right _ _

/-- x.rulelines.extend(e), x an entry of the call's own -/
theorem ex_extend {x : Str} {px ap1 ap cp ep : Pos} {e : Expr} {l l2 : List Str} (y : St (XX prog w T) s₀ env σ O Z W s) (a : AOk n A) (hm : (x, .en l) ∈ σ) (ho : x ∈ O) (he : EvF (XX prog w T) n env σ e (.sl l2)) (hce : CellsOkN env) (hd : Del x σ σ') (hz : l.length + l2.length ≤ 1000)
    (kk : ∀ s', St (XX prog w T) s₀ env ((x, .en (l ++ l2)) :: σ') O Z W s' → Wp (XX prog w T) A env rest Q E s')
    (hline : (ap.endLine == cp.line) = true) (hbase : ∀ whole, attributeBase (.Attribute (.Name x px) "rulelines" ap1) "extend" env whole = whole) (hbase1 : ∀ whole, attributeBase (.Name x px) "rulelines" env whole = whole) (hx : starEach [e] env = [(false, eval e env)]) (hint : interactive env = false)
    (hsw : swapsWith (.Call (.Attribute (.Attribute (.Name x px) "rulelines" ap1) "extend" ap) [e] [] cp) none ep.line env = pure false)
    (hfew : ((backTo cp (starEach [e] env)).all (fun x => !x.1) && (backToKw cp (keywordEach [] env)).all (fun x => x.1.isSome) && decide ([e].length + ([] : List Keyword).length + (if ([] : List Keyword).isEmpty then 0 else 1) < 30)) = true)
    (hany : (backTo cp (starEach [e] env)).any (·.1) = false) : Wp (XX prog w T) A env (.Expr (.Call (.Attribute (.Attribute (.Name x px) "rulelines" ap1) "extend" ap) [e] [] cp) ep :: rest) Q E s := by
  obtain ⟨v, fp, hv, hr, mutz⟩ := st_mutate y hm ho
  obtain ⟨ax, rfl, dx, ag, b, va, vb, es, m, h1, h2, sk, sl, hab, g1, g2, g3, g4, h3, ⟨vs, h4, hs⟩, rfl⟩ := hr
  refine wpAny_execs_cons (wpAny_Expr ?_ hint hsw)
  refine wpAny_Call_method_lateS (hbase _) hfew hline (Attribute_any_ (name_var y.envOk hv ?_) (by rw [arm_eval_Attribute, hbase1]))
  refine attr_get (K := (XX prog w T).K) (ox := instObj 59 dx) y.gl.kin ⟨h1, rfl, rfl, h2⟩ (by unfold plainGet; rfl) (by rfl) (by rfl : findIn (XX prog w T).K (.ref 59) "rulelines" = some none) rfl g2 rfl ?_
  have k0 : Kp s { s with toks := s.toks + 1 } := Kp.tok1 s
  refine ⟨"list", _, F.plainAttrs_list, F.slot_list_extend, F.type_list_extend, ⟨_, h4, rfl⟩, fun c e => ?_, callWith_builtin hany ?_⟩
  · cases e; exact ⟨_, h4, rfl⟩
  · rw [hx]
    refine evalArgs_plain (spliced_cons (wpAny_mono (he A _ E a (y.gl.kp k0) (y.rel.kp k0)) (fun u s1 ⟨k1, fpu, ru, fu⟩ => spliced_nil ?_) fun _ _ x => x))
    obtain ⟨c, ws, rfl, ⟨nn, hl2⟩, hi2, rfl⟩ := ru
    have k := k0.trans k1
    have hb1 := k.keep _ _ h4
    have hcb : c ≠ b := fun q => by have := fu c (by simp); rw [q] at this; rw [show s.heap.get? b = none from this] at h4; cases h4
    refine call_meets F.slot_list_extend ⟨_, hb1, rfl⟩ F.entry_list_extend (F.args_list_extend_2 _ _) (AutoSeq1.list_extend_list_list_0 b vs.toArray vb c ws.toArray nn ?_ ?_ ?_) ⟨hb1, hl2, ?_⟩
    · have : Builtin.List.listTooLong (vs.toArray.size + ws.toArray.size) = false := by
        unfold Builtin.List.listTooLong; rw [sizeLine_eq]; simp [hs.length, hi2.length]; omega
      rw [this]; simp
    · rw [sizeLine_eq]; simp [hs.length]; omega
    · rw [sizeLine_eq]; simp [hs.length, hi2.length]; omega
    · refine kk _ ?_
      have xb : ax ≠ b := fun q => by rw [q, h4] at h1; cases h1
      have db : dx ≠ b := fun q => by rw [q, h4] at h2; exact absurd (congrArg Obj.cls (Option.some.inj h2)) (show ¬ (Value.type "list" = Value.type "dict") by decide)
      have hsm : Heap.SameBut b s1.heap (s1.heap.update b (Obj.mapSeq fun x => x ++ ws.toArray)) := Heap.SameBut.update ..
      have hpl : (s1.heap.update b (Obj.mapSeq fun x => x ++ ws.toArray)).PlainList b (List.toArray (vs ++ ws)) := by
        have := IsL.update hb1 (fun x => x ++ ws.toArray)
        rw [← List.append_toArray]
        exact ⟨_, this⟩
      obtain ⟨vb', hb2⟩ := hpl
      have hfin : Rep 59 (s1.heap.update b (Obj.mapSeq fun x => x ++ ws.toArray)) (.ref ax) (.en (l ++ l2)) [ax, dx, ag, b] :=
        ⟨ax, rfl, dx, ag, b, va, vb', es, m, hsm.extBut _ _ xb (k.keep _ _ h1), hsm.extBut _ _ db (k.keep _ _ h2), sk, sl, hab, g1, g2, g3, g4, hsm.extBut _ _ hab (k.keep _ _ h3), ⟨vs ++ ws, hb2, hs.append' hi2⟩, rfl⟩
      obtain ⟨hh, tt, rfl⟩ := k.same
      exact mutz _ b _ tt [ax, dx, ag, b] _ k (by simp) hsm hfin (fun c hc => .inl hc) hce (Nat.le_refl _) hd
end W40
end
section
open PySem PySem.W PyProof.Rows
set_option Elab.async false
set_option maxRecDepth 20000
set_option linter.unusedVariables false
set_option linter.unusedSimpArgs false
set_option pp.deepTerms false
set_option pp.deepTerms.threshold 4
namespace W40
open PySem PySem.W PyProof.Rows PySem.Calls
variable {prog : Program} {w : World} {T : Nat} {n : Nat}

theorem fn_merge {l1 l2 : List Str} (hz : l1.length + l2.length ≤ 1000) : FnOk (XX prog w T) (n + 7) 89 [.en l1, .en l2] (.en (l1 ++ l2)) := by
  refine fn_ok (ps := ["e1", "e2"]) [("e1", .en l1), ("e2", .en l2)] rfl rfl rfl rfl rfl rfl (fun | [_, _], _ => rfl) (by decide) (by decide) rfl (by intro L p hp; simp only [List.mem_cons, List.not_mem_nil, or_false] at hp; rcases hp with rfl | rfl | rfl | rfl | rfl <;> first | exact .inl rfl | exact .inr ⟨rfl, rfl⟩) (fun _ => rfl) (by decide) rfl rfl rfl rfl rfl ?_
  intro A s₀ L s₁ ha hce y
  have ho := y.envOk
  refine ex_assign y ha (ev_entry ho rfl) ⟨rfl, .inl rfl⟩ hce (by repeat (first | exact Del.nil | (apply Del.skip; · rfl) | (apply Del.k; · decide))) (O' := ["entry"]) (by decide) fun s₂ y => ?_
  refine ex_setattr .agents y ha (by repeat (first | exact List.Mem.head _ | apply List.Mem.tail)) (by decide) (ev_filter (n := n + 2) ho rfl rfl rfl (ev_attr (ev_name ho (by repeat (first | exact List.Mem.head _ | apply List.Mem.tail))) f_agents (fun _ => rfl) (by rfl)) (ev_attr (ev_name ho (by repeat (first | exact List.Mem.head _ | apply List.Mem.tail))) f_agents (fun _ => rfl) (by rfl)) rfl rfl rfl (fun _ => rfl)) hce (by repeat (first | exact Del.nil | (apply Del.skip; · rfl) | (apply Del.k; · decide))) (by rfl) fun s₃ y => ?_
  refine ex_setattr (.rules (l' := l1 ++ l2)) y ha (by repeat (first | exact List.Mem.head _ | apply List.Mem.tail)) (by decide) (ev_bin (ev_attr (ev_name ho (by repeat (first | exact List.Mem.head _ | apply List.Mem.tail))) f_rules (fun _ => rfl) (by rfl)) (ev_attr (ev_name ho (by repeat (first | exact List.Mem.head _ | apply List.Mem.tail))) f_rules (fun _ => rfl) (by rfl)) (op_add_strs (by rw [sizeLine_eq]; omega))) hce (by repeat (first | exact Del.nil | (apply Del.skip; · rfl) | (apply Del.k; · decide))) (by rfl) fun s₄ y => ?_
  refine ex_setattr .delay y ha (by repeat (first | exact List.Mem.head _ | apply List.Mem.tail)) (by decide) ((ev_ife (b := true) (cn_cmp (ev_attr (ev_name ho (by repeat (first | exact List.Mem.head _ | apply List.Mem.tail))) f_delay (fun _ => rfl) (by rfl)) ev_none.ev cmp_none rfl) (fun _ => ev_attr (ev_name ho (by repeat (first | exact List.Mem.head _ | apply List.Mem.tail))) f_delay (fun _ => rfl) (by rfl)) (fun h => nomatch h)).evF rfl) hce (by repeat (first | exact Del.nil | (apply Del.skip; · rfl) | (apply Del.k; · decide))) (by rfl) fun s₅ y => ?_
  refine ex_setattr .rate y ha (by repeat (first | exact List.Mem.head _ | apply List.Mem.tail)) (by decide) ((ev_ife (b := true) (cn_cmp (ev_attr (ev_name ho (by repeat (first | exact List.Mem.head _ | apply List.Mem.tail))) f_rate (fun _ => rfl) (by rfl)) ev_none.ev cmp_none rfl) (fun _ => ev_attr (ev_name ho (by repeat (first | exact List.Mem.head _ | apply List.Mem.tail))) f_rate (fun _ => rfl) (by rfl)) (fun h => nomatch h)).evF rfl) hce (by repeat (first | exact Del.nil | (apply Del.skip; · rfl) | (apply Del.k; · decide))) (by rfl) fun s₆ y => ?_
  exact ex_return_own y (by repeat (first | exact List.Mem.head _ | apply List.Mem.tail)) (by decide) fun v s' hp => ⟨v, rfl, hp⟩

theorem fn_record {path t : List Nat} {xs : List (List Nat)} (hN : xs.length ≤ 1000) (hp : FnOk (XX prog w T) (n + 11) 82 [.str (S path)] (.str (S t))) (hc : FnOk (XX prog w T) (n + 11) 117 [.str (S t)] (.sl (xs.map S))) :
    FnOk (XX prog w T) (n + 12) 124 [.str (S path)] (.en (xs.map S)) := by
  refine fn_ok (ps := ["path"]) [("path", .str (S path))] rfl rfl rfl rfl rfl rfl (fun | [_], _ => rfl) (by decide) (by decide) rfl (by intro L p hp; simp only [List.mem_cons, List.not_mem_nil, or_false] at hp; rcases hp with rfl | rfl | rfl | rfl | rfl <;> first | exact .inl rfl | exact .inr ⟨rfl, rfl⟩) (fun _ => rfl) (by decide) rfl rfl rfl rfl rfl ?_
  intro A s₀ L s₁ ha hce y
  have ho := y.envOk
  refine ex_assign y ha (ev_entry (n := n + 5) ho rfl) ⟨rfl, .inl rfl⟩ hce (by repeat (first | exact Del.nil | (apply Del.skip; · rfl) | (apply Del.k; · decide))) (O' := ["record"]) (by decide) fun s₂ y => ?_
  refine ex_extend y ha (by repeat (first | exact List.Mem.head _ | apply List.Mem.tail)) (by decide) (ev_call ho (by rfl : GName (XX prog w T) "_law_pieces" (.ref 117)) rfl rfl ⟨_, _, rfl, rfl⟩ (evs_cons (ev_call ho (by rfl : GName (XX prog w T) "translate_pattern" (.ref 82)) rfl rfl ⟨_, _, rfl, rfl⟩ (evs_cons (ev_name ho (by repeat (first | exact List.Mem.head _ | apply List.Mem.tail))) evs_nil) hp).ev evs_nil) hc) hce (by repeat (first | exact Del.nil | (apply Del.skip; · rfl) | (apply Del.k; · decide))) (by rw [List.length_map]; simpa using hN) (fun s₃ y => ?_) rfl (fun _ => rfl) (fun _ => rfl) rfl rfl rfl rfl rfl
  exact ex_return_own y (by repeat (first | exact List.Mem.head _ | apply List.Mem.tail)) (by decide) fun v s' hp => ⟨v, rfl, hp⟩
end W40
end
section
set_option linter.unusedVariables false
set_option linter.unusedSimpArgs false
namespace W40
theorem bm_hit {p : List Nat} {n k : Nat} (h : isB p n k = true) : bm p n (k + 1) = k := by unfold bm; rw [if_pos h]
theorem bm_miss {p : List Nat} {n k : Nat} (h : isB p n k = false) : bm p n (k + 1) = bm p n k := by rw [bm, if_neg (by rw [h]; decide)]
theorem bm_nest {p : List Nat} {n k : Nat} (hk : k ≤ n) (hn : n ≤ p.length) (h : isB p n k = true) : ∀ {m : Nat}, m ≤ k → bm p n m = bm p k m
  | 0, _ => rfl
  | m + 1, hm => by
    have e : isB p n m = isB p k m := by
      have := isB_nest (show m ≤ k by omega) hk hn h
      cases h1 : isB p n m <;> cases h2 : isB p k m <;> simp_all
    unfold bm
    rw [e, bm_nest hk hn h (show m ≤ k by omega)]
theorem bm_eq {p : List Nat} {n k : Nat} (hk : 0 < k) : isB p n k = decide (k = bm p n (k + 1)) := by
  cases h : isB p n k with
  | true => rw [bm_hit h]; simp
  | false =>
    rw [bm_miss h]
    have := (bm_is (p := p) (n := n) hk).2
    simp; omega

def strip (l : List Nat) : List Nat := l.filter (· != 92)
def stepsTo (p : List Nat) (letters : Int) (i : Nat) : List Int := ((List.range i).filter fun t => isB p p.length (p.length - 1 - t)).map fun t => letters - ((strip (p.take (p.length - 1 - t))).length : Int)
def stepsOf (p : List Nat) (letters : Int) : List Int := stepsTo p letters (p.length - 1)
theorem stepsTo_succ (p : List Nat) (letters : Int) (i : Nat) : stepsTo p letters (i + 1) = stepsTo p letters i ++ (if isB p p.length (p.length - 1 - i) then [letters - ((strip (p.take (p.length - 1 - i))).length : Int)] else []) := by
  unfold stepsTo
  rw [List.range_succ, List.filter_append, List.map_append]
  congr 1
  by_cases h : isB p p.length (p.length - 1 - i) = true
  · simp [h]
  · simp [h]
theorem stepsTo_len (p : List Nat) (letters : Int) (i : Nat) : (stepsTo p letters i).length ≤ i := by
  unfold stepsTo
  rw [List.length_map]
  exact Nat.le_trans (List.length_filter_le _ _) (by simp)

def cntF (letters : Int) (F : List Int) (size : Int) : Int := if letters ≤ size then F.getD (size - letters).toNat 0 else 0
def cntS (E : List Int) (size : Int) (c s : Int) : Int := if s ≤ size then c - E.getD (size - s).toNat 0 else c
def cntTo (steps : List Int) (letters : Int) (F E : List Int) (size : Int) (j : Nat) : Int := (steps.take j).foldl (cntS E size) (cntF letters F size)
def cnt (steps : List Int) (letters : Int) (F E : List Int) (size : Int) : Int := steps.foldl (cntS E size) (cntF letters F size)
def go (steps : List Int) (letters kinds : Int) : Nat → List Int × List Int
  | 0 => ([1], [0])
  | t + 1 => ((go steps letters kinds t).1 ++ [kinds * (go steps letters kinds t).1.getD t 0 - cnt steps letters (go steps letters kinds t).1 (go steps letters kinds t).2 ((t + 1 : Nat) : Int)],
      (go steps letters kinds t).2 ++ [cnt steps letters (go steps letters kinds t).1 (go steps letters kinds t).2 ((t + 1 : Nat) : Int)])
theorem go_len (steps : List Int) (letters kinds : Int) : ∀ t, (go steps letters kinds t).1.length = t + 1 ∧ (go steps letters kinds t).2.length = t + 1
  | 0 => ⟨rfl, rfl⟩
  | t + 1 => by
    obtain ⟨h1, h2⟩ := go_len steps letters kinds t
    rw [go]; simp [h1, h2]
theorem cntTo_succ {steps : List Int} {letters : Int} {F E : List Int} {size : Int} {j : Nat} (h : j < steps.length) : cntTo steps letters F E size (j + 1) = cntS E size (cntTo steps letters F E size j) (steps.getD j 0) := by
  unfold cntTo
  rw [List.take_add_one, List.getElem?_eq_getElem h, List.getD_eq_getElem?_getD, List.getElem?_eq_getElem h, Option.toList_some, List.foldl_append]
  rfl
theorem cntTo_all (steps : List Int) (letters : Int) (F E : List Int) (size : Int) : cntTo steps letters F E size steps.length = cnt steps letters F E size := by
  unfold cntTo cnt; rw [List.take_length]
end W40
end
section
open PySem PySem.W PyProof.Rows
set_option Elab.async false
set_option maxRecDepth 20000
set_option linter.unusedVariables false
set_option linter.unusedSimpArgs false
set_option pp.deepTerms false
set_option pp.deepTerms.threshold 4
namespace W40
open PySem PySem.W PyProof.Rows PySem.Calls
section
variable {X : Cx} {n : Nat} {env : Env} {σ : List (Str × D)}
/-- x.replace('\\\\', '') -/
theorem ev_strike (hT : 1 ≤ X.T) {o : Expr} {x : List Nat} {y z : Str} {k1' k2' : Nat} {q1 q2 apos pos : Pos} (h0 : Ev X n env σ o (.str (S x))) (hy : y = S [92]) (hz : z = S []) (hl : x.length ≤ 1000000)
    (hbase : ∀ whole, attributeBase o "replace" env whole = whole) (hline : (apos.endLine == pos.line) = true)
    (hx : starEach [.Constant (.str y) k1' q1, .Constant (.str z) k2' q2] env = [(false, eval (.Constant (.str y) k1' q1) env), (false, eval (.Constant (.str z) k2' q2) env)])
    (hfew : ((backTo pos (starEach [.Constant (.str y) k1' q1, .Constant (.str z) k2' q2] env)).all (fun x => !x.1) && (backToKw pos (keywordEach [] env)).all (fun x => x.1.isSome) && decide ([Expr.Constant (.str y) k1' q1, .Constant (.str z) k2' q2].length + ([] : List Keyword).length + (if ([] : List Keyword).isEmpty then 0 else 1) < 30)) = true)
    (hany : (backTo pos (starEach [.Constant (.str y) k1' q1, .Constant (.str z) k2' q2] env)).any (·.1) = false) : EvF X n env σ (.Call (.Attribute o "replace" apos) [.Constant (.str y) k1' q1, .Constant (.str z) k2' q2] [] pos) (.str (S (strip x))) := fun A s E a g r => by
  subst hy hz
  refine tok_up (wpAny_Call_method_lateS (hbase _) hfew hline (wpAny_mono (h0 A s E a g r) (fun v s1 ⟨k1, fp, ⟨t, hv⟩, _⟩ => ?_) fun _ _ x => x))
  subst hv
  refine ⟨"str", _, F.plainAttrs_str, F.slot_str_replace, F.type_str_replace, rfl, (fun a e => nomatch e), callWith_builtin hany ?_⟩
  rw [hx]
  have ht := Nat.le_trans hT (g.kp k1).tok
  refine evalArgs_plain (spliced_cons (wpAny_Constant_str (k := k1') (pos := q1) (spliced_cons (wpAny_Constant_str (k := k2') (pos := q2) (spliced_nil ?_)))))
  refine SC.replace (by show @Ne Nat _ _; omega) (by show @Ne Nat _ _; exact Nat.succ_ne_zero _) (by show @Ne Nat _ _; exact (Nat.succ_ne_self _).symm) (by rfl) (by simp [Str.length]; omega) fun t' k ht => ?_
  rw [strike_S]
  obtain ⟨h1, t1, rfl⟩ := k1.same
  exact PostF.flatV ⟨⟨_, _, rfl⟩, k1.keep, ht⟩ ⟨⟨_, rfl⟩, rfl⟩
end
variable {prog : Program} {w : World} {T : Nat} {n : Nat}

theorem strip_len (l : List Nat) : (strip l).length ≤ l.length := List.length_filter_le _ _

theorem fn_first {p : List Nat} {letters kinds top : Nat} (hp : 0 < p.length) (hz : p.length ≤ 100) (hl : 1 ≤ letters) (hk : kinds ≤ 100000) (htop : top ≤ 1000) (hst : ∀ s ∈ stepsOf p letters, 1 ≤ s) :
    FnOk (XX prog w (T + 1)) (n + 2) 136 [.str (S p), .int letters, .int kinds, .int top] (.il (go (stepsOf p letters) letters kinds top).2) := by
  refine fn_ok (ps := ["piece", "letters", "kinds", "top"]) [("piece", .str (S p)), ("letters", .int letters), ("kinds", .int kinds), ("top", .int top)] rfl rfl rfl rfl rfl rfl (fun | [_, _, _, _], _ => rfl) (by decide) (by decide) rfl (by intro L p hp; simp only [List.mem_cons, List.not_mem_nil, or_false] at hp; rcases hp with rfl | rfl | rfl | rfl | rfl <;> first | exact .inl rfl | exact .inr ⟨rfl, rfl⟩) (fun _ => rfl) (by decide) rfl rfl rfl rfl rfl ?_
  intro A s₀ L s₁ ha hce y
  have ho := y.envOk
  have hps : p.length ≤ sizeLine := by rw [sizeLine_eq]; omega
  refine ex_assign y ha (ev_call ho (by rfl : GName (XX prog w (T + 1)) "_generate_overlap_table" (.ref 96)) rfl rfl ⟨_, _, rfl, rfl⟩ (evs_cons (ev_name ho (by repeat (first | exact List.Mem.head _ | apply List.Mem.tail))) evs_nil) (fn_table (by omega))) ⟨rfl, .inl rfl⟩ hce (by repeat (first | exact Del.nil | (apply Del.skip; · rfl) | (apply Del.k; · decide))) (O' := []) (by decide) fun s₂ y => ?_
  have hlast : (table p).getLast? = some ((bmax p p.length : Nat) : Int) := by
    unfold table
    rw [List.getLast?_eq_getElem?, List.length_map, List.length_range, List.getElem?_map, List.getElem?_range (by omega)]
    simp [show p.length - 1 + 1 = p.length by omega]
  refine ex_assign y ha (ev_sub (ev_name ho (by repeat (first | exact List.Mem.head _ | apply List.Mem.tail))) (ev_neg ev_int.ev).ev (get_ints_last hlast) (fun _ _ => rfl)) ⟨rfl, .inl rfl⟩ hce (by repeat (first | exact Del.nil | (apply Del.skip; · rfl) | (apply Del.k; · decide))) (O' := []) (by decide) fun s₃ y => ?_
  refine ex_assign y ha (ev_list_ints (l := []) evs_nil (Nat.zero_le _)) ⟨rfl, .inl rfl⟩ hce (by repeat (first | exact Del.nil | (apply Del.skip; · rfl) | (apply Del.k; · decide))) (O' := ["steps"]) (by decide) fun s₄ y => ?_
  refine ex_for y ha hce (src_dn (N := p.length - 1) (rng3 (by decide) (by decide) ho bn_range rfl (evs_cons (ev_bin (ev_blt ho bn_len rfl rfl (evs_cons (ev_name ho (by repeat (first | exact List.Mem.head _ | apply List.Mem.tail))) evs_nil) (bl_len_str (by rw [S_len]; exact hps))).ev ev_int.ev op_sub).ev (evs_cons ev_int.ev (evs_cons (ev_neg ev_int.ev).ev evs_nil)))) (by rw [S_len]; omega))
    (sg := fun i => [("steps", .il (stepsTo p letters i)), ("border", .int ((bm p p.length (p.length - i) : Nat) : Int)), ("table", .il (table p)), ("piece", .str (S p)), ("letters", .int letters), ("kinds", .int kinds), ("top", .int top)]) (add := fun i => [("k", .int (((S p).length : Int) - 1 - (i : Int)))]) (O' := ["steps"]) (SubL.all (by repeat (first | exact SubL.nil | refine SubL.cons (by repeat (first | exact List.Mem.head _ | apply List.Mem.tail)) ?_))) (by decide) (fun i hi => asg_name ⟨rfl, .inl rfl⟩ hce rfl (NoN.all (by repeat (first | exact NoN.nil | refine NoN.c (by decide) ?_)))) (fun i hi Z' W' E' s' y => ?_) fun s₅ y => ?_
  · have hkv : ((S p).length : Int) - 1 - (i : Int) = ((p.length - 1 - i : Nat) : Int) := by rw [S_len]; omega
    have hk1 : p.length - i = (p.length - 1 - i) + 1 := by omega
    have hb := bm_eq (p := p) (n := p.length) (k := p.length - 1 - i) (by omega)
    refine ex_if_join [("steps", .il (stepsTo p letters (i + 1))), ("border", .int ((bm p p.length (p.length - (i + 1)) : Nat) : Int)), ("table", .il (table p)), ("piece", .str (S p)), ("letters", .int letters), ("kinds", .int kinds), ("top", .int top)] ["steps"]
      y ha (cn_cmp (ev_name ho (by repeat (first | exact List.Mem.head _ | apply List.Mem.tail))) (ev_name ho (by repeat (first | exact List.Mem.head _ | apply List.Mem.tail))) cmp_eq rfl) (fun h E₁ s₆ y => ?_) (fun h E₁ s₆ y => ?_) fun s₆ y => ex_nil (y.sub (SubL.all (by repeat (first | exact SubL.nil | refine SubL.cons (by repeat (first | exact List.Mem.head _ | apply List.Mem.tail)) ?_))) (by decide))
    · have h := of_decide_eq_true h
      rw [hkv, hk1] at h
      have his : isB p p.length (p.length - 1 - i) = true := by rw [hb]; exact decide_eq_true (by omega)
      rw [hkv] at y
      refine ex_append (dv := .int (letters - ((strip (p.take (p.length - 1 - i))).length : Int))) y ha (by repeat (first | exact List.Mem.head _ | apply List.Mem.tail)) (by decide) ?_ hce (by repeat (first | exact Del.nil | (apply Del.skip; · rfl) | (apply Del.k; · decide))) (ap_int ?_) (fun s₇ y => ?_) rfl
      · refine ev_bin (ev_name ho (by repeat (first | exact List.Mem.head _ | apply List.Mem.tail))) ((ev_blt ho bn_len rfl rfl (evs_cons (ev_strike (Nat.le_add_left 1 T) ((ev_upto (ev_name ho (by repeat (first | exact List.Mem.head _ | apply List.Mem.tail))) (ev_name ho (by repeat (first | exact List.Mem.head _ | apply List.Mem.tail))) (by omega) (by omega) hps).ev.eq (by rw [Int.toNat_natCast])) (by rfl) (by rfl) (by rw [List.length_take]; omega) (fun _ => rfl) rfl rfl rfl rfl).ev evs_nil) (bl_len_str ?_)).ev.eq (by rw [S_len])) op_sub
        have := strip_len (p.take (p.length - 1 - i))
        rw [List.length_take] at this
        rw [S_len, sizeLine_eq]; omega
      · have := stepsTo_len p letters i
        rw [sizeLine_eq]; omega
      · refine ex_assign y ha (ev_sub (d := .int ((bmax p (p.length - 1 - i) : Nat) : Int)) (ev_name ho (by repeat (first | exact List.Mem.head _ | apply List.Mem.tail))) (ev_bin (ev_name ho (by repeat (first | exact List.Mem.head _ | apply List.Mem.tail))) ev_int.ev op_sub).ev (get_ints (by omega) (by omega) ?_) (fun _ _ => rfl)) ⟨rfl, .inl rfl⟩ hce (by repeat (first | exact Del.nil | (apply Del.skip; · rfl) | (apply Del.k; · decide))) (O' := ["steps"]) (by decide) fun s₈ y => ex_nil ⟨rfl, ?_⟩
        · unfold table
          rw [List.getElem?_map, List.getElem?_range (by omega)]
          simp [show ((p.length - 1 - i : Nat) : Int) - 1 = ((p.length - 1 - i - 1 : Nat) : Int) by omega, show p.length - 1 - i - 1 + 1 = p.length - 1 - i by omega]
        · have e1 : stepsTo p letters i ++ [letters - ((strip (p.take (p.length - 1 - i))).length : Int)] = stepsTo p letters (i + 1) := by rw [stepsTo_succ, if_pos his]
          have e2 : bmax p (p.length - 1 - i) = bm p p.length (p.length - (i + 1)) := by
            rw [show p.length - (i + 1) = p.length - 1 - i by omega, bm_nest (by omega) (Nat.le_refl _) his (Nat.le_refl _)]; rfl
          rw [e1, e2] at y
          exact y.sub (SubL.all (by repeat (first | exact SubL.nil | refine SubL.cons (by repeat (first | exact List.Mem.head _ | apply List.Mem.tail)) ?_))) (by decide)
    · have h := of_decide_eq_false h
      rw [hkv, hk1] at h
      have his : isB p p.length (p.length - 1 - i) = false := by rw [hb]; exact decide_eq_false (by omega)
      have e1 : stepsTo p letters (i + 1) = stepsTo p letters i := by rw [stepsTo_succ, if_neg (by rw [his]; decide), List.append_nil]
      have e2 : bm p p.length (p.length - (i + 1)) = bm p p.length (p.length - i) := by
        rw [hk1, bm_miss his]; congr 1; omega
      refine ex_nil ⟨rfl, ?_⟩
      rw [e1, e2]
      exact y.sub (SubL.all (by repeat (first | exact SubL.nil | refine SubL.cons (by repeat (first | exact List.Mem.head _ | apply List.Mem.tail)) ?_))) (by decide)
  · refine ex_assign y ha (ev_list_ints (l := [1]) (evs_cons ev_int.ev evs_nil) (by decide)) ⟨rfl, .inl rfl⟩ hce (by repeat (first | exact Del.nil | (apply Del.skip; · rfl) | (apply Del.k; · decide))) (O' := ["free"]) (by decide) fun s₆ y => ?_
    refine ex_assign y ha (ev_list_ints (l := [0]) (evs_cons ev_int.ev evs_nil) (by decide)) ⟨rfl, .inl rfl⟩ hce (by repeat (first | exact Del.nil | (apply Del.skip; · rfl) | (apply Del.k; · decide))) (O' := ["ended", "free"]) (by decide) fun s₇ y => ?_
    have hsl : (stepsOf p letters).length ≤ p.length := Nat.le_trans (stepsTo_len p letters _) (Nat.sub_le _ _)
    refine ex_for y ha hce (src_to (N := top) (rng2 ho bn_range rfl (evs_cons ev_int.ev (evs_cons (ev_bin (ev_name ho (by repeat (first | exact List.Mem.head _ | apply List.Mem.tail))) ev_int.ev op_add).ev evs_nil))) (by omega))
      (sg := fun t => [("free", .il (go (stepsOf p letters) letters kinds t).1), ("ended", .il (go (stepsOf p letters) letters kinds t).2), ("steps", .il (stepsOf p letters)), ("letters", .int letters), ("kinds", .int kinds)]) (add := fun i => [("size", .int (1 + (i : Int)))]) (O' := ["free", "ended"]) (SubL.all (by repeat (first | exact SubL.nil | refine SubL.cons (by repeat (first | exact List.Mem.head _ | apply List.Mem.tail)) ?_))) (by decide) (fun i hi => asg_name ⟨rfl, .inl rfl⟩ hce rfl (NoN.all (by repeat (first | exact NoN.nil | refine NoN.c (by decide) ?_)))) (fun t hi Z' W' E' s' y => ?_) fun s₈ y => ?_
    · obtain ⟨l1, l2⟩ := go_len (stepsOf p letters) letters kinds t
      have hgo : go (stepsOf p letters) letters kinds (t + 1) = ((go (stepsOf p letters) letters kinds t).1 ++ [kinds * (go (stepsOf p letters) letters kinds t).1.getD t 0 - cnt (stepsOf p letters) letters (go (stepsOf p letters) letters kinds t).1 (go (stepsOf p letters) letters kinds t).2 (1 + (t : Int))], (go (stepsOf p letters) letters kinds t).2 ++ [cnt (stepsOf p letters) letters (go (stepsOf p letters) letters kinds t).1 (go (stepsOf p letters) letters kinds t).2 (1 + (t : Int))]) := by
        rw [go, show ((t + 1 : Nat) : Int) = 1 + (t : Int) by omega]
      rw [hgo]
      generalize hF : (go (stepsOf p letters) letters kinds t).1 = F at *
      generalize hE : (go (stepsOf p letters) letters kinds t).2 = En at *
      refine ex_assign y ha ev_int ⟨rfl, .inl rfl⟩ hce (by repeat (first | exact Del.nil | (apply Del.skip; · rfl) | (apply Del.k; · decide))) (O' := ["free", "ended"]) (by decide) fun s₉ y => ?_
      refine ex_if_join [("count", .int (cntF letters F (1 + (t : Int)))), ("size", .int (1 + (t : Int))), ("free", .il F), ("ended", .il En), ("steps", .il (stepsOf p letters)), ("letters", .int letters), ("kinds", .int kinds)] ["free", "ended"]
        y ha (cn_cmp (ev_name ho (by repeat (first | exact List.Mem.head _ | apply List.Mem.tail))) (ev_name ho (by repeat (first | exact List.Mem.head _ | apply List.Mem.tail))) cmp_ge rfl) (fun h E₁ s₆ y => ?_) (fun h E₁ s₆ y => ?_) fun s₆ y => ?_
      · have h := of_decide_eq_true h
        refine ex_assign y ha (ev_sub (d := .int (F.getD ((1 + (t : Int)) - letters).toNat 0)) (ev_name ho (by repeat (first | exact List.Mem.head _ | apply List.Mem.tail))) (ev_bin (ev_name ho (by repeat (first | exact List.Mem.head _ | apply List.Mem.tail))) (ev_name ho (by repeat (first | exact List.Mem.head _ | apply List.Mem.tail))) op_sub).ev (get_ints (by omega) (by omega) (getD_at (by omega))) (fun _ _ => rfl)) ⟨rfl, .inl rfl⟩ hce (by repeat (first | exact Del.nil | (apply Del.skip; · rfl) | (apply Del.k; · decide))) (O' := ["free", "ended"]) (by decide) fun s₉ y => ex_nil ⟨rfl, ?_⟩
        unfold cntF
        rw [if_pos h]
        exact y.sub (SubL.all (by repeat (first | exact SubL.nil | refine SubL.cons (by repeat (first | exact List.Mem.head _ | apply List.Mem.tail)) ?_))) (by decide)
      · have h := of_decide_eq_false h
        refine ex_nil ⟨rfl, ?_⟩
        unfold cntF
        rw [if_neg h]
        exact y.sub (SubL.all (by repeat (first | exact SubL.nil | refine SubL.cons (by repeat (first | exact List.Mem.head _ | apply List.Mem.tail)) ?_))) (by decide)
      refine ex_for_name y ha hce (d := .il (stepsOf p letters)) (item := fun j => .int ((stepsOf p letters).getD j 0)) (by repeat (first | exact List.Mem.head _ | apply List.Mem.tail)) (by decide) (src_ints ha.hand)
        (sg := fun j => [("count", .int (cntTo (stepsOf p letters) letters F En (1 + (t : Int)) j)), ("size", .int (1 + (t : Int))), ("free", .il F), ("ended", .il En), ("steps", .il (stepsOf p letters)), ("letters", .int letters), ("kinds", .int kinds)]) (add := fun j => [("step", .int ((stepsOf p letters).getD j 0))]) (O' := ["free", "ended"]) (SubL.all (by repeat (first | exact SubL.nil | refine SubL.cons (by repeat (first | exact List.Mem.head _ | apply List.Mem.tail)) ?_))) (by decide) (fun i hi => asg_name ⟨rfl, .inl rfl⟩ hce rfl (NoN.all (by repeat (first | exact NoN.nil | refine NoN.c (by decide) ?_)))) (fun j hj Z' W' E' s' y => ?_) fun s₉ y => ?_
      · have hs1 : 1 ≤ (stepsOf p letters).getD j 0 := hst _ (List.mem_of_getElem? (getD_at hj))
        refine ex_if_join [("count", .int (cntTo (stepsOf p letters) letters F En (1 + (t : Int)) (j + 1))), ("size", .int (1 + (t : Int))), ("free", .il F), ("ended", .il En), ("steps", .il (stepsOf p letters)), ("letters", .int letters), ("kinds", .int kinds)] ["free", "ended"]
          y ha (cn_cmp (ev_name ho (by repeat (first | exact List.Mem.head _ | apply List.Mem.tail))) (ev_name ho (by repeat (first | exact List.Mem.head _ | apply List.Mem.tail))) cmp_ge rfl) (fun h E₁ s₆ y => ?_) (fun h E₁ s₆ y => ?_) fun s₆ y => ex_nil (y.sub (SubL.all (by repeat (first | exact SubL.nil | refine SubL.cons (by repeat (first | exact List.Mem.head _ | apply List.Mem.tail)) ?_))) (by decide))
        · have h := of_decide_eq_true h
          refine ex_aug y ha (by repeat (first | exact List.Mem.head _ | apply List.Mem.tail)) (ev_sub (d := .int (En.getD ((1 + (t : Int)) - (stepsOf p letters).getD j 0).toNat 0)) (ev_name ho (by repeat (first | exact List.Mem.head _ | apply List.Mem.tail))) (ev_bin (ev_name ho (by repeat (first | exact List.Mem.head _ | apply List.Mem.tail))) (ev_name ho (by repeat (first | exact List.Mem.head _ | apply List.Mem.tail))) op_sub).ev (get_ints (by omega) (by omega) (getD_at (by omega))) (fun _ _ => rfl)).ev in_sub ⟨rfl, .inl rfl⟩ hce (by repeat (first | exact Del.nil | (apply Del.skip; · rfl) | (apply Del.k; · decide))) (O' := ["free", "ended"]) (by decide) fun s₉ y => ex_nil ⟨rfl, ?_⟩
          rw [cntTo_succ hj]
          unfold cntS
          rw [if_pos h]
          exact y.sub (SubL.all (by repeat (first | exact SubL.nil | refine SubL.cons (by repeat (first | exact List.Mem.head _ | apply List.Mem.tail)) ?_))) (by decide)
        · have h := of_decide_eq_false h
          refine ex_nil ⟨rfl, ?_⟩
          rw [cntTo_succ hj]
          unfold cntS
          rw [if_neg h]
          exact y.sub (SubL.all (by repeat (first | exact SubL.nil | refine SubL.cons (by repeat (first | exact List.Mem.head _ | apply List.Mem.tail)) ?_))) (by decide)
      · rw [cntTo_all] at y
        have hz1 : ∀ q : List Int, q.length = t + 1 → q.length ≤ sizeLine := fun q hq => by rw [sizeLine_eq]; omega
        refine ex_append (dv := .int (cnt (stepsOf p letters) letters F En (1 + (t : Int)))) y ha (by repeat (first | exact List.Mem.head _ | apply List.Mem.tail)) (by decide) ((ev_name ho (by repeat (first | exact List.Mem.head _ | apply List.Mem.tail))).evF rfl) hce (by repeat (first | exact Del.nil | (apply Del.skip; · rfl) | (apply Del.k; · decide))) (ap_int (hz1 _ l2)) (fun s₉ y => ?_) rfl
        refine ex_append (dv := .int (kinds * F.getD t 0 - cnt (stepsOf p letters) letters F En (1 + (t : Int)))) y ha (by repeat (first | exact List.Mem.head _ | apply List.Mem.tail)) (by decide) ?_ hce (by repeat (first | exact Del.nil | (apply Del.skip; · rfl) | (apply Del.k; · decide))) (ap_int (hz1 _ l1)) (fun s₉ y => ex_nil (y.sub (SubL.all (by repeat (first | exact SubL.nil | refine SubL.cons (by repeat (first | exact List.Mem.head _ | apply List.Mem.tail)) ?_))) (by decide))) rfl
        refine ev_bin (ev_bin (ev_name ho (by repeat (first | exact List.Mem.head _ | apply List.Mem.tail))) (ev_sub (d := .int (F.getD t 0)) (ev_name ho (by repeat (first | exact List.Mem.head _ | apply List.Mem.tail))) (ev_bin (ev_name ho (by repeat (first | exact List.Mem.head _ | apply List.Mem.tail))) ev_int.ev op_sub).ev (get_ints (by omega) (by omega) ?_) (fun _ _ => rfl)).ev (op_mul (IntMulOk.of_left (intBits_le_64 (by omega) (by omega))))).ev (ev_name ho (by repeat (first | exact List.Mem.head _ | apply List.Mem.tail))) op_sub
        rw [show (1 + (t : Int) - 1).toNat = t by omega]
        exact getD_at (by omega)
    · exact ex_return_own y (by repeat (first | exact List.Mem.head _ | apply List.Mem.tail)) (by decide) fun v s' hp => ⟨v, rfl, hp⟩
end W40
end
section
open PySem PySem.W PyProof.Rows
set_option Elab.async false
set_option maxRecDepth 20000
set_option linter.unusedVariables false
set_option linter.unusedSimpArgs false
set_option pp.deepTerms false
set_option pp.deepTerms.threshold 4
namespace W40
open PySem PySem.W PyProof.Rows PySem.Calls
variable {prog : Program} {w : World} {T : Nat} {n : Nat}

def Small (x : Int) : Prop := Builtin.Int.intBits x ≤ 2 ^ 20
def conv (cs en : List Int) (top : Nat) : List Int := (List.range (top + 1)).map fun size => ((List.range (size + 1)).map fun j => cs.getD j 0 * en.getD (size - j) 0).sum
def tailC (cs : List Int) (kinds rest top : Nat) : List Int := (List.range (top + 1)).map fun size => ((List.range (size + 1 - rest)).map fun j => cs.getD j 0 * (kinds : Int) ^ (size - rest - j)).sum
def endedOf (pieces plains : List (List Nat)) (kinds top k : Nat) : List Int := (go (stepsOf (pieces.getD k []) ((plains.getD k []).length : Int)) ((plains.getD k []).length : Int) kinds top).2
def lapsTo (pieces plains : List (List Nat)) (kinds top : Nat) : Nat → List Int
  | 0 => (List.replicate (top + 1) 0).set (plains.getD 0 []).length 1
  | i + 1 => if plains.getD (i + 1) [] = [] then lapsTo pieces plains kinds top i else conv (lapsTo pieces plains kinds top i) (endedOf pieces plains kinds top (i + 1)) top
theorem conv_len (cs en : List Int) (top : Nat) : (conv cs en top).length = top + 1 := by simp [conv]
theorem lapsTo_len (pieces plains : List (List Nat)) (kinds top : Nat) : ∀ i, (lapsTo pieces plains kinds top i).length = top + 1
  | 0 => by simp [lapsTo]
  | i + 1 => by
    unfold lapsTo
    split
    · exact lapsTo_len pieces plains kinds top i
    · exact conv_len _ _ _

theorem fn_laps {pieces plains : List (List Nat)} {kinds top : Nat} (hN : 2 ≤ plains.length) (hN' : plains.length ≤ 100) (hNp : pieces.length = plains.length) (hb : ∀ p ∈ pieces, 0 < p.length ∧ p.length ≤ 100 ∨ p = []) (hz : ∀ p ∈ plains, p.length ≤ 100) (hk : kinds ≤ 100000) (htop : top ≤ 1000)
    (h0 : (plains.getD 0 []).length ≤ top) (hpc : ∀ k, plains.getD k [] ≠ [] → pieces.getD k [] ≠ [])
    (hst : ∀ k, plains.getD k [] ≠ [] → ∀ s ∈ stepsOf (pieces.getD k []) ((plains.getD k []).length : Int), 1 ≤ s)
    (hs1 : ∀ i, ∀ x ∈ lapsTo pieces plains kinds top i, Small x) (hs2 : ∀ k, plains.getD k [] ≠ [] → ∀ x ∈ endedOf pieces plains kinds top k, Small x) (hs3 : ∀ e, e ≤ 1000 → Small ((kinds : Int) ^ e)) :
    FnOk (XX prog w (T + 1)) (n + 4) 141 [.sl (pieces.map S), .sl (plains.map S), .int kinds, .int top] (.il (tailC (lapsTo pieces plains kinds top (plains.length - 2)) kinds (plains.getD (plains.length - 1) []).length top)) := by
  refine fn_ok (ps := ["pieces", "plains", "kinds", "top"]) (cns := ["rest", "ended", "counts", "kinds"]) [("pieces", .sl (pieces.map S)), ("plains", .sl (plains.map S)), ("kinds", .int kinds), ("top", .int top)] rfl rfl rfl rfl rfl rfl (fun | [_, _, _, _], _ => rfl) (by decide) (by decide) rfl (by intro L p hp; simp only [List.mem_cons, List.not_mem_nil, or_false] at hp; rcases hp with rfl | rfl | rfl | rfl | rfl <;> first | exact .inl rfl | exact .inr ⟨rfl, rfl⟩) (fun _ => rfl) (by decide) rfl rfl rfl rfl rfl ?_
  intro A s₀ L s₁ ha hce y
  have ho := y.envOk
  refine ex_assign y ha (ev_bin (ev_list_ints (l := [0]) (evs_cons ev_int.ev evs_nil) (by decide)).ev ((ev_bin (ev_name ho (by repeat (first | exact List.Mem.head _ | apply List.Mem.tail))) ev_int.ev op_add).ev.eq (d' := .int ((top + 1 : Nat) : Int)) (by rw [Int.natCast_add]; rfl)) (op_zeros (by omega))) ⟨rfl, .inr ⟨rfl, _, rfl⟩⟩ hce (by repeat (first | exact Del.nil | (apply Del.skip; · rfl) | (apply Del.k; · decide))) (O' := ["counts"]) (by decide) fun s₂ y => ?_
  have hpl : ∀ k, k < plains.length → (plains.map S)[k]? = some (S (plains.getD k [])) := fun k hk => by
    rw [List.getElem?_map, List.getElem?_eq_getElem hk, List.getD_eq_getElem?_getD, List.getElem?_eq_getElem hk]; rfl
  have hpi : ∀ k, k < plains.length → (pieces.map S)[k]? = some (S (pieces.getD k [])) := fun k hk => by
    rw [List.getElem?_map, List.getElem?_eq_getElem (by omega), List.getD_eq_getElem?_getD, List.getElem?_eq_getElem (by omega)]; rfl
  have hzk : ∀ k, (plains.getD k []).length ≤ 100 := fun k => by
    rw [List.getD_eq_getElem?_getD]
    cases h : plains[k]? with
    | none => simp
    | some q => exact hz q (List.mem_of_getElem? h)
  have hzs : ∀ k, (S (plains.getD k [])).length ≤ sizeLine := fun k => by rw [S_len, sizeLine_eq]; have := hzk k; omega
  have hml : (plains.map S).length ≤ sizeLine := by rw [List.length_map, sizeLine_eq]; omega
  refine ex_set_int y ha (by repeat (first | exact List.Mem.head _ | apply List.Mem.tail)) (by decide) ev_int.ev ((ev_blt ho bn_len rfl rfl (evs_cons (ev_sub (ev_name ho (by repeat (first | exact List.Mem.head _ | apply List.Mem.tail))) ev_int.ev (get_strs (by decide) (by decide) (hpl 0 (by omega))) (fun _ _ => rfl)).ev evs_nil) (bl_len_str (hzs 0))).ev.eq (d' := .int ((plains.getD 0 []).length : Int)) (by rw [S_len])) (by omega) (by have := hzk 0; omega) (by rw [List.length_replicate]; omega) hce (by repeat (first | exact Del.nil | (apply Del.skip; · rfl) | (apply Del.k; · decide))) fun s₃ y => ?_
  rw [Int.toNat_natCast] at y
  refine ex_for y ha hce (src_to (N := plains.length - 2) (rng2 ho bn_range rfl (evs_cons ev_int.ev (evs_cons (ev_bin (ev_blt ho bn_len rfl rfl (evs_cons (ev_name ho (by repeat (first | exact List.Mem.head _ | apply List.Mem.tail))) evs_nil) (bl_len_strs hml)).ev ev_int.ev op_sub).ev evs_nil))) (by rw [List.length_map]; omega))
    (sg := fun i => [("counts", .il (lapsTo pieces plains kinds top i)), ("pieces", .sl (pieces.map S)), ("plains", .sl (plains.map S)), ("kinds", .int kinds), ("top", .int top)]) (add := fun i => [("k", .int (1 + (i : Int)))]) (O' := []) (SubL.all (by repeat (first | exact SubL.nil | refine SubL.cons (by repeat (first | exact List.Mem.head _ | apply List.Mem.tail)) ?_))) (by decide) (fun i hi => asg_name ⟨rfl, .inl rfl⟩ hce rfl (NoN.all (by repeat (first | exact NoN.nil | refine NoN.c (by decide) ?_)))) (fun i hi Z' W' E' s' y => ?_) fun s₄ y => ?_
  · have e1 : (1 + (i : Int)).toNat = i + 1 := by omega
    have gpl : GetOk (XX prog w (T + 1)) (n + 3) (.sl (plains.map S)) (.int (1 + (i : Int))) (.str (S (plains.getD (i + 1) []))) := get_strs (by omega) (by omega) (by rw [e1]; exact hpl _ (by omega))
    have gpi : GetOk (XX prog w (T + 1)) (n + 3) (.sl (pieces.map S)) (.int (1 + (i : Int))) (.str (S (pieces.getD (i + 1) []))) := get_strs (by omega) (by omega) (by rw [e1]; exact hpi _ (by omega))
    have hzk1 := hzk (i + 1)
    refine ex_if_join [("counts", .il (lapsTo pieces plains kinds top (i + 1))), ("pieces", .sl (pieces.map S)), ("plains", .sl (plains.map S)), ("kinds", .int kinds), ("top", .int top)] []
      y ha (cn_cmp (ev_sub (ev_name ho (by repeat (first | exact List.Mem.head _ | apply List.Mem.tail))) (ev_name ho (by repeat (first | exact List.Mem.head _ | apply List.Mem.tail))) gpl (fun _ _ => rfl)).ev ev_str.ev cmp_sne rfl) (fun h E₁ s₆ y => ?_) (fun h E₁ s₆ y => ?_) fun s₆ y => ex_nil (y.sub (SubL.all (by repeat (first | exact SubL.nil | refine SubL.cons (by repeat (first | exact List.Mem.head _ | apply List.Mem.tail)) ?_))) (by decide))
    · have h : plains.getD (i + 1) [] ≠ [] := fun q => of_decide_eq_true h (by rw [q]; rfl)
      have hpc1 := hpc _ h
      have hpl1 : 0 < (pieces.getD (i + 1) []).length ∧ (pieces.getD (i + 1) []).length ≤ 100 := by
        rcases hb (pieces.getD (i + 1) []) (by rw [List.getD_eq_getElem?_getD, List.getElem?_eq_getElem (by omega)]; simp) with q | q
        · exact q
        · exact absurd q hpc1
      have hlen1 : 1 ≤ (plains.getD (i + 1) []).length := List.length_pos_iff.2 h
      have hff := fn_first (prog := prog) (w := w) (T := T) (n := n + 1) (p := pieces.getD (i + 1) []) (letters := (plains.getD (i + 1) []).length) (kinds := kinds) (top := top) hpl1.1 hpl1.2 hlen1 hk htop (hst _ h)
      refine ex_assign y ha (ev_call ho (by rfl : GName (XX prog w (T + 1)) "_law_first" (.ref 136)) rfl rfl ⟨_, _, rfl, rfl⟩ (evs_cons (ev_sub (ev_name ho (by repeat (first | exact List.Mem.head _ | apply List.Mem.tail))) (ev_name ho (by repeat (first | exact List.Mem.head _ | apply List.Mem.tail))) gpi (fun _ _ => rfl)).ev (evs_cons ((ev_blt ho bn_len rfl rfl (evs_cons (ev_sub (ev_name ho (by repeat (first | exact List.Mem.head _ | apply List.Mem.tail))) (ev_name ho (by repeat (first | exact List.Mem.head _ | apply List.Mem.tail))) gpl (fun _ _ => rfl)).ev evs_nil) (bl_len_str (hzs _))).ev.eq (by rw [S_len])) (evs_cons (ev_name ho (by repeat (first | exact List.Mem.head _ | apply List.Mem.tail))) (evs_cons (ev_name ho (by repeat (first | exact List.Mem.head _ | apply List.Mem.tail))) evs_nil)))) hff) ⟨rfl, .inr ⟨rfl, _, rfl⟩⟩ hce (by repeat (first | exact Del.nil | (apply Del.skip; · rfl) | (apply Del.k; · decide))) (O' := []) (by decide) fun s₇ y => ?_
      have hlp : lapsTo pieces plains kinds top (i + 1) = conv (lapsTo pieces plains kinds top i) (endedOf pieces plains kinds top (i + 1)) top := by rw [lapsTo, if_neg h]
      have hcl := lapsTo_len pieces plains kinds top i
      have hel : (endedOf pieces plains kinds top (i + 1)).length = top + 1 := (go_len _ _ _ _).2
      have hsc := hs1 i
      have hse := hs2 _ h
      change St _ _ _ (("ended", .il (endedOf pieces plains kinds top (i + 1))) :: _) _ _ _ _ at y
      rw [hlp]
      generalize lapsTo pieces plains kinds top i = cs at *
      generalize endedOf pieces plains kinds top (i + 1) = en at *
      refine ex_assign (d := .il (conv cs en top)) y ha ?_ ⟨rfl, .inr ⟨rfl, _, rfl⟩⟩ hce (by repeat (first | exact Del.nil | (apply Del.skip; · rfl) | (apply Del.k; · decide))) (O' := []) (by decide) fun s₈ y => ex_nil ⟨rfl, y.sub (SubL.all (by repeat (first | exact SubL.nil | refine SubL.cons (by repeat (first | exact List.Mem.head _ | apply List.Mem.tail)) ?_))) (by decide)⟩
      have e : ((List.range ((List.range (top + 1)).map fun (i : Nat) => D.int (i : Int)).length).filterMap fun size => some (((List.range (size + 1)).map fun j => cs.getD j 0 * en.getD (size - j) 0).sum)) = conv cs en top := by
        rw [List.length_map, List.length_range, fm_some]; rfl
      rw [← e]
      refine ev_comp (mk := .int) (isv := isI) (σ0 := [("counts", .il cs), ("ended", .il en)]) dl_ints mk_int rfl rfl (by decide) rfl (.cell rfl (fun _ => rfl) (fun _ => rfl)) (fun _ => rfl) ?_ ?_ ?_ ?_ ?_
      · rw [List.length_map, List.length_range, sizeLine_eq]; omega
      · exact it_n (rng1 ho bn_range rfl (evs_cons ((ev_bin (ev_name ho (by repeat (first | exact List.Mem.head _ | apply List.Mem.tail))) ev_int.ev op_add).ev.eq (d' := .int ((top + 1 : Nat) : Int)) (by rw [Int.natCast_add]; rfl)) evs_nil)) (by omega)
      · intro q hq
        simp only [List.mem_cons, List.not_mem_nil, or_false] at hq
        rcases hq with rfl | rfl
        · exact ⟨(by repeat (first | exact List.Mem.head _ | apply List.Mem.tail)), rfl, fun C => ⟨_, rfl, rfl⟩, .inl rfl⟩
        · exact ⟨(by repeat (first | exact List.Mem.head _ | apply List.Mem.tail)), rfl, fun C => ⟨_, rfl, rfl⟩, .inl rfl⟩
      · intro C i d hd; rfl
      · intro C sz d v hd hv
        obtain ⟨hi, rfl⟩ := rg_at hd
        cases hv
        refine (ev_blt (cEnv_ok ho rfl) bn_sum rfl rfl (evs_cons (d := .il ((List.range (sz + 1)).map fun j => cs.getD j 0 * en.getD (sz - j) 0)) ?_ evs_nil) bl_sum).ev
        have e2 : ((List.range ((List.range (sz + 1)).map fun (k : Nat) => D.int (k : Int)).length).filterMap fun j => some (cs.getD j 0 * en.getD (sz - j) 0)) = (List.range (sz + 1)).map fun j => cs.getD j 0 * en.getD (sz - j) 0 := by
          rw [List.length_map, List.length_range, fm_some]
        rw [← e2]
        refine (ev_comp (mk := .int) (isv := isI) (σ0 := [("counts", .il cs), ("ended", .il en), ("size", .int (sz : Int))]) dl_ints mk_int rfl rfl (by decide) rfl (.loc rfl (by decide)) (fun _ => rfl) ?_ ?_ ?_ ?_ ?_).ev
        · rw [List.length_map, List.length_range, sizeLine_eq]; omega
        · exact it_n (rng1 (cEnv_ok ho rfl) bn_range rfl (evs_cons ((ev_bin (ev_name (cEnv_ok ho rfl) (by repeat (first | exact List.Mem.head _ | apply List.Mem.tail))) ev_int.ev op_add).ev.eq (d' := .int ((sz + 1 : Nat) : Int)) (by rw [Int.natCast_add]; rfl)) evs_nil)) (by omega)
        · intro q hq
          simp only [List.mem_cons, List.not_mem_nil, or_false] at hq
          rcases hq with rfl | rfl | rfl
          · exact ⟨(by repeat (first | exact List.Mem.head _ | apply List.Mem.tail)), rfl, fun C => ⟨_, rfl, rfl⟩, .inl rfl⟩
          · exact ⟨(by repeat (first | exact List.Mem.head _ | apply List.Mem.tail)), rfl, fun C => ⟨_, rfl, rfl⟩, .inl rfl⟩
          · exact ⟨(by repeat (first | exact List.Mem.head _ | apply List.Mem.tail)), rfl, fun C => ⟨_, rfl, rfl⟩, .inl rfl⟩
        · intro C' k d hd; rfl
        · intro C' k d v hd hv
          obtain ⟨hk', rfl⟩ := rg_at hd
          cases hv
          refine (ev_bin (ev_sub (d := .int (cs.getD k 0)) (ev_name (cEnv_ok (cEnv_ok ho rfl) rfl) (by repeat (first | exact List.Mem.head _ | apply List.Mem.tail))) (ev_name (cEnv_ok (cEnv_ok ho rfl) rfl) (by repeat (first | exact List.Mem.head _ | apply List.Mem.tail))) (get_ints (by omega) (by omega) (by rw [Int.toNat_natCast]; exact getD_at (by omega))) (fun _ _ => rfl)).ev
            (ev_sub (d := .int (en.getD (sz - k) 0)) (ev_name (cEnv_ok (cEnv_ok ho rfl) rfl) (by repeat (first | exact List.Mem.head _ | apply List.Mem.tail))) (ev_bin (ev_name (cEnv_ok (cEnv_ok ho rfl) rfl) (by repeat (first | exact List.Mem.head _ | apply List.Mem.tail))) (ev_name (cEnv_ok (cEnv_ok ho rfl) rfl) (by repeat (first | exact List.Mem.head _ | apply List.Mem.tail))) op_sub).ev (get_ints (by omega) (by omega) (by rw [show ((sz : Int) - (k : Int)).toNat = sz - k by omega]; exact getD_at (by omega))) (fun _ _ => rfl)).ev (op_mul (IntMulOk.of_bits ?_ ?_))).ev
          · exact hsc _ (List.mem_of_getElem? (getD_at (by omega)))
          · exact hse _ (List.mem_of_getElem? (getD_at (by omega)))
    · have h : plains.getD (i + 1) [] = [] := by
        have := of_decide_eq_false h
        exact Decidable.byContradiction fun q => this fun r => q (S_inj.1 r)
      have hlp : lapsTo pieces plains kinds top (i + 1) = lapsTo pieces plains kinds top i := by rw [lapsTo, if_pos h]
      refine ex_nil ⟨rfl, ?_⟩
      rw [hlp]
      exact y.sub (SubL.all (by repeat (first | exact SubL.nil | refine SubL.cons (by repeat (first | exact List.Mem.head _ | apply List.Mem.tail)) ?_))) (by decide)
  · have hplast : (plains.map S).getLast? = some (S (plains.getD (plains.length - 1) [])) := by
      rw [List.getLast?_eq_getElem?, List.length_map]; exact hpl _ (by omega)
    refine ex_assign y ha ((ev_blt ho bn_len rfl rfl (evs_cons (ev_sub (ev_name ho (by repeat (first | exact List.Mem.head _ | apply List.Mem.tail))) (ev_neg ev_int.ev).ev (get_strs_last hplast) (fun _ _ => rfl)).ev evs_nil) (bl_len_str (hzs _))).eq (d' := .int ((plains.getD (plains.length - 1) []).length : Int)) (by rw [S_len])) ⟨rfl, .inr ⟨rfl, _, rfl⟩⟩ hce (by repeat (first | exact Del.nil | (apply Del.skip; · rfl) | (apply Del.k; · decide))) (O' := []) (by decide) fun s₅ y => ?_
    have hsc := hs1 (plains.length - 2)
    have hcl := lapsTo_len pieces plains kinds top (plains.length - 2)
    have hrl := hzk (plains.length - 1)
    generalize lapsTo pieces plains kinds top (plains.length - 2) = cs at *
    generalize (plains.getD (plains.length - 1) []).length = rest at *
    refine ex_return y ha ?_ fun v s' hp => ⟨v, rfl, hp⟩
    have e : ((List.range ((List.range (top + 1)).map fun (i : Nat) => D.int (i : Int)).length).filterMap fun size => some (((List.range (size + 1 - rest)).map fun j => cs.getD j 0 * (kinds : Int) ^ (size - rest - j)).sum)) = tailC cs kinds rest top := by
      rw [List.length_map, List.length_range, fm_some]; rfl
    rw [← e]
    refine ev_comp (mk := .int) (isv := isI) (σ0 := [("counts", .il cs), ("kinds", .int kinds), ("rest", .int rest)]) dl_ints mk_int rfl rfl (by decide) rfl (.cell rfl (fun _ => rfl) (fun _ => rfl)) (fun _ => rfl) ?_ ?_ ?_ ?_ ?_
    · rw [List.length_map, List.length_range, sizeLine_eq]; omega
    · exact it_n (rng1 ho bn_range rfl (evs_cons ((ev_bin (ev_name ho (by repeat (first | exact List.Mem.head _ | apply List.Mem.tail))) ev_int.ev op_add).ev.eq (d' := .int ((top + 1 : Nat) : Int)) (by rw [Int.natCast_add]; rfl)) evs_nil)) (by omega)
    · intro q hq
      simp only [List.mem_cons, List.not_mem_nil, or_false] at hq
      rcases hq with rfl | rfl | rfl
      · exact ⟨(by repeat (first | exact List.Mem.head _ | apply List.Mem.tail)), rfl, fun C => ⟨_, rfl, rfl⟩, .inl rfl⟩
      · exact ⟨(by repeat (first | exact List.Mem.head _ | apply List.Mem.tail)), rfl, fun C => ⟨_, rfl, rfl⟩, .inl rfl⟩
      · exact ⟨(by repeat (first | exact List.Mem.head _ | apply List.Mem.tail)), rfl, fun C => ⟨_, rfl, rfl⟩, .inl rfl⟩
    · intro C i d hd; rfl
    · intro C sz d v hd hv
      obtain ⟨hi, rfl⟩ := rg_at hd
      cases hv
      refine (ev_blt (cEnv_ok ho rfl) bn_sum rfl rfl (evs_cons (d := .il ((List.range (sz + 1 - rest)).map fun j => cs.getD j 0 * (kinds : Int) ^ (sz - rest - j))) ?_ evs_nil) bl_sum).ev
      have e2 : ((List.range ((List.range (sz + 1 - rest)).map fun (k : Nat) => D.int (0 + (k : Int))).length).filterMap fun j => some (cs.getD j 0 * (kinds : Int) ^ (sz - rest - j))) = (List.range (sz + 1 - rest)).map fun j => cs.getD j 0 * (kinds : Int) ^ (sz - rest - j) := by
        rw [List.length_map, List.length_range, fm_some]
      rw [← e2]
      refine (ev_comp (mk := .int) (isv := isI) (σ0 := [("counts", .il cs), ("kinds", .int kinds), ("rest", .int rest), ("size", .int (sz : Int))]) dl_ints mk_int rfl rfl (by decide) rfl (.loc rfl (by decide)) (fun _ => rfl) ?_ ?_ ?_ ?_ ?_).ev
      · rw [List.length_map, List.length_range, sizeLine_eq]; omega
      · exact it_to (rng1 (cEnv_ok ho rfl) bn_range rfl (evs_cons (ev_bin (ev_bin (ev_name (cEnv_ok ho rfl) (by repeat (first | exact List.Mem.head _ | apply List.Mem.tail))) (ev_name (cEnv_ok ho rfl) (by repeat (first | exact List.Mem.head _ | apply List.Mem.tail))) op_sub).ev ev_int.ev op_add).ev evs_nil)) (by omega)
      · intro q hq
        simp only [List.mem_cons, List.not_mem_nil, or_false] at hq
        rcases hq with rfl | rfl | rfl | rfl
        · exact ⟨(by repeat (first | exact List.Mem.head _ | apply List.Mem.tail)), rfl, fun C => ⟨_, rfl, rfl⟩, .inl rfl⟩
        · exact ⟨(by repeat (first | exact List.Mem.head _ | apply List.Mem.tail)), rfl, fun C => ⟨_, rfl, rfl⟩, .inl rfl⟩
        · exact ⟨(by repeat (first | exact List.Mem.head _ | apply List.Mem.tail)), rfl, fun C => ⟨_, rfl, rfl⟩, .inl rfl⟩
        · exact ⟨(by repeat (first | exact List.Mem.head _ | apply List.Mem.tail)), rfl, fun C => ⟨_, rfl, rfl⟩, .inl rfl⟩
      · intro C' k d hd; rfl
      · intro C' k d v hd hv
        obtain ⟨hk', rfl⟩ := rg_at hd
        cases hv
        have hkb := intBits_le_64 (k := (kinds : Int)) (by omega) (by omega)
        have hpw : ((sz : Int) - (rest : Int) - (0 + (k : Int))).toNat = sz - rest - k := by omega
        refine (ev_bin (ev_sub (d := .int (cs.getD k 0)) (ev_name (cEnv_ok (cEnv_ok ho rfl) rfl) (by repeat (first | exact List.Mem.head _ | apply List.Mem.tail))) (ev_name (cEnv_ok (cEnv_ok ho rfl) rfl) (by repeat (first | exact List.Mem.head _ | apply List.Mem.tail))) (get_ints (by omega) (by omega) (by rw [show (0 + (k : Int)).toNat = k by omega]; exact getD_at (by omega))) (fun _ _ => rfl)).ev
          ((ev_bin (ev_name (cEnv_ok (cEnv_ok ho rfl) rfl) (by repeat (first | exact List.Mem.head _ | apply List.Mem.tail))) (ev_bin (ev_bin (ev_name (cEnv_ok (cEnv_ok ho rfl) rfl) (by repeat (first | exact List.Mem.head _ | apply List.Mem.tail))) (ev_name (cEnv_ok (cEnv_ok ho rfl) rfl) (by repeat (first | exact List.Mem.head _ | apply List.Mem.tail))) op_sub).ev (ev_name (cEnv_ok (cEnv_ok ho rfl) rfl) (by repeat (first | exact List.Mem.head _ | apply List.Mem.tail))) op_sub).ev (op_pow ?_ ?_)).ev.eq (d' := .int ((kinds : Int) ^ (sz - rest - k))) (by rw [hpw])) (op_mul (IntMulOk.of_bits ?_ ?_))).ev
        · omega
        · have h1 : ((sz : Int) - (rest : Int) - (0 + (k : Int))) ≤ 1000 := by omega
          have h2 : (0 : Int) ≤ ((sz : Int) - (rest : Int) - (0 + (k : Int))) := by omega
          calc (Builtin.Int.intBits (kinds : Int) : Int) * ((sz : Int) - (rest : Int) - (0 + (k : Int))) ≤ 64 * 1000 := Int.mul_le_mul (by omega) h1 h2 (by decide)
            _ ≤ 2 ^ 27 := by decide
        · exact hsc _ (List.mem_of_getElem? (getD_at (by omega)))
        · exact hs3 _ (by omega)
end W40
end
section
open PySem PySem.W PyProof.Rows
set_option Elab.async false
set_option maxRecDepth 20000
set_option linter.unusedVariables false
set_option linter.unusedSimpArgs false
namespace W40
open PySem PySem.W PyProof.Rows PySem.Calls
variable {X : Cx} {n : Nat} {env : Env} {σ σ' : List (Str × D)} {O O' : List Str} {Z Z' : List (Addr × Obj)} {W W' : List Addr} {s₀ s : Shared} {A : Around} {E : Value → Shared → Prop} {Q : Flow → Shared → Prop} {rest : List Stmt}

def lookP (l : List (Int × Int)) (k : Int) : Option Int := (l.find? fun kv => kv.1 = k).map (·.2)
def storeP (l : List (Int × Int)) (k x : Int) : List (Int × Int) := if l.any (fun kv => kv.1 = k) then l.map (fun kv => if kv.1 = k then (kv.1, x) else kv) else l ++ [(k, x)]

theorem KVs.len {kvs l} (h : KVs kvs l) : kvs.length = l.length := by induction h with | nil => rfl | cons _ ih => simp [ih]
theorem KVs.keys {kvs l} (h : KVs kvs l) : kvs.map (·.1) = l.map (·.1) := by induction h with | nil => rfl | cons _ ih => simp [ih]
theorem KVs.look {kvs l} (h : KVs kvs l) (k : Int) : (lookP l k = none ∧ valueAt kvs k = none) ∨ ∃ x t, lookP l k = some x ∧ valueAt kvs k = some (.int x t) := by
  induction h with
  | nil => exact .inl ⟨rfl, rfl⟩
  | @cons k' x t kvs l _ ih =>
    unfold lookP valueAt at ih ⊢
    by_cases e : k' = k
    · right; exact ⟨x, t, by simp [e], by simp [e]⟩
    · simpa [e] using ih
theorem KVs.any {kvs l} (h : KVs kvs l) (k : Int) : kvs.any (fun kv => kv.1 = k) = l.any (fun kv => kv.1 = k) := by induction h with | nil => rfl | cons _ ih => simp only [List.any_cons, ih]
theorem KVs.snoc {kvs l} (h : KVs kvs l) (k x : Int) (t : Tok) : KVs (kvs ++ [(k, .int x t)]) (l ++ [(k, x)]) := by
  induction h with
  | nil => exact .cons .nil
  | cons _ ih => exact .cons ih
theorem KVs.put {kvs l} (h : KVs kvs l) (k x : Int) (t : Tok) : KVs (kvs.map fun kv => if kv.1 = k then (kv.1, Value.int x t) else kv) (l.map fun kv => if kv.1 = k then (kv.1, x) else kv) := by
  induction h with
  | nil => exact .nil
  | @cons k' y u kvs l _ ih =>
    rw [List.map_cons, List.map_cons]
    by_cases e : k' = k
    · simp only [e, if_true]; exact .cons ih
    · simp only [e, if_false]; exact .cons ih
theorem KVs.store {kvs l} (h : KVs kvs l) (k x : Int) (t : Tok) : KVs (stored kvs k (.int x t)) (storeP l k x) := by
  unfold stored storeP
  rw [h.any]
  split
  · exact h.put k x t
  · exact h.snoc k x t
theorem KVs.at {kvs l} (h : KVs kvs l) (i : Nat) : (kvs[i]? = none ∧ l[i]? = none) ∨ ∃ k x t, kvs[i]? = some (k, .int x t) ∧ l[i]? = some (k, x) := by
  induction h generalizing i with
  | nil => exact .inl ⟨rfl, rfl⟩
  | @cons k x t kvs l _ ih =>
    cases i with
    | zero => exact .inr ⟨k, x, t, rfl, rfl⟩
    | succ i => simpa using ih i

theorem pairs_any {prog prog' : Program} {w w' : World} {es : List DictEntry} {kvs : List (Int × Value)} (h : PySem.Pairs (intKind prog w) es kvs) : PySem.Pairs (intKind prog' w') es kvs := by
  induction h with
  | nil => exact .nil
  | cons a b _ ih => exact .cons a b ih
theorem dict_any {prog prog' : Program} {w w' : World} {h : Heap} {a : Addr} {kvs : List (Int × Value)} (hd : h.DictOf (intKind prog w) a kvs) : h.DictOf (intKind prog' w') a kvs := by
  obtain ⟨o, es, ep, h1, h2, h3, h4, h5, h6⟩ := hd
  exact ⟨o, es, ep, h1, h2, h3, h4, pairs_any h5, h6⟩
theorem rep_mp {C : Addr} {h : Heap} {a : Addr} {kvs : List (Int × Value)} {l : List (Int × Int)} {prog : Program} {w : World} (hd : h.DictOf (intKind prog w) a kvs) (hk : KVs kvs l) (hs : (a == sysModules) = false) : Rep C h (.ref a) (.mp l) [a] :=
  ⟨a, kvs, rfl, (by obtain ⟨o, es, ep, ho, _⟩ := hd; exact ⟨o, ho⟩), fun p w' => dict_any hd, hk, hs, rfl⟩

/-- the system's own modules lie below all that is new -/
def SysLow (X : Cx) : Prop := ∀ s, Gl X s → sysModules < s.heap.objs.size
theorem SysLow.ne (h : SysLow X) {s : Shared} (g : Gl X s) {a : Addr} (ha : s.heap.objs.size ≤ a) : (a == sysModules) = false := by
  have := h s g
  rw [beq_eq_false_iff_ne]
  exact Nat.ne_of_gt (Nat.lt_of_lt_of_le this ha)

theorem ev_dict_nil (hsl : SysLow X) {pos : Pos} : EvF X n env σ (.Dict [] [] pos) (.mp []) := fun A s E a g r =>
  wpAny_Dict_empty ⟨Kp.push _ _, [s.heap.objs.size], rep_mp (prog := X.prog) (w := X.w) (kvs := []) ⟨_, #[], _, Heap.get?_push_size _ rfl, ⟨rfl, rfl, rfl⟩, rfl, (fun e he => by simp at he), .nil, List.nodup_nil⟩ .nil (hsl.ne g (Nat.le_refl _)), fun b hb => by rw [List.mem_singleton.mp hb]; exact none_at_size _⟩

theorem ev_dict_one (hsl : SysLow X) {pos : Pos} {k v : Expr} {i j : Int} (hk : Ev X n env σ k (.int i)) (hv : Ev X n env σ v (.int j)) : EvF X n env σ (.Dict [some k] [v] pos) (.mp [(i, j)]) := fun A s E a g r => by
  refine tok_up (wpAny_Dict_walk (knd := intKind X.prog X.w) rfl rfl (by simp) (by simp) (pairTrees_cons_walk ?_))
  have k0 : Kp s { s with heap := s.heap.push { cls := .type "dict", data := .dict #[] } } := Kp.push _ _
  refine wpAny_mono (hk A _ E a (g.kp k0) (r.kp k0)) (fun kv s1 ⟨k1, fp1, ⟨t, hkv⟩, _⟩ => ?_) fun _ _ x => x
  subst hkv
  refine wpAny_mono (hv A s1 E a (g.kp (k0.trans k1)) (r.kp (k0.trans k1))) (fun vv s2 ⟨k2, fp2, ⟨u, hvv⟩, _⟩ => ?_) fun _ _ x => x
  subst hvv
  have k12 := k1.trans k2
  refine pairTrees_nil_walk ⟨[(i, .int j u)], ⟨by simp [intKind, Value.isInt], rfl, trivial⟩, ?_, fun h' hd hs ht => ?_⟩
  · exact dictOf_at (⟨_, #[], _, Heap.get?_push_size _ rfl, ⟨rfl, rfl, rfl⟩, rfl, (fun e he => by simp at he), .nil, List.nodup_nil⟩ : Heap.DictOf (intKind X.prog X.w) (s.heap.push { cls := .type "dict", data := .dict #[] }) s.heap.objs.size []) fun o e => k12.keep _ _ e
  · obtain ⟨h2, t2, rfl⟩ := k12.same
    refine ⟨⟨⟨_, _, rfl⟩, fun b o e => hs.extBut b o (Nat.ne_of_lt (Heap.lt_size e)) (k12.keep b o (k0.keep b o e)), ht⟩, [s.heap.objs.size], rep_mp hd ?_ (hsl.ne g (Nat.le_refl _)), fun b hb => by rw [List.mem_singleton.mp hb]; exact none_at_size _⟩
    exact (KVs.nil).store i j u

theorem get_mp {l : List (Int × Int)} {k x : Int} (h : lookP l k = some x) : GetOk X n (.mp l) (.int k) (.int x) := by
  rintro A s E _ _ _ _ a g ⟨b, kvs, rfl, _, hd, hk, hs, rfl⟩ ⟨⟨t, rfl⟩, _⟩
  have hd := hd X.prog X.w
  rcases hk.look k with ⟨h1, _⟩ | ⟨y, u, h1, h2⟩
  · rw [h] at h1; cases h1
  · rw [h] at h1; cases h1
    exact ⟨⟨"dict", _, hd.typeIs, slot_dict_getitem.lookup⟩, wpAny_getItem_of (by simp [intKind, Value.isInt]) hd.mapOf h2 (PostF.int (Kp.tok1 s))⟩
theorem me_get {l : List (Int × Int)} {k d : Int} : MeOk X n "get" (.mp l) [.int k, .int d] (.int ((lookP l k).getD d)) := by
  refine ⟨"dict", _, F.plainAttrs_dict, F.slot_dict_get, F.type_dict_get, ?_, ?_⟩
  · rintro s _ _ ⟨b, kvs, rfl, _, hd, hk, hs, rfl⟩
    have hd := hd X.prog X.w
    exact ⟨hd.typeIs, hd.mapOf.noDict⟩
  · rintro A s E _ _ _ a g ⟨b, kvs, rfl, _, hd, hk, hs, rfl⟩ (_ | ⟨⟨⟨t, rfl⟩, _⟩, _ | ⟨⟨⟨u, rfl⟩, _⟩, (_ | _)⟩⟩)
    have hd := hd X.prog X.w
    refine call_meetsIn F.slot_dict_get hd.typeIs F.entry_dict_get (F.args_dict_get_3 _ _ _) (meets_dict_get_default (intKind X.prog X.w) b (k := k) (by simp [intKind, Value.isInt]) hs (.int d u)) ⟨_, hd.mapOf, ?_⟩
    rcases hk.look k with ⟨h1, h2⟩ | ⟨y, u', h1, h2⟩
    · rw [h1, h2]; exact PostF.int (Kp.tok1 s)
    · rw [h1, h2]; exact PostF.int (Kp.tok1 s)
end W40
end
section
open PySem PySem.W PyProof.Rows
set_option Elab.async false
set_option maxRecDepth 20000
set_option linter.unusedVariables false
set_option linter.unusedSimpArgs false
namespace W40
open PySem PySem.W PyProof.Rows PySem.Calls
variable {X : Cx} {n : Nat} {env : Env} {σ σ' : List (Str × D)} {O O' : List Str} {Z Z' : List (Addr × Obj)} {W W' : List Addr} {s₀ s : Shared} {A : Around} {E : Value → Shared → Prop} {Q : Flow → Shared → Prop} {rest : List Stmt}

/-- x[i] = e, x a dict of the call's own -/
theorem ex_set_mp {x : Str} {px pos' pos : Pos} {i e : Expr} {l : List (Int × Int)} {k v : Int} (y : St X s₀ env σ O Z W s) (a : AOk n A) (hm : (x, .mp l) ∈ σ) (ho : x ∈ O) (he : Ev X n env σ e (.int v)) (hi : Ev X n env σ i (.int k)) (hz : l.length ≤ sizeLine) (hce : CellsOkN env) (hd : Del x σ σ')
    (kk : ∀ s', St X s₀ env ((x, .mp (storeP l k v)) :: σ') O Z W s' → Wp X A env rest Q E s') (hs : swapsWith e (some (.Subscript (.Name x px) i pos')) pos.line env = pure false := by rfl) : Wp X A env (.Assign [.Subscript (.Name x px) i pos'] e pos :: rest) Q E s := by
  obtain ⟨u, fp, hv, hr, mutz⟩ := st_mutate y hm ho
  obtain ⟨b, kvs, rfl, _, hdd, hk, hsm, rfl⟩ := hr
  refine wpAny_execs_cons (wpAny_Assign_Subscript (wpAny_mono (he A s E a y.gl y.rel) (fun v1 s1 ⟨k1, fp1, ⟨t1, hv1⟩, _⟩ => ?_) fun _ _ x => x) hs)
  subst hv1
  refine name_var y.envOk (hv.keeps k1.keep) ?_
  refine wpAny_mono (hi A s1 E a (y.gl.kp k1) (y.rel.kp k1)) (fun v2 s2 ⟨k2, fp2, ⟨t2, hv2⟩, _⟩ => ?_) fun _ _ x => x
  subst hv2
  have k12 := k1.trans k2
  refine wpAny_setItem_pairs (knd := intKind X.prog X.w) (k := k) (kvs := kvs) (by simp [intKind, Value.isInt]) (dictOf_at (hdd X.prog X.w) fun o e => k12.keep _ o e) (fun h' hd' hs' => kk _ ?_) (by rw [hk.len]; exact hz)
  obtain ⟨hh, tt, rfl⟩ := k12.same
  exact mutz _ b h' _ [b] _ k12 (.head _) hs' (rep_mp hd' (hk.store k v t1) hsm) (fun c hc => .inl hc) hce (Nat.le_succ _) hd

/-- a dict that a name holds, key by key -/
theorem keys_walk {A : Around} (hh : A.handled = none) {s : Shared} {b : Addr} {kvs : List (Int × Value)} {E : Value → Shared → Prop} {Q : Value → Shared → Prop} (hd : s.heap.DictOf (intKind X.prog X.w) b kvs) (hsm : (b == sysModules) = false)
    (h : ∀ I o ep, I = s.heap.objs.size → b ≠ I → Kp s { s with heap := s.heap.push o } → Walks X.prog X.w A I [I, b] [I] kvs.length (fun i v => ∃ k x, kvs[i]? = some (k, x) ∧ (intKind X.prog X.w).is k v = true) (fun i h => h.IsKeyIter I b i kvs.length ep ∧ h.DictAt (intKind X.prog X.w) b kvs ep) →
      ((s.heap.push o).IsKeyIter I b 0 kvs.length ep ∧ (s.heap.push o).DictAt (intKind X.prog X.w) b kvs ep) → Q (.ref I) { s with heap := s.heap.push o }) : wpAny (model X.prog X.w) A (pyIter (.ref b)) Q E s := by
  obtain ⟨o, es, ep, ho, r1, r2, r3⟩ := id hd
  have hb : b < s.heap.objs.size := Heap.lt_size ho
  have hat : s.heap.DictAt (intKind X.prog X.w) b kvs ep := ⟨o, es, ho, r1, r2, r3⟩
  have hne : b ≠ s.heap.objs.size := Nat.ne_of_lt hb
  refine wpAny_pyIter_dict hsm hat (h _ _ ep rfl hne (Kp.push _ _) (Walks.dictKeys hh s.heap.objs.size b hne kvs ep) ⟨⟨_, Heap.get?_push_size _ rfl, rfl, rfl⟩, ⟨o, es, Heap.get?_push_of_some _ ho, r1, r2, r3⟩⟩)
theorem keyIter_live {i m ep : Nat} {h : Heap} {I b : Addr} {kvs : List (Int × Value)} (x : h.IsKeyIter I b i m ep ∧ h.DictAt (intKind X.prog X.w) b kvs ep) : ∀ c ∈ [I, b], ∃ o, h.get? c = some o := by
  intro c hc
  rcases List.mem_cons.mp hc with rfl | hc
  · obtain ⟨⟨o, ho, _⟩, _⟩ := x; exact ⟨o, ho⟩
  · rw [List.mem_singleton.mp hc]
    obtain ⟨_, o, es, ho, _⟩ := x; exact ⟨o, ho⟩

theorem src_keys {x : Str} {px : Pos} {l : List (Int × Int)} (hA : A.handled = none) : ∀ (s : Shared) v fp E, Rep X.C s.heap v (.mp l) fp → Gl X s → wpAny (model X.prog X.w) A (pyIter v) (fun it s₂ => Kp s s₂ ∧ ∃ I fp' wr Sti, it = .ref I ∧ Walks X.prog X.w A I fp' wr l.length (fun i v => i < l.length ∧ ∃ fpv, Rep X.C s₂.heap v (.int (l.getD i (0, 0)).1) fpv ∧ ∀ b ∈ fpv, b ∈ fp' ∧ b ∉ wr) Sti ∧ Sti 0 s₂.heap ∧
      (∀ i h, Sti i h → ∀ b ∈ fp', ∃ o, h.get? b = some o) ∧ (∀ b ∈ fp', b ∈ fp ∨ s.heap.get? b = none) ∧ (∀ b ∈ wr, s.heap.get? b = none) ∧
      (∀ i s v Q E, Sti i s.heap → Q () s → wpAny (model X.prog X.w) A (letOwnedTupleGo (.Name x px) (.ref I) v) Q E s)) E s := by
  rintro s _ _ E ⟨b, kvs, rfl, _, hd, hk, hsm, rfl⟩ g
  refine keys_walk hA (hd X.prog X.w) hsm fun I o ep hI hne k W h0 => ⟨k, I, [I, b], [I], (fun i h => h.IsKeyIter I b i kvs.length ep ∧ h.DictAt (intKind X.prog X.w) b kvs ep), rfl, ?_, h0, fun i h hi c hc => keyIter_live hi c hc, fun c hc => ?_, fun c hc => ?_, fun i s v Q E _ q => wpAny_of_eq (a := ()) rfl q⟩
  · rw [← hk.len]
    refine ⟨W.sub, W.frame, fun i s Q E hlt st hQ => W.item i s Q E hlt st fun v h' tk hp hst => hQ v h' tk ?_ hst, W.done, W.self⟩
    obtain ⟨k', x', hp1, hp2⟩ := hp
    obtain ⟨t, rfl⟩ := Value.isInt_shape hp2
    rcases hk.at i with ⟨q, _⟩ | ⟨k2, x2, t2, q1, q2⟩
    · rw [q] at hp1; cases hp1
    · rw [q1] at hp1; cases hp1
      exact ⟨hlt, [], ⟨⟨t, by rw [List.getD_eq_getElem?_getD, q2]; rfl⟩, rfl⟩, fun b hb => nomatch hb⟩
  · rcases List.mem_cons.mp hc with rfl | hc
    · right; rw [hI]; exact none_at_size _
    · left; exact hc
  · rw [List.mem_singleton.mp hc, hI]; exact none_at_size _

theorem it_keys {x : Str} {px : Pos} {l : List (Int × Int)} (ho : EnvOk env) (hm : (x, .mp l) ∈ σ) : It X n env σ (.Name x px) (l.map fun kv => .int kv.1) := fun A s E a g r => by
  obtain ⟨v, fp, hv, b, kvs, rfl, _, hd, hk, hsm, rfl⟩ := r _ hm
  refine name_var ho hv (keys_walk a.hand (hd X.prog X.w) hsm fun I o ep hI hne k W h0 => ⟨k, I, [I, b], [I], (fun i h => h.IsKeyIter I b i kvs.length ep ∧ h.DictAt (intKind X.prog X.w) b kvs ep), rfl, ?_, h0, fun c hc => ?_, fun c hc => ?_⟩)
  · rw [List.length_map, ← hk.len]
    refine ⟨W.sub, W.frame, fun i s Q E hlt st hQ => W.item i s Q E hlt st fun v h' tk hp hst => hQ v h' tk ?_ hst, W.done, W.self⟩
    obtain ⟨k', x', hp1, hp2⟩ := hp
    obtain ⟨t, rfl⟩ := Value.isInt_shape hp2
    rcases hk.at i with ⟨q, _⟩ | ⟨k2, x2, t2, q1, q2⟩
    · rw [q] at hp1; cases hp1
    · rw [q1] at hp1; cases hp1
      exact ⟨.int k', by rw [List.getElem?_map, q2]; rfl, ⟨t, rfl⟩, rfl⟩
  · show c < (s.heap.push o).objs.size
    rw [Heap.size_push]
    rcases List.mem_cons.mp hc with rfl | hc
    · rw [hI]; exact Nat.lt_succ_self _
    · rw [List.mem_singleton.mp hc]
      obtain ⟨o', es, ep', ho', _⟩ := hd X.prog X.w
      exact Nat.lt_succ_of_lt (Heap.lt_size ho')
  · rw [List.mem_singleton.mp hc, hI]; exact none_at_size _

/-- a, b = a tuple of two -/
theorem asg_tup {a b : Str} {pa pb pt : Pos} {kd : Nat} {d d1 d2 : D} (hA : A.handled = none) (ha : KOk env a) (hb : KOk env b) (hab : a ≠ b) (hce : CellsOkN env) (hna : ∀ p ∈ σ, p.1 ≠ a) (hnb : ∀ p ∈ σ, p.1 ≠ b) (f1 : d1.flat = true) (f2 : d2.flat = true)
    (hrep : ∀ h v fp, Rep X.C h v d fp → ∃ t u1 u2, v = .ref t ∧ h.IsTuple t #[u1, u2] ∧ Rep X.C h u1 d1 [] ∧ Rep X.C h u2 d2 []) : AsgOk X s₀ A env (.Tuple [.Name a pa, .Name b pb] kd pt) d σ O [(b, d2), (a, d1)] := by
  intro Z W s v fpv E Q y hr h
  obtain ⟨t, u1, u2, rfl, ht, r1, r2⟩ := hrep _ _ _ hr
  refine wpAny_assign_Tuple hA ht (by rfl) (by rfl) fun h' hk => ?_
  have k : Kp s { s with heap := h' } := ⟨⟨_, _, rfl⟩, fun c o e => hk c o (Nat.ne_of_lt (Heap.lt_size e)) e, Nat.le_refl _⟩
  have y' := y.kp k
  refine wpAny_assignInOrder_more ?_
  refine wpAny_assign_Name (st_store y' (Kp.refl _) ha hce (r1.keeps k.keep) (fun c hc => nomatch hc) (del_self hna) (fun z hz => .inr hz) fun s1 y1 => ?_)
  refine wpAny_assignInOrder_more ?_
  have y1' : St X s₀ env ((a, d1) :: σ) O Z W s1 := y1
  have rr : Rep X.C s1.heap u2 d2 [] := (r2.at (h' := s1.heap) fun b hb => nomatch hb)
  refine wpAny_assign_Name (st_store y1' (Kp.refl _) hb hce rr (fun c hc => nomatch hc) (del_self (x := b) fun p hp => ?_) (fun z hz => .inr hz) fun s2 y2 => wpAny_assignInOrder_none (h s2 y2))
  rcases List.mem_cons.mp hp with rfl | hp
  · exact hab
  · exact hnb p hp
theorem rep_ip2 {p : Int × Int} : ∀ h v fp, Rep X.C h v (.ip p) fp → ∃ t u1 u2, v = .ref t ∧ h.IsTuple t #[u1, u2] ∧ Rep X.C h u1 (.int p.1) [] ∧ Rep X.C h u2 (.int p.2) [] := by
  rintro h v fp ⟨b, ⟨rfl, t, u, ht⟩, rfl⟩
  exact ⟨b, _, _, rfl, ht, ⟨⟨_, rfl⟩, rfl⟩, ⟨⟨_, rfl⟩, rfl⟩⟩
theorem rep_sp2 {p : Str × Int} : ∀ h v fp, Rep X.C h v (.sp p) fp → ∃ t u1 u2, v = .ref t ∧ h.IsTuple t #[u1, u2] ∧ Rep X.C h u1 (.str p.1) [] ∧ Rep X.C h u2 (.int p.2) [] := by
  rintro h v fp ⟨b, ⟨rfl, t, u, ht⟩, rfl⟩
  exact ⟨b, _, _, rfl, ht, ⟨⟨_, rfl⟩, rfl⟩, ⟨⟨_, rfl⟩, rfl⟩⟩

theorem IPs.at_i {h : Heap} {vs ps bs} (x : IPs h vs ps bs) : ∀ {i : Nat} {v : Value}, vs[i]? = some v → ∃ p b, ps[i]? = some p ∧ b ∈ bs ∧ IsIP h v p b := by
  induction x with
  | nil => intro i v h; simp at h
  | cons h1 _ ih =>
    intro i v h
    cases i with
    | zero => simp at h; subst h; exact ⟨_, _, rfl, .head _, h1⟩
    | succ i => obtain ⟨p, b, a1, a2, a3⟩ := ih (by simpa using h); exact ⟨p, b, by simpa using a1, .tail _ a2, a3⟩
theorem SPs.at_i {h : Heap} {vs ps bs} (x : SPs h vs ps bs) : ∀ {i : Nat} {v : Value}, vs[i]? = some v → ∃ p b, ps[i]? = some p ∧ b ∈ bs ∧ IsSP h v p b := by
  induction x with
  | nil => intro i v h; simp at h
  | cons h1 _ ih =>
    intro i v h
    cases i with
    | zero => simp at h; subst h; exact ⟨_, _, rfl, .head _, h1⟩
    | succ i => obtain ⟨p, b, a1, a2, a3⟩ := ih (by simpa using h); exact ⟨p, b, by simpa using a1, .tail _ a2, a3⟩

theorem walk_more {prog : Program} {w : World} {A : Around} {I : Addr} {fp wr : List Addr} {N : Nat} {P : Nat → Value → Prop} {Sti : Nat → Heap → Prop} (Wk : Walks prog w A I fp wr N P Sti) (ex : List Addr) (hx : ∀ b ∈ ex, b ∉ wr) :
    Walks prog w A I (fp ++ ex) wr N P (fun i h => Sti i h ∧ ∀ b ∈ ex, ∃ o, h.get? b = some o) where
  sub := fun b hb => List.mem_append_left _ (Wk.sub b hb)
  frame := fun i h h' ⟨h1, h2⟩ hk => ⟨Wk.frame i h h' h1 fun b hb => hk b (List.mem_append_left _ hb), fun b hb => let ⟨o, ho⟩ := h2 b hb; ⟨o, hk b (List.mem_append_right _ hb) o ho⟩⟩
  item := fun i s Q E hi ⟨h1, h2⟩ hQ => Wk.item i s Q E hi h1 fun v h' tk hp hst hk => hQ v h' tk hp ⟨hst, fun b hb => let ⟨o, ho⟩ := h2 b hb; ⟨o, hk b o (hx b hb) ho⟩⟩ hk
  done := fun s Q E ⟨h1, h2⟩ hQ => Wk.done s Q E h1 hQ
  self := fun i s Q E ⟨h1, h2⟩ hQ => Wk.self i s Q E h1 hQ
theorem lot_listiter {prog : Program} {w : World} {A : Around} {E : Value → Shared → Prop} {s : Shared} {elts : List Expr} {x1} {pos : Pos} {I l : Addr} {i : Nat} {v : Value} {Q : Unit → Shared → Prop} (hit : s.heap.IsListIter I l i) (hQ : Q () s) :
    wpAny (model prog w) A (letOwnedTupleGo (.Tuple elts x1 pos) (.ref I) v) Q E s := by
  cases v with
  | ref T => exact wpAny_letOwnedTupleGo_listiter hit hQ
  | _ => exact wpAny_of_eq (a := ()) rfl hQ
theorem tuple_ne_list {h : Heap} {b c : Addr} {vs its : Array Value} (hl : h.PlainList b vs) (ht : h.IsTuple c its) : c ≠ b := by
  rintro rfl
  obtain ⟨q, hl⟩ := hl
  obtain ⟨o, ho, hcls, _⟩ := ht
  rw [hl] at ho; cases ho
  exact absurd hcls (show ¬ (Value.type "list" = Value.type "tuple") by decide)

/-- a list of tuples that a name holds -/
theorem src_ips {elts : List Expr} {kd : Nat} {pt : Pos} {l : List (Int × Int)} (hA : A.handled = none) : ∀ (s : Shared) v fp E, Rep X.C s.heap v (.pl l) fp → Gl X s → wpAny (model X.prog X.w) A (pyIter v) (fun it s₂ => Kp s s₂ ∧ ∃ I fp' wr Sti, it = .ref I ∧ Walks X.prog X.w A I fp' wr l.length (fun i v => i < l.length ∧ ∃ fpv, Rep X.C s₂.heap v (.ip (l.getD i (0, 0))) fpv ∧ ∀ b ∈ fpv, b ∈ fp' ∧ b ∉ wr) Sti ∧ Sti 0 s₂.heap ∧
      (∀ i h, Sti i h → ∀ b ∈ fp', ∃ o, h.get? b = some o) ∧ (∀ b ∈ fp', b ∈ fp ∨ s.heap.get? b = none) ∧ (∀ b ∈ wr, s.heap.get? b = none) ∧
      (∀ i s v Q E, Sti i s.heap → Q () s → wpAny (model X.prog X.w) A (letOwnedTupleGo (.Tuple elts kd pt) (.ref I) v) Q E s)) E s := by
  rintro s _ _ E ⟨b, vs, bs, rfl, hl, hi, rfl⟩ g
  have hlen : vs.length = l.length := ips_len hi
  refine list_walk hA hl fun I o hI hne k W h0 => ?_
  have hbI : ∀ c ∈ bs, c ∉ [I] := fun c hc hq => by
    obtain ⟨o', ho'⟩ := hi.live c hc
    rw [List.mem_singleton.mp hq, hI, none_at_size] at ho'; cases ho'
  have W2 := walk_more W bs hbI
  refine ⟨k, I, [I, b] ++ bs, [I], (fun i h => (h.IsListIter I b i ∧ h.IsList b vs.toArray) ∧ ∀ b ∈ bs, ∃ o, h.get? b = some o), rfl, ?_, ⟨h0, fun c hc => let ⟨o', ho'⟩ := hi.live c hc; ⟨o', k.keep _ _ ho'⟩⟩, fun i h ⟨h1, h2⟩ c hc => ?_, fun c hc => ?_, fun c hc => ?_, fun i s v Q E ⟨h1, h2⟩ q => lot_listiter h1.1 q⟩
  · rw [← hlen]
    refine ⟨W2.sub, W2.frame, fun i s' Q E hlt st hQ => W2.item i s' Q E hlt st fun v h' tk hp hst => hQ v h' tk ?_ hst, W2.done, W2.self⟩
    obtain ⟨p, c, hp1, hp2, hp3⟩ := hi.at_i hp
    refine ⟨hlt, [c], ?_, fun q hq => ?_⟩
    · rw [List.getD_eq_getElem?_getD, hp1]
      exact ⟨c, hp3.at fun o e => k.keep _ _ e, rfl⟩
    · rw [List.mem_singleton.mp hq]
      exact ⟨List.mem_append_right _ hp2, hbI c hp2⟩
  · rcases List.mem_append.mp hc with hc | hc
    · exact listIter_live h1 c hc
    · exact h2 c hc
  · rcases List.mem_append.mp hc with hc | hc
    · rcases List.mem_cons.mp hc with rfl | hc
      · right; rw [hI]; exact none_at_size _
      · left; rw [List.mem_singleton.mp hc]; exact .head _
    · left; exact .tail _ hc
  · rw [List.mem_singleton.mp hc, hI]; exact none_at_size _

/-- tuples, one behind the other, new all -/
def EvsT (X : Cx) (n : Nat) (env : Env) (σ : List (Str × D)) (es : List Expr) (ps : List (Str × Int)) : Prop :=
  ∀ pos A s E, AOk n A → Gl X s → RelR X env s σ → wpAny (model X.prog X.w) A (spliced (backTo pos (starEach es env))) (fun vs s' => Kp s s' ∧ ∃ bs, SPs s'.heap vs ps bs ∧ ∀ b ∈ bs, s.heap.get? b = none) E s
theorem evsT_nil : EvsT X n env σ [] [] := fun _ _ s _ _ _ _ => wpAny_items_nil ⟨Kp.refl s, [], .nil, fun b hb => nomatch hb⟩
theorem evsT_cons {e : Expr} {es : List Expr} {p : Str × Int} {ps : List (Str × Int)} (he : EvF X n env σ e (.sp p)) (hs : EvsT X n env σ es ps) (hx : starEach (e :: es) env = (false, eval e env) :: starEach es env := by rfl) : EvsT X n env σ (e :: es) (p :: ps) :=
  fun pos A s E a g r => wpAny_items_cons (wpAny_mono (he A s E a g r) (fun v s1 ⟨k1, fp, h1, f1⟩ =>
    wpAny_mono (hs pos A s1 E a (g.kp k1) (r.kp k1)) (fun vs s2 ⟨k2, bs, h2, f2⟩ => by
      obtain ⟨b, hb, rfl⟩ := h1
      refine ⟨k1.trans k2, b :: bs, .cons (hb.at fun o e => k2.keep _ _ e) h2, fun c hc => ?_⟩
      rcases List.mem_cons.mp hc with rfl | hc
      · exact f1 _ (.head _)
      · exact k1.fresh (f2 c hc)) fun _ _ x => x) fun _ _ x => x) hx
theorem sps_len {h : Heap} {vs ps bs} (x : SPs h vs ps bs) : vs.length = ps.length := by induction x with | nil => rfl | cons _ _ ih => simp [ih]

/-- a display of tuples, as a loop's source -/
theorem src_sps {es elts : List Expr} {kd : Nat} {pt pos : Pos} {ps : List (Str × Int)} (h : EvsT X n env σ es ps) (hz : ps.length ≤ sizeLine) : SrcF X n env σ (.Tuple elts kd pt) (.List es pos) ps.length (fun i => .sp (ps.getD i (Str.empty, 0))) := fun A s E a g r => by
  refine wpAny_List (wpAny_mono (h pos A s E a g r) (fun vs s1 ⟨k1, bs, hi, hf⟩ => ⟨by rw [sps_len hi]; exact hz, ?_⟩) fun _ _ x => x)
  have hlen : vs.length = ps.length := sps_len hi
  have k2 : Kp s1 { s1 with heap := s1.heap.push { cls := .type "list", data := .seq vs.toArray } } := Kp.push _ _
  have hl := pl_push s1.heap vs
  refine list_walk (X := X) a.hand (s := { s1 with heap := s1.heap.push { cls := .type "list", data := .seq vs.toArray } }) hl fun I o hI hne k W h0 => ?_
  have hbs : ∀ c ∈ bs, ∃ o, s1.heap.get? c = some o := hi.live
  have hbI : ∀ c ∈ bs, c ∉ [I] := fun c hc hq => by
    obtain ⟨o', ho'⟩ := hbs c hc
    have := k2.keep _ _ ho'
    rw [List.mem_singleton.mp hq, hI, none_at_size] at this; cases this
  have W2 := walk_more W bs hbI
  have kk := k2.trans k
  refine ⟨k1.trans kk, I, [I, s1.heap.objs.size] ++ bs, [I], (fun i h => (h.IsListIter I s1.heap.objs.size i ∧ h.IsList s1.heap.objs.size vs.toArray) ∧ ∀ b ∈ bs, ∃ o, h.get? b = some o), rfl, ?_, ⟨h0, fun c hc => let ⟨o', ho'⟩ := hbs c hc; ⟨o', kk.keep _ _ ho'⟩⟩, fun i h ⟨h1, h2⟩ c hc => ?_, fun c hc => ?_, fun i s v Q E ⟨h1, h2⟩ q => lot_listiter h1.1 q⟩
  · rw [← hlen]
    refine ⟨W2.sub, W2.frame, fun i s' Q E hlt st hQ => W2.item i s' Q E hlt st fun v h' tk hp hst => hQ v h' tk ?_ hst, W2.done, W2.self⟩
    obtain ⟨p, c, hp1, hp2, hp3⟩ := hi.at_i hp
    refine ⟨hlt, [c], ?_, fun q hq => ?_⟩
    · have e : ps.getD i (Str.empty, 0) = p := by rw [List.getD_eq_getElem?_getD, hp1]; rfl
      show Rep X.C _ _ (.sp (ps.getD i (Str.empty, 0))) _
      rw [e]
      exact ⟨c, hp3.at fun o e => kk.keep _ _ e, rfl⟩
    · rw [List.mem_singleton.mp hq]
      exact ⟨List.mem_append_right _ hp2, hbI c hp2⟩
  · rcases List.mem_append.mp hc with hc | hc
    · exact listIter_live h1 c hc
    · exact h2 c hc
  · rcases List.mem_append.mp hc with hc | hc
    · rcases List.mem_cons.mp hc with rfl | hc
      · rw [hI]; exact (k1.trans k2).fresh (none_at_size _)
      · rw [List.mem_singleton.mp hc]; exact k1.fresh (none_at_size _)
    · exact hf c hc

/-- x = y, y's thing moved -/
theorem ex_move {x z : Str} {px pz pos : Pos} {d : D} (y : St X s₀ env σ O Z W s) (hm : (z, d) ∈ σ) (hx : KOk env x) (hce : CellsOkN env) (hσ : ∀ p ∈ σ', p ∈ σ ∧ p.1 ≠ x ∧ p.1 ≠ z) (hO : ∀ q ∈ O', q ∈ O ∧ q ≠ x)
    (k : ∀ s', St X s₀ env ((x, d) :: σ') O' Z W s' → Wp X A env rest Q E s') (hs : swapsWith (.Name z pz) (some (.Name x px)) pos.line env = pure false := by rfl) : Wp X A env (.Assign [.Name x px] (.Name z pz) pos :: rest) Q E s := by
  obtain ⟨m, cm, V, FP, y⟩ := y
  refine wpAny_execs_cons (wpAny_Assign_Name (name_var y.ev (y.varIs hm) ?_) hs)
  refine wp_store y hx fun s' m' cm' b hsb hb hcall htk hv hold _ => ?_
  have boff : ∀ a, Off env a → a ≠ b := fun a ho q => by
    rcases hb with rfl | ⟨c, hc, rfl⟩
    · exact ho.1 q
    · exact ho.2 c hc q
  refine k s' ⟨m', cm', fun q => if q = x then V z else V q, fun q => if q = x then FP z else FP q, ?_⟩
  constructor
  · exact hcall
  · exact y.gl
  · exact Nat.le_trans y.tok htk
  · exact y.ev
  · intro p hp
    rcases List.mem_cons.mp hp with rfl | hp
    · simpa using hv
    · obtain ⟨h1, h2, h3⟩ := hσ p hp
      simp only [if_neg h2]
      exact hold _ _ h2 (y.var p h1)
  · intro p hp
    rcases List.mem_cons.mp hp with rfl | hp
    · simp only [if_true]
      exact (y.rep _ hm).at fun c hc o e => hsb.extBut c o (boff c (y.off _ hm c hc).1) e
    · obtain ⟨h1, h2, h3⟩ := hσ p hp
      simp only [if_neg h2]
      exact (y.rep p h1).at fun c hc o e => hsb.extBut c o (boff c (y.off p h1 c hc).1) e
  · intro p hp
    rcases List.mem_cons.mp hp with rfl | hp
    · simp only [if_true]
      exact y.off _ hm
    · obtain ⟨h1, h2, h3⟩ := hσ p hp
      simp only [if_neg h2]
      exact y.off p h1
  · intro p hp ho
    rcases List.mem_cons.mp hp with rfl | hp
    · exact absurd rfl (hO _ ho).2
    · obtain ⟨h1, h2, h3⟩ := hσ p hp
      simp only [if_neg h2]
      exact y.new p h1 (hO _ ho).1
  · intro p hp ho
    rcases List.mem_cons.mp hp with rfl | hp
    · exact absurd rfl (hO _ ho).2
    · obtain ⟨h1, h2, h3⟩ := hσ p hp
      simp only [if_neg h2]
      refine fun a ha => ⟨fun q hq hne => ?_, (y.own p h1 (hO _ ho).1 a ha).2⟩
      rcases List.mem_cons.mp hq with rfl | hq
      · simp only [if_true]
        exact (y.own p h1 (hO _ ho).1 a ha).1 _ hm (Ne.symm h3)
      · obtain ⟨g1, g2, g3⟩ := hσ q hq
        simp only [if_neg g2]
        exact (y.own p h1 (hO _ ho).1 a ha).1 q g1 hne
  · exact fun q hq => ⟨hsb.extBut _ _ (boff _ (y.zed q hq).2) (y.zed q hq).1, (y.zed q hq).2⟩
  · exact y.wz
end W40
end
section
open PySem
set_option linter.unusedVariables false
set_option linter.unusedSimpArgs false
namespace W40
def maskL (path : List Nat) (q : Nat → Bool) : List Int := (List.range path.length).filterMap fun i => if q (path.getD i 0) then some ((2 : Int) ^ i) else none
def mask (path : List Nat) (q : Nat → Bool) : Int := (maskL path q).sum
def isSign (x : Str) (c : Nat) : Bool := decide (S [c] = x)
def triples (a m : Nat) (others : Int) : List (Str × Int) := [(S [a], 1), (S [m], 1), (S [], others)]
def signsTo (path : List Nat) (a m : Nat) (others : Int) (j : Nat) : List (Int × Int) := (((triples a m others).take j).filter fun p => decide (0 < p.2)).map fun p => (mask path (isSign p.1), p.2)
def signsP (path : List Nat) (a m : Nat) (others : Int) : List (Int × Int) := signsTo path a m others 3
def moved0 (places bits stars : Int) : Int := Builtin.bitOr (Builtin.bitAnd places bits * 2) (Builtin.bitAnd places stars)
def spread (m stars : Int) : Int := Builtin.bitOr m (Builtin.bitAnd m stars * 2)
def movedI (places bits stars : Int) : Int := spread (spread (moved0 places bits stars) stars) stars
def grow1 (counts : List (Int × Int)) (stars p : Int) (g : List (Int × Int)) (b : Int × Int) : List (Int × Int) :=
  if 0 < movedI p b.1 stars then storeP g (movedI p b.1 stars) ((lookP g (movedI p b.1 stars)).getD 0 + b.2 * (lookP counts p).getD 0) else g
def rowTo (counts : List (Int × Int)) (stars : Int) (signs : List (Int × Int)) (p : Int) (g : List (Int × Int)) (j : Nat) : List (Int × Int) := (signs.take j).foldl (grow1 counts stars p) g
def growTo (counts : List (Int × Int)) (stars : Int) (signs : List (Int × Int)) (i : Nat) : List (Int × Int) := (counts.take i).foldl (fun g kv => rowTo counts stars signs kv.1 g signs.length) []
def cntsAt (stars : Int) (signs : List (Int × Int)) : Nat → List (Int × Int)
  | 0 => [(1 + Builtin.bitAnd 1 stars * 2, 1)]
  | t + 1 => growTo (cntsAt stars signs t) stars signs (cntsAt stars signs t).length
def toldOf (counts : List (Int × Int)) (pw : Int) : Int := ((List.range counts.length).filterMap fun i => if pw ≤ (counts.getD i (0, 0)).1 then some ((lookP counts (counts.getD i (0, 0)).1).getD 0) else none).sum
def toldTo (stars : Int) (signs : List (Int × Int)) (pw : Int) (t : Nat) : List Int := (List.range t).map fun i => toldOf (cntsAt stars signs i) pw

theorem take_succ_fold {α β : Type} (f : β → α → β) (b : β) (l : List α) (d : α) {i : Nat} (h : i < l.length) : (l.take (i + 1)).foldl f b = f ((l.take i).foldl f b) (l.getD i d) := by
  rw [List.take_add_one, List.getElem?_eq_getElem h, List.getD_eq_getElem?_getD, List.getElem?_eq_getElem h, Option.toList_some, List.foldl_append]; rfl
theorem rowTo_succ {counts : List (Int × Int)} {stars : Int} {signs : List (Int × Int)} {p : Int} {g : List (Int × Int)} {j : Nat} (h : j < signs.length) : rowTo counts stars signs p g (j + 1) = grow1 counts stars p (rowTo counts stars signs p g j) (signs.getD j (0, 0)) := take_succ_fold _ _ _ _ h
theorem growTo_succ {counts : List (Int × Int)} {stars : Int} {signs : List (Int × Int)} {i : Nat} (h : i < counts.length) : growTo counts stars signs (i + 1) = rowTo counts stars signs (counts.getD i (0, 0)).1 (growTo counts stars signs i) signs.length := take_succ_fold _ _ _ _ h
theorem signsTo_succ {path : List Nat} {a m : Nat} {others : Int} {j : Nat} (h : j < 3) : signsTo path a m others (j + 1) = signsTo path a m others j ++ (if 0 < ((triples a m others).getD j (Str.empty, 0)).2 then [(mask path (isSign ((triples a m others).getD j (Str.empty, 0)).1), ((triples a m others).getD j (Str.empty, 0)).2)] else []) := by
  unfold signsTo
  rw [List.take_add_one, List.getElem?_eq_getElem (by exact h), List.getD_eq_getElem?_getD, List.getElem?_eq_getElem (by exact h), Option.toList_some, List.filter_append, List.map_append]
  congr 1
  simp only [Option.getD_some]
  by_cases q : 0 < ((triples a m others)[j]'h).2
  · simp [q]
  · simp [q]
theorem look_mem {l : List (Int × Int)} {k : Int} (h : k ∈ l.map (·.1)) : ∃ x, lookP l k = some x := by
  unfold lookP
  obtain ⟨p, hp, rfl⟩ := List.mem_map.1 h
  cases q : l.find? (fun kv => kv.1 = p.1) with
  | none => have := List.find?_eq_none.1 q p hp; simp at this
  | some r => exact ⟨r.2, rfl⟩
theorem look_at {l : List (Int × Int)} {i : Nat} (h : i < l.length) : lookP l (l.getD i (0, 0)).1 = some ((lookP l (l.getD i (0, 0)).1).getD 0) := by
  obtain ⟨x, hx⟩ := look_mem (l := l) (k := (l.getD i (0, 0)).1) (List.mem_map.2 ⟨_, List.mem_of_getElem? (show l[i]? = some (l.getD i (0, 0)) by rw [List.getD_eq_getElem?_getD, List.getElem?_eq_getElem h]; rfl), rfl⟩)
  rw [hx]; rfl
end W40
end
section
open PySem PySem.W PyProof.Rows
set_option Elab.async false
set_option maxRecDepth 20000
set_option maxHeartbeats 8000000
set_option linter.unusedVariables false
set_option linter.unusedSimpArgs false
set_option pp.deepTerms false
set_option pp.deepTerms.threshold 4
namespace W40
open PySem PySem.W PyProof.Rows PySem.Calls
variable {prog : Program} {w : World} {T : Nat} {n : Nat}

theorem sysLow : SysLow (XX prog w T) := fun s g => by
  have := g.kin 151 _ rfl
  have := Heap.lt_size this
  exact Nat.lt_trans (by decide) this

theorem fn_places {path : List Nat} {a m others top : Nat} (hz : path.length ≤ 100) (htop : top ≤ 1000) (hot : others ≤ 100000)
    (hsz : ∀ t p i j, (rowTo (cntsAt (mask path (isSign (S [42]))) (signsP path a m others) t) (mask path (isSign (S [42]))) (signsP path a m others) p (growTo (cntsAt (mask path (isSign (S [42]))) (signsP path a m others) t) (mask path (isSign (S [42]))) (signsP path a m others) i) j).length ≤ 1000000)
    (hcz : ∀ t, (cntsAt (mask path (isSign (S [42]))) (signsP path a m others) t).length ≤ 1000000) :
    FnOk (XX prog w T) (n + 1) 146 [.str (S path), .str (S [a]), .str (S [m]), .int others, .int top] (.il (toldTo (mask path (isSign (S [42]))) (signsP path a m others) ((2 : Int) ^ path.length) (top + 1))) := by
  refine fn_ok (ps := ["path", "letter", "mark", "others", "top"]) (cns := ["counts", "sign", "path"]) [("path", .str (S path)), ("letter", .str (S [a])), ("mark", .str (S [m])), ("others", .int others), ("top", .int top)] rfl rfl rfl rfl rfl rfl (fun | [_, _, _, _, _], _ => rfl) (by decide) (by decide) rfl (by intro L p hp; simp only [List.mem_cons, List.not_mem_nil, or_false] at hp; rcases hp with rfl | rfl | rfl | rfl | rfl <;> first | exact .inl rfl | exact .inr ⟨rfl, rfl⟩) (fun _ => rfl) (by decide) rfl rfl rfl rfl rfl ?_
  intro A s₀ L s₁ ha hce y
  have ho := y.envOk
  have hlen : (S path).length ≤ sizeLine := by rw [S_len, sizeLine_eq]; omega
  have hlS : ((S path).length : Int) = (path.length : Int) := by rw [S_len]
  refine ex_assign (d := .int (mask path (isSign (S [42])))) y ha (ev_blt ho bn_sum rfl rfl (evs_cons (d := .il (maskL path (isSign (S [42])))) ?_ evs_nil) bl_sum) ⟨rfl, .inl rfl⟩ hce (by repeat (first | exact Del.nil | (apply Del.skip; · rfl) | (apply Del.k; · decide))) (O' := []) (by decide) fun s₂ y => ?_
  · have e : ((List.range ((List.range path.length).map fun (i : Nat) => D.int (i : Int)).length).filterMap fun i => if isSign (S [42]) (path.getD i 0) then some ((2 : Int) ^ i) else none) = maskL path (isSign (S [42])) := by
      rw [List.length_map, List.length_range]; rfl
    rw [← e]
    refine (ev_comp (mk := .int) (isv := isI) (σ0 := [("path", .str (S path))]) dl_ints mk_int rfl rfl (by decide) rfl (.loc rfl (by decide)) (fun _ => rfl) ?_ ?_ ?_ ?_ ?_).ev
    · rw [List.length_map, List.length_range, sizeLine_eq]; omega
    · exact it_n (rng1 ho bn_range rfl (evs_cons ((ev_blt ho bn_len rfl rfl (evs_cons (ev_name ho (by repeat (first | exact List.Mem.head _ | apply List.Mem.tail))) evs_nil) (bl_len_str hlen)).ev.eq (by rw [hlS])) evs_nil)) (by omega)
    · intro q hq
      rw [List.mem_singleton.1 hq]
      exact ⟨(by repeat (first | exact List.Mem.head _ | apply List.Mem.tail)), rfl, fun C => ⟨_, rfl, rfl⟩, .inl rfl⟩
    · intro C i d hd
      obtain ⟨hi, rfl⟩ := rg_at hd
      have hb : (if isSign (S [42]) (path.getD i 0) then some ((2 : Int) ^ i) else none).isSome = decide (S [path.getD i 0] = S [42]) := by
        unfold isSign
        by_cases q : S [path.getD i 0] = S [42] <;> simp only [q, decide_true, decide_false, if_true, Bool.false_eq_true, if_false, Option.isSome_some, Option.isSome_none]
      show Cn _ _ _ _ _ _
      rw [hb]
      exact cn_cmp (ev_sub (ev_name (cEnv_ok ho rfl) (by repeat (first | exact List.Mem.head _ | apply List.Mem.tail))) (ev_name (cEnv_ok ho rfl) (by repeat (first | exact List.Mem.head _ | apply List.Mem.tail))) (get_str (by omega) (by omega) (by rw [Int.toNat_natCast]; exact S_at hi)) (fun _ _ => rfl)).ev ev_str.ev cmp_seq rfl
    · intro C i d v hd hv
      obtain ⟨hi, rfl⟩ := rg_at hd
      split at hv
      · cases hv
        refine (ev_bin ev_int.ev (ev_name (cEnv_ok ho rfl) (by repeat (first | exact List.Mem.head _ | apply List.Mem.tail))) (op_pow (a := 2) (b := (i : Int)) (by omega) ?_)).ev.eq (by rw [Int.toNat_natCast])
        rw [show (Builtin.Int.intBits 2 : Int) = 2 from rfl]; omega
      · cases hv
  refine ex_assign y ha ev_list_nil_pl ⟨rfl, .inl rfl⟩ hce (by repeat (first | exact Del.nil | (apply Del.skip; · rfl) | (apply Del.k; · decide))) (O' := ["signs"]) (by decide) fun s₃ y => ?_
  refine ex_for y ha hce (src_sps (ps := triples a m others) (evsT_cons (ev_tup_si (evs_cons (ev_name ho (by repeat (first | exact List.Mem.head _ | apply List.Mem.tail))) (evs_cons ev_int.ev evs_nil))) (evsT_cons (ev_tup_si (evs_cons (ev_name ho (by repeat (first | exact List.Mem.head _ | apply List.Mem.tail))) (evs_cons ev_int.ev evs_nil))) (evsT_cons (ev_tup_si (i := S []) (evs_cons ev_str.ev (evs_cons (ev_name ho (by repeat (first | exact List.Mem.head _ | apply List.Mem.tail))) evs_nil))) evsT_nil))) (show 3 ≤ sizeLine by decide))
    (sg := fun j => [("signs", .pl (signsTo path a m others j)), ("path", .str (S path)), ("stars", .int (mask path (isSign (S [42])))), ("top", .int top)]) (add := fun j => [("weight", .int ((triples a m others).getD j (Str.empty, 0)).2), ("sign", .str ((triples a m others).getD j (Str.empty, 0)).1)]) (O' := ["signs"]) (SubL.all (by repeat (first | exact SubL.nil | refine SubL.cons (by repeat (first | exact List.Mem.head _ | apply List.Mem.tail)) ?_))) (by decide) (fun i hi => asg_tup ha.hand ⟨rfl, .inr ⟨rfl, _, rfl⟩⟩ ⟨rfl, .inl rfl⟩ (by decide) hce (NoN.all (by repeat (first | exact NoN.nil | refine NoN.c (by decide) ?_))) (NoN.all (by repeat (first | exact NoN.nil | refine NoN.c (by decide) ?_))) rfl rfl rep_sp2) (fun j hj Z' W' E' s' y => ?_) fun s₄ y => ?_
  · have hj : j < 3 := hj
    have hsu := signsTo_succ (path := path) (a := a) (m := m) (others := others) hj
    generalize (triples a m others).getD j (Str.empty, 0) = tr at *
    obtain ⟨sg, wt⟩ := tr
    dsimp only at hsu y
    rw [hsu]
    refine ex_if y ha (cn_cmp (ev_name ho (by repeat (first | exact List.Mem.head _ | apply List.Mem.tail))) ev_int.ev cmp_gt rfl) (fun h s₆ y => ?_) fun h s₆ y => ?_
    · have h := of_decide_eq_true h
      rw [if_pos h]
      refine ex_append (dv := .ip (mask path (isSign sg), wt)) y ha (by repeat (first | exact List.Mem.head _ | apply List.Mem.tail)) (by decide) (ev_tup_ii (evs_cons (ev_blt ho bn_sum rfl rfl (evs_cons (d := .il (maskL path (isSign sg))) ?_ evs_nil) bl_sum).ev (evs_cons (ev_name ho (by repeat (first | exact List.Mem.head _ | apply List.Mem.tail))) evs_nil))) hce (by repeat (first | exact Del.nil | (apply Del.skip; · rfl) | (apply Del.k; · decide))) (ap_ip ?_) (fun s₇ y => ex_nil (ex_nil (y.sub (SubL.all (by repeat (first | exact SubL.nil | refine SubL.cons (by repeat (first | exact List.Mem.head _ | apply List.Mem.tail)) ?_))) (by decide)))) rfl
      · have e : ((List.range ((List.range path.length).map fun (i : Nat) => D.int (i : Int)).length).filterMap fun i => if isSign sg (path.getD i 0) then some ((2 : Int) ^ i) else none) = maskL path (isSign sg) := by
          rw [List.length_map, List.length_range]; rfl
        rw [← e]
        refine (ev_comp (mk := .int) (isv := isI) (σ0 := [("path", .str (S path)), ("sign", .str sg)]) dl_ints mk_int rfl rfl (by decide) rfl (.loc rfl (by decide)) (fun _ => rfl) ?_ ?_ ?_ ?_ ?_).ev
        · rw [List.length_map, List.length_range, sizeLine_eq]; omega
        · exact it_n (rng1 ho bn_range rfl (evs_cons ((ev_blt ho bn_len rfl rfl (evs_cons (ev_name ho (by repeat (first | exact List.Mem.head _ | apply List.Mem.tail))) evs_nil) (bl_len_str hlen)).ev.eq (by rw [hlS])) evs_nil)) (by omega)
        · intro q hq
          simp only [List.mem_cons, List.not_mem_nil, or_false] at hq
          rcases hq with rfl | rfl
          · exact ⟨(by repeat (first | exact List.Mem.head _ | apply List.Mem.tail)), rfl, fun C => ⟨_, rfl, rfl⟩, .inl rfl⟩
          · exact ⟨(by repeat (first | exact List.Mem.head _ | apply List.Mem.tail)), rfl, fun C => ⟨_, rfl, rfl⟩, .inl rfl⟩
        · intro C i d hd
          obtain ⟨hi, rfl⟩ := rg_at hd
          have hb : (if isSign sg (path.getD i 0) then some ((2 : Int) ^ i) else none).isSome = decide (S [path.getD i 0] = sg) := by
            unfold isSign
            by_cases q : S [path.getD i 0] = sg <;> simp only [q, decide_true, decide_false, if_true, Bool.false_eq_true, if_false, Option.isSome_some, Option.isSome_none]
          show Cn _ _ _ _ _ _
          rw [hb]
          exact cn_cmp (ev_sub (ev_name (cEnv_ok ho rfl) (by repeat (first | exact List.Mem.head _ | apply List.Mem.tail))) (ev_name (cEnv_ok ho rfl) (by repeat (first | exact List.Mem.head _ | apply List.Mem.tail))) (get_str (by omega) (by omega) (by rw [Int.toNat_natCast]; exact S_at hi)) (fun _ _ => rfl)).ev (ev_name (cEnv_ok ho rfl) (by repeat (first | exact List.Mem.head _ | apply List.Mem.tail))) cmp_seq rfl
        · intro C i d v hd hv
          obtain ⟨hi, rfl⟩ := rg_at hd
          split at hv
          · cases hv
            refine (ev_bin ev_int.ev (ev_name (cEnv_ok ho rfl) (by repeat (first | exact List.Mem.head _ | apply List.Mem.tail))) (op_pow (a := 2) (b := (i : Int)) (by omega) ?_)).ev.eq (by rw [Int.toNat_natCast])
            rw [show (Builtin.Int.intBits 2 : Int) = 2 from rfl]; omega
          · cases hv
      · unfold signsTo
        rw [List.length_map, sizeLine_eq]
        exact Nat.le_trans (List.length_filter_le _ _) (by rw [List.length_take]; omega)
    · have h := of_decide_eq_false h
      rw [if_neg h, List.append_nil]
      exact ex_nil (ex_nil (y.sub (SubL.all (by repeat (first | exact SubL.nil | refine SubL.cons (by repeat (first | exact List.Mem.head _ | apply List.Mem.tail)) ?_))) (by decide)))
  · have y : St (XX prog w T) s₀ _ [("signs", .pl (signsP path a m others)), ("path", .str (S path)), ("stars", .int (mask path (isSign (S [42])))), ("top", .int top)] _ _ _ s₄ := y
    have hsl : (signsP path a m others).length ≤ 3 := by
      unfold signsP signsTo
      rw [List.length_map]
      exact Nat.le_trans (List.length_filter_le _ _) (by rw [List.length_take]; omega)
    have hw : ∀ b ∈ signsP path a m others, 0 < b.2 ∧ b.2 ≤ 100000 := by
      intro b hb
      unfold signsP signsTo at hb
      obtain ⟨p, hp, rfl⟩ := List.mem_map.1 hb
      have h1 := List.mem_filter.1 hp
      have h2 : p ∈ triples a m others := List.mem_of_mem_take h1.1
      refine ⟨of_decide_eq_true h1.2, ?_⟩
      unfold triples at h2
      simp only [List.mem_cons, List.not_mem_nil, or_false] at h2
      rcases h2 with rfl | rfl | rfl
      · show (1 : Int) ≤ 100000; decide
      · show (1 : Int) ≤ 100000; decide
      · show (others : Int) ≤ 100000; omega
    generalize signsP path a m others = sgs at *
    generalize mask path (isSign (S [42])) = stars at *
    refine ex_assign (d := .mp [(1 + Builtin.bitAnd 1 stars * 2, 1)]) y ha (ev_dict_one (i := 1 + Builtin.bitAnd 1 stars * 2) (j := 1) sysLow ?_ ev_int.ev) ⟨rfl, .inr ⟨rfl, _, rfl⟩⟩ hce (by repeat (first | exact Del.nil | (apply Del.skip; · rfl) | (apply Del.k; · decide))) (O' := []) (by decide) fun s₅ y => ?_
    · refine (ev_bin (d1 := .int 1) (d2 := .int (Builtin.bitAnd 1 stars * 2)) ev_int.ev ?_ op_add).ev
      refine (ev_bin (d1 := .int (Builtin.bitAnd 1 stars)) (d2 := .int 2) ?_ ev_int.ev ?_).ev
      · exact (ev_bin (d1 := .int 1) (d2 := .int stars) ev_int.ev (ev_name ho (by repeat (first | exact List.Mem.head _ | apply List.Mem.tail))) op_and).ev
      · exact op_mul (IntMulOk.of_right (intBits_le_64 (by decide) (by decide)))
    refine ex_assign (d := .il []) y ha (ev_list_ints (l := []) evs_nil (Nat.zero_le _)) ⟨rfl, .inl rfl⟩ hce (by repeat (first | exact Del.nil | (apply Del.skip; · rfl) | (apply Del.k; · decide))) (O' := ["told"]) (by decide) fun s₆ y => ?_
    refine ex_for y ha hce (src_to (N := top + 1) (rng1 ho bn_range rfl (evs_cons (ev_bin (ev_name ho (by repeat (first | exact List.Mem.head _ | apply List.Mem.tail))) ev_int.ev op_add).ev evs_nil)) (by omega))
      (sg := fun t => [("told", .il (toldTo stars sgs ((2 : Int) ^ path.length) t)), ("counts", .mp (cntsAt stars sgs t)), ("signs", .pl sgs), ("path", .str (S path)), ("stars", .int stars)]) (add := fun i => [("size", .int (0 + (i : Int)))]) (O' := ["told"]) (SubL.all (by repeat (first | exact SubL.nil | refine SubL.cons (by repeat (first | exact List.Mem.head _ | apply List.Mem.tail)) ?_))) (by decide) (fun i hi => asg_name ⟨rfl, .inl rfl⟩ hce rfl (NoN.all (by repeat (first | exact NoN.nil | refine NoN.c (by decide) ?_)))) (fun t ht Z' W' E' s' y => ?_) fun s₇ y => ?_
    · have hsz := hsz t
      have hcz := hcz t
      have e0 : toldTo stars sgs ((2 : Int) ^ path.length) (t + 1) = toldTo stars sgs ((2 : Int) ^ path.length) t ++ [toldOf (cntsAt stars sgs t) ((2 : Int) ^ path.length)] := by
        unfold toldTo; rw [List.range_succ, List.map_append]; rfl
      have e1 : cntsAt stars sgs (t + 1) = growTo (cntsAt stars sgs t) stars sgs (cntsAt stars sgs t).length := rfl
      rw [e0, e1]
      have htl : (toldTo stars sgs ((2 : Int) ^ path.length) t).length ≤ sizeLine := by unfold toldTo; rw [List.length_map, List.length_range, sizeLine_eq]; omega
      generalize toldTo stars sgs ((2 : Int) ^ path.length) t = td at *
      generalize cntsAt stars sgs t = cs at *
      refine ex_append (dv := .int (toldOf cs ((2 : Int) ^ path.length))) y ha (by repeat (first | exact List.Mem.head _ | apply List.Mem.tail)) (by decide) (ev_blt ho bn_sum rfl rfl (evs_cons (d := .il ((List.range cs.length).filterMap fun i => if ((2 : Int) ^ path.length) ≤ (cs.getD i (0, 0)).1 then some ((lookP cs (cs.getD i (0, 0)).1).getD 0) else none)) ?_ evs_nil) bl_sum) hce (by repeat (first | exact Del.nil | (apply Del.skip; · rfl) | (apply Del.k; · decide))) (ap_int htl) (fun s₈ y => ?_) rfl
      · have e : ((List.range (cs.map fun kv => D.int kv.1).length).filterMap fun i => if ((2 : Int) ^ path.length) ≤ (cs.getD i (0, 0)).1 then some ((lookP cs (cs.getD i (0, 0)).1).getD 0) else none) = (List.range cs.length).filterMap fun i => if ((2 : Int) ^ path.length) ≤ (cs.getD i (0, 0)).1 then some ((lookP cs (cs.getD i (0, 0)).1).getD 0) else none := by
          rw [List.length_map]
        rw [← e]
        have hat : ∀ {i : Nat} {d : D}, (cs.map fun kv => D.int kv.1)[i]? = some d → i < cs.length ∧ d = .int (cs.getD i (0, 0)).1 := fun {i d} h => by
          rw [List.getElem?_map] at h
          by_cases hi : i < cs.length
          · rw [List.getElem?_eq_getElem hi] at h
            cases h
            exact ⟨hi, by rw [List.getD_eq_getElem?_getD, List.getElem?_eq_getElem hi]; rfl⟩
          · rw [List.getElem?_eq_none (by omega)] at h; cases h
        refine (ev_comp (mk := .int) (isv := isI) (σ0 := [("counts", .mp cs), ("path", .str (S path))]) dl_ints mk_int rfl rfl (by decide) rfl (.loc rfl (by decide)) (fun _ => rfl) ?_ (it_keys ho (by repeat (first | exact List.Mem.head _ | apply List.Mem.tail))) ?_ ?_ ?_).ev
        · rw [List.length_map, sizeLine_eq]; omega
        · intro q hq
          simp only [List.mem_cons, List.not_mem_nil, or_false] at hq
          rcases hq with rfl | rfl
          · exact ⟨(by repeat (first | exact List.Mem.head _ | apply List.Mem.tail)), rfl, fun C => ⟨_, rfl, rfl⟩, .inl rfl⟩
          · exact ⟨(by repeat (first | exact List.Mem.head _ | apply List.Mem.tail)), rfl, fun C => ⟨_, rfl, rfl⟩, .inl rfl⟩
        · intro C i d hd
          obtain ⟨hi, rfl⟩ := hat hd
          have hb : (if ((2 : Int) ^ path.length) ≤ (cs.getD i (0, 0)).1 then some ((lookP cs (cs.getD i (0, 0)).1).getD 0) else none).isSome = decide (((2 : Int) ^ path.length) ≤ (cs.getD i (0, 0)).1) := by
            by_cases q : ((2 : Int) ^ path.length) ≤ (cs.getD i (0, 0)).1 <;> simp only [q, decide_true, decide_false, if_true, if_false, Option.isSome_some, Option.isSome_none]
          show Cn _ _ _ _ _ _
          rw [hb]
          refine cn_cmp (ev_name (cEnv_ok ho rfl) (by repeat (first | exact List.Mem.head _ | apply List.Mem.tail))) ((ev_bin ev_int.ev ((ev_blt (cEnv_ok ho rfl) bn_len rfl rfl (evs_cons (ev_name (cEnv_ok ho rfl) (by repeat (first | exact List.Mem.head _ | apply List.Mem.tail))) evs_nil) (bl_len_str hlen)).ev.eq (by rw [hlS])) (op_pow (a := 2) (b := (path.length : Int)) (by omega) ?_)).ev.eq (by rw [Int.toNat_natCast])) cmp_ge rfl
          rw [show (Builtin.Int.intBits 2 : Int) = 2 from rfl]; omega
        · intro C i d v hd hv
          obtain ⟨hi, rfl⟩ := hat hd
          split at hv
          · cases hv
            exact (ev_sub (ev_name (cEnv_ok ho rfl) (by repeat (first | exact List.Mem.head _ | apply List.Mem.tail))) (ev_name (cEnv_ok ho rfl) (by repeat (first | exact List.Mem.head _ | apply List.Mem.tail))) (get_mp (look_at hi)) (fun _ _ => rfl)).ev
          · cases hv
      · refine ex_assign (d := .mp []) y ha (ev_dict_nil sysLow) ⟨rfl, .inl rfl⟩ hce (by repeat (first | exact Del.nil | (apply Del.skip; · rfl) | (apply Del.k; · decide))) (O' := ["told", "grown"]) (by decide) fun s₉ y => ?_
        refine ex_for_name y ha hce (d := .mp cs) (item := fun i => .int (cs.getD i (0, 0)).1) (by repeat (first | exact List.Mem.head _ | apply List.Mem.tail)) (by decide) (src_keys ha.hand)
          (sg := fun i => [("grown", .mp (growTo cs stars sgs i)), ("told", .il (td ++ [toldOf cs ((2 : Int) ^ path.length)])), ("counts", .mp cs), ("signs", .pl sgs), ("path", .str (S path)), ("stars", .int stars)]) (add := fun i => [("places", .int (cs.getD i (0, 0)).1)]) (O' := ["told", "grown"]) (SubL.all (by repeat (first | exact SubL.nil | refine SubL.cons (by repeat (first | exact List.Mem.head _ | apply List.Mem.tail)) ?_))) (by decide) (fun i hi => asg_name ⟨rfl, .inl rfl⟩ hce rfl (NoN.all (by repeat (first | exact NoN.nil | refine NoN.c (by decide) ?_)))) (fun i hi Z' W' E' s' y => ?_) fun s₁₀ y => ?_
        · rw [growTo_succ hi]
          have hlk := look_at hi
          have hsz := hsz (cs.getD i (0, 0)).1 i
          generalize growTo cs stars sgs i = g0 at *
          generalize (cs.getD i (0, 0)).1 = p at *
          refine ex_for_name y ha hce (d := .pl sgs) (item := fun j => .ip (sgs.getD j (0, 0))) (by repeat (first | exact List.Mem.head _ | apply List.Mem.tail)) (by decide) (src_ips ha.hand)
            (sg := fun j => [("grown", .mp (rowTo cs stars sgs p g0 j)), ("places", .int p), ("told", .il (td ++ [toldOf cs ((2 : Int) ^ path.length)])), ("counts", .mp cs), ("signs", .pl sgs), ("path", .str (S path)), ("stars", .int stars)]) (add := fun j => [("weight", .int (sgs.getD j (0, 0)).2), ("bits", .int (sgs.getD j (0, 0)).1)]) (O' := ["told", "grown"]) (SubL.all (by repeat (first | exact SubL.nil | refine SubL.cons (by repeat (first | exact List.Mem.head _ | apply List.Mem.tail)) ?_))) (by decide) (fun j hj => asg_tup ha.hand ⟨rfl, .inl rfl⟩ ⟨rfl, .inl rfl⟩ (by decide) hce (NoN.all (by repeat (first | exact NoN.nil | refine NoN.c (by decide) ?_))) (NoN.all (by repeat (first | exact NoN.nil | refine NoN.c (by decide) ?_))) rfl rfl rep_ip2) (fun j hj Z' W' E' s' y => ?_) fun s₁₁ y => ex_nil (y.sub (SubL.all (by repeat (first | exact SubL.nil | refine SubL.cons (by repeat (first | exact List.Mem.head _ | apply List.Mem.tail)) ?_))) (by decide))
          rw [rowTo_succ hj]
          have hszj := hsz j
          have hwj := hw (sgs.getD j (0, 0)) (List.mem_of_getElem? (show sgs[j]? = some (sgs.getD j (0, 0)) by rw [List.getD_eq_getElem?_getD, List.getElem?_eq_getElem hj]; rfl))
          generalize rowTo cs stars sgs p g0 j = g1 at *
          generalize sgs.getD j (0, 0) = bw at *
          obtain ⟨bt, wt⟩ := bw
          dsimp only at y hwj
          have m2 : ∀ {x : Int} {n : Nat}, OpOk (XX prog w T) n .Mult (.int x) (.int 2) (.int (x * 2)) := fun {x n} => op_mul (IntMulOk.of_right (intBits_le_64 (by decide) (by decide)))
          refine ex_assign (d := .int (moved0 p bt stars)) y ha (ev_bin (ev_bin (ev_bin (ev_name ho (by repeat (first | exact List.Mem.head _ | apply List.Mem.tail))) (ev_name ho (by repeat (first | exact List.Mem.head _ | apply List.Mem.tail))) op_and).ev ev_int.ev m2).ev (ev_bin (ev_name ho (by repeat (first | exact List.Mem.head _ | apply List.Mem.tail))) (ev_name ho (by repeat (first | exact List.Mem.head _ | apply List.Mem.tail))) op_and).ev op_or) ⟨rfl, .inl rfl⟩ hce (by repeat (first | exact Del.nil | (apply Del.skip; · rfl) | (apply Del.k; · decide))) (O' := ["told", "grown"]) (by decide) fun s₁₂ y => ?_
          refine ex_aug (d := .int (spread (moved0 p bt stars) stars)) y ha (by repeat (first | exact List.Mem.head _ | apply List.Mem.tail)) (ev_bin (ev_bin (ev_name ho (by repeat (first | exact List.Mem.head _ | apply List.Mem.tail))) (ev_name ho (by repeat (first | exact List.Mem.head _ | apply List.Mem.tail))) op_and).ev ev_int.ev m2).ev in_or ⟨rfl, .inl rfl⟩ hce (by repeat (first | exact Del.nil | (apply Del.skip; · rfl) | (apply Del.k; · decide))) (O' := ["told", "grown"]) (by decide) fun s₁₃ y => ?_
          refine ex_aug (d := .int (movedI p bt stars)) y ha (by repeat (first | exact List.Mem.head _ | apply List.Mem.tail)) (ev_bin (ev_bin (ev_name ho (by repeat (first | exact List.Mem.head _ | apply List.Mem.tail))) (ev_name ho (by repeat (first | exact List.Mem.head _ | apply List.Mem.tail))) op_and).ev ev_int.ev m2).ev in_or ⟨rfl, .inl rfl⟩ hce (by repeat (first | exact Del.nil | (apply Del.skip; · rfl) | (apply Del.k; · decide))) (O' := ["told", "grown"]) (by decide) fun s₁₄ y => ?_
          unfold grow1
          dsimp only
          generalize movedI p bt stars = mv at *
          refine ex_if y ha (cn_cmp (ev_name ho (by repeat (first | exact List.Mem.head _ | apply List.Mem.tail))) ev_int.ev cmp_gt rfl) (fun h s₆ y => ?_) fun h s₆ y => ?_
          · have h := of_decide_eq_true h
            rw [if_pos h]
            refine ex_set_mp (k := mv) (v := (lookP g1 mv).getD 0 + wt * (lookP cs p).getD 0) y ha (by repeat (first | exact List.Mem.head _ | apply List.Mem.tail)) (by decide) ?_ (ev_name ho (by repeat (first | exact List.Mem.head _ | apply List.Mem.tail))) (by rw [sizeLine_eq]; omega) hce (by repeat (first | exact Del.nil | (apply Del.skip; · rfl) | (apply Del.k; · decide))) fun s₁₅ y => ex_nil (ex_nil (y.sub (SubL.all (by repeat (first | exact SubL.nil | refine SubL.cons (by repeat (first | exact List.Mem.head _ | apply List.Mem.tail)) ?_))) (by decide)))
            refine (ev_bin (ev_meth (ev_name ho (by repeat (first | exact List.Mem.head _ | apply List.Mem.tail))) (evs_cons (ev_name ho (by repeat (first | exact List.Mem.head _ | apply List.Mem.tail))) (evs_cons ev_int.ev evs_nil)) me_get (fun _ => rfl) rfl).ev (ev_bin (ev_name ho (by repeat (first | exact List.Mem.head _ | apply List.Mem.tail))) (ev_sub (ev_name ho (by repeat (first | exact List.Mem.head _ | apply List.Mem.tail))) (ev_name ho (by repeat (first | exact List.Mem.head _ | apply List.Mem.tail))) (get_mp hlk) (fun _ _ => rfl)).ev (op_mul (IntMulOk.of_left (intBits_le_64 (by omega) (by omega))))).ev op_add).ev
          · have h := of_decide_eq_false h
            rw [if_neg h]
            exact ex_nil (ex_nil (y.sub (SubL.all (by repeat (first | exact SubL.nil | refine SubL.cons (by repeat (first | exact List.Mem.head _ | apply List.Mem.tail)) ?_))) (by decide)))
        · exact ex_move y (by repeat (first | exact List.Mem.head _ | apply List.Mem.tail)) ⟨rfl, .inr ⟨rfl, _, rfl⟩⟩ hce (O' := ["told"]) (σ' := [("told", .il (td ++ [toldOf cs ((2 : Int) ^ path.length)])), ("signs", .pl sgs), ("path", .str (S path)), ("stars", .int stars)]) (fun p hp => ⟨(SubL.all (by repeat (first | exact SubL.nil | refine SubL.cons (by repeat (first | exact List.Mem.head _ | apply List.Mem.tail)) ?_))) p hp, (NoN.all (by repeat (first | exact NoN.nil | refine NoN.c (by decide) ?_))) p hp, (NoN.all (by repeat (first | exact NoN.nil | refine NoN.c (by decide) ?_))) p hp⟩) (by decide) fun s₁₁ y => ex_nil (y.sub (SubL.all (by repeat (first | exact SubL.nil | refine SubL.cons (by repeat (first | exact List.Mem.head _ | apply List.Mem.tail)) ?_))) (by decide))
    · exact ex_return_own y (by repeat (first | exact List.Mem.head _ | apply List.Mem.tail)) (by decide) fun v s' hp => ⟨v, rfl, hp⟩
end W40
end
section
open PySem PySem.W PyProof.Rows
set_option Elab.async false
set_option maxRecDepth 100000
set_option maxHeartbeats 8000000
set_option linter.unusedVariables false
namespace W40
open PySem PySem.W PyProof.Rows PySem.Calls
noncomputable abbrev prg : Program := Challenge.rw_wn0040_01.row.toRowW.prog
noncomputable def view : Program := { prg with main := { prg.main with body := [0, 2, 4, 5, 7, 8, 10, 12, 13, 14, 15, 16, 17, 18, 19, 20].map stm } }
def addrs : List Addr := [2, 3, 15, 17, 18, 20, 21, 29, 31, 32, 34, 35, 36, 38, 39, 41, 42, 43, 45, 46, 48, 49, 50, 52, 53, 55, 56, 57, 58, 59, 60, 61, 65, 69, 71, 72, 74, 75, 76, 78, 79, 81, 82, 83, 85, 86, 88, 89, 90, 92, 93, 95, 96, 97, 99, 100, 102, 103, 104, 106, 107, 109, 110, 111, 113, 114, 116, 117, 118, 120, 121, 123, 124, 125, 128, 129, 130, 132, 133, 135, 136, 137, 140, 141, 142, 145, 146, 147, 150, 151]
theorem addrs_is (P : Params) : addrs = (frag P).map (·.1) := by kernel_rfl
noncomputable abbrev hook : Hook := kHook frag addrs addrs_is
abbrev LO (w : World) : Prop := (openEnds treeTable prg w 4216).map (fun s => (openSeen view ["_special_chars_map"] (importedModules prg.main.body) (fun s => xlAt view [] s && recOk (RowW.records Challenge.rw_wn0040_01.row.toRowW) s) true s, Hook.obs hook s)) = some (openGood view ["_special_chars_map"], Hook.val hook w)
abbrev ro1 : String := "comprehension-iter-twice"
abbrev ro2 : String := "special-get-raises"
theorem lo_ff (w : World) : LO ((w.withFollow ro2 false).withFollow ro1 false) := by
  unfold LO openEnds fencedOpening topFrom
  rw [Fast.te10274390034422433532, Fast.te1435165496053646825, Fast.te14289696077712309145, Fast.te14082659384304107361, Fast.te14364793385576792824, Fast.te4187177175401517315, Fast.te5923862056798008813]
  kernel_rfl
theorem lo_tf (w : World) : LO ((w.withFollow ro2 true).withFollow ro1 false) := by
  unfold LO openEnds fencedOpening topFrom
  rw [Fast.te10274390034422433532, Fast.te1435165496053646825, Fast.te14289696077712309145, Fast.te14082659384304107361, Fast.te14364793385576792824, Fast.te4187177175401517315, Fast.te5923862056798008813]
  kernel_rfl
theorem lo_ft (w : World) : LO ((w.withFollow ro2 false).withFollow ro1 true) := by
  unfold LO openEnds fencedOpening topFrom
  rw [Fast.te10274390034422433532, Fast.te1435165496053646825, Fast.te14289696077712309145, Fast.te14082659384304107361, Fast.te14364793385576792824, Fast.te4187177175401517315, Fast.te5923862056798008813]
  kernel_rfl
theorem lo_tt (w : World) : LO ((w.withFollow ro2 true).withFollow ro1 true) := by
  unfold LO openEnds fencedOpening topFrom
  rw [Fast.te10274390034422433532, Fast.te1435165496053646825, Fast.te14289696077712309145, Fast.te14082659384304107361, Fast.te14364793385576792824, Fast.te4187177175401517315, Fast.te5923862056798008813]
  kernel_rfl
theorem left_ok : LeftO prg view ["_special_chars_map"] (fun s => xlAt view [] s && recOk (RowW.records Challenge.rw_wn0040_01.row.toRowW) s) (Hook.obs hook) (Hook.val hook) 4216 :=
  byRow2 ro1 (P := LO) (byRow2 ro2 (P := fun w => LO (w.withFollow ro1 false)) lo_ff lo_tf) (byRow2 ro2 (P := fun w => LO (w.withFollow ro1 true)) lo_ft lo_tt)
theorem law_said : Challenge.rw_wn0040_01.wellSaid = true := by
  rw [Fast.te9446332074065402090]
  kernel_rfl
theorem law_left {d : DefRec} {kwd : List (Str × Expr)} (hdef : defOf view "law" = some (d, kwd)) (hp : prg.theDef "law" = some (d.params, d.body, d.scope)) (hk : kwWritten? d.params.kwonlyargs d.params.kw_defaults = some kwd)
    (call : WalkO view ["_special_chars_map"] (XL view []) (Hook.says hook) Challenge.rw_wn0040_01.row.toRowW d kwd fun f vs => PySem.call f vs) : Challenge.rw_wn0040_01.Holds := by
  refine holds_law law_said fun said => ?_
  refine holds_open (q := view) (loose := ["_special_chars_map"]) (Xt := fun s => xlAt view [] s && recOk (RowW.records Challenge.rw_wn0040_01.row.toRowW) s) (XP := XL view []) (Yf := Hook.obs hook) (Ya := Hook.val hook) (YP := Hook.says hook) (N := 4216) left_ok (Hook.of hook) (Hook.keeps hook) (fun s e => xl_of s (Bool.and_eq_true_iff.mp e).1) XL.keeps hdef hp hk (fun s e => recFacts_of (Bool.and_eq_true_iff.mp e).2) (by rfl) said (by decide +kernel) ⟨rfl, rfl, rfl, rfl, rfl, by decide +kernel⟩ ?hw call
  w_witness2
end W40
end
section
open PySem PySem.W PyProof.Rows
set_option Elab.async false
set_option maxRecDepth 100000
set_option maxHeartbeats 8000000
set_option linter.unusedVariables false
set_option pp.deepTerms false
set_option pp.deepTerms.threshold 5
namespace W40
theorem callerA_ok : AOk 40 callerA := by
  refine ⟨rfl, ?_, ?_⟩
  · decide +kernel
  · decide +kernel
theorem law_ends (fn_law : ∀ (prog : Program) (w : World) (l : List Int), l.length ≤ 63 → FnOk (XX prog w 0) 40 151 [.il l] (.bool true)) : PySem.Challenge.rw_wn0040_01.Holds := law_left (by rfl) (by rfl) (by rfl) (by
  intro w s₀ s₁ mg mb G Y fa o pm cd doc dV kV ho hd' hcd hD hmg hg args vals as hpre hlay hrd hwl hlo
  have KX := kIn_of Y
  refine Ground.open G ?_
  intro T B D TE TW
  have hfa : fa = 151 := by
    have h1 := mg_of KX T.g (by rfl : nsIn (frag w.params) mainGlobals "law" = some (some (.ref 151)))
    have h2 : mg "law" = some (.ref fa) := hmg
    rw [h1] at h2
    cases h2; rfl
  subst hfa
  clear ho hd' hcd hD hmg
  wrow_args hpre hlay hrd hwl hlo
  rename_i l _ _ _ _ _ _ _ a vs _ hL _ w1 _ hI _ hle _
  have hPL : s₁.heap.PlainList a vs.toArray := by
    obtain ⟨o, ho, hc, n, hd⟩ := hL
    cases w1 with
    | list h1 _ =>
      rw [h1] at ho
      cases ho
      cases hd
      exact ⟨_, h1⟩
  have gl : Gl (XX Challenge.rw_wn0040_01.row.prog w 0) s₁ := ⟨KX, ⟨mg, mb, T.g, T.b, T.builtins⟩, T.nolimit, Nat.zero_le _⟩
  refine wpAny_mono (fn_law Challenge.rw_wn0040_01.row.prog w l (by omega) callerA s₁ _ [.ref a] callerA_ok gl (.cons ⟨a, vs, rfl, hPL, hI, rfl⟩ .nil)) (fun v s' ⟨k, fp, hv, _⟩ => ?_) fun _ _ e => e
  obtain ⟨rfl, _⟩ := hv
  refine GoodW.toG ⟨.inl ⟨_, .bool true, [], rfl, ?_, ?_, ?_, ?_⟩, k.keep, ?_, ?_⟩
  · intro cls; rfl
  · exact .bool true
  · exact postW_of (by wrow_shape) (by wtm_val) (by w_fin)
  · exact fun _ => ⟨List.nodup_nil, fun a h => nomatch h⟩
  · obtain ⟨h, tk, rfl⟩ := k.same; rfl
  · obtain ⟨h, tk, rfl⟩ := k.same; exact hg)
end W40
end
section
open PySem PySem.W PyProof.Rows
set_option Elab.async false
set_option maxRecDepth 20000
set_option maxHeartbeats 8000000
set_option linter.unusedVariables false
set_option linter.unusedSimpArgs false
namespace W40
open PySem PySem.W PyProof.Rows PySem.Calls
variable {X : Cx} {n : Nat} {env : Env} {σ σ' : List (Str × D)} {O O' : List Str} {Z Z' : List (Addr × Obj)} {W W' : List Addr} {s₀ s : Shared} {A : Around} {E : Value → Shared → Prop} {Q : Flow → Shared → Prop} {rest : List Stmt}

/-- y = [.. for x in ..], with the exchange of the stores -/
theorem ex_assign_comp {β : Type} {isv : β → Value → Prop} {mk : β → D} {dl : List β → D} {res : Nat → Option β} {elt iter : Expr} {x z : Str} {px pz : Pos} {ifs : List Expr} {scope : Scope} {cl : List (Str × Addr)} {pos spos : Pos} {src : List D} {σ0 : List (Str × D)}
    (y : St X s₀ env σ O Z W s) (a : AOk n A) (hz : KOk env z) (hce : CellsOkN env) (hd : Del z σ σ') (hO : ∀ q ∈ O', q = z ∨ q ∈ O)
    (hsw : swapsWith (.ListComp elt [⟨.Name x px, iter, ifs, 0⟩] scope pos) (some (.Name z pz)) spos.line env = pure true)
    (hdl : ∀ h Da ys l, Heap.PlainList h Da (List.toArray ys) → AllIs isv ys l → Rep X.C h (.ref Da) (dl l) [Da])
    (hmk : ∀ y v h fp, Rep X.C h v (mk y) fp → isv y v)
    (hclos : closureFor scope env = pure cl) (hk : scope.kind = .function) (hnames : ∀ y ∈ scope.names, y.2 = .local → scope.names.lookup y.1 = some .local) (hp : plainName x = true) (hx : XKind scope cl x)
    (hs : ∀ x, foldedSetIterable iter env x = pure x) (hsz : src.length ≤ sizeLine)
    (hi : It X n env σ iter src) (hσ : ∀ p ∈ σ0, p ∈ σ ∧ Seen env scope cl p.1)
    (ht : ∀ C i d, src[i]? = some d → Tests X n (cEnv scope cl C env) ((x, d) :: σ0) ifs (res i).isSome)
    (he : ∀ C i d y, src[i]? = some d → res i = some y → Ev X n (cEnv scope cl C env) ((x, d) :: σ0) elt (mk y))
    (kk : ∀ s', St X s₀ env ((z, dl ((List.range src.length).filterMap res)) :: σ') O' Z W s' → Wp X A env rest Q E s') : Wp X A env (.Assign [.Name z pz] (.ListComp elt [⟨.Name x px, iter, ifs, 0⟩] scope pos) spos :: rest) Q E s := by
  refine wpAny_execs_cons ?_
  rw [exec_Assign_Name_used _ _ _ _ hsw]
  refine wpAny_bind (wpAny_standAt (wpAny_bind ?_))
  show wpAny _ A (do let _ ← comprehension (.ListComp elt [⟨.Name x px, iter, ifs, 0⟩] scope pos) scope env _ (newList []) false (eval iter env) (some (assign (.Name z pz) env))) _ _ s
  refine wpAny_bind (wpAny_mono (wpAny_comprehension_free (use := some (assign (.Name z pz) env)) (Q := fun _ s' => Wp X A env rest Q E s') rfl hs hclos hk hnames
    (wpAny_mono (hi A s E a y.gl y.rel) (fun xv s₁ h₁ => wpAny_mono h₁ (fun it s₂ h₂ => ?_) fun _ _ e => e) fun _ _ e => e)) (fun _ s' hq => wpAny_pure (wpAny_pure hq)) fun _ _ e => e)
  obtain ⟨k, I, fp, wr, Sti, rfl, Wk, hst, hfp, hwr⟩ := h₂
  refine comp_block (RR := fun acc C => compPost (model X.prog X.w) A E (some (assign (.Name z pz) env)) (fun _ s' => Wp X A env rest Q E s') acc C) Wk hsz hk hp hx hfp hst (turn_of a y.gl y.rel k hwr hσ hmk ht he) ?_
  intro Da C h' tk ys hD hC hDC hn hl hF hk' htk
  obtain ⟨mC, hmC⟩ := hn
  show wpAny _ A (assign (.Name z pz) env (.ref Da)) _ _ _
  obtain ⟨m, cm, V, FP, yD⟩ := y
  have kK : Kp s { s₂ with heap := h', toks := tk } := by
    obtain ⟨h₂, t₂, rfl⟩ := k.same
    exact ⟨⟨_, _, rfl⟩, fun b o e => hk' b o (fun hb => by rw [hwr b hb] at e; cases e) (k.keep b o e), Nat.le_trans k.tok htk⟩
  have hCs := k.fresh hC
  have offC := yD.frame_live hce hCs
  refine wpAny_assign_Name (st_storeD yD kK hz hce (hdl _ _ _ _ hl hF) (fun b hb => by rw [List.mem_singleton.mp hb]; exact k.fresh hD) hd hO fun s' m' cm' y' _ hb => ?_)
  obtain ⟨b, hsb, hb⟩ := hb
  have hCb : C ≠ b := by
    rcases hb with rfl | ⟨c, hc, rfl⟩
    · exact offC.1
    · exact offC.2 c hc
  refine ⟨mC, hmC.sameBut hsb hCb, fun h'' hs'' => kk _ ⟨m', cm', _, _, y'.but hs'' offC (fun p hp hq => ?_) (fun q hq e => ?_) (yD.base.fresh hCs)⟩⟩
  · rcases List.mem_cons.mp hp with rfl | hp
    · simp only [if_true] at hq
      exact hDC (List.mem_singleton.mp hq).symm
    · obtain ⟨h1, h2⟩ := hd.mem p hp
      simp only [if_neg h2] at hq
      obtain ⟨o, ho⟩ := (yD.rep p h1).live C hq
      rw [hCs] at ho; cases ho
  · have := (yD.zed q hq).1
    rw [← e, hCs] at this; cases this

theorem Ev.st {e : Expr} {x : Str} {m : Nat} (h : Ev X n env σ e (.st x m)) : Ev X n env σ e (.str x) := fun A s E a g r => wpAny_mono (h A s E a g r) (fun v s' ⟨k, fp, ⟨t, hv, _⟩, hf⟩ => ⟨k, fp, ⟨⟨t, hv⟩, hf⟩⟩) fun _ _ x => x

/-- x = 'text'[i]: the sign's token -/
theorem ex_assign_sign {x : Str} {px pos p1 : Pos} {value slice : Expr} {tx : Str} {i : Int} {c : Nat} (hT : 1 ≤ X.T) (y : St X s₀ env σ O Z W s) (a : AOk n A) (hv : Ev X n env σ value (.str tx)) (hi : Ev X n env σ slice (.int i)) (h0 : 0 ≤ i) (hf : i < 2 ^ 63) (hc : tx.cps[i.toNat]? = some c)
    (hx : KOk env x) (hce : CellsOkN env) (hd : Del x σ σ') (hO : ∀ z ∈ O', z = x ∨ z ∈ O) (hsub : ∀ o i, subscripted slice false o i = operate [o, i] (getItem o i))
    (k : ∀ s' T0, St X s₀ env ((x, .st ⟨#[c]⟩ T0) :: σ') O' Z W s' → X.T < T0 → T0 ≤ s'.toks → Wp X A env rest Q E s') (hs : swapsWith (.Subscript value slice p1) (some (.Name x px)) pos.line env = pure false := by rfl) : Wp X A env (.Assign [.Name x px] (.Subscript value slice p1) pos :: rest) Q E s := by
  refine wpAny_execs_cons (wpAny_Assign_Name (Subscript_ (wpAny_mono (hv A s E a y.gl y.rel) (fun v1 s1 ⟨k1, fp1, ⟨t, hv1⟩, _⟩ => wpAny_mono (hi A s1 E a (y.gl.kp k1) (y.rel.kp k1)) (fun v2 s2 ⟨k2, fp2, ⟨u, hv2⟩, _⟩ => ?_) fun _ _ x => x) fun _ _ x => x)) hs)
  subst hv1 hv2
  have k12 := k1.trans k2
  have g2 := (y.gl.kp k12).tok
  have hlt : i.toNat < tx.length := by
    obtain ⟨h, _⟩ := Array.getElem?_eq_some_iff.mp hc; exact h
  refine tail_any (T := "str") (typeIs_str _ _ t) F.slot_str_getitem.lookup (PyProof.Rows.getItem_str (c := c) (by simp; omega) (StrLaws.at_nonneg h0 hc) ?_) (hsub _ _)
  have k3 : Kp s { s2 with toks := s2.toks + 1 } := k12.trans (Kp.tok1 s2)
  exact wpAny_mono (wpAny_toks (st_store (E := E) (M := model X.prog X.w) (A := A) y k3 hx hce (d := .st ⟨#[c]⟩ (s2.toks + 1)) (fp := []) ⟨⟨s2.toks, rfl, by omega, Nat.lt_succ_self _⟩, rfl⟩ (fun b hb => nomatch hb) hd hO fun s' y' => (y' : St X s₀ env ((x, .st ⟨#[c]⟩ (s2.toks + 1)) :: σ') O' Z W s'))) (fun _ s' hq => k s' (s2.toks + 1) hq.2 (by omega) hq.1) fun _ _ e => e.2

/-- x.replace(m, '\\\\' + m), m's token known -/
theorem ev_guard {o e1 e2 : Expr} {x : List Nat} {y : Str} {c T0 k1' : Nat} {q1 apos p2 pos : Pos} (hT : T0 ≤ X.T) (h0 : Ev X n env σ o (.str (S x))) (h1 : Ev X n env σ e1 (.st (S [c]) T0)) (h2 : Ev X n env σ e2 (.st (S [c]) T0)) (hy : y = S [92]) (hl : x.length ≤ 1000000)
    (hbase : ∀ whole, attributeBase o "replace" env whole = whole) (hline : (apos.endLine == pos.line) = true)
    (hx : starEach [e1, .BinOp (.Constant (.str y) k1' q1) .Add e2 p2] env = [(false, eval e1 env), (false, eval (.BinOp (.Constant (.str y) k1' q1) .Add e2 p2) env)])
    (hfew : ((backTo pos (starEach [e1, .BinOp (.Constant (.str y) k1' q1) .Add e2 p2] env)).all (fun x => !x.1) && (backToKw pos (keywordEach [] env)).all (fun x => x.1.isSome) && decide ([e1, Expr.BinOp (.Constant (.str y) k1' q1) .Add e2 p2].length + ([] : List Keyword).length + (if ([] : List Keyword).isEmpty then 0 else 1) < 30)) = true)
    (hany : (backTo pos (starEach [e1, .BinOp (.Constant (.str y) k1' q1) .Add e2 p2] env)).any (·.1) = false) : EvF X n env σ (.Call (.Attribute o "replace" apos) [e1, .BinOp (.Constant (.str y) k1' q1) .Add e2 p2] [] pos) (.str (S (subL c [92, c] x))) := fun A s E a g r => by
  subst hy
  refine tok_up (wpAny_Call_method_lateS (hbase _) hfew hline (wpAny_mono (h0 A s E a g r) (fun v s1 ⟨k1, fp, ⟨t, hv⟩, _⟩ => ?_) fun _ _ x => x))
  subst hv
  refine ⟨"str", _, F.plainAttrs_str, F.slot_str_replace, F.type_str_replace, rfl, (fun a e => nomatch e), callWith_builtin hany ?_⟩
  rw [hx]
  refine evalArgs_plain (spliced_cons (wpAny_mono (h1 A s1 E a (g.kp k1) (r.kp k1)) (fun v s2 ⟨k2, fp2, ⟨u, hu, hu1, hu2⟩, _⟩ => ?_) fun _ _ x => x))
  subst hu
  have k12 := k1.trans k2
  refine spliced_cons (wpAny_BinOp (wpAny_Constant_str (k := k1') (pos := q1) ?_))
  have k3 := k12.trans (Kp.tok1 s2)
  refine wpAny_mono (h2 A _ E a (g.kp k3) (r.kp k3)) (fun v s3 ⟨k4, fp3, ⟨u', hu', _⟩, _⟩ => ?_) fun _ _ x => x
  subst hu'
  have k5 := k3.trans k4
  have htok := (g.kp k5).tok
  refine P.add_str ?_
  rw [show ((S [92]).length == 0) = false from rfl, show ((S [c]).length == 0) = false from rfl]
  simp only [Bool.false_eq_true, if_false]
  rw [S_cat]
  refine ⟨by rw [S_len, sizeLine_eq]; show 2 ≤ 16777216; decide, ?_⟩
  refine spliced_nil ?_
  refine SC.replace (by show @Ne Nat _ _; omega) (by show @Ne Nat _ _; omega) (by show @Ne Nat _ _; omega) ?_ (by rw [S_len, S_len]; simp; omega) fun t' k ht => ?_
  · rw [beq_eq_false_iff_ne]
    intro q
    have := congrArg Str.length q
    rw [S_len, S_len] at this
    simp at this
  · rw [show ([92] ++ [c] : List Nat) = [92, c] from rfl, replace_S]
    obtain ⟨h1, t1, rfl⟩ := k5.same
    exact PostF.flatV ⟨⟨_, _, rfl⟩, k5.keep, ht⟩ ⟨⟨_, rfl⟩, rfl⟩

section
open PyProof.V PySem.Spec PySem.SeqAt
theorem readsAll_strs {h : Heap} : ∀ {vs : List Value} {l : List Str}, StrsAre vs l → ReadsAll h vs (l.map PyData.str) []
  | _, _, .nil => .nil
  | _, _, .cons x t r => by
    have := ReadsAll.cons (.str x t) (readsAll_strs (h := h) r)
    simpa using this
theorem reads_strs {h : Heap} {a : Addr} {vs : List Value} {l : List Str} (hl : h.IsList a vs.toArray) (hi : StrsAre vs l) : Reads h (.ref a) (.list (l.map PyData.str)) [a] := by
  obtain ⟨o, ho, hc, n, hd⟩ := hl
  exact Reads.list ho hc hd (by simpa using readsAll_strs hi)
theorem canLay_strs : ∀ l : List Str, (∀ x ∈ l, PyData.strOk x = true) → PyData.canLayAll0 (l.map PyData.str) = true
  | [], _ => by simp [PyData.canLayAll0]
  | x :: r, h => by simp [PyData.canLayAll0, PyData.canLay0, canLay_strs r (fun y hy => h y (.tail _ hy)), h x (.head _)]
theorem depth_strs : ∀ l : List Str, PyData.depthAll (l.map PyData.str) ≤ 1
  | [] => by simp [PyData.depthAll]
  | x :: r => by
    have := depth_strs r
    simp only [List.map_cons, PyData.depthAll, PyData.depth]; omega
theorem shaped_strs (l : List Str) (h : ∀ x ∈ l, PyData.strOk x = true) : shaped (.list (l.map PyData.str)) = true := by
  have h1 := depth_strs l
  have h2 : PyData.depth (.list (l.map PyData.str)) ≤ 64 := by simp only [PyData.depth]; omega
  show (PyData.canLay0 (.list (l.map PyData.str)) && decide (PyData.depth (.list (l.map PyData.str)) ≤ 64)) = true
  rw [Bool.and_eq_true]
  exact ⟨by simp only [PyData.canLay0]; exact canLay_strs l h, decide_eq_true h2⟩
theorem noMix_strs : ∀ a b : List Str, noMixAll (a.map PyData.str) (b.map PyData.str) = true
  | [], [] => by simp [noMixAll]
  | [], _ :: _ => by simp [noMixAll]
  | _ :: _, [] => by simp [noMixAll]
  | _ :: r, _ :: q => by simp [noMixAll, noMix, noMix_strs r q]
theorem same_strs : ∀ a b : List Str, PySem.Spec.sameAll (a.map PyData.str) (b.map PyData.str) = decide (a = b)
  | [], [] => by simp [PySem.Spec.sameAll]
  | [], _ :: _ => by simp [PySem.Spec.sameAll]
  | _ :: _, [] => by simp [PySem.Spec.sameAll]
  | n :: r, k :: q => by
    simp only [List.map_cons, PySem.Spec.sameAll, PySem.Spec.same, same_strs r q]
    by_cases h : n = k <;> simp [h]
theorem cmp_strs_ne {a b : List Str} (ha' : ∀ x ∈ a, PyData.strOk x = true) (hb' : ∀ x ∈ b, PyData.strOk x = true) : CmpOk X n .NotEq (.sl a) (.sl b) (!decide (a = b)) := by
  rintro A s E _ _ _ _ ha g ⟨c, vs, rfl, hl, hi, rfl⟩ ⟨c', vs', rfl, hl', hi', rfl⟩
  exact ne_dataH_same (reads_strs hl.isList hi) (reads_strs hl'.isList hi') (shaped_strs a ha') (shaped_strs b hb') (by have := ha.units; omega) (by simp only [noMix]; exact noMix_strs a b) (by simp only [PySem.Spec.same]; rw [same_strs]; exact ⟨rfl, Kp.refl s⟩)

end
/-- texts of a list that an expression gives, item by item -/
theorem it_strs {e : Expr} {l : List Str} (h : Ev X n env σ e (.sl l)) : It X n env σ e (l.map .str) := fun A s E a g r => by
  refine wpAny_mono (h A s E a g r) (fun v s1 ⟨k1, fp, b, vs, hv, hl, hi, hfp⟩ => ?_) fun _ _ x => x
  subst hv
  refine list_walk (X := X) a.hand hl fun I o hI hne k W h0 => ⟨k1.trans k, I, [I, b], [I], (fun i h => h.IsListIter I b i ∧ h.IsList b vs.toArray), rfl, ?_, h0, fun c hc => ?_, fun c hc => ?_⟩
  · rw [List.length_map, ← hi.length]
    refine ⟨W.sub, W.frame, fun i s Q E hlt st hQ => W.item i s Q E hlt st fun v h' tk hp hst => hQ v h' tk ?_ hst, W.done, W.self⟩
    have hlt' : i < l.length := by rw [← hi.length]; exact hlt
    obtain ⟨t, ht⟩ := hi.get i l[i] (List.getElem?_eq_getElem hlt')
    rw [ht] at hp
    cases hp
    exact ⟨.str l[i], by rw [List.getElem?_map, List.getElem?_eq_getElem hlt']; rfl, ⟨t, rfl⟩, rfl⟩
  · show c < (s1.heap.push o).objs.size
    rw [Heap.size_push]
    rcases List.mem_cons.mp hc with rfl | hc
    · rw [hI]; exact Nat.lt_succ_self _
    · rw [List.mem_singleton.mp hc]
      exact Nat.lt_succ_of_lt (plt hl)
  · rw [List.mem_singleton.mp hc, hI]; exact k1.fresh (none_at_size _)
end W40
end
section
open PySem PySem.W PyProof.Rows
set_option Elab.async false
set_option maxRecDepth 20000
set_option maxHeartbeats 8000000
set_option linter.unusedVariables false
set_option linter.unusedSimpArgs false
set_option pp.deepTerms false
set_option pp.deepTerms.threshold 4
namespace W40
open PySem PySem.W PyProof.Rows PySem.Calls

/-- the path's pieces, plain -/
structure Pcs (a m others : Nat) (p0 p1 p2 p3 : List Nat) : Prop where
  la : a ∈ lettersL
  lm : m ∈ marksL
  lo : others < 1000
  w0 : ∃ w, p0 = spell a m w ∧ w.length ≤ 1
  w1 : ∃ w, p1 = spell a m w ∧ 1 ≤ w.length ∧ w.length ≤ 6
  w2 : ∃ w, p2 = spell a m w ∧ w.length ≤ 2
  w3 : ∃ w, p3 = spell a m w ∧ w.length ≤ 1
def pathOf (p0 p1 p2 p3 : List Nat) : List Nat := p0 ++ [42] ++ p1 ++ [42] ++ (p2 ++ [42] ++ p3)
/-- what plain counting has to show -/
structure Told (a m others : Nat) (p0 p1 p2 p3 : List Nat) : Prop where
  st : ∀ k, [p0, p1, p2, p3].getD k [] ≠ [] → ∀ s ∈ stepsOf ([esc p0, esc p1, esc p2, esc p3].getD k []) (([p0, p1, p2, p3].getD k []).length : Int), 1 ≤ s
  s1 : ∀ i, ∀ x ∈ lapsTo [esc p0, esc p1, esc p2, esc p3] [p0, p1, p2, p3] (2 + others) ((pathOf p0 p1 p2 p3).length + 2) i, Small x
  s2 : ∀ k, [p0, p1, p2, p3].getD k [] ≠ [] → ∀ x ∈ endedOf [esc p0, esc p1, esc p2, esc p3] [p0, p1, p2, p3] (2 + others) ((pathOf p0 p1 p2 p3).length + 2) k, Small x
  s3 : ∀ e, e ≤ 1000 → Small (((2 + others : Nat) : Int) ^ e)
  z1 : ∀ t p i j, (rowTo (cntsAt (mask (pathOf p0 p1 p2 p3) (isSign (S [42]))) (signsP (pathOf p0 p1 p2 p3) a m others) t) (mask (pathOf p0 p1 p2 p3) (isSign (S [42]))) (signsP (pathOf p0 p1 p2 p3) a m others) p (growTo (cntsAt (mask (pathOf p0 p1 p2 p3) (isSign (S [42]))) (signsP (pathOf p0 p1 p2 p3) a m others) t) (mask (pathOf p0 p1 p2 p3) (isSign (S [42]))) (signsP (pathOf p0 p1 p2 p3) a m others) i) j).length ≤ 1000000
  z2 : ∀ t, (cntsAt (mask (pathOf p0 p1 p2 p3) (isSign (S [42]))) (signsP (pathOf p0 p1 p2 p3) a m others) t).length ≤ 1000000
  eq : tailC (lapsTo [esc p0, esc p1, esc p2, esc p3] [p0, p1, p2, p3] (2 + others) ((pathOf p0 p1 p2 p3).length + 2) 2) (2 + others) p3.length ((pathOf p0 p1 p2 p3).length + 2) = toldTo (mask (pathOf p0 p1 p2 p3) (isSign (S [42]))) (signsP (pathOf p0 p1 p2 p3) a m others) ((2 : Int) ^ (pathOf p0 p1 p2 p3).length) ((pathOf p0 p1 p2 p3).length + 2 + 1)

theorem marks_sp {c : Nat} (h : c ∈ marksL) : isSp c = true := by
  unfold isSp; rw [List.contains_iff_mem.2 h]; rfl
theorem letters_sp {c : Nat} (h : c ∈ lettersL) : isSp c = false := by
  unfold lettersL at h
  simp only [List.mem_cons, List.not_mem_nil, or_false] at h
  rcases h with rfl | rfl | rfl | rfl <;> decide
theorem spell_mem {a m : Nat} {w : List Nat} {c : Nat} (h : c ∈ spell a m w) : c = a ∨ c = m := by
  unfold spell at h
  obtain ⟨b, _, rfl⟩ := List.mem_map.1 h
  split
  · exact .inl rfl
  · exact .inr rfl
section
variable {a m : Nat} (ha : a ∈ lettersL) (hm : m ∈ marksL)
include ha hm
theorem spell_alpha {w : List Nat} : ∀ c ∈ spell a m w, c ∈ alpha := fun c hc => by
  unfold alpha
  rcases spell_mem hc with rfl | rfl
  · exact List.mem_append_left _ ha
  · exact List.mem_append_right _ hm
theorem a_ne_m : a ≠ m := fun e => by
  have h1 := letters_sp ha
  rw [e, marks_sp hm] at h1; cases h1
omit ha hm in
theorem alpha_lt {c : Nat} (h : c ∈ alpha) : c < 128 ∧ c ≠ 42 ∧ c ≠ 92 := by
  unfold alpha lettersL marksL at h
  simp only [List.cons_append, List.nil_append, List.mem_cons, List.not_mem_nil, or_false] at h
  omega
theorem esc_spell {w : List Nat} : subL m [92, m] (spell a m w) = esc (spell a m w) := by
  unfold subL esc
  apply flatMap_cong
  intro c hc
  rcases spell_mem hc with rfl | rfl
  · rw [if_neg (a_ne_m ha hm), letters_sp ha]; rfl
  · rw [if_pos rfl, marks_sp hm]; rfl
omit ha hm in
theorem strip_esc {p : List Nat} (h : ∀ c ∈ p, c ∈ alpha) : strip (esc p) = p := by
  unfold esc strip
  induction p with
  | nil => rfl
  | cons c r ih =>
    have hc := (alpha_lt (h c (.head _))).2.2
    rw [List.flatMap_cons, List.filter_append, ih fun d hd => h d (.tail _ hd)]
    by_cases q : isSp c = true
    · simp [q, hc]
    · simp [q, hc]
end
theorem esc_len {p : List Nat} : (esc p).length ≤ 2 * p.length := by
  unfold esc
  induction p with
  | nil => simp
  | cons c r ih =>
    rw [List.flatMap_cons, List.length_append, List.length_cons]
    have : (if isSp c = true then [92, c] else [c]).length ≤ 2 := by split <;> simp
    omega
theorem esc_mem {p : List Nat} {c : Nat} (h : c ∈ esc p) : c ∈ p ∨ c = 92 := by
  unfold esc at h
  obtain ⟨d, hd, hc⟩ := List.mem_flatMap.1 h
  split at hc
  · simp only [List.mem_cons, List.not_mem_nil, or_false] at hc
    rcases hc with rfl | rfl
    · exact .inr rfl
    · exact .inl hd
  · rw [List.mem_singleton.1 hc]; exact .inl hd
theorem joinOk_S {z : List Nat} {l : List (List Nat)} (h : (l.map List.length).sum + l.length * z.length ≤ 16777216) : JoinOk (S z) (l.map S) = true := by
  unfold JoinOk
  have : ∀ (l : List (List Nat)) (k : Nat), ((l.map S).toArray.foldl (fun x1 x2 => x1 + x2.length + (S z).length) k) = k + (l.map List.length).sum + l.length * z.length := by
    intro l
    induction l with
    | nil => intro k; simp
    | cons x r ih =>
      intro k
      have := ih (k + x.length + z.length)
      simp only [List.map_cons, List.foldl_toArray, List.foldl_cons, List.sum_cons, List.length_cons, Nat.succ_mul, S_len] at this ⊢
      rw [this]; omega
  rw [this]
  unfold Builtin.Str.tooLong
  rw [sizeLine_eq]
  simp; omega

/-- a written pattern cut again -/
theorem split_trans2 {x y : List Nat} (hx : 42 ∉ x) (hy : 42 ∉ y) : Txt.split (S (trans [x, y])) (S [42]) = (deco [x, y]).map S := by
  have e : trans [x, y] = joinL [42] (deco [x, y]) := by
    simp [trans, transP, pt, ptAt, deco, decoAt, headOf, tailOf, joinL, List.range_succ]
  rw [e]
  refine split_S (by simp [deco, List.range_succ]) fun p hp => ?_
  simp [deco, decoAt, headOf, tailOf, List.range_succ] at hp
  rcases hp with rfl | rfl
  · simp [hx]
  · exact hy
theorem split_trans4 {x y z u : List Nat} (hx : 42 ∉ x) (hy : 42 ∉ y) (hz : 42 ∉ z) (hu : 42 ∉ u) : Txt.split (S (trans [x, y, z, u])) (S [42]) = (deco [x, y, z, u]).map S := by
  have e : trans [x, y, z, u] = joinL [42] (deco [x, y, z, u]) := by
    simp [trans, transP, pt, ptAt, deco, decoAt, headOf, tailOf, midL, joinL, List.range_succ]
  rw [e]
  refine split_S (by simp [deco, List.range_succ]) fun p hp => ?_
  simp [deco, decoAt, headOf, tailOf, List.range_succ] at hp
  rcases hp with rfl | rfl | rfl | rfl
  · simp [hx]
  · simp [hy]
  · simp [hz]
  · exact hu
theorem trans2_len {x y : List Nat} : (trans [x, y]).length = x.length + y.length + 2 ∧ (transP [x, y]).map List.length = [x.length, y.length + 2] ∧ ∀ p ∈ deco [x, y], p.length ≤ x.length + y.length + 10 := by
  refine ⟨?_, ?_, ?_⟩
  · simp [trans, transP, pt, ptAt, joinL, List.range_succ]; omega
  · simp [transP, pt, ptAt, List.range_succ]
  · intro p hp
    simp [deco, decoAt, headOf, tailOf, List.range_succ] at hp
    rcases hp with rfl | rfl <;> first | omega | (simp; omega)
theorem trans4_len {x y z u : List Nat} : (trans [x, y, z, u]).length = x.length + y.length + z.length + u.length + 16 ∧ (transP [x, y, z, u]).map List.length = [x.length, y.length + 7, z.length + 7, u.length + 2] ∧ ∀ p ∈ deco [x, y, z, u], p.length ≤ x.length + y.length + z.length + u.length + 10 := by
  refine ⟨?_, ?_, ?_⟩
  · simp [trans, transP, pt, ptAt, midL, joinL, List.range_succ]; omega
  · simp [transP, pt, ptAt, midL, List.range_succ]
  · intro p hp
    simp [deco, decoAt, headOf, tailOf, List.range_succ] at hp
    rcases hp with rfl | rfl | rfl | rfl <;> first | omega | (simp; omega)

variable {prog : Program} {w : World} {T n : Nat}

theorem mem_esc_star {p : List Nat} (h : ∀ c ∈ p, c ∈ alpha) : 42 ∉ esc p := fun q => by
  rcases esc_mem q with q | q
  · exact (alpha_lt (h 42 q)).2.1 rfl
  · cases q
theorem mem_star {p : List Nat} (h : ∀ c ∈ p, c ∈ alpha) : 42 ∉ p := fun q => (alpha_lt (h 42 q)).2.1 rfl

/-- a record of two pieces -/
theorem rec2 {p q : List Nat} (hp : ∀ c ∈ p, c ∈ alpha) (hq : ∀ c ∈ q, c ∈ alpha) (lp : p.length ≤ 20) (lq : q.length ≤ 20) : FnOk (XX prog w T) (n + 12) 124 [.str (S (p ++ [42] ++ q))] (.en ([esc p, esc q].map S)) := by
  have hx : Txt.split (S (p ++ [42] ++ q)) (S [42]) = [p, q].map S := split_S (c := 42) (l := [p, q]) (by simp) (by intro r hr; simp only [List.mem_cons, List.not_mem_nil, or_false] at hr; rcases hr with rfl | rfl; exact mem_star hp; exact mem_star hq)
  have e1 := esc_len (p := p)
  have e2 := esc_len (p := q)
  obtain ⟨t1, t2, t3⟩ := trans2_len (x := esc p) (y := esc q)
  refine fn_record (xs := [esc p, esc q]) (t := trans [esc p, esc q]) (by simp) (fn_pat (n := n) (ps := [p, q]) (by simp; omega) hx (by simp) (by simp) ?_ ?_ (joinOk_S ?_)) ((fn_pieces (n := n) (by omega) (split_trans2 (mem_esc_star hp) (mem_esc_star hq)) (fun r hr => by have := t3 r hr; omega) (by simp)).le (by omega))
  · intro r hr
    simp only [List.mem_cons, List.not_mem_nil, or_false] at hr
    rcases hr with rfl | rfl
    · exact ⟨hp, by omega⟩
    · exact ⟨hq, by omega⟩
  · intro r hr
    simp only [List.mem_cons, List.not_mem_nil, or_false] at hr
    rcases hr with rfl | rfl <;> omega
  · show ((transP [esc p, esc q]).map List.length).sum + _ ≤ _
    rw [t2]; simp; omega
/-- the whole pattern written, its pieces cut -/
theorem pat4 {p q r u : List Nat} (hp : ∀ c ∈ p, c ∈ alpha) (hq : ∀ c ∈ q, c ∈ alpha) (hr : ∀ c ∈ r, c ∈ alpha) (hu : ∀ c ∈ u, c ∈ alpha) (lp : p.length ≤ 20) (lq : q.length ≤ 20) (lr : r.length ≤ 20) (lu : u.length ≤ 20) :
    FnOk (XX prog w T) (n + 11) 82 [.str (S (pathOf p q r u))] (.str (S (trans [esc p, esc q, esc r, esc u]))) ∧ FnOk (XX prog w T) (n + 1) 117 [.str (S (trans [esc p, esc q, esc r, esc u]))] (.sl ([esc p, esc q, esc r, esc u].map S)) := by
  have ej : pathOf p q r u = joinL [42] [p, q, r, u] := by simp [pathOf, joinL]
  have hx : Txt.split (S (pathOf p q r u)) (S [42]) = [p, q, r, u].map S := by
    rw [ej]
    refine split_S (by simp) (by intro v hv; simp only [List.mem_cons, List.not_mem_nil, or_false] at hv; rcases hv with rfl | rfl | rfl | rfl; exact mem_star hp; exact mem_star hq; exact mem_star hr; exact mem_star hu)
  have e1 := esc_len (p := p)
  have e2 := esc_len (p := q)
  have e3 := esc_len (p := r)
  have e4 := esc_len (p := u)
  obtain ⟨t1, t2, t3⟩ := trans4_len (x := esc p) (y := esc q) (z := esc r) (u := esc u)
  refine ⟨fn_pat (n := n) (ps := [p, q, r, u]) (by simp [pathOf]; omega) hx (by simp) (by simp) ?_ ?_ (joinOk_S ?_), fn_pieces (by omega) (split_trans4 (mem_esc_star hp) (mem_esc_star hq) (mem_esc_star hr) (mem_esc_star hu)) (fun v hv => by have := t3 v hv; omega) (by simp)⟩
  · intro v hv
    simp only [List.mem_cons, List.not_mem_nil, or_false] at hv
    rcases hv with rfl | rfl | rfl | rfl
    · exact ⟨hp, by omega⟩
    · exact ⟨hq, by omega⟩
    · exact ⟨hr, by omega⟩
    · exact ⟨hu, by omega⟩
  · intro v hv
    simp only [List.mem_cons, List.not_mem_nil, or_false] at hv
    rcases hv with rfl | rfl | rfl | rfl <;> omega
  · show ((transP [esc p, esc q, esc r, esc u]).map List.length).sum + _ ≤ _
    rw [t2]; simp; omega
end W40
end
section
open PySem PySem.W PyProof.Rows
set_option Elab.async false
set_option maxRecDepth 20000
set_option maxHeartbeats 16000000
set_option linter.unusedVariables false
set_option linter.unusedSimpArgs false
set_option pp.deepTerms false
set_option pp.deepTerms.threshold 4
namespace W40
open PySem PySem.W PyProof.Rows PySem.Calls
variable {prog : Program} {w : World} {n : Nat}

theorem fmod_nat (x : Int) {k : Nat} (hk : 0 < k) : ∃ r : Nat, x.fmod k = r ∧ r < k := by
  have h1 : 0 ≤ x.fmod k := Int.fmod_nonneg_of_pos _ (by omega)
  have h2 : x.fmod k < k := Int.fmod_lt_of_pos _ (by omega)
  exact ⟨(x.fmod k).toNat, by omega, by omega⟩
theorem letter_at {r : Nat} (h : r < 4) : (Str.ofString "aA/%").cps[((r : Nat) : Int).toNat]? = some (lettersL.getD r 0) ∧ lettersL.getD r 0 ∈ lettersL := by
  rcases (by omega : r = 0 ∨ r = 1 ∨ r = 2 ∨ r = 3) with rfl | rfl | rfl | rfl <;> exact ⟨rfl, by decide⟩
theorem mark_at {r : Nat} (h : r < 22) : (Str.ofString "()[]{}?+-|^$.&~# \t\n\r\x0b\x0c").cps[((r : Nat) : Int).toNat]? = some (marksL.getD r 0) ∧ marksL.getD r 0 ∈ marksL := by
  have : ∀ r, r < 22 → (Str.ofString "()[]{}?+-|^$.&~# \t\n\r\x0b\x0c").cps[r]? = some (marksL.getD r 0) ∧ marksL.getD r 0 ∈ marksL := by decide
  rw [Int.toNat_natCast]
  exact this r h

theorem strOk_S {l : List Nat} (h : ∀ c ∈ l, c < 128) : PyData.strOk (S l) = true := by
  show (S l).cps.all _ = true
  rw [Array.all_eq_true]
  intro i hi
  have : (S l).cps[i] ∈ (S l).cps := Array.getElem_mem hi
  have h2 : (S l).cps[i] ∈ l := List.mem_toArray.1 this
  exact decide_eq_true (Nat.lt_trans (h _ h2) (by decide))
theorem esc_ok {p : List Nat} (h : ∀ c ∈ p, c ∈ alpha) : PyData.strOk (S (esc p)) = true := strOk_S fun c hc => by
  rcases esc_mem hc with h' | h'
  · exact (alpha_lt (h c h')).1
  · omega
theorem it_at {l : List Str} {i : Nat} {d : D} (h : (l.map D.str)[i]? = some d) : ∃ x, l[i]? = some x ∧ d = .str x := by
  rw [List.getElem?_map] at h
  cases e : l[i]? with
  | none => rw [e] at h; cases h
  | some x => rw [e] at h; cases h; exact ⟨x, rfl, rfl⟩
theorem fn_law (H : ∀ a m others p0 p1 p2 p3, Pcs a m others p0 p1 p2 p3 → Told a m others p0 p1 p2 p3) {l : List Int} (hl : l.length ≤ 63) : FnOk (XX prog w 0) (n + 13) 151 [.il l] (.bool true) := by
  refine fn_ok (ps := ["script"]) (cns := ["mark"]) [("script", .il l)] rfl rfl rfl rfl rfl rfl (fun | [_], _ => rfl) (by decide) (by decide) rfl (by intro L p hp; simp only [List.mem_cons, List.not_mem_nil, or_false] at hp; rcases hp with rfl | rfl | rfl | rfl | rfl <;> first | exact .inl rfl | exact .inr ⟨rfl, rfl⟩) (fun _ => rfl) (by decide) rfl rfl rfl rfl rfl ?_
  intro A s₀ L s₁ ha hce y
  have ho := y.envOk
  refine ex_assignT y ha (ev_call ho (by rfl : GName (XX prog w 0) "_law_cells" (.ref 103)) rfl rfl ⟨_, _, rfl, rfl⟩ (evs_cons (ev_name ho (by repeat (first | exact List.Mem.head _ | apply List.Mem.tail))) evs_nil) ((fn_cells (n := n) (by omega)).le (by omega))) rfl ⟨rfl, .inl rfl⟩ hce (by repeat (first | exact Del.nil | (apply Del.skip; · rfl) | (apply Del.k; · decide))) (O' := []) (by decide) fun s₂ y ht => ?_
  have b1 := y.base.tok
  have y := y.raise (X' := XX prog w 1) rfl rfl rfl rfl ht y.base.tok
  have hC : ∀ i, i < 4 → (cellsOf l l.length)[i]? = some ((cellsOf l l.length).getD i 0) := fun i hi => getD_at (by rw [cellsOf_len]; exact hi)
  generalize cellsOf l l.length = C at *
  refine (?_ : Wp (XX prog w 1) A _ _ _ _ _)
  obtain ⟨rl, hrl, hrl'⟩ := fmod_nat ((C.getD 3 0).fdiv 22000) (k := 4) (by decide)
  obtain ⟨rm, hrm, hrm'⟩ := fmod_nat (C.getD 3 0) (k := 22) (by decide)
  obtain ⟨others, hot, hot'⟩ := fmod_nat ((C.getD 3 0).fdiv 22) (k := 1000) (by decide)
  obtain ⟨f0, hf0, hf0'⟩ := fmod_nat (C.getD 2 0) (k := 2) (by decide)
  obtain ⟨f3, hf3, hf3'⟩ := fmod_nat ((C.getD 2 0).fdiv 4) (k := 2) (by decide)
  obtain ⟨f1, hf1, hf1'⟩ := fmod_nat (C.getD 0 0) (k := 6) (by decide)
  obtain ⟨f2, hf2, hf2'⟩ := fmod_nat (C.getD 1 0) (k := 3) (by decide)
  obtain ⟨la1, la2⟩ := letter_at hrl'
  obtain ⟨lm1, lm2⟩ := mark_at hrm'
  refine ex_assign (d := .str (S [lettersL.getD rl 0])) y ha (ev_sub ev_str.ev (ev_bin (ev_bin (ev_sub (ev_name ho (by repeat (first | exact List.Mem.head _ | apply List.Mem.tail))) ev_int.ev (get_ints (by decide) (by decide) (hC 3 (by decide))) (fun _ _ => rfl)).ev ev_int.ev (op_div (by decide) (by decide))).ev ev_int.ev (op_mod (by decide) (by decide))).ev (by rw [show ((C.getD 3 0).fdiv 22000).fmod 4 = (rl : Int) from hrl]; exact get_str (by omega) (by omega) la1) (fun _ _ => rfl)) ⟨rfl, .inl rfl⟩ hce (by repeat (first | exact Del.nil | (apply Del.skip; · rfl) | (apply Del.k; · decide))) (O' := []) (by decide) fun s₃ y => ?_
  refine ex_assign_sign (i := (rm : Int)) (c := marksL.getD rm 0) (Nat.le_refl 1) y ha ev_str.ev ((ev_bin (ev_sub (ev_name ho (by repeat (first | exact List.Mem.head _ | apply List.Mem.tail))) ev_int.ev (get_ints (by decide) (by decide) (hC 3 (by decide))) (fun _ _ => rfl)).ev ev_int.ev (op_mod (by decide) (by decide))).ev.eq (by rw [show (C.getD 3 0).fmod 22 = (rm : Int) from hrm])) (by omega) (by omega) lm1 ⟨rfl, .inr ⟨rfl, _, rfl⟩⟩ hce (by repeat (first | exact Del.nil | (apply Del.skip; · rfl) | (apply Del.k; · decide))) (O' := []) (by decide) (fun _ _ => rfl) fun s₄ T0 y ht0 ht1 => ?_
  obtain ⟨T1, rfl⟩ : ∃ T1, T0 = T1 + 1 := ⟨T0 - 1, by have : 1 < T0 := ht0; omega⟩
  have b2 := y.base.tok
  have y := y.raise (X' := XX prog w (T1 + 1)) rfl rfl rfl rfl ht1 y.base.tok
  generalize lettersL.getD rl 0 = a at *
  generalize marksL.getD rm 0 = m at *
  refine (?_ : Wp (XX prog w (T1 + 1)) A _ _ _ _ _)
  refine ex_assign (d := .int others) y ha ((ev_bin (ev_bin (ev_sub (ev_name ho (by repeat (first | exact List.Mem.head _ | apply List.Mem.tail))) ev_int.ev (get_ints (by decide) (by decide) (hC 3 (by decide))) (fun _ _ => rfl)).ev ev_int.ev (op_div (by decide) (by decide))).ev ev_int.ev (op_mod (by decide) (by decide))).eq (by rw [show ((C.getD 3 0).fdiv 22).fmod 1000 = (others : Int) from hot])) ⟨rfl, .inl rfl⟩ hce (by repeat (first | exact Del.nil | (apply Del.skip; · rfl) | (apply Del.k; · decide))) (O' := []) (by decide) fun s₅ y => ?_
  have word : ∀ {σ : List (Str × D)} {env : Env} {p pos : Pos} {e1 e2 e3 e4 : Expr} {num : Int} {sz : Nat}, EnvOk env → env.kindOf "_law_word" = some .globalImplicit → sz ≤ 1000 → Ev (XX prog w (T1 + 1)) (n + 12) env σ e1 (.int num) → Ev (XX prog w (T1 + 1)) (n + 12) env σ e2 (.int sz) → Ev (XX prog w (T1 + 1)) (n + 12) env σ e3 (.str (S [a])) → Ev (XX prog w (T1 + 1)) (n + 12) env σ e4 (.str (S [m])) →
      (starEach [e1, e2, e3, e4] env = (false, eval e1 env) :: starEach [e2, e3, e4] env) → (starEach [e2, e3, e4] env = (false, eval e2 env) :: starEach [e3, e4] env) → (starEach [e3, e4] env = (false, eval e3 env) :: starEach [e4] env) → (starEach [e4] env = (false, eval e4 env) :: starEach [] env) →
      EvF (XX prog w (T1 + 1)) (n + 12) env σ (.Call (.Name "_law_word" p) [e1, e2, e3, e4] [] pos) (.str (S (spell a m (signsOf num sz)))) := by
    intro σ env p pos e1 e2 e3 e4 num sz ho hk hsz h1 h2 h3 h4 x1 x2 x3 x4
    exact ev_call ho (by rfl : GName (XX prog w (T1 + 1)) "_law_word" (.ref 110)) hk (by decide) ⟨_, _, rfl, rfl⟩ (evs_cons h1 (evs_cons h2 (evs_cons h3 (evs_cons h4 evs_nil x4) x3) x2) x1) ((fn_word (n := n) (a := a) (m := m) hsz).le (by omega)) x1
  have cell : ∀ {σ : List (Str × D)} {env : Env} {p1 p2 p3 : Pos} {kk : Nat} {i : Nat}, EnvOk env → ((("cells" : Str), D.il C) : Str × D) ∈ σ → i < 4 → Ev (XX prog w (T1 + 1)) (n + 12) env σ (.Subscript (.Name "cells" p1) (.Constant (.int (i : Int)) kk p2) p3) (.int (C.getD i 0)) := by
    intro σ env p1 p2 p3 kk i ho hm hi
    exact (ev_sub (ev_name ho hm) ev_int.ev (get_ints (by omega) (by omega) (by rw [Int.toNat_natCast]; exact hC i hi)) (fun _ _ => rfl)).ev
  have eq1 : (1 : Int) + (C.getD 0 0).fmod 6 = ((1 + f1 : Nat) : Int) := by rw [show (C.getD 0 0).fmod 6 = (f1 : Int) from hf1]; omega
  have eq2 : (C.getD 1 0).fmod 3 = (f2 : Int) := hf2
  obtain ⟨p0, e0⟩ : ∃ p, spell a m (signsOf ((C.getD 2 0).fdiv 2) f0) = p := ⟨_, rfl⟩
  obtain ⟨p1, e1⟩ : ∃ p, spell a m (signsOf ((C.getD 0 0).fdiv 6) (1 + f1)) = p := ⟨_, rfl⟩
  obtain ⟨p2, e2⟩ : ∃ p, spell a m (signsOf ((C.getD 1 0).fdiv 3) f2) = p := ⟨_, rfl⟩
  obtain ⟨p3, e3⟩ : ∃ p, spell a m (signsOf ((C.getD 2 0).fdiv 8) f3) = p := ⟨_, rfl⟩
  have P : Pcs a m others p0 p1 p2 p3 := ⟨la2, lm2, hot', ⟨_, e0.symm, by rw [signs_len]; omega⟩, ⟨_, e1.symm, by rw [signs_len]; omega, by rw [signs_len]; omega⟩, ⟨_, e2.symm, by rw [signs_len]; omega⟩, ⟨_, e3.symm, by rw [signs_len]; omega⟩⟩
  have l0 : p0.length ≤ 1 := by rw [← e0, spell_len, signs_len]; omega
  have l1 : p1.length ≤ 6 := by rw [← e1, spell_len, signs_len]; omega
  have l2 : p2.length ≤ 2 := by rw [← e2, spell_len, signs_len]; omega
  have l3 : p3.length ≤ 1 := by rw [← e3, spell_len, signs_len]; omega
  refine ex_assign y ha ((word (num := (C.getD 2 0).fdiv 2) (sz := f0) ho rfl (by omega) (ev_bin (cell (i := 2) ho (by repeat (first | exact List.Mem.head _ | apply List.Mem.tail)) (by decide)) ev_int.ev (op_div (by decide) (by decide))).ev ((ev_bin (cell (i := 2) ho (by repeat (first | exact List.Mem.head _ | apply List.Mem.tail)) (by decide)) ev_int.ev (op_mod (by decide) (by decide))).ev.eq (by rw [show (C.getD 2 0).fmod 2 = (f0 : Int) from hf0])) (ev_name ho (by repeat (first | exact List.Mem.head _ | apply List.Mem.tail))) (ev_name ho (by repeat (first | exact List.Mem.head _ | apply List.Mem.tail))).st rfl rfl rfl rfl).eq (by rw [e0])) ⟨rfl, .inl rfl⟩ hce (by repeat (first | exact Del.nil | (apply Del.skip; · rfl) | (apply Del.k; · decide))) (O' := []) (by decide) fun s₆ y => ?_
  refine ex_assign y ha ((word (num := (C.getD 2 0).fdiv 8) (sz := f3) ho rfl (by omega) (ev_bin (cell (i := 2) ho (by repeat (first | exact List.Mem.head _ | apply List.Mem.tail)) (by decide)) ev_int.ev (op_div (by decide) (by decide))).ev ((ev_bin (ev_bin (cell (i := 2) ho (by repeat (first | exact List.Mem.head _ | apply List.Mem.tail)) (by decide)) ev_int.ev (op_div (by decide) (by decide))).ev ev_int.ev (op_mod (by decide) (by decide))).ev.eq (by rw [show ((C.getD 2 0).fdiv 4).fmod 2 = (f3 : Int) from hf3])) (ev_name ho (by repeat (first | exact List.Mem.head _ | apply List.Mem.tail))) (ev_name ho (by repeat (first | exact List.Mem.head _ | apply List.Mem.tail))).st rfl rfl rfl rfl).eq (by rw [e3])) ⟨rfl, .inl rfl⟩ hce (by repeat (first | exact Del.nil | (apply Del.skip; · rfl) | (apply Del.k; · decide))) (O' := []) (by decide) fun s₇ y => ?_
  have cat : ∀ {σ : List (Str × D)} {env : Env} {p : Pos} {e1 e2 : Expr} {x z : List Nat}, x.length ≤ 1000 → z.length ≤ 1000 → Ev (XX prog w (T1 + 1)) (n + 12) env σ e1 (.str (S x)) → Ev (XX prog w (T1 + 1)) (n + 12) env σ e2 (.str (S z)) → EvF (XX prog w (T1 + 1)) (n + 12) env σ (.BinOp e1 .Add e2 p) (.str (S (x ++ z))) := by
    intro σ env p e1 e2 x z hx hz h1 h2
    exact (ev_bin h1 h2 (op_cat (by rw [S_len, S_len, sizeLine_eq]; omega))).eq (by rw [S_cat])
  have star : ∀ {σ : List (Str × D)} {env : Env} {kk : Nat} {p : Pos}, Ev (XX prog w (T1 + 1)) (n + 12) env σ (.Constant (.str "*") kk p) (.str (S [42])) := ev_str.ev
  refine ex_assign (d := .str (S (p0 ++ [42] ++ p1))) y ha (cat (x := p0 ++ [42]) (z := p1) (by simp; omega) (by omega) (cat (x := p0) (by omega) (by decide) (ev_name ho (by repeat (first | exact List.Mem.head _ | apply List.Mem.tail))) star).ev ((word (num := (C.getD 0 0).fdiv 6) (sz := 1 + f1) ho rfl (by omega) (ev_bin (cell (i := 0) ho (by repeat (first | exact List.Mem.head _ | apply List.Mem.tail)) (by decide)) ev_int.ev (op_div (by decide) (by decide))).ev ((ev_bin ev_int.ev (ev_bin (cell (i := 0) ho (by repeat (first | exact List.Mem.head _ | apply List.Mem.tail)) (by decide)) ev_int.ev (op_mod (by decide) (by decide))).ev op_add).ev.eq (by rw [eq1])) (ev_name ho (by repeat (first | exact List.Mem.head _ | apply List.Mem.tail))) (ev_name ho (by repeat (first | exact List.Mem.head _ | apply List.Mem.tail))).st rfl rfl rfl rfl).eq (by rw [e1])).ev) ⟨rfl, .inl rfl⟩ hce (by repeat (first | exact Del.nil | (apply Del.skip; · rfl) | (apply Del.k; · decide))) (O' := []) (by decide) fun s₈ y => ?_
  refine ex_assign (d := .str (S (p2 ++ [42] ++ p3))) y ha (cat (x := p2 ++ [42]) (z := p3) (by simp; omega) (by omega) (cat (x := p2) (by omega) (by decide) ((word (num := (C.getD 1 0).fdiv 3) (sz := f2) ho rfl (by omega) (ev_bin (cell (i := 1) ho (by repeat (first | exact List.Mem.head _ | apply List.Mem.tail)) (by decide)) ev_int.ev (op_div (by decide) (by decide))).ev ((ev_bin (cell (i := 1) ho (by repeat (first | exact List.Mem.head _ | apply List.Mem.tail)) (by decide)) ev_int.ev (op_mod (by decide) (by decide))).ev.eq (by rw [eq2])) (ev_name ho (by repeat (first | exact List.Mem.head _ | apply List.Mem.tail))) (ev_name ho (by repeat (first | exact List.Mem.head _ | apply List.Mem.tail))).st rfl rfl rfl rfl).eq (by rw [e2])).ev star).ev (ev_name ho (by repeat (first | exact List.Mem.head _ | apply List.Mem.tail)))) ⟨rfl, .inl rfl⟩ hce (by repeat (first | exact Del.nil | (apply Del.skip; · rfl) | (apply Del.k; · decide))) (O' := []) (by decide) fun s₉ y => ?_
  refine ex_assign (d := .str (S (pathOf p0 p1 p2 p3))) y ha (cat (x := p0 ++ [42] ++ p1 ++ [42]) (z := p2 ++ [42] ++ p3) (by simp; omega) (by simp; omega) (cat (x := p0 ++ [42] ++ p1) (by simp; omega) (by decide) (ev_name ho (by repeat (first | exact List.Mem.head _ | apply List.Mem.tail))) star).ev (ev_name ho (by repeat (first | exact List.Mem.head _ | apply List.Mem.tail)))) ⟨rfl, .inl rfl⟩ hce (by repeat (first | exact Del.nil | (apply Del.skip; · rfl) | (apply Del.k; · decide))) (O' := []) (by decide) fun s₁₀ y => ?_
  have T := H a m others p0 p1 p2 p3 P
  have q0 : ∀ c ∈ p0, c ∈ alpha := by rw [← e0]; exact spell_alpha la2 lm2
  have q1 : ∀ c ∈ p1, c ∈ alpha := by rw [← e1]; exact spell_alpha la2 lm2
  have q2 : ∀ c ∈ p2, c ∈ alpha := by rw [← e2]; exact spell_alpha la2 lm2
  have q3 : ∀ c ∈ p3, c ∈ alpha := by rw [← e3]; exact spell_alpha la2 lm2
  refine ex_assign y ha (ev_call ho (by rfl : GName (XX prog w (T1 + 1)) "_law_record" (.ref 124)) rfl rfl ⟨_, _, rfl, rfl⟩ (evs_cons (ev_name ho (by repeat (first | exact List.Mem.head _ | apply List.Mem.tail))) evs_nil) (rec2 (n := n) q0 q1 (by omega) (by omega))) ⟨rfl, .inl rfl⟩ hce (by repeat (first | exact Del.nil | (apply Del.skip; · rfl) | (apply Del.k; · decide))) (O' := []) (by decide) fun s₁₁ y => ?_
  refine ex_assign y ha (ev_call ho (by rfl : GName (XX prog w (T1 + 1)) "_law_record" (.ref 124)) rfl rfl ⟨_, _, rfl, rfl⟩ (evs_cons (ev_name ho (by repeat (first | exact List.Mem.head _ | apply List.Mem.tail))) evs_nil) (rec2 (n := n) q2 q3 (by omega) (by omega))) ⟨rfl, .inl rfl⟩ hce (by repeat (first | exact Del.nil | (apply Del.skip; · rfl) | (apply Del.k; · decide))) (O' := []) (by decide) fun s₁₂ y => ?_
  refine ex_assign (d := .en ([esc p0, esc p1, esc p2, esc p3].map S)) y ha ((ev_call ho (by rfl : GName (XX prog w (T1 + 1)) "merge_entries" (.ref 89)) rfl rfl ⟨_, _, rfl, rfl⟩ (evs_cons (ev_name ho (by repeat (first | exact List.Mem.head _ | apply List.Mem.tail))) (evs_cons (ev_name ho (by repeat (first | exact List.Mem.head _ | apply List.Mem.tail))) evs_nil)) ((fn_merge (n := n) (by simp)).le (by omega))).eq rfl) ⟨rfl, .inl rfl⟩ hce (by repeat (first | exact Del.nil | (apply Del.skip; · rfl) | (apply Del.k; · decide))) (O' := []) (by decide) fun s₁₃ y => ?_
  have eok : ∀ x ∈ [esc p0, esc p1, esc p2, esc p3].map S, PyData.strOk x = true := by
    intro x hx
    simp only [List.map_cons, List.map_nil, List.mem_cons, List.not_mem_nil, or_false] at hx
    rcases hx with rfl | rfl | rfl | rfl
    · exact esc_ok q0
    · exact esc_ok q1
    · exact esc_ok q2
    · exact esc_ok q3
  have cmpS : ∀ {k : Nat}, CmpOk (XX prog w (T1 + 1)) k .NotEq (.sl ([esc p0, esc p1, esc p2, esc p3].map S)) (.sl ([esc p0, esc p1, esc p2, esc p3].map S)) false := by
    intro k
    have h := cmp_strs_ne (X := XX prog w (T1 + 1)) (n := k) eok eok
    rw [decide_eq_true rfl] at h
    exact h
  have e1' := esc_len (p := p0)
  have e2' := esc_len (p := p1)
  have e3' := esc_len (p := p2)
  have e4' := esc_len (p := p3)
  refine ex_if (b := false) y ha (cn_or (b1 := false) (b2 := false) (cn_cmp (ev_attr (ev_name ho (by repeat (first | exact List.Mem.head _ | apply List.Mem.tail))) f_rules (fun _ => rfl) (by rfl)) (ev_call ho (by rfl : GName (XX prog w (T1 + 1)) "_law_pieces" (.ref 117)) rfl rfl ⟨_, _, rfl, rfl⟩ (evs_cons (ev_call ho (by rfl : GName (XX prog w (T1 + 1)) "translate_pattern" (.ref 82)) rfl rfl ⟨_, _, rfl, rfl⟩ (evs_cons (ev_name ho (by repeat (first | exact List.Mem.head _ | apply List.Mem.tail))) evs_nil) ((pat4 (n := n) q0 q1 q2 q3 (by omega) (by omega) (by omega) (by omega)).1.le (by omega))).ev evs_nil) ((pat4 (n := n) q0 q1 q2 q3 (by omega) (by omega) (by omega) (by omega)).2.le (by omega))).ev cmpS rfl)
    fun _ => cn_cmp ((ev_bin (ev_attr (ev_name ho (by repeat (first | exact List.Mem.head _ | apply List.Mem.tail))) f_rules (fun _ => rfl) (by rfl)) (ev_attr (ev_name ho (by repeat (first | exact List.Mem.head _ | apply List.Mem.tail))) f_rules (fun _ => rfl) (by rfl)) (op_add_strs (by rw [sizeLine_eq]; simp))).ev.eq (d' := .sl ([esc p0, esc p1, esc p2, esc p3].map S)) rfl) (ev_attr (ev_name ho (by repeat (first | exact List.Mem.head _ | apply List.Mem.tail))) f_rules (fun _ => rfl) (by rfl)) cmpS rfl) (fun h => nomatch h) fun _ s₁₄ y => ex_nil (?_ : Wp (XX prog w (T1 + 1)) A _ _ _ _ _)
  refine ex_assign_comp (isv := isS) (mk := .str) (dl := .sl) (src := ([esc p0, esc p1, esc p2, esc p3].map S).map D.str) (res := fun i => ([esc p0, esc p1, esc p2, esc p3][i]?).map fun x => S (strip x)) (σ0 := []) y ha ⟨rfl, .inl rfl⟩ hce (by repeat (first | exact Del.nil | (apply Del.skip; · rfl) | (apply Del.k; · decide))) (O' := []) (by decide) rfl dl_strs mk_str rfl rfl (by decide) rfl (.loc rfl (by decide)) (fun _ => rfl) (by rw [sizeLine_eq]; simp) (it_strs (ev_attr (ev_name ho (by repeat (first | exact List.Mem.head _ | apply List.Mem.tail))) f_rules (fun _ => rfl) (by rfl))) (fun _ h => nomatch h) ?_ ?_ fun s₁₅ y => ?_
  · intro D' i d hd
    obtain ⟨x, hx, rfl⟩ := it_at hd
    rw [List.getElem?_map] at hx
    show (Option.map _ _).isSome = true
    cases e : [esc p0, esc p1, esc p2, esc p3][i]? with
    | none => rw [e] at hx; cases hx
    | some x => rfl
  · intro D' i d z hd hz
    obtain ⟨x, hx, rfl⟩ := it_at hd
    rw [List.getElem?_map] at hx
    cases e : [esc p0, esc p1, esc p2, esc p3][i]? with
    | none => rw [e] at hx; cases hx
    | some x =>
      rw [e] at hx hz
      cases hx; cases hz
      have lx : x.length ≤ 20 := by
        have := List.mem_of_getElem? e
        simp only [List.mem_cons, List.not_mem_nil, or_false] at this
        rcases this with rfl | rfl | rfl | rfl <;> omega
      exact (ev_strike (Nat.le_add_left 1 T1) (ev_name (cEnv_ok ho rfl) (by repeat (first | exact List.Mem.head _ | apply List.Mem.tail))) (by rfl) (by rfl) (by omega) (fun _ => rfl) rfl rfl rfl rfl).ev
  have ep : (List.range (([esc p0, esc p1, esc p2, esc p3].map S).map D.str).length).filterMap (fun i => ([esc p0, esc p1, esc p2, esc p3][i]?).map fun x => S (strip x)) = [p0, p1, p2, p3].map S := by
    show [S (strip (esc p0)), S (strip (esc p1)), S (strip (esc p2)), S (strip (esc p3))] = _
    rw [strip_esc q0, strip_esc q1, strip_esc q2, strip_esc q3]; rfl
  rw [ep] at y
  have eg : (List.range (([p0, p1, p2, p3].map S).map D.str).length).filterMap (fun i => ([p0, p1, p2, p3][i]?).map fun x => S (subL m [92, m] x)) = [esc p0, esc p1, esc p2, esc p3].map S := by
    show [S (subL m [92, m] p0), S (subL m [92, m] p1), S (subL m [92, m] p2), S (subL m [92, m] p3)] = _
    rw [show subL m [92, m] p0 = esc p0 by rw [← e0]; exact esc_spell la2 lm2, show subL m [92, m] p1 = esc p1 by rw [← e1]; exact esc_spell la2 lm2, show subL m [92, m] p2 = esc p2 by rw [← e2]; exact esc_spell la2 lm2, show subL m [92, m] p3 = esc p3 by rw [← e3]; exact esc_spell la2 lm2]; rfl
  have ejoin : Txt.join (S [42]) ([p0, p1, p2, p3].map S) = S (pathOf p0 p1 p2 p3) := by rw [glued_S]; congr 1; simp [joinL, pathOf]
  have epl : (pathOf p0 p1 p2 p3).length ≤ 13 := by simp [pathOf]; omega
  refine ex_if (b := false) y ha (cn_or (b1 := false) (b2 := false) (cn_cmp (b := false) (ev_join star (ev_name ho (by repeat (first | exact List.Mem.head _ | apply List.Mem.tail))) (joinOk_S (by simp; omega)) ejoin (fun _ => rfl) rfl rfl rfl rfl).ev (ev_name ho (by repeat (first | exact List.Mem.head _ | apply List.Mem.tail))) (by have h := cmp_sne (X := XX prog w (T1 + 1)) (n := n + 12) (a := S (pathOf p0 p1 p2 p3)) (b := S (pathOf p0 p1 p2 p3)); simpa using h) rfl) fun _ => ?_) (fun h => nomatch h) fun _ s₁₆ y => ex_nil (?_ : Wp (XX prog w (T1 + 1)) A _ _ _ _ _)
  · refine cn_cmp (b := false) (Ev.eq (d := .sl ((List.range (([p0, p1, p2, p3].map S).map D.str).length).filterMap (fun i => ([p0, p1, p2, p3][i]?).map fun x => S (subL m [92, m] x)))) ?_ (by rw [eg])) (ev_attr (ev_name ho (by repeat (first | exact List.Mem.head _ | apply List.Mem.tail))) f_rules (fun _ => rfl) (by rfl)) cmpS rfl
    refine (ev_comp (mk := .str) (isv := isS) (dl := .sl) (src := ([p0, p1, p2, p3].map S).map D.str) (σ0 := [("mark", .st (S [m]) (T1 + 1))]) dl_strs mk_str rfl rfl (by decide) rfl (.loc rfl (by decide)) (fun _ => rfl) (by rw [sizeLine_eq]; simp) (it_strs (ev_name ho (by repeat (first | exact List.Mem.head _ | apply List.Mem.tail)))) ?_ ?_ ?_).ev
    · intro q hq
      rw [List.mem_singleton.1 hq]
      exact ⟨(by repeat (first | exact List.Mem.head _ | apply List.Mem.tail)), rfl, fun C => ⟨_, rfl, rfl⟩, .inl rfl⟩
    · intro D' i d hd
      obtain ⟨x, hx, rfl⟩ := it_at hd
      rw [List.getElem?_map] at hx
      show (Option.map _ _).isSome = true
      cases e : [p0, p1, p2, p3][i]? with
      | none => rw [e] at hx; cases hx
      | some x => rfl
    · intro D' i d z hd hz
      obtain ⟨x, hx, rfl⟩ := it_at hd
      rw [List.getElem?_map] at hx
      cases e : [p0, p1, p2, p3][i]? with
      | none => rw [e] at hx; cases hx
      | some x =>
        rw [e] at hx hz
        cases hx; cases hz
        have lx : x.length ≤ 20 := by
          have := List.mem_of_getElem? e
          simp only [List.mem_cons, List.not_mem_nil, or_false] at this
          rcases this with rfl | rfl | rfl | rfl <;> omega
        exact (ev_guard (Nat.le_refl (T1 + 1)) (ev_name (cEnv_ok ho rfl) (by repeat (first | exact List.Mem.head _ | apply List.Mem.tail))) (ev_name (cEnv_ok ho rfl) (by repeat (first | exact List.Mem.head _ | apply List.Mem.tail))) (ev_name (cEnv_ok ho rfl) (by repeat (first | exact List.Mem.head _ | apply List.Mem.tail))) (by rfl) (by omega) (fun _ => rfl) rfl rfl rfl rfl).ev
  refine ex_assign (d := .int (((pathOf p0 p1 p2 p3).length + 2 : Nat) : Int)) y ha ((ev_bin (ev_blt ho bn_len rfl rfl (evs_cons (ev_name ho (by repeat (first | exact List.Mem.head _ | apply List.Mem.tail))) evs_nil) (bl_len_str (by rw [S_len, sizeLine_eq]; omega))).ev ev_int.ev op_add).eq (by rw [S_len]; rfl)) ⟨rfl, .inl rfl⟩ hce (by repeat (first | exact Del.nil | (apply Del.skip; · rfl) | (apply Del.k; · decide))) (O' := []) (by decide) fun s₁₇ y => ?_
  have eN : ∀ k, ([esc p0, esc p1, esc p2, esc p3].getD k [] = [] ↔ [p0, p1, p2, p3].getD k [] = []) := by
    intro k
    have en : ∀ p : List Nat, esc p = [] ↔ p = [] := by
      intro p
      cases p with
      | nil => exact ⟨fun _ => rfl, fun _ => rfl⟩
      | cons c r =>
        refine ⟨fun h => ?_, fun h => by cases h⟩
        unfold esc at h
        rw [List.flatMap_cons] at h
        have := List.append_eq_nil_iff.1 h
        exfalso
        have h1 := this.1
        split at h1 <;> cases h1
    rcases k with _ | _ | _ | _ | k
    · exact en p0
    · exact en p1
    · exact en p2
    · exact en p3
    · exact ⟨fun _ => rfl, fun _ => rfl⟩
  have laps : FnOk (XX prog w (T1 + 1)) (n + 4) 141 [.sl ([esc p0, esc p1, esc p2, esc p3].map S), .sl ([p0, p1, p2, p3].map S), .int (2 + others : Nat), .int ((pathOf p0 p1 p2 p3).length + 2 : Nat)] (.il (tailC (lapsTo [esc p0, esc p1, esc p2, esc p3] [p0, p1, p2, p3] (2 + others) ((pathOf p0 p1 p2 p3).length + 2) 2) (2 + others) p3.length ((pathOf p0 p1 p2 p3).length + 2))) := by
    refine fn_laps (n := n) (by simp) (by simp) rfl ?_ ?_ (by omega) (by omega) ?_ (fun k h q => h ((eN k).1 q)) T.st T.s1 T.s2 T.s3
    · intro p hp
      by_cases hn : p = []
      · exact .inr hn
      · refine .inl ⟨List.length_pos_iff.2 hn, ?_⟩
        simp only [List.mem_cons, List.not_mem_nil, or_false] at hp
        rcases hp with rfl | rfl | rfl | rfl <;> omega
    · intro p hp
      simp only [List.mem_cons, List.not_mem_nil, or_false] at hp
      rcases hp with rfl | rfl | rfl | rfl <;> omega
    · show p0.length ≤ _
      simp [pathOf]; omega
  have places : FnOk (XX prog w (T1 + 1)) (n + 1) 146 [.str (S (pathOf p0 p1 p2 p3)), .str (S [a]), .str (S [m]), .int others, .int ((pathOf p0 p1 p2 p3).length + 2 : Nat)] (.il (toldTo (mask (pathOf p0 p1 p2 p3) (isSign (S [42]))) (signsP (pathOf p0 p1 p2 p3) a m others) ((2 : Int) ^ (pathOf p0 p1 p2 p3).length) ((pathOf p0 p1 p2 p3).length + 2 + 1))) :=
    fn_places (n := n) (by omega) (by omega) (by omega) T.z1 T.z2
  refine ex_if (b := false) y ha (cn_cmp (b := false) (ev_call ho (by rfl : GName (XX prog w (T1 + 1)) "_law_by_laps" (.ref 141)) rfl rfl ⟨_, _, rfl, rfl⟩ (evs_cons (ev_attr (ev_name ho (by repeat (first | exact List.Mem.head _ | apply List.Mem.tail))) f_rules (fun _ => rfl) (by rfl)) (evs_cons (ev_name ho (by repeat (first | exact List.Mem.head _ | apply List.Mem.tail))) (evs_cons ((ev_bin ev_int.ev (ev_name ho (by repeat (first | exact List.Mem.head _ | apply List.Mem.tail))) op_add).ev.eq (d' := .int ((2 + others : Nat) : Int)) (by rw [Int.natCast_add]; rfl)) (evs_cons (ev_name ho (by repeat (first | exact List.Mem.head _ | apply List.Mem.tail))) evs_nil)))) (laps.le (by omega))).ev
    (ev_call ho (by rfl : GName (XX prog w (T1 + 1)) "_law_by_places" (.ref 146)) rfl rfl ⟨_, _, rfl, rfl⟩ (evs_cons (ev_name ho (by repeat (first | exact List.Mem.head _ | apply List.Mem.tail))) (evs_cons (ev_name ho (by repeat (first | exact List.Mem.head _ | apply List.Mem.tail))) (evs_cons (ev_name ho (by repeat (first | exact List.Mem.head _ | apply List.Mem.tail))).st (evs_cons (ev_name ho (by repeat (first | exact List.Mem.head _ | apply List.Mem.tail))) (evs_cons (ev_name ho (by repeat (first | exact List.Mem.head _ | apply List.Mem.tail))) evs_nil))))) (places.le (by omega))).ev
    (by have h := cmp_ints_ne (X := XX prog w (T1 + 1)) (n := n + 12) (a := tailC (lapsTo [esc p0, esc p1, esc p2, esc p3] [p0, p1, p2, p3] (2 + others) ((pathOf p0 p1 p2 p3).length + 2) 2) (2 + others) p3.length ((pathOf p0 p1 p2 p3).length + 2)) (b := toldTo (mask (pathOf p0 p1 p2 p3) (isSign (S [42]))) (signsP (pathOf p0 p1 p2 p3) a m others) ((2 : Int) ^ (pathOf p0 p1 p2 p3).length) ((pathOf p0 p1 p2 p3).length + 2 + 1)); rw [decide_eq_true T.eq] at h; exact h) rfl) (fun h => nomatch h) fun _ s₁₈ y => ex_nil (?_ : Wp (XX prog w (T1 + 1)) A _ _ _ _ _)
  have etx : Txt.join (S []) ([esc p0, esc p1, esc p2, esc p3].map S) = S (joinL [] [esc p0, esc p1, esc p2, esc p3]) := glued_S [] _
  have ltx : (joinL [] [esc p0, esc p1, esc p2, esc p3]).length ≤ 100 := by simp [joinL]; omega
  refine ex_assign y ha (ev_join (ev_str.ev : Ev _ _ _ _ _ (.str (S []))) (ev_attr (ev_name ho (by repeat (first | exact List.Mem.head _ | apply List.Mem.tail))) f_rules (fun _ => rfl) (by rfl)) (joinOk_S (by simp; omega)) etx (fun _ => rfl) rfl rfl rfl rfl) ⟨rfl, .inl rfl⟩ hce (by repeat (first | exact Del.nil | (apply Del.skip; · rfl) | (apply Del.k; · decide))) (O' := []) (by decide) fun s₁₉ y => ?_
  refine ex_return (d := .bool true) y ha (ev_cmp (ev_call ho (by rfl : GName (XX prog w (T1 + 1)) "_generate_overlap_table" (.ref 96)) rfl rfl ⟨_, _, rfl, rfl⟩ (evs_cons (ev_name ho (by repeat (first | exact List.Mem.head _ | apply List.Mem.tail))) evs_nil) ((fn_table (n := n) (by omega)).le (by omega))).ev (ev_call ho (by rfl : GName (XX prog w (T1 + 1)) "_law_table" (.ref 129)) rfl rfl ⟨_, _, rfl, rfl⟩ (evs_cons (ev_name ho (by repeat (first | exact List.Mem.head _ | apply List.Mem.tail))) evs_nil) ((fn_law_table (n := n) (by omega)).le (by omega))).ev (by have h := cmp_ints_eq (X := XX prog w (T1 + 1)) (n := n + 12) (a := table (joinL [] [esc p0, esc p1, esc p2, esc p3])) (b := table (joinL [] [esc p0, esc p1, esc p2, esc p3])); rw [decide_eq_true rfl] at h; exact h) rfl) fun v s' hp => ⟨v, rfl, ?_⟩
  obtain ⟨⟨⟨h, tk, e⟩, k2, k3⟩, fp, r, hf⟩ := hp
  exact ⟨⟨⟨h, tk, by rw [e]⟩, k2, Nat.le_trans b1 (Nat.le_trans b2 k3)⟩, fp, r, hf⟩
end W40
end
section
open PySem PySem.W PyProof.Rows
set_option Elab.async false
set_option maxRecDepth 20000
set_option maxHeartbeats 4000000
set_option linter.unusedVariables false
set_option linter.unusedSimpArgs false
namespace W40

/-- a sum over the words of length n of three signs, weights 1, 1, o -/
def V (a m : Nat) (o : Int) : Nat → (List Nat → Int) → Int
  | 0, f => f []
  | n + 1, f => V a m o n (fun u => f (a :: u)) + V a m o n (fun u => f (m :: u)) + o * V a m o n (fun u => f (0 :: u))

section
variable {a m : Nat} {o : Int}
theorem V_congr : ∀ {n : Nat} {f g : List Nat → Int}, (∀ u, u.length = n → f u = g u) → V a m o n f = V a m o n g
  | 0, f, g, h => h [] rfl
  | n + 1, f, g, h => by
    unfold V
    rw [V_congr (n := n) fun u hu => h (a :: u) (by simp [hu]), V_congr (n := n) fun u hu => h (m :: u) (by simp [hu]), V_congr (n := n) fun u hu => h (0 :: u) (by simp [hu])]
theorem V_add : ∀ (n : Nat) (f g : List Nat → Int), V a m o n (fun u => f u + g u) = V a m o n f + V a m o n g
  | 0, f, g => rfl
  | n + 1, f, g => by
    unfold V
    rw [V_add n, V_add n, V_add n, Int.mul_add]; omega
theorem V_mul : ∀ (n : Nat) (c : Int) (f : List Nat → Int), V a m o n (fun u => c * f u) = c * V a m o n f
  | 0, c, f => rfl
  | n + 1, c, f => by
    unfold V
    rw [V_mul n, V_mul n, V_mul n, Int.mul_add, Int.mul_add, Int.mul_left_comm o]
theorem V_zero (n : Nat) : V a m o n (fun _ => 0) = 0 := by
  have := V_mul (a := a) (m := m) (o := o) n 0 (fun _ => 0)
  simpa using this
theorem V_sum {α : Type} (n : Nat) (f : α → List Nat → Int) : ∀ L : List α, V a m o n (fun u => (L.map fun s => f s u).sum) = (L.map fun s => V a m o n (f s)).sum
  | [] => by simpa using V_zero n
  | s :: L => by
    simp only [List.map_cons, List.sum_cons]
    rw [V_add, V_sum n f L]
theorem V_one : ∀ n : Nat, V a m o n (fun _ => 1) = (2 + o) ^ n
  | 0 => by simp [V]
  | n + 1 => by
    unfold V
    rw [V_one n, Int.pow_succ, Int.mul_add, Int.mul_comm o]; omega
/-- the last sign instead of the first -/
theorem V_snoc : ∀ (n : Nat) (f : List Nat → Int), V a m o (n + 1) f = V a m o n (fun u => f (u ++ [a])) + V a m o n (fun u => f (u ++ [m])) + o * V a m o n (fun u => f (u ++ [0]))
  | 0, f => rfl
  | n + 1, f => by
    rw [V, V_snoc n, V_snoc n, V_snoc n]
    simp only [V, List.cons_append]
    simp only [Int.mul_add]
    omega
theorem V_take : ∀ (i j : Nat) (f g : List Nat → Int), V a m o (i + j) (fun u => f (u.take i) * g (u.drop i)) = V a m o i f * V a m o j g
  | 0, j, f, g => by
    rw [Nat.zero_add]
    simp only [List.take_zero, List.drop_zero]
    rw [V_mul]; rfl
  | i + 1, j, f, g => by
    rw [show i + 1 + j = (i + j) + 1 by omega]
    simp only [V, List.take_succ_cons, List.drop_succ_cons]
    rw [V_take i j (fun u => f (a :: u)), V_take i j (fun u => f (m :: u)), V_take i j (fun u => f (0 :: u))]
    rw [Int.add_mul, Int.add_mul, Int.mul_assoc]

def ind (b : Bool) : Int := if b then 1 else 0
theorem ind_true : ind true = 1 := rfl
theorem ind_false : ind false = 0 := rfl
theorem ind_and (x y : Bool) : ind (x && y) = ind x * ind y := by cases x <;> cases y <;> rfl

/-- one word, of the two signs of weight 1 -/
theorem V_word (hm : a ≠ m) (ha0 : a ≠ 0) (hm0 : m ≠ 0) : ∀ {w : List Nat}, (∀ c ∈ w, c = a ∨ c = m) → V a m o w.length (fun u => ind (u == w)) = 1
  | [], _ => rfl
  | c :: w, h => by
    have ih := V_word hm ha0 hm0 (w := w) fun d hd => h d (.tail _ hd)
    have z : V a m o w.length (fun _ => ind false) = 0 := V_zero _
    simp only [List.length_cons, V, List.cons_beq_cons]
    rcases h c (.head _) with rfl | rfl
    · rw [show (m == c) = false by simpa using fun e => hm e.symm, show (0 == c) = false by simpa using fun e => ha0 e.symm, show (c == c) = true by simp]
      simp only [Bool.false_and, Bool.true_and]
      rw [z, ih]; simp
    · rw [show (a == c) = false by simpa using hm, show (0 == c) = false by simpa using fun e => hm0 e.symm, show (c == c) = true by simp]
      simp only [Bool.false_and, Bool.true_and]
      rw [z, ih]; simp

/-- over the splits of a word -/
def cv : (List Nat → Int) → (List Nat → Int) → List Nat → Int
  | f, g, [] => f [] * g []
  | f, g, x :: u => f [] * g (x :: u) + cv (fun v => f (x :: v)) g u
theorem cv_zero (g : List Nat → Int) : ∀ u, cv (fun _ => 0) g u = 0
  | [] => by simp [cv]
  | x :: u => by simp [cv, cv_zero g u]
theorem cv_congr {g g' : List Nat → Int} (h : ∀ u, g u = g' u) (f : List Nat → Int) (u : List Nat) : cv f g u = cv f g' u := by rw [show g = g' from funext h]
theorem cv_add {g : List Nat → Int} : ∀ (f f' : List Nat → Int) (u), cv (fun v => f v + f' v) g u = cv f g u + cv f' g u
  | f, f', [] => by simp [cv, Int.add_mul]
  | f, f', x :: u => by simp only [cv]; rw [cv_add, Int.add_mul]; omega
theorem cv_mul {g : List Nat → Int} : ∀ (c : Int) (f : List Nat → Int) (u), cv (fun v => c * f v) g u = c * cv f g u
  | c, f, [] => by simp [cv, Int.mul_assoc]
  | c, f, x :: u => by simp only [cv]; rw [cv_mul, Int.mul_add, Int.mul_assoc]
theorem cv_assoc (g h : List Nat → Int) : ∀ (f : List Nat → Int) (u), cv (cv f g) h u = cv f (cv g h) u
  | f, [] => by simp [cv, Int.mul_assoc]
  | f, x :: u => by
    simp only [cv]
    rw [cv_add, cv_mul, cv_assoc g h _ u, Int.mul_add, Int.mul_assoc]
    omega
theorem V_cv (g : List Nat → Int) : ∀ (n : Nat) (f : List Nat → Int), V a m o n (cv f g) = ((List.range (n + 1)).map fun j => V a m o j f * V a m o (n - j) g).sum
  | 0, f => by simp [V, cv]
  | n + 1, f => by
    rw [List.range_succ_eq_map]
    simp only [List.map_cons, List.sum_cons, List.map_map, Nat.sub_zero]
    have e : ((fun j => V a m o j f * V a m o (n + 1 - j) g) ∘ Nat.succ) = fun j => V a m o j (fun u => f (a :: u)) * V a m o (n - j) g + V a m o j (fun u => f (m :: u)) * V a m o (n - j) g + o * (V a m o j (fun u => f (0 :: u)) * V a m o (n - j) g) := by
      funext j
      show V a m o (j + 1) f * V a m o (n + 1 - (j + 1)) g = _
      rw [Nat.add_sub_add_right, V, Int.add_mul, Int.add_mul, Int.mul_assoc]
    rw [e]
    have s2 : ∀ (L : List Nat) (x y z : Nat → Int), (L.map fun j => x j + y j + o * z j).sum = (L.map x).sum + (L.map y).sum + o * (L.map z).sum := by
      intro L x y z
      induction L with
      | nil => simp
      | cons s L ih => simp only [List.map_cons, List.sum_cons]; rw [ih, Int.mul_add]; omega
    rw [s2, ← V_cv g n, ← V_cv g n, ← V_cv g n]
    simp only [V, cv]
    rw [V_add, V_add, V_add, V_mul, V_mul, V_mul, Int.mul_add, Int.mul_add, Int.mul_add, Int.mul_left_comm o]
    omega
theorem V_nonneg (ho : 0 ≤ o) : ∀ (n : Nat) (f g : List Nat → Int), (∀ u, f u ≤ g u) → V a m o n f ≤ V a m o n g
  | 0, f, g, h => h []
  | n + 1, f, g, h => by
    unfold V
    have h1 := V_nonneg ho n _ _ fun u => h (a :: u)
    have h2 := V_nonneg ho n _ _ fun u => h (m :: u)
    have h3 := Int.mul_le_mul_of_nonneg_left (V_nonneg ho n _ _ fun u => h (0 :: u)) ho
    omega
end
end W40
end
section
open PySem PySem.W PyProof.Rows
set_option Elab.async false
set_option maxRecDepth 20000
set_option maxHeartbeats 4000000
set_option linter.unusedVariables false
set_option linter.unusedSimpArgs false
namespace W40

/-- p ends with w -/
def ends (w p : List Nat) : Bool := p.drop (p.length - w.length) == w
/-- with p read: the word ends w at its end for the first time -/
def fst (w : List Nat) : List Nat → List Nat → Int
  | p, [] => ind (ends w p)
  | p, x :: v => if ends w p then 0 else fst w (p ++ [x]) v
/-- with p read: nowhere -/
def fre (w : List Nat) : List Nat → List Nat → Int
  | p, [] => ind (!ends w p)
  | p, x :: v => if ends w p then 0 else fre w (p ++ [x]) v

section
variable {a m : Nat} {o : Int} {w : List Nat}

theorem fre_snoc : ∀ (p v : List Nat) (x : Nat), fre w p (v ++ [x]) + fst w p (v ++ [x]) = fre w p v
  | p, [], x => by
    simp only [List.nil_append, fre, fst]
    cases h : ends w p
    · simp [ind]; cases ends w (p ++ [x]) <;> simp
    · simp [ind]
  | p, y :: v, x => by
    simp only [List.cons_append, fre, fst]
    cases h : ends w p
    · simpa using fre_snoc (p ++ [y]) v x
    · simp
theorem fre_step (n : Nat) : V a m o (n + 1) (fre w []) = (2 + o) * V a m o n (fre w []) - V a m o (n + 1) (fst w []) := by
  have h : V a m o (n + 1) (fre w []) + V a m o (n + 1) (fst w []) = (2 + o) * V a m o n (fre w []) := by
    rw [← V_add, V_snoc]
    simp only [fre_snoc]
    show V a m o n (fre w []) + V a m o n (fre w []) + o * V a m o n (fre w []) = _
    rw [Int.add_mul]
    omega
  omega
/-- never with a hit: every prefix -/
theorem fre_char : ∀ (v p : List Nat), fre w p v = ind (decide (∀ i, i ≤ v.length → ends w (p ++ v.take i) = false))
  | [], p => by
    simp only [fre]
    congr 1
    cases h : ends w p
    · symm; simp [h]
    · symm; simp [h]
  | x :: v, p => by
    simp only [fre]
    cases h : ends w p
    · rw [if_neg (by simp), fre_char v]
      congr 1
      rw [decide_eq_decide]
      constructor
      · intro k i hi
        cases i with
        | zero => simpa using h
        | succ i => have := k i (by simpa using hi); simpa using this
      · intro k i hi
        have := k (i + 1) (by simpa using hi)
        simpa using this
    · rw [if_pos rfl]
      symm
      rw [show decide _ = false from decide_eq_false (fun k => by have := k 0 (by omega); simp [h] at this)]
      rfl
theorem fst_char : ∀ (v p : List Nat), fst w p v = ind (decide (ends w (p ++ v) = true ∧ ∀ i, i < v.length → ends w (p ++ v.take i) = false))
  | [], p => by
    simp only [fst]
    congr 1
    cases h : ends w p <;> simp [h]
  | x :: v, p => by
    simp only [fst]
    cases h : ends w p
    · rw [if_neg (by simp), fst_char v]
      congr 1
      rw [decide_eq_decide]
      constructor
      · rintro ⟨k1, k⟩
        refine ⟨by simpa using k1, fun i hi => ?_⟩
        cases i with
        | zero => simpa using h
        | succ i => have := k i (by simpa using hi); simpa using this
      · rintro ⟨k1, k⟩
        refine ⟨by simpa using k1, fun i hi => ?_⟩
        have := k (i + 1) (by simpa using hi)
        simpa using this
    · rw [if_pos rfl]
      symm
      rw [show decide _ = false from decide_eq_false (fun k => by have := k.2 0 (by simp); simp [h] at this)]
      rfl
theorem ends_iff {p : List Nat} : ends w p = true ↔ ∃ t, p = t ++ w := by
  unfold ends
  rw [beq_iff_eq]
  constructor
  · intro h
    exact ⟨p.take (p.length - w.length), by conv => lhs; rw [← List.take_append_drop (p.length - w.length) p]; rw [h]⟩
  · rintro ⟨t, rfl⟩
    rw [List.length_append, Nat.add_sub_cancel, List.drop_left]

/-- w laps over itself when pushed on by s -/
def per (w : List Nat) (s : Nat) : Bool := w.drop s == w.take (w.length - s)

theorem sum_one {α : Type} (f : α → Int) : ∀ {L : List α} {s : α}, L.Nodup → s ∈ L → f s = 1 → (∀ t ∈ L, t ≠ s → f t = 0) → (L.map f).sum = 1
  | x :: L, s, hn, hs, h1, h0 => by
    rw [List.map_cons, List.sum_cons]
    rw [List.nodup_cons] at hn
    rcases List.mem_cons.1 hs with rfl | hs
    · have : (L.map f).sum = 0 := by
        have : ∀ t ∈ L, f t = 0 := fun t ht => h0 t (.tail _ ht) fun e => hn.1 (e ▸ ht)
        clear hn h0 hs h1
        induction L with
        | nil => rfl
        | cons y L ih => rw [List.map_cons, List.sum_cons, this y (.head _), ih fun t ht => this t (.tail _ ht)]; rfl
      omega
    · rw [h0 x (.head _) fun e => hn.1 (e ▸ hs), sum_one f hn.2 hs h1 fun t ht => h0 t (.tail _ ht)]; rfl
theorem sum_none {α : Type} (f : α → Int) : ∀ {L : List α}, (∀ t ∈ L, f t = 0) → (L.map f).sum = 0
  | [], _ => rfl
  | y :: L, h => by rw [List.map_cons, List.sum_cons, h y (.head _), sum_none f fun t ht => h t (.tail _ ht)]; rfl
theorem least {P : Nat → Prop} : ∀ n, P n → ∃ i, i ≤ n ∧ P i ∧ ∀ j, j < i → ¬ P j := by
  intro n
  induction n using Nat.strongRecOn with
  | _ n ih =>
    intro h
    by_cases q : ∃ j, j < n ∧ P j
    · obtain ⟨j, hj, hp⟩ := q
      obtain ⟨i, h1, h2, h3⟩ := ih j hj hp
      exact ⟨i, by omega, h2, h3⟩
    · exact ⟨n, Nat.le_refl n, h, fun j hj hp => q ⟨j, hj, hp⟩⟩
theorem ends_cut {u : List Nat} {i : Nat} (hi : i ≤ u.length) (h : ends w (u.take i) = true) : w.length ≤ i ∧ (u.take i).drop (i - w.length) = w := by
  obtain ⟨t, e⟩ := ends_iff.1 h
  have hl := congrArg List.length e
  rw [List.length_take, List.length_append, Nat.min_eq_left hi] at hl
  refine ⟨by omega, ?_⟩
  rw [e, show i - w.length = t.length by omega, List.drop_left]
theorem mid_cut {u : List Nat} {s : Nat} (hs : s < w.length) (hn : w.length ≤ u.length) (h : ends w (u.take (u.length - s)) = true) : (u.take (u.length - s)).drop (u.length - w.length) = w.drop s := by
  obtain ⟨h1, h2⟩ := ends_cut (by omega) h
  conv => rhs; rw [← h2]
  rw [List.drop_drop]
  congr 1; omega
theorem lap_at {u : List Nat} (hk : 1 ≤ w.length) (hn : w.length ≤ u.length) :
    fre w [] (u.take (u.length - w.length)) * ind (u.drop (u.length - w.length) == w) = (((List.range w.length).filter (per w)).map fun s => fst w [] (u.take (u.length - s)) * ind (u.drop (u.length - s) == w.drop (w.length - s))).sum := by
  have hfst : ∀ s, s < w.length → (fst w [] (u.take (u.length - s)) = 1 ∧ ends w (u.take (u.length - s)) = true ∧ ∀ i, i < u.length - s → ends w (u.take i) = false) ∨ (fst w [] (u.take (u.length - s)) = 0 ∧ ¬ (ends w (u.take (u.length - s)) = true ∧ ∀ i, i < u.length - s → ends w (u.take i) = false)) := by
    intro s hs
    rw [fst_char]
    have hl : (u.take (u.length - s)).length = u.length - s := by rw [List.length_take]; omega
    have ht : ∀ i, i < u.length - s → (u.take (u.length - s)).take i = u.take i := fun i hi => by rw [List.take_take, Nat.min_eq_left (by omega)]
    by_cases q : ends w (u.take (u.length - s)) = true ∧ ∀ i, i < u.length - s → ends w (u.take i) = false
    · left
      refine ⟨?_, q⟩
      rw [decide_eq_true, ind_true]
      refine ⟨by simpa using q.1, fun i hi => ?_⟩
      rw [hl] at hi
      rw [List.nil_append, ht i hi]; exact q.2 i hi
    · right
      refine ⟨?_, q⟩
      rw [decide_eq_false, ind_false]
      rintro ⟨k1, k2⟩
      refine q ⟨by simpa using k1, fun i hi => ?_⟩
      have := k2 i (by rw [hl]; exact hi)
      rwa [List.nil_append, ht i hi] at this
  have hfre : fre w [] (u.take (u.length - w.length)) = ind (decide (∀ i, i ≤ u.length - w.length → ends w (u.take i) = false)) := by
    rw [fre_char]
    congr 1
    rw [decide_eq_decide]
    have hl : (u.take (u.length - w.length)).length = u.length - w.length := by rw [List.length_take]; omega
    constructor
    · intro k i hi
      have := k i (by rw [hl]; exact hi)
      rwa [List.nil_append, List.take_take, Nat.min_eq_left (by omega)] at this
    · intro k i hi
      rw [hl] at hi
      rw [List.nil_append, List.take_take, Nat.min_eq_left (by omega)]; exact k i hi
  rw [hfre]
  have hmem : ∀ s, s ∈ (List.range w.length).filter (per w) ↔ s < w.length ∧ per w s = true := fun s => by rw [List.mem_filter, List.mem_range]
  by_cases q : (∀ i, i ≤ u.length - w.length → ends w (u.take i) = false) ∧ u.drop (u.length - w.length) = w
  · obtain ⟨q1, q2⟩ := q
    rw [decide_eq_true q1, show (u.drop (u.length - w.length) == w) = true by simpa using q2]
    have hu : ends w (u.take u.length) = true := by
      rw [List.take_length]; exact ends_iff.2 ⟨u.take (u.length - w.length), by conv => lhs; rw [← List.take_append_drop (u.length - w.length) u]; rw [q2]⟩
    obtain ⟨i, h1, h2, h3⟩ := least (P := fun i => ends w (u.take i) = true) u.length hu
    have hi : u.length - w.length < i := by
      rcases Nat.lt_or_ge (u.length - w.length) i with h | h
      · exact h
      · have := q1 i h; rw [this] at h2; cases h2
    symm
    refine sum_one _ (s := u.length - i) (List.nodup_range.filter _) ?_ ?_ ?_
    · rw [hmem]
      refine ⟨by omega, ?_⟩
      unfold per
      rw [beq_iff_eq, ← mid_cut (by omega) hn (by rw [show u.length - (u.length - i) = i by omega]; exact h2)]
      rw [List.drop_take, q2]
      congr 1; omega
    · rcases hfst (u.length - i) (by omega) with h | h
      · rw [h.1]
        have e : u.drop (u.length - (u.length - i)) = w.drop (w.length - (u.length - i)) := by
          have q3 := congrArg (List.drop (w.length - (u.length - i))) q2
          rw [List.drop_drop] at q3
          rw [← q3]
          congr 1; omega
        rw [show (u.drop (u.length - (u.length - i)) == w.drop (w.length - (u.length - i))) = true by simpa using e]
        rfl
      · exfalso
        refine h.2 ⟨by rw [show u.length - (u.length - i) = i by omega]; exact h2, fun j hj => ?_⟩
        have := h3 j (by omega)
        simpa using this
    · intro s hs hne
      rw [hmem] at hs
      rcases hfst s hs.1 with h | h
      · exfalso
        obtain ⟨_, k1, k2⟩ := h
        rcases Nat.lt_trichotomy (u.length - s) i with l | l | l
        · exact h3 _ l k1
        · omega
        · have := k2 i l; rw [this] at h2; cases h2
      · rw [h.1]; simp
  · symm
    have e : ind (decide (∀ i, i ≤ u.length - w.length → ends w (u.take i) = false)) * ind (u.drop (u.length - w.length) == w) = 0 := by
      rw [← ind_and]
      cases hb : (decide (∀ i, i ≤ u.length - w.length → ends w (u.take i) = false) && (u.drop (u.length - w.length) == w)) with
      | false => rfl
      | true =>
        exfalso
        rw [Bool.and_eq_true, decide_eq_true_eq, beq_iff_eq] at hb
        exact q hb
    rw [e]
    refine sum_none _ fun s hs => ?_
    rw [hmem] at hs
    rcases hfst s hs.1 with h | h
    · obtain ⟨k0, k1, k2⟩ := h
      cases hb : (u.drop (u.length - s) == w.drop (w.length - s)) with
      | false => rw [ind_false, Int.mul_zero]
      | true =>
        exfalso
        rw [beq_iff_eq] at hb
        refine q ⟨fun i hi => k2 i (by omega), ?_⟩
        have e1 : u.drop (u.length - w.length) = (u.take (u.length - s)).drop (u.length - w.length) ++ u.drop (u.length - s) := by
          have q3 := List.drop_append_of_le_length (l₁ := u.take (u.length - s)) (l₂ := u.drop (u.length - s)) (i := u.length - w.length) (by rw [List.length_take]; omega)
          rwa [List.take_append_drop] at q3
        have hp := hs.2
        unfold per at hp
        rw [beq_iff_eq] at hp
        rw [e1, mid_cut hs.1 hn k1, hb, hp, List.take_append_drop]
    · rw [h.1, Int.zero_mul]
/-- texts free of w, w behind them: by first ends (Guibas, Odlyzko) -/
theorem lap_sum (hm : a ≠ m) (ha0 : a ≠ 0) (hm0 : m ≠ 0) (hw : ∀ c ∈ w, c = a ∨ c = m) (hk : 1 ≤ w.length) {n : Nat} (hn : w.length ≤ n) :
    V a m o (n - w.length) (fre w []) = (((List.range w.length).filter (per w)).map fun s => V a m o (n - s) (fst w [])).sum := by
  have h1 : V a m o ((n - w.length) + w.length) (fun u => fre w [] (u.take (n - w.length)) * ind (u.drop (n - w.length) == w)) = V a m o (n - w.length) (fre w []) := by
    rw [V_take (n - w.length) w.length (fre w []) (fun u => ind (u == w)), V_word hm ha0 hm0 hw, Int.mul_one]
  rw [← h1, Nat.sub_add_cancel hn]
  rw [V_congr (g := fun u => (((List.range w.length).filter (per w)).map fun s => fst w [] (u.take (n - s)) * ind (u.drop (n - s) == w.drop (w.length - s))).sum) fun u hu => by subst hu; exact lap_at hk hn]
  rw [V_sum n (fun s u => fst w [] (u.take (n - s)) * ind (u.drop (n - s) == w.drop (w.length - s)))]
  congr 1
  apply List.map_congr_left
  intro s hs
  rw [List.mem_filter, List.mem_range] at hs
  have hl : (w.drop (w.length - s)).length = s := by rw [List.length_drop]; omega
  have h2 := V_take (a := a) (m := m) (o := o) (n - s) s (fst w []) (fun u => ind (u == w.drop (w.length - s)))
  rw [Nat.sub_add_cancel (by omega)] at h2
  rw [h2]
  have h3 := V_word (o := o) hm ha0 hm0 (w := w.drop (w.length - s)) fun c hc => hw c (List.mem_of_mem_drop hc)
  rw [hl] at h3
  rw [h3, Int.mul_one]
theorem fst_short (hk : 1 ≤ w.length) {n : Nat} (hn : n < w.length) : V a m o n (fst w []) = 0 := by
  rw [V_congr (g := fun _ => 0) fun u hu => ?_]
  · exact V_zero n
  · rw [fst_char, decide_eq_false, ind_false]
    rintro ⟨h, _⟩
    obtain ⟨t, e⟩ := ends_iff.1 h
    have := congrArg List.length e
    simp at this; omega
end
end W40
end
section
open PySem PySem.W PyProof.Rows
set_option Elab.async false
set_option maxRecDepth 20000
set_option maxHeartbeats 4000000
set_option linter.unusedVariables false
set_option linter.unusedSimpArgs false
namespace W40

def periods (w : List Nat) : List Nat := ((List.range (w.length - 1)).map (· + 1)).filter (per w)
theorem periods_cons {w : List Nat} (hk : 1 ≤ w.length) : (List.range w.length).filter (per w) = 0 :: periods w := by
  unfold periods
  obtain ⟨k, e⟩ : ∃ k, w.length = k + 1 := ⟨w.length - 1, by omega⟩
  rw [e, List.range_succ_eq_map, Nat.add_sub_cancel]
  rw [List.filter_cons_of_pos]
  unfold per
  simp
theorem periods_mem {w : List Nat} {s : Nat} (h : s ∈ periods w) : 1 ≤ s ∧ s < w.length := by
  unfold periods at h
  rw [List.mem_filter, List.mem_map] at h
  obtain ⟨⟨t, h1, rfl⟩, _⟩ := h
  rw [List.mem_range] at h1
  omega
theorem fold_cntS (E : List Int) (n : Nat) : ∀ (L : List Nat) (c : Int), (L.map fun s : Nat => (s : Int)).foldl (cntS E n) c = c - (L.map fun s => if s ≤ n then E.getD (n - s) 0 else 0).sum
  | [], c => by simp
  | s :: L, c => by
    rw [List.map_cons, List.foldl_cons, fold_cntS E n L, List.map_cons, List.sum_cons]
    unfold cntS
    by_cases h : s ≤ n
    · rw [if_pos (by omega), if_pos h, show ((n : Int) - (s : Int)).toNat = n - s by omega]; omega
    · rw [if_neg (by omega), if_neg h]; omega
theorem range_map_getD (f : Nat → Int) {n i : Nat} (h : i < n) : ((List.range n).map f).getD i 0 = f i := by
  rw [List.getD_eq_getElem?_getD, List.getElem?_map, List.getElem?_range h]; rfl
section
variable {a m : Nat} {o : Int} {w : List Nat}
theorem cnt_is (hm : a ≠ m) (ha0 : a ≠ 0) (hm0 : m ≠ 0) (hw : ∀ c ∈ w, c = a ∨ c = m) (hk : 1 ≤ w.length) (t : Nat) :
    cnt ((periods w).map fun s : Nat => (s : Int)) w.length ((List.range (t + 1)).map fun i => V a m o i (fre w [])) ((List.range (t + 1)).map fun i => V a m o i (fst w [])) ((t + 1 : Nat) : Int) = V a m o (t + 1) (fst w []) := by
  unfold cnt
  rw [fold_cntS]
  rcases Nat.lt_or_ge (t + 1) w.length with h | h
  · rw [fst_short hk h]
    have e1 : cntF w.length ((List.range (t + 1)).map fun i => V a m o i (fre w [])) ((t + 1 : Nat) : Int) = 0 := by
      unfold cntF; rw [if_neg (by omega)]
    rw [e1, sum_none]
    · rfl
    · intro s hs
      obtain ⟨h1, h2⟩ := periods_mem hs
      split
      · rw [range_map_getD _ (by omega)]
        exact fst_short hk (by omega)
      · rfl
  · have l := lap_sum (o := o) hm ha0 hm0 hw hk h
    rw [periods_cons hk, List.map_cons, List.sum_cons, Nat.sub_zero] at l
    have e1 : cntF w.length ((List.range (t + 1)).map fun i => V a m o i (fre w [])) ((t + 1 : Nat) : Int) = V a m o (t + 1 - w.length) (fre w []) := by
      unfold cntF
      rw [if_pos (by omega), show (((t + 1 : Nat) : Int) - (w.length : Int)).toNat = t + 1 - w.length by omega, range_map_getD _ (by omega)]
    have e2 : (periods w).map (fun s => if s ≤ t + 1 then ((List.range (t + 1)).map fun i => V a m o i (fst w [])).getD (t + 1 - s) 0 else 0) = (periods w).map fun s => V a m o (t + 1 - s) (fst w []) := by
      apply List.map_congr_left
      intro s hs
      obtain ⟨h1, h2⟩ := periods_mem hs
      rw [if_pos (by omega), range_map_getD _ (by omega)]
    rw [e1, e2, l]
    omega
theorem go_is (hm : a ≠ m) (ha0 : a ≠ 0) (hm0 : m ≠ 0) (hw : ∀ c ∈ w, c = a ∨ c = m) (hk : 1 ≤ w.length) : ∀ t : Nat,
    go ((periods w).map fun s : Nat => (s : Int)) w.length (2 + o) t = ((List.range (t + 1)).map (fun i => V a m o i (fre w [])), (List.range (t + 1)).map (fun i => V a m o i (fst w [])))
  | 0 => by
    have e : ends w [] = false := by
      cases h : ends w [] with
      | false => rfl
      | true =>
        obtain ⟨t, e⟩ := ends_iff.1 h
        have := congrArg List.length e
        simp at this; omega
    simp [go, V, fre, fst, e, ind]
  | t + 1 => by
    rw [go, go_is hm ha0 hm0 hw hk t]
    rw [List.range_succ (n := t + 1), List.map_append, List.map_append]
    rw [cnt_is hm ha0 hm0 hw hk t, range_map_getD _ (by omega)]
    simp only [List.map_cons, List.map_nil]
    rw [fre_step t]
end
end W40
end
section
open PySem PySem.W PyProof.Rows
set_option Elab.async false
set_option maxRecDepth 20000
set_option maxHeartbeats 4000000
set_option linter.unusedVariables false
set_option linter.unusedSimpArgs false
namespace W40

def starB (g : List Nat → Bool) : List Nat → Bool
  | [] => g []
  | x :: u => g (x :: u) || starB g u
def litB (c : Nat) (g : List Nat → Bool) : List Nat → Bool
  | [] => false
  | x :: u => x == c && g u
/-- does the path take the text -/
def mt : List Nat → List Nat → Bool
  | [] => fun u => u.isEmpty
  | c :: ps => if c = 42 then starB (mt ps) else litB c (mt ps)
theorem mt_star (ps : List Nat) : mt (42 :: ps) = starB (mt ps) := rfl
theorem mt_lit {c : Nat} (h : c ≠ 42) (ps : List Nat) : mt (c :: ps) = litB c (mt ps) := if_neg h
theorem star_iff {g : List Nat → Bool} : ∀ {u}, starB g u = true ↔ ∃ v y, u = v ++ y ∧ g y = true
  | [] => by
    unfold starB
    constructor
    · intro h; exact ⟨[], [], rfl, h⟩
    · rintro ⟨v, y, e, h⟩
      obtain ⟨rfl, rfl⟩ := List.append_eq_nil_iff.1 e.symm
      exact h
  | x :: u => by
    unfold starB
    rw [Bool.or_eq_true, star_iff]
    constructor
    · rintro (h | ⟨v, y, rfl, h⟩)
      · exact ⟨[], _, rfl, h⟩
      · exact ⟨x :: v, y, rfl, h⟩
    · rintro ⟨v, y, e, h⟩
      cases v with
      | nil => exact .inl (by rw [List.nil_append] at e; rw [e]; exact h)
      | cons z v =>
        injection e with e1 e2
        exact .inr ⟨v, y, e2, h⟩
theorem word_iff {rest : List Nat} : ∀ {w : List Nat} (hw : ∀ c ∈ w, c ≠ 42) {u : List Nat}, mt (w ++ rest) u = true ↔ ∃ y, u = w ++ y ∧ mt rest y = true
  | [], _, u => by simp
  | c :: w, hw, u => by
    rw [List.cons_append, mt_lit (hw c (.head _))]
    cases u with
    | nil => simp [litB]
    | cons x u =>
      unfold litB
      rw [Bool.and_eq_true, word_iff (fun d hd => hw d (.tail _ hd)), beq_iff_eq]
      constructor
      · rintro ⟨rfl, y, rfl, h⟩; exact ⟨y, rfl, h⟩
      · rintro ⟨y, e, h⟩
        injection e with e1 e2
        exact ⟨e1, y, e2, h⟩
def hitB (w : List Nat) (R : List Nat → Bool) : List Nat → List Nat → Bool
  | p, [] => ends w p && R []
  | p, x :: u => (ends w p && R (x :: u)) || hitB w R (p ++ [x]) u
theorem hit_iff {w : List Nat} {R : List Nat → Bool} : ∀ {p u}, hitB w R p u = true ↔ ∃ v y, u = v ++ y ∧ ends w (p ++ v) = true ∧ R y = true
  | p, [] => by
    unfold hitB
    rw [Bool.and_eq_true]
    constructor
    · rintro ⟨h1, h2⟩; exact ⟨[], [], rfl, by simpa using h1, h2⟩
    · rintro ⟨v, y, e, h1, h2⟩
      obtain ⟨rfl, rfl⟩ := List.append_eq_nil_iff.1 e.symm
      exact ⟨by simpa using h1, h2⟩
  | p, x :: u => by
    unfold hitB
    rw [Bool.or_eq_true, Bool.and_eq_true, hit_iff]
    constructor
    · rintro (⟨h1, h2⟩ | ⟨v, y, rfl, h1, h2⟩)
      · exact ⟨[], _, rfl, by simpa using h1, h2⟩
      · exact ⟨x :: v, y, rfl, by simpa using h1, h2⟩
    · rintro ⟨v, y, e, h1, h2⟩
      cases v with
      | nil =>
        rw [List.nil_append] at e
        exact .inl ⟨by simpa using h1, by rw [e]; exact h2⟩
      | cons z v =>
        injection e with e1 e2
        subst e1
        exact .inr ⟨v, y, e2, by simpa using h1, h2⟩
def Up (R : List Nat → Bool) : Prop := ∀ x u, R u = true → R (x :: u) = true
theorem up_app {R : List Nat → Bool} (h : Up R) : ∀ (v : List Nat) {y}, R y = true → R (v ++ y) = true
  | [], _, q => q
  | x :: v, _, q => h x _ (up_app h v q)
theorem up_star (g : List Nat → Bool) : Up (starB g) := fun x u h => by
  unfold starB; rw [h, Bool.or_true]
theorem cv_fst {w : List Nat} {R : List Nat → Bool} (hR : Up R) : ∀ (u p : List Nat), cv (fst w p) (fun y => ind (R y)) u = ind (hitB w R p u)
  | [], p => by
    simp only [cv, fst, hitB]
    rw [ind_and]
  | x :: u, p => by
    simp only [cv, hitB]
    cases h : ends w p with
    | true =>
      have e : (fun v => fst w p (x :: v)) = fun _ => 0 := by funext v; simp [fst, h]
      rw [e, cv_zero, show fst w p [] = 1 by simp [fst, h, ind], Int.one_mul, Int.add_zero]
      congr 1
      cases q : hitB w R (p ++ [x]) u with
      | false => simp
      | true =>
        obtain ⟨v, y, rfl, _, h2⟩ := hit_iff.1 q
        rw [show R (x :: (v ++ y)) = true from up_app hR (x :: v) h2]; rfl
    | false =>
      have e : (fun v => fst w p (x :: v)) = fst w (p ++ [x]) := by funext v; simp [fst, h]
      rw [e, show fst w p [] = 0 by simp [fst, h, ind], Int.zero_mul, Int.zero_add, cv_fst hR u]
      simp
theorem star_word {w rest : List Nat} (hw : ∀ c ∈ w, c ≠ 42) (u : List Nat) : starB (mt (w ++ 42 :: rest)) u = hitB w (starB (mt rest)) [] u := by
  rw [Bool.eq_iff_iff, star_iff, hit_iff]
  constructor
  · rintro ⟨v, y, rfl, h⟩
    obtain ⟨z, rfl, h2⟩ := (word_iff hw).1 h
    exact ⟨v ++ w, z, by simp, ends_iff.2 ⟨v, by simp⟩, h2⟩
  · rintro ⟨v, y, rfl, h, h2⟩
    obtain ⟨t, e⟩ := ends_iff.1 h
    rw [List.nil_append] at e
    subst e
    exact ⟨t, w ++ y, by simp, (word_iff hw).2 ⟨y, rfl, h2⟩⟩
theorem cv_del {rest : List Nat} : ∀ {w : List Nat} (hw : ∀ c ∈ w, c ≠ 42) (u : List Nat), cv (fun v => ind (v == w)) (fun y => ind (mt rest y)) u = ind (mt (w ++ rest) u)
  | [], _, [] => by simp [cv, ind]
  | [], _, x :: u => by
    have e : (fun v : List Nat => ind (x :: v == [])) = fun _ => 0 := by funext v; rfl
    simp only [cv]
    rw [e, cv_zero]
    simp [ind]
  | c :: w, hw, [] => by
    rw [List.cons_append, mt_lit (hw c (.head _))]
    simp [cv, ind, litB]
  | c :: w, hw, x :: u => by
    rw [List.cons_append, mt_lit (hw c (.head _))]
    have e : (fun v : List Nat => ind (x :: v == c :: w)) = fun v => ind (x == c) * ind (v == w) := by funext v; rw [List.cons_beq_cons, ind_and]
    simp only [cv, litB]
    rw [e, cv_mul, cv_del fun d hd => hw d (.tail _ hd), ind_and]
    simp [ind]
theorem path_is {p0 p1 p2 p3 : List Nat} (h0 : ∀ c ∈ p0, c ≠ 42) (h1 : ∀ c ∈ p1, c ≠ 42) (h2 : ∀ c ∈ p2, c ≠ 42) (u : List Nat) :
    ind (mt (p0 ++ 42 :: (p1 ++ 42 :: (p2 ++ 42 :: p3))) u) = cv (cv (cv (fun v => ind (v == p0)) (fst p1 [])) (fst p2 [])) (fun y => ind (starB (mt p3) y)) u := by
  rw [cv_assoc, cv_assoc]
  have e2 : (cv (fst p2 []) fun y => ind (starB (mt p3) y)) = fun y => ind (starB (mt (p2 ++ 42 :: p3)) y) := by
    funext y; rw [cv_fst (up_star _), ← star_word h2]
  have e1 : (cv (fst p1 []) fun y => ind (starB (mt (p2 ++ 42 :: p3)) y)) = fun y => ind (starB (mt (p1 ++ 42 :: (p2 ++ 42 :: p3))) y) := by
    funext y; rw [cv_fst (up_star _), ← star_word h1]
  rw [e2, e1]
  exact (cv_del (rest := 42 :: (p1 ++ 42 :: (p2 ++ 42 :: p3))) h0 u).symm
section
variable {a m : Nat} {o : Int} {w : List Nat}
theorem V_ends (hm : a ≠ m) (ha0 : a ≠ 0) (hm0 : m ≠ 0) (hw : ∀ c ∈ w, c = a ∨ c = m) (h42 : ∀ c ∈ w, c ≠ 42) (n : Nat) :
    V a m o n (fun y => ind (starB (mt w) y)) = if w.length ≤ n then (2 + o) ^ (n - w.length) else 0 := by
  have e : ∀ y, starB (mt w) y = ends w y := by
    intro y
    rw [Bool.eq_iff_iff, star_iff, ends_iff]
    constructor
    · rintro ⟨v, z, rfl, h⟩
      rw [← List.append_nil w] at h
      obtain ⟨z', rfl, h2⟩ := (word_iff h42).1 h
      have : z' = [] := by simpa [mt] using h2
      subst this
      exact ⟨v, by simp⟩
    · rintro ⟨t, rfl⟩
      refine ⟨t, w, rfl, ?_⟩
      rw [← List.append_nil w]
      exact (word_iff h42).2 ⟨[], by simp, rfl⟩
  split
  · rename_i h
    have h2 := V_take (a := a) (m := m) (o := o) (n - w.length) w.length (fun _ => 1) (fun u => ind (u == w))
    rw [Nat.sub_add_cancel h, V_one, V_word hm ha0 hm0 hw, Int.mul_one] at h2
    rw [← h2]
    apply V_congr
    intro u hu
    rw [e, Int.one_mul]
    unfold ends
    rw [hu]
  · rename_i h
    rw [V_congr (g := fun _ => 0) fun u hu => ?_]
    · exact V_zero n
    · rw [e]
      cases q : ends w u with
      | false => rfl
      | true =>
        obtain ⟨t, e⟩ := ends_iff.1 q
        have := congrArg List.length e
        simp at this; omega
end
end W40
end
section
open PySem PySem.W PyProof.Rows
set_option Elab.async false
set_option maxRecDepth 20000
set_option maxHeartbeats 4000000
set_option linter.unusedVariables false
set_option linter.unusedSimpArgs false
namespace W40

theorem bAnd (x y : Nat) : Builtin.bitAnd (x : Int) (y : Int) = ((x &&& y : Nat) : Int) := by
  rw [bitAnd_pp (by omega) (by omega)]; rfl
theorem bOr (x y : Nat) : Builtin.bitOr (x : Int) (y : Int) = ((x ||| y : Nat) : Int) := by
  unfold Builtin.bitOr
  rw [bitAnd_nn (by unfold Builtin.bitNot; omega) (by unfold Builtin.bitNot; omega)]
  have e : ∀ z : Int, Builtin.bitNot (Builtin.bitNot z) = z := fun z => by unfold Builtin.bitNot; omega
  rw [e, e, e]; rfl
def maskT (path : List Nat) (q : Nat → Bool) : Nat → Nat
  | 0 => 0
  | n + 1 => maskT path q n + if q (path.getD n 0) then 2 ^ n else 0
def maskN (path : List Nat) (q : Nat → Bool) : Nat := maskT path q path.length
theorem maskT_lt (path : List Nat) (q : Nat → Bool) : ∀ n, maskT path q n < 2 ^ n
  | 0 => by simp [maskT]
  | n + 1 => by
    have := maskT_lt path q n
    unfold maskT
    rw [Nat.pow_succ]
    split <;> omega
theorem maskT_bit (path : List Nat) (q : Nat → Bool) : ∀ n i, (maskT path q n).testBit i = (decide (i < n) && q (path.getD i 0))
  | 0, i => by simp [maskT]
  | n + 1, i => by
    have hl := maskT_lt path q n
    have ih := maskT_bit path q n i
    unfold maskT
    by_cases hq : q (path.getD n 0) = true
    · rw [if_pos hq, Nat.add_comm]
      rcases Nat.lt_trichotomy i n with h | h | h
      · rw [Nat.testBit_two_pow_add_gt h, ih]
        simp [h, show i < n + 1 by omega]
      · subst h
        rw [Nat.testBit_two_pow_add_eq, ih, hq]; simp
      · rw [Nat.testBit_lt_two_pow]
        · simp [show ¬ i < n + 1 by omega]
        · have : 2 ^ (n + 1) ≤ 2 ^ i := Nat.pow_le_pow_right (by decide) h
          rw [Nat.pow_succ] at this
          omega
    · rw [if_neg hq, Nat.add_zero, ih]
      by_cases h : i = n
      · subst h; rw [(Bool.not_eq_true _).mp hq, Bool.and_false, Bool.and_false]
      · simp [show i < n + 1 ↔ i < n by omega]
theorem maskN_bit (path : List Nat) (q : Nat → Bool) (i : Nat) : (maskN path q).testBit i = (decide (i < path.length) && q (path.getD i 0)) := maskT_bit ..
theorem mask_is (path : List Nat) (q : Nat → Bool) : mask path q = (maskN path q : Int) := by
  unfold mask maskL maskN
  generalize path.length = n
  induction n with
  | zero => rfl
  | succ n ih =>
    rw [List.range_succ, List.filterMap_append, List.sum_append, ih, maskT]
    cases hq : q (path.getD n 0)
    · simp only [List.filterMap_cons, List.filterMap_nil, hq]; simp
    · simp only [List.filterMap_cons, List.filterMap_nil, hq]; simp

def moveN (k b s : Nat) : Nat := (k &&& b) * 2 ||| (k &&& s)
def spreadN (k s : Nat) : Nat := k ||| (k &&& s) * 2
def movedN (k b s : Nat) : Nat := spreadN (spreadN (moveN k b s) s) s
theorem moved_is (k b s : Nat) : movedI (k : Int) (b : Int) (s : Int) = (movedN k b s : Int) := by
  have h2 : ∀ x : Nat, (x : Int) * 2 = ((x * 2 : Nat) : Int) := fun x => by omega
  unfold movedI spread moved0 movedN spreadN moveN
  simp only [bAnd, bOr, h2]
theorem dbl_bit (x i : Nat) : (x * 2).testBit i = true ↔ ∃ j, i = j + 1 ∧ x.testBit j = true := by
  cases i with
  | zero => simp [Nat.testBit_zero]
  | succ i =>
    rw [Nat.testBit_succ, Nat.mul_div_cancel _ (by decide)]
    constructor
    · intro h; exact ⟨i, rfl, h⟩
    · rintro ⟨j, e, h⟩
      have : i = j := by omega
      rw [this]; exact h
theorem spread_bit {k s i : Nat} : (spreadN k s).testBit i = true ↔ k.testBit i = true ∨ ∃ j, i = j + 1 ∧ k.testBit j = true ∧ s.testBit j = true := by
  unfold spreadN
  rw [Nat.testBit_or, Bool.or_eq_true, dbl_bit]
  simp only [Nat.testBit_and, Bool.and_eq_true]
theorem move_bit {k b s i : Nat} : (moveN k b s).testBit i = true ↔ (∃ j, i = j + 1 ∧ k.testBit j = true ∧ b.testBit j = true) ∨ k.testBit i = true ∧ s.testBit i = true := by
  unfold moveN
  rw [Nat.testBit_or, Bool.or_eq_true, dbl_bit]
  simp only [Nat.testBit_and, Bool.and_eq_true]

def accB (path : List Nat) (p : Nat) (u : List Nat) : Bool := (List.range (path.length + 1)).any fun i => p.testBit i && mt (path.drop i) u
theorem acc_iff {path : List Nat} {p : Nat} {u : List Nat} : accB path p u = true ↔ ∃ i, i ≤ path.length ∧ p.testBit i = true ∧ mt (path.drop i) u = true := by
  unfold accB
  rw [List.any_eq_true]
  constructor
  · rintro ⟨i, h1, h2⟩
    rw [List.mem_range] at h1
    rw [Bool.and_eq_true] at h2
    exact ⟨i, by omega, h2⟩
  · rintro ⟨i, h1, h2, h3⟩
    exact ⟨i, List.mem_range.2 (by omega), by rw [h2, h3]; rfl⟩
def stars (path : List Nat) : Nat := maskN path (· == 42)
theorem stars_bit {path : List Nat} {i : Nat} : (stars path).testBit i = true ↔ i < path.length ∧ path.getD i 0 = 42 := by
  unfold stars; rw [maskN_bit, Bool.and_eq_true, decide_eq_true_eq, beq_iff_eq]
def Closed (path : List Nat) (p : Nat) : Prop := ∀ i, p.testBit i = true → (stars path).testBit i = true → p.testBit (i + 1) = true
theorem drop_at {path : List Nat} {i : Nat} (h : i < path.length) : path.drop i = path.getD i 0 :: path.drop (i + 1) := by
  rw [List.drop_eq_getElem_cons h, List.getD_eq_getElem?_getD, List.getElem?_eq_getElem h]; rfl
theorem star_self {g : List Nat → Bool} {u : List Nat} (h : g u = true) : starB g u = true := star_iff.2 ⟨[], u, rfl, h⟩
theorem acc_spread {path : List Nat} {k : Nat} (u : List Nat) : accB path (spreadN k (stars path)) u = accB path k u := by
  rw [Bool.eq_iff_iff, acc_iff, acc_iff]
  constructor
  · rintro ⟨i, h1, h2, h3⟩
    rcases spread_bit.1 h2 with h | ⟨j, rfl, h4, h5⟩
    · exact ⟨i, h1, h, h3⟩
    · obtain ⟨l, e⟩ := stars_bit.1 h5
      refine ⟨j, by omega, h4, ?_⟩
      rw [drop_at l, e, mt_star]
      exact star_self h3
  · rintro ⟨i, h1, h2, h3⟩
    exact ⟨i, h1, spread_bit.2 (.inl h2), h3⟩
theorem acc_move {path : List Nat} {k c : Nat} (hc : c ≠ 42) (hk : Closed path k) (u : List Nat) : accB path (moveN k (maskN path (· == c)) (stars path)) u = accB path k (c :: u) := by
  rw [Bool.eq_iff_iff, acc_iff, acc_iff]
  constructor
  · rintro ⟨i, h1, h2, h3⟩
    rcases move_bit.1 h2 with ⟨j, rfl, h4, h5⟩ | ⟨h4, h5⟩
    · rw [maskN_bit, Bool.and_eq_true, decide_eq_true_eq, beq_iff_eq] at h5
      refine ⟨j, by omega, h4, ?_⟩
      rw [drop_at h5.1, h5.2, mt_lit hc]
      simp [litB, h3]
    · obtain ⟨l, e⟩ := stars_bit.1 h5
      refine ⟨i, h1, h4, ?_⟩
      rw [drop_at l, e, mt_star] at h3 ⊢
      exact up_star _ _ _ h3
  · rintro ⟨i, h1, h2, h3⟩
    have go : ∀ d i, i + d = path.length → k.testBit i = true → mt (path.drop i) (c :: u) = true → ∃ i, i ≤ path.length ∧ (moveN k (maskN path (· == c)) (stars path)).testBit i = true ∧ mt (path.drop i) u = true := by
      intro d
      induction d with
      | zero =>
        intro i hi hb hm
        rw [List.drop_of_length_le (by omega)] at hm
        simp [mt] at hm
      | succ d ih =>
        intro i hi hb hm
        have hl : i < path.length := by omega
        by_cases e : path.getD i 0 = 42
        · have hs := stars_bit.2 ⟨hl, e⟩
          rw [drop_at hl, e, mt_star, starB, Bool.or_eq_true] at hm
          rcases hm with hm | hm
          · exact ih (i + 1) (by omega) (hk i hb hs) hm
          · exact ⟨i, by omega, move_bit.2 (.inr ⟨hb, hs⟩), by rw [drop_at hl, e, mt_star]; exact hm⟩
        · rw [drop_at hl, mt_lit e, litB, Bool.and_eq_true, beq_iff_eq] at hm
          refine ⟨i + 1, by omega, move_bit.2 (.inl ⟨i, rfl, hb, ?_⟩), hm.2⟩
          rw [maskN_bit]
          simp [hl, hm.1]
    exact go (path.length - i) i (by omega) h2 h3
theorem acc_moved {path : List Nat} {k c : Nat} (hc : c ≠ 42) (hk : Closed path k) (u : List Nat) : accB path (movedN k (maskN path (· == c)) (stars path)) u = accB path k (c :: u) := by
  unfold movedN; rw [acc_spread, acc_spread, acc_move hc hk]
theorem acc_nil {path : List Nat} {k : Nat} (hk : Closed path k) : accB path k [] = k.testBit path.length := by
  rw [Bool.eq_iff_iff, acc_iff]
  constructor
  · rintro ⟨i, h1, h2, h3⟩
    have go : ∀ d i, i + d = path.length → k.testBit i = true → mt (path.drop i) [] = true → k.testBit path.length = true := by
      intro d
      induction d with
      | zero => intro i hi hb hm; rw [← hi]; exact hb
      | succ d ih =>
        intro i hi hb hm
        have hl : i < path.length := by omega
        by_cases e : path.getD i 0 = 42
        · rw [drop_at hl, e, mt_star, starB] at hm
          exact ih (i + 1) (by omega) (hk i hb (stars_bit.2 ⟨hl, e⟩)) hm
        · rw [drop_at hl, mt_lit e, litB] at hm
          cases hm
    exact go (path.length - i) i (by omega) h2 h3
  · intro h
    exact ⟨path.length, Nat.le_refl _, h, by rw [List.drop_length]; rfl⟩
/-- no three stars side by side -/
def NoThree (path : List Nat) : Prop := ∀ i, (stars path).testBit i = true → (stars path).testBit (i + 1) = true → (stars path).testBit (i + 2) = true → False
theorem closed_moved {path : List Nat} (h3 : NoThree path) (k b : Nat) : Closed path (movedN k b (stars path)) := by
  intro i hi hs
  unfold movedN at hi ⊢
  rcases spread_bit.1 hi with h | ⟨j, rfl, h, hj⟩
  · exact spread_bit.2 (.inr ⟨i, rfl, h, hs⟩)
  · rcases spread_bit.1 h with q | ⟨j', rfl, q, hj'⟩
    · exact spread_bit.2 (.inr ⟨j + 1, rfl, spread_bit.2 (.inr ⟨j, rfl, q, hj⟩), hs⟩)
    · exact (h3 j' hj' hj hs).elim
theorem moved_lt {path : List Nat} (k : Nat) (q : Nat → Bool) : movedN k (maskN path q) (stars path) < 2 ^ (path.length + 1) := by
  have hb : maskN path q < 2 ^ path.length := maskT_lt ..
  have hs : stars path < 2 ^ path.length := maskT_lt ..
  have h1 : ∀ k, (k &&& maskN path q) * 2 < 2 ^ (path.length + 1) := fun k => by
    have := Nat.and_lt_two_pow k hb
    rw [Nat.pow_succ]; omega
  have h2 : ∀ k, (k &&& stars path) * 2 < 2 ^ (path.length + 1) := fun k => by
    have := Nat.and_lt_two_pow k hs
    rw [Nat.pow_succ]; omega
  have h3 : k &&& stars path < 2 ^ (path.length + 1) := by have := h2 k; omega
  unfold movedN spreadN moveN
  exact Nat.or_lt_two_pow (Nat.or_lt_two_pow (Nat.or_lt_two_pow (h1 k) h3) (h2 _)) (h2 _)
end W40
end
section
open PySem PySem.W PyProof.Rows
set_option Elab.async false
set_option maxRecDepth 20000
set_option maxHeartbeats 4000000
set_option linter.unusedVariables false
set_option linter.unusedSimpArgs false
namespace W40

def lin (cs : List (Int × Int)) (f : Int → Int) : Int := (cs.map fun kv => kv.2 * f kv.1).sum
def keysP (cs : List (Int × Int)) : List Int := cs.map (·.1)
theorem any_key {g : List (Int × Int)} {k : Int} : (g.any fun kv => decide (kv.1 = k)) = true ↔ k ∈ keysP g := by
  unfold keysP
  rw [List.any_eq_true, List.mem_map]
  constructor
  · rintro ⟨x, h1, h2⟩; exact ⟨x, h1, of_decide_eq_true h2⟩
  · rintro ⟨x, h1, h2⟩; exact ⟨x, h1, decide_eq_true h2⟩
theorem store_keys (g : List (Int × Int)) (k x : Int) : keysP (storeP g k x) = if k ∈ keysP g then keysP g else keysP g ++ [k] := by
  unfold storeP
  by_cases h : k ∈ keysP g
  · rw [if_pos (any_key.2 h), if_pos h]
    unfold keysP
    rw [List.map_map]
    apply List.map_congr_left
    intro kv _
    show (if kv.1 = k then (kv.1, x) else kv).1 = kv.1
    split <;> rfl
  · rw [if_neg (fun q => h (any_key.1 q)), if_neg h]
    unfold keysP
    rw [List.map_append]; rfl
theorem look_none {g : List (Int × Int)} {k : Int} (h : k ∉ keysP g) : lookP g k = none := by
  unfold lookP
  cases q : g.find? (fun kv => kv.1 = k) with
  | none => rfl
  | some r =>
    exfalso
    have h1 := List.find?_some q
    have h2 := List.mem_of_find?_eq_some q
    exact h (List.mem_map.2 ⟨r, h2, by simpa using h1⟩)
theorem look_some {g : List (Int × Int)} (hn : (keysP g).Nodup) {kv : Int × Int} (h : kv ∈ g) : lookP g kv.1 = some kv.2 := by
  induction g with
  | nil => cases h
  | cons y g ih =>
    unfold keysP at hn
    rw [List.map_cons, List.nodup_cons] at hn
    unfold lookP
    rcases List.mem_cons.1 h with rfl | h
    · rw [List.find?_cons_of_pos (by simp)]; rfl
    · rw [List.find?_cons_of_neg (by
        simp
        intro e
        exact hn.1 (e ▸ List.mem_map.2 ⟨kv, h, rfl⟩))]
      exact ih hn.2 h
theorem lin_replace {f : Int → Int} {k x : Int} : ∀ {g : List (Int × Int)} (hn : (keysP g).Nodup) (h : k ∈ keysP g), lin (g.map fun kv => if kv.1 = k then (kv.1, x) else kv) f = lin g f + (x - (lookP g k).getD 0) * f k
  | y :: g, hn, h => by
    unfold keysP at hn h
    rw [List.map_cons, List.nodup_cons] at hn
    have hc : ∀ (z : Int × Int) (l : List (Int × Int)), lin (z :: l) f = z.2 * f z.1 + lin l f := fun z l => by simp [lin]
    rw [List.map_cons, hc, hc]
    by_cases e : y.1 = k
    · rw [if_pos e, show lookP (y :: g) k = some y.2 by unfold lookP; rw [List.find?_cons_of_pos (by simp [e])]; rfl]
      have e2 : (g.map fun kv => if kv.1 = k then (kv.1, x) else kv) = g := by
        conv => rhs; rw [← List.map_id g]
        apply List.map_congr_left
        intro kv hkv
        rw [if_neg]; rfl
        intro q
        exact hn.1 (List.mem_map.2 ⟨kv, hkv, by rw [q, e]⟩)
      rw [e2]
      show x * f y.1 + _ = _
      rw [e, Option.getD_some, Int.sub_mul]; omega
    · rw [if_neg e, show lookP (y :: g) k = lookP g k by unfold lookP; rw [List.find?_cons_of_neg (by simpa using e)]]
      rw [List.map_cons] at h
      rcases List.mem_cons.1 h with h | h
      · exact (e h.symm).elim
      · rw [lin_replace (g := g) hn.2 h]; omega
theorem lin_store {f : Int → Int} {k x : Int} {g : List (Int × Int)} (hn : (keysP g).Nodup) : lin (storeP g k x) f = lin g f + (x - (lookP g k).getD 0) * f k := by
  unfold storeP
  by_cases h : k ∈ keysP g
  · rw [if_pos (any_key.2 h), lin_replace hn h]
  · rw [if_neg (fun q => h (any_key.1 q)), look_none h]
    unfold lin
    rw [List.map_append, List.sum_append]
    simp
theorem store_nodup {k x : Int} {g : List (Int × Int)} (hn : (keysP g).Nodup) : (keysP (storeP g k x)).Nodup := by
  rw [store_keys]
  split
  · exact hn
  · rename_i h
    rw [List.nodup_append]
    refine ⟨hn, by simp, fun a ha b hb => ?_⟩
    rw [List.mem_singleton] at hb
    subst hb
    exact fun e => h (e ▸ ha)

/-- a dict of places: keys without double, each with Q -/
structure GoodD (Q : Int → Prop) (g : List (Int × Int)) : Prop where
  nd : (keysP g).Nodup
  all : ∀ k ∈ keysP g, Q k
theorem GoodD.store {Q : Int → Prop} {g : List (Int × Int)} (h : GoodD Q g) {k : Int} (hk : Q k) (x : Int) : GoodD Q (storeP g k x) := by
  refine ⟨store_nodup h.nd, fun j hj => ?_⟩
  rw [store_keys] at hj
  split at hj
  · exact h.all j hj
  · rcases List.mem_append.1 hj with hj | hj
    · exact h.all j hj
    · rw [List.mem_singleton.1 hj]; exact hk
section
variable {counts : List (Int × Int)} {st : Int} {Q : Int → Prop} {f : Int → Int}
theorem grow1_good {p : Int} {g : List (Int × Int)} {b : Int × Int} (hg : GoodD Q g) (hQ : 0 < movedI p b.1 st → Q (movedI p b.1 st)) : GoodD Q (grow1 counts st p g b) := by
  unfold grow1
  split
  · rename_i h; exact hg.store (hQ h) _
  · exact hg
theorem grow1_lin {p : Int} {g : List (Int × Int)} {b : Int × Int} (hg : (keysP g).Nodup) (h0 : ¬ 0 < movedI p b.1 st → f (movedI p b.1 st) = 0) : lin (grow1 counts st p g b) f = lin g f + b.2 * (lookP counts p).getD 0 * f (movedI p b.1 st) := by
  unfold grow1
  split
  · rw [lin_store hg]
    congr 1
    congr 1
    omega
  · rename_i h; rw [h0 h]; simp
theorem row_all {p : Int} : ∀ (L : List (Int × Int)) (g : List (Int × Int)), GoodD Q g → (∀ b ∈ L, 0 < movedI p b.1 st → Q (movedI p b.1 st)) → (∀ b ∈ L, ¬ 0 < movedI p b.1 st → f (movedI p b.1 st) = 0) →
    GoodD Q (L.foldl (grow1 counts st p) g) ∧ lin (L.foldl (grow1 counts st p) g) f = lin g f + (lookP counts p).getD 0 * (L.map fun b => b.2 * f (movedI p b.1 st)).sum
  | [], g, hg, _, _ => ⟨hg, by simp⟩
  | b :: L, g, hg, h1, h2 => by
    obtain ⟨k1, k2⟩ := row_all L (grow1 counts st p g b) (grow1_good hg (h1 b (.head _))) (fun c hc => h1 c (.tail _ hc)) (fun c hc => h2 c (.tail _ hc))
    refine ⟨k1, ?_⟩
    rw [List.foldl_cons, k2, grow1_lin hg.nd (h2 b (.head _)), List.map_cons, List.sum_cons, Int.mul_add, ← Int.mul_assoc, Int.mul_comm b.2]
    omega
theorem grow_all {signs : List (Int × Int)} : ∀ (L : List (Int × Int)) (g : List (Int × Int)), GoodD Q g → (∀ kv ∈ L, lookP counts kv.1 = some kv.2) → (∀ kv ∈ L, ∀ b ∈ signs, 0 < movedI kv.1 b.1 st → Q (movedI kv.1 b.1 st)) → (∀ kv ∈ L, ∀ b ∈ signs, ¬ 0 < movedI kv.1 b.1 st → f (movedI kv.1 b.1 st) = 0) →
    GoodD Q (L.foldl (fun g kv => rowTo counts st signs kv.1 g signs.length) g) ∧ lin (L.foldl (fun g kv => rowTo counts st signs kv.1 g signs.length) g) f = lin g f + lin L fun k => (signs.map fun b => b.2 * f (movedI k b.1 st)).sum
  | [], g, hg, _, _, _ => ⟨hg, by simp [lin]⟩
  | kv :: L, g, hg, hc, h1, h2 => by
    obtain ⟨r1, r2⟩ := row_all (counts := counts) (f := f) signs g hg (h1 kv (.head _)) (h2 kv (.head _))
    have e : rowTo counts st signs kv.1 g signs.length = signs.foldl (grow1 counts st kv.1) g := by unfold rowTo; rw [List.take_length]
    obtain ⟨k1, k2⟩ := grow_all L (rowTo counts st signs kv.1 g signs.length) (by rw [e]; exact r1) (fun c hc' => hc c (.tail _ hc')) (fun c hc => h1 c (.tail _ hc)) (fun c hc => h2 c (.tail _ hc))
    refine ⟨k1, ?_⟩
    rw [List.foldl_cons, k2, e, r2, hc kv (.head _), Option.getD_some]
    have hcons : ∀ (F : Int → Int), lin (kv :: L) F = kv.2 * F kv.1 + lin L F := fun F => by simp [lin]
    rw [hcons]
    omega
/-- a sum without doubles below a bound is short -/
theorem short_keys : ∀ (N : Nat) (l : List Nat), l.Nodup → (∀ x ∈ l, x < N) → l.length ≤ N
  | 0, l, _, h => by
    cases l with
    | nil => simp
    | cons x l => exact absurd (h x (.head _)) (by omega)
  | N + 1, l, hn, h => by
    have h1 := short_keys N (l.erase N) (hn.erase N) fun x hx => by
      have := (hn.mem_erase_iff).1 hx
      have := h x this.2
      omega
    by_cases q : N ∈ l
    · have := List.length_erase_of_mem q
      omega
    · rw [List.erase_of_not_mem q] at h1; omega
end
end W40
end
section
open PySem PySem.W PyProof.Rows
set_option Elab.async false
set_option maxRecDepth 20000
set_option maxHeartbeats 4000000
set_option linter.unusedVariables false
set_option linter.unusedSimpArgs false
namespace W40

theorem maskT_congr {path : List Nat} {q q' : Nat → Bool} (h : ∀ c ∈ path, q c = q' c) : ∀ n, n ≤ path.length → maskT path q n = maskT path q' n
  | 0, _ => rfl
  | n + 1, hn => by
    unfold maskT
    rw [maskT_congr h n (by omega), h]
    rw [List.getD_eq_getElem?_getD, List.getElem?_eq_getElem (by omega)]
    exact List.getElem_mem _
theorem sign_is (c : Nat) : isSign (S [c]) = (· == c) := by
  funext x
  unfold isSign
  by_cases h : x = c
  · subst h; simp
  · rw [decide_eq_false (fun q => h (by have := S_inj.1 q; injection this)), beq_eq_false_iff_ne.2 h]
theorem mask_none (path : List Nat) (h : 0 ∉ path) : mask path (isSign (S [])) = (maskN path (· == 0) : Int) := by
  rw [mask_is]
  unfold maskN
  rw [maskT_congr (q' := (· == 0)) (fun c hc => ?_) _ (Nat.le_refl _)]
  rw [show (c == 0) = false from beq_eq_false_iff_ne.2 fun e => h (e ▸ hc)]
  unfold isSign
  exact decide_eq_false fun q => by have := S_inj.1 q; cases this
theorem mask_sign (path : List Nat) (c : Nat) : mask path (isSign (S [c])) = (maskN path (· == c) : Int) := by rw [mask_is, sign_is]
theorem signs_sum {path : List Nat} {a m others : Nat} (h : 0 ∉ path) (g : Int → Int) : ((signsP path a m others).map fun b => b.2 * g b.1).sum = g (maskN path (· == a) : Int) + g (maskN path (· == m) : Int) + others * g (maskN path (· == 0) : Int) := by
  unfold signsP signsTo triples
  rw [← mask_sign path a, ← mask_sign path m, ← mask_none path h]
  by_cases q : (0 : Int) < (others : Int)
  · have q2 : 0 < others := by omega
    simp [List.filter_cons, q2, Int.add_assoc]
  · have : (others : Int) = 0 := by omega
    simp [this]
theorem signs_mem {path : List Nat} {a m others : Nat} (h : 0 ∉ path) {b : Int × Int} (hb : b ∈ signsP path a m others) : ∃ c, (c = a ∨ c = m ∨ c = 0) ∧ b.1 = (maskN path (· == c) : Int) := by
  unfold signsP signsTo triples at hb
  rw [List.mem_map] at hb
  obtain ⟨p, hp, rfl⟩ := hb
  have hp := (List.mem_filter.1 hp).1
  simp only [List.take_succ_cons, List.take_zero, List.mem_cons, List.not_mem_nil, or_false] at hp
  rcases hp with rfl | rfl | rfl
  · exact ⟨a, .inl rfl, mask_sign ..⟩
  · exact ⟨m, .inr (.inl rfl), mask_sign ..⟩
  · exact ⟨0, .inr (.inr rfl), mask_none _ h⟩

/-- what the counting by places needs of its path -/
structure PathOk (a m : Nat) (path : List Nat) : Prop where
  z : 0 ∉ path
  a : a ≠ 42
  m : m ≠ 42
  three : NoThree path
  two : ¬ ((stars path).testBit 0 = true ∧ (stars path).testBit 1 = true)
def KeyOk (path : List Nat) (k : Int) : Prop := ∃ n : Nat, k = n ∧ Closed path n ∧ n < 2 ^ (path.length + 1)
def FF (a m : Nat) (o : Int) (path : List Nat) (n : Nat) (k : Int) : Int := V a m o n fun u => ind (accB path k.toNat u)
section
variable {a m others : Nat} {path : List Nat}
theorem star_mask : mask path (isSign (S [42])) = (stars path : Int) := mask_sign path 42
theorem acc_zero (u : List Nat) : accB path 0 u = false := by
  cases h : accB path 0 u with
  | false => rfl
  | true => obtain ⟨i, _, h2, _⟩ := acc_iff.1 h; simp at h2
theorem FF_zero {k : Int} (n : Nat) (h : ¬ 0 < k) (hk : KeyOk path k) : FF a m (others : Int) path n k = 0 := by
  obtain ⟨j, rfl, _⟩ := hk
  have : j = 0 := by omega
  subst this
  unfold FF
  rw [V_congr (g := fun _ => 0) fun u _ => by rw [show ((0 : Nat) : Int).toNat = 0 from rfl, acc_zero]; rfl]
  exact V_zero n
theorem moved_ok (P : PathOk a m path) {k : Int} (hk : KeyOk path k) {b : Int × Int} (hb : b ∈ signsP path a m others) : KeyOk path (movedI k b.1 (stars path)) := by
  obtain ⟨j, rfl, h1, h2⟩ := hk
  obtain ⟨c, hc, e⟩ := signs_mem P.z hb
  rw [e, moved_is]
  exact ⟨_, rfl, closed_moved P.three _ _, moved_lt _ _⟩
theorem FF_step (P : PathOk a m path) {k : Int} (hk : KeyOk path k) (n : Nat) : ((signsP path a m others).map fun b => b.2 * FF a m (others : Int) path n (movedI k b.1 (stars path))).sum = FF a m (others : Int) path (n + 1) k := by
  obtain ⟨j, rfl, h1, h2⟩ := hk
  rw [signs_sum P.z fun b => FF a m (others : Int) path n (movedI (j : Int) b (stars path))]
  have e : ∀ c, c ≠ 42 → FF a m (others : Int) path n (movedI (j : Int) (maskN path (· == c) : Int) (stars path)) = V a m others n fun u => ind (accB path j (c :: u)) := by
    intro c hc
    rw [moved_is]
    unfold FF
    apply V_congr
    intro u _
    rw [Int.toNat_natCast, acc_moved hc h1]
  rw [e a P.a, e m P.m, e 0 (by decide)]
  rfl
theorem lin_congr {f g : Int → Int} {cs : List (Int × Int)} (h : ∀ k ∈ keysP cs, f k = g k) : lin cs f = lin cs g := by
  unfold lin
  congr 1
  apply List.map_congr_left
  intro kv hkv
  rw [h kv.1 (List.mem_map.2 ⟨kv, hkv, rfl⟩)]
theorem init_is : (1 : Int) + Builtin.bitAnd 1 (stars path : Int) * 2 = (spreadN 1 (stars path) : Int) := by
  rw [show (1 : Int) = ((1 : Nat) : Int) from rfl, bAnd]
  unfold spreadN
  have h : 1 &&& stars path = 0 ∨ 1 &&& stars path = 1 := by
    have : 1 &&& stars path ≤ 1 := Nat.and_le_left
    omega
  rcases h with h | h <;> rw [h] <;> rfl
theorem init_closed (P : PathOk a m path) : Closed path (spreadN 1 (stars path)) := by
  intro i hi hs
  rcases spread_bit.1 hi with h | ⟨j, rfl, h, hj⟩
  · have : i = 0 := by
      cases i with
      | zero => rfl
      | succ i => rw [Nat.testBit_succ, show 1 / 2 = 0 from rfl, Nat.zero_testBit] at h; cases h
    subst this
    exact spread_bit.2 (.inr ⟨0, rfl, h, hs⟩)
  · have : j = 0 := by
      cases j with
      | zero => rfl
      | succ i => rw [Nat.testBit_succ, show 1 / 2 = 0 from rfl, Nat.zero_testBit] at h; cases h
    subst this
    exact (P.two ⟨hj, hs⟩).elim
theorem init_acc (u : List Nat) : accB path (spreadN 1 (stars path)) u = mt path u := by
  rw [acc_spread, Bool.eq_iff_iff, acc_iff]
  constructor
  · rintro ⟨i, h1, h2, h3⟩
    have : i = 0 := by
      cases i with
      | zero => rfl
      | succ i => rw [Nat.testBit_succ, show 1 / 2 = 0 from rfl, Nat.zero_testBit] at h2; cases h2
    subst this
    exact h3
  · intro h; exact ⟨0, by omega, by decide, h⟩
theorem init_ok (P : PathOk a m path) : KeyOk path (spreadN 1 (stars path) : Int) := by
  refine ⟨_, rfl, init_closed P, ?_⟩
  have hs : stars path < 2 ^ path.length := maskT_lt ..
  have h2 : (1 &&& stars path) * 2 < 2 ^ (path.length + 1) := by
    have := Nat.and_lt_two_pow 1 hs
    rw [Nat.pow_succ]; omega
  refine Nat.or_lt_two_pow ?_ h2
  exact Nat.one_lt_two_pow (by omega)
theorem cnts_is (P : PathOk a m path) : ∀ t, GoodD (KeyOk path) (cntsAt (stars path : Int) (signsP path a m others) t) ∧ ∀ n, lin (cntsAt (stars path : Int) (signsP path a m others) t) (FF a m (others : Int) path n) = V a m others (n + t) fun u => ind (mt path u)
  | 0 => by
    refine ⟨⟨by simp [cntsAt, keysP], fun k hk => ?_⟩, fun n => ?_⟩
    · simp only [cntsAt, keysP, List.map_cons, List.map_nil, List.mem_singleton] at hk
      rw [hk, init_is]; exact init_ok P
    · simp only [cntsAt, lin, List.map_cons, List.map_nil, List.sum_cons, List.sum_nil]
      rw [init_is, Int.one_mul, Int.add_zero]
      unfold FF
      apply V_congr
      intro u _
      rw [Int.toNat_natCast, init_acc]
  | t + 1 => by
    obtain ⟨h1, h2⟩ := cnts_is P t
    have e : cntsAt (stars path : Int) (signsP path a m others) (t + 1) = (cntsAt (stars path : Int) (signsP path a m others) t).foldl (fun g kv => rowTo (cntsAt (stars path : Int) (signsP path a m others) t) (stars path : Int) (signsP path a m others) kv.1 g (signsP path a m others).length) [] := by
      show growTo _ _ _ _ = _
      unfold growTo
      rw [List.take_length]
    have hk : ∀ kv ∈ cntsAt (stars path : Int) (signsP path a m others) t, KeyOk path kv.1 := fun kv hkv => h1.all _ (List.mem_map.2 ⟨kv, hkv, rfl⟩)
    have key := fun n => grow_all (counts := cntsAt (stars path : Int) (signsP path a m others) t) (st := (stars path : Int)) (Q := KeyOk path) (f := FF a m (others : Int) path n) (signs := signsP path a m others) (cntsAt (stars path : Int) (signsP path a m others) t) [] ⟨List.nodup_nil, fun k hk => nomatch hk⟩ (fun kv hkv => look_some h1.nd hkv) (fun kv hkv b hb _ => moved_ok P (hk kv hkv) hb) (fun kv hkv b hb hn => FF_zero n hn (moved_ok P (hk kv hkv) hb))
    rw [e]
    refine ⟨(key 0).1, fun n => ?_⟩
    rw [(key n).2, lin_congr (g := FF a m (others : Int) path (n + 1)) fun k hk' => FF_step P (h1.all k hk') n, h2 (n + 1)]
    rw [show n + 1 + t = n + (t + 1) by omega]
    simp [lin]
theorem sum_filterMap {cs : List (Int × Int)} {h : Int × Int → Option Int} {f : Int → Int} (H : ∀ kv ∈ cs, (h kv).getD 0 = kv.2 * f kv.1) : (cs.filterMap h).sum = lin cs f := by
  induction cs with
  | nil => rfl
  | cons kv cs ih =>
    have h1 := H kv (.head _)
    have h2 := ih fun x hx => H x (.tail _ hx)
    rw [show lin (kv :: cs) f = kv.2 * f kv.1 + lin cs f by simp [lin], ← h1, ← h2, List.filterMap_cons]
    cases h kv <;> simp
theorem told_is (P : PathOk a m path) (t : Nat) : toldOf (cntsAt (stars path : Int) (signsP path a m others) t) ((2 : Int) ^ path.length) = V a m others t fun u => ind (mt path u) := by
  obtain ⟨h1, h2⟩ := cnts_is (others := others) P t
  have h3 := h2 0
  rw [Nat.zero_add] at h3
  rw [← h3]
  generalize cntsAt (stars path : Int) (signsP path a m others) t = cs at h1
  unfold toldOf
  rw [show (fun i => if (2 : Int) ^ path.length ≤ (cs.getD i (0, 0)).1 then some ((lookP cs (cs.getD i (0, 0)).1).getD 0) else none) = (fun kv : Int × Int => if (2 : Int) ^ path.length ≤ kv.1 then some ((lookP cs kv.1).getD 0) else none) ∘ (fun i => cs.getD i (0, 0)) from rfl]
  rw [← List.filterMap_map, range_getD]
  refine sum_filterMap fun kv hkv => ?_
  rw [look_some h1.nd hkv]
  obtain ⟨j, e, k1, k2⟩ := h1.all kv.1 (List.mem_map.2 ⟨kv, hkv, rfl⟩)
  rw [e]
  unfold FF
  show _ = kv.2 * ind (accB path ((j : Int)).toNat [])
  rw [Int.toNat_natCast, acc_nil k1]
  have hc : ((2 : Int) ^ path.length) = ((2 ^ path.length : Nat) : Int) := by rw [Int.natCast_pow]; rfl
  rw [hc]
  rcases Nat.lt_or_ge j (2 ^ path.length) with l | l
  · rw [if_neg (by omega), Nat.testBit_lt_two_pow l]; simp [ind]
  · rw [if_pos (by omega)]
    have : j.testBit path.length = true := by
      obtain ⟨r, hr⟩ : ∃ r, j = 2 ^ path.length + r := ⟨j - 2 ^ path.length, by omega⟩
      rw [hr, Nat.testBit_two_pow_add_eq, Nat.testBit_lt_two_pow]
      · rfl
      · rw [Nat.pow_succ] at k2; omega
    rw [this]; simp [ind]
end
end W40
end
section
open PySem PySem.W PyProof.Rows
set_option Elab.async false
set_option maxRecDepth 100000
set_option maxHeartbeats 8000000
set_option linter.unusedVariables false
set_option linter.unusedSectionVars false
set_option linter.unusedSimpArgs false
namespace W40

/-- 0 the letter, 1 the mark, 2 the backslash -/
def nm (a m : Nat) : Nat → Nat
  | 0 => a
  | 1 => m
  | _ => 92
def bit01 (b : Nat) : Nat := if b = 0 then 0 else 1
def escB (l : List Nat) : List Nat := l.flatMap fun b => if b = 0 then [0] else [2, 1]
def stepsB (p : List Nat) (k : Nat) : List Int := ((List.range (p.length - 1)).filter fun t => isB p p.length (p.length - 1 - t)).map fun t => (k : Int) - (((p.take (p.length - 1 - t)).filter (· != 2)).length : Int)
def wordsB : Nat → List (List Nat)
  | 0 => [[]]
  | k + 1 => (wordsB k).flatMap fun w => [0 :: w, 1 :: w]
theorem words_mem : ∀ {w : List Nat}, (∀ b ∈ w, b = 0 ∨ b = 1) → w ∈ wordsB w.length
  | [], _ => .head _
  | b :: w, h => by
    have ih := words_mem fun c hc => h c (.tail _ hc)
    show _ ∈ (wordsB w.length).flatMap _
    rw [List.mem_flatMap]
    refine ⟨w, ih, ?_⟩
    rcases h b (.head _) with rfl | rfl <;> simp
theorem steps_bits : ∀ k, k < 7 → ∀ w ∈ wordsB k, stepsB (escB w) k = (periods w).map fun s : Nat => (s : Int) := by decide +kernel
theorem escB_lt {l : List Nat} (h : ∀ b ∈ l, b < 2) : ∀ c ∈ escB l, c < 3 := fun c hc => by
  unfold escB at hc
  obtain ⟨b, _, hb⟩ := List.mem_flatMap.1 hc
  split at hb
  · simp at hb; omega
  · simp at hb; omega
section
variable {a m : Nat} (ha : a ∈ lettersL) (hm : m ∈ marksL)
include ha hm
theorem nm_inj {x y : Nat} (hx : x < 3) (hy : y < 3) (h : nm a m x = nm a m y) : x = y := by
  have h1 := a_ne_m ha hm
  have h2 := (alpha_lt (List.mem_append_left _ ha : a ∈ alpha)).2.2
  have h3 := (alpha_lt (List.mem_append_right _ hm : m ∈ alpha)).2.2
  have hx' : x = 0 ∨ x = 1 ∨ x = 2 := by omega
  have hy' : y = 0 ∨ y = 1 ∨ y = 2 := by omega
  rcases hx' with rfl | rfl | rfl <;> rcases hy' with rfl | rfl | rfl <;> first | rfl | (simp only [nm] at h; omega)
theorem map_beq : ∀ {l1 l2 : List Nat}, (∀ c ∈ l1, c < 3) → (∀ c ∈ l2, c < 3) → (l1.map (nm a m) == l2.map (nm a m)) = (l1 == l2)
  | [], [], _, _ => rfl
  | [], _ :: _, _, _ => rfl
  | _ :: _, [], _, _ => rfl
  | x :: l1, y :: l2, h1, h2 => by
    rw [List.map_cons, List.map_cons, List.cons_beq_cons, List.cons_beq_cons, map_beq (fun c hc => h1 c (.tail _ hc)) fun c hc => h2 c (.tail _ hc)]
    congr 1
    by_cases e : x = y
    · rw [e]; simp
    · rw [beq_eq_false_iff_ne.2 e, beq_eq_false_iff_ne.2 fun q => e (nm_inj ha hm (h1 x (.head _)) (h2 y (.head _)) q)]
theorem isB_map {p : List Nat} (hp : ∀ c ∈ p, c < 3) (n k : Nat) : isB (p.map (nm a m)) n k = isB p n k := by
  unfold isB
  rw [← List.map_take, ← List.map_drop, ← List.map_take]
  exact map_beq ha hm (fun c hc => hp c (List.mem_of_mem_take hc)) fun c hc => hp c (List.mem_of_mem_drop (List.mem_of_mem_take hc))
theorem per_map {p : List Nat} (hp : ∀ c ∈ p, c < 3) (s : Nat) : per (p.map (nm a m)) s = per p s := by
  unfold per
  rw [List.length_map, ← List.map_take, ← List.map_drop]
  exact map_beq ha hm (fun c hc => hp c (List.mem_of_mem_drop hc)) fun c hc => hp c (List.mem_of_mem_take hc)
theorem strip_map {p : List Nat} (hp : ∀ c ∈ p, c < 3) : (strip (p.map (nm a m))).length = (p.filter (· != 2)).length := by
  have h2 := (alpha_lt (List.mem_append_left _ ha : a ∈ alpha)).2.2
  have h3 := (alpha_lt (List.mem_append_right _ hm : m ∈ alpha)).2.2
  unfold strip
  induction p with
  | nil => rfl
  | cons x p ih =>
    have ih := ih fun c hc => hp c (.tail _ hc)
    have hx := hp x (.head _)
    have hx' : x = 0 ∨ x = 1 ∨ x = 2 := by omega
    rw [List.map_cons]
    rcases hx' with rfl | rfl | rfl
    · rw [List.filter_cons_of_pos (by simpa [nm] using h2), List.filter_cons_of_pos (by decide)]; simpa using ih
    · rw [List.filter_cons_of_pos (by simpa [nm] using h3), List.filter_cons_of_pos (by decide)]; simpa using ih
    · rw [List.filter_cons_of_neg (by simp [nm]), List.filter_cons_of_neg (by decide)]; exact ih
theorem spell_map (w : List Nat) : spell a m w = (w.map bit01).map (nm a m) := by
  unfold spell
  rw [List.map_map]
  apply List.map_congr_left
  intro b _
  show _ = nm a m (bit01 b)
  unfold bit01
  split <;> rfl
theorem escB_map {l : List Nat} (h : ∀ b ∈ l, b = 0 ∨ b = 1) : esc (l.map (nm a m)) = (escB l).map (nm a m) := by
  unfold esc escB
  induction l with
  | nil => rfl
  | cons b l ih =>
    have ih := ih fun c hc => h c (.tail _ hc)
    rw [List.map_cons, List.flatMap_cons, List.flatMap_cons, List.map_append, ih]
    congr 1
    rcases h b (.head _) with rfl | rfl
    · show (if isSp a = true then _ else _) = _
      rw [if_neg (by rw [letters_sp ha]; decide)]; rfl
    · show (if isSp m = true then _ else _) = _
      rw [if_pos (marks_sp hm)]; rfl
/-- the steps that the table of a written piece tells are those of the piece -/
theorem steps_is (w : List Nat) (h6 : w.length ≤ 6) : stepsOf (esc (spell a m w)) ((spell a m w).length : Int) = (periods (spell a m w)).map fun s : Nat => (s : Int) := by
  have hb : ∀ b ∈ w.map bit01, b = 0 ∨ b = 1 := fun b hb => by
    obtain ⟨c, _, rfl⟩ := List.mem_map.1 hb
    unfold bit01; split
    · exact .inl rfl
    · exact .inr rfl
  rw [spell_map ha hm]
  have hl : (w.map bit01).length ≤ 6 := by rw [List.length_map]; exact h6
  generalize w.map bit01 = l at hb hl
  have hl2 : ∀ b ∈ l, b < 2 := fun b h => by rcases hb b h with rfl | rfl <;> decide
  have hl3 : ∀ b ∈ l, b < 3 := fun b h => Nat.lt_succ_of_lt (hl2 b h)
  have h := steps_bits l.length (by omega) l (words_mem hb)
  have hp : periods (l.map (nm a m)) = periods l := by
    unfold periods
    rw [List.length_map]
    apply List.filter_congr
    intro s _
    exact per_map ha hm hl3 s
  rw [hp, ← h, escB_map ha hm hb, List.length_map]
  have he := escB_lt hl2
  generalize escB l = p at he
  unfold stepsOf stepsTo stepsB
  rw [List.length_map]
  rw [List.filter_congr (q := fun t => isB p p.length (p.length - 1 - t)) fun t _ => isB_map ha hm he _ _]
  apply List.map_congr_left
  intro t _
  rw [← List.map_take, strip_map ha hm fun c hc => he c (List.mem_of_mem_take hc)]
end
end W40
end
section
open PySem PySem.W PyProof.Rows
set_option Elab.async false
set_option maxRecDepth 20000
set_option maxHeartbeats 4000000
set_option linter.unusedVariables false
set_option linter.unusedSimpArgs false
namespace W40

theorem fst_nil : fst [] [] = fun v => ind (v == []) := by
  funext v
  cases v <;> rfl
theorem cv_unit : ∀ (f : List Nat → Int) (u : List Nat), cv f (fun v => ind (v == [])) u = f u
  | f, [] => by simp [cv, ind]
  | f, x :: u => by
    simp only [cv]
    rw [cv_unit _ u]
    simp [ind]
def AA (L : List (List Nat)) : Nat → List Nat → Int
  | 0 => fun v => ind (v == L.getD 0 [])
  | i + 1 => cv (AA L i) (fst (L.getD (i + 1) []) [])
theorem sum_short (f : Nat → Int) {M N : Nat} (h : M ≤ N) (h0 : ∀ j, M ≤ j → j < N → f j = 0) : ((List.range N).map f).sum = ((List.range M).map f).sum := by
  obtain ⟨d, rfl⟩ : ∃ d, N = M + d := ⟨N - M, by omega⟩
  clear h
  induction d with
  | zero => rfl
  | succ d ih =>
    rw [← Nat.add_assoc, List.range_succ, List.map_append, List.sum_append, ih fun j h1 h2 => h0 j h1 (by omega), List.map_cons, List.map_nil, List.sum_cons, List.sum_nil, h0 (M + d) (by omega) (by omega)]
    omega
theorem conv_is {a m : Nat} {o : Int} (f g : List Nat → Int) (top : Nat) : conv ((List.range (top + 1)).map fun i => V a m o i f) ((List.range (top + 1)).map fun i => V a m o i g) top = (List.range (top + 1)).map fun i => V a m o i (cv f g) := by
  unfold conv
  apply List.map_congr_left
  intro n hn
  rw [List.mem_range] at hn
  rw [V_cv]
  congr 1
  apply List.map_congr_left
  intro j hj
  rw [List.mem_range] at hj
  rw [range_map_getD _ (by omega), range_map_getD _ (by omega)]
theorem star_at {p r : List Nat} (hp : ∀ c ∈ p, c ≠ 42) {i : Nat} (h : (p ++ 42 :: r)[i]? = some 42) : i = p.length ∨ p.length + 1 ≤ i ∧ r[i - (p.length + 1)]? = some 42 := by
  rcases Nat.lt_trichotomy i p.length with l | l | l
  · rw [List.getElem?_append_left l] at h
    exact (hp 42 (List.mem_of_getElem? h) rfl).elim
  · exact .inl l
  · right
    rw [List.getElem?_append_right (by omega)] at h
    obtain ⟨k, e⟩ : ∃ k, i - p.length = k + 1 := ⟨i - p.length - 1, by omega⟩
    rw [e, List.getElem?_cons_succ] at h
    refine ⟨by omega, ?_⟩
    rw [show i - (p.length + 1) = k by omega]; exact h
theorem stars_at {p0 p1 p2 p3 : List Nat} (h0 : ∀ c ∈ p0, c ≠ 42) (h1 : ∀ c ∈ p1, c ≠ 42) (h2 : ∀ c ∈ p2, c ≠ 42) (h3 : ∀ c ∈ p3, c ≠ 42) {i : Nat} (h : (stars (pathOf p0 p1 p2 p3)).testBit i = true) :
    i = p0.length ∨ i = p0.length + 1 + p1.length ∨ i = p0.length + 1 + p1.length + 1 + p2.length := by
  obtain ⟨l, e⟩ := stars_bit.1 h
  have e2 : (pathOf p0 p1 p2 p3)[i]? = some 42 := by
    rw [List.getD_eq_getElem?_getD, List.getElem?_eq_getElem l] at e
    rw [List.getElem?_eq_getElem l]; exact congrArg some e
  rw [show pathOf p0 p1 p2 p3 = p0 ++ 42 :: (p1 ++ 42 :: (p2 ++ 42 :: p3)) by simp [pathOf]] at e2
  rcases star_at h0 e2 with h | ⟨l1, e3⟩
  · exact .inl h
  rcases star_at h1 e3 with h | ⟨l2, e4⟩
  · exact .inr (.inl (by omega))
  rcases star_at h2 e4 with h | ⟨l3, e5⟩
  · exact .inr (.inr (by omega))
  exact (h3 42 (List.mem_of_getElem? e5) rfl).elim
/-- short whole numbers -/
theorem small_of {x : Int} (h0 : 0 ≤ x) {k : Nat} (hk : k ≤ 20000) (h : x < 2 ^ k) : Small x := by
  unfold Small Builtin.Int.intBits
  split
  · exact Nat.zero_le _
  · rename_i hx
    have hx' : x ≠ 0 := by simpa using hx
    have h1 : x.natAbs < 2 ^ k := by
      have : ((2 : Int) ^ k) = ((2 ^ k : Nat) : Int) := by rw [Int.natCast_pow]; rfl
      rw [this] at h; omega
    have := (Nat.log2_lt (by omega)).2 h1
    omega
def Bd (a m : Nat) (o : Int) (c : Int) (f : List Nat → Int) : Prop := ∀ j, j ≤ 15 → 0 ≤ V a m o j f ∧ V a m o j f ≤ c * 1001 ^ j
theorem Bd.one {a m : Nat} {o : Int} (h0 : 0 ≤ o) (h1 : o ≤ 999) {f : List Nat → Int} (h : ∀ u, 0 ≤ f u ∧ f u ≤ 1) : Bd a m o 1 f := fun j _ => by
  refine ⟨?_, ?_⟩
  · have := V_nonneg (a := a) (m := m) h0 j (fun _ => 0) f fun u => (h u).1
    rwa [V_zero] at this
  · have := V_nonneg (a := a) (m := m) h0 j f (fun _ => 1) fun u => (h u).2
    rw [V_one] at this
    have k : (2 + o) ^ j ≤ 1001 ^ j := by
      clear this
      induction j with
      | zero => simp
      | succ j ih =>
        rw [Int.pow_succ, Int.pow_succ]
        have := ih (by omega)
        exact Int.mul_le_mul this (by omega) (by omega) (Int.pow_nonneg (by decide))
    omega
theorem sum_bd (f : Nat → Int) (c : Int) : ∀ N, (∀ j, j < N → 0 ≤ f j ∧ f j ≤ c) → 0 ≤ ((List.range N).map f).sum ∧ ((List.range N).map f).sum ≤ N * c
  | 0, _ => by simp
  | N + 1, h => by
    obtain ⟨h1, h2⟩ := sum_bd f c N fun j hj => h j (by omega)
    obtain ⟨h3, h4⟩ := h N (by omega)
    rw [List.range_succ, List.map_append, List.sum_append, List.map_cons, List.map_nil, List.sum_cons, List.sum_nil, Int.natCast_add, Int.add_mul]
    omega
theorem Bd.cv {a m : Nat} {o c d : Int} (hc : 0 ≤ c) (hd : 0 ≤ d) {f g : List Nat → Int} (hf : Bd a m o c f) (hg : Bd a m o d g) : Bd a m o (16 * (c * d)) (cv f g) := fun j hj => by
  rw [V_cv]
  have h := sum_bd (fun i => V a m o i f * V a m o (j - i) g) (c * d * 1001 ^ j) (j + 1) fun i hi => by
    obtain ⟨f1, f2⟩ := hf i (by omega)
    obtain ⟨g1, g2⟩ := hg (j - i) (by omega)
    refine ⟨Int.mul_nonneg f1 g1, ?_⟩
    have h2 := Int.mul_le_mul f2 g2 g1 (Int.mul_nonneg hc (Int.pow_nonneg (by decide)))
    have e : (c * 1001 ^ i) * (d * 1001 ^ (j - i)) = c * d * 1001 ^ j := by
      rw [show (1001 : Int) ^ j = 1001 ^ i * 1001 ^ (j - i) by rw [← Int.pow_add]; congr 1; omega]
      simp only [Int.mul_assoc, Int.mul_left_comm, Int.mul_comm]
    rw [e] at h2; exact h2
  refine ⟨h.1, Int.le_trans h.2 ?_⟩
  rw [Int.mul_assoc 16]
  have hz : 0 ≤ c * d * 1001 ^ j := Int.mul_nonneg (Int.mul_nonneg hc hd) (Int.pow_nonneg (by decide))
  generalize c * d * 1001 ^ j = z at hz
  have h16 : ((j + 1 : Nat) : Int) ≤ 16 := by omega
  exact Int.mul_le_mul_of_nonneg_right h16 hz
theorem ind_bd (b : Bool) : 0 ≤ ind b ∧ ind b ≤ 1 := by cases b <;> decide
theorem fst_bd (w : List Nat) (u : List Nat) : 0 ≤ fst w [] u ∧ fst w [] u ≤ 1 := by
  rw [fst_char]; exact ind_bd _
end W40
end
section
open PySem PySem.W PyProof.Rows
set_option Elab.async false
set_option maxRecDepth 20000
set_option maxHeartbeats 8000000
set_option linter.unusedVariables false
set_option linter.unusedSimpArgs false
namespace W40

theorem keys_short {path : List Nat} {cs : List (Int × Int)} (h : GoodD (KeyOk path) cs) : cs.length ≤ 2 ^ (path.length + 1) := by
  have h1 := short_keys (2 ^ (path.length + 1)) ((keysP cs).map Int.toNat) ?_ ?_
  · unfold keysP at h1
    rwa [List.length_map, List.length_map] at h1
  · have hall := h.all
    have hnd := h.nd
    generalize keysP cs = l at hall hnd
    induction l with
    | nil => exact List.nodup_nil
    | cons k l ih =>
      rw [List.nodup_cons] at hnd
      rw [List.map_cons, List.nodup_cons]
      refine ⟨fun q => ?_, ih (fun x hx => hall x (.tail _ hx)) hnd.2⟩
      obtain ⟨y, hy, e⟩ := List.mem_map.1 q
      obtain ⟨n1, e1, _⟩ := hall k (.head _)
      obtain ⟨n2, e2, _⟩ := hall y (.tail _ hy)
      have : y = k := by omega
      exact hnd.1 (this ▸ hy)
  · intro x hx
    obtain ⟨k, hk, rfl⟩ := List.mem_map.1 hx
    obtain ⟨n, rfl, _, h2⟩ := h.all k hk
    rwa [Int.toNat_natCast]
theorem grow1_len (counts : List (Int × Int)) (st p : Int) (g : List (Int × Int)) (b : Int × Int) : (grow1 counts st p g b).length ≤ g.length + 1 := by
  unfold grow1
  split
  · unfold storeP
    split
    · rw [List.length_map]; omega
    · simp
  · omega
theorem row_len (counts : List (Int × Int)) (st p : Int) : ∀ (L g : List (Int × Int)), (L.foldl (grow1 counts st p) g).length ≤ g.length + L.length
  | [], g => by simp
  | b :: L, g => by
    have h1 := row_len counts st p L (grow1 counts st p g b)
    have h2 := grow1_len counts st p g b
    rw [List.foldl_cons, List.length_cons]; omega
theorem signs_short (path : List Nat) (a m : Nat) (o : Int) : (signsP path a m o).length ≤ 3 := by
  unfold signsP signsTo
  rw [List.length_map]
  exact Nat.le_trans (List.length_filter_le ..) (Nat.le_trans (List.length_take_le ..) (Nat.le_refl _))
theorem getD4 {p0 p1 p2 p3 : List Nat} {Q : List Nat → Prop} (h0 : Q p0) (h1 : Q p1) (h2 : Q p2) (h3 : Q p3) (hn : Q []) (k : Nat) : Q ([p0, p1, p2, p3].getD k []) := by
  rcases k with _ | _ | _ | _ | k
  · exact h0
  · exact h1
  · exact h2
  · exact h3
  · exact hn
theorem told {a m others : Nat} {p0 p1 p2 p3 : List Nat} (P : Pcs a m others p0 p1 p2 p3) : Told a m others p0 p1 p2 p3 := by
  obtain ⟨la, lm, lo, ⟨w0, e0, l0⟩, ⟨w1, e1, l1, l1'⟩, ⟨w2, e2, l2⟩, ⟨w3, e3, l3⟩⟩ := P
  have hne := a_ne_m la lm
  have hz : (0 : Nat) ∉ alpha := by decide
  have ha0 : a ≠ 0 := fun e => hz (e ▸ List.mem_append_left _ la)
  have hm0 : m ≠ 0 := fun e => hz (e ▸ List.mem_append_right _ lm)
  have ha42 : a ≠ 42 := (alpha_lt (List.mem_append_left _ la : a ∈ alpha)).2.1
  have hm42 : m ≠ 42 := (alpha_lt (List.mem_append_right _ lm : m ∈ alpha)).2.1
  have hk0 : p0.length ≤ 1 := by rw [e0, spell_len]; exact l0
  have hk1 : 1 ≤ p1.length ∧ p1.length ≤ 6 := by rw [e1, spell_len]; exact ⟨l1, l1'⟩
  have hk2 : p2.length ≤ 2 := by rw [e2, spell_len]; exact l2
  have hk3 : p3.length ≤ 1 := by rw [e3, spell_len]; exact l3
  have c0 : ∀ c ∈ p0, c = a ∨ c = m := by rw [e0]; exact fun c => spell_mem
  have c1 : ∀ c ∈ p1, c = a ∨ c = m := by rw [e1]; exact fun c => spell_mem
  have c2 : ∀ c ∈ p2, c = a ∨ c = m := by rw [e2]; exact fun c => spell_mem
  have c3 : ∀ c ∈ p3, c = a ∨ c = m := by rw [e3]; exact fun c => spell_mem
  have n42 : ∀ {p : List Nat}, (∀ c ∈ p, c = a ∨ c = m) → ∀ c ∈ p, c ≠ 42 := fun h c hc => by
    rcases h c hc with rfl | rfl
    · exact ha42
    · exact hm42
  have n0 : ∀ {p : List Nat}, (∀ c ∈ p, c = a ∨ c = m) → ∀ c ∈ p, c ≠ 0 := fun h c hc => by
    rcases h c hc with rfl | rfl
    · exact ha0
    · exact hm0
  have hlen : (pathOf p0 p1 p2 p3).length = p0.length + p1.length + p2.length + p3.length + 3 := by simp [pathOf]; omega
  have PO : PathOk a m (pathOf p0 p1 p2 p3) := by
    refine ⟨fun h => ?_, ha42, hm42, fun i h1 h2 h3 => ?_, fun ⟨h1, h2⟩ => ?_⟩
    · simp only [pathOf, List.mem_append, List.mem_singleton] at h
      rcases h with (((h | h) | h) | h) | (h | h) | h
      · exact n0 c0 0 h rfl
      · cases h
      · exact n0 c1 0 h rfl
      · cases h
      · exact n0 c2 0 h rfl
      · cases h
      · exact n0 c3 0 h rfl
    · have q1 := stars_at (n42 c0) (n42 c1) (n42 c2) (n42 c3) h1
      have q2 := stars_at (n42 c0) (n42 c1) (n42 c2) (n42 c3) h2
      have q3 := stars_at (n42 c0) (n42 c1) (n42 c2) (n42 c3) h3
      omega
    · have q1 := stars_at (n42 c0) (n42 c1) (n42 c2) (n42 c3) h1
      have q2 := stars_at (n42 c0) (n42 c1) (n42 c2) (n42 c3) h2
      omega
  have hK : ((2 + others : Nat) : Int) = 2 + (others : Int) := by rw [Int.natCast_add]; rfl
  -- each piece
  have hst : ∀ k, stepsOf ([esc p0, esc p1, esc p2, esc p3].getD k []) (([p0, p1, p2, p3].getD k []).length : Int) = (periods ([p0, p1, p2, p3].getD k [])).map fun s : Nat => (s : Int) := by
    intro k
    rcases k with _ | _ | _ | _ | k
    · show stepsOf (esc p0) (p0.length : Int) = (periods p0).map _
      rw [e0]; exact steps_is la lm w0 (by omega)
    · show stepsOf (esc p1) (p1.length : Int) = (periods p1).map _
      rw [e1]; exact steps_is la lm w1 (by omega)
    · show stepsOf (esc p2) (p2.length : Int) = (periods p2).map _
      rw [e2]; exact steps_is la lm w2 (by omega)
    · show stepsOf (esc p3) (p3.length : Int) = (periods p3).map _
      rw [e3]; exact steps_is la lm w3 (by omega)
    · rfl
  have hend : ∀ top k, [p0, p1, p2, p3].getD k [] ≠ [] → endedOf [esc p0, esc p1, esc p2, esc p3] [p0, p1, p2, p3] (2 + others) top k = (List.range (top + 1)).map fun i => V a m others i (fst ([p0, p1, p2, p3].getD k []) []) := by
    intro top k hk
    unfold endedOf
    rw [hst k, hK, go_is hne ha0 hm0 (getD4 (Q := fun p => ∀ c ∈ p, c = a ∨ c = m) c0 c1 c2 c3 (fun _ h => nomatch h) k) (List.length_pos_iff.2 hk)]
  have hlaps : ∀ top, p0.length ≤ top → ∀ i, lapsTo [esc p0, esc p1, esc p2, esc p3] [p0, p1, p2, p3] (2 + others) top i = (List.range (top + 1)).map fun j => V a m others j (AA [p0, p1, p2, p3] i) := by
    intro top ht i
    induction i with
    | zero =>
      unfold lapsTo AA
      show (List.replicate (top + 1) (0 : Int)).set p0.length 1 = (List.range (top + 1)).map fun j => V a m others j fun v => ind (v == p0)
      apply List.ext_getElem?
      intro j
      rw [List.getElem?_set, List.getElem?_map]
      by_cases hj : j < top + 1
      · rw [List.getElem?_range hj, List.length_replicate]
        by_cases e : p0.length = j
        · rw [if_pos e, if_pos (by omega), ← e]
          exact congrArg some (V_word hne ha0 hm0 c0).symm
        · rw [if_neg e, List.getElem?_replicate, if_pos hj]
          refine congrArg some ?_
          show (0 : Int) = V a m others j fun v => ind (v == p0)
          rw [V_congr (g := fun _ => 0) fun u hu => ?_]
          · exact (V_zero j).symm
          · rw [beq_eq_false_iff_ne.2 fun q => e (by rw [← hu, q])]; rfl
      · rw [if_neg (by omega), List.getElem?_replicate, if_neg hj, List.getElem?_eq_none (by rw [List.length_range]; omega)]; rfl
    | succ i ih =>
      unfold lapsTo AA
      split
      · rename_i h
        rw [ih, h]
        apply List.map_congr_left
        intro j _
        apply V_congr
        intro u _
        rw [fst_nil, cv_unit]
      · rename_i h
        rw [ih, hend top (i + 1) h, conv_is]
  have ho0 : (0 : Int) ≤ others := by omega
  have ho1 : (others : Int) ≤ 999 := by omega
  have bF : ∀ k, Bd a m others 1 (fst ([p0, p1, p2, p3].getD k []) []) := fun k => Bd.one ho0 ho1 (fst_bd _)
  have b0 : Bd a m others 1 (AA [p0, p1, p2, p3] 0) := Bd.one ho0 ho1 fun u => ind_bd _
  have b1 : Bd a m others (16 * (1 * 1)) (AA [p0, p1, p2, p3] 1) := Bd.cv (by decide) (by decide) b0 (bF 1)
  have b2 : Bd a m others (16 * (16 * (1 * 1) * 1)) (AA [p0, p1, p2, p3] 2) := Bd.cv (by decide) (by decide) b1 (bF 2)
  have b3 : Bd a m others (16 * (16 * (16 * (1 * 1) * 1) * 1)) (AA [p0, p1, p2, p3] 3) := Bd.cv (by decide) (by decide) b2 (bF 3)
  have b4 : ∀ i, ∀ u, AA [p0, p1, p2, p3] (3 + i) u = AA [p0, p1, p2, p3] 3 u := by
    intro i
    induction i with
    | zero => intro u; rfl
    | succ i ih =>
      intro u
      show cv (AA [p0, p1, p2, p3] (3 + i)) (fst ([p0, p1, p2, p3].getD (3 + i + 1) []) []) u = _
      rw [show [p0, p1, p2, p3].getD (3 + i + 1) [] = [] by rw [show 3 + i + 1 = i + 4 by omega]; rfl, fst_nil, cv_unit, ih]
  have sm : ∀ {c : Int} {f : List Nat → Int}, 0 ≤ c → c ≤ 4096 → Bd a m others c f → ∀ j, j ≤ 15 → Small (V a m others j f) := by
    intro c f hc hc' hb j hj
    obtain ⟨h1, h2⟩ := hb j hj
    refine small_of h1 (k := 200) (by decide) ?_
    have h3 : (1001 : Int) ^ j ≤ 1001 ^ 15 := by
      have := Nat.pow_le_pow_right (n := 1001) (by decide) hj
      have e : ∀ n : Nat, ((1001 : Int) ^ n) = ((1001 ^ n : Nat) : Int) := fun n => by rw [Int.natCast_pow]; rfl
      rw [e, e]; omega
    have h4 := Int.mul_le_mul hc' h3 (Int.pow_nonneg (by decide)) (by decide)
    have h5 : (4096 : Int) * 1001 ^ 15 < 2 ^ 200 := by decide
    omega
  have bAll : ∀ i j, j ≤ 15 → Small (V a m others j (AA [p0, p1, p2, p3] i)) := by
    intro i j hj
    have hi : i = 0 ∨ i = 1 ∨ i = 2 ∨ ∃ d, i = 3 + d := by
      rcases i with _ | _ | _ | i
      · exact .inl rfl
      · exact .inr (.inl rfl)
      · exact .inr (.inr (.inl rfl))
      · exact .inr (.inr (.inr ⟨i, by omega⟩))
    rcases hi with rfl | rfl | rfl | ⟨d, rfl⟩
    · exact sm (by decide) (by decide) b0 j hj
    · exact sm (by decide) (by decide) b1 j hj
    · exact sm (by decide) (by decide) b2 j hj
    · rw [V_congr fun u _ => b4 d u]
      exact sm (by decide) (by decide) b3 j hj
  have hstar : mask (pathOf p0 p1 p2 p3) (isSign (S [42])) = (stars (pathOf p0 p1 p2 p3) : Int) := star_mask
  have hpow : 2 ^ ((pathOf p0 p1 p2 p3).length + 1) ≤ 16384 := by
    have := Nat.pow_le_pow_right (n := 2) (by decide) (show (pathOf p0 p1 p2 p3).length + 1 ≤ 14 by omega)
    exact this
  refine ⟨?_, ?_, ?_, ?_, ?_, ?_, ?_⟩
  · intro k hk s hs
    rw [hst k] at hs
    obtain ⟨t, ht, rfl⟩ := List.mem_map.1 hs
    have := (periods_mem ht).1
    omega
  · intro i x hx
    rw [hlaps _ (by omega)] at hx
    obtain ⟨j, hj, rfl⟩ := List.mem_map.1 hx
    rw [List.mem_range] at hj
    exact bAll i j (by omega)
  · intro k hk x hx
    rw [hend _ k hk] at hx
    obtain ⟨j, hj, rfl⟩ := List.mem_map.1 hx
    rw [List.mem_range] at hj
    exact sm (by decide) (by decide) (bF k) j (by omega)
  · intro e he
    have h1 : ((2 + others : Nat) : Int) ^ e = (((2 + others) ^ e : Nat) : Int) := by rw [Int.natCast_pow]
    rw [h1]
    refine small_of (by omega) (k := 10 * e + 1) (by omega) ?_
    have h2 : (2 + others) ^ e ≤ (2 ^ 10) ^ e := Nat.pow_le_pow_left (by omega) e
    rw [← Nat.pow_mul] at h2
    have h3 : ((2 : Int) ^ (10 * e + 1)) = ((2 ^ (10 * e + 1) : Nat) : Int) := by rw [Int.natCast_pow]; rfl
    rw [h3, Nat.pow_succ]
    have := Nat.two_pow_pos (10 * e)
    omega
  · intro t p i j
    rw [hstar]
    obtain ⟨g1, _⟩ := cnts_is (others := others) PO t
    have hk : ∀ kv ∈ cntsAt (stars (pathOf p0 p1 p2 p3) : Int) (signsP (pathOf p0 p1 p2 p3) a m others) t, KeyOk (pathOf p0 p1 p2 p3) kv.1 := fun kv hkv => g1.all _ (List.mem_map.2 ⟨kv, hkv, rfl⟩)
    obtain ⟨g2, _⟩ := grow_all (counts := cntsAt (stars (pathOf p0 p1 p2 p3) : Int) (signsP (pathOf p0 p1 p2 p3) a m others) t) (st := (stars (pathOf p0 p1 p2 p3) : Int)) (Q := KeyOk (pathOf p0 p1 p2 p3)) (f := fun _ => 0) (signs := signsP (pathOf p0 p1 p2 p3) a m others) ((cntsAt (stars (pathOf p0 p1 p2 p3) : Int) (signsP (pathOf p0 p1 p2 p3) a m others) t).take i) [] ⟨List.nodup_nil, fun k hk => nomatch hk⟩ (fun kv hkv => look_some g1.nd (List.mem_of_mem_take hkv)) (fun kv hkv b hb _ => moved_ok PO (hk kv (List.mem_of_mem_take hkv)) hb) (fun kv hkv b hb hn => rfl)
    have g3 := keys_short g2
    have g4 := row_len (cntsAt (stars (pathOf p0 p1 p2 p3) : Int) (signsP (pathOf p0 p1 p2 p3) a m others) t) (stars (pathOf p0 p1 p2 p3) : Int) p ((signsP (pathOf p0 p1 p2 p3) a m others).take j) (growTo (cntsAt (stars (pathOf p0 p1 p2 p3) : Int) (signsP (pathOf p0 p1 p2 p3) a m others) t) (stars (pathOf p0 p1 p2 p3) : Int) (signsP (pathOf p0 p1 p2 p3) a m others) i)
    have g5 := signs_short (pathOf p0 p1 p2 p3) a m others
    have g6 := List.length_take_le j (signsP (pathOf p0 p1 p2 p3) a m others)
    have g7 : (growTo (cntsAt (stars (pathOf p0 p1 p2 p3) : Int) (signsP (pathOf p0 p1 p2 p3) a m others) t) (stars (pathOf p0 p1 p2 p3) : Int) (signsP (pathOf p0 p1 p2 p3) a m others) i).length ≤ 2 ^ ((pathOf p0 p1 p2 p3).length + 1) := g3
    have g8 : (rowTo (cntsAt (stars (pathOf p0 p1 p2 p3) : Int) (signsP (pathOf p0 p1 p2 p3) a m others) t) (stars (pathOf p0 p1 p2 p3) : Int) (signsP (pathOf p0 p1 p2 p3) a m others) p (growTo (cntsAt (stars (pathOf p0 p1 p2 p3) : Int) (signsP (pathOf p0 p1 p2 p3) a m others) t) (stars (pathOf p0 p1 p2 p3) : Int) (signsP (pathOf p0 p1 p2 p3) a m others) i) j).length ≤ _ := g4
    have g9 : ((signsP (pathOf p0 p1 p2 p3) a m others).take j).length ≤ (signsP (pathOf p0 p1 p2 p3) a m others).length := by rw [List.length_take]; omega
    omega
  · intro t
    rw [hstar]
    have := keys_short (cnts_is (others := others) PO t).1
    omega
  · rw [hlaps _ (by omega), hstar]
    unfold tailC toldTo
    apply List.map_congr_left
    intro n hn
    rw [List.mem_range] at hn
    rw [told_is PO n]
    have ep : pathOf p0 p1 p2 p3 = p0 ++ 42 :: (p1 ++ 42 :: (p2 ++ 42 :: p3)) := by simp [pathOf]
    have e1 : V a m others n (fun u => ind (mt (pathOf p0 p1 p2 p3) u)) = V a m others n (cv (AA [p0, p1, p2, p3] 2) fun y => ind (starB (mt p3) y)) := by
      apply V_congr
      intro u _
      rw [ep, path_is (n42 c0) (n42 c1) (n42 c2)]
      rfl
    rw [e1, V_cv]
    rw [sum_short _ (M := n + 1 - p3.length) (N := n + 1) (by omega) fun j h1 h2 => by rw [V_ends hne ha0 hm0 c3 (n42 c3), if_neg (by omega), Int.mul_zero]]
    congr 1
    apply List.map_congr_left
    intro j hj
    rw [List.mem_range] at hj
    rw [range_map_getD _ (by omega), V_ends hne ha0 hm0 c3 (n42 c3), if_pos (by omega), hK]
    rw [show n - j - p3.length = n - p3.length - j by omega]
end W40
end
theorem PySem.Challenge.cw_wn0040_01_holds : PySem.Challenge.rw_wn0040_01.Holds :=
  W40.law_ends fun prog w l hl => W40.fn_law (n := 27) (fun _ _ _ _ _ _ _ P => W40.told P) hl
