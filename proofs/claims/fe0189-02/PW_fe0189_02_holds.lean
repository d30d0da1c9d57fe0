import PyProof.Rows.All
import Wide.All
import OpenK.AllK
import Wide.FinOn
import PySem.Challenge.RW_fe0189_02
set_option Elab.async false
namespace Mine
section
open PySem PySem.W PyProof.Rows
set_option maxRecDepth 100000 in
set_option maxHeartbeats 8000000 in
open_top hd for PySem.Challenge.rw_fe0189_02
end
end Mine
set_option maxRecDepth 100000
namespace Mine
open PySem PySem.W PySem.Calls PyProof.Rows

/-- every object of the first heap stands in the second one -/
abbrev Keep (h h' : Heap) : Prop := ∀ b o, h.get? b = some o → h'.get? b = some o
/-- the same, but for the addresses of a set -/
abbrev KeepB (X : Addr → Prop) (h h' : Heap) : Prop := ∀ b o, ¬ X b → h.get? b = some o → h'.get? b = some o
theorem Keep.trans {a b c : Heap} (x : Keep a b) (y : Keep b c) : Keep a c := fun i o e => y i o (x i o e)
theorem Keep.rfl' {a : Heap} : Keep a a := fun _ _ e => e
theorem KeepB.trans {X : Addr → Prop} {a b c : Heap} (x : KeepB X a b) (y : KeepB X b c) : KeepB X a c := fun i o n e => y i o n (x i o n e)
theorem Keep.b {X : Addr → Prop} {a b : Heap} (x : Keep a b) : KeepB X a b := fun i o _ e => x i o e

/-- scalar data -/
inductive S where
  | none | bool (b : Bool) | int (n : Int) | str (x : Str) | bytes (b : Array UInt8)
def S.is : S → Value → Prop
  | .none, v => v = .none
  | .bool b, v => v = .bool b
  | .int n, v => ∃ t, v = .int n t
  | .str x, v => ∃ t, v = .str x t
  | .bytes b, v => ∃ t, v = .bytes b t

abbrev PV := Value → Heap → Prop
abbrev isD (d : S) : PV := fun v _ => d.is v
abbrev isI (n : Int) : PV := fun v _ => S.is (.int n) v
abbrev isS (x : Str) : PV := fun v _ => S.is (.str x) v
abbrev isB (b : Bool) : PV := fun v _ => S.is (.bool b) v
abbrev isY (b : Array UInt8) : PV := fun v _ => S.is (.bytes b) v
abbrev isV (u : Value) : PV := fun v _ => v = u
/-- a list of scalars, away from the addresses of X -/
def isL (X : Addr → Prop) (ds : List S) : PV := fun v h => ∃ l vs, v = .ref l ∧ ¬ X l ∧ h.IsList l vs ∧ Paired S.is ds vs.toList
abbrev isLI (X : Addr → Prop) (ns : List Int) : PV := isL X (ns.map S.int)
abbrev isLS (X : Addr → Prop) (xs : List Str) : PV := isL X (xs.map S.str)

theorem isL.keep {X : Addr → Prop} {ds : List S} {v : Value} {h h' : Heap} (x : isL X ds v h) (k : KeepB X h h') : isL X ds v h' := by
  obtain ⟨l, vs, e, n, ⟨o, ho, r⟩, p⟩ := x
  exact ⟨l, vs, e, n, ⟨o, k l o n ho, r⟩, p⟩

section
variable (prog : Program) (w : World) (A : Around)
/-- from every heap that holds h0's objects the tree ends with a value of which P holds; every object stays -/
def Ev {α : Type} (h0 : Heap) (t : Sem α) (P : α → Heap → Prop) : Prop :=
  ∀ (s : Shared) (Q : α → Shared → Prop) (E : Value → Shared → Prop), Keep h0 s.heap →
    (∀ v h tk, Keep s.heap h → P v h → Q v { s with heap := h, toks := tk }) → wpAny (model prog w) A t Q E s
end

section
variable {prog : Program} {w : World} {A : Around} {h0 h1 : Heap} {env : Env}
theorem Ev.use {α : Type} {t : Sem α} {P : α → Heap → Prop} {s : Shared} {Q : α → Shared → Prop} {E : Value → Shared → Prop} (x : Ev prog w A s.heap t P)
    (h : ∀ v h tk, Keep s.heap h → P v h → Q v { s with heap := h, toks := tk }) : wpAny (model prog w) A t Q E s := x s Q E (fun _ _ e => e) h
theorem Ev.base {α : Type} {t : Sem α} {P : α → Heap → Prop} (x : Ev prog w A h0 t P) (k : Keep h0 h1) : Ev prog w A h1 t P :=
  fun s Q E k' h => x s Q E (fun b o e => k' b o (k b o e)) h
theorem Ev.mono {α : Type} {t : Sem α} {P P' : α → Heap → Prop} (x : Ev prog w A h0 t P) (hP : ∀ v h, Keep h0 h → P v h → P' v h) : Ev prog w A h0 t P' :=
  fun s Q E k' h => x s Q E k' fun v h' tk k p => h v h' tk k (hP v h' (k'.trans k) p)
theorem Ev.pure {α : Type} {a : α} {P : α → Heap → Prop} (x : ∀ h, Keep h0 h → P a h) : Ev prog w A h0 (pure a) P :=
  fun s Q E k h => wpAny_pure (h a s.heap s.toks (fun _ _ e => e) (x _ k))
theorem Ev.bind {α β : Type} {t : Sem α} {f : α → Sem β} {P : α → Heap → Prop} {P' : β → Heap → Prop} (x : Ev prog w A h0 t P)
    (y : ∀ v h, Keep h0 h → P v h → Ev prog w A h (f v) P') : Ev prog w A h0 (t >>= f) P' := fun s Q E k h =>
  wpAny_bind (x s _ E k fun v h₁ tk k₁ p => y v h₁ (k.trans k₁) p ⟨h₁, s.gens, s.drawn, tk, s.os⟩ Q E (fun _ _ e => e) fun v' h₂ tk₂ k₂ p₂ => h v' h₂ tk₂ (k₁.trans k₂) p₂)

/-- a value of a name -/
def Var (env : Env) (h : Heap) (x : Str) (v : Value) : Prop :=
  env.scope.kind = .function ∧ (x == ("__debug__" : Str)) = false ∧
  ((env.kindOf x = some .local ∧ ∃ m, h.Ns env.locals m ∧ m x = some v) ∨
   (env.kindOf x = some .cell ∧ ∃ c, env.cells.lookup x = some c ∧ h.IsCell c (some v)) ∨
   (env.kindOf x = some .free ∧ (x == ("__classdict__" : Str)) = false ∧ ∃ c, env.cells.lookup x = some c ∧ h.IsCell c (some v)) ∨
   (env.kindOf x = some .globalImplicit ∧ ∃ mg mb, h.Ns env.globals mg ∧ h.Ns env.builtins mb ∧ (mg x = some v ∨ (mg x = none ∧ mb x = some v))))
theorem Var.keep {x : Str} {v : Value} {h h' : Heap} (y : Var env h x v) (k : Keep h h') : Var env h' x v := by
  obtain ⟨a, b, c⟩ := y
  refine ⟨a, b, ?_⟩
  rcases c with ⟨c1, m, c2, c3⟩ | ⟨c1, c, c2, c3⟩ | ⟨c1, c1', c, c2, c3⟩ | ⟨c1, mg, mb, c2, c3, c4⟩
  · exact .inl ⟨c1, m, c2.keeps k, c3⟩
  · exact .inr (.inl ⟨c1, c, c2, c3.keeps k⟩)
  · exact .inr (.inr (.inl ⟨c1, c1', c, c2, c3.keeps k⟩))
  · exact .inr (.inr (.inr ⟨c1, mg, mb, c2.keeps k, c3.keeps k, c4⟩))
theorem ev_Name {x : Str} {pos : Pos} {v : Value} {P : PV} (y : Var env h0 x v) (hP : ∀ h, Keep h0 h → P v h) : Ev prog w A h0 (eval (.Name x pos) env) P := fun s Q E k h => by
  obtain ⟨a, b, c⟩ := y.keep k
  have q := h v s.heap s.toks (fun _ _ e => e) (hP _ k)
  rcases c with ⟨c1, m, c2, c3⟩ | ⟨c1, c, c2, c3⟩ | ⟨c1, c1', c, c2, c3⟩ | ⟨c1, mg, mb, c2, c3, c4⟩
  · exact wpAny_Name (wpAny_loadName_local a c1 c2 c3 q) b
  · exact wpAny_Name (wpAny_loadName_cell a c1 c2 c3 q) b
  · exact wpAny_Name (wpAny_loadName_free a c1 c2 c3 q c1') b
  · rcases c4 with c4 | ⟨c4, c5⟩
    · exact Name_function_global a c1 (loadGlobal_global c2 c4 q) b
    · exact Name_function_global a c1 (loadGlobal_builtin c2 c4 c3 c5 q) b

theorem ev_int {n : Int} {k pos} : Ev prog w A h0 (eval (.Constant (.int n) k pos) env) (isI n) :=
  fun s _ _ _ h => wpAny_Constant_int (h _ s.heap _ (fun _ _ e => e) ⟨_, rfl⟩)
theorem ev_str {x : Str} {k pos} : Ev prog w A h0 (eval (.Constant (.str x) k pos) env) (isS x) :=
  fun s _ _ _ h => wpAny_Constant_str (h _ s.heap _ (fun _ _ e => e) ⟨_, rfl⟩)
theorem ev_bool {b : Bool} {k pos} : Ev prog w A h0 (eval (.Constant (.bool b) k pos) env) (isB b) :=
  fun s _ _ _ h => wpAny_Constant_bool (h _ s.heap s.toks (fun _ _ e => e) rfl)

/-- two operands, then the operation -/
theorem ev_bin {l r : Expr} {op : Operator} {pos : Pos} {P₁ P₂ P : PV} (x : Ev prog w A h0 (eval l env) P₁) (y : Ev prog w A h0 (eval r env) P₂)
    (m : ∀ v h h', Keep h h' → P₁ v h → P₁ v h')
    (o : ∀ a b h, Keep h0 h → P₁ a h → P₂ b h → Ev prog w A h (binaryOp op a b) P) : Ev prog w A h0 (eval (.BinOp l op r pos) env) P := fun s Q E k h =>
  wpAny_BinOp (x s _ E k fun a h₁ tk k₁ p => y _ _ E (k.trans k₁) fun b h₂ tk₂ k₂ p₂ =>
    o a b h₂ ((k.trans k₁).trans k₂) (m _ _ _ k₂ p) p₂ ⟨h₂, s.gens, s.drawn, tk₂, s.os⟩ Q E (fun _ _ e => e) fun v h₃ tk₃ k₃ p₃ => h v h₃ tk₃ (k₁.trans (k₂.trans k₃)) p₃)
theorem ev_binI {l r : Expr} {op : Operator} {pos : Pos} {a b c : Int} (x : Ev prog w A h0 (eval l env) (isI a)) (y : Ev prog w A h0 (eval r env) (isI b))
    (o : ∀ t u h, Ev prog w A h (binaryOp op (.int a t) (.int b u)) (isI c)) : Ev prog w A h0 (eval (.BinOp l op r pos) env) (isI c) :=
  ev_bin x y (fun _ _ _ _ p => p) fun _ _ _ _ ⟨t, e⟩ ⟨u, e'⟩ => by subst e e'; exact o t u _
theorem ev_add {l r : Expr} {pos : Pos} {a b : Int} (x : Ev prog w A h0 (eval l env) (isI a)) (y : Ev prog w A h0 (eval r env) (isI b)) : Ev prog w A h0 (eval (.BinOp l .Add r pos) env) (isI (a + b)) :=
  ev_binI x y fun _ _ _ s _ _ _ h => add_int (h _ s.heap _ (fun _ _ e => e) ⟨_, rfl⟩)
theorem ev_sub {l r : Expr} {pos : Pos} {a b : Int} (x : Ev prog w A h0 (eval l env) (isI a)) (y : Ev prog w A h0 (eval r env) (isI b)) : Ev prog w A h0 (eval (.BinOp l .Sub r pos) env) (isI (a - b)) :=
  ev_binI x y fun _ _ _ s _ _ _ h => sub_int (h _ s.heap _ (fun _ _ e => e) ⟨_, rfl⟩)
theorem ev_mul {l r : Expr} {pos : Pos} {a b : Int} (x : Ev prog w A h0 (eval l env) (isI a)) (y : Ev prog w A h0 (eval r env) (isI b)) (hm : IntMulOk a b) : Ev prog w A h0 (eval (.BinOp l .Mult r pos) env) (isI (a * b)) :=
  ev_binI x y fun _ _ _ s _ _ _ h => mul_int (h _ s.heap _ (fun _ _ e => e) ⟨_, rfl⟩) hm
theorem ev_mod {l r : Expr} {pos : Pos} {a b : Int} (x : Ev prog w A h0 (eval l env) (isI a)) (y : Ev prog w A h0 (eval r env) (isI b)) (hb : 0 < b) : Ev prog w A h0 (eval (.BinOp l .Mod r pos) env) (isI (a % b)) :=
  ev_binI x y fun _ _ _ s _ _ _ h => by
    have q := h (.int (a % b) s.toks) s.heap (s.toks + 1) (fun _ _ e => e) ⟨_, rfl⟩
    rw [← Int.fmod_eq_emod_of_nonneg a (Int.le_of_lt hb)] at q
    exact mod_int (Int.ne_of_gt hb) q
theorem ev_div {l r : Expr} {pos : Pos} {a b : Int} (x : Ev prog w A h0 (eval l env) (isI a)) (y : Ev prog w A h0 (eval r env) (isI b)) (hb : 0 < b) (hs : b.natAbs.log2 < 8000) : Ev prog w A h0 (eval (.BinOp l .FloorDiv r pos) env) (isI (a / b)) :=
  ev_binI x y fun _ _ _ s _ _ _ h => by
    have q := h (.int (a / b) s.toks) s.heap (s.toks + 1) (fun _ _ e => e) ⟨_, rfl⟩
    rw [← Int.fdiv_eq_ediv_of_nonneg a (Int.le_of_lt hb)] at q
    exact floordiv_int (Int.ne_of_gt hb) q (.inl (PyProof.noPylong_of_log2 (by omega)))
end
end Mine

set_option maxRecDepth 100000
set_option linter.unusedVariables false
namespace Mine
open PySem PySem.W PySem.Calls PyProof.Rows

/-- what stands of the program's own objects -/
structure Wd (K : Frag) (g0 : Heap) (mg mb : Str → Option Value) : Prop where
  kin : K.In g0
  gs : g0.Ns mainGlobals mg
  bs : g0.Ns builtinsNs mb
  blt : ∀ x : Str, x ≠ "__name__" → mb x = bootBuiltins x
  lim : g0.NoLimit

def Stable (X : Addr → Prop) (P : PV) : Prop := ∀ v h h', KeepB X h h' → P v h → P v h'
theorem Stable.i {X n} : Stable X (isI n) := fun _ _ _ _ p => p
theorem Stable.s {X n} : Stable X (isS n) := fun _ _ _ _ p => p
theorem Stable.b {X n} : Stable X (isB n) := fun _ _ _ _ p => p
theorem Stable.y {X n} : Stable X (isY n) := fun _ _ _ _ p => p
theorem Stable.v {X n} : Stable X (isV n) := fun _ _ _ _ p => p
theorem Stable.l {X ds} : Stable X (isL X ds) := fun _ _ _ k p => p.keep k
theorem Stable.li {X ds} : Stable X (isLI X ds) := fun _ _ _ k p => isL.keep p k
theorem Stable.ls {X ds} : Stable X (isLS X ds) := fun _ _ _ k p => isL.keep p k

structure Frm (g0 : Heap) (env : Env) (X Y : Addr → Prop) (ρ : List (Str × PV)) (h : Heap) : Prop where
  base : Keep g0 h
  away : ∀ a, X a → g0.get? a = none
  live : ∀ a, X a → ∃ o, h.get? a = some o
  sub : ∀ a, Y a → X a
  loc : Y env.locals
  cel : ∀ n c, env.cells.lookup n = some c → Y c
  kind : env.scope.kind = .function
  glb : env.globals = mainGlobals
  blt : env.builtins = builtinsNs
  g1 : ∃ o, g0.get? mainGlobals = some o
  g2 : ∃ o, g0.get? builtinsNs = some o
  ns : ∃ m, h.Ns env.locals m
  apart : env.cells.Pairwise fun x y => x.2 ≠ y.2
  cells : ∀ n c, env.cells.lookup n = some c → ∃ u, h.IsCell c u
  vars : ∀ p ∈ ρ, Stable X p.2 ∧ ∃ v, Var env h p.1 v ∧ p.2 v h

section
variable {prog : Program} {w : World} {A : Around} {K : Frag} {g0 h0 h h' : Heap} {mg mb : Str → Option Value} {env : Env} {X Y Y' : Addr → Prop} {ρ ρ' : List (Str × PV)} {x : Str} {v : Value} {P Pv : PV}

/-- what an expression may read: names with what is known of them, the text's own names, the built-in ones -/
structure Fre (g0 : Heap) (env : Env) (ρ : List (Str × PV)) (h : Heap) : Prop where
  base : Keep g0 h
  kind : env.scope.kind = .function
  glb : env.globals = mainGlobals
  blt : env.builtins = builtinsNs
  vars : ∀ p ∈ ρ, (∀ v h h', Keep h h' → p.2 v h → p.2 v h') ∧ ∃ v, Var env h p.1 v ∧ p.2 v h
theorem Frm.e (F : Frm g0 env X Y ρ h) : Fre g0 env ρ h := ⟨F.base, F.kind, F.glb, F.blt, fun p hp => let ⟨st, r⟩ := F.vars p hp; ⟨fun v h h' k q => st v h h' k.b q, r⟩⟩
theorem Fre.keep (F : Fre g0 env ρ h) (k : Keep h h') : Fre g0 env ρ h' := ⟨F.base.trans k, F.kind, F.glb, F.blt, fun p hp => let ⟨m, v, y, q⟩ := F.vars p hp; ⟨m, v, y.keep k, m _ _ _ k q⟩⟩
theorem Fre.var (F : Fre g0 env ρ h) {pos} (m : (x, P) ∈ ρ) : Ev prog w A h (eval (.Name x pos) env) P := by
  obtain ⟨st, v, y, p⟩ := F.vars _ m
  exact ev_Name y fun h' k => st _ _ _ k p
theorem Fre.glob (F : Fre g0 env ρ h) (W : Wd K g0 mg mb) {pos} (e : nsIn K mainGlobals x = some (some v)) (hx : env.kindOf x = some .globalImplicit) (hd : (x == ("__debug__" : Str)) = false) :
    Ev prog w A h (eval (.Name x pos) env) (isV v) :=
  ev_Name (v := v) ⟨F.kind, hd, .inr (.inr (.inr ⟨hx, mg, mb, F.glb ▸ W.gs.keeps F.base, F.blt ▸ W.bs.keeps F.base, .inl (mg_of W.kin W.gs e)⟩))⟩ fun _ _ => rfl
theorem Fre.blti (F : Fre g0 env ρ h) (W : Wd K g0 mg mb) {pos} (e : nsIn K mainGlobals x = some none) (hb : bootBuiltins x = some v) (hn : x ≠ "__name__") (hx : env.kindOf x = some .globalImplicit)
    (hd : (x == ("__debug__" : Str)) = false) : Ev prog w A h (eval (.Name x pos) env) (isV v) :=
  ev_Name (v := v) ⟨F.kind, hd, .inr (.inr (.inr ⟨hx, mg, mb, F.glb ▸ W.gs.keeps F.base, F.blt ▸ W.bs.keeps F.base, .inr ⟨mg_none_of W.kin W.gs e, (W.blt x hn).trans hb⟩⟩))⟩ fun _ _ => rfl

theorem Frm.keep (F : Frm g0 env X Y ρ h) (k : Keep h h') : Frm g0 env X Y ρ h' where
  base := F.base.trans k
  away := F.away
  live := fun a q => let ⟨o, e⟩ := F.live a q; ⟨o, k a o e⟩
  sub := F.sub
  loc := F.loc
  cel := F.cel
  kind := F.kind
  glb := F.glb
  blt := F.blt
  g1 := F.g1
  g2 := F.g2
  ns := let ⟨m, q⟩ := F.ns; ⟨m, q.keeps k⟩
  apart := F.apart
  cells := fun n c e => let ⟨u, q⟩ := F.cells n c e; ⟨u, q.keeps k⟩
  vars := fun p hp => let ⟨st, v, y, q⟩ := F.vars p hp; ⟨st, v, y.keep k, st _ _ _ k.b q⟩
theorem Frm.less (F : Frm g0 env X Y ρ h) (hs : ∀ p ∈ ρ', p ∈ ρ) : Frm g0 env X Y ρ' h := { F with vars := fun p hp => F.vars p (hs p hp) }
theorem Frm.more (F : Frm g0 env X Y ρ h) (hs : ∀ p ∈ ρ', p ∈ ρ ∨ (∃ P', (p.1, P') ∈ ρ ∧ Stable X p.2 ∧ ∀ v, P' v h → p.2 v h)) : Frm g0 env X Y ρ' h :=
  { F with vars := (fun p hp => (hs p hp).elim (fun q => F.vars p q) fun ⟨P', q, st, i⟩ => let ⟨_, v, y, z⟩ := F.vars _ q; ⟨st, v, y, i v z⟩) }

theorem Frm.newAway (F : Frm g0 env X Y ρ h) {a : Addr} (e : h.get? a = none) : ¬ X a := fun q => by obtain ⟨o, z⟩ := F.live a q; rw [e] at z; cases z

abbrev Live (h h' : Heap) : Prop := ∀ a o, h.get? a = some o → ∃ o', h'.get? a = some o'
theorem Live.trans {a b c : Heap} (x : Live a b) (y : Live b c) : Live a c := fun i o e => let ⟨_, q⟩ := x i o e; y i _ q
theorem Keep.live {a b : Heap} (x : Keep a b) : Live a b := fun i o e => ⟨o, x i o e⟩
/-- all objects but one stand -/
abbrev But (a : Addr) (h h' : Heap) : Prop := ∀ b o, b ≠ a → h.get? b = some o → h'.get? b = some o
theorem live_same {a : Addr} {h h' : Heap} (hs : But a h h') (ha : ∃ o, h'.get? a = some o) : Live h h' := fun i o e => by
  by_cases q : i = a
  · subst q; exact ha
  · exact ⟨o, hs i o q e⟩

theorem var_of_local (hk : env.scope.kind = .function) (hd : (x == ("__debug__" : Str)) = false) (hl : env.kindOf x = some .local) {m} (hn : h.Ns env.locals m) (hv : m x = some v) : Var env h x v := ⟨hk, hd, .inl ⟨hl, m, hn, hv⟩⟩
theorem var_of_cell (hk : env.scope.kind = .function) (hd : (x == ("__debug__" : Str)) = false) (hl : env.kindOf x = some .cell) {c} (hc : env.cells.lookup x = some c) (hv : h.IsCell c (some v)) : Var env h x v := ⟨hk, hd, .inr (.inl ⟨hl, c, hc, hv⟩)⟩

theorem Heap.IsCell.notNs {c : Addr} {u : Option Value} {a : Addr} {m} (y : h.IsCell c u) (n : h.Ns a m) : c ≠ a := fun e => by
  obtain ⟨o, e1, e2⟩ := y
  obtain ⟨o', es, ep, e3, e4, _⟩ := n
  rw [e, e3] at e1; cases e1
  rw [e4] at e2; cases e2
/-- what a change of one address of X leaves of a name that is stored elsewhere -/
theorem Frm.varSame (F : Frm g0 env X Y ρ h) {a : Addr} (ha : X a) (hs : But a h h') (y : Var env h x v) (hl : env.kindOf x = some .local → env.locals ≠ a)
    (hc : env.kindOf x = some .cell ∨ env.kindOf x = some .free → ∀ c, env.cells.lookup x = some c → c ≠ a) : Var env h' x v := by
  have ne : ∀ {b : Addr}, (∃ o, g0.get? b = some o) → b ≠ a := fun ⟨o, e⟩ q => by rw [q, F.away _ ha] at e; cases e
  have nsK : ∀ {b : Addr} {mm : Str → Option Value}, b ≠ a → h.Ns b mm → h'.Ns b mm := fun n y => y.at' fun o e => hs _ o n e
  have cellB : ∀ {c u}, h.IsCell c u → c ≠ a → h'.IsCell c u := fun ⟨o, e, d⟩ n => ⟨o, hs _ o n e, d⟩
  obtain ⟨p, q, c⟩ := y
  refine ⟨p, q, ?_⟩
  rcases c with ⟨c1, m', c2, c3⟩ | ⟨c1, c, c2, c3⟩ | ⟨c1, c1', c, c2, c3⟩ | ⟨c1, mg', mb', c2, c3, c4⟩
  · exact .inl ⟨c1, m', nsK (hl c1) c2, c3⟩
  · exact .inr (.inl ⟨c1, c, c2, cellB c3 (hc (.inl c1) c c2)⟩)
  · exact .inr (.inr (.inl ⟨c1, c1', c, c2, cellB c3 (hc (.inr c1) c c2)⟩))
  · exact .inr (.inr (.inr ⟨c1, mg', mb', nsK (F.glb ▸ ne F.g1) c2, nsK (F.blt ▸ ne F.g2) c3, c4⟩))
theorem KeepB.ofSame {a : Addr} (ha : X a) (hs : But a h h') : KeepB X h h' := fun b o n e => hs b o (fun q => n (q ▸ ha)) e
theorem Frm.baseSame (F : Frm g0 env X Y ρ h) {a : Addr} (ha : X a) (hs : But a h h') : Keep g0 h' := fun b o e => hs b o (fun q => by rw [q, F.away _ ha] at e; cases e) (F.base b o e)

/-- storing into a local name -/
theorem Frm.setLocal (F : Frm g0 env X Y ρ h) (hk : env.kindOf x = some .local) (hd : (x == ("__debug__" : Str)) = false) {m} (hn : h.Ns env.locals m) (hn' : h'.Ns env.locals fun y => if y = x then some v else m y)
    (hs : But env.locals h h') (st : Stable X P) (p : P v h') (hr : ∀ q ∈ ρ', q = (x, P) ∨ (q ∈ ρ ∧ q.1 ≠ x)) : Frm g0 env X Y ρ' h' where
  base := F.baseSame (F.sub _ F.loc) hs
  away := F.away
  live := fun a q => let ⟨o, e⟩ := F.live a q; live_same hs (let ⟨o, _, _, e, _⟩ := hn'; ⟨o, e⟩) a o e
  sub := F.sub
  loc := F.loc
  cel := F.cel
  kind := F.kind
  glb := F.glb
  blt := F.blt
  g1 := F.g1
  g2 := F.g2
  ns := ⟨_, hn'⟩
  apart := F.apart
  cells := fun n c e => let ⟨u, q⟩ := F.cells n c e; ⟨u, let ⟨o, e1, e2⟩ := q; ⟨o, hs _ o (Heap.IsCell.notNs q hn) e1, e2⟩⟩
  vars := fun q hq => by
    rcases hr q hq with rfl | ⟨hm, hne⟩
    · exact ⟨st, v, var_of_local F.kind hd hk hn' (if_pos rfl), p⟩
    · obtain ⟨st', u, y, z⟩ := F.vars q hm
      refine ⟨st', u, ?_, st' _ _ _ (KeepB.ofSame (F.sub _ F.loc) hs) z⟩
      obtain ⟨a, b, c⟩ := id y
      rcases c with ⟨c1, m', c2, c3⟩ | c
      · obtain ⟨o, es, ep, e1, e2, e3, e4⟩ := c2
        obtain ⟨o', es', ep', f1, f2, f3, f4⟩ := hn
        rw [e1] at f1; cases f1
        rw [e2] at f2; cases f2
        exact ⟨a, b, .inl ⟨c1, _, hn', by rw [if_neg hne, ← f4, e4]; exact c3⟩⟩
      · have hnl : env.kindOf q.1 ≠ some .local := fun e => by rcases c with ⟨c1, _⟩ | ⟨c1, _⟩ | ⟨c1, _⟩ <;> rw [e] at c1 <;> cases c1
        refine F.varSame (F.sub _ F.loc) hs y (fun e => absurd e hnl) fun hkd d hd' => ?_
        rcases c with ⟨c1, e, c2, c3⟩ | ⟨c1, c1', e, c2, c3⟩ | ⟨c1, mg', mb', _⟩
        · rw [hd'] at c2; cases c2; exact Heap.IsCell.notNs c3 hn
        · rw [hd'] at c2; cases c2; exact Heap.IsCell.notNs c3 hn
        · rw [c1] at hkd; rcases hkd with e | e <;> cases e
/-- storing into a name that is a cell -/
theorem Frm.setCell (F : Frm g0 env X Y ρ h) (hk : env.kindOf x = some .cell) (hd : (x == ("__debug__" : Str)) = false) {c : Addr} (hc : env.cells.lookup x = some c) {u} (hu : h.IsCell c u) (hv : h'.IsCell c (some v))
    (hs : But c h h') (st : Stable X P) (p : P v h') (hr : ∀ q ∈ ρ', q = (x, P) ∨ (q ∈ ρ ∧ q.1 ≠ x)) : Frm g0 env X Y ρ' h' where
  base := F.baseSame (F.sub _ (F.cel _ _ hc)) hs
  away := F.away
  live := fun a q => let ⟨o, e⟩ := F.live a q; live_same hs (let ⟨o, e, _⟩ := hv; ⟨o, e⟩) a o e
  sub := F.sub
  loc := F.loc
  cel := F.cel
  kind := F.kind
  glb := F.glb
  blt := F.blt
  g1 := F.g1
  g2 := F.g2
  ns := let ⟨m, hn⟩ := F.ns; ⟨m, hn.at' fun o e => hs _ o (Heap.IsCell.notNs hu hn).symm e⟩
  apart := F.apart
  cells := fun n d e => by
    by_cases hcd : d = c
    · exact ⟨_, hcd ▸ hv⟩
    · obtain ⟨u', o, e1, e2⟩ := F.cells n d e
      exact ⟨u', o, hs _ o hcd e1, e2⟩
  vars := fun q hq => by
    rcases hr q hq with rfl | ⟨hm, hne⟩
    · exact ⟨st, v, var_of_cell F.kind hd hk hc hv, p⟩
    · obtain ⟨st', u', y, z⟩ := F.vars q hm
      refine ⟨st', u', ?_, st' _ _ _ (KeepB.ofSame (F.sub _ (F.cel _ _ hc)) hs) z⟩
      obtain ⟨m, hn⟩ := F.ns
      exact F.varSame (F.sub _ (F.cel _ _ hc)) hs y (fun _ => (Heap.IsCell.notNs hu hn).symm) fun _ d hd' e => hne (name_of_addr F.apart (mem_of_lookup hd') (e ▸ mem_of_lookup hc))
/-- a change of addresses of X that hold no name of the frame's -/
theorem Frm.mut (F : Frm g0 env X Y ρ h) {Z : Addr → Prop} (hY : ∀ a, Z a → X a) (hl : ¬ Z env.locals) (hc : ∀ n c, env.cells.lookup n = some c → ¬ Z c) (k : KeepB Z h h') (lv : Live h h') : Frm g0 env X Y ρ h' where
  base := fun b o e => k b o (fun q => by rw [F.away _ (hY _ q)] at e; cases e) (F.base b o e)
  away := F.away
  live := fun a q => let ⟨o, e⟩ := F.live a q; lv a o e
  sub := F.sub
  loc := F.loc
  cel := F.cel
  kind := F.kind
  glb := F.glb
  blt := F.blt
  g1 := F.g1
  g2 := F.g2
  ns := let ⟨m, hn⟩ := F.ns; ⟨m, hn.at' fun o e => k _ o hl e⟩
  apart := F.apart
  cells := fun n c e => let ⟨u, o, e1, e2⟩ := F.cells n c e; ⟨u, o, k _ o (hc n c e) e1, e2⟩
  vars := fun q hq => by
    obtain ⟨st, u, ⟨a, b, c⟩, z⟩ := F.vars q hq
    refine ⟨st, u, ⟨a, b, ?_⟩, st _ _ _ (fun b o n e => k b o (fun y => n (hY _ y)) e) z⟩
    have cellK : ∀ {x c u}, env.cells.lookup x = some c → h.IsCell c u → h'.IsCell c u := fun hx ⟨o, e, d⟩ => ⟨o, k _ o (hc _ _ hx) e, d⟩
    have gl : ∀ {b : Addr} {mm : Str → Option Value}, (∃ o, g0.get? b = some o) → h.Ns b mm → h'.Ns b mm := fun ⟨o, e⟩ y => y.at' fun o' e' => k _ o' (fun q => by rw [F.away _ (hY _ q)] at e; cases e) e'
    rcases c with ⟨c1, m', c2, c3⟩ | ⟨c1, c, c2, c3⟩ | ⟨c1, c1', c, c2, c3⟩ | ⟨c1, mg', mb', c2, c3, c4⟩
    · exact .inl ⟨c1, m', c2.at' fun o e => k _ o hl e, c3⟩
    · exact .inr (.inl ⟨c1, c, c2, cellK c2 c3⟩)
    · exact .inr (.inr (.inl ⟨c1, c1', c, c2, cellK c2 c3⟩))
    · exact .inr (.inr (.inr ⟨c1, mg', mb', gl (F.glb ▸ F.g1) c2, gl (F.blt ▸ F.g2) c3, c4⟩))

/-- the cell of a name, if it has one -/
def CellOf (env : Env) (h : Heap) (x : Str) : Prop := ∃ c u, env.cells.lookup x = some c ∧ h.IsCell c u
/-- a name that may be stored into -/
abbrev Loc (env : Env) (x : Str) : Prop := env.kindOf x = some .local ∨ (env.kindOf x = some .cell ∧ (env.cells.lookup x).isSome = true)
theorem Frm.loc' (F : Frm g0 env X Y ρ h) (hk : Loc env x) : env.kindOf x = some .local ∨ (env.kindOf x = some .cell ∧ CellOf env h x) := hk.imp id fun ⟨a, b⟩ => ⟨a, by
  obtain ⟨c, e⟩ := Option.isSome_iff_exists.mp b
  obtain ⟨u, q⟩ := F.cells _ _ e
  exact ⟨c, u, e, q⟩⟩

theorem store_gen {s : Shared} {Q : Unit → Shared → Prop} {E : Value → Shared → Prop} (F : Frm g0 env X Y ρ h0) (k : Keep h0 s.heap) (hd : (x == ("__debug__" : Str)) = false)
    (hk : Loc env x) (st : Stable X P) (hr : ∀ q ∈ ρ', q = (x, P) ∨ (q ∈ ρ ∧ q.1 ≠ x))
    (hQ : ∀ h' tk a, Y a → (∃ o, h0.get? a = some o) → (∃ o, h'.get? a = some o) → But a s.heap h' → (∀ h'', But a h0 h'' → h''.get? a = h'.get? a → P v h'' → Frm g0 env X Y ρ' h'') → Q () { s with heap := h', toks := tk }) : wpAny (model prog w) A (storeName env x v) Q E s := by
  rcases F.loc' hk with hk | ⟨hk, c, u, hc, hu⟩
  · obtain ⟨m, hn⟩ := F.ns
    refine wpAny_storeName_local hk (hn.keeps k) (fun h' hn' hs => ?_) (by rw [F.kind]; rfl)
    exact hQ h' _ env.locals F.loc (let ⟨o, _, _, e, _⟩ := hn; ⟨o, e⟩) (let ⟨o, _, _, e, _⟩ := hn'; ⟨o, e⟩) hs.extBut fun h'' hb he p => F.setLocal hk hd hn (hn'.at' fun o e => he.trans e) hb st p hr
  · refine wpAny_storeName_cell F.kind hk hc (hu.keeps k) fun h' hv hs => ?_
    exact hQ h' s.toks c (F.cel _ _ hc) (let ⟨o, e, _⟩ := hu; ⟨o, e⟩) (let ⟨o, e, _⟩ := hv; ⟨o, e⟩) hs.extBut fun h'' hb he p => F.setCell hk hd hc hu (let ⟨o, e, d⟩ := hv; ⟨o, he.trans e, d⟩) hb st p hr
theorem store_any {s : Shared} {Q : Unit → Shared → Prop} {E : Value → Shared → Prop} (F : Frm g0 env X Y ρ s.heap) (hd : (x == ("__debug__" : Str)) = false)
    (hk : Loc env x) (st : Stable X P) (p : P v s.heap) (hr : ∀ q ∈ ρ', q = (x, P) ∨ (q ∈ ρ ∧ q.1 ≠ x))
    (hQ : ∀ h' tk, KeepB Y s.heap h' → Live s.heap h' → Frm g0 env X Y ρ' h' → Q () { s with heap := h', toks := tk }) : wpAny (model prog w) A (storeName env x v) Q E s :=
  store_gen F (fun _ _ e => e) hd hk st hr fun h' tk a ha _ la hb rb => hQ h' tk (KeepB.ofSame ha hb) (live_same hb la) (rb h' hb rfl (st _ _ _ (KeepB.ofSame (F.sub _ ha) hb) p))

/-- a run of statements from a heap: ends without an exception, all stays but X -/
def Ex (prog : Program) (w : World) (A : Around) (Y : Addr → Prop) (h : Heap) (t : Sem Flow) (P : Flow → Heap → Prop) : Prop :=
  ∀ (s : Shared) (Q : Flow → Shared → Prop) (E : Value → Shared → Prop), s.heap = h → (∀ fl h' tk, KeepB Y h h' → Live h h' → P fl h' → Q fl { s with heap := h', toks := tk }) → wpAny (model prog w) A t Q E s

theorem ex_nil {P : Flow → Heap → Prop} (p : P .next h) : Ex prog w A Y h (execs [] env) P := fun s Q E e q => by
  subst e; exact wpAny_execs_nil (q _ s.heap s.toks (fun _ _ _ e => e) (fun _ o e => ⟨o, e⟩) p)
theorem Ex.mono {t : Sem Flow} {P P' : Flow → Heap → Prop} (x : Ex prog w A Y h t P) (hP : ∀ fl h', KeepB Y h h' → P fl h' → P' fl h') : Ex prog w A Y h t P' :=
  fun s Q E e q => x s Q E e fun fl h' tk k l p => q fl h' tk k l (hP fl h' k p)
/-- first one statement, then the rest -/
theorem ex_seq {st : Stmt} {rest : List Stmt} {P P' : Flow → Heap → Prop} (x : Ex prog w A Y h (exec st env) P)
    (n : ∀ h', KeepB Y h h' → Live h h' → P .next h' → Ex prog w A Y h' (execs rest env) P') (o : ∀ fl h', KeepB Y h h' → fl ≠ .next → P fl h' → P' fl h') : Ex prog w A Y h (execs (st :: rest) env) P' := fun s Q E e q => by
  refine wpAny_execs_cons (x s _ E e fun fl h' tk k l p => ?_)
  cases fl with
  | next => exact n h' k l p ⟨h', s.gens, s.drawn, tk, s.os⟩ Q E rfl fun fl h'' tk' k' l' p' => q fl h'' tk' (k.trans k') (l.trans l') p'
  | _ => exact q _ h' tk k l (o _ h' k (by simp) p)
theorem KeepB.wide (hY : ∀ a, Y a → Y' a) (k : KeepB Y h h') : KeepB Y' h h' := fun b o n e => k b o (fun q => n (hY _ q)) e
theorem Ex.wide {t : Sem Flow} {P : Flow → Heap → Prop} (x : Ex prog w A Y h t P) (hY : ∀ a, Y a → Y' a) : Ex prog w A Y' h t P := fun s Q E e q => x s Q E e fun fl h' tk k l p => q fl h' tk (k.wide hY) l p
theorem ex_assign {px pos : Pos} {e : Expr} {rest : List Stmt} {P' : Flow → Heap → Prop} (F : Frm g0 env X Y ρ h) (he : Ev prog w A h (eval e env) P) (st : Stable X P) (ρ' : List (Str × PV))
    (n : ∀ h', KeepB Y h h' → Frm g0 env X Y ρ' h' → Ex prog w A Y' h' (execs rest env) P')
    (hk : Loc env x) (hd : (x == ("__debug__" : Str)) = false) (hr : ∀ q ∈ ρ', q = (x, P) ∨ (q ∈ ρ ∧ q.1 ≠ x))
    (hsw : swapsWith e (some (.Name x px)) pos.line env = pure false) (hY : ∀ a, Y a → Y' a := by exact fun _ q => q) : Ex prog w A Y' h (execs (.Assign [.Name x px] e pos :: rest) env) P' := fun s Q E eq q => by
  subst eq
  refine wpAny_execs_cons (wpAny_Assign_Name (he.use fun v h₁ tk k p => ?_) hsw)
  have F₁ := F.keep k
  refine store_any (s := ⟨h₁, s.gens, s.drawn, tk, s.os⟩) F₁ hd hk st p hr fun h₂ tk₂ k₂ l₂ F₂ => ?_
  exact n h₂ (k.b.trans k₂) F₂ ⟨h₂, s.gens, s.drawn, tk₂, s.os⟩ Q E rfl fun fl h₃ tk₃ k₃ l₃ p₃ => q fl h₃ tk₃ (((k.b.trans k₂).wide hY).trans k₃) ((k.live.trans l₂).trans l₃) p₃
theorem ex_return {pos : Pos} {e : Expr} {rest : List Stmt} {P' : Flow → Heap → Prop} (he : Ev prog w A h (eval e env) P) (p : ∀ v h', Keep h h' → P v h' → P' (.ret v) h') :
    Ex prog w A Y h (execs (.Return (some e) pos :: rest) env) P' := fun s Q E eq q => by
  subst eq
  exact wpAny_execs_cons (wpAny_Return_some (he.use fun v h₁ tk k z => q _ h₁ tk k.b k.live (p v h₁ k z)))
theorem ex_if {test : Expr} {body orelse rest : List Stmt} {pos : Pos} {b : Bool} {P' : Flow → Heap → Prop} (he : Ev prog w A h (isTrue test env (eval test env)) (fun c _ => c = b))
    (n : ∀ h', Keep h h' → Ex prog w A Y h' (execs (if b then body else orelse) env) (fun fl h'' => match fl with | .next => Ex prog w A Y h'' (execs rest env) P' | f => P' f h'')) :
    Ex prog w A Y h (execs (.If test body orelse pos :: rest) env) P' := fun s Q E eq q => by
  subst eq
  refine wpAny_execs_cons (wpAny_If (he.use fun c h₁ tk k z => ?_))
  subst z
  have := n h₁ k ⟨h₁, s.gens, s.drawn, tk, s.os⟩ (fun f s' => match f with | .next => wpAny (model prog w) A (execs rest env) Q E s' | f => Q f s') E rfl fun fl h₂ tk₂ k₂ l₂ p₂ => by
    cases fl with
    | next => exact p₂ ⟨h₂, s.gens, s.drawn, tk₂, s.os⟩ Q E rfl fun fl h₃ tk₃ k₃ l₃ p₃ => q fl h₃ tk₃ ((k.b.trans k₂).trans k₃) ((k.live.trans l₂).trans l₃) p₃
    | _ => exact q _ h₂ tk₂ (k.b.trans k₂) (k.live.trans l₂) p₂
  cases c <;> exact this
/-- an if whose test is false and that has no else -/
theorem ex_skip {test : Expr} {body rest : List Stmt} {pos : Pos} {P' : Flow → Heap → Prop} (he : Ev prog w A h (isTrue test env (eval test env)) (fun c _ => c = false))
    (n : ∀ h', Keep h h' → Ex prog w A Y h' (execs rest env) P') : Ex prog w A Y h (execs (.If test body [] pos :: rest) env) P' :=
  ex_if he fun h' k => ex_nil (n h' k)
end
end Mine

set_option maxRecDepth 100000
set_option linter.unusedVariables false
namespace Mine
open PySem PySem.W PySem.Calls PyProof.Rows

theorem bindL_in {kindOf : Str → Option NameKind} : ∀ {binds : List (Str × Value)} {m : Str → Option Value}, (binds.map (·.1)).Nodup → ∀ {n v}, (n, v) ∈ binds → kindOf n = some .local → bindL kindOf binds m n = some v
  | (n', v') :: r, m, hnd, n, v, hm, hk => by
    rw [List.map_cons, List.nodup_cons] at hnd
    unfold bindL
    have stay : ∀ {r : List (Str × Value)} {m : Str → Option Value}, n ∉ r.map (·.1) → bindL kindOf r m n = m n := by
      intro r
      induction r with
      | nil => intro m _; rfl
      | cons p r ih =>
        intro m hn
        rw [List.map_cons, List.mem_cons, not_or] at hn
        unfold bindL
        rw [ih hn.2]
        split
        · exact if_neg hn.1
        · rfl
    rcases List.mem_cons.mp hm with e | hm
    · cases e
      rw [stay hnd.1, if_pos hk]; exact if_pos rfl
    · exact bindL_in hnd.2 hm hk
theorem bindC_in {kindOf : Str → Option NameKind} : ∀ {binds : List (Str × Value)} {m : Str → Option Value}, (binds.map (·.1)).Nodup → ∀ {n v}, (n, v) ∈ binds → kindOf n = some .cell → bindC kindOf binds m n = some v
  | (n', v') :: r, m, hnd, n, v, hm, hk => by
    rw [List.map_cons, List.nodup_cons] at hnd
    unfold bindC
    have stay : ∀ {r : List (Str × Value)} {m : Str → Option Value}, n ∉ r.map (·.1) → bindC kindOf r m n = m n := by
      intro r
      induction r with
      | nil => intro m _; rfl
      | cons p r ih =>
        intro m hn
        rw [List.map_cons, List.mem_cons, not_or] at hn
        unfold bindC
        rw [ih hn.2]
        split
        · rfl
        · exact if_neg hn.1
    rcases List.mem_cons.mp hm with e | hm
    · cases e
      rw [stay hnd.1, if_neg (by rw [hk]; simp)]; exact if_pos rfl
    · exact bindC_in hnd.2 hm hk

abbrev Own (env : Env) : Addr → Prop := fun a => a = env.locals ∨ ∃ n, env.cells.lookup n = some a
abbrev Xin (X : Addr → Prop) (env : Env) : Addr → Prop := fun a => X a ∨ Own env a

section
variable {prog : Program} {w : World} {A : Around} {K : Frag} {g0 h0 h h' : Heap} {mg mb : Str → Option Value} {X Y : Addr → Prop} {P : PV}

theorem Wd.e1 (W : Wd K g0 mg mb) : ∃ o, g0.get? mainGlobals = some o := let ⟨o, _, _, e, _⟩ := W.gs; ⟨o, e⟩
theorem Wd.e2 (W : Wd K g0 mg mb) : ∃ o, g0.get? builtinsNs = some o := let ⟨o, _, _, e, _⟩ := W.bs; ⟨o, e⟩

/-- the outer facts of a call -/
structure Out (g0 : Heap) (X : Addr → Prop) (h : Heap) : Prop where
  base : Keep g0 h
  away : ∀ a, X a → g0.get? a = none
  live : ∀ a, X a → ∃ o, h.get? a = some o
theorem Frm.out {env : Env} {ρ : List (Str × PV)} (F : Frm g0 env X Y ρ h) : Out g0 X h := ⟨F.base, F.away, F.live⟩
theorem Out.keep (O : Out g0 X h) (k : Keep h h') : Out g0 X h' := ⟨O.base.trans k, O.away, fun a q => let ⟨o, e⟩ := O.live a q; ⟨o, k a o e⟩⟩

theorem isL.widen {X' : Addr → Prop} {ds : List S} {v : Value} (p : isL X ds v h) (hf : ∀ a, X' a → ¬ X a → h.get? a = none) : isL X' ds v h := by
  obtain ⟨l, vs, e, n, hl, z⟩ := p
  refine ⟨l, vs, e, fun q => ?_, hl, z⟩
  obtain ⟨o, ho, _⟩ := hl
  rw [hf l q n] at ho; cases ho
theorem isL.narrow {X' : Addr → Prop} {ds : List S} {v : Value} (p : isL X' ds v h) (hs : ∀ a, X a → X' a) : isL X ds v h := by
  obtain ⟨l, vs, e, n, hl, z⟩ := p
  exact ⟨l, vs, e, fun q => n (hs l q), hl, z⟩
/-- what a parameter's entry has to be -/
abbrev ParOk (h0 : Heap) (X' : Addr → Prop) (binds : List (Str × Value)) (q : Str × PV) : Prop := Stable X' q.2 ∧ ∃ v, (q.1, v) ∈ binds ∧ ∀ h, Keep h0 h → q.2 v h
/-- a call of one of the text's own defs -/
theorem ev_call {ρ : (Addr → Prop) → List (Str × PV)} (W : Wd K g0 mg mb) (O : Out g0 X h0) {f : Addr} {fd : FuncData} {oc : Value} {od : Option Addr} {osl : Array (Option Value)} {body : List Stmt} {args : Args} {binds : List (Str × Value)}
    (hK : K.lookup f = some ⟨oc, od, .func fd, osl⟩) (hbody : fd.body = .stmts body) (hclo : fd.closure = []) (hglb : fd.globals = mainGlobals) (hblt : fd.builtins = builtinsNs)
    (hcd : codeIn K fd.code fd.qualname = true) (hroom : A.depth < recursionLimit) (hbind : ∀ s : Shared, Keep h0 s.heap → BindsTo s fd args binds)
    (hkind : (binds.all fun y => fd.scope.names.lookup y.1 == some .local || fd.scope.names.lookup y.1 == some .cell) = true) (hnd : (binds.map (·.1)).Nodup) (hdbg : (binds.all fun y => y.1 != ("__debug__" : Str)) = true)
    (hcn : ((cellsFrom 0 fd.scope.names []).map (·.1)).Nodup)
    (hρ : ∀ X' : Addr → Prop, (∀ a, X a → X' a) → (∀ a, X' a → ¬ X a → h0.get? a = none) → ∀ q ∈ ρ X', ParOk h0 X' binds q)
    (hrun : ∀ L h₁, Keep h0 h₁ → Frm g0 (callEnvC fd L f) (Xin X (callEnvC fd L f)) (Own (callEnvC fd L f)) (ρ (Xin X (callEnvC fd L f))) h₁ → (∀ n, ((callEnvC fd L f).cells.lookup n).isSome = true → CellOf (callEnvC fd L f) h₁ n) →
      (∀ a, Xin X (callEnvC fd L f) a → ¬ X a → h0.get? a = none) →
      Ex prog w (A.deeper (callEnvC fd L f)) (Own (callEnvC fd L f)) h₁ (execs body (callEnvC fd L f)) fun fl h' => P (match fl with | .ret v => v | _ => .none) h')
    (hco : fd.scope.isCoroutine = false) (hgen : fd.scope.isGenerator = false) (hk : fd.scope.kind = .function) :
    Ev prog w A h0 (call (.ref f) args.pos args.kw) P := fun s Q E k q => by
  have O' := O.keep k
  refine wpAny_call (codeAny_call_function hroom (W.kin.keeps O'.base _ _ hK) rfl hco hgen hbody (codeRec_of (W.kin.keeps O'.base) hcd) (hbind s k _ _ _ _ ?_))
  rw [hclo]
  refine wpAny_newFunctionEnv_cells hk (kindsX hkind _) fun env' he s' x => ?_
  subst he
  obtain ⟨h₁, tk, rfl, hk₁⟩ := x.done
  refine ⟨(W.lim.keeps O'.base).keeps hk₁, codeAny_func ?_⟩
  show wpAny (model prog w) (A.deeper (callEnvC fd s.heap.objs.size f)) (execs body (callEnvC fd s.heap.objs.size f)) _ _ _
  have fresh : ∀ a, Xin X (callEnvC fd s.heap.objs.size f) a → ¬ X a → s.heap.get? a = none := by
    rintro a (q | q | ⟨n, q⟩) hn
    · exact absurd q hn
    · subst q; exact Heap.get?_none_of_le (Nat.le_refl _)
    · exact Heap.get?_none_of_le (Nat.le_of_lt (x.above n a (mem_of_lookup q)))
  have fresh0 : ∀ a, Xin X (callEnvC fd s.heap.objs.size f) a → ¬ X a → h0.get? a = none := fun a q hn => by
    cases e : h0.get? a with
    | none => rfl
    | some o => have := fresh a q hn; rw [k a o e] at this; cases this
  have cells : ∀ n, ((callEnvC fd s.heap.objs.size f).cells.lookup n).isSome = true → CellOf (callEnvC fd s.heap.objs.size f) h₁ n := fun n hn => by
    obtain ⟨c, hc⟩ := Option.isSome_iff_exists.mp hn
    exact ⟨c, _, hc, x.cell n c hc⟩
  have F : Frm g0 (callEnvC fd s.heap.objs.size f) (Xin X (callEnvC fd s.heap.objs.size f)) (Own (callEnvC fd s.heap.objs.size f)) (ρ (Xin X (callEnvC fd s.heap.objs.size f))) h₁ := {
    base := O'.base.trans hk₁
    away := fun a q => by
      rcases Classical.em (X a) with hx | hx
      · exact O.away a hx
      · cases e : g0.get? a with
        | none => rfl
        | some o => have := fresh a q hx; rw [O'.base a o e] at this; cases this
    live := by
      rintro a (q | q | ⟨n, q⟩)
      · obtain ⟨o, e⟩ := O'.live a q; exact ⟨o, hk₁ a o e⟩
      · subst q; obtain ⟨o, _, _, e, _⟩ := x.toInCall.ns; exact ⟨o, e⟩
      · obtain ⟨o, e, _⟩ := x.cell n a q; exact ⟨o, e⟩
    sub := fun a q => .inr q
    loc := .inl rfl
    cel := fun n c hc => .inr ⟨n, hc⟩
    kind := hk
    glb := hglb
    blt := hblt
    g1 := W.e1
    g2 := W.e2
    ns := ⟨_, x.toInCall.ns⟩
    apart := x.apart
    cells := fun n c hc => ⟨_, x.cell n c hc⟩
    vars := fun q hq => by
      obtain ⟨st, v, hm, hp⟩ := hρ _ (fun a z => .inl z) fresh0 q hq
      refine ⟨st, v, ?_, hp h₁ (k.trans hk₁)⟩
      have hd : (q.1 == ("__debug__" : Str)) = false := by
        have := List.all_eq_true.mp hdbg _ hm
        simpa [bne] using this
      rcases (kindsX hkind (s.heap.objs.size + 1)) _ hm with hl | ⟨hl, hs⟩
      · exact var_of_local hk hd hl x.toInCall.ns (bindL_in hnd hm hl)
      · obtain ⟨c, hc⟩ := Option.isSome_iff_exists.mp hs
        refine var_of_cell hk hd hl hc ?_
        have := x.cell q.1 c hc
        rw [bindC_in hnd hm hl] at this
        exact this }
  refine hrun s.heap.objs.size h₁ (k.trans hk₁) F cells fresh0 ⟨h₁, s.gens, s.drawn, tk, s.os⟩ _ _ rfl fun fl h₂ tk₂ k₂ l₂ p₂ => ?_
  refine q _ h₂ tk₂ (fun b o e => ?_) p₂
  refine k₂ b o (fun hx => ?_) (hk₁ b o e)
  have : s.heap.get? b = none := by
    rcases hx with hx | ⟨n, hx⟩
    · subst hx; exact Heap.get?_none_of_le (Nat.le_refl _)
    · exact Heap.get?_none_of_le (Nat.le_of_lt (x.above n b (mem_of_lookup hx)))
  rw [e] at this; cases this

def nodupB : List Str → Bool
  | [] => true
  | x :: r => !r.contains x && nodupB r
theorem nodupB_of : ∀ {l : List Str}, nodupB l = true → l.Nodup
  | [], _ => List.nodup_nil
  | x :: r, h => by
    unfold nodupB at h
    rw [Bool.and_eq_true] at h
    refine List.nodup_cons.mpr ⟨fun hm => ?_, nodupB_of h.2⟩
    have := h.1
    rw [List.contains_iff_mem.mpr hm] at this
    cases this
def callOk (K : Frag) (fd : FuncData) (ns : List Str) : Bool :=
  codeIn K fd.code fd.qualname && ns.all (fun y => fd.scope.names.lookup y == some .local || fd.scope.names.lookup y == some .cell) && nodupB ns && ns.all (fun y => y != ("__debug__" : Str)) &&
  nodupB ((cellsFrom 0 fd.scope.names []).map (·.1)) && !fd.scope.isCoroutine && !fd.scope.isGenerator && (fd.scope.kind == .function) && (fd.globals == mainGlobals) && (fd.builtins == builtinsNs) && fd.closure.isEmpty
/-- a call of one of the text's own defs, its plain conditions by computation -/
theorem ev_callK {ρ : (Addr → Prop) → List (Str × PV)} (W : Wd K g0 mg mb) (O : Out g0 X h0) {f : Addr} {fd : FuncData} {oc : Value} {od : Option Addr} {osl : Array (Option Value)} {body : List Stmt} {args : Args} {binds : List (Str × Value)}
    (hK : K.lookup f = some ⟨oc, od, .func fd, osl⟩) (hbody : fd.body = .stmts body) (hok : callOk K fd (binds.map (·.1)) = true) (hroom : A.depth < recursionLimit) (hbind : ∀ s : Shared, Keep h0 s.heap → BindsTo s fd args binds)
    (hρ : ∀ X' : Addr → Prop, (∀ a, X a → X' a) → (∀ a, X' a → ¬ X a → h0.get? a = none) → ∀ q ∈ ρ X', ParOk h0 X' binds q)
    (hrun : ∀ L env X' h₁, env = callEnvC fd L f → Keep h0 h₁ → (∀ a, X a → X' a) → (∀ a, X' a → ¬ X a → h0.get? a = none) → Frm g0 env X' (Own env) (ρ X') h₁ → (∀ n, (env.cells.lookup n).isSome = true → CellOf env h₁ n) →
      Ex prog w (A.deeper env) (Own env) h₁ (execs body env) fun fl h' => P (match fl with | .ret v => v | _ => .none) h') :
    Ev prog w A h0 (call (.ref f) args.pos args.kw) P := by
  simp only [callOk, Bool.and_eq_true, Bool.not_eq_true', beq_iff_eq, List.isEmpty_iff] at hok
  obtain ⟨⟨⟨⟨⟨⟨⟨⟨⟨⟨a1, a2⟩, a3⟩, a4⟩, a5⟩, a6⟩, a7⟩, a8⟩, a9⟩, a10⟩, a11⟩ := hok
  refine ev_call W O hK hbody a11 a9 a10 a1 hroom hbind ?_ (nodupB_of a3) ?_ (nodupB_of a5) hρ (fun L h₁ k F cells fresh => hrun L _ _ h₁ rfl k (fun a q => .inl q) fresh F cells) a6 a7 a8
  · rw [List.all_map] at a2; exact a2
  · rw [List.all_map] at a4; exact a4
end
end Mine

set_option maxRecDepth 100000
set_option linter.unusedVariables false
namespace Mine
open PySem PySem.W PySem.Calls PyProof.Rows

def Mono {α : Type} (P : α → Heap → Prop) : Prop := ∀ v h h', Keep h h' → P v h → P v h'
theorem Stable.mono {X P} (s : Stable X P) : Mono P := fun v h h' k p => s v h h' k.b p
theorem Mono.i {n} : Mono (isI n) := fun _ _ _ _ p => p
theorem Mono.s {n} : Mono (isS n) := fun _ _ _ _ p => p
theorem Mono.b {n} : Mono (isB n) := fun _ _ _ _ p => p
theorem Mono.y {n} : Mono (isY n) := fun _ _ _ _ p => p
theorem Mono.v {n} : Mono (isV n) := fun _ _ _ _ p => p
theorem Mono.l {X ds} : Mono (isL X ds) := Stable.l.mono
theorem Mono.li {X ds} : Mono (isLI X ds) := Stable.li.mono
theorem Mono.ls {X ds} : Mono (isLS X ds) := Stable.ls.mono

section
variable {prog : Program} {w : World} {A : Around} {K : Frag} {g0 h0 h h' : Heap} {mg mb : Str → Option Value} {env : Env} {X Y : Addr → Prop} {ρ ρ' : List (Str × PV)} {P P₁ P₂ P₃ : PV}

/-- the arguments, one by one -/
theorem ev_args0 {pos : Pos} : Ev prog w A h0 (spliced (backTo pos (starEach [] env))) (fun vs _ => vs = []) := Ev.pure fun _ _ => rfl
theorem ev_argsS {pos : Pos} {e : Expr} {rest : List Expr} {PL : List Value → Heap → Prop} (x : Ev prog w A h0 (eval e env) P₁) (y : Ev prog w A h0 (spliced (backTo pos (starEach rest env))) PL) (m : Mono P₁)
    (he : starEach (e :: rest) env = (false, eval e env) :: starEach rest env) :
    Ev prog w A h0 (spliced (backTo pos (starEach (e :: rest) env))) (fun vs h => ∃ v r, vs = v :: r ∧ P₁ v h ∧ PL r h) := fun s Q E k q =>
  wpAny_items_cons (x s _ E k fun v h₁ tk k₁ p => y ⟨h₁, s.gens, s.drawn, tk, s.os⟩ _ E (k.trans k₁) fun vs h₂ tk₂ k₂ p₂ => q (v :: vs) h₂ tk₂ (k₁.trans k₂) ⟨v, vs, rfl, m _ _ _ k₂ p, p₂⟩) he
theorem ev_args1 {pos : Pos} {e : Expr} (x : Ev prog w A h0 (eval e env) P₁) (m : Mono P₁) (he : starEach [e] env = [(false, eval e env)]) :
    Ev prog w A h0 (spliced (backTo pos (starEach [e] env))) (fun vs h => ∃ v, vs = [v] ∧ P₁ v h) :=
  (ev_argsS x ev_args0 m he).mono fun _ _ _ ⟨v, r, a, b, c⟩ => ⟨v, by rw [a, c], b⟩
theorem ev_args2 {pos : Pos} {e f : Expr} (x : Ev prog w A h0 (eval e env) P₁) (y : Ev prog w A h0 (eval f env) P₂) (m₁ : Mono P₁) (m₂ : Mono P₂)
    (he : starEach [e, f] env = (false, eval e env) :: starEach [f] env) (hf : starEach [f] env = [(false, eval f env)]) :
    Ev prog w A h0 (spliced (backTo pos (starEach [e, f] env))) (fun vs h => ∃ u v, vs = [u, v] ∧ P₁ u h ∧ P₂ v h) :=
  (ev_argsS x (ev_args1 y m₂ hf) m₁ he).mono fun _ _ _ ⟨v, r, a, b, ⟨c, d, e⟩⟩ => ⟨v, c, by rw [a, d], b, e⟩

theorem ev_callName {id : Str} {p pos : Pos} {args : List Expr} {fv : Value} (hf : Ev prog w A h0 (eval (.Name id p) env) (isV fv))
    (hc : ∀ h, Keep h0 h → Ev prog w A h (callWith pos fv [] (backTo pos (starEach args env)) []) P) : Ev prog w A h0 (eval (.Call (.Name id p) args [] pos) env) P := fun s Q E k q =>
  wpAny_Call_Name_kw (hf s _ E k fun v h₁ tk k₁ e => by
    have e' : v = fv := e
    subst e'
    exact hc h₁ (k.trans k₁) ⟨h₁, s.gens, s.drawn, tk, s.os⟩ Q E (fun _ _ e => e) fun v h₂ tk₂ k₂ p₂ => q v h₂ tk₂ (k₁.trans k₂) p₂)
/-- a call of a built-in type by its name -/
theorem ev_T {id : Str} {p pos : Pos} {T : String} {e : Expr} {rest : List Expr} {PL : List Value → Heap → Prop} (hf : Ev prog w A h0 (eval (.Name id p) env) (isV (.type T)))
    (x : Ev prog w A h0 (spliced (backTo pos (starEach (e :: rest) env))) PL)
    (o : ∀ vs h, Keep h0 h → PL vs h → Ev prog w A h (call (.type T) vs) P) (he : starEach (e :: rest) env = (false, eval e env) :: starEach rest env) (ha : (backTo pos (starEach rest env)).any (·.1) = false) :
    Ev prog w A h0 (eval (.Call (.Name id p) (e :: rest) [] pos) env) P := ev_callName hf fun h k s Q E k' q =>
  callWith_type1 (x s _ E (k.trans k') fun vs h₁ tk k₁ p => o vs h₁ ((k.trans k').trans k₁) p ⟨h₁, s.gens, s.drawn, tk, s.os⟩ Q E (fun _ _ e => e) fun v h₂ tk₂ k₂ p₂ => q v h₂ tk₂ (k₁.trans k₂) p₂) he ha
/-- a call of a built-in function by its name -/
theorem ev_B {id : Str} {p pos : Pos} {T : String} {e : Expr} {rest : List Expr} {PL : List Value → Heap → Prop} (hf : Ev prog w A h0 (eval (.Name id p) env) (isV (.builtin T)))
    (x : Ev prog w A h0 (spliced (backTo pos (starEach (e :: rest) env))) PL)
    (o : ∀ vs h, Keep h0 h → PL vs h → Ev prog w A h (call (.builtin T) vs) P) (he : starEach (e :: rest) env = (false, eval e env) :: starEach rest env) (ha : (backTo pos (starEach rest env)).any (·.1) = false) :
    Ev prog w A h0 (eval (.Call (.Name id p) (e :: rest) [] pos) env) P := ev_callName hf fun h k s Q E k' q =>
  callWith_builtin1 (x s _ E (k.trans k') fun vs h₁ tk k₁ p => o vs h₁ ((k.trans k').trans k₁) p ⟨h₁, s.gens, s.drawn, tk, s.os⟩ Q E (fun _ _ e => e) fun v h₂ tk₂ k₂ p₂ => q v h₂ tk₂ (k₁.trans k₂) p₂) he ha
/-- a call of one of the text's own defs by its name -/
theorem ev_F {id : Str} {p pos : Pos} {fa : Addr} {e : Expr} {rest : List Expr} {PL : List Value → Heap → Prop} (hf : Ev prog w A h0 (eval (.Name id p) env) (isV (.ref fa))) (W : Wd K g0 mg mb) (b : Keep g0 h0) (hk : keepIn K (.ref fa) = true)
    (x : Ev prog w A h0 (spliced (backTo pos (starEach (e :: rest) env))) PL)
    (o : ∀ vs h, Keep h0 h → PL vs h → Ev prog w A h (call (.ref fa) vs) P) (he : starEach (e :: rest) env = (false, eval e env) :: starEach rest env) (ha : (backTo pos (starEach rest env)).any (·.1) = false) :
    Ev prog w A h0 (eval (.Call (.Name id p) (e :: rest) [] pos) env) P := ev_callName hf fun h k s Q E k' q =>
  callWith_K W.kin hk (x s _ E (k.trans k') fun vs h₁ tk k₁ p => ⟨W.kin.keeps (b.trans ((k.trans k').trans k₁)), o vs h₁ ((k.trans k').trans k₁) p ⟨h₁, s.gens, s.drawn, tk, s.os⟩ Q E (fun _ _ e => e) fun v h₂ tk₂ k₂ p₂ => q v h₂ tk₂ (k₁.trans k₂) p₂⟩) he ha

/-- tests -/
theorem ev_isTrue {e : Expr} {b : Bool} (x : Ev prog w A h0 (eval e env) P₁) (o : ∀ v h, Keep h0 h → P₁ v h → Ev prog w A h (truthy v) (fun c _ => c = b))
    (he : isTrue e env (eval e env) = (do let v ← eval e env; standAt e.pos; holding [v] (truthy v))) : Ev prog w A h0 (isTrue e env (eval e env)) (fun c _ => c = b) := fun s Q E k q =>
  isTrue_plain (x s _ E k fun v h₁ tk k₁ p => o v h₁ (k.trans k₁) p ⟨h₁, s.gens, s.drawn, tk, s.os⟩ Q E (fun _ _ e => e) fun v h₂ tk₂ k₂ p₂ => q v h₂ tk₂ (k₁.trans k₂) p₂) he
theorem ev_ifexp {test body orelse : Expr} {pos : Pos} {b : Bool} (x : Ev prog w A h0 (isTrue test env (eval test env)) (fun c _ => c = b))
    (y : b = true → Ev prog w A h0 (eval body env) P) (z : b = false → Ev prog w A h0 (eval orelse env) P) : Ev prog w A h0 (eval (.IfExp test body orelse pos) env) P := fun s Q E k q =>
  wpAny_IfExp (x s _ E k fun c h₁ tk k₁ p => by
    subst p
    cases c with
    | true => exact y rfl ⟨h₁, s.gens, s.drawn, tk, s.os⟩ Q E (k.trans k₁) fun v h₂ tk₂ k₂ p₂ => q v h₂ tk₂ (k₁.trans k₂) p₂
    | false => exact z rfl ⟨h₁, s.gens, s.drawn, tk, s.os⟩ Q E (k.trans k₁) fun v h₂ tk₂ k₂ p₂ => q v h₂ tk₂ (k₁.trans k₂) p₂)
/-- one comparison -/
theorem ev_cmp {l r : Expr} {op : CmpOp} {pos : Pos} (x : Ev prog w A h0 (eval l env) P₁) (y : Ev prog w A h0 (eval r env) P₂) (m : Mono P₁)
    (o : ∀ a b h, Keep h0 h → P₁ a h → P₂ b h → Ev prog w A h (compareOp op a b) P) (hm : behindInMarks op r = false) : Ev prog w A h0 (eval (.Compare l [op] [r] pos) env) P := fun s Q E k q =>
  wpAny_Compare1 (x s _ E k fun a h₁ tk k₁ p => y _ _ E (k.trans k₁) fun b h₂ tk₂ k₂ p₂ =>
    o a b h₂ ((k.trans k₁).trans k₂) (m _ _ _ k₂ p) p₂ ⟨h₂, s.gens, s.drawn, tk₂, s.os⟩ Q E (fun _ _ e => e) fun v h₃ tk₃ k₃ p₃ => q v h₃ tk₃ (k₁.trans (k₂.trans k₃)) p₃) hm
theorem ev_cmpT {l r : Expr} {op : CmpOp} {pos : Pos} {b : Bool} {whole} (x : Ev prog w A h0 (eval l env) P₁) (y : Ev prog w A h0 (eval r env) P₂) (m : Mono P₁)
    (o : ∀ a b' h, Keep h0 h → P₁ a h → P₂ b' h → Ev prog w A h (compareOp op a b') (isB b)) (hm : behindInMarks op r = false) : Ev prog w A h0 (isTrue (.Compare l [op] [r] pos) env whole) (fun c _ => c = b) := fun s Q E k q =>
  wpAny_isTrue_Compare1 (x s _ E k fun a h₁ tk k₁ p => y _ _ E (k.trans k₁) fun b h₂ tk₂ k₂ p₂ =>
    o a b h₂ ((k.trans k₁).trans k₂) (m _ _ _ k₂ p) p₂ ⟨h₂, s.gens, s.drawn, tk₂, s.os⟩ _ E (fun _ _ e => e) fun v h₃ tk₃ k₃ p₃ => by
      have p₄ : v = .bool _ := p₃
      subst p₄
      exact wpAny_truthy_bool (q _ h₃ tk₃ (k₁.trans (k₂.trans k₃)) rfl)) hm
theorem ev_not {e : Expr} {pos : Pos} {b : Bool} {whole} (x : Ev prog w A h0 (isTrue e env (eval e env)) (fun c _ => c = b)) : Ev prog w A h0 (isTrue (.UnaryOp .Not e pos) env whole) (fun c _ => c = !b) := fun s Q E k q =>
  wpAny_isTrue_Not (x s _ E k fun c h₁ tk k₁ p => by subst p; exact q _ h₁ tk k₁ rfl)

/-- an item or a cut: the object's type is a built-in one -/
theorem ev_item {value slice : Expr} {pos : Pos} (x : Ev prog w A h0 (eval value env) P₁) (y : Ev prog w A h0 (eval slice env) P₂) (m : Mono P₁)
    (o : ∀ a i h, Keep h0 h → P₁ a h → P₂ i h → ∃ T id, (∀ s : Shared, s.heap = h → s.TypeIs a T) ∧ typeLookup (.type T) "__getitem__" = pure (some (.builtin id)) ∧ (∃ ops, subscripted slice false a i = operate ops (getItem a i)) ∧
      Ev prog w A h (getItem a i) P) : Ev prog w A h0 (eval (.Subscript value slice pos) env) P := fun s Q E k q =>
  Subscript_ (x s _ E k fun a h₁ tk k₁ p => y _ _ E (k.trans k₁) fun i h₂ tk₂ k₂ p₂ => by
    obtain ⟨T, id, hT, hl, ⟨ops, hs⟩, g⟩ := o a i h₂ ((k.trans k₁).trans k₂) (m _ _ _ k₂ p) p₂
    exact tail_any (hT _ rfl) hl (g ⟨h₂, s.gens, s.drawn, tk₂, s.os⟩ Q E (fun _ _ e => e) fun v h₃ tk₃ k₃ p₃ => q v h₃ tk₃ (k₁.trans (k₂.trans k₃)) p₃) hs)

/-- lists -/
theorem paired_get {α β : Type} {F : α → β → Prop} : ∀ {l₁ : List α} {l₂ : List β}, Paired F l₁ l₂ → ∀ {i : Nat} {a : α}, l₁[i]? = some a → ∃ b, l₂[i]? = some b ∧ F a b
  | _, _, .nil, i, a, e => by simp at e
  | _, _, .cons h t, 0, a, e => by simp at e; subst e; exact ⟨_, rfl, h⟩
  | _, _, .cons h t, i + 1, a, e => by simpa using paired_get t (by simpa using e)
theorem isL.size {ds : List S} {v : Value} (p : isL X ds v h) : ∃ l vs, v = .ref l ∧ h.IsList l vs ∧ vs.size = ds.length := by
  obtain ⟨l, vs, e, n, hl, q⟩ := p
  exact ⟨l, vs, e, hl, by rw [q.length]; simp⟩
theorem ev_len_list {v : Value} {ds : List S} (p : isL X ds v h) (hz : ds.length < 2 ^ 62) : Ev prog w A h (call (.builtin "len") [v]) (isI ds.length) := fun s Q E k q => by
  obtain ⟨l, vs, rfl, n, hl, z⟩ := p
  have e : vs.size = ds.length := by rw [z.length]; simp
  have hl' : s.heap.IsList l vs := hl.at fun o e => k l o e
  refine len_list hl' (by rw [e]; omega) (q _ s.heap _ (fun _ _ e => e) ⟨_, by rw [e]⟩)
theorem ev_truthy_list {v : Value} {ds : List S} (p : isL X ds v h) (hz : ds.length < 2 ^ 62) : Ev prog w A h (truthy v) (fun c _ => c = !ds.isEmpty) := fun s Q E k q => by
  obtain ⟨l, vs, rfl, n, hl, z⟩ := p
  have e : vs.size = ds.length := by rw [z.length]; simp
  refine wpAny_truthy_list (hl.at fun o e => k l o e) (by rw [e]; omega) (q _ s.heap _ (fun _ _ e => e) ?_)
  have e2 : vs.isEmpty = ds.isEmpty := by rw [Bool.eq_iff_iff, Array.isEmpty_iff_size_eq_zero, List.isEmpty_iff_length_eq_zero, e]
  show (!vs.isEmpty) = !ds.isEmpty
  rw [e2]
/-- an item of a list at a place -/
theorem ev_item_list {value slice : Expr} {pos : Pos} {ds : List S} {i : Int} {d : S} (x : Ev prog w A h0 (eval value env) (isL X ds)) (y : Ev prog w A h0 (eval slice env) (isI i)) (hi : 0 ≤ i) (hz : i < 2 ^ 62) (hd : ds[i.toNat]? = some d)
    (hs : ∀ l u, subscripted slice false (.ref l) (.int i u) = operate [.ref l, .int i u] (getItem (.ref l) (.int i u))) : Ev prog w A h0 (eval (.Subscript value slice pos) env) (fun v _ => d.is v) :=
  ev_item x y Mono.l fun a j h k ⟨l, vs, e, n, hl, z⟩ ⟨u, e'⟩ => by
    subst e e'
    obtain ⟨v, hv, hdv⟩ := paired_get z hd
    refine ⟨"list", "list.__getitem__", fun s e => by subst e; exact hl.typeIs, slot_list_getitem.lookup, ⟨_, hs l u⟩, fun s Q E k q => ?_⟩
    exact wpAny_getItem_list (hl.at fun o e => k l o e) hi (by omega) (by simpa using hv) (q v s.heap s.toks (fun _ _ e => e) hdv)
end
end Mine

set_option maxRecDepth 100000
set_option linter.unusedVariables false
namespace Mine
open PySem PySem.W PySem.Calls PyProof.Rows

/-- the names of a loop's target are locals -/
def TgtOk (env : Env) : Expr → Prop
  | .Name x _ => env.kindOf x = some .local
  | .Tuple [.Name a _, .Name b _] _ _ => env.kindOf a = some .local ∧ env.kindOf b = some .local
  | _ => False

/-- a source of items: n turns, item i binds the target's names -/
structure Itr (prog : Program) (w : World) (A : Around) (target : Expr) (it : Value) (env : Env) (n : Nat) (item : Nat → List (Str × S)) (fp Wr : Addr → Prop) (St : Nat → Heap → Prop) : Prop where
  frame : ∀ i h h', St i h → (∀ b, fp b → ∀ o, h.get? b = some o → h'.get? b = some o) → St i h'
  turn : ∀ i (s : Shared) (Q : Shared → Prop) (E : Value → Shared → Prop) m, i < n → St i s.heap → s.heap.Ns env.locals m →
    (∀ h' tk m', St (i + 1) h' → h'.Ns env.locals m' → (∀ p ∈ item i, ∃ v, m' p.1 = some v ∧ p.2.is v) → (∀ y, (∀ p ∈ item i, p.1 ≠ y) → m' y = m y) → (∀ b o, ¬ Wr b → b ≠ env.locals → s.heap.get? b = some o → h'.get? b = some o) →
      Q { s with heap := h', toks := tk }) →
    wpAny (model prog w) A (pyNext it) (fun r s₁ => match r with
      | none => False
      | some v => wpAny (model prog w) A (letOwnedTupleGo target it v) (fun _ s₁' => wpAny (model prog w) A (assign target env v) (fun _ s₂ => Q s₂) E s₁') E s₁) E s
  done : ∀ (s : Shared) (Q : Option Value → Shared → Prop) (E : Value → Shared → Prop), St n s.heap → (∀ h' tk, (∀ b o, ¬ Wr b → s.heap.get? b = some o → h'.get? b = some o) → Q none { s with heap := h', toks := tk }) →
    wpAny (model prog w) A (pyNext it) Q E s
  self : ∀ i (s : Shared) (Q : Value → Shared → Prop) (E : Value → Shared → Prop), St i s.heap → Q it s → wpAny (model prog w) A (pyIter it) Q E s
  live : ∀ i h, St i h → ∀ a, Wr a → ∃ o, h.get? a = some o

/-- `it` is such a source in heap h, made since heap hs -/
def IsIter (prog : Program) (w : World) (A : Around) (target : Expr) (n : Nat) (item : Nat → List (Str × S)) (Z : Addr → Prop) (it : Value) (hs h : Heap) : Prop :=
  ∃ fp Wr : Addr → Prop, ∃ St, (∀ a, Wr a → fp a ∧ hs.get? a = none) ∧ (∀ a, fp a → (∃ o, h.get? a = some o) ∧ (∀ o m, hs.get? a = some o → ¬ hs.Ns a m) ∧ (∀ o, hs.get? a = some o → ¬ Z a)) ∧ St 0 h ∧
    ∀ env : Env, env.scope.kind = .function → TgtOk env target → ¬ fp env.locals → Itr prog w A target it env n item fp Wr St

def EvIt (prog : Program) (w : World) (A : Around) (h0 : Heap) (env : Env) (iter target : Expr) (n : Nat) (item : Nat → List (Str × S)) (Z : Addr → Prop) : Prop :=
  ∀ (s : Shared) (Q E : Value → Shared → Prop), Keep h0 s.heap → (∀ it h tk, Keep s.heap h → IsIter prog w A target n item Z it s.heap h → Q it { s with heap := h, toks := tk }) →
    wpAny (model prog w) A (eval iter env) (fun x s₁ => wpAny (model prog w) A (pyIter x) Q E s₁) E s

section
variable {prog : Program} {w : World} {A : Around} {K : Frag} {g0 h0 h h' : Heap} {mg mb : Str → Option Value} {env : Env} {X Y : Addr → Prop} {ρ ρ' : List (Str × PV)} {P P₁ P₂ P₃ : PV}

theorem Itr.ofWalks {I : Addr} {fp wr : List Addr} {n : Nat} {Pw : Nat → Value → Prop} {St : Nat → Heap → Prop} (W : Walks prog w A I fp wr n Pw St) {d : Nat → S} (hP : ∀ i v, Pw i v → (d i).is v) {x : Str} {px : Pos}
    (hk : env.scope.kind = .function) (hx : env.kindOf x = some .local) (hL : env.locals ∉ fp) (hlv : ∀ i h, St i h → ∀ a ∈ wr, ∃ o, h.get? a = some o) : Itr prog w A (.Name x px) (.ref I) env n (fun i => [(x, d i)]) (· ∈ fp) (· ∈ wr) St where
  frame := fun i h h' st k => W.frame i h h' st fun b hb o e => k b hb o e
  turn := fun i s Q E m hi st hn q => by
    refine W.item i s _ E hi st fun v h₁ tk₁ hv st₁ k₁ => ?_
    refine wpAny_of_eq (a := ()) (by rfl) ?_
    refine wpAny_assign_Name (wpAny_storeName_local hx (hn.at' fun o e => k₁ _ o (fun z => hL (W.sub _ z)) e) (fun h₂ hn₂ hs₂ => ?_) (by rw [hk]; rfl))
    refine q h₂ _ _ (W.frame _ _ _ st₁ fun b hb o e => hs₂.extBut b o (fun z => hL (z ▸ hb)) e) hn₂ (fun p hp => ?_) (fun y hy => ?_) fun b o hb hbL e => hs₂.extBut b o hbL (k₁ b o hb e)
    · rw [List.mem_singleton] at hp; subst hp; exact ⟨v, if_pos rfl, hP i v hv⟩
    · exact if_neg (fun z => hy (x, d i) (by simp) z.symm)
  done := fun s Q E st q => W.done s Q E st fun h' tk k => q h' tk k
  self := fun i s Q E st q => W.self i s Q E st q
  live := hlv

theorem Itr.ofWalksT {I : Addr} {fp wr : List Addr} {n : Nat} {Pt : Nat → Array Value → Prop} {St : Nat → Heap → Prop} {Mid : Nat → Addr → Heap → Prop} (W : WalksT prog w A I fp wr n Pt St Mid) (hh : A.handled = none) {d e : Nat → S}
    (hP : ∀ i vs, Pt i vs → ∃ u v, vs = #[u, v] ∧ (d i).is u ∧ (e i).is v) {x y : Str} {px py tp : Pos} {kk : Nat} (hne : x ≠ y)
    (hk : env.scope.kind = .function) (hx : env.kindOf x = some .local) (hy : env.kindOf y = some .local) (hL : env.locals ∉ fp) (hlv : ∀ i h, St i h → ∀ a ∈ wr, ∃ o, h.get? a = some o) : Itr prog w A (.Tuple [.Name x px, .Name y py] kk tp) (.ref I) env n (fun i => [(x, d i), (y, e i)]) (· ∈ fp) (· ∈ wr) St where
  frame := fun i h h' st k => W.frame i h h' st fun b hb o e => k b hb o e
  turn := fun i s Q E m hi st hn q => by
    refine W.item i s _ E hi st fun T vals h₁ tk₁ hv hge hT mid k₁ => ?_
    obtain ⟨u, v, rfl, hu, hv⟩ := hP i vals hv
    have hLw : env.locals ∉ wr := fun z => hL (W.sub _ z)
    refine W.go _ _ _ i T _ _ E mid fun h₂ st₂ k₂ => ?_
    have hn₂ := (hn.at' fun o e => k₁ _ o hLw e).at' fun o e => k₂ _ o hLw e
    have hT₂ : h₂.IsTuple T #[u, v] := hT.at fun o e => k₂ T o (W.apart _ _ _ mid) e
    refine kcp_assign hh hT₂ hx hy (by rw [hk]; rfl) hn₂ fun h₃ tk₃ hn₃ k₃ => ?_
    refine q h₃ _ _ (W.frame _ _ _ st₂ fun b hb o e => k₃ b o (fun z => hL (z ▸ hb)) e) hn₃ (fun p hp => ?_) (fun z hz => ?_) fun b o hb hbL e => k₃ b o hbL (k₂ b o hb (k₁ b o hb e))
    · simp only [List.mem_cons, List.not_mem_nil, or_false] at hp
      rcases hp with rfl | rfl
      · exact ⟨u, by rw [if_neg hne, if_pos rfl], hu⟩
      · exact ⟨v, if_pos rfl, hv⟩
    · rw [if_neg (fun q => hz (y, e i) (by simp) q.symm), if_neg (fun q => hz (x, d i) (by simp) q.symm)]
  done := fun s Q E st q => W.done s Q E st fun h' tk k => q h' tk k
  self := fun i s Q E st q => W.self i s Q E st q
  live := hlv

/-- the core of a comprehension without a test -/
theorem comp_core {elt iter target : Expr} {scope : Scope} {cl : List (Str × Addr)} {pos : Pos} {s₂ : Shared} {it : Value} {n : Nat} {item : Nat → List (Str × S)} {hs : Heap} {E : Value → Shared → Prop}
    {Z : Addr → Prop} (hit : IsIter prog w A target n item Z it hs s₂.heap) (kh : Keep hs s₂.heap) (hsz : n ≤ sizeLine) (f : Nat → S) {RR : Value → Addr → Result → Shared → Prop}
    (hcell : ∀ y ∈ scope.names, y.2 ≠ .cell) (hkind : scope.kind = .function) (htgt : ∀ C, TgtOk (compEnvC scope cl C env) target)
    (helt : ∀ i C h m, i < n → Keep hs h → hs.get? C = none → h.Ns C m → (∀ p ∈ item i, ∃ v, m p.1 = some v ∧ p.2.is v) → Ev prog w A h (eval elt (compEnvC scope cl C env)) (fun v _ => (f i).is v))
    (hRR : ∀ D C h' tk m' (vs : List Value), hs.get? D = none → hs.get? C = none → D ≠ C → h'.Ns C m' → h'.PlainList D vs.toArray → Paired S.is ((List.range n).map f) vs → Keep hs h' → RR (.ref D) C (.ok .next) { s₂ with heap := h', toks := tk }) :
    wpAny (model prog w) A (newList []) (fun acc s₃ => wpAny (model prog w) A (newFunctionEnv scope env.globals cl [] env.qual none .none (some env)) (fun cenv s₄ =>
      codeAny (model prog w) A (.compStart (.ListComp elt [⟨target, iter, [], 0⟩] scope pos) 0 it acc { cenv with scope := relabel scope env }) (RR acc cenv.locals) s₄) E s₃) E s₂ := by
  obtain ⟨fp, Wr, St, hWr, hfp, hst, hI⟩ := hit
  refine wpAny_newObj_type (wpAny_newFunctionEnv hcell (by intro y hy; simp at hy) (fun h₁ hns₁ hsb₁ => ?_) hkind)
  dsimp only at hns₁ hsb₁ ⊢
  generalize hH2 : s₂.heap.push { cls := .type "list", dict := none, data := .seq ([] : List Value).toArray } = H2 at hns₁ hsb₁ ⊢
  have hC : H2.objs.size = s₂.heap.objs.size + 1 := by rw [← hH2, Heap.size_push]
  have hDC : s₂.heap.objs.size ≠ H2.objs.size := by rw [hC]; exact Nat.ne_of_lt (Nat.lt_succ_self _)
  have below : ∀ b, b < s₂.heap.objs.size → b ≠ H2.objs.size ∧ b ≠ s₂.heap.objs.size := fun b hb => ⟨by rw [hC]; exact Nat.ne_of_lt (Nat.lt_succ_of_lt hb), Nat.ne_of_lt hb⟩
  have fpB : ∀ b, fp b → b < s₂.heap.objs.size := fun b hb => let ⟨o, e⟩ := (hfp b hb).1; Heap.lt_size e
  have hDf : ¬ fp s₂.heap.objs.size := fun hm => Nat.lt_irrefl _ (fpB _ hm)
  have hCf : ¬ fp H2.objs.size := fun hm => by have := fpB _ hm; rw [hC] at this; exact Nat.lt_irrefl _ (Nat.lt_of_succ_lt this)
  have old : ∀ b o, s₂.heap.get? b = some o → h₁.get? b = some o := fun b o e => hsb₁.extBut b o (below b (Heap.lt_size e)).1 (Heap.get?_push_of_some _ (hH2 ▸ Heap.get?_push_of_some _ e))
  have hacc : h₁.PlainList s₂.heap.objs.size #[] := ⟨_, hsb₁.extBut _ _ hDC (Heap.get?_push_of_some _ (hH2 ▸ Heap.get?_push_size _ rfl))⟩
  have fresh : ∀ a, s₂.heap.objs.size ≤ a → hs.get? a = none := fun a ha => by
    cases e : hs.get? a with
    | none => rfl
    | some o' => exact absurd (Heap.lt_size (kh _ _ e)) (Nat.not_lt.mpr ha)
  generalize hCv : H2.objs.size = C at *
  generalize hDv : s₂.heap.objs.size = D at *
  have I := hI (compEnvC scope cl C env) (by simp [compEnvC, relabel, hkind]) (htgt C) hCf
  have loop : ∀ s₃ : Shared, s₃ = { s₂ with heap := h₁, toks := s₂.toks + ([] : List (Str × Value)).length } →
      codeAny (model prog w) A (.compLoop (.ListComp elt [⟨target, iter, [], 0⟩] scope pos) 0 it (.ref D) (compEnvC scope cl C env)) (RR (.ref D) C) s₃ := by
    rintro s₃ rfl
    refine kcp_loop (fun k s' => ∃ h' tk m', ∃ vs : List Value, s' = { s₂ with heap := h', toks := tk } ∧ St vs.length h' ∧ h'.PlainList D vs.toArray ∧ h'.Ns C m' ∧ Paired S.is ((List.range vs.length).map f) vs ∧ vs.length ≤ n ∧ k = n + 1 - vs.length ∧ Keep hs h') ?_ (n + 1)
      ⟨h₁, _, _, [], rfl, I.frame _ _ _ hst fun b _ o e => old b o e, hacc, hns₁, .nil, Nat.zero_le _, rfl, fun b o e => old b o (kh b o e)⟩
    rintro k s' ⟨H, tk, m', vs, rfl, hst', hacc', hn', hF, hi, rfl, hk⟩
    by_cases hlt : vs.length < n
    · refine wpAny_mono (I.turn vs.length _ (fun s₂' => wpAny (model prog w) A (eval elt (compEnvC scope cl C env)) (fun x s₄ =>
            wpAny (model prog w) A (call (.builtin "list.append") [.ref D, x]) (fun _ s₅ => ∃ m, m < n + 1 - vs.length ∧ ∃ h' tk m', ∃ vs : List Value, s₅ = { s₂ with heap := h', toks := tk } ∧ St vs.length h' ∧ h'.PlainList D vs.toArray ∧ h'.Ns C m' ∧ Paired S.is ((List.range vs.length).map f) vs ∧ vs.length ≤ n ∧ m = n + 1 - vs.length ∧ Keep hs h')
              (notedBy (model prog w) A (compEnvC scope cl C env) fun e s' => RR (.ref D) C (.error e) s') s₄) (notedBy (model prog w) A (compEnvC scope cl C env) fun e s' => RR (.ref D) C (.error e) s') s₂')
          (notedBy (model prog w) A (compEnvC scope cl C env) fun e s' => RR (.ref D) C (.error e) s') m' hlt hst' hn' ?_) (fun r s₁ hr => ?_) fun _ _ z => z
      · intro h₂ tk₂ m₂ st₂ hn₂ hit₂ _ k₂
        have hk₂ : Keep hs h₂ := fun b o e => k₂ b o (fun z => by rw [(hWr b z).2] at e; cases e) (fun z => by
          have z' : b = C := z
          subst z'
          rw [fresh b (by omega)] at e; cases e) (hk b o e)
        have hD₂ : h₂.PlainList D vs.toArray := hacc'.at fun o e => k₂ D o (fun z => hDf (hWr D z).1) hDC e
        refine (helt vs.length C h₂ m₂ hlt hk₂ (fresh C (by omega)) hn₂ hit₂) ⟨h₂, s₂.gens, s₂.drawn, tk₂, s₂.os⟩ _ _ (fun _ _ e => e) fun y h₃ tk₃ k₃ hy => ?_
        refine wpAny_list_append_plain (hsz := by simpa using Nat.le_trans (Nat.le_of_lt hlt) hsz) (hD₂.at fun o e => k₃ _ o e) fun h₄ hl₄ hs₄ => ?_
        refine ⟨n + 1 - (vs.length + 1), by omega, h₄, tk₃, m₂, vs ++ [y], rfl, ?_, ?_, ?_, ?_, ?_, ?_, ?_⟩
        · have := I.frame _ _ h₄ st₂ fun b hb o e => hs₄.extBut b o (fun z => hDf (z ▸ hb)) (k₃ b o e)
          simpa using this
        · simpa using hl₄
        · exact (hn₂.keeps k₃).sameBut hs₄ (Ne.symm hDC)
        · rw [List.length_append, List.length_singleton, List.range_succ, List.map_append]
          exact Paired.snoc hF hy
        · rw [List.length_append, List.length_singleton]; exact hlt
        · rw [List.length_append, List.length_singleton]
        · exact fun b o e => hs₄.extBut b o (fun z => by rw [z, fresh D (by omega)] at e; cases e) (k₃ b o (hk₂ b o e))
      · cases r with
        | none => exact hr.elim
        | some v => exact hr
    · have hin : vs.length = n := by omega
      refine I.done _ _ _ (hin ▸ hst') fun h₂ tk₂ k₂ => ?_
      refine hRR D C h₂ tk₂ m' vs (fresh _ (by omega)) (fresh _ (by omega)) hDC (hn'.at' fun o e => k₂ _ o (fun z => hCf (hWr _ z).1) e) (hacc'.at fun o e => k₂ _ o (fun z => hDf (hWr _ z).1) e) (hin ▸ hF) fun b o e => k₂ b o (fun z => ?_) (hk b o e)
      rw [(hWr b z).2] at e; cases e
  exact codeAny_compStart_list (loop _ rfl) (I.self 0 _ _ _ (I.frame _ _ _ hst fun b _ o e => old b o e) (loop _ rfl))

/-- the cells that a block's free names take along -/
def closL (env : Env) : List (Str × NameKind) → List (Str × Addr) → Option (List (Str × Addr))
  | [], acc => some acc
  | (n, k) :: r, acc => if k == .free then (match env.cells.lookup n with
      | some a => closL env r ((n, a) :: acc)
      | none => none) else closL env r acc
theorem closL_forIn (f : Str × NameKind → List (Str × Addr) → Sem (ForInStep (List (Str × Addr))))
    (hf : ∀ n k cs, f (n, k) cs = if (k == NameKind.free) = true then (do let a ← cellOf env n; pure (.yield ((n, a) :: cs))) else pure (.yield cs)) :
    ∀ (names : List (Str × NameKind)) (acc cl : List (Str × Addr)), closL env names acc = some cl → (forIn names acc f : Sem (List (Str × Addr))) = pure cl
  | [], acc, cl, e => by cases e; rfl
  | (n, k) :: r, acc, cl, e => by
    rw [List.forIn_cons, hf]
    unfold closL at e
    by_cases hk : (k == NameKind.free) = true
    · rw [if_pos hk] at e ⊢
      cases hc : env.cells.lookup n with
      | none => rw [hc] at e; cases e
      | some a =>
        rw [hc] at e
        have hcell : cellOf env n = pure a := by unfold cellOf; rw [hc]
        rw [hcell]
        exact closL_forIn f hf r _ _ e
    · rw [if_neg hk] at e ⊢
      exact closL_forIn f hf r _ _ e
theorem closureFor_closL {scope : Scope} {cl : List (Str × Addr)} (h : closL env scope.names [] = some cl) : closureFor scope env = pure cl := by
  unfold closureFor
  dsimp only
  rw [closL_forIn _ ?_ scope.names [] cl h]
  · rfl
  · intro n k cs; cases hk : k == NameKind.free <;> simp [hk]
theorem closL_keep : ∀ {names : List (Str × NameKind)} {acc cl : List (Str × Addr)} {x : Str}, closL env names acc = some cl → (∀ c, acc.lookup x = some c → env.cells.lookup x = some c) → ∀ c, cl.lookup x = some c → env.cells.lookup x = some c
  | [], acc, cl, x, h, ha => by cases h; exact ha
  | (n, k) :: r, acc, cl, x, h, ha => by
    unfold closL at h
    split at h
    · split at h
      · rename_i a hc
        refine closL_keep h fun c e => ?_
        rw [List.lookup_cons] at e
        by_cases q : (x == n) = true
        · rw [q] at e; cases e; rw [eq_of_beq q]; exact hc
        · simp only [q] at e; exact ha c e
      · cases h
    · exact closL_keep h ha
theorem closL_has : ∀ {names : List (Str × NameKind)} {acc cl : List (Str × Addr)} {x : Str}, closL env names acc = some cl → (names.lookup x = some .free ∨ (acc.lookup x).isSome = true) → (cl.lookup x).isSome = true
  | [], acc, cl, x, h, ha => by cases h; exact ha.resolve_left (by simp)
  | (n, k) :: r, acc, cl, x, h, ha => by
    unfold closL at h
    split at h
    · rename_i hk
      split at h
      · rename_i a hc
        refine closL_has h ?_
        by_cases q : (x == n) = true
        · right; rw [List.lookup_cons, q]; rfl
        · rcases ha with ha | ha
          · left; rw [List.lookup_cons] at ha; simpa only [q] using ha
          · right; rw [List.lookup_cons]; simpa only [q] using ha
      · cases h
    · rename_i hk
      refine closL_has h ?_
      rcases ha with ha | ha
      · left
        rw [List.lookup_cons] at ha
        by_cases q : (x == n) = true
        · simp only [q] at ha; cases ha; simp at hk
        · simpa only [q] using ha
      · exact .inr ha

theorem lookup_relabel_free {x : Str} (hf : env.scope.kind = .function) (hc : env.kindOf x = some .cell) : ∀ {names : List (Str × NameKind)}, names.lookup x = some .free →
    (names.map fun (n, k) => if (k == NameKind.free && env.scope.kind == .function && env.kindOf n == some .cell) then (n, NameKind.cell) else (n, k)).lookup x = some .cell
  | [], h => by simp at h
  | (n, k) :: r, h => by
    have ih := @lookup_relabel_free x hf hc r
    show List.lookup x ((if (k == NameKind.free && env.scope.kind == .function && env.kindOf n == some .cell) = true then (n, NameKind.cell) else (n, k)) :: _) = _
    by_cases hx : (x == n) = true
    · have e : x = n := eq_of_beq hx
      subst e
      rw [List.lookup_cons, hx] at h
      cases h
      rw [if_pos (by simp [hf, hc]), List.lookup_cons, hx]
    · rw [List.lookup_cons] at h
      simp only [hx] at h
      have q := ih h
      split <;> (rw [List.lookup_cons]; simp only [hx]; exact q)
theorem var_comp {scope : Scope} {cl : List (Str × Addr)} {C : Addr} {x : Str} {v : Value} (hcl : closL env scope.names [] = some cl) (hkind : scope.kind = .function) (hf : env.scope.kind = .function) (hs : scope.names.lookup x = some .free) (hc : env.kindOf x = some .cell)
    (y : Var env h x v) : Var (compEnvC scope cl C env) h x v := by
  obtain ⟨a, b, c⟩ := y
  refine ⟨by show (relabel scope env).kind = _; exact hkind, b, ?_⟩
  rcases c with ⟨c1, _⟩ | ⟨c1, c, c2, c3⟩ | ⟨c1, _⟩ | ⟨c1, _⟩
  · rw [hc] at c1; cases c1
  · obtain ⟨c', hc'⟩ := Option.isSome_iff_exists.mp (closL_has hcl (.inl hs))
    have := closL_keep hcl (fun _ e => by simp at e) c' hc'
    rw [c2] at this; cases this
    exact .inr (.inl ⟨lookup_relabel_free hf hc hs, c, hc', c3⟩)
  · rw [hc] at c1; cases c1
  · rw [hc] at c1; cases c1

/-- where an entry of a block's names comes from -/
def RhoOk (env : Env) (scope : Scope) (items : List (Str × S)) (ρ : List (Str × PV)) (p : Str × PV) : Prop :=
  (∃ d, (p.1, d) ∈ items ∧ p.2 = isD d ∧ (p.1 == ("__debug__" : Str)) = false ∧ scope.names.lookup p.1 = some .local) ∨ (p ∈ ρ ∧ scope.names.lookup p.1 = some .free ∧ env.kindOf p.1 = some .cell)
theorem Fre.comp (F : Fre g0 env ρ h0) (k : Keep h0 h) {scope : Scope} {cl : List (Str × Addr)} {C : Addr} {items : List (Str × S)} (hcl : closL env scope.names [] = some cl) (hkind : scope.kind = .function) {m} (hn : h.Ns C m)
    (hi : ∀ p ∈ items, ∃ v, m p.1 = some v ∧ p.2.is v) (hr : ∀ p ∈ ρ', RhoOk env scope items ρ p) : Fre g0 (compEnvC scope cl C env) ρ' h where
  base := F.base.trans k
  kind := hkind
  glb := F.glb
  blt := F.blt
  vars := fun p hp => by
    rcases hr p hp with ⟨d, hm, e, hd, hl⟩ | ⟨hm, h1, h2⟩
    · obtain ⟨v, hv, hdv⟩ := hi _ hm
      rw [e]
      exact ⟨fun _ _ _ _ q => q, v, ⟨hkind, hd, .inl ⟨lookup_relabel_local hl, m, hn, hv⟩⟩, hdv⟩
    · obtain ⟨mo, v, y, q⟩ := F.vars p hm
      exact ⟨mo, v, var_comp hcl hkind F.kind h1 h2 (y.keep k), mo _ _ _ k q⟩

def compOk (scope : Scope) : Bool := scope.names.all (fun p => p.2 != .cell) && (scope.kind == .function) && scope.names.all (fun p => p.2 != .local || scope.names.lookup p.1 == some .local)
theorem compOk_of {scope : Scope} (h : compOk scope = true) : (∀ y ∈ scope.names, y.2 ≠ .cell) ∧ scope.kind = .function ∧ ∀ y ∈ scope.names, y.2 = .local → scope.names.lookup y.1 = some .local := by
  simp only [compOk, Bool.and_eq_true, List.all_eq_true, beq_iff_eq] at h
  obtain ⟨⟨h1, h2⟩, h3⟩ := h
  refine ⟨fun y hy e => ?_, h2, fun y hy e => ?_⟩
  · have := h1 y hy; rw [e] at this; simp at this
  · have := h3 y hy; rw [e] at this; simpa using this
/-- the target's names are locals of the block -/
def TgtIn (scope : Scope) : Expr → Prop
  | .Name x _ => scope.names.lookup x = some .local
  | .Tuple [.Name a _, .Name b _] _ _ => scope.names.lookup a = some .local ∧ scope.names.lookup b = some .local
  | _ => False
theorem TgtIn.ok {scope : Scope} {cl : List (Str × Addr)} {C : Addr} : ∀ {t : Expr}, TgtIn scope t → TgtOk (compEnvC scope cl C env) t
  | .Name x _, h => lookup_relabel_local h
  | .Tuple [.Name a _, .Name b _] _ _, h => ⟨lookup_relabel_local h.1, lookup_relabel_local h.2⟩

/-- a comprehension with one clause and no test, as a value -/
theorem ev_comp {elt iter target : Expr} {scope : Scope} {pos : Pos} {n : Nat} {item : Nat → List (Str × S)} (F : Fre g0 env ρ h0) (f : Nat → S) (ρc : Nat → List (Str × PV)) {Z : Addr → Prop} (hit : EvIt prog w A h0 env iter target n item Z) (hlive : ∀ a, X a → ∃ o, h0.get? a = some o)
    (hsz : n ≤ sizeLine) (hok : compOk scope = true) {cl : List (Str × Addr)} (hcl : closL env scope.names [] = some cl) (htgt : TgtIn scope target) (hr : ∀ i, ∀ p ∈ ρc i, RhoOk env scope (item i) ρ p)
    (helt : ∀ i envC h, i < n → (∃ C, envC = compEnvC scope cl C env) → Keep h0 h → Fre g0 envC (ρc i) h → Ev prog w A h (eval elt envC) (isD (f i)))
    (hs : ∀ x, foldedSetIterable iter env x = pure x) : Ev prog w A h0 (eval (.ListComp elt [⟨target, iter, [], 0⟩] scope pos) env) (isL X ((List.range n).map f)) := fun s Q E k q => by
  obtain ⟨o1, o2, o3⟩ := compOk_of hok
  rw [eval_ListComp]
  refine wpAny_comprehension_free (use := none) rfl hs (closureFor_closL hcl) o2 o3 (hit s _ E k fun it h₂ tk₂ k₂ i₂ => ?_)
  refine comp_core (s₂ := ⟨h₂, s.gens, s.drawn, tk₂, s.os⟩) (RR := fun acc C => compPost (model prog w) A E none Q acc C) i₂ k₂ hsz f o1 o2 (fun C => htgt.ok) (fun i C h m hi kh hC hn hp => ?_) fun D C h' tk m' vs hD hC hDC hn hl hF hk => ?_
  · exact helt i _ h hi ⟨C, rfl⟩ (k.trans kh) (F.comp (k.trans kh) hcl o2 hn hp (hr i))
  · refine ⟨m', hn, fun h'' hs'' => q _ h'' tk (fun b o e => hs''.extBut b o (by rintro rfl; rw [hC] at e; cases e) (hk b o e)) ⟨D, vs.toArray, rfl, fun z => ?_, (hl.isList).extBut hs''.extBut hDC, by simpa using hF⟩⟩
    obtain ⟨o, e⟩ := hlive D z
    rw [k _ _ e] at hD; cases hD
end
end Mine

set_option maxRecDepth 100000
set_option linter.unusedVariables false
namespace Mine
open PySem PySem.W PySem.Calls PyProof.Rows

section
variable {prog : Program} {w : World} {A : Around} {K : Frag} {g0 h0 h h' : Heap} {mg mb : Str → Option Value} {env : Env} {X Y : Addr → Prop} {ρ ρ' : List (Str × PV)} {P P₁ P₂ P₃ : PV}

theorem get_size {h : Heap} : h.get? h.objs.size = none := Heap.get?_none_of_le (Nat.le_refl _)
theorem keep_push {h : Heap} {o : Obj} : Keep h (h.push o) := fun b o' e => Heap.get?_push_of_some _ e
theorem none_of_keep {a b : Heap} (k : Keep a b) {i : Addr} (e : b.get? i = none) : a.get? i = none := by
  cases q : a.get? i with
  | none => rfl
  | some o => rw [k i o q] at e; cases e
theorem list_notNs {h : Heap} {l : Addr} {vs : Array Value} (x : h.IsList l vs) {m} : ¬ h.Ns l m := fun n => by
  obtain ⟨o, e1, _, _, e2⟩ := x
  obtain ⟨o', _, _, f1, f2, _⟩ := n
  rw [e1] at f1; cases f1
  rw [e2] at f2; cases f2

theorem range_small {n : Nat} (hn : n ≤ 1000000) : Builtin.Range.small 0 (n : Int) 1 = true ∧ Builtin.Range.rangeSize 0 (n : Int) 1 = n := by
  have h2 : Builtin.Range.rangeSize 0 (n : Int) 1 = n := by
    unfold Builtin.Range.rangeSize
    simp
    omega
  refine ⟨?_, h2⟩
  unfold Builtin.Range.small Builtin.Range.rangeFitsLong
  rw [h2]
  simp
  omega

theorem IsIter.of1 {I : Addr} {n : Nat} {Pw : Nat → Value → Prop} {St : Nat → Heap → Prop} (W : Walks prog w A I [I] [I] n Pw St) {d : Nat → S} (hP : ∀ i v, Pw i v → (d i).is v) {x : Str} {px : Pos} {hs : Heap}
    (hlv : ∀ i h, St i h → ∃ o, h.get? I = some o) (h1 : hs.get? I = none) (h2 : ∃ o, h.get? I = some o) (st : St 0 h) {Z : Addr → Prop} : IsIter prog w A (.Name x px) n (fun i => [(x, d i)]) Z (.ref I) hs h := by
  refine ⟨(· ∈ [I]), (· ∈ [I]), St, fun a ha => ⟨ha, ?_⟩, fun a ha => ?_, st, fun env' hk ht hL => Itr.ofWalks W hP hk ht hL fun i h st a ha => by rw [List.mem_singleton.mp ha]; exact hlv i h st⟩
  · rw [List.mem_singleton.mp ha]; exact h1
  · rw [List.mem_singleton.mp ha]; exact ⟨h2, fun o m e => (by rw [h1] at e; cases e), fun o e => (by rw [h1] at e; cases e)⟩
theorem IsIter.of2 {I l : Addr} {n : Nat} {Pw : Nat → Value → Prop} {St : Nat → Heap → Prop} (W : Walks prog w A I [I, l] [I] n Pw St) {d : Nat → S} (hP : ∀ i v, Pw i v → (d i).is v) {x : Str} {px : Pos} {hs : Heap}
    (hlv : ∀ i h, St i h → ∃ o, h.get? I = some o) (h1 : hs.get? I = none) (h2 : ∃ o, h.get? I = some o) (h3 : ∃ o, h.get? l = some o) (h4 : ∀ m, ¬ hs.Ns l m) (st : St 0 h) {Z : Addr → Prop} (hZ : ¬ Z l) : IsIter prog w A (.Name x px) n (fun i => [(x, d i)]) Z (.ref I) hs h := by
  refine ⟨(· ∈ [I, l]), (· ∈ [I]), St, fun a ha => ⟨?_, ?_⟩, fun a ha => ?_, st, fun env' hk ht hL => Itr.ofWalks W hP hk ht hL fun i h st a ha => by rw [List.mem_singleton.mp ha]; exact hlv i h st⟩
  · rw [List.mem_singleton.mp ha]; simp
  · rw [List.mem_singleton.mp ha]; exact h1
  · rcases List.mem_cons.mp ha with rfl | ha
    · exact ⟨h2, fun o m e => (by rw [h1] at e; cases e), fun o e => (by rw [h1] at e; cases e)⟩
    · rw [List.mem_singleton.mp ha]; exact ⟨h3, fun o m _ => h4 m, fun o _ => hZ⟩

theorem evit_range {e : Expr} {id : Str} {p pos px : Pos} {x : Str} {n : Nat} (hh : A.handled = none) (hn : n ≤ 1000000) (hf : Ev prog w A h0 (eval (.Name id p) env) (isV (.type "range"))) (he : Ev prog w A h0 (eval e env) (isI n))
    (hse : starEach [e] env = [(false, eval e env)]) : EvIt prog w A h0 env (.Call (.Name id p) [e] [] pos) (.Name x px) n (fun i => [(x, S.int i)]) X := fun s Q E k q => by
  have hr : Ev prog w A h0 (eval (.Call (.Name id p) [e] [] pos) env) (fun v h => ∃ r t u v', v = .ref r ∧ IsRange h r 0 n 1 t u v') :=
    ev_T hf (ev_args1 he Mono.i hse) (fun vs h k ⟨v, e1, ⟨t, e2⟩⟩ => by
      subst e1 e2
      exact fun s Q E k q => call_range_1 (q _ _ _ keep_push ⟨_, _, _, _, rfl, Heap.get?_push_size _ rfl⟩)) hse rfl
  refine hr s _ E k fun v h₁ tk k₁ ⟨r, t, u, v', e1, hR⟩ => ?_
  subst e1
  obtain ⟨r1, r2⟩ := range_small hn
  refine wpAny_pyIter_range hR r1 (q _ _ _ (k₁.trans keep_push) ?_)
  refine IsIter.of1 (Walks.range hh h₁.objs.size 0 1 n) (d := fun i => .int i) (fun i v ⟨t, e⟩ => ⟨t, e.trans (by rw [Int.mul_one, Int.zero_add])⟩) (fun i h st => ⟨_, st⟩) (none_of_keep k₁ get_size) ⟨_, Heap.get?_push_size _ rfl⟩ ?_
  have := Heap.get?_push_size h₁ (o := { cls := .type "range_iterator", data := .fields #[rawInt 0, rawInt (Builtin.Range.rangeSize 0 n 1), rawInt 1] }) rfl
  rw [r2] at this ⊢
  simpa using this

theorem evit_list {e : Expr} {px : Pos} {x : Str} {ds : List S} (hh : A.handled = none) (he : Ev prog w A h0 (eval e env) (isL X ds)) :
    EvIt prog w A h0 env e (.Name x px) ds.length (fun i => [(x, ds.getD i .none)]) X := fun s Q E k q => by
  refine he s _ E k fun v h₁ tk k₁ ⟨l, vs, e1, n, hl, z⟩ => ?_
  subst e1
  have hz : vs.size = ds.length := by rw [z.length]; simp
  have hlI : l ≠ h₁.objs.size := fun e => by obtain ⟨o, e', _⟩ := hl; rw [e] at e'; rw [get_size] at e'; cases e'
  have hl' : (h₁.push { cls := .type "list_iterator", data := .fields #[.ref l, .int 0 0] }).IsList l vs := hl.at fun o e => keep_push l o e
  refine wpAny_pyIter_list hl (q _ _ _ (k₁.trans keep_push) ?_)
  rw [← hz]
  refine IsIter.of2 (Walks.list hh h₁.objs.size l hlI vs) (d := fun i => ds.getD i .none) (fun i v e => ?_) (fun i h st => let ⟨o, e, _⟩ := st.1; ⟨o, e⟩) (none_of_keep k₁ get_size) ⟨_, Heap.get?_push_size _ rfl⟩ (let ⟨o, e, _⟩ := hl'; ⟨o, e⟩) (fun m n => list_notNs hl (n.keeps k₁))
    ⟨⟨_, Heap.get?_push_size _ rfl, rfl, rfl⟩, hl'⟩ n
  have hlt : i < ds.length := by rw [← hz]; exact (Array.getElem?_eq_some_iff.mp e).1
  have hd : ds[i]? = some (ds.getD i .none) := by simp [hlt]
  obtain ⟨v', h1, h2⟩ := paired_get z hd
  have : v' = v := by
    have e' : vs.toList[i]? = some v := by simpa using e
    rw [h1] at e'; exact Option.some.inj e'
  exact this ▸ h2

theorem evit_bytes {e : Expr} {px : Pos} {x : Str} {b : Array UInt8} (hh : A.handled = none) (he : Ev prog w A h0 (eval e env) (isY b)) :
    EvIt prog w A h0 env e (.Name x px) b.size (fun i => [(x, S.int ((b.getD i 0).toNat : Int))]) X := fun s Q E k q => by
  refine he s _ E k fun v h₁ tk k₁ ⟨t, e1⟩ => ?_
  subst e1
  refine KBw.pyIter_bytes (q _ _ _ (k₁.trans keep_push) ?_)
  refine IsIter.of1 (KBw.walks hh h₁.objs.size b t) (d := fun i => .int ((b.getD i 0).toNat : Int)) (fun i v ⟨c, u, hc, e⟩ => ⟨u, ?_⟩) (fun i h st => let ⟨o, e, _⟩ := st; ⟨o, e⟩) (none_of_keep k₁ get_size) ⟨_, Heap.get?_push_size _ rfl⟩ ⟨_, Heap.get?_push_size _ rfl, rfl, rfl⟩
  rw [e]
  have : b.getD i 0 = c := by rw [Array.getD_eq_getD_getElem?, hc]; rfl
  rw [this]

end
end Mine

set_option maxRecDepth 100000
set_option linter.unusedVariables false
namespace Mine
open PySem PySem.W PySem.Calls PyProof.Rows

/-- an inner iterator, as enumerate asks it -/
structure Inner (prog : Program) (w : World) (A : Around) (it : Addr) (fp : List Addr) (n : Nat) (d : Nat → Value → Prop) (Si : Nat → Heap → Prop) : Prop where
  mem : it ∈ fp
  live : ∀ i h, Si i h → ∃ o, h.get? it = some o
  frame : ∀ i h h', Si i h → (∀ b ∈ fp, ∀ o, h.get? b = some o → h'.get? b = some o) → Si i h'
  item : ∀ i (s : Shared) (Q : Value → Shared → Prop) (E : Value → Shared → Prop), i < n → Si i s.heap →
    (∀ v h' tk, d i v → Si (i + 1) h' → Heap.SameBut it s.heap h' → Q v { s with heap := h', toks := tk }) → wpAny (model prog w) A (Builtin.SmallTypes.nextOf (.ref it)) Q E s
  last : ∀ (s : Shared) (Q : Value → Shared → Prop) (E : Value → Shared → Prop), Si n s.heap →
    (∀ h' e, Heap.ExtBut it s.heap h' → (∃ o, h'.get? e = some o ∧ o.cls = .type "StopIteration") → E (.ref e) { s with heap := h' }) → wpAny (model prog w) A (Builtin.SmallTypes.nextOf (.ref it)) Q E s

section
variable {prog : Program} {w : World} {A : Around} {E : Value → Shared → Prop} {s : Shared}

theorem enum_next {e it : Addr} {fp : List Addr} {n i : Nat} {d : Nat → Value → Prop} {Si : Nat → Heap → Prop} {old : Value} {Q : Value → Shared → Prop} (J : Inner prog w A it fp n d Si) (hi : i < n)
    (he : IsEnum s.heap e it i old) (st : Si i s.heap) (hne : e ≠ it) (hef : e ∉ fp)
    (hQ : ∀ x h' t tk, d i x → IsEnumOut h' e it ((i : Int) + 1) x s.heap.objs.size → Si (i + 1) h' →
      h'.get? s.heap.objs.size = some { cls := .type "tuple", data := .seq #[.int i t, x] } →
      (∀ b o, b ≠ e → b ≠ it → s.heap.get? b = some o → h'.get? b = some o) → Q (.ref s.heap.objs.size) { s with heap := h', toks := tk }) :
    wpAny (model prog w) A (Builtin.«enumerate.__next__» ⟨[.ref e], []⟩) (fun fin s' => ∃ v, fin = .done (.ret v) ∧ Q v s') E s := by
  obtain ⟨hp, g, dd, tk, os⟩ := s
  show wpAny _ _ (field (.ref e) 2 >>= _) _ _ _
  refine wpAny_bind (wpAny_field he rfl (x := .ref it) rfl ?_)
  refine wpAny_bind (J.item i _ _ _ hi st fun x h₁ tk hx st₁ hs₁ => ?_)
  replace hs₁ : Heap.SameBut it hp h₁ := hs₁
  have he₁ : IsEnum h₁ e it i old := (hs₁.2 e hne).trans he
  show wpAny _ _ (field (.ref e) 3 >>= _) _ _ ⟨h₁, g, dd, tk, os⟩
  refine wpAny_bind (wpAny_field he₁ rfl (x := rawInt i) rfl ?_)
  show wpAny _ _ (field (.ref e) 4 >>= _) _ _ ⟨h₁, g, dd, tk, os⟩
  refine wpAny_bind (wpAny_field he₁ rfl (x := .none) rfl ?_)
  show wpAny _ _ (mkInt i >>= _) _ _ ⟨h₁, g, dd, tk, os⟩
  refine wpAny_bind (wpAny_mkInt ?_)
  show wpAny _ _ (setField (.ref e) 3 (rawInt ((i : Int) + 1)) >>= _) _ _ ⟨h₁, g, dd, tk + 1, os⟩
  refine wpAny_bind (wpAny_setField_rec he₁ (by simp) fun h₂ he₂ hs₂ => ?_)
  replace hs₂ : Heap.SameBut e h₁ h₂ := hs₂
  replace he₂ : IsEnum h₂ e it ((i : Int) + 1) old := he₂
  show wpAny _ _ (setField (.ref e) 4 .none >>= _) _ _ ⟨h₂, g, dd, tk + 1, os⟩
  refine wpAny_bind (wpAny_setField_rec he₂ (by simp) fun h₃ he₃ hs₃ => ?_)
  replace hs₃ : Heap.SameBut e h₂ h₃ := hs₃
  replace he₃ : IsEnum h₃ e it ((i : Int) + 1) old := he₃
  show wpAny _ _ (newTuple [.int i tk, x] >>= _) _ _ ⟨h₃, g, dd, tk + 1, os⟩
  refine wpAny_bind (wpAny_newTuple ?_)
  have he₄ : IsEnum (h₃.push { cls := .type "tuple", data := .seq #[.int i tk, x] }) e it ((i : Int) + 1) old := Heap.get?_push_of_some _ he₃
  generalize hh₄ : h₃.push { cls := .type "tuple", data := .seq #[.int i tk, x] } = h₄ at he₄
  have hsz : h₃.objs.size = hp.objs.size := by rw [hs₃.1, hs₂.1, hs₁.1]
  have hel : e < hp.objs.size := Heap.lt_size he
  have ht₄ : h₄.get? hp.objs.size = some { cls := .type "tuple", data := .seq #[.int i tk, x] } := by rw [← hh₄, ← hsz]; exact Heap.get?_push_size _ rfl
  have hk₄ : ∀ b o, b ≠ e → h₁.get? b = some o → h₄.get? b = some o := fun b o hbe hb => by
    rw [← hh₄]; exact Heap.get?_push_of_some _ (hs₃.extBut b o hbe (hs₂.extBut b o hbe hb))
  show wpAny _ _ (Builtin.SmallTypes.ownedTupleIsFree (.ref e) >>= _) _ _ ⟨h₄, g, dd, tk + 1, os⟩
  rw [hsz]
  clear hh₄ he₃ hs₃ he₂ hs₂ he₁ hsz h₃ h₂
  refine wpAny_bind ?_
  · unfold Builtin.SmallTypes.ownedTupleIsFree
    refine wpAny_bind (wpAny_field he₄ rfl (x := .none) rfl (wpAny_pure ?_))
    simp only [if_true]
    refine wpAny_bind (wpAny_rule ?_)
    refine wpAny_bind (wpAny_field he₄ rfl (x := old) rfl ?_)
    refine wpAny_bind (wpAny_setField_rec he₄ (by simp) fun h₅ he₅ hs₅ => ?_)
    replace hs₅ : Heap.SameBut e h₄ h₅ := hs₅
    replace he₅ : IsEnum h₅ e it ((i : Int) + 1) x := he₅
    show wpAny _ _ (Builtin.SmallTypes.ownedTupleHandOut (.ref e) (.ref hp.objs.size) >>= _) _ _ ⟨h₅, g, dd, tk + 1, os⟩
    refine wpAny_bind ?_
    · unfold Builtin.SmallTypes.ownedTupleHandOut
      refine wpAny_bind (wpAny_setField_rec he₅ (by simp) fun h₆ he₆ hs₆ => ?_)
      replace hs₆ : Heap.SameBut e h₅ h₆ := hs₆
      replace he₆ : IsEnumOut h₆ e it ((i : Int) + 1) x hp.objs.size := he₆
      refine wpAny_setField_rec he₆ (by simp) fun h₇ he₇ hs₇ => ?_
      replace hs₇ : Heap.SameBut e h₆ h₇ := hs₇
      replace he₇ : IsEnumOut h₇ e it ((i : Int) + 1) x hp.objs.size := he₇
      have k₇ : ∀ b o, b ≠ e → h₁.get? b = some o → h₇.get? b = some o := fun b o hbe hb => hs₇.extBut b o hbe (hs₆.extBut b o hbe (hs₅.extBut b o hbe (hk₄ b o hbe hb)))
      refine wpAny_bind (wpAny_letGo (wpAny_pure ⟨_, rfl, hQ x h₇ tk (tk + 1) hx he₇ ?_ ?_ ?_⟩))
      · exact J.frame _ _ _ st₁ fun b hb o q => k₇ b o (fun z => hef (z ▸ hb)) q
      · exact hs₇.extBut _ _ (Nat.ne_of_gt hel) (hs₆.extBut _ _ (Nat.ne_of_gt hel) (hs₅.extBut _ _ (Nat.ne_of_gt hel) ht₄))
      · exact fun b o hbe hbi hb => k₇ b o hbe (hs₁.extBut b o hbi hb)

theorem WalksT.enumI (hh : A.handled = none) {e it : Addr} {fp : List Addr} {n : Nat} {d : Nat → Value → Prop} {Si : Nat → Heap → Prop} (J : ∀ A, A.handled = none → Inner prog w A it fp n d Si) (hei : e ≠ it) (hef : e ∉ fp) :
    WalksT prog w A e (e :: fp) [e, it] n (fun i vals => ∃ t x, d i x ∧ vals = #[.int i t, x])
      (fun i h => (∃ old, IsEnum h e it i old) ∧ Si i h)
      (fun i T h => (∃ x, IsEnumOut h e it ((i : Int) + 1) x T) ∧ Si (i + 1) h ∧ T ≠ e ∧ T ≠ it) where
  sub := fun b hb => by
    rcases List.mem_cons.mp hb with rfl | hb
    · exact List.mem_cons_self ..
    · rw [List.mem_singleton.mp hb]; exact List.mem_cons_of_mem _ (J A hh).mem
  frame := fun i h h' hst hk => by
    obtain ⟨⟨old, he⟩, st⟩ := hst
    exact ⟨⟨old, hk e (by simp) _ he⟩, (J A hh).frame _ _ _ st fun b hb o q => hk b (List.mem_cons_of_mem _ hb) o q⟩
  item := fun i s Q E hi hst hQ => by
    obtain ⟨⟨old, he⟩, st⟩ := hst
    have hT : s.TypeIs (.ref e) "enumerate" := ⟨_, he, rfl⟩
    unfold pyNext
    refine wpAny_bind (wpAny_attempt (wpAny_callSpecial?_slot (name := Str.ofString "__next__") hT F.slot_enumerate_next
      (wpAny_call_entry F.slot_enumerate_next hT F.entry_enumerate_next
        (enum_next (J A.in1 hh) hi he st hei hef fun x h' t tk hx ho st' hT' k => wpAny_pure ?_) (F.args_enumerate_next_1 _))))
    have helt : e < s.heap.objs.size := Heap.lt_size he
    exact hQ s.heap.objs.size #[.int i t, x] h' tk ⟨t, x, hx, rfl⟩ (Nat.le_refl _) ⟨_, hT', rfl, _, rfl⟩ ⟨⟨x, ho⟩, st', Nat.ne_of_gt helt, Nat.ne_of_gt (let ⟨_, q⟩ := (J A hh).live _ _ st; Heap.lt_size q)⟩ fun b o hb q => k b o (fun z => hb (by simp [z])) (fun z => hb (by simp [z])) q
  go := fun elts k pos i T s Q E hm hQ => by
    obtain ⟨⟨x, ho⟩, st, hTe, hTi⟩ := hm
    refine wpAny_letOwnedTupleGo_enum ho fun h' he' hs' => hQ h' ⟨⟨x, by simpa using he'⟩, (J A hh).frame _ _ _ st fun b hb o q => (hs'.2 b (fun z => hef (z ▸ hb))).trans q⟩ fun b o hb y => ?_
    exact (hs'.2 b fun e' => hb (by simp [e'])).trans y
  apart := fun i T h hm hT => by
    obtain ⟨_, _, hTe, hTi⟩ := hm
    rcases List.mem_cons.mp hT with rfl | hT
    · exact hTe rfl
    · exact hTi (List.mem_singleton.mp hT)
  done := fun s Q E hst hQ => by
    obtain ⟨⟨old, he⟩, st⟩ := hst
    have hT : s.TypeIs (.ref e) "enumerate" := ⟨_, he, rfl⟩
    unfold pyNext
    refine wpAny_bind (wpAny_attempt (wpAny_callSpecial?_slot (name := Str.ofString "__next__") hT F.slot_enumerate_next
      (wpAny_call_entry F.slot_enumerate_next hT F.entry_enumerate_next ?_ (F.args_enumerate_next_1 _))))
    show wpAny _ _ (field (.ref e) 2 >>= _) _ _ _
    refine wpAny_bind (wpAny_field he rfl (x := .ref it) rfl ?_)
    refine wpAny_bind ((J A.in1 hh).last _ _ _ st fun h' x he' hx' => ?_)
    obtain ⟨o, ho, hc⟩ := hx'
    refine wpAny_bind (wpAny_isInstance (T := "StopIteration") (b := true) ⟨o, ho, hc⟩ isSubtype_stop ?_)
    exact wpAny_pure (hQ _ s.toks fun b o hb y => he' b o (fun e' => hb (by simp [e'])) y)
  self := fun i s Q E hst hQ => by
    obtain ⟨⟨old, he⟩, _⟩ := hst
    exact wpAny_pyIter_enum he hQ

theorem Inner.list {it l : Addr} {items : Array Value} (hne : l ≠ it) (hh : A.handled = none) : Inner prog w A it [it, l] items.size (fun i v => items[i]? = some v) (fun i h => h.IsListIter it l i ∧ h.IsList l items) where
  mem := by simp
  live := fun i h st => let ⟨o, e, _⟩ := st.1; ⟨o, e⟩
  frame := fun i h h' st k => ⟨st.1.at fun o e => k it (by simp) o e, st.2.at fun o e => k l (by simp) o e⟩
  item := fun i s Q E hi st hQ => wpAny_nextOf_list_item st.1 st.2 (x := items[i]) (by simp [hi]) fun h' h1 h2 => hQ _ h' s.toks (by simp [hi]) ⟨h1, st.2.extBut h2.extBut hne⟩ h2
  last := fun s Q E st hQ => wpAny_nextOf_list_end hh st.1 st.2 (by simp) hQ

theorem Inner.bytes {it : Addr} {b : Array UInt8} {t : Tok} (hh : A.handled = none) : Inner prog w A it [it] b.size (fun i v => ∃ u, v = .int ((b.getD i 0).toNat : Int) u) (fun i h => KBw.IsBytesIter h it b t i) where
  mem := by simp
  live := fun i h st => let ⟨o, e, _⟩ := st; ⟨o, e⟩
  frame := fun i h h' st k => let ⟨o, e, r⟩ := st; ⟨o, k it (by simp) o e, r⟩
  item := fun i s Q E hi hit hQ => by
    obtain ⟨o, ho, hc, hd⟩ := id hit
    have hx : b[i]? = some (b.getD i 0) := by rw [Array.getD_eq_getD_getElem?]; simp [hi]
    unfold Builtin.SmallTypes.nextOf
    refine wpAny_bind (wpAny_callSpecial?_slot (name := Str.ofString "__next__") (KBw.iter_typeIs hit) KBw.slot_next
      (wpAny_call_entry KBw.slot_next (KBw.iter_typeIs hit) KBw.entry_next ?_ (KBw.args_next _)))
    show wpAny _ _ (field (.ref it) 0 >>= _) _ _ s
    refine wpAny_bind (wpAny_field ho hd (x := .bytes b t) rfl ?_)
    show wpAny _ _ (if (Value.bytes b t == Value.none) = true then _ else _) _ _ s
    rw [if_neg (show ¬ ((Value.bytes b t == Value.none) = true) from Bool.false_ne_true)]
    show wpAny _ _ (field (.ref it) 1 >>= _) _ _ s
    refine wpAny_bind (wpAny_field ho hd (x := .int i 0) rfl ?_)
    refine wpAny_bind (wpAny_of_eq (a := b) rfl ?_)
    simp only [Int.toNat_natCast, hx]
    refine wpAny_bind (wpAny_setField ho hd (by simp) (wpAny_bind (wpAny_mkInt (wpAny_pure ⟨_, rfl, wpAny_pure (hQ _ _ _ ⟨_, rfl⟩ ?_ (Heap.SameBut.update ..))⟩))))
    exact ⟨_, Heap.get?_update_self _ ho (Obj.isFreed_of_fields (Obj.data_mapFields hd _)), (Obj.cls_mapFields ..).trans hc, by
      rw [Obj.data_mapFields hd]; simp [rawInt]⟩
  last := fun s Q E hit hE => by
    obtain ⟨o, ho, hc, hd⟩ := id hit
    have hx : b[b.size]? = none := by simp
    unfold Builtin.SmallTypes.nextOf
    refine wpAny_bind (wpAny_callSpecial?_slot (name := Str.ofString "__next__") (KBw.iter_typeIs hit) KBw.slot_next
      (wpAny_call_entry KBw.slot_next (KBw.iter_typeIs hit) KBw.entry_next ?_ (KBw.args_next _)))
    show wpAny _ _ (field (.ref it) 0 >>= _) _ _ s
    refine wpAny_bind (wpAny_field ho hd (x := .bytes b t) rfl ?_)
    show wpAny _ _ (if (Value.bytes b t == Value.none) = true then _ else _) _ _ s
    rw [if_neg (show ¬ ((Value.bytes b t == Value.none) = true) from Bool.false_ne_true)]
    show wpAny _ _ (field (.ref it) 1 >>= _) _ _ s
    refine wpAny_bind (wpAny_field ho hd (x := .int (b.size : Nat) 0) rfl ?_)
    refine wpAny_bind (wpAny_of_eq (a := b) rfl ?_)
    simp only [Int.toNat_natCast, hx]
    refine wpAny_bind (wpAny_rule (wpAny_bind (wpAny_setField ho hd (by simp) ?_)))
    show wpAny _ _ (newExc (.type "StopIteration") [] >>= _) _ _ _
    refine wpAny_bind ?_
    simp only [newExc, newTuple]
    refine wpAny_bind (wpAny_newObj_type ?_ (by size_fits))
    refine wpAny_bind (m := firstArgMember _ _) (wpAny_of_eq (a := Value.none) (by first | rfl | (simp only [firstArgMember]; rfl)) ?_)
    refine wpAny_newObj_type ?_ (by size_fits)
    simp only [raiseNew]
    refine wpAny_bind (wpAny_handled ?_)
    first | rw [show A.in1.handled = none from hh] | rw [hh]
    refine wpAny_bind (wpAny_pure (wpAny_throw ?_))
    exact hE _ _ (((Heap.SameBut.update ..).extBut.push _).push _) ⟨_, Heap.get?_push_size _ rfl, rfl⟩

/-- a bytearray -/
def IsBA (h : Heap) (a : Addr) (b : Array UInt8) : Prop := h.get? a = some { cls := .type "bytearray", data := .bytearray b 0 }
def IsBAIter (h : Heap) (it a : Addr) (i : Nat) : Prop := ∃ o, h.get? it = some o ∧ o.cls = .type "bytearray_iterator" ∧ o.data = .fields #[.ref a, .int i 0]
theorem IsBAIter.ty {it a : Addr} {i : Nat} (y : IsBAIter s.heap it a i) : s.TypeIs (.ref it) "bytearray_iterator" := let ⟨o, ho, hc, _⟩ := y; ⟨o, ho, hc⟩
theorem IsBA.ty {a : Addr} {b : Array UInt8} (y : IsBA s.heap a b) : s.TypeIs (.ref a) "bytearray" := ⟨_, y, rfl⟩
theorem ba_slot_next : Slot "bytearray_iterator" "__next__" "bytearray_iterator.__next__" :=
  .of (owner := "bytearray_iterator") (n := "__next__") (by rw [typeLookup_type, builtinLookup_eq_fast]; kernel_rfl) (by decide +kernel) (by decide +kernel) (by decide +kernel)
    (by first | exact .inl (by decide +kernel) | exact .inr (by decide +kernel)) (by rw [isSubtype_type]; kernel_rfl)
theorem ba_slot_iter : Slot "bytearray" "__iter__" "bytearray.__iter__" :=
  .of (owner := "bytearray") (n := "__iter__") (by rw [typeLookup_type, builtinLookup_eq_fast]; kernel_rfl) (by decide +kernel) (by decide +kernel) (by decide +kernel)
    (by first | exact .inl (by decide +kernel) | exact .inr (by decide +kernel)) (by rw [isSubtype_type]; kernel_rfl)
theorem ba_entry_next : entryFor table "bytearray_iterator.__next__" = some Builtin.«bytearray_iterator.__next__» := entryFor_of_tree (by kernel_rfl)
theorem ba_entry_iter : entryFor table "bytearray.__iter__" = some Builtin.«bytearray.__iter__» := entryFor_of_tree (by kernel_rfl)
theorem ba_args_next (a : Value) : argsOk "bytearray_iterator.__next__" ⟨[a], []⟩ := by unfold argsOk; kernel_rfl
theorem ba_args_iter (a : Value) : argsOk "bytearray.__iter__" ⟨[a], []⟩ := by unfold argsOk; kernel_rfl
theorem pyIter_ba {a : Addr} {b : Array UInt8} {Q : Value → Shared → Prop} (y : IsBA s.heap a b) (hQ : Q (.ref s.heap.objs.size) { s with heap := s.heap.push { cls := .type "bytearray_iterator", data := .fields #[.ref a, .int 0 0] } }) :
    wpAny (model prog w) A (pyIter (.ref a)) Q E s := by
  refine wpAny_pyIter_slot y.ty ba_slot_iter (wpAny_call_entry ba_slot_iter y.ty ba_entry_iter ?_ (ba_args_iter _))
  show wpAny _ _ (do ret (← newFields "bytearray_iterator" [.ref a, rawInt 0])) _ _ s
  exact wpAny_bind (wpAny_newObj_type (wpAny_pure ⟨_, rfl, "bytearray_iterator", _, ⟨_, Heap.get?_push_size _ rfl, rfl⟩, ba_slot_next.lookup, hQ⟩))

theorem Inner.ba {it a : Addr} {b : Array UInt8} (hne : a ≠ it) (hh : A.handled = none) : Inner prog w A it [it, a] b.size (fun i v => ∃ u, v = .int ((b.getD i 0).toNat : Int) u) (fun i h => IsBAIter h it a i ∧ IsBA h a b) where
  mem := by simp
  live := fun i h st => let ⟨o, e, _⟩ := st.1; ⟨o, e⟩
  frame := fun i h h' st k => ⟨let ⟨o, e, r⟩ := st.1; ⟨o, k it (by simp) o e, r⟩, k a (by simp) _ st.2⟩
  item := fun i s Q E hi st hQ => by
    obtain ⟨hit, hb⟩ := st
    obtain ⟨o, ho, hc, hd⟩ := id hit
    have hx : b[i]? = some (b.getD i 0) := by rw [Array.getD_eq_getD_getElem?]; simp [hi]
    unfold Builtin.SmallTypes.nextOf
    refine wpAny_bind (wpAny_callSpecial?_slot (name := Str.ofString "__next__") hit.ty ba_slot_next
      (wpAny_call_entry ba_slot_next hit.ty ba_entry_next ?_ (ba_args_next _)))
    show wpAny _ _ (field (.ref it) 0 >>= _) _ _ s
    refine wpAny_bind (wpAny_field ho hd (x := .ref a) rfl ?_)
    show wpAny _ _ (load a >>= _) _ _ s
    refine wpAny_bind (wpAny_load hb ?_)
    show wpAny _ _ (field (.ref it) 1 >>= _) _ _ s
    refine wpAny_bind (wpAny_field ho hd (x := .int i 0) rfl ?_)
    simp only [Int.toNat_natCast, hx]
    refine wpAny_bind (wpAny_setField ho hd (by simp) (wpAny_bind (wpAny_mkInt (wpAny_pure ⟨_, rfl, wpAny_pure (hQ _ _ _ ⟨_, rfl⟩ ⟨?_, (Heap.get?_update_ne _ _ _ _ hne).trans hb⟩ (Heap.SameBut.update ..))⟩))))
    exact ⟨_, Heap.get?_update_self _ ho (Obj.isFreed_of_fields (Obj.data_mapFields hd _)), (Obj.cls_mapFields ..).trans hc, by
      rw [Obj.data_mapFields hd]; simp [rawInt]⟩
  last := fun s Q E st hE => by
    obtain ⟨hit, hb⟩ := st
    obtain ⟨o, ho, hc, hd⟩ := id hit
    have hx : b[b.size]? = none := by simp
    unfold Builtin.SmallTypes.nextOf
    refine wpAny_bind (wpAny_callSpecial?_slot (name := Str.ofString "__next__") hit.ty ba_slot_next
      (wpAny_call_entry ba_slot_next hit.ty ba_entry_next ?_ (ba_args_next _)))
    show wpAny _ _ (field (.ref it) 0 >>= _) _ _ s
    refine wpAny_bind (wpAny_field ho hd (x := .ref a) rfl ?_)
    show wpAny _ _ (load a >>= _) _ _ s
    refine wpAny_bind (wpAny_load hb ?_)
    show wpAny _ _ (field (.ref it) 1 >>= _) _ _ s
    refine wpAny_bind (wpAny_field ho hd (x := .int (b.size : Nat) 0) rfl ?_)
    simp only [Int.toNat_natCast, hx]
    refine wpAny_bind (wpAny_rule (wpAny_bind (wpAny_setField ho hd (by simp) ?_)))
    refine wpAny_bind (wpAny_letGo ?_)
    show wpAny _ _ (newExc (.type "StopIteration") [] >>= _) _ _ _
    refine wpAny_bind ?_
    simp only [newExc, newTuple]
    refine wpAny_bind (wpAny_newObj_type ?_ (by size_fits))
    refine wpAny_bind (m := firstArgMember _ _) (wpAny_of_eq (a := Value.none) (by first | rfl | (simp only [firstArgMember]; rfl)) ?_)
    refine wpAny_newObj_type ?_ (by size_fits)
    simp only [raiseNew]
    refine wpAny_bind (wpAny_handled ?_)
    first | rw [show A.in1.handled = none from hh] | rw [hh]
    refine wpAny_bind (wpAny_pure (wpAny_throw ?_))
    exact hE _ _ (((Heap.SameBut.update ..).extBut.push _).push _) ⟨_, Heap.get?_push_size _ rfl, rfl⟩
end
end Mine

set_option maxRecDepth 100000
set_option linter.unusedVariables false
namespace Mine
open PySem PySem.W PySem.Calls PyProof.Rows
open AutoSeq1 (wpAny_loadPart')

set_option maxHeartbeats 1000000 in
theorem meets_enumerate_newY (x : Array UInt8) (t : Tok) :
    Meets (Builtin.«enumerate.__new__» ⟨[.type "enumerate", .bytes x t], []⟩) (fun _ R s =>
      R (.ok (.ret (.ref (s.heap.push { cls := .type "bytes_iterator", data := .fields #[.bytes x t, .int 0 0] }).objs.size)))
        { s with heap := (s.heap.push { cls := .type "bytes_iterator", data := .fields #[.bytes x t, .int 0 0] }).push { cls := .type "enumerate", data := .fields #[.none, .bool false, .ref s.heap.objs.size, rawInt 0, .none, .none] } }) :=
  .of_wp fun prog w A R s h => by
    obtain ⟨hp, g, d, tk, os⟩ := s
    have hsub := sub_enumerate
    wp_walk
    refine wpAny_stack_any fun st => wpAny_pure ?_
    split
    · rename_i c _ _ _ _ _
      cases (c == Value.type "enumerate")
      · wp_walk using KBw.pyIter_bytes
        exact ⟨_, rfl, h⟩
      · wp_walk using KBw.pyIter_bytes
        exact ⟨_, rfl, h⟩
    · wp_walk using KBw.pyIter_bytes
      exact ⟨_, rfl, h⟩

set_option maxHeartbeats 1000000 in
theorem meets_enumerate_newA (l : Addr) (b : Array UInt8) :
    Meets (Builtin.«enumerate.__new__» ⟨[.type "enumerate", .ref l], []⟩) (fun _ R s => s.heap.get? l = some { cls := .type "bytearray", dict := none, data := .bytearray b 0, slots := #[] } ∧
      R (.ok (.ret (.ref (s.heap.push { cls := .type "bytearray_iterator", data := .fields #[.ref l, .int 0 0] }).objs.size)))
        { s with heap := (s.heap.push { cls := .type "bytearray_iterator", data := .fields #[.ref l, .int 0 0] }).push { cls := .type "enumerate", data := .fields #[.none, .bool false, .ref s.heap.objs.size, rawInt 0, .none, .none] } }) :=
  .of_wp fun prog w A R s h => by
    obtain ⟨hp, g, d, tk, os⟩ := s; obtain ⟨hl, h⟩ := h
    have hsub := sub_enumerate
    have hL : IsBA (Shared.heap ⟨hp, g, d, tk, os⟩) l b := hl
    wp_walk using wpAny_loadPart' hl
    refine wpAny_stack_any fun st => wpAny_pure ?_
    split
    · rename_i c _ _ _ _ _
      cases (c == Value.type "enumerate")
      · wp_walk using wpAny_loadPart' hl, pyIter_ba hL
        exact ⟨_, rfl, h⟩
      · wp_walk using wpAny_loadPart' hl, pyIter_ba hL
        exact ⟨_, rfl, h⟩
    · wp_walk using wpAny_loadPart' hl, pyIter_ba hL
      exact ⟨_, rfl, h⟩

end Mine

set_option maxRecDepth 100000
set_option linter.unusedVariables false
namespace Mine
open PySem PySem.W PySem.Calls PyProof.Rows

section
variable {prog : Program} {w : World} {A : Around} {h0 : Heap} {env : Env} {X : Addr → Prop}

/-- what a call of enumerate hands on: its inner iterator -/
def EnumSrc (prog : Program) (w : World) (n : Nat) (d : Nat → S) (Z : Addr → Prop) (s : Shared) (Q : Value → Shared → Prop) : Prop :=
  ∀ h' fp dv Si, IsEnum h' (s.heap.objs.size + 1) s.heap.objs.size 0 .none → Keep s.heap h' → (∀ A : Around, A.handled = none → Inner prog w A s.heap.objs.size (s.heap.objs.size :: fp) n dv Si) →
    (∀ a ∈ fp, (∃ o, s.heap.get? a = some o) ∧ (∀ m, ¬ s.heap.Ns a m) ∧ ¬ Z a) → (∀ i v, dv i v → (d i).is v) → Si 0 h' → Q (.ref (s.heap.objs.size + 1)) { s with heap := h' }

theorem enum_call {E Q : Value → Shared → Prop} {s : Shared} {v : Value} {o : Obj} {Pr : Shared → Prop} (hm : Meets (Builtin.«enumerate.__new__» ⟨[.type "enumerate", v], []⟩) (fun _ R s' => Pr s' ∧
      R (.ok (.ret (.ref (s'.heap.push o).objs.size))) { s' with heap := (s'.heap.push o).push { cls := .type "enumerate", data := .fields #[.none, .bool false, .ref s'.heap.objs.size, rawInt 0, .none, .none] } })) (hp : Pr s) (hf : o.isFreed = false)
    (h : ∀ h', IsEnum h' (s.heap.objs.size + 1) s.heap.objs.size 0 .none → h'.get? s.heap.objs.size = some o → Keep s.heap h' → Q (.ref (s.heap.objs.size + 1)) { s with heap := h' }) :
    wpAny (model prog w) A (call (.type "enumerate") [v]) Q E s := by
  refine callType_new F.called_enumerate (by decide) (F.typeCall_enumerate_1 _) (F.newCall_enumerate_1 _) (fun obj => F.args_object_init_2 obj _) F.entry_enumerate_new hm ⟨hp, ?_⟩
  have hz : (s.heap.push o).objs.size = s.heap.objs.size + 1 := Heap.size_push ..
  show _ ∧ _
  rw [hz]
  have he : IsEnum ((s.heap.push o).push { cls := .type "enumerate", data := .fields #[.none, .bool false, .ref s.heap.objs.size, rawInt 0, .none, .none] }) (s.heap.objs.size + 1) s.heap.objs.size 0 .none := by
    have := Heap.get?_push_size (s.heap.push o) (o := { cls := .type "enumerate", data := .fields #[.none, .bool false, .ref s.heap.objs.size, rawInt 0, .none, .none] }) rfl
    rw [hz] at this; exact this
  exact ⟨⟨_, he, rfl⟩, h _ he (Heap.get?_push_of_some _ (Heap.get?_push_size _ hf)) fun b o x => Heap.get?_push_of_some _ (Heap.get?_push_of_some _ x)⟩

theorem enum_src_list {v : Value} {ds : List S} {s : Shared} {Q E : Value → Shared → Prop} (p : isL X ds v s.heap) (h : EnumSrc prog w ds.length (fun i => ds.getD i .none) X s Q) : wpAny (model prog w) A (call (.type "enumerate") [v]) Q E s := by
  obtain ⟨l, vs, rfl, n, hl, z⟩ := p
  have hz : vs.size = ds.length := by rw [z.length]; simp
  have hne : l ≠ s.heap.objs.size := fun e => by obtain ⟨o, e', _⟩ := hl; rw [e, get_size] at e'; cases e'
  refine call_enumerate_list hl fun h' h1 h2 _ k => h h' [l] _ _ h1 k (fun A hh => hz ▸ Inner.list hne hh) (fun a ha => ?_) (fun i v e => ?_) ⟨h2, hl.at fun o e => k l o e⟩
  · rw [List.mem_singleton.mp ha]
    exact ⟨let ⟨o, e, _⟩ := hl; ⟨o, e⟩, fun m => list_notNs hl, n⟩
  · have hlt : i < ds.length := by rw [← hz]; exact (Array.getElem?_eq_some_iff.mp e).1
    have hd : ds[i]? = some (ds.getD i .none) := by simp [hlt]
    obtain ⟨v', h1, h2⟩ := paired_get z hd
    have : v' = v := by
      have e' : vs.toList[i]? = some v := by simpa using e
      rw [h1] at e'; exact Option.some.inj e'
    exact this ▸ h2
theorem enum_src_bytes {b : Array UInt8} {t : Tok} {s : Shared} {Q E : Value → Shared → Prop} (h : EnumSrc prog w b.size (fun i => .int ((b.getD i 0).toNat : Int)) X s Q) : wpAny (model prog w) A (call (.type "enumerate") [.bytes b t]) Q E s :=
  enum_call (o := { cls := .type "bytes_iterator", data := .fields #[.bytes b t, .int 0 0] }) (Pr := fun _ => True) (s := s) (fun prog w A R s x => meets_enumerate_newY b t prog w A R s x.2) trivial rfl fun h' h1 h2 k =>
    h h' [] _ _ h1 k (fun A hh => Inner.bytes hh) (fun a ha => by cases ha) (fun i v e => e) ⟨_, h2, rfl, rfl⟩
theorem enum_src_ba {a : Addr} {b : Array UInt8} {s : Shared} {Q E : Value → Shared → Prop} (p : IsBA s.heap a b) (hX : ¬ X a) (h : EnumSrc prog w b.size (fun i => .int ((b.getD i 0).toNat : Int)) X s Q) : wpAny (model prog w) A (call (.type "enumerate") [.ref a]) Q E s := by
  have hne : a ≠ s.heap.objs.size := fun e => by rw [IsBA, e, get_size] at p; cases p
  refine enum_call (o := { cls := .type "bytearray_iterator", data := .fields #[.ref a, .int 0 0] }) (meets_enumerate_newA a b) p rfl fun h' h1 h2 k => h h' [a] _ _ h1 k (fun A hh => Inner.ba hne hh) (fun c hc => ?_) (fun i v e => e) ⟨⟨_, h2, rfl, rfl⟩, k _ _ p⟩
  rw [List.mem_singleton.mp hc]
  exact ⟨⟨_, p⟩, fun m n => (by obtain ⟨o, _, _, e, d, _⟩ := n; rw [p] at e; cases e; cases d), hX⟩

theorem evit_enum {e : Expr} {id : Str} {p pos px py tp : Pos} {x y : Str} {kk : Nat} {n : Nat} {P₁ : PV} (hh : A.handled = none) (hf : Ev prog w A h0 (eval (.Name id p) env) (isV (.type "enumerate"))) (he : Ev prog w A h0 (eval e env) P₁) (hne : x ≠ y) (m : Mono P₁)
    (hse : starEach [e] env = [(false, eval e env)]) {d : Nat → S} (src : ∀ v s Q (E : Value → Shared → Prop), P₁ v s.heap → EnumSrc prog w n d X s Q → wpAny (model prog w) A (call (.type "enumerate") [v]) Q E s) :
    EvIt prog w A h0 env (.Call (.Name id p) [e] [] pos) (.Tuple [.Name x px, .Name y py] kk tp) n (fun i => [(x, S.int i), (y, d i)]) X := fun s Q E k q => by
  refine wpAny_Call_Name_kw (hf s _ E k fun f h₁ tk₁ k₁ ef => ?_)
  have ef' : f = .type "enumerate" := ef
  subst ef'
  refine callWith_type1 (ev_args1 (P₁ := fun v h => P₁ v h) he m hse ⟨h₁, s.gens, s.drawn, tk₁, s.os⟩ _ E (k.trans k₁) fun vs h₂ tk₂ k₂ ⟨v, e1, p1⟩ => ?_) hse rfl
  · subst e1
    refine src v ⟨h₂, s.gens, s.drawn, tk₂, s.os⟩ _ E p1 fun h₃ fp dv Si h1 k₃ J hfp hd st => ?_
    have kk : Keep s.heap h₃ := k₁.trans (k₂.trans k₃)
    refine wpAny_pyIter_enum h1 (q _ h₃ tk₂ kk ?_)
    have hsz : s.heap.get? h₂.objs.size = none := none_of_keep (k₁.trans k₂) get_size
    have hsz1 : s.heap.get? (h₂.objs.size + 1) = none := none_of_keep (k₁.trans k₂) (Heap.get?_none_of_le (Nat.le_succ _))
    have hef : h₂.objs.size + 1 ∉ h₂.objs.size :: fp := by
      intro hm
      rcases List.mem_cons.mp hm with z | z
      · exact absurd z (Nat.succ_ne_self _)
      · obtain ⟨o, eo⟩ := (hfp _ z).1
        exact absurd (Heap.lt_size eo) (Nat.not_lt.mpr (Nat.le_succ _))
    refine ⟨(· ∈ (h₂.objs.size + 1) :: h₂.objs.size :: fp), (· ∈ [h₂.objs.size + 1, h₂.objs.size]), fun i h => (∃ old, IsEnum h (h₂.objs.size + 1) h₂.objs.size i old) ∧ Si i h, fun a ha => ⟨?_, ?_⟩, fun a ha => ?_, ⟨⟨_, h1⟩, st⟩, fun env' hk ht hL => ?_⟩
    · simp only [List.mem_cons, List.not_mem_nil, or_false] at ha ⊢
      rcases ha with ha | ha
      · exact .inl ha
      · exact .inr (.inl ha)
    · simp only [List.mem_cons, List.not_mem_nil, or_false] at ha
      rcases ha with rfl | rfl
      · exact hsz1
      · exact hsz
    · simp only [List.mem_cons] at ha
      rcases ha with rfl | rfl | ha
      · exact ⟨⟨_, h1⟩, fun o m e => (by rw [hsz1] at e; cases e), fun o e => (by rw [hsz1] at e; cases e)⟩
      · exact ⟨(J A hh).live _ _ st, fun o m e => (by rw [hsz] at e; cases e), fun o e => (by rw [hsz] at e; cases e)⟩
      · exact ⟨let ⟨o, e⟩ := (hfp a ha).1; ⟨o, k₃ a o e⟩, fun o m _ n => (hfp a ha).2.1 m (n.keeps (k₁.trans k₂)), fun _ _ => (hfp a ha).2.2⟩
    · have W := WalksT.enumI (A := A) hh J (Nat.succ_ne_self _) hef
      refine Itr.ofWalksT W hh (d := fun i => .int i) (e := d) ?_ hne hk ht.1 ht.2 hL fun i h st a ha => ?_
      rotate_left
      · rcases List.mem_cons.mp ha with rfl | ha
        · exact let ⟨old, e⟩ := st.1; ⟨_, e⟩
        · rw [List.mem_singleton.mp ha]; exact (J A hh).live _ _ st.2
      rintro i vs ⟨t, x, hx, e⟩
      exact ⟨_, _, e, ⟨t, rfl⟩, hd i x hx⟩

/-- a bytearray that no one changes, or a bytes object -/
abbrev isA (X : Addr → Prop) (b : Array UInt8) : PV := fun v h => ∃ a, v = .ref a ∧ ¬ X a ∧ IsBA h a b
abbrev isBy (X : Addr → Prop) (b : Array UInt8) : PV := fun v h => isY b v h ∨ isA X b v h
theorem isA.keep {b : Array UInt8} {v : Value} {h h' : Heap} (p : isA X b v h) (k : KeepB X h h') : isA X b v h' := let ⟨a, e, n, q⟩ := p; ⟨a, e, n, k _ _ n q⟩
theorem isBy.keep {b : Array UInt8} {v : Value} {h h' : Heap} (p : isBy X b v h) (k : KeepB X h h') : isBy X b v h' := p.imp id fun p => isA.keep p k
theorem isBy.widen {X' : Addr → Prop} {b : Array UInt8} {v : Value} {h : Heap} (p : isBy X b v h) (hf : ∀ a, X' a → ¬ X a → h.get? a = none) : isBy X' b v h := p.imp id fun ⟨a, e, n, q⟩ => ⟨a, e, fun z => (by rw [IsBA, hf a z n] at q; cases q), q⟩
theorem Stable.by {b} : Stable X (isBy X b) := fun _ _ _ k p => isBy.keep p k
theorem Mono.by {b} : Mono (isBy X b) := Stable.by.mono
theorem enum_src_by {v : Value} {b : Array UInt8} {s : Shared} {Q E : Value → Shared → Prop} (p : isBy X b v s.heap) (h : EnumSrc prog w b.size (fun i => .int ((b.getD i 0).toNat : Int)) X s Q) : wpAny (model prog w) A (call (.type "enumerate") [v]) Q E s := by
  rcases p with ⟨t, rfl⟩ | ⟨a, rfl, n, p⟩
  · exact enum_src_bytes h
  · exact enum_src_ba p n h
end
end Mine

set_option maxRecDepth 100000
set_option linter.unusedVariables false
namespace Mine
open PySem PySem.W PySem.Calls PyProof.Rows

def cutL {α : Type} (l : List α) (lo hi : Option Int) : List α := (l.drop (lo.elim 0 (clipAt l.length))).take (hi.elim l.length (clipAt l.length) - lo.elim 0 (clipAt l.length))
abbrev isP (a : Option Int) : PV := fun v _ => IsPart v a
abbrev isSl (a b : Option Int) : PV := fun v h => ∃ sl vl vu, v = .ref sl ∧ h.IsSliceOf sl vl vu .none ∧ IsPart vl a ∧ IsPart vu b

section
variable {prog : Program} {w : World} {A : Around} {K : Frag} {g0 h0 h h' : Heap} {mg mb : Str → Option Value} {env : Env} {X Y : Addr → Prop} {ρ ρ' : List (Str × PV)} {P P₁ P₂ P₃ : PV}

theorem ev_pow {l r : Expr} {pos : Pos} {a b : Int} (x : Ev prog w A h0 (eval l env) (isI a)) (y : Ev prog w A h0 (eval r env) (isI b)) (hn : 0 ≤ b) (hsz : (Builtin.Int.intBits a : Int) * b ≤ 2 ^ 27) : Ev prog w A h0 (eval (.BinOp l .Pow r pos) env) (isI (a ^ b.toNat)) :=
  ev_binI x y fun _ _ _ s _ _ _ h => pow_int hn hsz (h _ s.heap _ (fun _ _ e => e) ⟨_, rfl⟩)
theorem ev_shl {l r : Expr} {pos : Pos} {a b : Int} (x : Ev prog w A h0 (eval l env) (isI a)) (y : Ev prog w A h0 (eval r env) (isI b)) (hn : 0 ≤ b) (hsz : b ≤ 1000000) (ha : a.natAbs < 2 ^ 64) : Ev prog w A h0 (eval (.BinOp l .LShift r pos) env) (isI (a * 2 ^ b.toNat)) :=
  ev_binI x y fun _ _ _ s _ _ _ h => lshift_int_small hn hsz ha (h _ s.heap _ (fun _ _ e => e) ⟨_, rfl⟩)
theorem ev_and {l r : Expr} {pos : Pos} {a b : Int} (x : Ev prog w A h0 (eval l env) (isI a)) (y : Ev prog w A h0 (eval r env) (isI b)) : Ev prog w A h0 (eval (.BinOp l .BitAnd r pos) env) (isI (Builtin.bitAnd a b)) :=
  ev_binI x y fun _ _ _ s _ _ _ h => and_int (h _ s.heap _ (fun _ _ e => e) ⟨_, rfl⟩)

/-- comparisons as values and as tests -/
theorem cmp_eqI {a b : Int} {v u : Value} (x : isI a v h) (y : isI b u h) : Ev prog w A h (compareOp .Eq v u) (isB (a == b)) := fun s _ _ _ q => by
  obtain ⟨t, rfl⟩ := x; obtain ⟨t', rfl⟩ := y; exact PyProof.Rows.eq_int (q _ s.heap s.toks (fun _ _ e => e) rfl)
theorem cmp_neI {a b : Int} {v u : Value} (x : isI a v h) (y : isI b u h) : Ev prog w A h (compareOp .NotEq v u) (isB (a != b)) := fun s _ _ _ q => by
  obtain ⟨t, rfl⟩ := x; obtain ⟨t', rfl⟩ := y; exact PyProof.Rows.ne_int (q _ s.heap s.toks (fun _ _ e => e) rfl)
theorem cmp_eqS {a b : Str} {v u : Value} (x : isS a v h) (y : isS b u h) : Ev prog w A h (compareOp .Eq v u) (isB (a == b)) := fun s _ _ _ q => by
  obtain ⟨t, rfl⟩ := x; obtain ⟨t', rfl⟩ := y; exact PyProof.Rows.eq_str (q _ s.heap s.toks (fun _ _ e => e) rfl)
theorem cmp_neS {a b : Str} {v u : Value} (x : isS a v h) (y : isS b u h) : Ev prog w A h (compareOp .NotEq v u) (isB (a != b)) := fun s _ _ _ q => by
  obtain ⟨t, rfl⟩ := x; obtain ⟨t', rfl⟩ := y; exact PyProof.Rows.ne_str (q _ s.heap s.toks (fun _ _ e => e) rfl)
theorem cmp_eqB {a b : Bool} {v u : Value} (x : isB a v h) (y : isB b u h) : Ev prog w A h (compareOp .Eq v u) (isB (a == b)) := fun s _ _ _ q => by
  cases x; cases y; exact PyProof.Rows.eq_bool (q _ s.heap s.toks (fun _ _ e => e) rfl)
theorem cmp_neB {a b : Bool} {v u : Value} (x : isB a v h) (y : isB b u h) : Ev prog w A h (compareOp .NotEq v u) (isB (a != b)) := fun s _ _ _ q => by
  cases x; cases y; exact PyProof.Rows.ne_bool (q _ s.heap s.toks (fun _ _ e => e) rfl)
theorem cmp_neY {a b : Array UInt8} {v u : Value} (x : isY a v h) (y : isY b u h) : Ev prog w A h (compareOp .NotEq v u) (isB (a != b)) := fun s _ _ _ q => by
  obtain ⟨t, rfl⟩ := x; obtain ⟨t', rfl⟩ := y
  refine ne_bytes (q _ s.heap s.toks (fun _ _ e => e) ?_)
  show Value.bool _ = .bool _
  congr 1
  rw [Bool.eq_iff_iff]; simp
theorem tr_b {b : Bool} {v : Value} (x : isB b v h) : Ev prog w A h (truthy v) (fun c _ => c = b) := fun s _ _ _ q => by
  cases x; exact wpAny_truthy_bool (q _ s.heap s.toks (fun _ _ e => e) rfl)
theorem tr_i {n : Int} {v : Value} (x : isI n v h) : Ev prog w A h (truthy v) (fun c _ => c = (n != 0)) := fun s _ _ _ q => by
  obtain ⟨t, rfl⟩ := x; exact PyProof.Rows.truthy_int (q _ s.heap s.toks (fun _ _ e => e) rfl)

/-- texts -/
theorem ev_addS {l r : Expr} {pos : Pos} {a b : Str} (x : Ev prog w A h0 (eval l env) (isS a)) (y : Ev prog w A h0 (eval r env) (isS b)) (hz : a.length + b.length ≤ sizeLine) : Ev prog w A h0 (eval (.BinOp l .Add r pos) env) (isS (a ++ b)) :=
  ev_bin x y (fun _ _ _ _ p => p) fun _ _ _ _ ⟨t, e⟩ ⟨u, e'⟩ => by
    subst e e'; exact fun s Q E k q => PyProof.Rows.add_str (fun t' tk => q _ s.heap tk (fun _ _ e => e) ⟨_, rfl⟩) hz
theorem ev_item_str {value slice : Expr} {pos : Pos} {x : Str} {i : Int} {c : Nat} (e : Ev prog w A h0 (eval value env) (isS x)) (y : Ev prog w A h0 (eval slice env) (isI i)) (hi : 0 ≤ i) (hz : i < 2 ^ 62) (hd : x.cps[i.toNat]? = some c)
    (hs : ∀ t u, subscripted slice false (.str x t) (.int i u) = operate [.str x t, .int i u] (getItem (.str x t) (.int i u))) : Ev prog w A h0 (eval (.Subscript value slice pos) env) (isS ⟨#[c]⟩) :=
  ev_item e y Mono.s fun v u h k ⟨t, e1⟩ ⟨u', e2⟩ => by
    subst e1 e2
    refine ⟨"str", _, fun s e => typeIs_str _ _ _, F.slot_str_getitem.lookup, ⟨_, hs t u'⟩, fun s Q E k' q => ?_⟩
    have hlt : i.toNat < x.length := (Array.getElem?_eq_some_iff.mp hd).1
    refine P.getItem_str (c := c) (by simp; omega) ?_ (q _ s.heap _ (fun _ _ e => e) ⟨_, rfl⟩)
    have hs' : seqIndex? i x.length = some i.toNat := by
      unfold seqIndex?
      have : ¬ i < 0 := by omega
      simp [this]; omega
    rw [hs']; exact hd

/-- cuts -/
theorem ev_part0 : Ev prog w A h0 (evalPart none env) (isP none) := fun s Q E k q => by
  rw [evalPart_none]; exact wpAny_pure (q _ s.heap s.toks (fun _ _ e => e) .none)
theorem ev_part1 {e : Expr} {n : Int} (x : Ev prog w A h0 (eval e env) (isI n)) : Ev prog w A h0 (evalPart (some e) env) (isP (some n)) := fun s Q E k q => by
  rw [evalPart_some]; exact x s Q E k fun v h' tk k' ⟨t, e⟩ => q v h' tk k' (e ▸ .int n t)
theorem ev_slice {lo hi : Option Expr} {pos : Pos} {a b : Option Int} (x : Ev prog w A h0 (evalPart lo env) (isP a)) (y : Ev prog w A h0 (evalPart hi env) (isP b)) : Ev prog w A h0 (eval (.Slice lo hi none pos) env) (isSl a b) := fun s Q E k q =>
  wpAny_Slice (x s _ E k fun v h₁ tk₁ k₁ p₁ => y _ _ E (k.trans k₁) fun u h₂ tk₂ k₂ p₂ => by
    rw [evalPart_none]
    exact wpAny_pure (q _ _ _ ((k₁.trans k₂).trans keep_push) ⟨h₂.objs.size, v, u, rfl, ⟨_, Heap.get?_push_size _ rfl, rfl, rfl⟩, p₁, p₂⟩))
theorem isSl.keep {a b v} (k : Keep h h') (p : isSl a b v h) : isSl a b v h' := by
  obtain ⟨sl, vl, vu, e, ⟨o, e1, e2⟩, p1, p2⟩ := p
  exact ⟨sl, vl, vu, e, ⟨o, k _ _ e1, e2⟩, p1, p2⟩
theorem paired_drop {α β : Type} {F : α → β → Prop} : ∀ {l₁ : List α} {l₂ : List β}, Paired F l₁ l₂ → ∀ n, Paired F (l₁.drop n) (l₂.drop n)
  | _, _, .nil, n => by simp; exact .nil
  | _, _, .cons h t, 0 => .cons h t
  | _, _, .cons h t, n + 1 => by simpa using paired_drop t n
theorem paired_take {α β : Type} {F : α → β → Prop} : ∀ {l₁ : List α} {l₂ : List β}, Paired F l₁ l₂ → ∀ n, Paired F (l₁.take n) (l₂.take n)
  | _, _, .nil, n => by simp; exact .nil
  | _, _, .cons h t, 0 => by simp; exact .nil
  | _, _, .cons h t, n + 1 => by simpa using .cons h (paired_take t n)
theorem paired_append {α β : Type} {F : α → β → Prop} : ∀ {l₁ l₃ : List α} {l₂ l₄ : List β}, Paired F l₁ l₂ → Paired F l₃ l₄ → Paired F (l₁ ++ l₃) (l₂ ++ l₄)
  | _, _, _, _, .nil, q => q
  | _, _, _, _, .cons h t, q => .cons h (paired_append t q)
theorem ev_cut_list {value slice : Expr} {pos : Pos} {ds : List S} {a b : Option Int} (x : Ev prog w A h0 (eval value env) (isL X ds)) (y : Ev prog w A h0 (eval slice env) (isSl a b)) (hlive : ∀ a, X a → ∃ o, h0.get? a = some o) (hz : ds.length ≤ sizeLine)
    (hs : ∀ l u, ∃ ops, subscripted slice false (.ref l) (.ref u) = operate ops (getItem (.ref l) (.ref u))) : Ev prog w A h0 (eval (.Subscript value slice pos) env) (isL X (cutL ds a b)) :=
  ev_item x y Mono.l fun v u h k ⟨l, vs, e, n, hl, z⟩ ⟨sl, vl, vu, e', hsl, p1, p2⟩ => by
    subst e e'
    have ez : vs.toList.length = ds.length := z.length.symm
    refine ⟨"list", "list.__getitem__", fun s e => by subst e; exact hl.typeIs, slot_list_getitem.lookup, hs l sl, fun s Q E k' q => ?_⟩
    refine wpAny_getItem_list_slice (hl.at fun o e => k' l o e) (let ⟨o, e1, e2⟩ := hsl; ⟨o, k' _ _ e1, e2⟩) p1 p2 .none (by simp) (q _ _ s.toks keep_push ⟨_, _, rfl, fun hx => ?_, (Heap.PlainList.isList ⟨_, Heap.get?_push_size _ rfl⟩), ?_⟩) (by simpa [← ez] using hz)
    · obtain ⟨o, eo⟩ := hlive _ hx
      have := k' _ _ (k _ _ eo); rw [get_size] at this; cases this
    · rw [slicePick_plain]
      have : vs.size = ds.length := by simpa using ez
      rw [this]
      exact paired_take (paired_drop z _) _
theorem indices_eq (lo hi : Option Int) (n : Nat) : Builtin.Str.strSliceIndices lo hi 1 n = sliceRange ((lo.elim 0 (clipAt n) : Nat) : Int) ((hi.elim n (clipAt n) : Nat) : Int) 1 := by
  have e : Builtin.Str.strSliceIndices lo hi 1 n = sliceRange (sliceBounds lo hi none n).1 (sliceBounds lo hi none n).2.1 1 := by cases lo <;> cases hi <;> rfl
  rw [e, sliceBounds_plain]
theorem clipAt_le (n : Nat) (i : Int) : clipAt n i ≤ n := by have := clipAt_cast n i; omega
theorem cutL_all {α : Type} {l : List α} {a b : Option Int} (e : (b.elim l.length (clipAt l.length)) - (a.elim 0 (clipAt l.length)) = l.length) : cutL l a b = l := by
  have h1 : b.elim l.length (clipAt l.length) ≤ l.length := by
    cases b with
    | none => exact Nat.le_refl _
    | some i => exact clipAt_le _ _
  unfold cutL
  generalize b.elim l.length (clipAt l.length) = B at *
  generalize a.elim 0 (clipAt l.length) = C at *
  rw [e]
  cases hl : l with
  | nil => simp
  | cons x r =>
    have : 0 < l.length := by rw [hl]; simp
    have : C = 0 := by omega
    subst this; simp
def sL (l : List Nat) : Str := ⟨l.toArray⟩
theorem sL_self (x : Str) : sL x.cps.toList = x := rfl
theorem ev_cut_str {value slice : Expr} {pos : Pos} {x : Str} {a b : Option Int} (e : Ev prog w A h0 (eval value env) (isS x)) (y : Ev prog w A h0 (eval slice env) (isSl a b)) (hz : x.length ≤ sizeLine)
    (hs : ∀ l u, ∃ ops, subscripted slice false l u = operate ops (getItem l u)) : Ev prog w A h0 (eval (.Subscript value slice pos) env) (isS (sL (cutL x.cps.toList a b))) :=
  ev_item e y Mono.s fun v u h k ⟨t, e1⟩ ⟨sl, vl, vu, e', hsl, p1, p2⟩ => by
    subst e1 e'
    refine ⟨"str", _, fun s e => typeIs_str _ _ _, F.slot_str_getitem.lookup, hs _ _, fun s Q E k' q => ?_⟩
    have part : ∀ {v p}, IsPart v p → ∃ l : Option (Int × Tok), v = partValue l ∧ l.map (·.1) = p := fun {v p} ip => by
      cases ip with
      | none => exact ⟨none, rfl, rfl⟩
      | int i t => exact ⟨some (i, t), rfl, rfl⟩
    obtain ⟨l, rfl, hl⟩ := part p1
    obtain ⟨u, rfl, hu⟩ := part p2
    obtain ⟨o, e1, e2⟩ := hsl
    refine wpAny_getItem_str_slice (l := l) (u := u) (st := none) ⟨o, k' _ _ e1, e2⟩ rfl ?_
    have hcut : (slicePicked x l u none).filterMap (x.cps[·]?) = cutL x.cps.toList a b := by
      unfold slicePicked
      show (Builtin.Str.strSliceIndices _ _ 1 _).filterMap _ = _
      rw [indices_eq, hl, hu, sliceRange_one, pick_run]
      rfl
    unfold sliceMade
    rw [hcut]
    have hle : ((cutL x.cps.toList a b).length : Nat) ≤ x.length := by
      unfold cutL; simp only [List.length_take, List.length_drop, Array.length_toList]; exact Nat.le_trans (Nat.min_le_right _ _) (Nat.sub_le _ _)
    split
    · rename_i hc
      refine q _ s.heap s.toks (fun _ _ e => e) ⟨t, ?_⟩
      have hlen : (slicePicked x l u none).length = x.length := by simpa using hc
      have : cutL x.cps.toList a b = x.cps.toList := cutL_all (by
        unfold slicePicked at hlen
        have h2 : (Builtin.Str.strSliceIndices (l.map (·.1)) (u.map (·.1)) 1 x.length).length = x.length := hlen
        rw [indices_eq, hl, hu, sliceRange_one] at h2
        have e4 : x.length = x.cps.toList.length := by simp [Str.length]
        rw [← e4]
        simpa using h2)
      rw [this]; rfl
    · exact ⟨by show (cutL x.cps.toList a b).toArray.size ≤ _; simpa using Nat.le_trans hle hz, q _ s.heap _ (fun _ _ e => e) ⟨_, rfl⟩⟩
theorem ev_cut_bytes {value slice : Expr} {pos : Pos} {x : Array UInt8} {a b : Option Int} (e : Ev prog w A h0 (eval value env) (isY x)) (y : Ev prog w A h0 (eval slice env) (isSl a b)) (hz : x.size ≤ sizeLine)
    (hs : ∀ l u, ∃ ops, subscripted slice false l u = operate ops (getItem l u)) : Ev prog w A h0 (eval (.Subscript value slice pos) env) (isY (cutL x.toList a b).toArray) :=
  ev_item e y Mono.y fun v u h k ⟨t, e1⟩ ⟨sl, vl, vu, e', hsl, p1, p2⟩ => by
    subst e1 e'
    refine ⟨"bytes", _, fun s e => typeIs_bytes _ _ _, FB.slot_bytes_getitem.lookup, hs _ _, fun s Q E k' q => ?_⟩
    obtain ⟨o, e1, e2⟩ := hsl
    refine getItem_meets (typeIs_bytes _ _ _) (by decide) FB.slot_bytes_getitem FB.entry_bytes_getitem (FB.args_bytes_getitem_2 _ _) (KBc.meets_slice2 x t _ p1 p2) ⟨⟨o, k' _ _ e1, e2⟩, ?_, fun t' k => q _ s.heap k (fun _ _ e => e) ⟨t', ?_⟩⟩
    · rw [KBc.picked_eq]; simp only [List.size_toArray, List.length_take, List.length_drop, Array.length_toList]; exact Nat.le_trans (Nat.min_le_right _ _) (Nat.le_trans (Nat.sub_le _ _) hz)
    · rw [KBc.picked_eq]; unfold cutL; rfl

/-- lists put together -/
theorem ev_addL {l r : Expr} {pos : Pos} {ds es : List S} (x : Ev prog w A h0 (eval l env) (isL X ds)) (y : Ev prog w A h0 (eval r env) (isL X es)) (hlive : ∀ a, X a → ∃ o, h0.get? a = some o) (hz : ds.length + es.length ≤ sizeLine) :
    Ev prog w A h0 (eval (.BinOp l .Add r pos) env) (isL X (ds ++ es)) :=
  ev_bin x y Mono.l fun a b h k ⟨l, vs, e, n, hl, z⟩ ⟨l', vs', e', n', hl', z'⟩ s Q E k' q => by
    subst e e'
    have ez : vs.size = ds.length := by have := z.length; simpa using this.symm
    have ez' : vs'.size = es.length := by have := z'.length; simpa using this.symm
    obtain ⟨⟨cls, dd, data, sl⟩, ho, hc, nn, hd⟩ := id hl
    obtain ⟨⟨cls2, dd2, data2, sl2⟩, ho2, hc2, nn2, hd2⟩ := id hl'
    simp only at hc hd hc2 hd2
    subst hc hd hc2 hd2
    refine concat_meets ⟨_, k' _ _ ho, rfl⟩ ⟨_, k' _ _ ho2, rfl⟩ noFill_list_add seq_list_add PySem.F.slot_list_add PySem.F.entry_list_add (PySem.F.args_list_add_2 _ _) (list_addW l l' vs vs' nn nn2 dd dd2 sl sl2 (by rw [ez, ez']; exact hz)) ⟨k' _ _ ho, k' _ _ ho2, ?_⟩
    refine q _ _ s.toks keep_push ⟨_, _, rfl, fun hx => ?_, Heap.PlainList.isList ⟨_, Heap.get?_push_size _ rfl⟩, ?_⟩
    · obtain ⟨o, eo⟩ := hlive _ hx
      have := k' _ _ (k _ _ eo); rw [get_size] at this; cases this
    · simpa using paired_append z z'

theorem preSum_list (ns : List Int) : preSum (fun i => ns.getD i 0) ns.length = ns.sum := by
  have : ∀ k, k ≤ ns.length → preSum (fun i => ns.getD i 0) k = (ns.take k).sum := by
    intro k
    induction k with
    | zero => intro _; simp [preSum]
    | succ k ih =>
      intro hk
      rw [preSum, ih (by omega), List.take_add_one]
      have : ns[k]? = some (ns.getD k 0) := by simp [Nat.lt_of_succ_le hk]
      rw [this]; simp
  have := this ns.length (Nat.le_refl _)
  simpa using this
theorem call_sumL {v : Value} {ns : List Int} (hh : A.handled = none) (p : isLI X ns v h) : Ev prog w A h (call (.builtin "sum") [v]) (isI ns.sum) := fun s Q E k q => by
  obtain ⟨l, vs, rfl, n, hl, z⟩ := p
  have ez : vs.size = ns.length := by have := z.length; simpa using this.symm
  have hl' : s.heap.IsList l vs := hl.at fun o e => k l o e
  have hlI : l ≠ s.heap.objs.size := fun e => by obtain ⟨o, e', _⟩ := hl'; rw [e] at e'; rw [get_size] at e'; cases e'
  refine call_sum_walkAnyS (wpAny_pyIter_list hl' ⟨s.heap.objs.size, _, _, _, _, _, _, fun i => ns.getD i 0, rfl, (Walks.list (A := A.in1) hh s.heap.objs.size l hlI vs).toS, ?_, ?_, ?_, fun s' t' hm => ?_⟩)
  · exact ⟨⟨_, Heap.get?_push_size _ rfl, rfl, rfl⟩, hl'.at fun o e => keep_push l o e⟩
  · intro b hb
    show b < (s.heap.push _).objs.size
    rw [Heap.size_push]
    rcases List.mem_cons.mp hb with rfl | hb
    · exact Nat.lt_succ_self _
    · rw [List.mem_singleton.mp hb]; obtain ⟨o, e', _⟩ := hl'; exact Nat.lt_succ_of_lt (Heap.lt_size e')
  · intro i v e
    have hlt : i < ns.length := by rw [← ez]; exact (Array.getElem?_eq_some_iff.mp e).1
    have hd : (ns.map S.int)[i]? = some (.int (ns.getD i 0)) := by simp [hlt]
    obtain ⟨v', h1, h2⟩ := paired_get z hd
    have : v' = v := by
      have e' : vs.toList[i]? = some v := by simpa using e
      rw [h1] at e'; exact Option.some.inj e'
    exact this ▸ h2
  · obtain ⟨hp, g, d, tk, os⟩ := s'
    obtain ⟨h1, h2, h3, h4, _⟩ := hm
    dsimp only at h1 h2 h3 h4
    subst h2 h3 h4
    rw [ez, preSum_list]
    exact q _ hp tk (fun b o e => h1 b o (fun hb => by rw [List.mem_singleton.mp hb, get_size] at e; cases e) (keep_push b o e)) ⟨_, rfl⟩
theorem intsAre_of : ∀ {ns : List Int} {vs : List Value}, Paired S.is (ns.map S.int) vs → IntsAre vs ns
  | [], _, .nil => .nil
  | n :: r, _, .cons ⟨t, e⟩ z => by subst e; exact .cons n t (intsAre_of z)
theorem call_bytesL {v : Value} {ns : List Int} (hh : A.handled = none) (p : isLI X ns v h) (hr : ∀ n ∈ ns, 0 ≤ n ∧ n < 256) (hz : ns.length ≤ sizeLine) : Ev prog w A h (call (.type "bytes") [v]) (isY (byteArr ns)) := fun s Q E k q => by
  obtain ⟨l, vs, rfl, n, hl, z⟩ := p
  have ez : vs.size = ns.length := by have := z.length; simpa using this.symm
  exact call_bytes_ints (vs := vs.toList) (by simpa using hl.at fun o e => k l o e) (intsAre_of z) hr (by simpa [ez] using hz) hh fun h' t k' kk => q _ h' k' kk ⟨t, rfl⟩
theorem ev_mulY {l r : Expr} {pos : Pos} {b : List UInt8} {n : Int} (x : Ev prog w A h0 (eval l env) (isY b.toArray)) (y : Ev prog w A h0 (eval r env) (isI n)) (hb : b ≠ []) (hlo : -1048576 ≤ n) (hn : n ≤ 1048576) (hs : b.length ≤ 16) :
    Ev prog w A h0 (eval (.BinOp l .Mult r pos) env) (isY ((List.replicate n.toNat b).flatten).toArray) :=
  ev_bin x y Mono.y fun _ _ _ _ ⟨t, e⟩ ⟨u, e'⟩ => by subst e e'; exact fun s Q E k q => bytes_mul_any hb hlo hn hs fun t' k => q _ s.heap k (fun _ _ e => e) ⟨_, rfl⟩
theorem call_lenY {v : Value} {b : Array UInt8} (p : isY b v h) (hz : b.size ≤ 1099511627776) : Ev prog w A h (call (.builtin "len") [v]) (isI b.size) := fun s Q E k q => by
  obtain ⟨t, rfl⟩ := p; exact len_bytes hz (q _ s.heap _ (fun _ _ e => e) ⟨_, rfl⟩)
theorem call_lenS {v : Value} {x : Str} (p : isS x v h) (hz : x.length ≤ 1099511627776) : Ev prog w A h (call (.builtin "len") [v]) (isI x.length) := fun s Q E k q => by
  obtain ⟨t, rfl⟩ := p; exact P.len_str (by omega) (q _ s.heap _ (fun _ _ e => e) ⟨_, rfl⟩)
end
end Mine

set_option maxRecDepth 100000
set_option linter.unusedVariables false
namespace Mine
open PySem PySem.W PySem.Calls PyProof.Rows

abbrev CBody := (Shared → Prop) → (Value → Shared → Prop) → Shared → Prop
/-- one turn's doing in a comprehension: the list at D grows by ds -/
def Emit (B : CBody) (C D : Addr) (hs : Heap) (T : Str → Prop) (mi : (Str → Option Value) → Prop) (ds : List S) : Prop :=
  ∀ (s : Shared) (KK : Shared → Prop) (E : Value → Shared → Prop) (m : Str → Option Value) (vs : List Value), Keep hs s.heap → mi m → s.heap.Ns C m → s.heap.PlainList D vs.toArray → vs.length + ds.length ≤ sizeLine →
    (∀ h' tk m' (ys : List Value), h'.Ns C m' → (∀ y, ¬ T y → m' y = m y) → h'.PlainList D (vs ++ ys).toArray → Paired S.is ds ys → (∀ b o, b ≠ C → b ≠ D → s.heap.get? b = some o → h'.get? b = some o) → KK { s with heap := h', toks := tk }) → B KK E s

section
variable {prog : Program} {w : World} {A : Around} {h0 hs : Heap} {env cenv : Env} {X : Addr → Prop} {C D : Addr} {T : Str → Prop} {mi : (Str → Option Value) → Prop}

theorem loop_emit {target : Expr} {it : Value} {n : Nat} {item : Nat → List (Str × S)} {fp Wr : Addr → Prop} {St : Nat → Heap → Prop} {B : CBody} {c : Code} {R : Result → Shared → Prop}
    (hform : ∀ (J : Nat → Shared → Prop), (∀ k s, J k s → wpAny (model prog w) A (pyNext it) (fun r s₁ => match r with
      | none => R (.ok .next) s₁
      | some v => wpAny (model prog w) A (letOwnedTupleGo target it v) (fun _ s₀ => wpAny (model prog w) A (assign target cenv v) (fun _ s₂ =>
          B (fun s₅ => ∃ m, m < k ∧ J m s₅) (notedBy (model prog w) A cenv fun e s' => R (.error e) s') s₂)
          (notedBy (model prog w) A cenv fun e s' => R (.error e) s') s₀) (notedBy (model prog w) A cenv fun e s' => R (.error e) s') s₁) (notedBy (model prog w) A cenv fun e s' => R (.error e) s') s) →
      ∀ k s, J k s → codeAny (model prog w) A c R s)
    (I : Itr prog w A target it cenv n item fp Wr St) (hC : cenv.locals = C) (hWf : ∀ a, Wr a → fp a) (hCf : ¬ fp C) (hDf : ¬ fp D) (hDC : D ≠ C) (hWs : ∀ a, Wr a → hs.get? a = none) (hCs : hs.get? C = none)
    (m0 : Str → Option Value) (g : Nat → List S) (G : Nat) (hG : ∀ i, i < n → (g i).length ≤ G) (hT : ∀ i, i < n → ∀ p ∈ item i, T p.1)
    (hem : ∀ i, i < n → Emit B C D hs T (fun m => (∀ p ∈ item i, ∃ v, m p.1 = some v ∧ p.2.is v) ∧ ∀ y, ¬ T y → m y = m0 y) (g i)) (hDs : hs.get? D = none)
    {s : Shared} {vs0 : List Value} (st : St 0 s.heap) (hk : Keep hs s.heap) (hn : s.heap.Ns C m0) (hD : s.heap.PlainList D vs0.toArray) (hsz : vs0.length + n * G ≤ sizeLine)
    (hR : ∀ h' tk m' (ys : List Value), h'.Ns C m' → (∀ y, ¬ T y → m' y = m0 y) → h'.PlainList D (vs0 ++ ys).toArray → Paired S.is ((List.range n).flatMap g) ys → (∀ b o, b ≠ C → b ≠ D → ¬ Wr b → s.heap.get? b = some o → h'.get? b = some o) →
      R (.ok .next) { s with heap := h', toks := tk }) : codeAny (model prog w) A c R s := by
  subst hC
  refine hform (fun k s' => ∃ i h' tk m', ∃ ys : List Value, s' = { s with heap := h', toks := tk } ∧ i ≤ n ∧ k = n + 1 - i ∧ St i h' ∧ h'.Ns cenv.locals m' ∧ (∀ y, ¬ T y → m' y = m0 y) ∧ h'.PlainList D (vs0 ++ ys).toArray ∧
    Paired S.is ((List.range i).flatMap g) ys ∧ ys.length ≤ i * G ∧ (∀ b o, b ≠ cenv.locals → b ≠ D → ¬ Wr b → s.heap.get? b = some o → h'.get? b = some o)) ?_ (n + 1) s
    ⟨0, s.heap, s.toks, m0, [], rfl, Nat.zero_le _, rfl, st, hn, fun _ _ => rfl, by simpa using hD, .nil, by simp, fun _ _ _ _ _ e => e⟩
  rintro k s' ⟨i, H, tk, m', ys, rfl, hi, rfl, st', hn', hm', hD', hF, hlen, hfr⟩
  have hkH : Keep hs H := fun b o e => hfr b o (by rintro rfl; rw [hCs] at e; cases e) (by rintro rfl; rw [hDs] at e; cases e) (fun z => by rw [hWs b z] at e; cases e) (hk b o e)
  by_cases hlt : i < n
  · refine wpAny_mono (I.turn i _ (fun s₂ => B (fun s₅ => ∃ m, m < n + 1 - i ∧ ∃ i h' tk m', ∃ ys : List Value, s₅ = { s with heap := h', toks := tk } ∧ i ≤ n ∧ m = n + 1 - i ∧ St i h' ∧ h'.Ns cenv.locals m' ∧ (∀ y, ¬ T y → m' y = m0 y) ∧ h'.PlainList D (vs0 ++ ys).toArray ∧
      Paired S.is ((List.range i).flatMap g) ys ∧ ys.length ≤ i * G ∧ (∀ b o, b ≠ cenv.locals → b ≠ D → ¬ Wr b → s.heap.get? b = some o → h'.get? b = some o)) (notedBy (model prog w) A cenv fun e s' => R (.error e) s') s₂)
      (notedBy (model prog w) A cenv fun e s' => R (.error e) s') m' hlt st' hn' ?_) (fun r s₁ hr => ?_) fun _ _ z => z
    · intro h₂ tk₂ m₂ st₂ hn₂ hit hag k₂
      have kk : Keep hs h₂ := fun b o e => k₂ b o (fun z => by rw [hWs b z] at e; cases e) (by rintro rfl; rw [hCs] at e; cases e) (hkH b o e)
      have hD₂ : h₂.PlainList D (vs0 ++ ys).toArray := hD'.at fun o e => k₂ D o (fun z => hDf (hWf _ z)) hDC e
      have hag₂ : ∀ y, ¬ T y → m₂ y = m0 y := fun y hy => (hag y (fun p hp e => hy (e ▸ hT i hlt p hp))).trans (hm' y hy)
      have bnd : (vs0 ++ ys).length + (g i).length ≤ sizeLine := by
        have h1 := hG i hlt
        have h2 : (i + 1) * G ≤ n * G := Nat.mul_le_mul_right _ hlt
        rw [Nat.add_mul, Nat.one_mul] at h2
        rw [List.length_append]; omega
      refine hem i hlt ⟨h₂, s.gens, s.drawn, tk₂, s.os⟩ _ _ m₂ (vs0 ++ ys) kk ⟨hit, hag₂⟩ hn₂ hD₂ bnd fun h₃ tk₃ m₃ zs hn₃ hm₃ hD₃ hz k₃ => ?_
      refine ⟨n + 1 - (i + 1), by omega, i + 1, h₃, tk₃, m₃, ys ++ zs, rfl, hlt, rfl, ?_, hn₃, fun y hy => (hm₃ y hy).trans (hag₂ y hy), by simpa using hD₃, ?_, ?_, fun b o b1 b2 b3 e => k₃ b o b1 b2 (k₂ b o b3 b1 (hfr b o b1 b2 b3 e))⟩
      · exact I.frame _ _ h₃ st₂ fun b hb o e => k₃ b o (by rintro rfl; exact hCf hb) (by rintro rfl; exact hDf hb) e
      · rw [List.range_succ, List.flatMap_append]
        simpa using paired_append hF hz
      · have : zs.length = (g i).length := by simpa using hz.length.symm
        have := hG i hlt
        rw [List.length_append, Nat.add_mul, Nat.one_mul]; omega
    · cases r with
      | none => exact hr.elim
      | some v => exact hr
  · have hin : i = n := by omega
    subst hin
    refine I.done _ _ _ st' fun h₂ tk₂ k₂ => ?_
    exact hR h₂ tk₂ m' ys (hn'.at' fun o e => k₂ _ o (fun z => hCf (hWf _ z)) e) hm' (hD'.at fun o e => k₂ _ o (fun z => hDf (hWf _ z)) e) hF fun b o b1 b2 b3 e => k₂ b o b3 (hfr b o b1 b2 b3 e)

/-- the three kinds of turn -/
abbrev B0 (prog : Program) (w : World) (A : Around) (elt : Expr) (cenv : Env) (D : Addr) : CBody := fun KK E s => wpAny (model prog w) A (eval elt cenv) (fun x s₄ => wpAny (model prog w) A (call (.builtin "list.append") [.ref D, x]) (fun _ s₅ => KK s₅) E s₄) E s
abbrev B1 (prog : Program) (w : World) (A : Around) (c elt : Expr) (cenv : Env) (D : Addr) : CBody := fun KK E s => wpAny (model prog w) A (isTrue c cenv (eval c cenv)) (fun ok s₃ => if ok = true then B0 prog w A elt cenv D KK E s₃ else KK s₃) E s
abbrev B2 (prog : Program) (w : World) (A : Around) (e i2 : Expr) (cenv : Env) (D : Addr) : CBody := fun KK E s => wpAny (model prog w) A (eval i2 cenv) (fun x s₃ => wpAny (model prog w) A (pyIter x) (fun it s₄ =>
  codeAny (model prog w) A (.compStart e 1 it (.ref D) cenv) (fun r s₅ => match r with | .ok _ => KK s₅ | .error x => cameBackBy (model prog w) A cenv E x s₅) s₄) E s₃) E s

theorem emit0 {elt : Expr} {d : S} (helt : ∀ h m, Keep hs h → h.Ns C m → mi m → Ev prog w A h (eval elt cenv) (isD d)) (hDC : D ≠ C) (hDs : hs.get? D = none) : Emit (B0 prog w A elt cenv D) C D hs T mi [d] := fun s KK E m vs k hm hn hD hz q => by
  refine helt s.heap m k hn hm s _ _ (fun _ _ e => e) fun y h₃ tk₃ k₃ hy => ?_
  refine wpAny_list_append_plain (hsz := by simp at hz ⊢; omega) (hD.at fun o e => k₃ _ o e) fun h₄ hl₄ hs₄ => ?_
  exact q h₄ tk₃ m [y] ((hn.keeps k₃).sameBut hs₄ (Ne.symm hDC)) (fun _ _ => rfl) (by simpa using hl₄) (.cons hy .nil) fun b o b1 b2 e => hs₄.extBut b o b2 (k₃ b o e)
theorem emit1 {c elt : Expr} {d : S} {b : Bool} (hc : ∀ h m, Keep hs h → h.Ns C m → mi m → Ev prog w A h (isTrue c cenv (eval c cenv)) (fun v _ => v = b)) (helt : b = true → ∀ h m, Keep hs h → h.Ns C m → mi m → Ev prog w A h (eval elt cenv) (isD d)) (hDC : D ≠ C) (hDs : hs.get? D = none) :
    Emit (B1 prog w A c elt cenv D) C D hs T mi (if b then [d] else []) := fun s KK E m vs k hm hn hD hz q => by
  refine hc s.heap m k hn hm s _ _ (fun _ _ e => e) fun y h₃ tk₃ k₃ hy => ?_
  subst hy
  cases y with
  | false => exact q h₃ tk₃ m [] (hn.keeps k₃) (fun _ _ => rfl) (by simpa using hD.at fun o e => k₃ _ o e) .nil fun b o _ _ e => k₃ b o e
  | true =>
    refine emit0 (T := T) (mi := mi) (fun h m k hn hm => helt rfl h m k hn hm) hDC hDs ⟨h₃, s.gens, s.drawn, tk₃, s.os⟩ KK E m vs (k.trans k₃) hm (hn.keeps k₃) (hD.at fun o e => k₃ _ o e) hz fun h' tk m' ys a1 a2 a3 a4 a5 => ?_
    exact q h' tk m' ys a1 a2 a3 a4 fun b o b1 b2 e => a5 b o b1 b2 (k₃ b o e)

theorem codeAny_loopR {c : Code} {R : Result → Shared → Prop} (hq : c.quiet = true) (J : Nat → Shared → Prop)
    (turn : ∀ n s, J n s → wpAny (model prog w) (A.under c) ((model prog w).den c) (fun fin s' => match fin with | .done f => R (.ok f) s' | .again c' => c' = c ∧ ∃ m, m < n ∧ J m s') (fun e s' => R (.error e) s') s) :
    ∀ (n : Nat) (s : Shared), J n s → codeAny (model prog w) A c R s := fun n s h => codeAny_loop hq J turn n h

theorem form0 {elt target iter : Expr} {scope : Scope} {pos : Pos} {it : Value} {R : Result → Shared → Prop} (J : Nat → Shared → Prop)
    (turn : ∀ k s, J k s → wpAny (model prog w) A (pyNext it) (fun r s₁ => match r with
      | none => R (.ok .next) s₁
      | some v => wpAny (model prog w) A (letOwnedTupleGo target it v) (fun _ s₀ => wpAny (model prog w) A (assign target cenv v) (fun _ s₂ =>
          B0 prog w A elt cenv D (fun s₅ => ∃ m, m < k ∧ J m s₅) (notedBy (model prog w) A cenv fun e s' => R (.error e) s') s₂)
          (notedBy (model prog w) A cenv fun e s' => R (.error e) s') s₀) (notedBy (model prog w) A cenv fun e s' => R (.error e) s') s₁) (notedBy (model prog w) A cenv fun e s' => R (.error e) s') s) :
    ∀ k s, J k s → codeAny (model prog w) A (.compLoop (.ListComp elt [⟨target, iter, [], 0⟩] scope pos) 0 it (.ref D) cenv) R s := fun k s h => kcp_loop J turn k h
theorem form1 {c elt target iter : Expr} {scope : Scope} {pos : Pos} {it : Value} {R : Result → Shared → Prop} (J : Nat → Shared → Prop)
    (turn : ∀ k s, J k s → wpAny (model prog w) A (pyNext it) (fun r s₁ => match r with
      | none => R (.ok .next) s₁
      | some v => wpAny (model prog w) A (letOwnedTupleGo target it v) (fun _ s₀ => wpAny (model prog w) A (assign target cenv v) (fun _ s₂ =>
          B1 prog w A c elt cenv D (fun s₅ => ∃ m, m < k ∧ J m s₅) (notedBy (model prog w) A cenv fun e s' => R (.error e) s') s₂)
          (notedBy (model prog w) A cenv fun e s' => R (.error e) s') s₀) (notedBy (model prog w) A cenv fun e s' => R (.error e) s') s₁) (notedBy (model prog w) A cenv fun e s' => R (.error e) s') s) :
    ∀ k s, J k s → codeAny (model prog w) A (.compLoop (.ListComp elt [⟨target, iter, [c], 0⟩] scope pos) 0 it (.ref D) cenv) R s := fun k s h => kct_loop J turn k h

theorem compTurn2_0 (elt t1 i1 t2 i2 : Expr) (scope : Scope) (pos : Pos) (it acc : Value) (env : Env) :
    compTurn (.ListComp elt [⟨t1, i1, [], 0⟩, ⟨t2, i2, [], 0⟩] scope pos) 0 it acc env = (do
      standAt i1.pos
      match ← pyNext it with
      | none => pure (.done .next)
      | some v =>
        letOwnedTupleGo t1 it v
        assign t1 env v
        let x ← eval i2 env
        standAt i2.pos
        let x ← foldedSetIterable i2 env x
        let _ ← runOwn (.compStart (.ListComp elt [⟨t1, i1, [], 0⟩, ⟨t2, i2, [], 0⟩] scope pos) 1 (← holding [x] (pyIter x)) acc env) env
        again (.compLoop (.ListComp elt [⟨t1, i1, [], 0⟩, ⟨t2, i2, [], 0⟩] scope pos) 0 it acc env)) := by rfl
theorem compTurn2_1 (elt t1 i1 t2 i2 : Expr) (scope : Scope) (pos : Pos) (it acc : Value) (env : Env) :
    compTurn (.ListComp elt [⟨t1, i1, [], 0⟩, ⟨t2, i2, [], 0⟩] scope pos) 1 it acc env = (do
      standAt i2.pos
      match ← pyNext it with
      | none => pure (.done .next)
      | some v =>
        letOwnedTupleGo t2 it v
        assign t2 env v
        (do let _ ← call (.builtin "list.append") [acc, ← eval elt env])
        again (.compLoop (.ListComp elt [⟨t1, i1, [], 0⟩, ⟨t2, i2, [], 0⟩] scope pos) 1 it acc env)) := by rfl
theorem form2 {elt t1 i1 t2 i2 : Expr} {scope : Scope} {pos : Pos} {it : Value} {R : Result → Shared → Prop} (hs2 : ∀ x, foldedSetIterable i2 cenv x = pure x) (J : Nat → Shared → Prop)
    (turn : ∀ k s, J k s → wpAny (model prog w) A (pyNext it) (fun r s₁ => match r with
      | none => R (.ok .next) s₁
      | some v => wpAny (model prog w) A (letOwnedTupleGo t1 it v) (fun _ s₀ => wpAny (model prog w) A (assign t1 cenv v) (fun _ s₂ =>
          B2 prog w A (.ListComp elt [⟨t1, i1, [], 0⟩, ⟨t2, i2, [], 0⟩] scope pos) i2 cenv D (fun s₅ => ∃ m, m < k ∧ J m s₅) (notedBy (model prog w) A cenv fun e s' => R (.error e) s') s₂)
          (notedBy (model prog w) A cenv fun e s' => R (.error e) s') s₀) (notedBy (model prog w) A cenv fun e s' => R (.error e) s') s₁) (notedBy (model prog w) A cenv fun e s' => R (.error e) s') s) :
    ∀ k s, J k s → codeAny (model prog w) A (.compLoop (.ListComp elt [⟨t1, i1, [], 0⟩, ⟨t2, i2, [], 0⟩] scope pos) 0 it (.ref D) cenv) R s := codeAny_loopR rfl J fun n s hI => by
  show wpAny _ A ((compTurn (.ListComp elt [⟨t1, i1, [], 0⟩, ⟨t2, i2, [], 0⟩] scope pos) 0 it (.ref D) cenv).onRaise (fun x => do noteFrame x cenv; theTreesLotGoes x)) _ _ s
  refine wpAny_noted ?_
  rw [compTurn2_0]
  refine wpAny_bind (wpAny_standAt (wpAny_bind (wpAny_mono (turn n s hI) (fun r s₁ h₁ => ?_) fun _ _ h' => h')))
  cases r with
  | none => exact wpAny_pure h₁
  | some v =>
    refine wpAny_bind (wpAny_mono h₁ (fun _ s₀ h₀' => ?_) fun _ _ h' => h')
    refine wpAny_bind (wpAny_mono h₀' (fun _ s₂ h₂ => ?_) fun _ _ h' => h')
    refine wpAny_bind (wpAny_mono h₂ (fun x s₃ h₃ => wpAny_bind (wpAny_standAt (wpAny_bind (wpAny_of_eq (hs2 x) (wpAny_bind (wpAny_holding (wpAny_mono h₃ (fun it' s₄ h₄ => ?_) fun _ _ h' => h'))))))) fun _ _ h' => h')
    exact wpAny_bind (wpAny_runOwn (codeAny_mono h₄ fun r s' hr => by cases r with
      | ok f => exact wpAny_pure ⟨rfl, hr⟩
      | error x => exact hr))
theorem form2i {elt t1 i1 t2 i2 : Expr} {scope : Scope} {pos : Pos} {it : Value} {R : Result → Shared → Prop} (J : Nat → Shared → Prop)
    (turn : ∀ k s, J k s → wpAny (model prog w) A (pyNext it) (fun r s₁ => match r with
      | none => R (.ok .next) s₁
      | some v => wpAny (model prog w) A (letOwnedTupleGo t2 it v) (fun _ s₀ => wpAny (model prog w) A (assign t2 cenv v) (fun _ s₂ =>
          B0 prog w A elt cenv D (fun s₅ => ∃ m, m < k ∧ J m s₅) (notedBy (model prog w) A cenv fun e s' => R (.error e) s') s₂)
          (notedBy (model prog w) A cenv fun e s' => R (.error e) s') s₀) (notedBy (model prog w) A cenv fun e s' => R (.error e) s') s₁) (notedBy (model prog w) A cenv fun e s' => R (.error e) s') s) :
    ∀ k s, J k s → codeAny (model prog w) A (.compLoop (.ListComp elt [⟨t1, i1, [], 0⟩, ⟨t2, i2, [], 0⟩] scope pos) 1 it (.ref D) cenv) R s := codeAny_loopR rfl J fun n s hI => by
  show wpAny _ A ((compTurn (.ListComp elt [⟨t1, i1, [], 0⟩, ⟨t2, i2, [], 0⟩] scope pos) 1 it (.ref D) cenv).onRaise (fun x => do noteFrame x cenv; theTreesLotGoes x)) _ _ s
  refine wpAny_noted ?_
  rw [compTurn2_1]
  refine wpAny_bind (wpAny_standAt (wpAny_bind (wpAny_mono (turn n s hI) (fun r s₁ h₁ => ?_) fun _ _ h' => h')))
  cases r with
  | none => exact wpAny_pure h₁
  | some v =>
    refine wpAny_bind (wpAny_mono h₁ (fun _ s₀ h₀' => ?_) fun _ _ h' => h')
    refine wpAny_bind (wpAny_mono h₀' (fun _ s₂ h₂ => ?_) fun _ _ h' => h')
    exact wpAny_bind (wpAny_bind (wpAny_mono h₂ (fun x s₄ h₄ => wpAny_bind (wpAny_mono h₄ (fun _ s₅ h₅ => wpAny_pure (wpAny_pure ⟨rfl, h₅⟩)) fun _ _ h' => h')) fun _ _ h' => h'))
theorem start2i {elt t1 i1 t2 i2 : Expr} {scope : Scope} {pos : Pos} {it acc : Value} {R : Result → Shared → Prop} {s : Shared}
    (h0 : codeAny (model prog w) A (.compLoop (.ListComp elt [⟨t1, i1, [], 0⟩, ⟨t2, i2, [], 0⟩] scope pos) 1 it acc cenv) R s)
    (h : wpAny (model prog w) A (pyIter it) (fun it' s' => codeAny (model prog w) A (.compLoop (.ListComp elt [⟨t1, i1, [], 0⟩, ⟨t2, i2, [], 0⟩] scope pos) 1 it' acc cenv) R s') (notedBy (model prog w) A cenv fun x s' => R (.error x) s') s) :
    codeAny (model prog w) A (.compStart (.ListComp elt [⟨t1, i1, [], 0⟩, ⟨t2, i2, [], 0⟩] scope pos) 1 it acc cenv) R s := by
  refine codeAny_of_tree ?_
  show wpAny _ _ ((compStart (.ListComp elt [⟨t1, i1, [], 0⟩, ⟨t2, i2, [], 0⟩] scope pos) 1 it acc cenv).onRaise (fun x => do noteFrame x cenv; standAt theWindowsPlace)) _ _ s
  refine wpAny_notedAt ?_
  unfold compStart
  show wpAny _ _ (ask >>= _) _ _ s
  refine wpAny_bind (wpAny_askSetting (wpAny_ite ?_))
  split
  · first
      | exact wpAny_bind (wpAny_pure (wpAny_pure (And.intro rfl h0)))
      | exact wpAny_pure (And.intro rfl h0)
  · first
      | exact wpAny_bind (wpAny_rule (wpAny_bind (wpAny_standAt (wpAny_bind (wpAny_mono h (fun it' s' h' => wpAny_pure (And.intro rfl h')) fun _ _ x => x)))))
      | (refine wpAny_bind (wpAny_rule ?_); show wpAny _ _ (standAt i2.pos >>= _) _ _ s; exact wpAny_bind (wpAny_standAt (wpAny_bind (wpAny_mono h (fun it' s' h' => wpAny_pure (And.intro rfl h')) fun _ _ x => x))))
end
end Mine

set_option maxRecDepth 100000
set_option linter.unusedVariables false
namespace Mine
open PySem PySem.W PySem.Calls PyProof.Rows

/-- a comprehension whose list is ds, up to the point where the list is handed on -/
def CompEv (prog : Program) (w : World) (A : Around) (h0 : Heap) (env : Env) (e iter : Expr) (scope : Scope) (cl : List (Str × Addr)) (ds : List S) : Prop :=
  ∀ (s : Shared) (E : Value → Shared → Prop) (RR : Value → Addr → Result → Shared → Prop), Keep h0 s.heap →
    (∀ D C h' tk m' (vs : List Value), s.heap.get? D = none → s.heap.get? C = none → D ≠ C → h'.Ns C m' → h'.PlainList D vs.toArray → Paired S.is ds vs → Keep s.heap h' → RR (.ref D) C (.ok .next) { s with heap := h', toks := tk }) →
    wpAny (model prog w) A (eval iter env) (fun x s₁ => wpAny (model prog w) A (pyIter x) (fun it s₂ => wpAny (model prog w) A (newList []) (fun acc s₃ =>
      wpAny (model prog w) A (newFunctionEnv scope env.globals cl [] env.qual none .none (some env)) (fun cenv s₄ =>
        codeAny (model prog w) A (.compStart e 0 it acc { cenv with scope := relabel scope env }) (RR acc cenv.locals) s₄) E s₃) E s₂) E s₁) E s

section
variable {prog : Program} {w : World} {A : Around} {K : Frag} {g0 h0 hs h h' : Heap} {env cenv : Env} {X Y Y' : Addr → Prop} {ρ : List (Str × PV)} {C D : Addr} {T : Str → Prop} {mi : (Str → Option Value) → Prop}

theorem flat1 {α β : Type} (f : α → β) : ∀ l : List α, l.flatMap (fun x => [f x]) = l.map f
  | [] => rfl
  | x :: r => by rw [List.flatMap_cons, flat1 f r]; rfl

theorem emit2 {elt t1 i1 t2 i2 : Expr} {scope : Scope} {pos : Pos} {n : Nat} {item : Nat → List (Str × S)} {f : Nat → S} (hC : cenv.locals = C) (hit : ∀ h m, Keep hs h → h.Ns C m → mi m → EvIt prog w A h cenv i2 t2 n item (fun a => a = D)) (hkind : cenv.scope.kind = .function) (htgt : TgtOk cenv t2)
    (helt : ∀ j h m', j < n → Keep hs h → h.Ns C m' → (∃ m, mi m ∧ ∀ y, (∀ i, i < n → ∀ p ∈ item i, p.1 ≠ y) → m' y = m y) → (∀ p ∈ item j, ∃ v, m' p.1 = some v ∧ p.2.is v) → Ev prog w A h (eval elt cenv) (isD (f j)))
    (hT : ∀ i, i < n → ∀ p ∈ item i, T p.1) (hDC : D ≠ C) (hDs : hs.get? D = none) (hCs : hs.get? C = none) :
    Emit (B2 prog w A (.ListComp elt [⟨t1, i1, [], 0⟩, ⟨t2, i2, [], 0⟩] scope pos) i2 cenv D) C D hs T mi ((List.range n).map f) := fun s KK E m vs k hm hn hD hz q => by
  refine hit s.heap m k hn hm s _ E (fun _ _ e => e) fun it h₁ tk₁ k₁ i₁ => ?_
  obtain ⟨fp, Wr, St, hWr, hfp, hst, hI⟩ := i₁
  have hCf : ¬ fp C := fun z => by
    obtain ⟨o, es, ep, e1, _⟩ := id hn
    exact (hfp C z).2.1 o m e1 hn
  have hDf : ¬ fp D := fun z => by
    obtain ⟨es, e1⟩ := id hD
    exact (hfp D z).2.2 _ e1 rfl
  have I := hI cenv hkind htgt (hC ▸ hCf)
  have loop : codeAny (model prog w) A (.compLoop (.ListComp elt [⟨t1, i1, [], 0⟩, ⟨t2, i2, [], 0⟩] scope pos) 1 it (.ref D) cenv) (fun r s₅ => match r with | .ok _ => KK s₅ | .error x => cameBackBy (model prog w) A cenv E x s₅) ⟨h₁, s.gens, s.drawn, tk₁, s.os⟩ := by
    refine loop_emit (hs := hs) (T := fun y => ∃ i, i < n ∧ ∃ p ∈ item i, p.1 = y) (fun J turn => form2i J turn) I hC (fun a z => (hWr a z).1) hCf hDf hDC (fun a z => none_of_keep k (hWr a z).2) hCs m (fun j => [f j]) 1 (fun _ _ => by simp) (fun i hi p hp => ⟨i, hi, p, hp, rfl⟩)
      (fun j hj => ?_) hDs hst (k.trans k₁) (hn.keeps k₁) (hD.at fun o e => k₁ _ o e) (by simp at hz ⊢; omega) fun h' tk m' ys b1 b2 b3 b4 b5 => ?_
    · refine emit0 (fun h m' kh hn' hm' => helt j h m' hj kh hn' ⟨m, hm, fun y hy => hm'.2 y fun ⟨i, hi, p, hp, e⟩ => hy i hi p hp e⟩ hm'.1) hDC hDs
    · refine q h' tk m' ys b1 (fun y hy => b2 y fun ⟨i, hi, p, hp, e⟩ => hy (e ▸ hT i hi p hp)) b3 ?_ fun b o c1 c2 e => b5 b o c1 c2 (fun z => by rw [(hWr b z).2] at e; cases e) (k₁ b o e)
      rw [← flat1]; exact b4
  exact start2i loop (I.self 0 _ _ _ hst loop)

/-- any comprehension over one source -/
theorem comp_any {elt iter target : Expr} {ifs : List Expr} {rest : List Comprehension} {scope : Scope} {pos : Pos} {n G : Nat} {item : Nat → List (Str × S)} {g : Nat → List S} {Z : Addr → Prop} {cl : List (Str × Addr)} {B : Addr → Addr → CBody}
    (hit : EvIt prog w A h0 env iter target n item Z) (hsz : n * G ≤ sizeLine) (hok : compOk scope = true) (htgt : TgtIn scope target) (hG : ∀ i, i < n → (g i).length ≤ G)
    (hform : ∀ C D it (R : Result → Shared → Prop) (J : Nat → Shared → Prop), (∀ k s, J k s → wpAny (model prog w) A (pyNext it) (fun r s₁ => match r with
      | none => R (.ok .next) s₁
      | some v => wpAny (model prog w) A (letOwnedTupleGo target it v) (fun _ s₀ => wpAny (model prog w) A (assign target (compEnvC scope cl C env) v) (fun _ s₂ =>
          B C D (fun s₅ => ∃ m, m < k ∧ J m s₅) (notedBy (model prog w) A (compEnvC scope cl C env) fun e s' => R (.error e) s') s₂)
          (notedBy (model prog w) A (compEnvC scope cl C env) fun e s' => R (.error e) s') s₀) (notedBy (model prog w) A (compEnvC scope cl C env) fun e s' => R (.error e) s') s₁) (notedBy (model prog w) A (compEnvC scope cl C env) fun e s' => R (.error e) s') s) →
      ∀ k s, J k s → codeAny (model prog w) A (.compLoop (.ListComp elt (⟨target, iter, ifs, 0⟩ :: rest) scope pos) 0 it (.ref D) (compEnvC scope cl C env)) R s)
    (hem : ∀ i C D hs, i < n → Keep h0 hs → hs.get? C = none → hs.get? D = none → D ≠ C → Emit (B C D) C D hs (fun _ => True) (fun m => ∀ p ∈ item i, ∃ v, m p.1 = some v ∧ p.2.is v) (g i)) :
    CompEv prog w A h0 env (.ListComp elt (⟨target, iter, ifs, 0⟩ :: rest) scope pos) iter scope cl ((List.range n).flatMap g) := fun s E RR k hRR => by
  obtain ⟨hcell, hkind, _⟩ := compOk_of hok
  refine hit s _ E k fun it h₂ tk₂ k₂ i₂ => ?_
  obtain ⟨fp, Wr, St, hWr, hfp, hst, hI⟩ := i₂
  refine wpAny_newObj_type (wpAny_newFunctionEnv hcell (by intro y hy; simp at hy) (fun h₁ hns₁ hsb₁ => ?_) hkind)
  dsimp only at hns₁ hsb₁ ⊢
  generalize hH2 : h₂.push { cls := .type "list", dict := none, data := .seq ([] : List Value).toArray } = H2 at hns₁ hsb₁ ⊢
  have hC : H2.objs.size = h₂.objs.size + 1 := by rw [← hH2, Heap.size_push]
  have hDC : h₂.objs.size ≠ H2.objs.size := by rw [hC]; exact Nat.ne_of_lt (Nat.lt_succ_self _)
  have below : ∀ b, b < h₂.objs.size → b ≠ H2.objs.size ∧ b ≠ h₂.objs.size := fun b hb => ⟨by rw [hC]; exact Nat.ne_of_lt (Nat.lt_succ_of_lt hb), Nat.ne_of_lt hb⟩
  have fpB : ∀ b, fp b → b < h₂.objs.size := fun b hb => let ⟨o, e⟩ := (hfp b hb).1; Heap.lt_size e
  have hDf : ¬ fp h₂.objs.size := fun hm => Nat.lt_irrefl _ (fpB _ hm)
  have hCf : ¬ fp H2.objs.size := fun hm => by have := fpB _ hm; rw [hC] at this; exact Nat.lt_irrefl _ (Nat.lt_of_succ_lt this)
  have old : ∀ b o, h₂.get? b = some o → h₁.get? b = some o := fun b o e => hsb₁.extBut b o (below b (Heap.lt_size e)).1 (Heap.get?_push_of_some _ (hH2 ▸ Heap.get?_push_of_some _ e))
  have hacc : h₁.PlainList h₂.objs.size #[] := ⟨_, hsb₁.extBut _ _ hDC (Heap.get?_push_of_some _ (hH2 ▸ Heap.get?_push_size _ rfl))⟩
  have fresh : ∀ a, h₂.objs.size ≤ a → s.heap.get? a = none := fun a ha => by
    cases e : s.heap.get? a with
    | none => rfl
    | some o' => exact absurd (Heap.lt_size (k₂ _ _ e)) (Nat.not_lt.mpr ha)
  have hk₁ : Keep s.heap h₁ := fun b o e => old b o (k₂ b o e)
  generalize hCv : H2.objs.size = C at *
  generalize hDv : h₂.objs.size = D at *
  have hCs : s.heap.get? C = none := fresh C (by omega)
  have hDs : s.heap.get? D = none := fresh D (by omega)
  have I := hI (compEnvC scope cl C env) (by simp [compEnvC, relabel, hkind]) htgt.ok hCf
  have loop : ∀ s₃ : Shared, s₃ = ⟨h₁, s.gens, s.drawn, tk₂ + ([] : List (Str × Value)).length, s.os⟩ →
      codeAny (model prog w) A (.compLoop (.ListComp elt (⟨target, iter, ifs, 0⟩ :: rest) scope pos) 0 it (.ref D) (compEnvC scope cl C env)) (RR (.ref D) C) s₃ := by
    rintro s₃ rfl
    refine loop_emit (hs := s.heap) (vs0 := []) (T := fun _ => True)  (fun J turn => hform C D it _ J turn) I rfl (fun a z => (hWr a z).1) hCf hDf hDC (fun a z => (hWr a z).2) hCs _ g G hG (fun _ _ _ _ => trivial)
      (fun i hi => ?_) hDs (I.frame _ _ _ hst fun b _ o e => old b o e) hk₁ hns₁ hacc (by simpa using hsz) fun h' tk m' ys b1 b2 b3 b4 b5 => ?_
    · intro s' KK E' m vs e1 e2 e3 e4 e5 e6
      exact hem i C D s.heap hi k hCs hDs hDC s' KK E' m vs e1 e2.1 e3 e4 e5 e6
    · exact hRR D C h' tk m' ys hDs hCs hDC b1 (by simpa using b3) b4 fun b o e => b5 b o (by rintro rfl; rw [hCs] at e; cases e) (by rintro rfl; rw [hDs] at e; cases e) (fun z => by rw [(hWr b z).2] at e; cases e) (hk₁ b o e)
  exact codeAny_compStart_list (loop _ rfl) (I.self 0 _ _ _ (I.frame _ _ _ hst fun b _ o e => old b o e) (loop _ rfl))

theorem compev0 {elt iter target : Expr} {scope : Scope} {pos : Pos} {n : Nat} {item : Nat → List (Str × S)} (F : Fre g0 env ρ h0) (f : Nat → S) (ρc : Nat → List (Str × PV)) {Z : Addr → Prop} (hit : EvIt prog w A h0 env iter target n item Z)
    (hsz : n ≤ sizeLine) (hok : compOk scope = true) {cl : List (Str × Addr)} (hcl : closL env scope.names [] = some cl) (htgt : TgtIn scope target) (hr : ∀ i, ∀ p ∈ ρc i, RhoOk env scope (item i) ρ p)
    (helt : ∀ i envC h, i < n → (∃ C, envC = compEnvC scope cl C env) → Keep h0 h → Fre g0 envC (ρc i) h → Ev prog w A h (eval elt envC) (isD (f i))) :
    CompEv prog w A h0 env (.ListComp elt [⟨target, iter, [], 0⟩] scope pos) iter scope cl ((List.range n).map f) := by
  rw [← flat1]
  refine comp_any (G := 1) (B := fun C D => B0 prog w A elt (compEnvC scope cl C env) D) hit (by simpa using hsz) hok htgt (fun _ _ => by simp) (fun C D it R J turn => form0 J turn) fun i C D hs hi k hC hD hDC => ?_
  exact emit0 (fun h m kh hn hm => helt i _ h hi ⟨C, rfl⟩ (k.trans kh) (F.comp (k.trans kh) hcl (compOk_of hok).2.1 hn hm (hr i))) hDC hD
theorem compev1 {elt iter target c : Expr} {scope : Scope} {pos : Pos} {n : Nat} {item : Nat → List (Str × S)} (F : Fre g0 env ρ h0) (f : Nat → S) (t : Nat → Bool) (ρc : Nat → List (Str × PV)) {Z : Addr → Prop} (hit : EvIt prog w A h0 env iter target n item Z)
    (hsz : n ≤ sizeLine) (hok : compOk scope = true) {cl : List (Str × Addr)} (hcl : closL env scope.names [] = some cl) (htgt : TgtIn scope target) (hr : ∀ i, ∀ p ∈ ρc i, RhoOk env scope (item i) ρ p)
    (hc : ∀ i envC h, i < n → (∃ C, envC = compEnvC scope cl C env) → Keep h0 h → Fre g0 envC (ρc i) h → Ev prog w A h (isTrue c envC (eval c envC)) (fun v _ => v = t i))
    (helt : ∀ i envC h, i < n → (∃ C, envC = compEnvC scope cl C env) → Keep h0 h → Fre g0 envC (ρc i) h → Ev prog w A h (eval elt envC) (isD (f i))) :
    CompEv prog w A h0 env (.ListComp elt [⟨target, iter, [c], 0⟩] scope pos) iter scope cl ((List.range n).flatMap fun i => if t i then [f i] else []) := by
  refine comp_any (G := 1) (B := fun C D => B1 prog w A c elt (compEnvC scope cl C env) D) hit (by simpa using hsz) hok htgt (fun i _ => by split <;> simp) (fun C D it R J turn => form1 J turn) fun i C D hs hi k hC hD hDC => ?_
  exact emit1 (fun h m kh hn hm => hc i _ h hi ⟨C, rfl⟩ (k.trans kh) (F.comp (k.trans kh) hcl (compOk_of hok).2.1 hn hm (hr i))) (fun _ h m kh hn hm => helt i _ h hi ⟨C, rfl⟩ (k.trans kh) (F.comp (k.trans kh) hcl (compOk_of hok).2.1 hn hm (hr i))) hDC hD
theorem compev2 {elt iter target t2 i2 : Expr} {scope : Scope} {pos : Pos} {n n2 : Nat} {item : Nat → List (Str × S)} {item2 : Nat → List (Str × S)} (F : Fre g0 env ρ h0) (f : Nat → Nat → S) (ρi : List (Str × PV)) (ρc : Nat → Nat → List (Str × PV)) {Z : Addr → Prop} (hit : EvIt prog w A h0 env iter target n item Z)
    (hsz : n * n2 ≤ sizeLine) (hok : compOk scope = true) {cl : List (Str × Addr)} (hcl : closL env scope.names [] = some cl) (htgt : TgtIn scope target) (htgt2 : TgtIn scope t2)
    (hri : ∀ p ∈ ρi, RhoOk env scope [] ρ p) (hr : ∀ i j, ∀ p ∈ ρc i j, RhoOk env scope (item i ++ item2 j) ρ p)
    (hdis : ∀ i j, ∀ p ∈ item i, ∀ p' ∈ item2 j, p'.1 ≠ p.1)
    (hit2 : ∀ envC h D, (∃ C, envC = compEnvC scope cl C env) → Keep h0 h → Fre g0 envC ρi h → EvIt prog w A h envC i2 t2 n2 item2 (fun a => a = D))
    (helt : ∀ i j envC h, i < n → j < n2 → (∃ C, envC = compEnvC scope cl C env) → Keep h0 h → Fre g0 envC (ρc i j) h → Ev prog w A h (eval elt envC) (isD (f i j))) (hs2 : ∀ C x, foldedSetIterable i2 (compEnvC scope cl C env) x = pure x) :
    CompEv prog w A h0 env (.ListComp elt [⟨target, iter, [], 0⟩, ⟨t2, i2, [], 0⟩] scope pos) iter scope cl ((List.range n).flatMap fun i => (List.range n2).map (f i)) := by
  obtain ⟨o1, o2, o3⟩ := compOk_of hok
  refine comp_any (G := n2) (B := fun C D => B2 prog w A (.ListComp elt [⟨target, iter, [], 0⟩, ⟨t2, i2, [], 0⟩] scope pos) i2 (compEnvC scope cl C env) D) hit hsz hok htgt (fun i _ => by simp) (fun C D it R J turn => form2 (hs2 C) J turn) fun i C D hs hi k hC hD hDC => ?_
  refine emit2 (f := f i) (cenv := compEnvC scope cl C env) rfl (fun h m kh hn hm => hit2 _ h D ⟨C, rfl⟩ (k.trans kh) (F.comp (items := []) (k.trans kh) hcl o2 hn (by simp) hri)) o2 htgt2.ok (fun j h m' hj kh hn ⟨m, hm, hag⟩ hb => ?_) (fun _ _ _ _ => trivial) hDC hD hC
  refine helt i j _ h hi hj ⟨C, rfl⟩ (k.trans kh) (F.comp (k.trans kh) hcl o2 hn (fun p hp => ?_) (hr i j))
  rcases List.mem_append.mp hp with hp | hp
  · obtain ⟨v, e1, e2⟩ := hm p hp
    exact ⟨v, (hag p.1 fun i' _ p' hp' => hdis i i' p hp p' hp').trans e1, e2⟩
  · exact hb p hp

theorem ev_ofComp {elt iter target : Expr} {ifs : List Expr} {rest : List Comprehension} {scope : Scope} {pos : Pos} {cl : List (Str × Addr)} {ds : List S} (x : CompEv prog w A h0 env (.ListComp elt (⟨target, iter, ifs, 0⟩ :: rest) scope pos) iter scope cl ds) (hok : compOk scope = true)
    (hcl : closL env scope.names [] = some cl) (hlive : ∀ a, X a → ∃ o, h0.get? a = some o) (hs : ∀ x, foldedSetIterable iter env x = pure x) : Ev prog w A h0 (eval (.ListComp elt (⟨target, iter, ifs, 0⟩ :: rest) scope pos) env) (isL X ds) := fun s Q E k q => by
  obtain ⟨o1, o2, o3⟩ := compOk_of hok
  rw [eval_ListComp]
  refine wpAny_comprehension_free (use := none) rfl hs (closureFor_closL hcl) o2 o3 (x s E (fun acc C => compPost (model prog w) A E none Q acc C) k fun D C h' tk m' vs hD hC hDC hn hl hF hk => ?_)
  refine ⟨m', hn, fun h'' hs'' => q _ h'' tk (fun b o e => hs''.extBut b o (by rintro rfl; rw [hC] at e; cases e) (hk b o e)) ⟨D, vs.toArray, rfl, fun z => ?_, (hl.isList).extBut hs''.extBut hDC, by simpa using hF⟩⟩
  obtain ⟨o, e⟩ := hlive D z
  rw [k _ _ e] at hD; cases hD

/-- a comprehension's list stored into a name -/
theorem ex_assign_comp {elt iter target : Expr} {ifs : List Expr} {rest : List Comprehension} {scope : Scope} {pos px spos : Pos} {x : Str} {cl : List (Str × Addr)} {ds : List S} {stmts : List Stmt} {P' : Flow → Heap → Prop} (F : Frm g0 env X Y ρ h)
    (e : CompEv prog w A h env (.ListComp elt (⟨target, iter, ifs, 0⟩ :: rest) scope pos) iter scope cl ds) (hok : compOk scope = true) (hcl : closL env scope.names [] = some cl) (ρ' : List (Str × PV))
    (n : ∀ h', KeepB Y h h' → Frm g0 env X Y ρ' h' → Ex prog w A Y' h' (execs stmts env) P')
    (hk : Loc env x) (hd : (x == ("__debug__" : Str)) = false) (hr : ∀ q ∈ ρ', q = (x, isL X ds) ∨ (q ∈ ρ ∧ q.1 ≠ x))
    (hsw : swapsWith (.ListComp elt (⟨target, iter, ifs, 0⟩ :: rest) scope pos) (some (.Name x px)) spos.line env = pure true) (hs : ∀ x, foldedSetIterable iter env x = pure x) (hY : ∀ a, Y a → Y' a := by exact fun _ q => q) :
    Ex prog w A Y' h (execs (.Assign [.Name x px] (.ListComp elt (⟨target, iter, ifs, 0⟩ :: rest) scope pos) spos :: stmts) env) P' := fun s Q E eq q => by
  subst eq
  obtain ⟨o1, o2, o3⟩ := compOk_of hok
  refine wpAny_execs_cons ?_
  rw [exec_Assign_Name_used _ _ _ _ hsw]
  refine wpAny_bind (wpAny_standAt (wpAny_bind ?_))
  show wpAny _ A (do let _ ← comprehension (.ListComp elt (⟨target, iter, ifs, 0⟩ :: rest) scope pos) scope env _ (newList []) false (eval iter env) (some (assign (.Name x px) env))) _ _ s
  refine wpAny_bind (wpAny_mono (wpAny_comprehension_free (use := some (assign (.Name x px) env)) (Q := fun _ s' => wpAny (model prog w) A (execs stmts env) Q E s') rfl hs (closureFor_closL hcl) o2 o3
    (e s E (fun acc C => compPost (model prog w) A E (some (assign (.Name x px) env)) (fun _ s' => wpAny (model prog w) A (execs stmts env) Q E s') acc C) (fun _ _ e => e) fun D C h' tk m' vs hD hC hDC hn hl hF hk' => ?_)) (fun _ s' hq => wpAny_pure (wpAny_pure hq)) fun _ _ e => e)
  have nX : ∀ {a}, s.heap.get? a = none → ¬ X a := fun e z => by obtain ⟨o, e'⟩ := F.live _ z; rw [e] at e'; cases e'
  show wpAny _ A (assign (.Name x px) env (.ref D)) _ _ _
  refine wpAny_assign_Name (store_gen (P := isL X ds) (s := ⟨h', s.gens, s.drawn, tk, s.os⟩) F hk' hd hk Stable.l hr fun h₂ tk₂ a ha la la' hb rb => ?_)
  have hCa : C ≠ a := fun e => nX hC (e ▸ F.sub _ ha)
  have hDa : D ≠ a := fun e => nX hD (e ▸ F.sub _ ha)
  refine ⟨m', hn.at' fun o e => hb C o hCa e, fun h₃ hs₃ => ?_⟩
  have b₃ : But a s.heap h₃ := fun b o n e => hs₃.extBut b o (by rintro rfl; rw [hC] at e; cases e) (hb b o n (hk' b o e))
  have e₃ : h₃.get? a = h₂.get? a := hs₃.2 a (Ne.symm hCa)
  have F₃ := rb h₃ b₃ e₃ ⟨D, vs.toArray, rfl, nX hD, hl.isList.at fun o e => hs₃.extBut D o hDC (hb D o hDa e), by simpa using hF⟩
  have l₃ : Live s.heap h₃ := live_same b₃ (let ⟨o, e⟩ := la'; ⟨o, e₃.trans e⟩)
  exact n h₃ (KeepB.ofSame ha b₃) F₃ ⟨h₃, s.gens, s.drawn, tk₂, s.os⟩ Q E rfl fun fl h₄ tk₄ k₄ l₄ p₄ => q fl h₄ tk₄ (((KeepB.ofSame ha b₃).wide hY).trans k₄) (l₃.trans l₄) p₄
end
end Mine

set_option maxRecDepth 100000
set_option linter.unusedVariables false
namespace Mine
open PySem PySem.W PySem.Calls PyProof.Rows

section
variable {prog : Program} {w : World} {A : Around} {K : Frag} {g0 h0 h h' : Heap} {mg mb : Str → Option Value} {env : Env} {X Y Y' : Addr → Prop} {ρ ρ' ρ₀ : List (Str × PV)} {x : Str} {v : Value} {P : PV} {P' : Flow → Heap → Prop}

theorem Var.move (y : Var env h x v) (hl : ∀ o, h.get? env.locals = some o → h'.get? env.locals = some o) (hc : ∀ n c o, env.cells.lookup n = some c → h.get? c = some o → h'.get? c = some o)
    (hg : ∀ o, h.get? env.globals = some o → h'.get? env.globals = some o) (hb : ∀ o, h.get? env.builtins = some o → h'.get? env.builtins = some o) : Var env h' x v := by
  have cellB : ∀ {n c u}, env.cells.lookup n = some c → h.IsCell c u → h'.IsCell c u := fun hn ⟨o, e, d⟩ => ⟨o, hc _ _ o hn e, d⟩
  obtain ⟨p, q, c⟩ := y
  refine ⟨p, q, ?_⟩
  rcases c with ⟨c1, m', c2, c3⟩ | ⟨c1, c, c2, c3⟩ | ⟨c1, c1', c, c2, c3⟩ | ⟨c1, mg', mb', c2, c3, c4⟩
  · exact .inl ⟨c1, m', c2.at' hl, c3⟩
  · exact .inr (.inl ⟨c1, c, c2, cellB c2 c3⟩)
  · exact .inr (.inr (.inl ⟨c1, c1', c, c2, cellB c2 c3⟩))
  · exact .inr (.inr (.inr ⟨c1, mg', mb', c2.at' hg, c3.at' hb, c4⟩))

/-- the same frame over more addresses to shun -/
theorem Frm.grow (F : Frm g0 env X Y ρ h) {X' : Addr → Prop} (k : Keep h h') (hX : ∀ a, X a → X' a) (hg : ∀ a, X' a → g0.get? a = none) (hl : ∀ a, X' a → ∃ o, h'.get? a = some o)
    (hr : ∀ p ∈ ρ', Stable X' p.2 ∧ ∃ P, (p.1, P) ∈ ρ ∧ ∀ v, P v h → p.2 v h) : Frm g0 env X' Y ρ' h' :=
  { F.keep k with away := hg, live := hl, sub := (fun a q => hX a (F.sub a q)), vars := (fun p hp => let ⟨st, P, hm, i⟩ := hr p hp; let ⟨_, v, y, z⟩ := F.vars _ hm; ⟨st, v, y.keep k, st _ _ _ k.b (i v z)⟩) }
/-- and over fewer, some addresses changed -/
theorem Frm.shrink {X' Z : Addr → Prop} (F : Frm g0 env X' Y ρ h) (hX : ∀ a, X a → X' a) (hY : ∀ a, Y a → X a) (hZ : ∀ a, Z a → X' a) (hZX : ∀ a, Z a → ¬ X a) (k : KeepB Z h h')
    (hr : ∀ p ∈ ρ', Stable X p.2 ∧ ∃ P, (p.1, P) ∈ ρ ∧ ∀ v h, P v h → p.2 v h) : Frm g0 env X Y ρ' h' := by
  have gl : ∀ {b : Addr}, (∃ o, g0.get? b = some o) → ∀ o, h.get? b = some o → h'.get? b = some o := fun ⟨o, e⟩ o' e' => k _ o' (fun q => by rw [F.away _ (hZ _ q)] at e; cases e) e'
  have yk : ∀ {b : Addr}, X b → ∀ o, h.get? b = some o → h'.get? b = some o := fun q o e => k _ o (fun z => hZX _ z q) e
  exact {
    base := fun b o e => gl ⟨o, e⟩ o (F.base b o e)
    away := fun a q => F.away a (hX a q)
    live := fun a q => let ⟨o, e⟩ := F.live a (hX a q); ⟨o, yk q o e⟩
    sub := hY
    loc := F.loc
    cel := F.cel
    kind := F.kind
    glb := F.glb
    blt := F.blt
    g1 := F.g1
    g2 := F.g2
    ns := let ⟨m, hn⟩ := F.ns; ⟨m, hn.at' fun o e => yk (hY _ F.loc) o e⟩
    apart := F.apart
    cells := fun n c e => let ⟨u, o, e1, e2⟩ := F.cells n c e; ⟨u, o, yk (hY _ (F.cel n c e)) o e1, e2⟩
    vars := fun p hp => by
      obtain ⟨st, P, hm, i⟩ := hr p hp
      obtain ⟨st', v, y, z⟩ := F.vars _ hm
      refine ⟨st, v, y.move (yk (hY _ F.loc)) (fun n c o e => yk (hY _ (F.cel n c e)) o) (F.glb ▸ gl F.g1) (F.blt ▸ gl F.g2), i v _ (st' v _ _ (fun b o n e => k b o (fun q => n (hZ b q)) e) z)⟩ }

theorem Frm.turn (F : Frm g0 env X Y ρ h) {Z : Addr → Prop} (hZ : ∀ a, Z a → X a) (hZc : ∀ n c, env.cells.lookup n = some c → ¬ Z c) {m m' : Str → Option Value} (hn : h.Ns env.locals m) (hn' : h'.Ns env.locals m')
    (hs : ∀ b o, ¬ Z b → b ≠ env.locals → h.get? b = some o → h'.get? b = some o) (lv : ∀ a, Z a → ∃ o, h'.get? a = some o) (items : List (Str × S))
    (hk : ∀ p ∈ items, env.kindOf p.1 = some .local ∧ (p.1 == ("__debug__" : Str)) = false) (hi : ∀ p ∈ items, ∃ v, m' p.1 = some v ∧ p.2.is v) (ha : ∀ y, (∀ p ∈ items, p.1 ≠ y) → m' y = m y)
    (hr : ∀ p ∈ ρ', p ∈ ρ ∧ ∀ q ∈ items, q.1 ≠ p.1) : Frm g0 env X Y (items.map (fun p => (p.1, isD p.2)) ++ ρ') h' := by
  have hL := F.sub _ F.loc
  have gl : ∀ {b : Addr}, (∃ o, g0.get? b = some o) → ∀ o, h.get? b = some o → h'.get? b = some o := fun ⟨o, e⟩ o' e' => hs _ o' (fun q => by rw [F.away _ (hZ _ q)] at e; cases e) (fun q => by rw [q, F.away _ hL] at e; cases e) e'
  have ck : ∀ n c o, env.cells.lookup n = some c → h.get? c = some o → h'.get? c = some o := fun n c o e e' => hs _ o (hZc n c e) (fun q => by
    obtain ⟨u, y⟩ := F.cells n c e
    exact Heap.IsCell.notNs y hn q) e'
  exact {
    base := fun b o e => gl ⟨o, e⟩ o (F.base b o e)
    away := F.away
    live := fun a q => by
      by_cases e1 : a = env.locals
      · obtain ⟨o, _, _, e, _⟩ := hn'; exact ⟨o, e1 ▸ e⟩
      · by_cases e2 : Z a
        · exact lv a e2
        · obtain ⟨o, e⟩ := F.live a q; exact ⟨o, hs a o e2 e1 e⟩
    sub := F.sub
    loc := F.loc
    cel := F.cel
    kind := F.kind
    glb := F.glb
    blt := F.blt
    g1 := F.g1
    g2 := F.g2
    ns := ⟨m', hn'⟩
    apart := F.apart
    cells := fun n c e => let ⟨u, o, e1, e2⟩ := F.cells n c e; ⟨u, o, ck n c o e e1, e2⟩
    vars := fun p hp => by
      rcases List.mem_append.mp hp with hp | hp
      · obtain ⟨q, hq, rfl⟩ := List.mem_map.mp hp
        obtain ⟨v, e1, e2⟩ := hi q hq
        exact ⟨fun _ _ _ _ z => z, v, var_of_local F.kind (hk q hq).2 (hk q hq).1 hn' e1, e2⟩
      · obtain ⟨hm, hne⟩ := hr p hp
        obtain ⟨st, u, ⟨a, b, c⟩, z⟩ := F.vars p hm
        refine ⟨st, u, ⟨a, b, ?_⟩, st _ _ _ (fun b o n e => hs b o (fun q => n (hZ b q)) (fun q => n (q ▸ hL)) e) z⟩
        have cellB : ∀ {n c u}, env.cells.lookup n = some c → h.IsCell c u → h'.IsCell c u := fun hn ⟨o, e, d⟩ => ⟨o, ck _ _ o hn e, d⟩
        rcases c with ⟨c1, m2, c2, c3⟩ | ⟨c1, c, c2, c3⟩ | ⟨c1, c1', c, c2, c3⟩ | ⟨c1, mg', mb', c2, c3, c4⟩
        · obtain ⟨o, es, ep, e1, e2, e3, e4⟩ := c2
          obtain ⟨o', es', ep', f1, f2, f3, f4⟩ := hn
          rw [e1] at f1; cases f1
          rw [e2] at f2; cases f2
          exact .inl ⟨c1, m', hn', by rw [ha p.1 hne, ← f4, e4]; exact c3⟩
        · exact .inr (.inl ⟨c1, c, c2, cellB c2 c3⟩)
        · exact .inr (.inr (.inl ⟨c1, c1', c, c2, cellB c2 c3⟩))
        · exact .inr (.inr (.inr ⟨c1, mg', mb', c2.at' (F.glb ▸ gl F.g1), c3.at' (F.blt ▸ gl F.g2), c4⟩)) }

/-- a loop whose body neither leaves it nor raises -/
theorem ex_for {target iter : Expr} {body rest : List Stmt} {pos : Pos} {n : Nat} {item : Nat → List (Str × S)} (F : Frm g0 env X Y ρ₀ h) (hit : EvIt prog w A h env iter target n item X) (ht : TgtOk env target)
    (hnm : ∀ i, i < n → ∀ p ∈ item i, env.kindOf p.1 = some .local ∧ (p.1 == ("__debug__" : Str)) = false) (hX : ∀ a, Y' a → X a) (hYY : ∀ a, Y a → Y' a)
    (ρ : (Addr → Prop) → Nat → List (Str × PV)) (J : Nat → Heap → Prop) (Dm : Addr → Prop) (hDm : ∀ a, Dm a → X a ∧ a ≠ env.locals)
    (hJ : ∀ i h h', (∀ b o, Dm b → h.get? b = some o → h'.get? b = some o) → J i h → J i h') (J0 : J 0 h)
    (entry : ∀ X', (∀ a, X a → X' a) → (∀ a, X' a → ¬ X a → h.get? a = none) → ∀ p ∈ ρ X' 0, Stable X' p.2 ∧ ∃ P, (p.1, P) ∈ ρ₀ ∧ ∀ v, P v h → p.2 v h)
    (fresh : ∀ X' i, i < n → ∀ p ∈ ρ X' i, ∀ q ∈ item i, q.1 ≠ p.1)
    (step : ∀ i X' h', i < n → (∀ a, X a → X' a) → (∀ a, X' a → ¬ X a → h.get? a = none) → KeepB Y' h h' → J i h' → Frm g0 env X' Y ((item i).map (fun p => (p.1, isD p.2)) ++ ρ X' i) h' →
      Ex prog w A Y' h' (execs body env) (fun fl h'' => fl = .next ∧ J (i + 1) h'' ∧ Frm g0 env X' Y (ρ X' (i + 1)) h''))
    (ρf : List (Str × PV)) (exit : ∀ X', (∀ a, X a → X' a) → ∀ p ∈ ρf, Stable X p.2 ∧ ∃ P, (p.1, P) ∈ ρ X' n ∧ ∀ v h, P v h → p.2 v h)
    (hn : ∀ h', KeepB Y' h h' → J n h' → Frm g0 env X Y ρf h' → Ex prog w A Y' h' (execs rest env) P') (hs : ∀ x, foldedSetIterable iter env x = pure x) :
    Ex prog w A Y' h (execs (.For target iter body [] pos :: rest) env) P' := fun s Q E eq q => by
  subst eq
  refine wpAny_execs_cons (wpAny_For (hit s _ E (fun _ _ e => e) fun it h₁ tk₁ k₁ i₁ => ?_) hs)
  obtain ⟨fp, Wr, St, hWr, hfp, hst, hI⟩ := i₁
  have fpX : ∀ a, fp a → ¬ X a := fun a z hx => by
    obtain ⟨o, e⟩ := F.live a hx
    exact (hfp a z).2.2 o e hx
  have I := hI env F.kind ht (fun z => fpX _ z (F.sub _ F.loc))
  have WX : ∀ a, Wr a → ¬ X a := fun a z => fpX a (hWr a z).1
  have fr : ∀ a, (X a ∨ Wr a) → ¬ X a → s.heap.get? a = none := fun a z hx => (z.resolve_left hx |> hWr a).2
  refine codeAny_forLoop_any (fun k s' => ∃ i h' tk, s' = { s with heap := h', toks := tk } ∧ i ≤ n ∧ k = n + 1 - i ∧ St i h' ∧ KeepB Y' s.heap h' ∧ Live s.heap h' ∧ J i h' ∧ Frm g0 env (fun a => X a ∨ Wr a) Y (ρ (fun a => X a ∨ Wr a) i) h') ?_ (n + 1)
    ⟨0, h₁, tk₁, rfl, Nat.zero_le _, rfl, hst, k₁.b, k₁.live, hJ 0 _ _ (fun b o hb e => k₁ b o e) J0, ?_⟩
  · rintro k s' ⟨i, H, tk, rfl, hi, rfl, st', kH, lH, jH, FH⟩
    by_cases hlt : i < n
    · obtain ⟨m, hnm'⟩ := FH.ns
      refine wpAny_mono (I.turn i _ (fun s₂ => wpAny (model prog w) A (execs body env) (fun f s₃ => match f with
            | .next | .cont => ∃ m, m < n + 1 - i ∧ ∃ i h' tk, s₃ = { s with heap := h', toks := tk } ∧ i ≤ n ∧ m = n + 1 - i ∧ St i h' ∧ KeepB Y' s.heap h' ∧ Live s.heap h' ∧ J i h' ∧ Frm g0 env (fun a => X a ∨ Wr a) Y (ρ (fun a => X a ∨ Wr a) i) h'
            | .brk => (match Flow.next with | .next => wpAny (model prog w) A (execs rest env) Q E s₃ | f => Q f s₃)
            | .ret v => (match Flow.ret v with | .next => wpAny (model prog w) A (execs rest env) Q E s₃ | f => Q f s₃)) (notedBy (model prog w) A env fun e s' => cameBackBy (model prog w) A env E e s') s₂)
          (notedBy (model prog w) A env fun e s' => cameBackBy (model prog w) A env E e s') m hlt st' hnm' ?_) (fun r s₁ hr => ?_) fun _ _ z => z
      · intro h₂ tk₂ m₂ st₂ hn₂ hitm hag k₂
        have F₂ := FH.turn (Z := Wr) (fun a z => .inr z) (fun n c e z => WX _ z (F.sub _ (F.cel n c e))) hnm' hn₂ k₂ (fun a z => I.live _ _ st₂ a z) (item i) (hnm i hlt) hitm hag (ρ' := ρ (fun a => X a ∨ Wr a) i) fun p hp => ⟨hp, fresh _ i hlt p hp⟩
        have kY : ∀ b o, ¬ Y' b → s.heap.get? b = some o → h₂.get? b = some o := fun b o n e => k₂ b o (fun z => by rw [(hWr b z).2] at e; cases e) (fun z => n (z ▸ hYY _ F.loc)) (kH b o n e)
        have j₂ : J i h₂ := hJ i _ _ (fun b o hb e => k₂ b o (fun z => WX _ z (hDm b hb).1) (hDm b hb).2 e) jH
        have l₂ : Live s.heap h₂ := fun b o e => by
          obtain ⟨o', e'⟩ := lH b o e
          by_cases hb : b = env.locals
          · obtain ⟨o, _, _, e, _⟩ := hn₂; exact ⟨o, hb ▸ e⟩
          · exact ⟨o', k₂ b o' (fun z => by rw [(hWr b z).2] at e; cases e) hb e'⟩
        refine step i _ h₂ hlt (fun a z => .inl z) fr kY j₂ F₂ ⟨h₂, s.gens, s.drawn, tk₂, s.os⟩ _ _ rfl fun fl h₃ tk₃ k₃ l₃ ⟨e₃, j₃, F₃⟩ => ?_
        subst e₃
        exact ⟨n + 1 - (i + 1), by omega, i + 1, h₃, tk₃, rfl, hlt, rfl, I.frame _ _ _ st₂ fun b hb o e => k₃ b o (fun z => fpX b hb (hX b z)) e, fun b o n e => k₃ b o n (kY b o n e), l₂.trans l₃, j₃, F₃⟩
      · cases r with
        | none => exact hr.elim
        | some v => exact hr
    · have hin : i = n := by omega
      subst hin
      refine I.done _ _ _ st' fun h₂ tk₂ k₂ => ?_
      refine wpAny_execs_nil ?_
      have F₂ : Frm g0 env X Y ρf h₂ := FH.shrink (Z := Wr) (fun a z => .inl z) F.sub (fun a z => .inr z) WX (fun b o n e => k₂ b o n e) (exit _ fun a z => .inl z)
      have kY : KeepB Y' s.heap h₂ := fun b o n e => k₂ b o (fun z => by rw [(hWr b z).2] at e; cases e) (kH b o n e)
      have l₂ : Live s.heap h₂ := fun b o e => let ⟨o', e'⟩ := lH b o e; ⟨o', k₂ b o' (fun z => by rw [(hWr b z).2] at e; cases e) e'⟩
      exact hn h₂ kY (hJ i _ _ (fun b o hb e => k₂ b o (fun z => WX _ z (hDm b hb).1) e) jH) F₂ ⟨h₂, s.gens, s.drawn, tk₂, s.os⟩ Q E rfl fun fl h₃ tk₃ k₃ l₃ p₃ => q fl h₃ tk₃ (kY.trans k₃) (l₂.trans l₃) p₃
  · exact F.grow k₁ (fun a z => .inl z) (fun a z => z.elim (F.away a) fun z => none_of_keep F.base (hWr a z).2) (fun a z => z.elim (F.keep k₁ |>.live a) fun z => I.live _ _ hst a z) fun p hp => entry (fun a => X a ∨ Wr a) (fun a z => .inl z) fr p hp
end
end Mine

set_option maxRecDepth 100000
set_option linter.unusedVariables false
namespace Mine
open PySem PySem.W PySem.Calls PyProof.Rows

/-- a list of scalars that has no dictionary -/
abbrev isLd (X : Addr → Prop) (ds : List S) : PV := fun v h => isL X ds v h ∧ ∃ l o, v = .ref l ∧ h.get? l = some o ∧ o.dict = none
theorem isLd.keep {X : Addr → Prop} {ds : List S} {v : Value} {h h' : Heap} (p : isLd X ds v h) (k : KeepB X h h') : isLd X ds v h' := by
  obtain ⟨q, l, o, e, e1, e2⟩ := p
  refine ⟨q.keep k, l, o, e, k l o ?_ e1, e2⟩
  obtain ⟨l', vs, e', n, _⟩ := q
  rw [e] at e'; cases e'; exact n
theorem Stable.ld {X ds} : Stable X (isLd X ds) := fun _ _ _ k p => isLd.keep p k
theorem Mono.ld {X ds} : Mono (isLd X ds) := Stable.ld.mono
theorem isLd.widen {X X' : Addr → Prop} {ds : List S} {v : Value} {h : Heap} (p : isLd X ds v h) (hf : ∀ a, X' a → ¬ X a → h.get? a = none) : isLd X' ds v h := ⟨p.1.widen hf, p.2⟩
theorem isLd.narrow {X X' : Addr → Prop} {ds : List S} {v : Value} {h : Heap} (p : isLd X' ds v h) (hs : ∀ a, X a → X' a) : isLd X ds v h := ⟨p.1.narrow hs, p.2⟩

section
variable {prog : Program} {w : World} {A : Around} {K : Frag} {g0 h0 h h' : Heap} {mg mb : Str → Option Value} {env : Env} {X Y : Addr → Prop} {ρ ρ' : List (Str × PV)} {P P₁ P₂ P₃ : PV}

/-- displays -/
theorem evp0 {pos : Pos} : Ev prog w A h0 (spliced (backTo pos (starEach [] env))) (fun vs _ => Paired S.is [] vs) := Ev.pure fun _ _ => .nil
theorem evpS {pos : Pos} {e : Expr} {rest : List Expr} {d : S} {ds : List S} (x : Ev prog w A h0 (eval e env) (isD d)) (y : Ev prog w A h0 (spliced (backTo pos (starEach rest env))) (fun vs _ => Paired S.is ds vs))
    (he : starEach (e :: rest) env = (false, eval e env) :: starEach rest env) : Ev prog w A h0 (spliced (backTo pos (starEach (e :: rest) env))) (fun vs _ => Paired S.is (d :: ds) vs) :=
  (ev_argsS x y (fun _ _ _ _ p => p) he).mono fun _ _ _ ⟨v, r, e, p, q⟩ => e ▸ .cons p q
theorem ev_list {elts : List Expr} {pos : Pos} {ds : List S} (x : Ev prog w A h0 (spliced (backTo pos (starEach elts env))) (fun vs _ => Paired S.is ds vs)) (hlive : ∀ a, X a → ∃ o, h0.get? a = some o) (hz : ds.length ≤ sizeLine) :
    Ev prog w A h0 (eval (.List elts pos) env) (isL X ds) := fun s Q E k q =>
  wpAny_List (x s _ E k fun vs h₁ tk₁ k₁ p => ⟨by rw [← p.length]; exact hz, q _ _ _ (k₁.trans keep_push) ⟨_, _, rfl, fun hx => (by
    obtain ⟨o, eo⟩ := hlive _ hx
    have := k₁ _ _ (k _ _ eo); rw [get_size] at this; cases this), Heap.PlainList.isList ⟨_, Heap.get?_push_size _ rfl⟩, by simpa using p⟩⟩)
/-- a sum of two lists is a plain list -/
theorem ev_addLd {l r : Expr} {pos : Pos} {ds es : List S} (x : Ev prog w A h0 (eval l env) (isL X ds)) (y : Ev prog w A h0 (eval r env) (isL X es)) (hlive : ∀ a, X a → ∃ o, h0.get? a = some o) (hz : ds.length + es.length ≤ sizeLine) :
    Ev prog w A h0 (eval (.BinOp l .Add r pos) env) (isLd X (ds ++ es)) :=
  ev_bin x y Mono.l fun a b h k ⟨l, vs, e, n, hl, z⟩ ⟨l', vs', e', n', hl', z'⟩ s Q E k' q => by
    subst e e'
    have ez : vs.size = ds.length := by have := z.length; simpa using this.symm
    have ez' : vs'.size = es.length := by have := z'.length; simpa using this.symm
    obtain ⟨⟨cls, dd, data, sl⟩, ho, hc, nn, hd⟩ := id hl
    obtain ⟨⟨cls2, dd2, data2, sl2⟩, ho2, hc2, nn2, hd2⟩ := id hl'
    simp only at hc hd hc2 hd2
    subst hc hd hc2 hd2
    refine concat_meets ⟨_, k' _ _ ho, rfl⟩ ⟨_, k' _ _ ho2, rfl⟩ noFill_list_add seq_list_add PySem.F.slot_list_add PySem.F.entry_list_add (PySem.F.args_list_add_2 _ _) (list_addW l l' vs vs' nn nn2 dd dd2 sl sl2 (by rw [ez, ez']; exact hz)) ⟨k' _ _ ho, k' _ _ ho2, ?_⟩
    refine q _ _ s.toks keep_push ⟨⟨_, _, rfl, fun hx => ?_, Heap.PlainList.isList ⟨_, Heap.get?_push_size _ rfl⟩, ?_⟩, _, _, rfl, Heap.get?_push_size _ rfl, rfl⟩
    · obtain ⟨o, eo⟩ := hlive _ hx
      have := k' _ _ (k _ _ eo); rw [get_size] at this; cases this
    · simpa using paired_append z z'

/-- attributes -/
theorem ev_attr {value : Expr} {attr : Str} {pos : Pos} (x : Ev prog w A h0 (eval value env) P₁) (g : ∀ v h, Keep h0 h → P₁ v h → Ev prog w A h (getAttr v attr true) P)
    (he : eval (.Attribute value attr pos) env = (do let o ← eval value env; standAt pos.atName; let r ← holding [o] (getAttr o attr true); letTemporaryGo value o r; pure r)) (ht : ∀ o r, letTemporaryGo value o r = pure ()) :
    Ev prog w A h0 (eval (.Attribute value attr pos) env) P := fun s Q E k q => by
  rw [he]
  refine wpAny_bind (x s _ E k fun v h₁ tk₁ k₁ p => wpAny_bind (wpAny_standAt (wpAny_bind (wpAny_holding (g v h₁ (k.trans k₁) p ⟨h₁, s.gens, s.drawn, tk₁, s.os⟩ _ E (fun _ _ e => e) fun u h₂ tk₂ k₂ p₂ => ?_)))))
  exact wpAny_bind (wpAny_of_eq (ht v u) (wpAny_pure (q u h₂ tk₂ (k₁.trans k₂) p₂)))
/-- a call through an attribute -/
theorem ev_attrCall {o : Expr} {name : Str} {apos pos : Pos} {args : List Expr} {kws : List Keyword} {pl : Sem Bool} {PM : Value × List Value → Heap → Prop} (x : Ev prog w A h0 (eval o env) P₁) (gm : ∀ v h, Keep h0 h → P₁ v h → Ev prog w A h (getMethod v name pl) PM)
    (cw : ∀ fx h, Keep h0 h → PM fx h → Ev prog w A h (callWith pos fx.1 fx.2 (backTo pos (starEach args env)) (backToKw pos (keywordEach kws env))) P)
    (he : eval (.Call (.Attribute o name apos) args kws pos) env = (do let ov ← eval o env; standAt apos.atName; let (f, first) ← holding [ov] (getMethod ov name pl); callWith pos f first (backTo pos (starEach args env)) (backToKw pos (keywordEach kws env)))) :
    Ev prog w A h0 (eval (.Call (.Attribute o name apos) args kws pos) env) P := fun s Q E k q =>
  methodCall_KW (pl := pl) (x s _ E k fun v h₁ tk₁ k₁ p => gm v h₁ (k.trans k₁) p ⟨h₁, s.gens, s.drawn, tk₁, s.os⟩ _ E (fun _ _ e => e) fun fx h₂ tk₂ k₂ p₂ =>
    cw fx h₂ ((k.trans k₁).trans k₂) p₂ ⟨h₂, s.gens, s.drawn, tk₂, s.os⟩ Q E (fun _ _ e => e) fun u h₃ tk₃ k₃ p₃ => q u h₃ tk₃ (k₁.trans (k₂.trans k₃)) p₃) he

/-- a method of a built-in type, with arguments -/
theorem ev_methB {o e : Expr} {rest : List Expr} {name : Str} {apos pos : Pos} {T id : String} {pl : Sem Bool} {PL : List Value → Heap → Prop} (x : Ev prog w A h0 (eval o env) P₁) (m : Mono P₁) (pa : PlainAttrs T) (slot : Slot T name id)
    (hty : typeOf (.builtin id) = pure (.type "method_descriptor")) (hT : ∀ v h, Keep h0 h → P₁ v h → (∀ s : Shared, s.heap = h → s.TypeIs v T) ∧ ∀ a, v = .ref a → ∃ ob, h.get? a = some ob ∧ ob.dict = none)
    (y : Ev prog w A h0 (spliced (backTo pos (starEach (e :: rest) env))) PL) (oo : ∀ v vs h, Keep h0 h → P₁ v h → PL vs h → Ev prog w A h (call (.builtin id) (v :: vs)) P)
    (hc : ∀ ov, callWith pos (.builtin id) [ov] (backTo pos (starEach (e :: rest) env)) (backToKw pos (keywordEach [] env)) = callWith pos (.builtin id) [ov] (backTo pos (starEach (e :: rest) env)) [])
    (he : eval (.Call (.Attribute o name apos) (e :: rest) [] pos) env = (do let ov ← eval o env; standAt apos.atName; let (f, first) ← holding [ov] (getMethod ov name pl); callWith pos f first (backTo pos (starEach (e :: rest) env)) (backToKw pos (keywordEach [] env))))
    (hse : starEach (e :: rest) env = (false, eval e env) :: starEach rest env) (ha : (backTo pos (starEach rest env)).any (·.1) = false) : Ev prog w A h0 (eval (.Call (.Attribute o name apos) (e :: rest) [] pos) env) P :=
  ev_attrCall (PM := fun fx h => ∃ v, fx = (.builtin id, [v]) ∧ P₁ v h) x (fun v h k p s Q E k' q => by
      obtain ⟨h1, h2⟩ := hT v s.heap (k.trans k') (m _ _ _ k' p)
      exact getMethod_builtin (h1 s rfl) pa slot hty h2 (q _ s.heap s.toks (fun _ _ e => e) ⟨v, rfl, m _ _ _ k' p⟩))
    (fun fx h k ⟨v, e1, p⟩ s Q E k' q => by
      subst e1
      show wpAny _ _ (callWith pos (.builtin id) [v] _ _) _ _ _
      rw [hc]
      refine callWith_method1 (y s _ E (k.trans k') fun vs h₁ tk₁ k₁ pl => ?_) hse ha
      exact oo v vs h₁ ((k.trans k').trans k₁) (m _ _ _ (k'.trans k₁) p) pl ⟨h₁, s.gens, s.drawn, tk₁, s.os⟩ Q E (fun _ _ e => e) fun u h₃ tk₃ k₃ p₃ => q u h₃ tk₃ (k₁.trans k₃) p₃) he

/-- an object of a class of the text -/
def IsObj (X : Addr → Prop) (C : Addr) (x : Addr) (es : List DictEntry) (h : Heap) : Prop := ∃ dx n, h.get? x = some (instObj C dx) ∧ h.get? dx = some (dictOf es n) ∧ ¬ X x ∧ ¬ X dx
theorem IsObj.keep {C x : Addr} {es : List DictEntry} (p : IsObj X C x es h) (k : KeepB X h h') : IsObj X C x es h' := let ⟨dx, n, a, b, c, d⟩ := p; ⟨dx, n, k _ _ c a, k _ _ d b, c, d⟩
theorem IsObj.widen {X' : Addr → Prop} {C x : Addr} {es : List DictEntry} (p : IsObj X C x es h) (hf : ∀ a, X' a → ¬ X a → h.get? a = none) : IsObj X' C x es h := by
  obtain ⟨dx, n, a, b, c, d⟩ := p
  exact ⟨dx, n, a, b, fun q => (by rw [hf x q c] at a; cases a), fun q => (by rw [hf dx q d] at b; cases b)⟩
theorem IsObj.narrow {X' : Addr → Prop} {C x : Addr} {es : List DictEntry} (p : IsObj X' C x es h) (hs : ∀ a, X a → X' a) : IsObj X C x es h := let ⟨dx, n, a, b, c, d⟩ := p; ⟨dx, n, a, b, fun q => c (hs _ q), fun q => d (hs _ q)⟩
theorem IsObj.inst {C x : Addr} {es : List DictEntry} (p : IsObj X C x es h) : ∃ ox n, InstAt h x ox C (some (dictOf es n)) := by
  obtain ⟨dx, n, a, b, c, d⟩ := p
  exact ⟨instObj C dx, n, a, rfl, rfl, b⟩

theorem getA_own {C x : Addr} {es : List DictEntry} {name : Str} {u : Value} {expr : Bool} {attr : Option Value} (W : Wd K g0 mg mb) (b : Keep g0 h) (p : IsObj X C x es h) (hg : plainGet K C name = true) (hh : hasDictIn K C = true)
    (ha : findIn K (.ref C) name = some attr) (hn : noGet K attr = true) (hl : getL name es = some (some u)) (hv : handedIn u = true) : Ev prog w A h (getAttr (.ref x) name expr) (isV u) := fun s Q E k q => by
  obtain ⟨ox, n, I⟩ := (p.keep k.b).inst
  exact get_value (W.kin.keeps (b.trans k)) I (plainGet_of hg).1 (findObj_own hh ha hn hl) hv (q _ s.heap _ (fun _ _ e => e) rfl)
theorem getM_fn {C x : Addr} {es : List DictEntry} {name : Str} {pl : Sem Bool} {f : Addr} (W : Wd K g0 mg mb) (b : Keep g0 h) (p : IsObj X C x es h) (hg : plainGet K C name = true) (hf : findIn K (.ref C) name = some (some (.ref f))) (ht : isFn K (.ref f) = true)
    (hl : getL name es = some none) : Ev prog w A h (getMethod (.ref x) name pl) (fun fx _ => fx = (.ref f, [.ref x])) := fun s Q E k q => by
  obtain ⟨ox, n, I⟩ := (p.keep k.b).inst
  exact method_fn (W.kin.keeps (b.trans k)) I (plainGet_of hg).1 (plainGet_of hg).2 hf (beq_iff_eq.mp ht) (by show (lookIn name (dictOf es n)).map _ = _; rw [lookIn_dict, hl]; rfl) (q _ s.heap s.toks (fun _ _ e => e) rfl)
theorem getM_own {C x : Addr} {es : List DictEntry} {name : Str} {pl : Sem Bool} {u : Value} (W : Wd K g0 mg mb) (b : Keep g0 h) (p : IsObj X C x es h) (hg : plainGet K C name = true) (hh : hasDictIn K C = true) (hf : findIn K (.ref C) name = some none)
    (hl : getL name es = some (some u)) (hv : handedIn u = true) : Ev prog w A h (getMethod (.ref x) name pl) (fun fx _ => fx = (u, [])) := fun s Q E k q => by
  obtain ⟨ox, n, I⟩ := (p.keep k.b).inst
  exact method_usual (W.kin.keeps (b.trans k)) I (plainGet_of hg).1 (plainGet_of hg).2 hf rfl (get_value (W.kin.keeps (b.trans k)) I (plainGet_of hg).1 (findObj_own hh hf rfl hl) hv (q _ s.heap _ (fun _ _ e => e) rfl))
theorem getM_sm {C x p' : Addr} {es : List DictEntry} {name : Str} {pl : Sem Bool} {fv : Value} {rest : List Value} (W : Wd K g0 mg mb) (b : Keep g0 h) (p : IsObj X C x es h) (hg : plainGet K C name = true) (hh : hasDictIn K C = true) (ha : findIn K (.ref C) name = some (some (.ref p')))
    (ht : typeIn K (.ref p') = some (.type "staticmethod")) (hgf : specialIn K (.ref p') "__get__" = some (some (.builtin "staticmethod.__get__"))) (hts : takesIn K (.ref p') = some false) (hc : copiedNames.contains name = false)
    (hl : getL name es = some none) (hp : recIn K p' "staticmethod" = some (fv :: rest)) (hv : handedIn fv = true) : Ev prog w A h (getMethod (.ref x) name pl) (fun fx _ => fx = (fv, [])) := fun s Q E k q => by
  obtain ⟨ox, n, I⟩ := (p.keep k.b).inst
  exact method_usual (r := some (.ref p')) (W.kin.keeps (b.trans k)) I (plainGet_of hg).1 (plainGet_of hg).2 ha (by simp only [Option.all_some, ht, Option.any_some]; decide +kernel)
    (get_bind (W.kin.keeps (b.trans k)) I (plainGet_of hg).1 (findObj_fn hh ha hgf hts hc (by show lookIn name (dictOf es n) = _; rw [lookIn_dict, hl])) (plainGet_of hg).2
      (wpAny_call (sm_get (s := { s with toks := s.toks + 1 }) (W.kin.keeps (b.trans k)) hp (handed_on hv (q _ s.heap _ (fun _ _ e => e) rfl)))))
/-- a call of one of the text's own defs, found through an attribute -/
theorem cw_K {pos : Pos} {fa : Addr} {first : List Value} {e : Expr} {rest : List Expr} {PL : List Value → Heap → Prop} (W : Wd K g0 mg mb) (b : Keep g0 h0) (hk : keepIn K (.ref fa) = true) (y : Ev prog w A h0 (spliced (backTo pos (starEach (e :: rest) env))) PL)
    (oo : ∀ vs h, Keep h0 h → PL vs h → Ev prog w A h (call (.ref fa) (first ++ vs)) P) (hse : starEach (e :: rest) env = (false, eval e env) :: starEach rest env) (ha : (backTo pos (starEach rest env)).any (·.1) = false)
    {kws : List (Option Str × Sem Value)} (hkw : kws = []) : Ev prog w A h0 (callWith pos (.ref fa) first (backTo pos (starEach (e :: rest) env)) kws) P := fun s Q E k q => by
  subst hkw
  exact callWith_K W.kin hk (y s _ E k fun vs h₁ tk₁ k₁ p => ⟨W.kin.keeps (b.trans (k.trans k₁)), oo vs h₁ (k.trans k₁) p ⟨h₁, s.gens, s.drawn, tk₁, s.os⟩ Q E (fun _ _ e => e) fun u h₃ tk₃ k₃ p₃ => q u h₃ tk₃ (k₁.trans k₃) p₃⟩) hse ha

theorem strsAre_of : ∀ {ns : List Str} {vs : List Value}, Paired S.is (ns.map S.str) vs → StrsAre vs ns
  | [], _, .nil => .nil
  | n :: r, _, .cons ⟨t, e⟩ z => by subst e; exact .cons n t (strsAre_of z)
theorem cmp_notInI {ns : List Int} {n : Int} {v u : Value} (x : isI n v h) (y : isLI X ns u h) : Ev prog w A h (compareOp .NotIn v u) (isB (!ns.any (· == n))) := fun s _ _ k q => by
  obtain ⟨t, rfl⟩ := x; obtain ⟨l, vs, rfl, n, hl, z⟩ := y
  exact notin_list_ints (vs := vs.toList) (hl.at fun o e => k l o e) (intsAre_of z) (q _ s.heap s.toks (fun _ _ e => e) rfl)
theorem cmp_inS {ns : List Str} {n : Str} {v u : Value} (x : isS n v h) (y : isLS X ns u h) : Ev prog w A h (compareOp .In v u) (isB (ns.any (· == n))) := fun s _ _ k q => by
  obtain ⟨t, rfl⟩ := x; obtain ⟨l, vs, rfl, n, hl, z⟩ := y
  exact in_list_strs (vs := vs.toList) (hl.at fun o e => k l o e) (strsAre_of z) (q _ s.heap s.toks (fun _ _ e => e) rfl)
end
end Mine

set_option maxRecDepth 100000
set_option linter.unusedVariables false
namespace Mine
open PySem PySem.W PySem.Calls PyProof.Rows

theorem hr_nil {α : Type} {C : α → Prop} : ∀ q ∈ ([] : List α), C q := fun _ h => by cases h
theorem hr_cons {α : Type} {C : α → Prop} {p : α} {l : List α} (h : C p) (t : ∀ q ∈ l, C q) : ∀ q ∈ p :: l, C q := fun q hq => by
  rcases List.mem_cons.mp hq with rfl | hq
  · exact h
  · exact t q hq
theorem hr_bothL {α β : Type} {l : List α} {f : α → β} {k : List β} {C : β → Prop} (h : ∀ q ∈ l, C (f q)) (t : ∀ q ∈ k, C q) : ∀ q ∈ l.map f ++ k, C q := fun q hq => by
  rcases List.mem_append.mp hq with hq | hq
  · obtain ⟨a, ha, rfl⟩ := List.mem_map.mp hq; exact h a ha
  · exact t q hq

theorem bits_pow (e : Nat) : Builtin.Int.intBits ((2 : Int) ^ e) = e + 1 := by
  have h : ((2 : Int) ^ e).natAbs = 2 ^ e := by rw [Int.natAbs_pow]; rfl
  have hp : 0 < 2 ^ e := Nat.two_pow_pos e
  unfold Builtin.Int.intBits
  have hz : ((2 : Int) ^ e == 0) = false := by
    rw [beq_eq_false_iff_ne]
    intro q; rw [q] at h; simp at h; omega
  rw [hz, h, Nat.log2_two_pow]; rfl
theorem log_pow (e : Nat) : ((2 : Int) ^ e).natAbs.log2 = e := by
  have h : ((2 : Int) ^ e).natAbs = 2 ^ e := by rw [Int.natAbs_pow]; rfl
  rw [h, Nat.log2_two_pow]
theorem pos_pow (e : Nat) : (0 : Int) < 2 ^ e := Int.pow_pos (by decide)
theorem mulOk_pow {a : Int} {e : Nat} (h : e ≤ 60) : IntMulOk a (2 ^ e) := IntMulOk.of_right (by rw [bits_pow]; omega)
/-- the cells that a block takes along -/
def clOf (env : Env) (scope : Scope) : List (Str × Addr) := (closL env scope.names []).getD []
theorem clOf_ok {env : Env} {scope : Scope} (h : (closL env scope.names []).isSome = true) : closL env scope.names [] = some (clOf env scope) := by
  unfold clOf
  cases e : closL env scope.names [] with
  | none => rw [e] at h; cases h
  | some x => rfl
end Mine

set_option maxRecDepth 100000
set_option linter.unusedVariables false
namespace Mine
open PySem PySem.W PySem.Calls PyProof.Rows

section
variable {prog : Program} {w : World} {A : Around} {K : Frag} {g0 h0 h h' : Heap} {mg mb : Str → Option Value} {X Y Z : Addr → Prop}

/-- from the heap h the tree ends with a value of which P holds; every object but Z's stays -/
def Cx {α : Type} (prog : Program) (w : World) (A : Around) (Z : Addr → Prop) (h : Heap) (t : Sem α) (P : α → Heap → Prop) : Prop :=
  ∀ (s : Shared) (Q : α → Shared → Prop) (E : Value → Shared → Prop), s.heap = h → (∀ v h' tk, KeepB Z h h' → Live h h' → P v h' → Q v { s with heap := h', toks := tk }) → wpAny (model prog w) A t Q E s
theorem Ev.cx {α : Type} {t : Sem α} {P : α → Heap → Prop} (x : Ev prog w A h t P) : Cx prog w A Z h t P := fun s Q E e q => by
  subst e; exact x.use fun v h' tk k p => q v h' tk k.b k.live p
theorem Cx.mono {α : Type} {t : Sem α} {P P' : α → Heap → Prop} (x : Cx prog w A Z h t P) (hP : ∀ v h', KeepB Z h h' → P v h' → P' v h') : Cx prog w A Z h t P' :=
  fun s Q E e q => x s Q E e fun v h' tk k l p => q v h' tk k l (hP v h' k p)
/-- the same of a piece of code -/
def Co (prog : Program) (w : World) (A : Around) (Z : Addr → Prop) (h : Heap) (c : Code) (P : PV) : Prop :=
  ∀ (s : Shared) (R : Result → Shared → Prop), s.heap = h → (∀ v h' tk, KeepB Z h h' → Live h h' → P v h' → R (.ok (.ret v)) { s with heap := h', toks := tk }) → codeAny (model prog w) A c R s
theorem Co.cx {f : Value} {args : Args} {P : PV} (x : Co prog w A Z h (.call f args) P) : Cx prog w A Z h (call f args.pos args.kw) P := fun s Q E e q =>
  wpAny_call (x s _ e fun v h' tk k l p => q v h' tk k l p)

/-- a run of one of the text's own defs, told by what its body's run ends in -/
theorem code_callR {P : Flow → Heap → Prop} {ρ : (Addr → Prop) → List (Str × PV)} (W : Wd K g0 mg mb) (O : Out g0 X h0) {f : Addr} {fd : FuncData} {oc : Value} {od : Option Addr} {osl : Array (Option Value)} {body : List Stmt} {args : Args} {binds : List (Str × Value)}
    (hK : K.lookup f = some ⟨oc, od, .func fd, osl⟩) (hbody : fd.body = .stmts body) (hok : callOk K fd (binds.map (·.1)) = true) (hroom : A.depth < recursionLimit) (hbind : ∀ s : Shared, Keep h0 s.heap → BindsTo s fd args binds)
    (hρ : ∀ X' : Addr → Prop, (∀ a, X a → X' a) → (∀ a, X' a → ¬ X a → h0.get? a = none) → ∀ q ∈ ρ X', ParOk h0 X' binds q)
    (hrun : ∀ L env X' h₁, env = callEnvC fd L f → Keep h0 h₁ → (∀ a, X a → X' a) → (∀ a, X' a → ¬ X a → h0.get? a = none) → h0.objs.size ≤ env.locals → (∀ a, Own env a → h0.get? a = none) → Frm g0 env X' (Own env) (ρ X') h₁ →
      ∀ (s : Shared) (Q : Flow → Shared → Prop) (E : Value → Shared → Prop), s.heap = h₁ → (∀ fl h' tk, P fl h' → Q fl { s with heap := h', toks := tk }) → wpAny (model prog w) (A.deeper env) (execs body env) Q E s)
    (s : Shared) (R : Result → Shared → Prop) (e : s.heap = h0) (q : ∀ fl h' tk, P fl h' → R (.ok (.ret (match fl with | .ret v => v | _ => .none))) { s with heap := h', toks := tk }) :
    codeAny (model prog w) A (.call (.ref f) args) R s := by
  subst e
  simp only [callOk, Bool.and_eq_true, Bool.not_eq_true', beq_iff_eq, List.isEmpty_iff] at hok
  obtain ⟨⟨⟨⟨⟨⟨⟨⟨⟨⟨a1, a2⟩, a3⟩, a4⟩, a5⟩, a6⟩, a7⟩, a8⟩, a9⟩, a10⟩, a11⟩ := hok
  have hkind : (binds.all fun y => fd.scope.names.lookup y.1 == some .local || fd.scope.names.lookup y.1 == some .cell) = true := by rw [List.all_map] at a2; exact a2
  have hdbg : (binds.all fun y => y.1 != ("__debug__" : Str)) = true := by rw [List.all_map] at a4; exact a4
  have hnd := nodupB_of a3
  refine codeAny_call_function hroom (W.kin.keeps O.base _ _ hK) rfl a6 a7 hbody (codeRec_of (W.kin.keeps O.base) a1) (hbind s (fun _ _ e => e) _ _ _ _ ?_)
  rw [a11]
  refine wpAny_newFunctionEnv_cells a8 (kindsX hkind _) fun env' he s' x => ?_
  subst he
  obtain ⟨h₁, tk, rfl, hk₁⟩ := x.done
  refine ⟨(W.lim.keeps O.base).keeps hk₁, codeAny_func ?_⟩
  show wpAny (model prog w) (A.deeper (callEnvC fd s.heap.objs.size f)) (execs body (callEnvC fd s.heap.objs.size f)) _ _ _
  have fresh : ∀ a, Xin X (callEnvC fd s.heap.objs.size f) a → ¬ X a → s.heap.get? a = none := by
    rintro a (q | q | ⟨n, q⟩) hn
    · exact absurd q hn
    · subst q; exact Heap.get?_none_of_le (Nat.le_refl _)
    · exact Heap.get?_none_of_le (Nat.le_of_lt (x.above n a (mem_of_lookup q)))
  have F : Frm g0 (callEnvC fd s.heap.objs.size f) (Xin X (callEnvC fd s.heap.objs.size f)) (Own (callEnvC fd s.heap.objs.size f)) (ρ (Xin X (callEnvC fd s.heap.objs.size f))) h₁ := {
    base := O.base.trans hk₁
    away := fun a q => by
      rcases Classical.em (X a) with hx | hx
      · exact O.away a hx
      · exact none_of_keep O.base (fresh a q hx)
    live := by
      rintro a (q | q | ⟨n, q⟩)
      · obtain ⟨o, e⟩ := O.live a q; exact ⟨o, hk₁ a o e⟩
      · subst q; obtain ⟨o, _, _, e, _⟩ := x.toInCall.ns; exact ⟨o, e⟩
      · obtain ⟨o, e, _⟩ := x.cell n a q; exact ⟨o, e⟩
    sub := fun a q => .inr q
    loc := .inl rfl
    cel := fun n c hc => .inr ⟨n, hc⟩
    kind := a8
    glb := a9
    blt := a10
    g1 := W.e1
    g2 := W.e2
    ns := ⟨_, x.toInCall.ns⟩
    apart := x.apart
    cells := fun n c hc => ⟨_, x.cell n c hc⟩
    vars := fun q hq => by
      obtain ⟨st, v, hm, hp⟩ := hρ _ (fun a z => .inl z) fresh q hq
      refine ⟨st, v, ?_, hp h₁ hk₁⟩
      have hd : (q.1 == ("__debug__" : Str)) = false := by
        have := List.all_eq_true.mp hdbg _ hm
        simpa [bne] using this
      rcases (kindsX hkind (s.heap.objs.size + 1)) _ hm with hl | ⟨hl, hs⟩
      · exact var_of_local a8 hd hl x.toInCall.ns (bindL_in hnd hm hl)
      · obtain ⟨c, hc⟩ := Option.isSome_iff_exists.mp hs
        refine var_of_cell a8 hd hl hc ?_
        have := x.cell q.1 c hc
        rw [bindC_in hnd hm hl] at this
        exact this }
  have own0 : ∀ a, Own (callEnvC fd s.heap.objs.size f) a → s.heap.get? a = none := by
    rintro a (hx | ⟨n, hx⟩)
    · subst hx; exact Heap.get?_none_of_le (Nat.le_refl _)
    · exact Heap.get?_none_of_le (Nat.le_of_lt (x.above n a (mem_of_lookup hx)))
  exact hrun s.heap.objs.size _ _ h₁ rfl hk₁ (fun a q => .inl q) fresh (Nat.le_refl _) own0 F ⟨h₁, s.gens, s.drawn, tk, s.os⟩ _ _ rfl fun fl h₂ tk₂ p₂ => q fl h₂ tk₂ p₂

/-- a run of one of the text's own defs that may change Z -/
theorem code_callK {P : PV} {ρ : (Addr → Prop) → List (Str × PV)} (W : Wd K g0 mg mb) (O : Out g0 X h0) {f : Addr} {fd : FuncData} {oc : Value} {od : Option Addr} {osl : Array (Option Value)} {body : List Stmt} {args : Args} {binds : List (Str × Value)}
    (hK : K.lookup f = some ⟨oc, od, .func fd, osl⟩) (hbody : fd.body = .stmts body) (hok : callOk K fd (binds.map (·.1)) = true) (hroom : A.depth < recursionLimit) (hbind : ∀ s : Shared, Keep h0 s.heap → BindsTo s fd args binds)
    (hρ : ∀ X' : Addr → Prop, (∀ a, X a → X' a) → (∀ a, X' a → ¬ X a → h0.get? a = none) → ∀ q ∈ ρ X', ParOk h0 X' binds q)
    (hrun : ∀ L env X' h₁, env = callEnvC fd L f → Keep h0 h₁ → (∀ a, X a → X' a) → (∀ a, X' a → ¬ X a → h0.get? a = none) → (∀ a, Own env a → h0.get? a = none) → Frm g0 env X' (Own env) (ρ X') h₁ →
      Ex prog w (A.deeper env) (fun a => Own env a ∨ Z a) h₁ (execs body env) fun fl h' => P (match fl with | .ret v => v | _ => .none) h') :
    Co prog w A Z h0 (.call (.ref f) args) P := fun s R e q =>
  code_callR (P := fun fl h' => KeepB Z h0 h' ∧ Live h0 h' ∧ P (match fl with | .ret v => v | _ => .none) h') W O hK hbody hok hroom hbind hρ (fun L env X' h₁ he k hX fr _ own F s Q E e q => by
    refine hrun L env X' h₁ he k hX fr own F s Q E e fun fl h₂ tk₂ k₂ l₂ p₂ => q fl h₂ tk₂ ⟨fun b o hb e => ?_, fun b o e => l₂ b o (k b o e), p₂⟩
    refine k₂ b o (fun hx => hx.elim (fun hx => ?_) hb) (k b o e)
    rw [own b hx] at e; cases e) s R e fun fl h' tk ⟨a, b, c⟩ => q _ h' tk a b c

/-- the state of a run of __init__: the new object's dictionary grows -/
structure Ini (hb : Heap) (C : Addr) (env : Env) (m : Str → Option Value) (x dx : Addr) (es : List DictEntry) (n : Nat) (h : Heap) : Prop where
  keep : Keep hb h
  ns : h.Ns env.locals m
  at_ : h.get? x = some (instObj C dx)
  dict : h.get? dx = some (dictOf es n)
  hx : hb.get? x = none
  hd : hb.get? dx = none
  lx : x ≠ env.locals
  ld : dx ≠ env.locals
  xd : x ≠ dx
  above : hb.objs.size ≤ env.locals
theorem Ini.kept {hb C env m x dx es n} (I : Ini hb C env m x dx es n h) (k : Keep h h') : Ini hb C env m x dx es n h' :=
  { I with keep := I.keep.trans k, ns := I.ns.keeps k, at_ := k _ _ I.at_, dict := k _ _ I.dict }
theorem Ini.set {hb : Heap} {C : Addr} {env : Env} {m : Str → Option Value} {x dx : Addr} {es : List DictEntry} {n : Nat} {s : Shared} {name : Str} {v : Value} {Q : Unit → Shared → Prop} {E : Value → Shared → Prop} (I : Ini hb C env m x dx es n s.heap) (X₀ : K.In hb)
    (hs : findIn K (.ref C) "__setattr__" = some (some (.builtin "object.__setattr__"))) (hp : plainOver K C = true) (ht : takerIn K C name = some none) (hh : hasDictIn K C = true) (hl : (getL name es).isSome = true) (hz : (putL name (PyData.keyHash w.params name) (.str name (s.toks + 1)) v es).length ≤ 1000)
    (q : ∀ h' tk t, Ini hb C env m x dx (putL name (PyData.keyHash w.params name) (.str name t) v es) (putN name es n) h' → Q () { s with heap := h', toks := tk }) : wpAny (model prog w) A (setAttr (.ref x) name v) Q E s := by
  have F : Fr hb env.locals s.heap m := ⟨I.ns, I.keep, I.above⟩
  have N : News hb env.locals s.heap [(x, instObj C dx), (dx, dictOf es n)] := fun p hp => by
    simp only [List.mem_cons, List.not_mem_nil, or_false] at hp
    rcases hp with rfl | rfl
    · exact ⟨I.at_, I.lx, I.hx⟩
    · exact ⟨I.dict, I.ld, I.hd⟩
  refine set_dict (ox := instObj C dx) (dx := dx) (news' := [(x, instObj C dx), (dx, dictOf (putL name (PyData.keyHash w.params name) (.str name (s.toks + 1)) v es) (putN name es n))]) F X₀ N ⟨I.at_, rfl, rfl, I.dict⟩ rfl hs hp ht hh hl rfl (.tail I.xd (.head (by simp))) hz fun h' F' N' => ?_
  exact q h' _ _ { I with keep := F'.keep, ns := F'.ns, at_ := (N' (x, instObj C dx) (by simp)).1, dict := (N' (dx, dictOf (putL name (PyData.keyHash w.params name) (.str name (s.toks + 1)) v es) (putN name es n)) (by simp)).1 }
theorem Frm.val {env : Env} {ρ : List (Str × PV)} {name : Str} {v : Value} {m : Str → Option Value} (F : Frm g0 env X Y ρ h) (hm : (name, isV v) ∈ ρ) (hl : env.kindOf name = some .local) (hn : h.Ns env.locals m) : m name = some v := by
  obtain ⟨_, u, ⟨_, _, c⟩, e⟩ := F.vars _ hm
  have e' : u = v := e
  subst e'
  rcases c with ⟨c1, m', c2, c3⟩ | ⟨c1, _⟩ | ⟨c1, _⟩ | ⟨c1, _⟩
  · obtain ⟨o, es, ep, e1, e2, e3, e4⟩ := c2
    obtain ⟨o', es', ep', f1, f2, f3, f4⟩ := hn
    rw [e1] at f1; cases f1
    rw [e2] at f2; cases f2
    rw [← f4, e4]; exact c3
  · rw [hl] at c1; cases c1
  · rw [hl] at c1; cases c1
  · rw [hl] at c1; cases c1
theorem Ini.fre {hb : Heap} {C : Addr} {env : Env} {m : Str → Option Value} {x dx : Addr} {es : List DictEntry} {n : Nat} {ρ : List (Str × PV)} (I : Ini hb C env m x dx es n h) (b : Keep g0 hb) (hk : env.scope.kind = .function) (hg : env.globals = mainGlobals) (hbt : env.builtins = builtinsNs)
    (hv : ∀ p ∈ ρ, Mono p.2 ∧ env.kindOf p.1 = some .local ∧ (p.1 == ("__debug__" : Str)) = false ∧ ∃ v, m p.1 = some v ∧ p.2 v hb) : Fre g0 env ρ h where
  base := b.trans I.keep
  kind := hk
  glb := hg
  blt := hbt
  vars := fun p hp => let ⟨mo, kl, dbg, v, e, z⟩ := hv p hp; ⟨mo, v, var_of_local hk dbg kl I.ns e, mo _ _ _ I.keep z⟩
theorem Ini.obj {hb : Heap} {C : Addr} {env : Env} {m : Str → Option Value} {x dx : Addr} {es : List DictEntry} {n : Nat} (I : Ini hb C env m x dx es n h) (hX : ∀ a, X a → hb.get? a ≠ none) : IsObj X C x es h :=
  ⟨dx, n, I.at_, I.dict, fun z => hX _ z I.hx, fun z => hX _ z I.hd⟩
/-- a run whose end is told alone -/
def Er (prog : Program) (w : World) (A : Around) (h : Heap) (t : Sem Flow) (P : Flow → Heap → Prop) : Prop :=
  ∀ (s : Shared) (Q : Flow → Shared → Prop) (E : Value → Shared → Prop), s.heap = h → (∀ fl h' tk, P fl h' → Q fl { s with heap := h', toks := tk }) → wpAny (model prog w) A t Q E s
theorem er_setattr {hb : Heap} {C : Addr} {env : Env} {m : Str → Option Value} {x dx : Addr} {es : List DictEntry} {n : Nat} {name self : Str} {np ap pos : Pos} {value : Expr} {rest : List Stmt} {P : PV} {P' : Flow → Heap → Prop} (I : Ini hb C env m x dx es n h) (X₀ : K.In hb)
    (he : Ev prog w A h (eval value env) P) (hself : ∀ h', Keep h h' → Ev prog w A h' (eval (.Name self np) env) (isV (.ref x)))
    (hs : findIn K (.ref C) "__setattr__" = some (some (.builtin "object.__setattr__"))) (hp : plainOver K C = true) (ht : takerIn K C name = some none) (hh : hasDictIn K C = true) (hl : (getL name es).isSome = true) (hz : ∀ t v, (putL name (PyData.keyHash w.params name) (.str name t) v es).length ≤ 1000)
    (hsw : swapsWith value (some (.Attribute (.Name self np) name ap)) pos.line env = pure false) (mo : Mono P)
    (k : ∀ h' t v, P v h → True → Ini hb C env m x dx (putL name (PyData.keyHash w.params name) (.str name t) v es) (putN name es n) h' → Er prog w A h' (execs rest env) P') (hP : ∀ v h', Keep h h' → P v h' → P v h) :
    Er prog w A h (execs (.Assign [.Attribute (.Name self np) name ap] value pos :: rest) env) P' := fun s Q E e q => by
  subst e
  refine wpAny_execs_cons (plainObj_wpAny_Assign_Attribute (he.use fun v h₁ tk₁ k₁ p => hself h₁ k₁ ⟨h₁, s.gens, s.drawn, tk₁, s.os⟩ _ E (fun _ _ e => e) fun u h₂ tk₂ k₂ eu => ?_) hsw)
  have eu' : u = .ref x := eu
  subst eu'
  refine (I.kept (k₁.trans k₂)).set (s := ⟨h₂, s.gens, s.drawn, tk₂, s.os⟩) X₀ hs hp ht hh hl (hz _ _) fun h₃ tk₃ t I₃ => ?_
  exact k h₃ t v (hP v h₁ k₁ p) trivial I₃ ⟨h₃, s.gens, s.drawn, tk₃, s.os⟩ Q E rfl q
theorem er_skip {env : Env} {test : Expr} {body rest : List Stmt} {pos : Pos} {P' : Flow → Heap → Prop} (he : Ev prog w A h (isTrue test env (eval test env)) (fun c _ => c = false))
    (n : ∀ h', Keep h h' → Er prog w A h' (execs rest env) P') : Er prog w A h (execs (.If test body [] pos :: rest) env) P' := fun s Q E e q => by
  subst e
  refine wpAny_execs_cons (wpAny_If (he.use fun c h₁ tk k z => ?_))
  subst z
  exact wpAny_execs_nil (n h₁ k ⟨h₁, s.gens, s.drawn, tk, s.os⟩ Q E rfl q)
theorem er_nil {env : Env} {P' : Flow → Heap → Prop} (p : P' .next h) : Er prog w A h (execs [] env) P' := fun s Q E e q => by
  subst e; exact wpAny_execs_nil (q _ s.heap s.toks p)
/-- an object made by a call of its class -/
theorem ev_make {C fI : Addr} {pos : List Value} {P : PV} (W : Wd K g0 mg mb) (b : Keep g0 h0) (hm : makesIn K C = true) (hi : findIn K (.ref C) "__init__" = some (some (.ref fI))) (hf : isFn K (.ref fI) = true)
    (hrun : ∀ s : Shared, Keep h0 s.heap → ∀ R : Result → Shared → Prop, (∀ h' tk, Keep s.heap h' → P (.ref (s.heap.objs.size + 1)) h' → R (.ok (.ret .none)) { s with heap := h', toks := tk }) →
      codeAny (model prog w) (A.under (.builtin "type.__call__" ⟨.ref C :: pos, []⟩)) (.call (.ref fI) ⟨.ref (s.heap.objs.size + 1) :: pos, []⟩) R { s with heap := (s.heap.push (dictOf [] 0)).push (instObj C s.heap.objs.size) }) :
    Ev prog w A h0 (call (.ref C) pos) P := fun s Q E k q => by
  refine wpAny_call ?_
  have X := W.kin.keeps (b.trans k)
  obtain ⟨hh, g, d, t, os⟩ := s
  refine make_core (makes_of X hm) (looks_findIn X hi) (fun self => bind_fn X self (beq_iff_eq.mp hf)) (.inl rfl) ?_
  refine hrun ⟨hh, g, d, t, os⟩ k _ fun h' tk k' p => ?_
  exact ⟨rfl, q _ h' tk k' p⟩
end
end Mine

set_option maxRecDepth 100000
set_option linter.unusedVariables false
namespace Mine
open PySem PySem.W PySem.Calls PyProof.Rows

section
variable {prog : Program} {w : World} {A : Around} {K : Frag} {g0 h0 h h' : Heap} {mg mb : Str → Option Value} {env : Env} {X Y Z : Addr → Prop} {P P₁ P₂ : PV}

/-- isinstance -/
theorem isi_str_bytes {v : Value} {x : Str} (p : isS x v h) : Ev prog w A h (call (.builtin "isinstance") [v, .type "bytes"]) (isB false) := fun s Q E k q => by
  obtain ⟨t, rfl⟩ := p
  exact call_isinstance (isinstance_false_str (by decide +kernel) F.isi_meta_bytes F.sub_str_bytes) (q _ s.heap _ (fun _ _ e => e) rfl)
theorem isi_str_str {v : Value} {x : Str} (p : isS x v h) : Ev prog w A h (call (.builtin "isinstance") [v, .type "str"]) (isB true) := fun s Q E k q => by
  obtain ⟨t, rfl⟩ := p
  exact IsiPair.str_str (q _ s.heap s.toks (fun _ _ e => e) rfl)
theorem isi_str_list {v : Value} {x : Str} (p : isS x v h) : Ev prog w A h (call (.builtin "isinstance") [v, .type "list"]) (isB false) := fun s Q E k q => by
  obtain ⟨t, rfl⟩ := p
  exact call_isinstance (isinstance_false_str (by decide +kernel) F.isi_meta_list F.sub_str_list) (q _ s.heap _ (fun _ _ e => e) rfl)
theorem isi_list_list {v : Value} {ds : List S} (p : isL X ds v h) : Ev prog w A h (call (.builtin "isinstance") [v, .type "list"]) (isB true) := fun s Q E k q => by
  obtain ⟨l, vs, rfl, n, ⟨o, e1, e2, _⟩, z⟩ := p
  exact IsiPair.list_list (k _ _ e1) e2 (q _ s.heap s.toks (fun _ _ e => e) rfl)

/-- texts -/
theorem call_startswith {v u : Value} {x y : Str} (p : isS x v h) (p' : isS y u h) : Ev prog w A h (call (.builtin "str.startswith") [v, u]) (isB (Txt.startswith x y)) := fun s Q E k q => by
  obtain ⟨t, rfl⟩ := p; obtain ⟨t', rfl⟩ := p'
  exact SC.startswith (q _ s.heap s.toks (fun _ _ e => e) rfl)
theorem strs_of_values : ∀ {l : List (Str × Tok)} {ys : List Str}, l.map (·.1) = ys → Paired S.is (ys.map S.str) (strValues l)
  | [], _, e => by subst e; exact .nil
  | (y, t) :: r, _, e => by subst e; exact .cons ⟨t, rfl⟩ (strs_of_values rfl)
theorem fresh_of (hlive : ∀ a, X a → ∃ o, h0.get? a = some o) (k : Keep h0 h) : ¬ X h.objs.size := fun hx => by
  obtain ⟨o, eo⟩ := hlive _ hx
  have := k _ _ eo; rw [get_size] at this; cases this
theorem call_split {v u : Value} {x y : Str} (p : isS x v h) (p' : isS y u h) (hy : (y.length == 0) = false) (hlive : ∀ a, X a → ∃ o, h.get? a = some o) (hz : x.length ≤ sizeLine) (hz2 : (Builtin.Str.partsBetween x (Builtin.Str.occurrences x y 0 x.length (x.length + 1)) y.length).length ≤ sizeLine) :
    Ev prog w A h (call (.builtin "str.split") [v, u]) (isLS X (Txt.split x y)) := fun s Q E k q => by
  obtain ⟨t, rfl⟩ := p; obtain ⟨t', rfl⟩ := p'
  have fin : ∀ (l : List (Str × Tok)) tk, l.map (·.1) = Txt.split x y → Q (.ref s.heap.objs.size) { s with heap := s.heap.push { cls := .type "list", data := .seq (strValues l).toArray }, toks := tk } := fun l tk e =>
    q _ _ tk keep_push ⟨_, _, rfl, fresh_of hlive k, Heap.PlainList.isList ⟨_, Heap.get?_push_size _ rfl⟩, strs_of_values e⟩
  cases h1 : (decide (x.length < y.length) || decide (Builtin.Str.strKind x < Builtin.Str.strKind y))
  · cases hf : (Builtin.Str.occurrences x y 0 x.length (x.length + 1)).isEmpty
    · refine call_meets F.slot_str_split (typeIs_str _ _ _) F.entry_str_split (F.args_str_split_2 _ _) (meets_str_split_sep x y t t' h1 hy hf hz hz2) ?_
      show wants Q E _ { s with toks := _, heap := s.heap.push { cls := .type "list", data := .seq (strsFrom s.toks (Builtin.Str.partsBetween x (Builtin.Str.occurrences x y 0 x.length (x.length + 1)) y.length)).toArray } }
      rw [strsFrom_eq]
      exact fin (numbered s.toks _) _ (by rw [numbered_texts]; unfold Txt.split; rw [h1, hf]; rfl)
    · exact call_meets F.slot_str_split (typeIs_str _ _ _) F.entry_str_split (F.args_str_split_2 _ _) (meets_str_split_not_found x y t t' h1 hy hf)
        (fin [(x, t)] s.toks (by unfold Txt.split; rw [h1, hf]; rfl))
  · exact call_meets F.slot_str_split (typeIs_str _ _ _) F.entry_str_split (F.args_str_split_2 _ _) (meets_str_split_cannot_occur x y t t' h1)
      (fin [(x, t)] s.toks (by unfold Txt.split; rw [h1]; rfl))
theorem call_joinL {v u : Value} {x : Str} {ys : List Str} (p : isS x v h) (p' : isLS X ys u h) (hok : (ys.map (·.length)).sum + ys.length * x.length ≤ 16777216) : Ev prog w A h (call (.builtin "str.join") [v, u]) (isS (Txt.join x ys)) := fun s Q E k q => by
  obtain ⟨t, rfl⟩ := p; obtain ⟨l, vs, rfl, n, hl, z⟩ := p'
  exact PyProof.Rows.join_list (items := vs) (hl.at fun o e => k l o e) (strsAre_of z) hok fun t' k' => q _ s.heap k' (fun _ _ e => e) ⟨_, rfl⟩
theorem call_zfill {v u : Value} {x : Str} {n : Int} (p : isS x v h) (p' : isI n u h) (hp : PadOk n = true) : Ev prog w A h (call (.builtin "str.zfill") [v, u]) (isS (Txt.zfill x n)) := fun s Q E k q => by
  obtain ⟨t, rfl⟩ := p; obtain ⟨t', rfl⟩ := p'
  exact SC.zfill hp fun t' k' => q _ s.heap k' (fun _ _ e => e) ⟨_, rfl⟩
theorem call_bin {v : Value} {n : Int} (p : isI n v h) (hz : (baseText "0b" 2 n).length ≤ sizeLine) : Ev prog w A h (call (.builtin "bin") [v]) (isS (baseText "0b" 2 n)) := fun s Q E k q => by
  obtain ⟨t, rfl⟩ := p
  exact P.bin_of_int (q _ s.heap _ (fun _ _ e => e) ⟨_, rfl⟩) hz
theorem call_strI {v : Value} {n : Int} (p : isI n v h) (ha : n.natAbs.log2 < 1920) : Ev prog w A h (call (.type "str") [v]) (isS (Str.ofString (toString n))) := fun s Q E k q => by
  obtain ⟨t, rfl⟩ := p
  exact P.str_of_int ha (q _ s.heap _ (fun _ _ e => e) ⟨_, rfl⟩)
theorem call_indexS {v u : Value} {ys : List Str} {y : Str} {j : Nat} (p : isLS X ys v h) (p' : isS y u h) (hj : ys[j]? = some y) (hno : ∀ m, m < j → ys[m]? ≠ some y) (hz : j < 2 ^ 62) : Ev prog w A h (call (.builtin "list.index") [v, u]) (isI j) := fun s Q E k q => by
  obtain ⟨t, rfl⟩ := p'; obtain ⟨l, vs, rfl, n, hl, z⟩ := p
  obtain ⟨⟨cls, dd, data, sl⟩, ho, hc, nn, hd⟩ := id hl
  simp only at hc hd
  subst hc hd
  have st := strsAre_of z
  have ez : vs.size = ys.length := by have := z.length; simpa using this.symm
  have get : ∀ m (hm : m < vs.size), ∃ t', vs[m] = .str (ys.getD m (Str.ofString "")) t' := fun m hm => by
    have hm' : m < ys.length := by omega
    have hd : (ys.map S.str)[m]? = some (.str (ys.getD m (Str.ofString ""))) := by simp [hm']
    obtain ⟨b, e1, ⟨t', e2⟩⟩ := paired_get z hd
    refine ⟨t', ?_⟩
    have : vs.toList[m]? = some vs[m] := by simp [hm]
    rw [this] at e1; rw [Option.some.inj e1, e2]
  have hjl : j < ys.length := (List.getElem?_eq_some_iff.mp hj).1
  refine call_meets PySem.F.slot_list_index ⟨_, k _ _ ho, rfl⟩ PySem.F.entry_list_index (PySem.F.args_list_index_2 _ _) (SeqAt.list_indexAt l vs nn dd sl (.str y t) (isStrOf y) j (by omega) (by omega) ?_ ?_) ⟨k _ _ ho, fun y' hy' => (eq_isStrOf y t st y' (by simpa using hy')).at _ _, ?_⟩
  · obtain ⟨t', e⟩ := get j (by omega)
    rw [e]
    have : ys.getD j (Str.ofString "") = y := by rw [List.getD_eq_getElem?_getD, hj]; rfl
    rw [this]
    exact beq_self_eq_true y
  · intro m hm hlt
    obtain ⟨t', e⟩ := get m hm
    rw [e]
    have hm' : m < ys.length := by omega
    refine beq_eq_false_iff_ne.mpr fun e2 => hno m hlt ?_
    rw [← e2]
    simp [hm']
  · exact q _ s.heap _ (fun _ _ e => e) ⟨_, rfl⟩
end
end Mine

set_option maxRecDepth 100000
set_option linter.unusedVariables false
namespace Mine
open PySem PySem.W PySem.Calls PyProof.Rows PySem.NumText

/-- a text of binary figures -/
def Bin (l : List Nat) : Prop := ∀ c ∈ l, c = 48 ∨ c = 49
def bval (l : List Nat) : Nat := l.foldl (fun a c => a * 2 + (c - 48)) 0
theorem Bin.digits {l : List Nat} (h : Bin l) : AllDigits l := fun c hc => by rcases h c hc with e | e <;> omega
theorem step2 {ds : Array Nat} {b : Bool} {c : Nat} (h : c = 48 ∨ c = 49) : step 2 (ds, b) c = some (ds.push (c - 48), true) := by
  rcases h with rfl | rfl <;> rfl
theorem fold2 : ∀ (cs : List Nat) (ds : Array Nat) (b : Bool), Bin cs → (cs ≠ [] ∨ b = true) → cs.foldlM (step 2) (ds, b) = some (cs.foldl (fun acc c => acc.push (c - 48)) ds, true)
  | [], ds, b, _, h => by rw [h.resolve_left (by simp)]; rfl
  | c :: cs, ds, b, h, _ => by
    rw [List.foldlM_cons, step2 (h c List.mem_cons_self)]
    exact fold2 cs _ true (fun d hd => h d (List.mem_cons_of_mem _ hd)) (.inr rfl)
theorem digits2 {cs : List Nat} (h : Bin cs) (hne : cs ≠ []) : digits? 2 cs = some (cs.foldl (fun acc c => acc.push (c - 48)) #[]) := by
  unfold digits?
  rw [fold2 cs #[] false h (.inl hne)]; rfl
theorem push_fold2 : ∀ (cs : List Nat) (ds : Array Nat), (cs.foldl (fun acc c => acc.push (c - 48)) ds).foldl (fun acc d => acc * 2 + d) 0 = cs.foldl (fun acc c => acc * 2 + (c - 48)) (ds.foldl (fun acc d => acc * 2 + d) 0)
  | [], ds => rfl
  | c :: cs, ds => by
    rw [List.foldl_cons, List.foldl_cons, push_fold2 cs]
    congr 1
    simp
theorem based2 {l : List Nat} (h : Bin l) : based 2 l = (2, false, l) := by
  have hp : prefix? l = none := by
    match l, h with
    | [], _ => rfl
    | [c], h => rcases h c List.mem_cons_self with rfl | rfl <;> rfl
    | c :: d :: r, h =>
      have hd := h d (by simp)
      rcases h c List.mem_cons_self with rfl | rfl
      · rcases hd with rfl | rfl <;> rfl
      · rfl
  unfold based
  rw [hp]; rfl
theorem sign2 {l : List Nat} (h : Bin l) : sign l = (false, l) := by
  match l, h with
  | [], _ => rfl
  | c :: r, h => exact sign_of (by rcases h c List.mem_cons_self with rfl | rfl <;> omega) (by rcases h c List.mem_cons_self with rfl | rfl <;> omega)
theorem read2 {l : List Nat} (h : Bin l) (hne : l ≠ []) : (int_private% "readNumeral") 0 2 l = (int_private% "Numeral.value") (bval l : Int) := by
  rw [readNumeral_eq, dropWhile_digits h.digits, sign2 h]
  dsimp only
  rw [based2 h]
  dsimp only
  rw [dropWhile_digits h.digits.reverse, List.reverse_reverse, digits2 h hne]
  unfold judge
  dsimp only
  have e := push_fold2 l #[]
  have e2 : (l.foldl (fun acc c => acc.push (c - 48)) (#[] : Array Nat)).foldl (fun acc d => acc * 2 + d) 0 = bval l := e
  rw [e2]
  simp
theorem bin_text {x : Str} (h : Bin x.cps.toList) : numTextOf x = x.cps.toList ∧ numSeenOf x = x.cps.toList := numText_signs fun c hc => .inr (h.digits c hc)

set_option maxHeartbeats 4000000 in
theorem wp_text2 {M : Model} {A : Around} {E : Value → Shared → Prop} {s : Shared} {Q : Value → Shared → Prop} {v : Value} {text : List Nat} {n : Int}
    (hs : (text.takeWhile (· != 0)).length ≤ 640) (hr : (int_private% "readNumeral") 0 2 (text.takeWhile (· != 0)) = (int_private% "Numeral.value") n)
    (ha : ((text.takeWhile (· != 0)).length == text.length) = true) (h : Q (.int n s.toks) { s with toks := s.toks + 1 }) :
    wpAny M A ((int_private% "intFromText") v text 2) Q E s := by
  obtain ⟨hp, g, d, tk, os⟩ := s
  repeat (any_goals (first
    | assumption
    | (with_reducible refine wpAny_ite_true (decide_eq_true hs) ?_)
    | (with_reducible refine wpAny_ite_true (decide_eq_true ha) ?_)
    | wp_step))
  all_goals (try rw [hr])
  all_goals (try dsimp only)
  repeat (any_goals (first
    | assumption
    | (with_reducible refine wpAny_ite_true (decide_eq_true hs) ?_)
    | (with_reducible refine wpAny_ite_true (decide_eq_true ha) ?_)
    | wp_step))
structure Kept (p : Prop) : Prop where
  out : p
set_option maxHeartbeats 4000000 in
theorem gives_int2 {x : Str} {u t2 : Tok} (hl : x.length ≤ 640) (hb : Bin x.cps.toList) (hne : x.cps.toList ≠ []) : Gives (Builtin.«int.__new__» ⟨[.type "int", .str x u, .int 2 t2], []⟩) (.int (bval x.cps.toList)) :=
  .of_wp fun M A E s Q h => by
    obtain ⟨hp, g, d, tk, os⟩ := s
    have f1 := F.conv_sub_int
    have f2 := F.madeHere_int
    have f6 : typeOf (.str x u) = pure (.type "str") := rfl
    obtain ⟨e1, e2⟩ := bin_text hb
    have hs : (numSeenOf x).length ≤ 640 := by rw [e2]; simpa [Str.length] using hl
    have hr : (int_private% "readNumeral") 0 2 (numSeenOf x) = (int_private% "Numeral.value") (bval x.cps.toList : Int) := by rw [e2]; exact read2 hb hne
    have ha : ((numSeenOf x).length == (numTextOf x).length) = true := by rw [e1, e2]; exact beq_self_eq_true _
    have hk := Kept.mk (And.intro hs (And.intro hr ha))
    clear hs hr ha hl hb hne e1 e2
    repeat (any_goals (first
      | assumption
      | ((with_reducible show wpAny _ _ ((int_private% "intFromText") _ _ _) _ _ _); refine wp_text2 hk.out.1 hk.out.2.1 hk.out.2.2 ?_)
      | wp_step))
    all_goals first | exact ⟨_, rfl, h⟩ | skip

section
variable {prog : Program} {w : World} {A : Around} {K : Frag} {g0 h0 h h' : Heap} {mg mb : Str → Option Value} {env : Env} {X Y Z : Addr → Prop} {P P₁ P₂ : PV}
theorem tc_int2 (a b : Value) : checkTypeCall "int" ⟨[a, b], []⟩ = pure () := by kernel_rfl
theorem nc_int2 (a b : Value) : checkBuiltinCall "int.__new__" ⟨[.type "int", a, b], []⟩ = pure () := by kernel_rfl
theorem call_int2 {v u : Value} {x : Str} (p : isS x v h) (p' : isI 2 u h) (hl : x.length ≤ 640) (hb : Bin x.cps.toList) (hne : x.cps.toList ≠ []) : Ev prog w A h (call (.type "int") [v, u]) (isI (bval x.cps.toList)) := fun s Q E k q => by
  obtain ⟨t, rfl⟩ := p; obtain ⟨t', rfl⟩ := p'
  exact callType_new F.called_int F.newNe_int (tc_int2 _ _) (nc_int2 _ _) (fun obj => F.args_object_init_3 obj _ _) F.entry_int_new (gives_int2 hl hb hne).meets (show (Made.int _).post _ s from ⟨rfl, q _ s.heap _ (fun _ _ e => e) ⟨_, rfl⟩⟩)

/-- keyword arguments: one of them -/
theorem cw_kw1 {pos kp : Pos} {id : String} {first : List Value} {e ke : Expr} {rest : List Expr} {kn : Str} {PL : List Value → Heap → Prop} {PK : PV} (y : Ev prog w A h0 (spliced (backTo pos (starEach (e :: rest) env))) PL) (mo : Mono PL) (z : Ev prog w A h0 (eval ke env) PK)
    (oo : ∀ vs kv h, Keep h0 h → PL vs h → PK kv h → Ev prog w A h (call (.builtin id) (first ++ vs) [(kn, kv)]) P) (hse : starEach (e :: rest) env = (false, eval e env) :: starEach rest env) (hplain : (backTo pos (starEach (e :: rest) env)).any (·.1) = false) :
    Ev prog w A h0 (callWith pos (.builtin id) first (backTo pos (starEach (e :: rest) env)) (backToKw pos (keywordEach [⟨some kn, ke, kp⟩] env))) P := fun s Q E k q => by
  refine callWith_builtin_kwB hplain rfl (evalArgs_kw2 rfl (y s _ E k fun vs h₁ tk₁ k₁ p => ?_) hse)
  show wpAny _ _ (evalAll [do let v ← eval ke env; standAt pos; pure v]) _ _ _
  unfold evalAll
  refine wpAny_bind (wpAny_bind (z ⟨h₁, s.gens, s.drawn, tk₁, s.os⟩ _ E (k.trans k₁) fun kv h₂ tk₂ k₂ pk => wpAny_bind (wpAny_standAt (wpAny_pure ?_))))
  refine wpAny_bind (wpAny_holding (wpAny_pure (wpAny_pure ?_)))
  exact oo vs kv h₂ ((k.trans k₁).trans k₂) (mo _ _ _ k₂ p) pk ⟨h₂, s.gens, s.drawn, tk₂, s.os⟩ Q E (fun _ _ e => e) fun u h₃ tk₃ k₃ p₃ => q u h₃ tk₃ (k₁.trans (k₂.trans k₃)) p₃

theorem args_tb (a b c : Value) : argsOk "int.to_bytes" ⟨[a, b], [(Str.ofString "byteorder", c)]⟩ := by unfold argsOk; kernel_rfl
theorem arr_of_ints {b : Array UInt8} {ns : List Int} (e : b.toList.map (fun c => ((c.toNat : Nat) : Int)) = ns) : b = byteArr ns := by
  subst e
  unfold byteArr
  rw [List.map_map]
  have : ((fun n : Int => n.toNat.toUInt8) ∘ fun c : UInt8 => ((c.toNat : Nat) : Int)) = id := by
    funext c
    show (((c.toNat : Nat) : Int).toNat).toUInt8 = c
    rw [Int.toNat_natCast]
    exact UInt8.ofNat_toNat
  rw [this, List.map_id]
theorem call_toBytes {v u o : Value} {x : Int} {k : Nat} (p : isI x v h) (p' : isI (k : Int) u h) (po : isS (Str.ofString "big") o h) (hk : k ≤ 1000) (h0x : 0 ≤ x) (h1 : x < 256 ^ k) :
    Ev prog w A h (call (.builtin "int.to_bytes") [v, u] [(Str.ofString "byteorder", o)]) (isY (byteArr (KTBy.little k x).reverse)) := fun s Q E kk q => by
  obtain ⟨t, rfl⟩ := p; obtain ⟨t', rfl⟩ := p'; obtain ⟨t'', rfl⟩ := po
  have hb := KTBy.bits_le rfl h0x h1
  refine wpAny_call_entry_kw KTBy.slot (typeIs_int s x t) KTBy.entry ?_ (args_tb _ _ _)
  show wpAny _ _ (Builtin.Int.intOfSelf (.int x t) >>= fun y => _) _ _ s
  refine wpAny_bind (wpAny_of_eq (a := x) rfl ?_)
  show wpAny _ _ (Builtin.Int.intBindNamed "to_bytes" ["length", "byteorder", "signed"] 0 2 [.int (k : Int) t'] [(Str.ofString "byteorder", .str (Str.ofString "big") t'')] >>= fun l => _) _ _ s
  refine wpAny_bind (wpAny_of_eq (a := [some (.int (k : Int) t'), some (.str (PySem.Str.ofString "big") t''), none]) (by kernel_rfl) ?_)
  show wpAny _ _ (Builtin.Int.intIndex "int.to_bytes" (.int (k : Int) t') >>= fun n => _) _ _ s
  refine wpAny_bind (wpAny_of_eq (a := (k : Int)) rfl ?_)
  refine KTBy.if_not (by show (decide ((k : Int) < -(2 ^ 63 : Int)) || decide ((k : Int) ≥ 2 ^ 63)) = false; rw [decide_eq_false (show ¬ ((k : Int) < -(2 ^ 63 : Int)) by omega), decide_eq_false (show ¬ ((k : Int) ≥ 2 ^ 63) by omega)]; rfl) ?_
  refine wpAny_bind (wpAny_of_eq (a := PySem.Str.ofString "big") (by kernel_rfl) ?_)
  refine wpAny_bind (wpAny_of_eq (a := false) rfl ?_)
  refine wpAny_bind (wpAny_of_eq (a := false) (by kernel_rfl) ?_)
  refine wpAny_ite_false (decide_eq_false (show ¬ ((k : Int) < 0) by omega)) ?_
  refine wpAny_ite_false (decide_eq_false (show ¬ ((k : Int) > 2 ^ 63 - 1 - 33) by omega)) ?_
  refine wpAny_ite_false (decide_eq_false (show ¬ ((k : Int) > (sizeLine : Int)) by rw [sizeLine_eq]; omega)) ?_
  refine KTBy.if_not (by show (decide (x < 0) && !false) = false; rw [decide_eq_false (show ¬ x < 0 by omega)]; rfl) ?_
  refine KTBy.if_not (by show (_ && decide ((Builtin.Int.intBits x : Int) > 8 * (k : Int))) = false; rw [decide_eq_false (show ¬ ((Builtin.Int.intBits x : Int) > 8 * (k : Int)) by omega), Bool.and_false]) ?_
  refine wpAny_bind (wpAny_mkBytes (wpAny_pure ⟨_, rfl, q _ s.heap _ (fun _ _ e => e) ⟨s.toks, ?_⟩⟩) (by show (List.reverse (KTBy.low x (Int.toNat (k : Int)))).length ≤ sizeLine; rw [List.length_reverse, KTBy.low_length, Int.toNat_natCast, sizeLine_eq]; omega))
  congr 1
  refine arr_of_ints ?_
  show (List.map (fun c : UInt8 => ((c.toNat : Nat) : Int)) (List.reverse (KTBy.low x (Int.toNat (k : Int))))) = (KTBy.little k x).reverse
  rw [Int.toNat_natCast, List.map_reverse, KTBy.low_ints h0x h1, ← KTBy.little_eq]

/-- the number that some bytes say -/
def bigv (b : Array UInt8) : Nat := b.toList.foldl (fun (acc : Nat) (c : UInt8) => acc * 256 + c.toNat) 0
theorem bigv_lt (b : Array UInt8) : bigv b < 256 ^ b.size := by
  have h1 := KFB.fold_lt b.toList 0
  rw [Nat.zero_add, Nat.one_mul, Array.length_toList] at h1
  exact h1
theorem grown' {n : Nat} {s : Shared} {M : Model} {E : Value → Shared → Prop} {Q : Value → Shared → Prop} (hn : n < 2 ^ 8000) (h : Q (.int (n : Int) s.toks) { s with toks := s.toks + 1 }) : wpAny M A (mkIntGrown (n : Int)) Q E s := by
  unfold mkIntGrown
  have hl : ¬ ((n : Int).natAbs.log2 ≥ bitsLine) := by
    rw [Int.natAbs_natCast]
    have hb : bitsLine = 134217728 := by first | rfl | decide
    by_cases hz : n = 0
    · subst hz
      rw [hb]
      decide
    · have h1 := (Nat.log2_lt hz).mpr hn
      omega
  rw [if_neg hl]
  exact wpAny_mkInt h
theorem tree_fb {M : Model} {E : Value → Shared → Prop} {s : Shared} {b : Array UInt8} {t u : Tok} {P : Fin → Shared → Prop} (hl : b.size ≤ 900) (h : P (.done (.ret (.int (bigv b) s.toks))) { s with toks := s.toks + 1 }) :
    wpAny M A (Builtin.«int.from_bytes» ⟨[.type "int", .bytes b t], [(Str.ofString "byteorder", .str (Str.ofString "big") u)]⟩) P E s := by
  have hn : bigv b < 2 ^ 8000 := by
    have h1 := bigv_lt b
    have h2 : 256 ^ b.size ≤ 256 ^ 900 := Nat.pow_le_pow_right (by decide) hl
    have h3 : (256 : Nat) ^ 900 < 2 ^ 8000 := by
      rw [show (256 : Nat) = 2 ^ 8 by decide, ← Nat.pow_mul]
      exact Nat.pow_lt_pow_right (by decide) (by decide)
    omega
  unfold Builtin.«int.from_bytes»
  refine wpAny_bind (wpAny_of_eq (a := true) KFB.type_int ?_)
  refine KFB.if_not rfl ?_
  refine wpAny_bind (wpAny_of_eq (a := true) F.conv_sub_int ?_)
  refine KFB.if_not rfl ?_
  refine wpAny_bind (wpAny_of_eq (a := [some (.bytes b t), some (.str (PySem.Str.ofString "big") u), none]) (by kernel_rfl) ?_)
  refine wpAny_bind (wpAny_of_eq (a := PySem.Str.ofString "big") (by kernel_rfl) ?_)
  refine wpAny_bind (wpAny_of_eq (a := false) rfl ?_)
  refine wpAny_bind (wpAny_of_eq (a := false) (by kernel_rfl) ?_)
  refine wpAny_bind (wpAny_of_eq (a := b) rfl ?_)
  show wpAny _ _ (mkIntGrown (b.toList.foldl (fun (acc : Int) (b : UInt8) => acc * 256 + (b.toNat : Int)) ((0 : Nat) : Int)) >>= fun v => _) _ _ _
  rw [KFB.foldI_eq]
  refine wpAny_bind (grown' hn ?_)
  refine KFB.if_so (by decide +kernel) ?_
  exact wpAny_bind (wpAny_pure (wpAny_pure h))
theorem check_fb {b : Array UInt8} {t u : Tok} {o : PySem.Str} : checkBoundCall "int.from_bytes" ⟨[.type "int", .bytes b t], [(Str.ofString "byteorder", .str o u)]⟩ = pure () := by first | kernel_rfl | rfl
theorem call_fb {x : Addr} {v o : Value} {b : Array UInt8} (ho : KFB.StandsAt x h) (p : isY b v h) (po : isS (Str.ofString "big") o h) (hl : b.size ≤ 900) : Ev prog w A h (call (.ref x) [v] [(Str.ofString "byteorder", o)]) (isI (bigv b)) := fun s Q E k q => by
  obtain ⟨t, rfl⟩ := p; obtain ⟨t', rfl⟩ := po
  refine wpAny_call (codeAny_of_tree ?_)
  show wpAny _ A.in1 (callAny (.ref x) ⟨[.bytes b t], [(Str.ofString "byteorder", .str (Str.ofString "big") t')]⟩) _ _ s
  simp only [callAny]
  refine wpAny_bind (wpAny_load (k _ _ ho) ?_)
  simp only [KFB.bound, show (Value.type "builtin_function_or_method" == Value.type "method" || Value.type "builtin_function_or_method" == Value.type "builtin_function_or_method" || Value.type "builtin_function_or_method" == Value.type "method-wrapper") = true by decide, if_true]
  refine KFB.if_so (by decide) ?_
  refine wpAny_bind (wpAny_of_eq (a := ()) check_fb ?_)
  refine wpAny_bind (wpAny_pure (wpAny_pure ?_))
  exact ⟨KFB.quiet_fb, codeAny_builtin KFB.entry_fb (tree_fb hl (q _ s.heap _ (fun _ _ e => e) ⟨_, rfl⟩))⟩
theorem getM_fb {pl : Sem Bool} (W : Wd K g0 mg mb) (b : Keep g0 h) (e : findCls K (.type "int") (.type "type") (PySem.Str.ofString "from_bytes") = some (.get (.builtin "classmethod_descriptor.__get__") (.builtin "int.from_bytes") .none (.type "int"))) :
    Ev prog w A h (getMethod (.type "int") (PySem.Str.ofString "from_bytes") pl) (fun fx h' => ∃ x, fx = (.ref x, []) ∧ KFB.StandsAt x h') := fun s Q E k q => by
  have X := W.kin.keeps (b.trans k)
  have ht : typeOf (.type "int") = pure (.type "type") := by first | rfl | kernel_rfl
  have hg : findIn K (.type "type") "__getattribute__" = some (some (.builtin "type.__getattribute__")) := type_tga
  have L0 : Looks (model prog w) s.heap (typeOf (.type "int")) (.type "type") := Looks.of_pure ht
  have LO : Looks (model prog w) s.heap (opaqueClassAbove (.type "int")) none := Looks.of_pure (by unfold opaqueClassAbove; dsimp only; rw [show Manifest.isStub "int" = false by decide +kernel]; rfl)
  unfold getMethod specialOf
  refine wpAny_bind (wpAny_bind (L0.here ((looks_findIn X hg).here ?_)))
  dsimp only
  rw [if_pos canon_tga]
  refine wpAny_bind (wpAny_mono (Q := fun v => Q (v, [])) (E := E) ?_ (fun _ _ z => wpAny_pure z) fun _ _ z => z)
  refine cls_open X LO L0 hg (looks_hook X (r := none) (by rfl)) (by show subIn K _ _ = _; rfl) e ?_
  show wpAny _ _ (holding [.builtin "int.from_bytes"] (call (.builtin "classmethod_descriptor.__get__") [.builtin "int.from_bytes", .none, .type "int"]) >>= fun v => ret v) _ _ _
  exact wpAny_bind (wpAny_holding (wpAny_call_entry KFB.slot_get KFB.type_fb KFB.entry_get (KFB.run_get ⟨_, rfl, wpAny_pure (wpAny_pure (q _ _ _ keep_push ⟨_, rfl, Heap.get?_push_size _ rfl⟩))⟩) (KFB.args_get _ _ _)))
/-- a call of that method -/
theorem cw_fb {pos kp : Pos} {u : Addr} {e ke : Expr} {rest : List Expr} {kn : Str} {PL : List Value → Heap → Prop} {PK : PV} (hu : KFB.StandsAt u h0) (y : Ev prog w A h0 (spliced (backTo pos (starEach (e :: rest) env))) PL) (mo : Mono PL) (z : Ev prog w A h0 (eval ke env) PK)
    (oo : ∀ vs kv h, Keep h0 h → PL vs h → PK kv h → Ev prog w A h (call (.ref u) vs [(kn, kv)]) P) (hse : starEach (e :: rest) env = (false, eval e env) :: starEach rest env) (hplain : (backTo pos (starEach (e :: rest) env)).any (·.1) = false) :
    Ev prog w A h0 (callWith pos (.ref u) [] (backTo pos (starEach (e :: rest) env)) (backToKw pos (keywordEach [⟨some kn, ke, kp⟩] env))) P := fun s Q E k q => by
  unfold callWith
  refine wpAny_bind (wpAny_holding (evalArgs_kw2 rfl (y s _ E k fun vs h₁ tk₁ k₁ p => ?_) hse))
  show wpAny _ _ (evalAll [do let v ← eval ke env; standAt pos; pure v]) _ _ _
  unfold evalAll
  refine wpAny_bind (wpAny_bind (z ⟨h₁, s.gens, s.drawn, tk₁, s.os⟩ _ E (k.trans k₁) fun kv h₂ tk₂ k₂ pk => wpAny_bind (wpAny_standAt (wpAny_pure ?_))))
  refine wpAny_bind (wpAny_holding (wpAny_pure (wpAny_pure ?_)))
  refine wpAny_bind (wpAny_standAt ?_)
  have hno : ((backToKw pos (keywordEach [⟨some kn, ke, kp⟩] env)).any (·.1.isNone)) = false := rfl
  simp only [hplain, hno, Bool.or_false]
  refine wpAny_bind (m := keeperOf (.ref u)) ?_
  unfold keeperOf
  refine wpAny_bind (wpAny_load (((k.trans k₁).trans k₂) _ _ hu) ?_)
  simp only [KFB.bound, show (Value.type "builtin_function_or_method" != Value.type "method") = true by decide, show (Value.type "builtin_function_or_method" == Value.type "builtin_function_or_method" || Value.type "builtin_function_or_method" == Value.type "method-wrapper") = true by decide, if_true]
  refine wpAny_pure ?_
  refine wpAny_bind ?_
  exact oo vs kv h₂ ((k.trans k₁).trans k₂) (mo _ _ _ k₂ p) pk ⟨h₂, s.gens, s.drawn, tk₂, s.os⟩ _ E (fun _ _ e => e) fun v h₃ tk₃ k₃ p₃ => wpAny_bind (wpAny_holding (wpAny_point (wpAny_pure (q v h₃ tk₃ (k₁.trans (k₂.trans k₃)) p₃))))
end
end Mine

set_option maxRecDepth 100000
set_option linter.unusedVariables false
namespace Mine
open PySem PySem.W PySem.Calls PyProof.Rows

theorem mro_map : mroOf (.type "map") = pure [.type "map", .type "object"] := by rw [mroOf_type]; kernel_rfl
theorem lookup_map_new : typeLookup (.type "map") "__new__" = pure (some (.builtin "map.__new__")) := by rw [typeLookup_type, builtinLookup_eq_fast]; kernel_rfl
theorem sub_map : isSubtype (.type "map") (.type "map") = pure true := by rw [isSubtype_type]; kernel_rfl
theorem map_slot_init : Slot "map" "__init__" "object.__init__" :=
  .of (owner := "object") (n := "__init__") (by rw [typeLookup_type, builtinLookup_eq_fast]; kernel_rfl) (by decide +kernel) (by decide +kernel) (by decide +kernel)
    (by first | exact .inl (by decide +kernel) | exact .inr (by decide +kernel)) (by rw [isSubtype_type]; kernel_rfl)
theorem called_map : TypeCalled "map" "map.__new__" "object.__init__" :=
  ⟨by decide +kernel, by decide +kernel, ⟨_, _, mro_map⟩, madeBy_type mro_map lookup_map_new (by decide +kernel), by decide +kernel, sub_map, map_slot_init⟩
theorem typeCall_map_2 (a b : Value) : checkTypeCall "map" ⟨[a, b], []⟩ = pure () := by kernel_rfl
theorem newCall_map_2 (a b : Value) : checkBuiltinCall "map.__new__" ⟨[.type "map", a, b], []⟩ = pure () := by kernel_rfl
theorem entry_map_new : entryFor table "map.__new__" = some Builtin.«map.__new__» := entryFor_of_tree (by kernel_rfl)
theorem map_slot_next : Slot "map" "__next__" "map.__next__" :=
  .of (owner := "map") (n := "__next__") (by rw [typeLookup_type, builtinLookup_eq_fast]; kernel_rfl) (by decide +kernel) (by decide +kernel) (by decide +kernel)
    (by first | exact .inl (by decide +kernel) | exact .inr (by decide +kernel)) (by rw [isSubtype_type]; kernel_rfl)
theorem map_entry_next : entryFor table "map.__next__" = some Builtin.«map.__next__» := entryFor_of_tree (by kernel_rfl)
theorem map_args_next (a : Value) : argsOk "map.__next__" ⟨[a], []⟩ := by unfold argsOk; kernel_rfl
theorem map_slot_iter : Slot "map" "__iter__" "map.__iter__" :=
  .of (owner := "map") (n := "__iter__") (by rw [typeLookup_type, builtinLookup_eq_fast]; kernel_rfl) (by decide +kernel) (by decide +kernel) (by decide +kernel)
    (by first | exact .inl (by decide +kernel) | exact .inr (by decide +kernel)) (by rw [isSubtype_type]; kernel_rfl)
theorem map_entry_iter : entryFor table "map.__iter__" = some Builtin.«dict_keyiterator.__iter__» :=
  entryFor_alias (id' := "dict_keyiterator.__iter__") (by kernel_rfl) (by first | rfl | decide +kernel | (unfold String.splitOn; simp +decide [String.splitOnAux])) (by decide +kernel) (by kernel_rfl)
theorem map_args_iter (a : Value) : argsOk "map.__iter__" ⟨[a], []⟩ := by unfold argsOk; kernel_rfl
theorem map_no_len : typeLookup (.type "map") "__len__" = pure none := by rw [typeLookup_type, builtinLookup_eq_fast]; kernel_rfl
theorem map_no_hint : typeLookup (.type "map") "__length_hint__" = pure none := by rw [typeLookup_type, builtinLookup_eq_fast]; kernel_rfl

abbrev mapObj (T : Addr) (f : Value) : Obj := { cls := .type "map", data := .fields #[.ref T, f] }
section
variable {prog : Program} {w : World} {A : Around} {E : Value → Shared → Prop} {s : Shared}
theorem pyIter_map {M T : Addr} {f : Value} {Q : Value → Shared → Prop} (hM : s.heap.get? M = some (mapObj T f)) (h : Q (.ref M) s) : wpAny (model prog w) A (pyIter (.ref M)) Q E s := by
  have hT : s.TypeIs (.ref M) "map" := ⟨_, hM, rfl⟩
  refine wpAny_pyIter_slot hT map_slot_iter (wpAny_call_entry map_slot_iter hT map_entry_iter ?_ (map_args_iter _))
  show wpAny _ _ (ret (.ref M)) _ _ s
  exact wpAny_pure ⟨_, rfl, "map", _, hT, map_slot_next.lookup, h⟩
end

set_option maxHeartbeats 1000000 in
theorem meets_map_new (f : Value) (l : Addr) (items : Array Value) :
    Meets (Builtin.«map.__new__» ⟨[.type "map", f, .ref l], []⟩) (fun _ R s => s.heap.IsList l items ∧
      R (.ok (.ret (.ref ((s.heap.push { cls := .type "list_iterator", data := .fields #[.ref l, .int 0 0] }).push { cls := .type "tuple", data := .seq #[.ref s.heap.objs.size] }).objs.size)))
        { s with heap := ((s.heap.push { cls := .type "list_iterator", data := .fields #[.ref l, .int 0 0] }).push { cls := .type "tuple", data := .seq #[.ref s.heap.objs.size] }).push (mapObj (s.heap.push { cls := .type "list_iterator", data := .fields #[.ref l, .int 0 0] }).objs.size f) }) :=
  .of_wp fun prog w A R s h => by
    obtain ⟨hp, g, d, tk, os⟩ := s; obtain ⟨hl, h⟩ := h
    have hsub := sub_map
    wp_walk using wpAny_pyIter_list hl
    exact ⟨_, rfl, h⟩
end Mine

set_option maxRecDepth 100000
set_option linter.unusedVariables false
namespace Mine
open PySem PySem.W PySem.Calls PyProof.Rows

abbrev tup1 (I : Addr) : Obj := { cls := .type "tuple", data := .seq #[.ref I] }
/-- a map object over a list, i of its items handed out -/
structure MapSt (M T I l : Addr) (f : Value) (items : Array Value) (hb : Heap) (i : Nat) (h : Heap) : Prop where
  om : h.get? M = some (mapObj T f)
  ot : h.get? T = some (tup1 I)
  oi : h.IsListIter I l i
  ol : h.IsList l items
  keep : Keep hb h
  new : hb.get? I = none
  mi : M ≠ I
  ti : T ≠ I
  li : l ≠ I
/-- the addresses that a heap has objects at -/
def addrs (h : Heap) : List Addr := (List.range h.objs.size).filter fun b => (h.get? b).isSome
theorem mem_addrs {h : Heap} {b : Addr} : b ∈ addrs h ↔ ∃ o, h.get? b = some o := by
  unfold addrs
  rw [List.mem_filter, List.mem_range, Option.isSome_iff_exists]
  exact ⟨fun x => x.2, fun x => ⟨let ⟨o, e⟩ := x; Heap.lt_size e, x⟩⟩

section
variable {prog : Program} {w : World} {A : Around} {hb h0 : Heap} {M T I l : Addr} {f : Value} {items : Array Value} {P : Nat → Value → Prop}
theorem MapSt.kept {i : Nat} {h h' : Heap} (st : MapSt M T I l f items hb i h) (k : ∀ b o, b ≠ I → h.get? b = some o → h'.get? b = some o) (hi : ∀ o, h.get? I = some o → h'.get? I = some o) : MapSt M T I l f items hb i h' :=
  { st with om := k _ _ st.mi st.om, ot := k _ _ st.ti st.ot, oi := st.oi.at fun o e => hi o e, ol := st.ol.at fun o e => k _ _ st.li e, keep := fun b o e => k b o (fun z => by rw [z, st.new] at e; cases e) (st.keep b o e) }

theorem map_item (hh : A.handled = none) (hf : ∀ i x, items[i]? = some x → ∀ A' : Around, A'.depth = A.depth → A'.handled = none → ∀ h, Keep hb h → Ev prog w A' h (call f [x]) (fun v _ => P i v)) {i : Nat} (hi : i < items.size) {s : Shared} (st : MapSt M T I l f items hb i s.heap)
    {Q : Option Value → Shared → Prop} {E : Value → Shared → Prop} (q : ∀ v h' tk, P i v → MapSt M T I l f items hb (i + 1) h' → (∀ b o, b ≠ I → s.heap.get? b = some o → h'.get? b = some o) → Q (some v) { s with heap := h', toks := tk }) :
    wpAny (model prog w) A (pyNext (.ref M)) Q E s := by
  have hT : s.TypeIs (.ref M) "map" := ⟨_, st.om, rfl⟩
  unfold pyNext
  refine wpAny_bind (wpAny_attempt (wpAny_callSpecial?_slot (name := Str.ofString "__next__") hT map_slot_next (wpAny_call_entry map_slot_next hT map_entry_next ?_ (map_args_next _))))
  show wpAny _ _ (field (.ref M) 0 >>= _) _ _ s
  refine wpAny_bind (wpAny_field st.om rfl (x := .ref T) rfl ?_)
  show wpAny _ _ (seqItems? (.ref T) >>= _) _ _ s
  refine wpAny_bind (wpAny_seqItems st.ot rfl ?_)
  dsimp only
  refine wpAny_bind (m := forIn _ _ _) ?_
  rw [← Array.forIn_toList]
  simp only [List.forIn_cons, List.forIn_nil]
  have hx : items[i]? = some items[i] := by simp [hi]
  refine wpAny_bind (wpAny_bind (wpAny_holding (wpAny_nextOf_list_item st.oi st.ol hx fun h' h1 h2 => wpAny_pure (wpAny_pure ?_))))
  have st' : MapSt M T I l f items hb (i + 1) h' := { st with om := h2.extBut _ _ st.mi st.om, ot := h2.extBut _ _ st.ti st.ot, oi := h1, ol := st.ol.at fun o e => h2.extBut _ _ st.li e, keep := fun b o e => h2.extBut b o (fun z => by rw [z, st.new] at e; cases e) (st.keep b o e) }
  show wpAny _ _ (field (.ref M) 1 >>= _) _ _ _
  refine wpAny_bind (wpAny_field st'.om rfl (x := f) rfl ?_)
  refine wpAny_bind (wpAny_holding (hf i _ hx A.in1 rfl hh h' st'.keep ⟨h', s.gens, s.drawn, s.toks, s.os⟩ _ _ (fun _ _ e => e) fun v h'' tk k'' p => wpAny_bind (wpAny_letGo (wpAny_pure ⟨_, rfl, wpAny_pure ?_⟩))))
  exact q v h'' tk p (st'.kept (fun b o _ e => k'' b o e) fun o e => k'' _ o e) fun b o n e => k'' b o (h2.extBut b o n e)

theorem map_done (hh : A.handled = none) {s : Shared} (st : MapSt M T I l f items hb items.size s.heap) {Q : Option Value → Shared → Prop} {E : Value → Shared → Prop} (q : ∀ h', (∀ b o, b ≠ I → s.heap.get? b = some o → h'.get? b = some o) → Q none { s with heap := h' }) :
    wpAny (model prog w) A (pyNext (.ref M)) Q E s := by
  have hT : s.TypeIs (.ref M) "map" := ⟨_, st.om, rfl⟩
  unfold pyNext
  refine wpAny_bind (wpAny_attempt (wpAny_callSpecial?_slot (name := Str.ofString "__next__") hT map_slot_next (wpAny_call_entry map_slot_next hT map_entry_next ?_ (map_args_next _))))
  show wpAny _ _ (field (.ref M) 0 >>= _) _ _ s
  refine wpAny_bind (wpAny_field st.om rfl (x := .ref T) rfl ?_)
  show wpAny _ _ (seqItems? (.ref T) >>= _) _ _ s
  refine wpAny_bind (wpAny_seqItems st.ot rfl ?_)
  dsimp only
  refine wpAny_bind (m := forIn _ _ _) ?_
  rw [← Array.forIn_toList]
  simp only [List.forIn_cons, List.forIn_nil]
  refine wpAny_bind (wpAny_bind (wpAny_holding (wpAny_nextOf_list_end hh st.oi st.ol (by simp) fun h' e hx ⟨o, ho, hc⟩ => ?_)))
  refine wpAny_bind (wpAny_isInstance (T := "StopIteration") (b := true) ⟨o, ho, hc⟩ isSubtype_stop ?_)
  exact wpAny_pure (q h' fun b o n e => hx b o n e)

theorem map_walks (hh : A.handled = none) (hf : ∀ i x, items[i]? = some x → ∀ A' : Around, A'.depth = A.depth → A'.handled = none → ∀ h, Keep hb h → Ev prog w A' h (call f [x]) (fun v _ => P i v)) :
    Walks prog w A M (M :: T :: I :: l :: addrs hb) [I] items.size P (fun i h => MapSt M T I l f items hb i h) where
  sub := fun b hb => by rw [List.mem_singleton.mp hb]; simp
  frame := fun i h h' st k => ⟨k _ (by simp) _ st.om, k _ (by simp) _ st.ot, st.oi.at fun o e => k _ (by simp) o e, st.ol.at fun o e => k _ (by simp) o e,
    fun b o e => k b (by simp only [List.mem_cons]; exact .inr (.inr (.inr (.inr (mem_addrs.mpr (Exists.intro o e)))))) o (st.keep b o e), st.new, st.mi, st.ti, st.li⟩
  item := fun i s Q E hi st hQ => map_item hh hf hi st fun v h' tk p st' k => hQ v h' tk p st' (fun b o hb e => k b o (fun z => hb (by simp [z])) e)
  done := fun s Q E st hQ => map_done hh st fun h' k => hQ h' s.toks fun b o hb e => k b o (fun z => hb (by simp [z])) e
  self := fun i s Q E st hQ => pyIter_map st.om hQ
end
end Mine

set_option maxRecDepth 100000
set_option linter.unusedVariables false
namespace Mine
open PySem PySem.W PySem.Calls PyProof.Rows Builtin Builtin.Str

section
variable {prog : Program} {w : World} {A : Around} {hb h0 : Heap} {M T I l : Addr} {f : Value} {items : Array Value} {P : Nat → Value → Prop} {s : Shared} {E : Value → Shared → Prop}

/-- gathering what an iterator of type map hands out, up to the loop -/
theorem collect_open {Q : List Value → Shared → Prop} (hM : s.heap.get? M = some (mapObj T f))
    (loop : ∀ h', (∀ b o, s.heap.get? b = some o → h'.get? b = some o) → (∃ c, h'.get? s.heap.objs.size = some { cls := .type "list", dict := none, data := .seq #[] c, slots := #[] }) →
      codeAny (model prog w) A (.builtin "list.extend.loop" ⟨[.ref s.heap.objs.size, .ref M, .ref s.heap.objs.size], []⟩)
        (fun r s' => match r with
          | .ok (.ret (.ref a)) => ∃ acc c, s'.heap.get? a = some { cls := .type "list", dict := none, data := .seq acc c, slots := #[] } ∧ Q acc.toList s'
          | .ok _ => False
          | .error e => E e s') { s with heap := h' }) : wpAny (model prog w) A (collect (.ref M)) Q E s := by
  have hMl : M < s.heap.objs.size := Heap.lt_size hM
  have hSM : s.heap.objs.size ≠ M := Nat.ne_of_gt hMl
  unfold collect
  refine wpAny_bind (wpAny_runValue (codeAny_builtin F.entry_proto_collect ?_))
  rw [Around.under_plainId F.plain_proto_collect _]
  show wpAny _ A.in1 (newList [] >>= fun l => again (.builtin "list.__iadd__" ⟨[l, .ref M], []⟩)) _ _ s
  refine wpAny_bind (wpAny_newObj_type ?_)
  refine wpAny_pure ⟨plainId_quiet F.plain_list_iadd _, codeAny_builtin F.entry_list_iadd ?_⟩
  rw [Around.under_plainId F.plain_list_iadd _]
  have hM₁ : (s.heap.push { cls := .type "list", data := .seq ([] : List Value).toArray }).get? M = some (mapObj T f) := Heap.get?_push_of_some _ hM
  have hT : ∀ s' : Shared, s'.heap.get? M = some (mapObj T f) → s'.TypeIs (.ref M) "map" := fun s' e => ⟨_, e, rfl⟩
  show wpAny _ A.in1 (Builtin.List.listExtendWith (.ref s.heap.objs.size) (.ref M) (.ref s.heap.objs.size)) _ _ _
  unfold Builtin.List.listExtendWith
  refine wpAny_bind (wpAny_typeOf (hT _ hM₁) ?_)
  have h1 : Builtin.List.listSameRef (.ref s.heap.objs.size) (.ref M) = false := by simp [Builtin.List.listSameRef, hSM]
  have h2 : (Value.type "map" == Value.type "list") = false := by decide
  have h3 : (Value.type "map" == Value.type "tuple") = false := by decide
  simp only [h1, h2, h3, Bool.or_false, Bool.false_eq_true, if_false]
  refine wpAny_bind (pyIter_map hM₁ ?_)
  refine wpAny_bind (wpAny_holding ?_)
  unfold Builtin.List.listLengthHint
  refine wpAny_bind (wpAny_specialOf (hT _ hM₁) map_no_len ?_)
  show wpAny _ A.in1 (specialOf (Value.ref M) (Str.ofString "__length_hint__") >>= _) _ _ _
  refine wpAny_bind (wpAny_specialOf (hT _ hM₁) map_no_hint ?_)
  refine wpAny_pure ?_
  show wpAny _ A.in1 (rule "list.extend.makes-room" >>= fun _ => Builtin.List.listTouch (.ref s.heap.objs.size) >>= fun _ =>
    again (.builtin "list.extend.loop" ⟨[.ref s.heap.objs.size, .ref M, .ref s.heap.objs.size], []⟩)) _ _ _
  refine wpAny_bind (wpAny_rule ?_)
  have hS₁ : (s.heap.push { cls := .type "list", data := .seq ([] : List Value).toArray }).get? s.heap.objs.size = some { cls := .type "list", data := .seq ([] : List Value).toArray } := Heap.get?_push_size _ rfl
  refine wpAny_bind ?_
  show wpAny _ A.in1 (updateSeq s.heap.objs.size (·.push .none) >>= fun _ => updateSeq s.heap.objs.size (·.pop)) _ _ _
  refine wpAny_bind (wpAny_updateSeq hS₁ rfl ?_)
  have hS₂ := Heap.get?_update_self (Obj.mapSeq (·.push Value.none)) hS₁ rfl
  refine wpAny_updateSeq hS₂ rfl ?_
  have hS₃ := Heap.get?_update_self (Obj.mapSeq (·.pop)) hS₂ rfl
  refine wpAny_pure ⟨plainId_quiet F.plain_extend_loop _, codeAny_mono (loop _ (fun b o e => ?_) ⟨_, hS₃⟩) fun r s' hr => ?_⟩
  · have hb : b ≠ s.heap.objs.size := Nat.ne_of_lt (Heap.lt_size e)
    exact (Heap.get?_update_other _ _ (Ne.symm hb)).trans ((Heap.get?_update_other _ _ (Ne.symm hb)).trans (Heap.get?_push_of_some _ e))
  · match r, hr with
    | .error e, hr => exact hr
    | .ok (.ret (.ref a)), hr =>
      obtain ⟨acc, c, e1, e2⟩ := hr
      show wpAny _ A (load a >>= _) _ _ s'
      exact wpAny_bind (wpAny_load e1 (wpAny_pure e2))

theorem paired_of_items {g : Nat → Str} {acc : Array Value} {n : Nat} (h : ItemsOf (fun i v => S.is (.str (g i)) v) acc n) : StrsAre acc.toList ((List.range n).map g) := by
  refine strsAre_of ?_
  obtain ⟨h1, h2⟩ := h
  have : ∀ k, k ≤ n → Paired S.is (((List.range k).map g).map S.str) (acc.toList.take k) := by
    intro k
    induction k with
    | zero => intro _; simp; exact .nil
    | succ k ih =>
      intro hk
      have hlt : k < acc.size := by omega
      rw [List.range_succ, List.map_append, List.map_append, List.take_add_one]
      have e : acc.toList[k]? = some acc[k] := by simp [hlt]
      rw [e]
      exact paired_append (ih (by omega)) (.cons (h2 k _ (by simp [hlt])) .nil)
  have := this n (Nat.le_refl _)
  rwa [List.take_of_length_le (by simp [h1])] at this

/-- the texts that a map hands out, put together -/
theorem join_map {x : Str} {t : Tok} {g : Nat → Str} {Q : Value → Shared → Prop} (hh : A.handled = none) (hf : ∀ i v, items[i]? = some v → ∀ A' : Around, A'.depth = A.depth → A'.handled = none → ∀ h, Keep hb h → Ev prog w A' h (call f [v]) (isS (g i)))
    (st : MapSt M T I l f items hb 0 s.heap) (hn : items.size ≤ sizeLine) (hok : (((List.range items.size).map g).map (·.length)).sum + items.size * x.length ≤ 16777216)
    (q : ∀ h' tk t', (∀ b o, b ≠ I → s.heap.get? b = some o → h'.get? b = some o) → Q (.str (Txt.join x ((List.range items.size).map g)) t') { s with heap := h', toks := tk }) :
    wpAny (model prog w) A (call (.builtin "str.join") [.str x t, .ref M]) Q E s := by
  have hT : s.TypeIs (.ref M) "map" := ⟨_, st.om, rfl⟩
  have W := (map_walks (prog := prog) (w := w) (A := A.in1.in1) (M := M) (T := T) (I := I) (l := l) (P := fun i v => S.is (.str (g i)) v) hh fun i v e A' d h => hf i v e A' d h).toS
  refine wpAny_call (codeAny_call_builtin F.slot_str_join.plain F.entry_str_join (F.slot_str_join.check _ _ _ _ _ _ _ _ (typeIs_str _ _ _) (F.args_str_join_2 _ _) ?_))
  rw [join_tree_other]
  refine wpAny_bind (wpAny_typeOf hT ?_)
  show wpAny _ A.in1 ((pyIter (.ref M)).tryCatch _ >>= fun it => collect it >>= fun items => joinTail x items) _ _ s
  refine wpAny_bind (wpAny_tryCatch (pyIter_map st.om ?_))
  have hfp : ∀ b ∈ M :: T :: I :: l :: addrs hb, b < s.heap.objs.size := fun b hb' => by
    simp only [List.mem_cons] at hb'
    rcases hb' with rfl | rfl | rfl | rfl | hb'
    · exact Heap.lt_size st.om
    · exact Heap.lt_size st.ot
    · obtain ⟨o, e, _⟩ := st.oi; exact Heap.lt_size e
    · obtain ⟨o, e, _⟩ := st.ol; exact Heap.lt_size e
    · obtain ⟨o, e⟩ := mem_addrs.mp hb'; exact Heap.lt_size (st.keep _ _ e)
  have hSf : s.heap.objs.size ∉ M :: T :: I :: l :: addrs hb := fun hm => Nat.lt_irrefl _ (hfp _ hm)
  refine wpAny_bind (collect_open st.om fun h' k ⟨c, hS⟩ => ?_)
  refine codeAny_extend_loopS W hn s.heap.objs.size hSf (.ref s.heap.objs.size) items.size 0 { s with heap := h' } #[] c rfl (Nat.zero_le _) (W.frame 0 s h' s.toks st (Nat.le_refl _) fun b _ o e => k b o e) hS (ItemsOf.nil _) fun s' acc c' hm hS' hacc => ?_
  refine ⟨acc, c', hS', ?_⟩
  have sa := paired_of_items hacc
  obtain ⟨lv, hv, ht⟩ := strsAre_values sa
  rw [hv]
  have hok' : JoinOk x (lv.map (·.1)) = true := by rw [ht]; exact joinOk_of (by simpa using hok)
  have hok2 := hok'
  unfold JoinOk at hok2
  rw [Bool.not_eq_true'] at hok2
  have gj : Gives (joinTail x (strValues lv)) (joinMade x lv) := by
    have g0 := gives_joinTail x lv hok2
    cases lv with
    | nil => exact g0
    | cons p r => cases r with
      | nil => exact g0
      | cons q r' => exact g0
  obtain ⟨hp, gg, dd, tk, os⟩ := s'
  obtain ⟨m1, m2, m3, m4, m5⟩ := hm
  dsimp only at m1 m2 m3 m4
  subst m2 m3 m4
  refine gj prog w A (wants Q E) _ (post_join lv ⟨joinFit_length hok2, fun t' k' => ?_⟩)
  rw [ht]
  exact q hp k' t' fun b o n e => m1 b o (fun hb' => by
    simp only [List.mem_cons, List.not_mem_nil, or_false] at hb'
    rcases hb' with rfl | rfl
    · rw [get_size] at e; cases e
    · exact n rfl) (k b o e)
end
end Mine

set_option maxRecDepth 100000
set_option linter.unusedVariables false
namespace Mine
open PySem PySem.W PySem.Calls PyProof.Rows

section
variable {prog : Program} {w : World} {A : Around} {K : Frag} {g0 h0 h h' : Heap} {mg mb : Str → Option Value} {env : Env} {X Y Z : Addr → Prop} {P P₁ P₂ : PV}
theorem getA_bound {C x f : Addr} {es : List DictEntry} {name : Str} {expr : Bool} (W : Wd K g0 mg mb) (b : Keep g0 h) (p : IsObj X C x es h) (hg : plainGet K C name = true) (hh : hasDictIn K C = true) (ha : findIn K (.ref C) name = some (some (.ref f))) (hf : isFn K (.ref f) = true)
    (hgf : specialIn K (.ref f) "__get__" = some (some (.builtin "function.__get__"))) (ht : takesIn K (.ref f) = some false) (hc : copiedNames.contains name = false) (hl : getL name es = some none) :
    Ev prog w A h (getAttr (.ref x) name expr) (fun v h' => ∃ q, v = .ref q ∧ h'.get? q = some (methodObj (.ref f) (.ref x))) := fun s Q E k q => by
  obtain ⟨ox, n, I⟩ := (p.keep k.b).inst
  have X := W.kin.keeps (b.trans k)
  exact get_bind X I (plainGet_of hg).1 (findObj_fn hh ha hgf ht hc (by show lookIn name (dictOf es n) = _; rw [lookIn_dict, hl])) (plainGet_of hg).2
    (wpAny_call (fn_get (s := { s with toks := s.toks + 1 }) X (beq_iff_eq.mp hf) (handed_on rfl (q _ _ _ keep_push ⟨_, rfl, Heap.get?_push_size _ rfl⟩))))
theorem keepB_none (k : KeepB (fun _ => False) h h') : Keep h h' := fun b o e => k b o (fun z => z) e
/-- a call of a bound method -/
theorem ev_bound {q : Addr} {f self : Value} {pos : List Value} (hq : h0.get? q = some (methodObj f self)) (c : ∀ h, Keep h0 h → Co prog w A (fun _ => False) h (.call f ⟨self :: pos, []⟩) P) : Ev prog w A h0 (call (.ref q) pos) P := fun s Q E k r =>
  wpAny_call (method_call (k _ _ hq) (c s.heap k s _ rfl fun v h' tk k' _ p => r v h' tk (keepB_none k') p))
/-- a call as a piece of code, told as an evaluation -/
theorem ev_ofCo {f : Value} {args : List Value} (c : ∀ h, Keep h0 h → Co prog w A (fun _ => False) h (.call f ⟨args, []⟩) P) : Ev prog w A h0 (call f args) P := fun s Q E k r =>
  (c s.heap k).cx s Q E rfl fun v h' tk k' _ p => r v h' tk (keepB_none k') p
/-- a map over a list, drained by join -/
theorem call_join_map {v f : Value} {x : Str} {ds : List S} {g : Nat → Str} (hh : A.handled = none) (p : isS x v h) (hn : ds.length ≤ 100000) (hok : (((List.range ds.length).map g).map (·.length)).sum + ds.length * x.length ≤ 16777216)
    (hf : ∀ i y, i < ds.length → (ds.getD i .none).is y → ∀ A' : Around, A'.depth = A.depth → A'.handled = none → ∀ h', Keep h h' → Ev prog w A' h' (call f [y]) (isS (g i))) {M T I l : Addr} {items : Array Value} {s : Shared} {Q E : Value → Shared → Prop}
    (st : MapSt M T I l f items h 0 s.heap) (hitems : Paired S.is ds items.toList) (q : ∀ u h' tk, (∀ b o, b ≠ I → s.heap.get? b = some o → h'.get? b = some o) → isS (Txt.join x ((List.range ds.length).map g)) u h' → Q u { s with heap := h', toks := tk }) :
    wpAny (model prog w) A (call (.builtin "str.join") [v, .ref M]) Q E s := by
  obtain ⟨t, rfl⟩ := p
  have ez : items.size = ds.length := by have := hitems.length; simpa using this.symm
  refine join_map (g := g) hh (fun i y e A' d hA h' k => ?_) st (by rw [ez, sizeLine_eq]; omega) (by rw [ez]; exact hok) fun h' tk t' k => ?_
  · have hlt : i < ds.length := by rw [← ez]; exact (Array.getElem?_eq_some_iff.mp e).1
    have hd : ds[i]? = some (ds.getD i .none) := by simp [hlt]
    obtain ⟨y', h1, h2⟩ := paired_get hitems hd
    have : y' = y := by
      have e' : items.toList[i]? = some y := by simpa using e
      rw [h1] at e'; exact Option.some.inj e'
    exact hf i y hlt (this ▸ h2) A' d hA h' k
  · rw [ez]
    exact q _ h' tk k ⟨_, rfl⟩
/-- the making of a map object over a list -/
theorem call_map {f u : Value} {ds : List S} (pl : isL X ds u h) (hlive : ∀ a, X a → ∃ o, h.get? a = some o) :
    Ev prog w A h (call (.type "map") [f, u]) (fun v h' => ∃ M T I l items hb, v = .ref M ∧ MapSt M T I l f items hb 0 h' ∧ Keep h hb ∧ Paired S.is ds items.toList ∧ hb.get? M = none ∧ hb.get? I = none ∧ ¬ X M ∧ ¬ X I ∧ ¬ X l ∧ ¬ X T) := fun s Q E k q => by
  obtain ⟨l, vs, rfl, n, hl, z⟩ := pl
  have hl' : s.heap.IsList l vs := hl.at fun o e => k l o e
  refine callType_new called_map (by decide) (typeCall_map_2 _ _) (newCall_map_2 _ _) (fun obj => F.args_object_init_3 obj _ _) entry_map_new (meets_map_new f l vs) ⟨hl', ?_⟩
  have s1 : (s.heap.push { cls := .type "list_iterator", data := .fields #[.ref l, .int 0 0] }).objs.size = s.heap.objs.size + 1 := Heap.size_push ..
  have s2 : ((s.heap.push { cls := .type "list_iterator", data := .fields #[.ref l, .int 0 0] }).push (tup1 s.heap.objs.size)).objs.size = s.heap.objs.size + 2 := by rw [Heap.size_push, s1]
  have ll : l < s.heap.objs.size := by obtain ⟨o, e, _⟩ := hl'; exact Heap.lt_size e
  have nX : ∀ a, s.heap.objs.size ≤ a → ¬ X a := fun a ha hx => by
    obtain ⟨o, e⟩ := hlive a hx
    exact absurd (Heap.lt_size (k _ _ e)) (Nat.not_lt.mpr ha)
  show _ ∧ Q _ _
  generalize hH : ((s.heap.push { cls := .type "list_iterator", data := .fields #[.ref l, .int 0 0] }).push { cls := .type "tuple", data := .seq #[.ref s.heap.objs.size] }).push (mapObj (s.heap.push { cls := .type "list_iterator", data := .fields #[.ref l, .int 0 0] }).objs.size f) = H
  have hM : H.get? (s.heap.objs.size + 2) = some (mapObj (s.heap.objs.size + 1) f) := by
    have := Heap.get?_push_size ((s.heap.push { cls := .type "list_iterator", data := .fields #[.ref l, .int 0 0] }).push (tup1 s.heap.objs.size)) (o := mapObj (s.heap.push { cls := .type "list_iterator", data := .fields #[.ref l, .int 0 0] }).objs.size f) rfl
    rw [s2, s1] at this
    rw [← hH, s1]; exact this
  have hT : H.get? (s.heap.objs.size + 1) = some (tup1 s.heap.objs.size) := by
    have := Heap.get?_push_size (s.heap.push { cls := .type "list_iterator", data := .fields #[.ref l, .int 0 0] }) (o := tup1 s.heap.objs.size) rfl
    rw [s1] at this
    rw [← hH]; exact keep_push _ _ this
  have hI : H.get? s.heap.objs.size = some { cls := .type "list_iterator", data := .fields #[.ref l, .int 0 0] } := by
    rw [← hH]; exact keep_push _ _ (keep_push _ _ (Heap.get?_push_size _ rfl))
  have hK : Keep s.heap H := by rw [← hH]; exact (keep_push.trans keep_push).trans keep_push
  have e2 : ((s.heap.push { cls := .type "list_iterator", data := .fields #[.ref l, .int 0 0] }).push { cls := .type "tuple", data := .seq #[.ref s.heap.objs.size] }).objs.size = s.heap.objs.size + 2 := s2
  rw [e2]
  refine ⟨⟨_, hM, rfl⟩, q _ H s.toks hK ⟨s.heap.objs.size + 2, s.heap.objs.size + 1, s.heap.objs.size, l, vs, s.heap, rfl, ?_, k, z, Heap.get?_none_of_le (Nat.le_add_right _ 2), get_size, nX _ (Nat.le_add_right _ 2), nX _ (Nat.le_refl _), n, nX _ (Nat.le_succ _)⟩⟩
  exact ⟨hM, hT, ⟨_, hI, rfl, rfl⟩, hl'.at fun o e => hK l o e, hK, get_size, Ne.symm (Nat.ne_of_lt (Nat.lt_succ_of_lt (Nat.lt_succ_self _))), Nat.succ_ne_self _, Nat.ne_of_lt ll⟩
/-- sep.join(map(f, list)) -/
theorem ev_joinMap {o e : Expr} {apos pos : Pos} {pl : Sem Bool} {x : Str} {ds : List S} {g : Nat → Str} (hh : A.handled = none) (xo : Ev prog w A h0 (eval o env) (isS x))
    (ye : ∀ h, Keep h0 h → Ev prog w A h (eval e env) (fun v h' => ∃ M T I l f items hb, v = .ref M ∧ MapSt M T I l f items hb 0 h' ∧ Keep h hb ∧ Paired S.is ds items.toList ∧
      (∀ i y, i < ds.length → (ds.getD i .none).is y → ∀ A' : Around, A'.depth = A.depth → A'.handled = none → ∀ h'', Keep hb h'' → Ev prog w A' h'' (call f [y]) (isS (g i)))))
    (hn : ds.length ≤ 100000) (hok : (((List.range ds.length).map g).map (·.length)).sum + ds.length * x.length ≤ 16777216)
    (hc : ∀ ov, callWith pos (.builtin "str.join") [ov] (backTo pos (starEach [e] env)) (backToKw pos (keywordEach [] env)) = callWith pos (.builtin "str.join") [ov] (backTo pos (starEach [e] env)) [])
    (he : eval (.Call (.Attribute o (Str.ofString "join") apos) [e] [] pos) env = (do let ov ← eval o env; standAt apos.atName; let (f, first) ← holding [ov] (getMethod ov (Str.ofString "join") pl); callWith pos f first (backTo pos (starEach [e] env)) (backToKw pos (keywordEach [] env))))
    (hse : starEach [e] env = [(false, eval e env)]) : Ev prog w A h0 (eval (.Call (.Attribute o (Str.ofString "join") apos) [e] [] pos) env) (isS (Txt.join x ((List.range ds.length).map g))) := fun s Q E k q => by
  refine methodCall_KW (pl := pl) (xo s _ E k fun v h₁ tk₁ k₁ ⟨t, ev⟩ => ?_) he
  subst ev
  refine getMethod_builtin (typeIs_str _ _ _) PySem.F.plainAttrs_str PySem.F.slot_str_join PySem.F.type_str_join (fun a e => by cases e) ?_
  show wpAny _ _ (callWith pos (.builtin "str.join") [.str x t] _ _) _ _ _
  rw [hc]
  refine callWith_method1 (wpAny_items_cons (ye h₁ (k.trans k₁) ⟨h₁, s.gens, s.drawn, tk₁, s.os⟩ _ E (fun _ _ e => e) fun u h₂ tk₂ k₂ ⟨M, T, I, l, f, items, hb, eu, st, kb, z, hf⟩ => ?_) hse) hse rfl
  subst eu
  refine ev_args0 ⟨h₂, s.gens, s.drawn, tk₂, s.os⟩ _ E (fun _ _ e => e) fun vs h₃ tk₃ k₃ ev => ?_
  subst ev
  have st₃ : MapSt M T I l f items hb 0 h₃ := st.kept (fun b o _ e => k₃ b o e) fun o e => k₃ _ o e
  refine call_join_map (s := ⟨h₃, s.gens, s.drawn, tk₃, s.os⟩) hh (h := hb) (x := x) (ds := ds) (g := g) ⟨t, rfl⟩ hn hok hf st₃ z fun u h₄ tk₄ k₄ p => ?_
  refine q u h₄ tk₄ (fun b o e => k₄ b o (fun z => ?_) (k₃ b o (k₂ b o (k₁ b o e)))) p
  have := kb b o (k₁ b o e)
  rw [z, st.new] at this; cases this
end
end Mine

set_option maxRecDepth 100000
set_option linter.unusedVariables false
namespace Mine
open PySem PySem.W PySem.Calls PyProof.Rows

/-- plain facts of texts -/
def sp : Str := Str.ofString " "
theorem sp_cps : sp = ⟨#[32]⟩ := by decide +kernel
theorem parts_le (x y : Str) (hy : 1 ≤ y.length) : (Builtin.Str.partsBetween x (Builtin.Str.occurrences x y 0 x.length (x.length + 1)) y.length).length ≤ x.length + 1 := by
  have h := StrLaws.glued_between_self x y (x.length + 1)
  have h2 := PySem.size_glued y (Builtin.Str.partsBetween x (Builtin.Str.occurrences x y 0 x.length (x.length + 1)) y.length)
  rw [h] at h2
  generalize (Builtin.Str.partsBetween x (Builtin.Str.occurrences x y 0 x.length (x.length + 1)) y.length) = P at *
  have : (P.length - 1) * 1 ≤ (P.length - 1) * y.length := Nat.mul_le_mul_left _ hy
  omega
theorem split_len (x y : Str) (hy : 1 ≤ y.length) : (Txt.split x y).length ≤ x.length + 1 := by
  unfold Txt.split
  split
  · simp
  · split
    · simp
    · exact parts_le x y hy
theorem split_mem {x y p : Str} (h : p ∈ Txt.split x y) : p.length ≤ x.length := by
  have := PySem.join_mem_le y _ _ h
  rwa [StrLaws.join_split] at this
theorem split_ne (x y : Str) : Txt.split x y ≠ [] := by
  unfold Txt.split
  split
  · simp
  · split
    · simp
    · unfold Builtin.Str.partsBetween
      simp
/-- texts put together with a blank, as lists -/
def jn : List (List Nat) → List Nat
  | [] => []
  | [a] => a
  | a :: b :: r => a ++ 32 :: jn (b :: r)
theorem jn_eq : ∀ ws : List Str, (Str.join sp ws).cps.toList = jn (ws.map fun w => w.cps.toList)
  | [] => by rw [join_nil]; rfl
  | [a] => by rw [join_one]; rfl
  | a :: b :: r => by
    rw [join_cons_cons]
    have ih := jn_eq (b :: r)
    show (a.cps ++ sp.cps ++ (Str.join sp (b :: r)).cps).toList = _
    rw [Array.toList_append, Array.toList_append, ih, sp_cps]
    simp [jn]
theorem jn_inj : ∀ (A B : List (List Nat)), A ≠ [] → B ≠ [] → (∀ a ∈ A, 32 ∉ a) → (∀ b ∈ B, 32 ∉ b) → jn A = jn B → A = B
  | [], _, h, _, _, _, _ => absurd rfl h
  | _, [], _, h, _, _, _ => absurd rfl h
  | [a], [b], _, _, _, _, h => by simpa [jn] using h
  | [a], b :: c :: r, _, _, ha, hb, h => by
    have : 32 ∈ a := by
      have e : a = b ++ 32 :: jn (c :: r) := h
      rw [e]; simp
    exact absurd this (ha a (by simp))
  | a :: c :: r, [b], _, _, ha, hb, h => by
    have : 32 ∈ b := by
      have e : a ++ 32 :: jn (c :: r) = b := h
      rw [← e]; simp
    exact absurd this (hb b (by simp))
  | a :: c :: r, b :: d :: t, _, _, ha, hb, h => by
    have e : a ++ 32 :: jn (c :: r) = b ++ 32 :: jn (d :: t) := h
    have key : ∀ (a b : List Nat) {u v : List Nat}, 32 ∉ a → 32 ∉ b → a ++ 32 :: u = b ++ 32 :: v → a = b ∧ u = v := by
      intro a
      induction a with
      | nil =>
        intro b u v _ hb e
        cases b with
        | nil => simpa using e
        | cons x b =>
          have : x = 32 := by simpa using (List.cons.inj e).1.symm
          exact absurd (by simp [this]) hb
      | cons y a ih =>
        intro b u v ha hb e
        cases b with
        | nil =>
          have : y = 32 := (List.cons.inj e).1
          exact absurd (by simp [this]) ha
        | cons x b =>
          obtain ⟨e1, e2⟩ := List.cons.inj e
          obtain ⟨h1, h2⟩ := ih b (fun q => ha (List.mem_cons_of_mem _ q)) (fun q => hb (List.mem_cons_of_mem _ q)) e2
          exact ⟨by rw [e1, h1], h2⟩
    obtain ⟨h1, h2⟩ := key a b (ha a (by simp)) (hb b (by simp)) e
    rw [h1, jn_inj (c :: r) (d :: t) (by simp) (by simp) (fun x hx => ha x (List.mem_cons_of_mem _ hx)) (fun x hx => hb x (List.mem_cons_of_mem _ hx)) h2]
theorem map_cps_inj : ∀ {A B : List Str}, A.map (fun w => w.cps.toList) = B.map (fun w => w.cps.toList) → A = B
  | [], [], _ => rfl
  | [], _ :: _, h => by cases h
  | _ :: _, [], h => by cases h
  | ⟨a⟩ :: r, ⟨b⟩ :: t, h => by
    obtain ⟨h1, h2⟩ := List.cons.inj h
    have : a = b := Array.toList_inj.mp h1
    rw [this, map_cps_inj h2]
theorem split_join {ws : List Str} (hne : ws ≠ []) (h : ∀ x ∈ ws, 32 ∉ x.cps.toList) : Txt.split (Str.join sp ws) sp = ws := by
  have h1 := StrLaws.join_split (Str.join sp ws) sp
  have h2 := congrArg (fun x : Str => x.cps.toList) h1
  simp only [jn_eq] at h2
  refine map_cps_inj (jn_inj _ _ ?_ ?_ ?_ ?_ h2)
  · simpa using split_ne _ _
  · simpa using hne
  · intro a ha
    obtain ⟨p, hp, rfl⟩ := List.mem_map.mp ha
    rw [sp_cps] at hp
    exact StrLaws.split_free _ 32 p hp
  · intro b hb
    obtain ⟨p, hp, rfl⟩ := List.mem_map.mp hb
    exact h p hp
theorem join_eq (sep : Str) (ws : List Str) : Txt.join sep ws = Str.join sep ws := StrLaws.glued_eq_join sep ws
theorem sum_le {l : List Str} {B : Nat} (h : ∀ x ∈ l, x.length ≤ B) : (l.map (·.length)).sum ≤ l.length * B := by
  induction l with
  | nil => simp
  | cons x r ih =>
    rw [List.map_cons, List.sum_cons, List.length_cons, Nat.add_mul, Nat.one_mul]
    have := h x List.mem_cons_self
    have := ih fun y hy => h y (List.mem_cons_of_mem _ hy)
    omega
end Mine

set_option maxRecDepth 100000
set_option linter.unusedVariables false
namespace Mine
open PySem PySem.W PySem.Calls PyProof.Rows

/-- codes that do not hold a bytearray -/
def okCode : Code → Bool
  | .builtin id _ => !(["bytearray.__contains__", "bytearray.__mod__", "bytearray.__rmod__", "_struct.pack_into.held", "bytearray.find.held"].contains id || Builtin.Bytes.decodersThatHold.contains id)
  | _ => true
def Clean (Γ : Ctx) : Prop := okCode Γ.code = true ∧ ∀ x ∈ Γ.below, okCode x.1 = true
def wpC {α : Type} (M : Model) (A : Around) (t : Sem α) (Q : α → Shared → Prop) (E : Value → Shared → Prop) (s : Shared) : Prop :=
  ∀ Γ p, Γ.In A → Clean Γ → Sem.wp M Γ t (fun a _ s' => Q a s') (fun e _ s' => E e s') p s
def codeC (M : Model) (A : Around) (c : Code) (R : Result → Shared → Prop) (s : Shared) : Prop :=
  ∀ Γ p, Γ.code = c → Γ.Below A → Clean Γ → wpCode M Γ R p s

section
variable {α β : Type} {M : Model} {A : Around} {E : Value → Shared → Prop} {s : Shared}
theorem wpC_of {t : Sem α} {Q : α → Shared → Prop} (h : wpAny M A t Q E s) : wpC M A t Q E s := fun Γ p hΓ _ => h Γ p hΓ
theorem codeC_of {c : Code} {R : Result → Shared → Prop} (h : codeAny M A c R s) : codeC M A c R s := fun Γ p hc hΓ _ => h Γ p hc hΓ
theorem wpC_mono {t : Sem α} {Q Q' : α → Shared → Prop} {E' : Value → Shared → Prop} (h : wpC M A t Q E s) (hQ : ∀ a s, Q a s → Q' a s) (hE : ∀ e s, E e s → E' e s) : wpC M A t Q' E' s :=
  fun Γ p hΓ hc => Sem.wp_mono M Γ t (fun a _ s => hQ a s) (fun e _ s => hE e s) p s (h Γ p hΓ hc)
theorem wpC_bind {m : Sem α} {f : α → Sem β} {Q : β → Shared → Prop} (h : wpC M A m (fun a s' => wpC M A (f a) Q E s') E s) : wpC M A (m >>= f) Q E s := fun Γ p hΓ hc => by
  rw [Sem.wp_bind']
  exact Sem.wp_mono M Γ m (fun a p' s' h' => h' Γ p' hΓ hc) (fun _ _ _ h' => h') p s (h Γ p hΓ hc)
theorem wpC_bindA {m : Sem α} {f : α → Sem β} {Q : β → Shared → Prop} (h : wpAny M A m (fun a s' => wpC M A (f a) Q E s') E s) : wpC M A (m >>= f) Q E s := wpC_bind (wpC_of h)
theorem wpC_pure {a : α} {Q : α → Shared → Prop} (h : Q a s) : wpC M A (pure a) Q E s := fun _ _ _ _ => h
theorem wpC_holding {vs : List Value} {m : Sem α} {Q : α → Shared → Prop} (h : wpC M A m Q E s) : wpC M A (holding vs m) Q E s := fun Γ p hΓ hc => by rw [Sem.wp_holding]; exact h Γ p hΓ hc
theorem wpC_onRaise {m : Sem α} {k : Value → Sem Unit} {Q : α → Shared → Prop} (h : wpC M A m Q (fun e s' => wpAny M A (k e) (fun _ s'' => E e s'') E s') s) : wpC M A (m.onRaise k) Q E s := fun Γ p hΓ hc => by
  rw [Sem.wp_onRaise]
  exact Sem.wp_mono M Γ m (fun _ _ _ h' => h') (fun e p' s' h' => h' Γ p' hΓ) p s (h Γ p hΓ hc)
theorem Clean.enter {Γ : Ctx} (h : Clean Γ) {c : Code} (hc : okCode c = true) {hd : Option Value} {p : Pos} : Clean (Γ.enter c hd p) :=
  ⟨hc, fun x hx => by
    rcases List.mem_cons.mp (show x ∈ (Γ.code, p) :: Γ.below from hx) with rfl | hx
    · exact h.1
    · exact h.2 x hx⟩
theorem wpC_run {c : Code} {Q : Flow → Shared → Prop} (ok : okCode c = true) (hc : codeC M A c (fun r s' => match r with | .ok f => Q f s' | .error e => E e s') s) : wpC M A (run c) Q E s :=
  fun Γ p hΓ h => by rw [Sem.wp_run]; exact hc _ p rfl (hΓ.enter c none p (by intro x; cases x)) (h.enter ok)
theorem wpC_runValue {c : Code} {Q : Value → Shared → Prop} (ok : okCode c = true) (hc : codeC M A c (fun r s' => match r with | .ok (.ret v) => Q v s' | .ok _ => False | .error e => E e s') s) : wpC M A (runValue c) Q E s :=
  fun Γ p hΓ h => by rw [Sem.wp_runValue]; exact hc _ p rfl (hΓ.enter c none p (by intro x; cases x)) (h.enter ok)
theorem wpC_call {f : Value} {pos : List Value} {kw : List (Str × Value)} {Q : Value → Shared → Prop}
    (hc : codeC M A (.call f ⟨pos, kw⟩) (fun r s' => match r with | .ok (.ret v) => Q v s' | .ok _ => False | .error e => E e s') s) : wpC M A (call f pos kw) Q E s := wpC_runValue rfl hc
theorem codeC_of_tree {c : Code} {R : Result → Shared → Prop}
    (h : wpC M (A.under c) (M.den c) (fun fin s' => match fin with | .done f => R (.ok f) s' | .again c' => c'.quiet = true ∧ okCode c' = true ∧ codeC M A c' R s') (fun e s' => R (.error e) s') s) : codeC M A c R s := fun Γ p hc hΓ hcl => by
  rw [wpCode_iff_wp, hc]
  refine Sem.wp_mono M Γ _ (fun fin p' s' h' => ?_) (fun _ _ _ h' => h') p s (h Γ p (hc ▸ hΓ.in) hcl)
  cases fin with
  | done f => exact h'
  | again c' => exact ⟨h'.1, h'.2.2 (Γ.goto c') p' rfl (hΓ.goto c') ⟨h'.2.1, hcl.2⟩⟩
theorem codeC_mono {c : Code} {R R' : Result → Shared → Prop} (h : codeC M A c R s) (hR : ∀ r s, R r s → R' r s) : codeC M A c R' s := fun Γ p hc hΓ hcl => wpCode_mono hR (h Γ p hc hΓ hcl)
theorem cif_not {c : Bool} {a b : Sem α} {Q : α → Shared → Prop} (hc : c = false) (h : wpC M A b Q E s) : wpC M A (if c = true then a else b) Q E s := by subst hc; exact h
theorem cif_so {c : Bool} {a b : Sem α} {Q : α → Shared → Prop} (hc : c = true) (h : wpC M A a Q E s) : wpC M A (if c = true then a else b) Q E s := by subst hc; exact h
theorem codeC_builtin {prog : Program} {w : World} {id : String} {args : Args} {b : Builtin} {R : Result → Shared → Prop} (hb : entryFor table id = some b)
    (h : wpC (model prog w) (A.under (.builtin id args)) (b args) (fun fin s' => match fin with | .done f => R (.ok f) s' | .again c' => c'.quiet = true ∧ okCode c' = true ∧ codeC (model prog w) A c' R s') (fun e s' => R (.error e) s') s) :
    codeC (model prog w) A (.builtin id args) R s := by
  refine codeC_of_tree ?_
  show wpC _ _ (match entryFor table id with | some b => b args | none => unsupported ((withoutEnding? id "#data").getD id)) _ _ _
  rw [hb]; exact h
/-- no activation of the stack holds the bytearray -/
theorem wpC_exported {v : Value} {Q : Bool → Shared → Prop} (h : Q false s) : wpC M A (Builtin.Bytes.exported v) Q E s := fun Γ p hΓ hcl => by
  show Q (((Γ.code, p) :: Γ.below).any _) s
  rw [show (((Γ.code, p) :: Γ.below).any _) = false from ?_]
  · exact h
  rw [List.any_eq_false]
  intro x hx
  have hok : okCode x.1 = true := by
    rcases List.mem_cons.mp hx with rfl | hx
    · exact hcl.1
    · exact hcl.2 x hx
  obtain ⟨c, q⟩ := x
  dsimp only at hok ⊢
  split <;> simp_all [okCode]
end
end Mine

set_option maxRecDepth 100000
set_option linter.unusedVariables false
namespace Mine
open PySem PySem.W PySem.Calls PyProof.Rows
open AutoSeq1 (wpAny_loadPart')

theorem mro_ba : mroOf (.type "bytearray") = pure [.type "bytearray", .type "object"] := by rw [mroOf_type]; kernel_rfl
theorem lookup_ba_new : typeLookup (.type "bytearray") "__new__" = pure (some (.builtin "bytearray.__new__")) := by rw [typeLookup_type, builtinLookup_eq_fast]; kernel_rfl
theorem sub_ba : isSubtype (.type "bytearray") (.type "bytearray") = pure true := by rw [isSubtype_type]; kernel_rfl
theorem ba_slot_init : Slot "bytearray" "__init__" "bytearray.__init__" :=
  .of (owner := "bytearray") (n := "__init__") (by rw [typeLookup_type, builtinLookup_eq_fast]; kernel_rfl) (by decide +kernel) (by decide +kernel) (by decide +kernel)
    (by first | exact .inl (by decide +kernel) | exact .inr (by decide +kernel)) (by rw [isSubtype_type]; kernel_rfl)
theorem called_ba : TypeCalled "bytearray" "bytearray.__new__" "bytearray.__init__" :=
  ⟨by decide +kernel, by decide +kernel, ⟨_, _, mro_ba⟩, madeBy_type mro_ba lookup_ba_new (by decide +kernel), by decide +kernel, sub_ba, ba_slot_init⟩
theorem typeCall_ba (a : Value) : checkTypeCall "bytearray" ⟨[a], []⟩ = pure () := by kernel_rfl
theorem newCall_ba (a : Value) : checkBuiltinCall "bytearray.__new__" ⟨[.type "bytearray", a], []⟩ = pure () := by kernel_rfl
theorem entry_ba_new : entryFor table "bytearray.__new__" = some Builtin.«list.__new__» :=
  entryFor_alias (id' := "list.__new__") (by kernel_rfl) (by first | rfl | decide +kernel | (unfold String.splitOn; simp +decide [String.splitOnAux])) (by decide +kernel) (by kernel_rfl)
theorem plain_ba_new : plainId "bytearray.__new__" = true := by decide +kernel
theorem entry_ba_init : entryFor table "bytearray.__init__" = some Builtin.«bytearray.__init__» := entryFor_of_tree (by kernel_rfl)
theorem ba_init_args (a b : Value) : argsOk "bytearray.__init__" ⟨[a, b], []⟩ := by unfold argsOk; kernel_rfl
set_option maxRecDepth 1000000 in
set_option maxHeartbeats 4000000 in
theorem owner_ba_new : ("bytearray.__new__".splitOn ".__new__").headD "" = "bytearray" := by simp +decide [String.splitOn, String.splitOnAux]

section
variable {prog : Program} {w : World} {A : Around} {E : Value → Shared → Prop} {s : Shared}
theorem code_ba_new (a : Value) {Q₁ : Value → Shared → Prop}
    (h : Q₁ (.ref s.heap.objs.size) { s with heap := s.heap.push { cls := .type "bytearray", data := .bytearray #[] } }) :
    codeAny (model prog w) A (.call (.builtin "bytearray.__new__") ⟨[.type "bytearray", a], []⟩) (wants Q₁ E) s := by
  refine codeAny_of_tree ?_
  show wpAny _ A.in1 (do checkBuiltinCall "bytearray.__new__" ⟨[.type "bytearray", a], []⟩; again (.builtin "bytearray.__new__" ⟨[.type "bytearray", a], []⟩)) _ _ s
  refine wpAny_bind (wpAny_of_eq (newCall_ba a) (wpAny_pure ⟨plainId_quiet plain_ba_new _, codeAny_builtin_stack entry_ba_new rfl fun p st => ?_⟩))
  rw [Around.under_plainId plain_ba_new _]
  have hsub := sub_ba
  have hown := owner_ba_new
  obtain ⟨hp, g, d, tk, os⟩ := s
  simp only [hown]
  wp_walk
  exact h
end

theorem ba_rel : typeLookup (.type "bytearray") (Str.ofString "__release_buffer__") = pure (some (.builtin "bytearray.__release_buffer__")) := by rw [typeLookup_type, builtinLookup_eq_fast]; kernel_rfl
theorem ba_sub_drop : ("bytearray.__release_buffer__".dropRight ("__release_buffer__".length + 1)) = "bytearray" := by decide +kernel
theorem ba_ends : ("bytearray.__release_buffer__".endsWith ("." ++ "__release_buffer__")) = true := by decide +kernel

section
variable {prog : Program} {w : World} {A : Around} {E : Value → Shared → Prop} {s : Shared}
theorem ba_ownRelease {a : Addr} {b : Array UInt8} {Q : Bool → Shared → Prop} (hl : IsBA s.heap a b) (h : Q false s) : wpAny (model prog w) A (Builtin.Bytes.ownRelease (.ref a)) Q E s := by
  have hl' : s.heap.get? a = some { cls := .type "bytearray", data := .bytearray b 0 } := hl
  unfold Builtin.Bytes.ownRelease
  wp_walk using wpAny_loadPart' hl'
  refine wpAny_of_eq ba_rel ?_
  dsimp only
  rw [ba_ends, ba_sub_drop]
  wp_walk using wpAny_loadPart' hl'
  refine wpAny_of_eq sub_ba ?_
  wp_walk using wpAny_loadPart' hl'
  exact h

theorem ba_write {a : Addr} {b : Array UInt8} {f : Array UInt8 → Array UInt8} {Q : Unit → Shared → Prop} (hl : IsBA s.heap a b) (hz : (f b).size ≤ 1000000) (h : ∀ h', IsBA h' a (f b) → (∀ c o, c ≠ a → s.heap.get? c = some o → h'.get? c = some o) → Q () { s with heap := h' }) :
    wpAny (model prog w) A (Builtin.Bytes.write (.ref a) f) Q E s := by
  have hl' : s.heap.get? a = some { cls := .type "bytearray", data := .bytearray b 0 } := hl
  show wpAny _ _ (updateBytearray a f) _ _ _
  unfold updateBytearray
  refine wpAny_bind (wpAny_load hl' ?_)
  dsimp only
  refine wpAny_bind (wpAny_update hl' ?_)
  have e := Heap.get?_update_self (Obj.mapBytearray f) hl' rfl
  refine wpAny_lookBehind e ?_ (h _ e fun c o n e' => (Heap.get?_update_other _ _ (Ne.symm n)).trans e')
  show (if (f b).size > sizeLine then some "bytearray:memory" else none) = none
  rw [if_neg (by rw [sizeLine_eq]; omega)]
theorem ba_payload {a : Addr} {b : Array UInt8} {Q : Array UInt8 → Shared → Prop} (hl : IsBA s.heap a b) (h : Q b s) : wpAny (model prog w) A (Builtin.Bytes.payload (.ref a)) Q E s := by
  have hl' : s.heap.get? a = some { cls := .type "bytearray", data := .bytearray b 0 } := hl
  unfold Builtin.Bytes.payload
  wp_walk using wpAny_loadPart' hl'
  exact h

theorem asStr_int (n : Int) (t : Tok) : asStr? (.int n t) = pure none := by unfold asStr?; rfl
theorem asIndex_int (n : Int) (t : Tok) : asIndex (.int n t) = pure n := by rfl
theorem spec_int_index (n : Int) (t : Tok) : specialOf (.int n t) (Str.ofString "__index__") = pure (some (.builtin "int.__index__")) := by
  unfold specialOf
  rw [show typeOf (.int n t) = pure (.type "int") from rfl, pure_bind]
  exact PySem.F.slot_int_index.lookup
theorem attempt_pure' {α : Type} (a : α) : (pure a : Sem α).attempt = pure (.ok a) := by rfl
theorem fits_index {n : Int} (h0 : 0 ≤ n) (h1 : n < 2 ^ 62) : Builtin.Bytes.fitsIndex n = true := by
  show (decide (-(2 ^ 63 : Int) ≤ n) && decide (n < 2 ^ 63)) = true
  rw [decide_eq_true (by omega), decide_eq_true (by omega)]; rfl
set_option maxHeartbeats 4000000 in
theorem ba_init {a : Addr} {n : Nat} {t : Tok} {Q : PySem.Fin → Shared → Prop} (hn : n ≤ 1000) (hl : IsBA s.heap a #[]) (h : ∀ h' tk, IsBA h' a (Array.replicate n 0) → (∀ b o, b ≠ a → s.heap.get? b = some o → h'.get? b = some o) → Q (.done (.ret .none)) { s with heap := h', toks := tk }) :
    wpC (model prog w) A (Builtin.«bytearray.__init__» ⟨[.ref a, .int (n : Int) t], []⟩) Q E s := by
  have hl' : s.heap.get? a = some { cls := .type "bytearray", data := .bytearray #[] 0 } := hl
  unfold Builtin.«bytearray.__init__»
  refine wpC_bindA (ba_ownRelease hl ?_)
  refine wpC_bindA (wpAny_of_eq (a := [some (.int (n : Int) t), none, none]) (by kernel_rfl) ?_)
  dsimp only
  refine wpC_bindA (wpAny_of_eq (a := ()) (by kernel_rfl) ?_)
  refine wpC_bindA (wpAny_of_eq (a := ()) (by kernel_rfl) ?_)
  refine wpC_bind ?_
  refine wpC_bind (wpC_exported ?_)
  show wpC _ _ (Builtin.Bytes.exportsOf (.ref a) >>= fun k => pure (decide (k > 0))) _ _ _
  refine wpC_bindA ?_
  show wpAny _ _ (load a >>= _) _ _ _
  refine wpAny_bind (wpAny_load hl' (wpAny_pure ?_))
  refine wpC_pure (wpC_of ?_)
  refine KFB.if_not rfl ?_
  refine wpAny_bind (ba_write hl (by simp) fun h₁ b₁ k₁ => ?_)
  have e1 : Builtin.Bytes.fitsIndex (n : Int) = true := fits_index (by omega) (by omega)
  have e2 : ((n : Int) < 0) = False := by simp
  have e3 : ((n : Int) == 2 ^ 63 - 1) = false := by rw [beq_eq_false_iff_ne]; omega
  have e4 : Builtin.Bytes.tooLong n = false := decide_eq_false (by rw [sizeLine_eq]; omega)
  simp only [asStr_int, pure_bind, Option.isSome_none, Bool.false_eq_true, if_false, spec_int_index, Option.isSome_some, if_true, asIndex_int, attempt_pure', e1, e2, e3, e4, Bool.not_true, Int.toNat_natCast]
  refine wpAny_bind (wpAny_rule ?_)
  split
  · refine wpAny_bind (ba_write b₁ (by simp; omega) fun h₂ b₂ k₂ => wpAny_pure (h h₂ _ b₂ fun b o e q => k₂ b o e (k₁ b o e q)))
  · rename_i hc
    have hz : n = 0 := by omega
    subst hz
    exact wpAny_pure (h h₁ _ b₁ k₁)
end
end Mine

set_option maxRecDepth 100000
set_option linter.unusedVariables false
namespace Mine
open PySem PySem.W PySem.Calls PyProof.Rows

theorem ok_tc (args : Args) : okCode (.builtin "type.__call__" args) = true := by
  simp only [okCode]
  decide +kernel
theorem ok_bi (args : Args) : okCode (.builtin "bytearray.__init__" args) = true := by
  simp only [okCode]
  decide +kernel
section
variable {prog : Program} {w : World} {A : Around} {E : Value → Shared → Prop} {s : Shared}
/-- the making of a bytearray of zeros -/
theorem call_ba {n : Nat} {t : Tok} {Q : Value → Shared → Prop} (hn : n ≤ 1000) (h : ∀ h' tk, IsBA h' s.heap.objs.size (Array.replicate n 0) → Keep s.heap h' → Q (.ref s.heap.objs.size) { s with heap := h', toks := tk }) :
    wpC (model prog w) A (call (.type "bytearray") [.int (n : Int) t]) Q E s := by
  have ft := called_ba
  obtain ⟨c, tl, hmro⟩ := ft.mro
  refine wpC_call (codeC_of_tree ?_)
  show wpC _ _ (callAny (.type "bytearray") _) _ _ _
  refine wpC_pure (a := PySem.Fin.again (.builtin "type.__call__" ⟨[.type "bytearray", .int (n : Int) t], []⟩)) ⟨Code.quiet_builtin _ (by decide +kernel), ok_tc _, codeC_builtin F.entry_type_call ?_⟩
  rw [Around.under_plain (weight_type_call_type "bytearray" [.int (n : Int) t] []) rfl]
  unfold Builtin.«type.__call__»
  dsimp only
  refine cif_not (by decide) ?_
  refine cif_not ft.canCreate ?_
  refine wpC_bindA (wpAny_of_eq (typeCall_ba _) ?_)
  refine wpC_bindA (wpAny_of_eq hmro ?_)
  refine cif_not rfl ?_
  refine wpC_bindA (wpAny_of_eq ft.made ?_)
  refine wpC_bind (wpC_pure ?_)
  refine wpC_bindA (wpAny_holding (wpAny_call (codeAny_mono (code_ba_new (E := E) (Q₁ := fun obj s' => obj = .ref s.heap.objs.size ∧ s' = { s with heap := s.heap.push { cls := .type "bytearray", data := .bytearray #[] } }) (.int (n : Int) t) ⟨rfl, rfl⟩) fun r s₁ hr => ?_)))
  match r, hr with
  | .error e, hr => exact hr
  | .ok (.ret obj), hr =>
    obtain ⟨rfl, rfl⟩ := hr
    have hb : IsBA (s.heap.push { cls := .type "bytearray", data := .bytearray #[] }) s.heap.objs.size #[] := Heap.get?_push_size _ rfl
    have hT : Shared.TypeIs { s with heap := s.heap.push { cls := .type "bytearray", data := .bytearray #[] } } (.ref s.heap.objs.size) "bytearray" := ⟨_, hb, rfl⟩
    refine wpC_bindA (wpAny_isInstance (T := "bytearray") (b := true) hT sub_ba ?_)
    refine cif_not rfl ?_
    refine wpC_bind (wpC_holding ?_)
    simp only [callSpecial?]
    refine wpC_bindA (wpAny_specialOf hT ba_slot_init.lookup ?_)
    simp only [ba_slot_init.bind]
    refine wpC_holding (wpC_bind (wpC_pure (wpC_bind (wpC_call (codeC_of_tree ?_)))))
    show wpC _ _ (do checkBuiltinCall "bytearray.__init__" ⟨[.ref s.heap.objs.size, .int (n : Int) t], []⟩; again (.builtin "bytearray.__init__" ⟨[.ref s.heap.objs.size, .int (n : Int) t], []⟩)) _ _ _
    refine wpC_bindA (ba_slot_init.check _ _ _ _ _ _ _ _ hT (ba_init_args _ _) (wpC_pure ⟨plainId_quiet ba_slot_init.plain _, ok_bi _, codeC_builtin entry_ba_init ?_⟩))
    refine ba_init hn hb fun h₁ tk b₁ k₁ => ?_
    refine wpC_pure ?_
    refine cif_not rfl (wpC_pure ?_)
    exact h h₁ tk b₁ fun b o e => k₁ b o (Nat.ne_of_lt (Heap.lt_size e)) (keep_push b o e)
end
end Mine

set_option maxRecDepth 100000
set_option linter.unusedVariables false
namespace Mine
open PySem PySem.W PySem.Calls PyProof.Rows

theorem ba_slot_get : Slot "bytearray" "__getitem__" "bytearray.__getitem__" :=
  .of (owner := "bytearray") (n := "__getitem__") (by rw [typeLookup_type, builtinLookup_eq_fast]; kernel_rfl) (by decide +kernel) (by decide +kernel) (by decide +kernel)
    (by first | exact .inl (by decide +kernel) | exact .inr (by decide +kernel)) (by rw [isSubtype_type]; kernel_rfl)
theorem ba_entry_get : entryFor table "bytearray.__getitem__" = some Builtin.«bytearray.__getitem__» := entryFor_of_tree (by kernel_rfl)
theorem ba_args_get (a b : Value) : argsOk "bytearray.__getitem__" ⟨[a, b], []⟩ := by unfold argsOk; kernel_rfl
theorem ba_slot_set : Slot "bytearray" "__setitem__" "bytearray.__setitem__" :=
  .of (owner := "bytearray") (n := "__setitem__") (by rw [typeLookup_type, builtinLookup_eq_fast]; kernel_rfl) (by decide +kernel) (by decide +kernel) (by decide +kernel)
    (by first | exact .inl (by decide +kernel) | exact .inr (by decide +kernel)) (by rw [isSubtype_type]; kernel_rfl)
theorem ba_entry_set : entryFor table "bytearray.__setitem__" = some Builtin.«bytearray.__setitem__» := entryFor_of_tree (by kernel_rfl)
theorem ba_args_set (a b c : Value) : argsOk "bytearray.__setitem__" ⟨[a, b, c], []⟩ := by unfold argsOk; kernel_rfl
theorem ba_slot_len : Slot "bytearray" "__len__" "bytearray.__len__" :=
  .of (owner := "bytearray") (n := "__len__") (by rw [typeLookup_type, builtinLookup_eq_fast]; kernel_rfl) (by decide +kernel) (by decide +kernel) (by decide +kernel)
    (by first | exact .inl (by decide +kernel) | exact .inr (by decide +kernel)) (by rw [isSubtype_type]; kernel_rfl)
theorem ba_entry_len : entryFor table "bytearray.__len__" = some Builtin.«bytearray.__len__» := entryFor_of_tree (by kernel_rfl)
theorem ba_args_len (a : Value) : argsOk "bytearray.__len__" ⟨[a], []⟩ := by unfold argsOk; kernel_rfl
theorem subscript_int {i : Int} {t : Tok} (h0 : 0 ≤ i) (h1 : i < 2 ^ 62) : Builtin.Bytes.subscript? (.int i t) = pure (some i) := by
  unfold Builtin.Bytes.subscript?
  have e := fits_index h0 h1
  simp only [spec_int_index, pure_bind, Option.isNone_some, Bool.false_eq_true, if_false, asIndex_int, e, Bool.not_true]
theorem byteValue_int {i : Int} {t : Tok} (h0 : 0 ≤ i) (h1 : i < 256) : Builtin.Bytes.byteValue (.int i t) = pure i.toNat.toUInt8 := by
  unfold Builtin.Bytes.byteValue
  have e : (decide (i < 0) || decide (i ≥ 256)) = false := by rw [decide_eq_false (by omega), decide_eq_false (by omega)]; rfl
  simp only [asIndex_int, pure_bind, e, Bool.false_eq_true, if_false]
theorem seqIndex_nat {i : Int} {n : Nat} (h0 : 0 ≤ i) (h1 : i < n) : seqIndex? i n = some i.toNat := by
  unfold seqIndex?
  have : ¬ i < 0 := by omega
  simp [this]; omega

section
variable {prog : Program} {w : World} {A : Around} {E : Value → Shared → Prop} {s : Shared}
theorem ba_getItem {a : Addr} {b : Array UInt8} {i : Int} {t : Tok} {Q : Value → Shared → Prop} (hl : IsBA s.heap a b) (h0 : 0 ≤ i) (h1 : i < b.size) (h2 : i < 2 ^ 62) (h : ∀ t' tk, Q (.int ((b.getD i.toNat 0).toNat : Int) t') { s with toks := tk }) :
    wpAny (model prog w) A (getItem (.ref a) (.int i t)) Q E s := by
  refine wpAny_getItem_slot hl.ty (by decide) ba_slot_get (wpAny_call_entry ba_slot_get hl.ty ba_entry_get ?_ (ba_args_get _ _))
  show wpAny _ _ (Builtin.Bytes.subscript? (.int i t) >>= _) _ _ s
  rw [subscript_int h0 h2]
  refine wpAny_bind (wpAny_pure ?_)
  dsimp only
  refine wpAny_bind (ba_payload hl ?_)
  have e : (seqIndex? i b.size).bind (b[·]?) = some (b.getD i.toNat 0) := by
    rw [seqIndex_nat h0 h1, Option.bind_some, Array.getD_eq_getD_getElem?]
    have : i.toNat < b.size := by omega
    simp [this]
  simp only [e]
  exact wpAny_bind (wpAny_mkInt (wpAny_pure ⟨_, rfl, h _ _⟩))
theorem ba_setItem {a : Addr} {b : Array UInt8} {i x : Int} {t u : Tok} {Q : Unit → Shared → Prop} (hl : IsBA s.heap a b) (h0 : 0 ≤ i) (h1 : i < b.size) (h2 : i < 2 ^ 62) (hx0 : 0 ≤ x) (hx1 : x < 256) (hz : b.size ≤ 1000)
    (h : ∀ h', IsBA h' a (b.setIfInBounds i.toNat x.toNat.toUInt8) → (∀ c o, c ≠ a → s.heap.get? c = some o → h'.get? c = some o) → Q () { s with heap := h' }) :
    wpAny (model prog w) A (setItem (.ref a) (.int i t) (.int x u)) Q E s := by
  unfold setItem
  refine wpAny_holding ?_
  refine wpAny_bind (wpAny_sequenceKey hl.ty (by decide) ?_)
  refine wpAny_bind (wpAny_callSpecial?_slot (name := Str.ofString "__setitem__") hl.ty ba_slot_set (wpAny_call_entry ba_slot_set hl.ty ba_entry_set ?_ (ba_args_set _ _ _)))
  show wpAny _ _ (Builtin.Bytes.subscript? (.int i t) >>= _) _ _ s
  rw [subscript_int h0 h2]
  refine wpAny_bind (wpAny_pure ?_)
  dsimp only
  rw [byteValue_int hx0 hx1]
  refine wpAny_bind (wpAny_pure ?_)
  refine wpAny_bind (ba_payload hl ?_)
  rw [seqIndex_nat h0 h1]
  dsimp only
  exact wpAny_bind (ba_write hl (by simp; omega) fun h' b' k' => wpAny_pure ⟨_, rfl, wpAny_pure (h h' b' k')⟩)
theorem ba_len {a : Addr} {b : Array UInt8} {Q : Value → Shared → Prop} (hl : IsBA s.heap a b) (hz : b.size ≤ 1000) (h : ∀ t' tk, Q (.int b.size t') { s with toks := tk }) : wpAny (model prog w) A (call (.builtin "len") [.ref a]) Q E s := by
  have g : Meets (Builtin.«bytearray.__len__» ⟨[.ref a], []⟩) (fun _ R s => IsBA s.heap a b ∧ R (.ok (.ret (.int b.size s.toks))) { s with toks := s.toks + 1 }) := .of_wp fun prog w A R s ⟨hl, h⟩ => by
    show wpAny _ _ (Builtin.Bytes.payload (.ref a) >>= _) _ _ s
    refine wpAny_bind (ba_payload hl ?_)
    exact wpAny_bind (wpAny_mkInt (wpAny_pure ⟨_, rfl, h⟩))
  refine call_len_meets (n := (b.size : Int)) hl.ty ba_slot_len ba_entry_len (ba_args_len _) g (by omega) (by omega) (fun Q' q => ⟨hl, q⟩) (h _ _)
end
end Mine

set_option maxRecDepth 100000
set_option linter.unusedVariables false
namespace Mine
open PySem PySem.W PySem.Calls PyProof.Rows

/-- the head's own context holds no bytearray -/
theorem caller_clean : Clean (⟨.builtin "claim.caller" {}, none, none, [], none⟩ : Ctx) := ⟨by simp only [okCode]; decide +kernel, fun x hx => by cases hx⟩

/-- a walk of the clean contexts alone -/
abbrev WalkC (q : Program) (loose : List Str) (XP : (Str → Option Value) → Heap → Prop) (YP : World → Heap → Prop) (r : RowW) (d : DefRec) (kwd : List (Str × Expr)) : Prop :=
  ∀ (w : World) (s₀ s₁ : Shared) (mg mb : Str → Option Value), Ground q loose r.records XP w s₀ mg mb s₁.heap → YP w s₁.heap → ∀ (a : Addr) (o : Obj) (pm cd doc dV kV : Value), s₁.heap.get? a = some o →
    o.data = .func { docDef d.name d.params d.body d.scope pm cd doc with defaults := dV, kwdefaults := kV } → s₁.heap.CodeRec cd d.name → Dflts mg s₁.heap d.params kwd dV kV → mg d.name = some (.ref a) → s₁.gens = #[] →
    ∀ (args : List WData) (vals : List Value) (as : List Addr), r.claim.pre args = true → WData.layableAll args = true → ReadsAllW r.records (classAt s₀.heap) s₁.heap vals args as → WellAll w.params s₁.heap vals args → (∀ a ∈ as, (a == sysModules) = false) →
      wpC (model r.prog w) callerA (PySem.call (.ref a) vals) (fun v s' => GoodWG r.claim (classAt s₀.heap) (ExcName.means s₀.heap) args s₁ (.ok (.ret v)) s')
        (fun e s' => GoodWG r.claim (classAt s₀.heap) (ExcName.means s₀.heap) args s₁ (.error e) s') s₁

/-- one call of the program's def, from the head's own context -/
theorem called_once {c : ClaimW} {nm : Str} {w : World} {s s₁ : Shared} {args : List WData} {vs : List Value} {f : Value} {mg : Str → Option Value} {kept : Heap → Prop}
    (hg : s₁.heap.Ns mainGlobals mg) (hf : mg nm = some f) (hz : s₁.asleep) (hl : s₁.heap.life = s.heap.life)
    (h : wpC (model c.prog w) callerA (PySem.call f vs) (fun v s' => c.Ends s args vs s₁ (.ok (.ret v)) s' ∧ s'.os = s.os ∧ AllBare s'.gens ∧ kept s'.heap) (fun e s' => c.Ends s args vs s₁ (.error e) s' ∧ s'.os = s.os ∧ AllBare s'.gens ∧ kept s'.heap) s₁) :
    ∃ n r s', schedN (denote table) c.prog w n (.single s₁ ⟨(do match ← nsGet mainNs nm with
      | some f => do ret (← PySem.call f vs)
      | none => unsupported "claim.caller:no-such-global"), .builtin "claim.caller" {}, default, []⟩) = .halted (outcomeOf r) s' ∧ c.Ends s args vs s₁ r s' ∧ s'.os = s.os ∧ kept s'.heap ∧ s'.heap.life = s.heap.life := by
  have hw : Sem.wp (model c.prog w) ⟨.builtin "claim.caller" {}, none, none, [], none⟩ (do match ← nsGet mainNs nm with
      | some f => do ret (← PySem.call f vs)
      | none => unsupported "claim.caller:no-such-global") (Sem.finPost (model c.prog w) ⟨.builtin "claim.caller" {}, none, none, [], none⟩ fun r s' => (c.Ends s args vs s₁ r s' ∧ s'.os = s.os ∧ kept s'.heap) ∧ leftWithCleanup s'.gens = false)
      (fun e _ s' => (c.Ends s args vs s₁ (.error e) s' ∧ s'.os = s.os ∧ kept s'.heap) ∧ leftWithCleanup s'.gens = false) default s₁ := by
    refine Sem.wp_mono _ _ _ (fun fin p' s' h' => ?_) (fun _ _ _ h' => h') _ _
      ((wpC_bindA (E := fun e s' => (c.Ends s args vs s₁ (.error e) s' ∧ s'.os = s.os ∧ kept s'.heap) ∧ leftWithCleanup s'.gens = false)
        (Q := fun fin s' => ∃ f, fin = PySem.Fin.done f ∧ (c.Ends s args vs s₁ (.ok f) s' ∧ s'.os = s.os ∧ kept s'.heap) ∧ leftWithCleanup s'.gens = false) (wpAny_nsGet hg ?_)) _ default caller_in caller_clean)
    · obtain ⟨f, rfl, hf⟩ := h'
      exact hf
    · rw [hf]
      exact wpC_bind (wpC_mono h (fun v s' q => wpC_pure ⟨_, rfl, ⟨q.1, q.2.1, q.2.2.2⟩, leftWithCleanup_false_of_bare q.2.2.1⟩) fun e s' q => ⟨⟨q.1, q.2.1, q.2.2.2⟩, leftWithCleanup_false_of_bare q.2.2.1⟩)
  obtain ⟨n, r, sa, sb, h1, h2, hfo, hR⟩ := wp_halts_full (M := model c.prog w) (R := fun r s' => c.Ends s args vs s₁ r s' ∧ s'.os = s.os ∧ kept s'.heap) hz hw
  obtain ⟨eh, _, _, eo, _⟩ := Shared.forget_eq hfo
  refine ⟨n, r, sb, h1, hR.1.congr eh, eo ▸ hR.2.1, eh ▸ hR.2.2, (runN_life _ _ _ h2).trans hl⟩

/-- a row whose def answers in every clean context -/
theorem holdsC {r : OpenRow} {q : Program} {loose : List Str} {Xt : Shared → Bool} {XP : (Str → Option Value) → Heap → Prop} {α : Type} {Yf : Shared → α} {Ya : World → α} {YP : World → Heap → Prop} {d : DefRec} {kwd : List (Str × Expr)} {N : Nat}
    (left : LeftO r.prog q loose Xt Yf Ya N) (hY : ∀ w s, Yf s = Ya w → YP w s.heap) (hYk : ∀ w h h', YP w h → (∀ b o, h.get? b = some o → h'.get? b = some o) → YP w h')
    (hX : ∀ s, Xt s = true → XP (s.heap.nsMap mainGlobals) s.heap) (hXk : ∀ mg h h', XP mg h → (∀ b o, h.get? b = some o → h'.get? b = some o) → XP mg h')
    (hdef : defOf q r.name = some (d, kwd)) (hp : r.prog.theDef r.name = some (d.params, d.body, d.scope)) (hk : kwWritten? d.params.kwonlyargs d.params.kw_defaults = some kwd)
    (hRf : ∀ s, Xt s = true → RecFacts r.records s.heap) (hwr : (!r.writes || r.records.isEmpty) = true)
    (k1 : r.wellSaid = true) (hch : chainsOk q = true) (how : opensWell r.prog = true) (hfr : frees r.toRowW = true) (hwi : r.within.isEmpty = true) (hb : r.prog.bare) (hw : r.toRowW.promised)
    (call : WalkC q loose XP YP r.toRowW d kwd) : r.Holds := by
  obtain ⟨hsame, hu, ha, hap, hm⟩ := frees_parts hfr
  have hi := ident_freeW hu ha hap
  have hwi' : r.toRowW.claim.within = [] := List.isEmpty_iff.mp hwi
  refine ⟨k1, hw, ⟨hb, how, by show r.makers.map _ = []; rw [hm]; rfl⟩, hw.witness, fun w => ⟨(left.behind hX hch w).1, fun s' hs' => ?_⟩⟩
  obtain ⟨s₀, hf, hg0, s, hT, hz, hgens, hg, G00, y⟩ := (left.behind (XP := fun mg h => XP mg h ∧ RecFacts r.records h) (fun s hs => ⟨hX s hs, hRf s hs⟩) hch w).2 s' hs'
  have RF := G00.X.2
  have G0 : Ground q loose [] XP w s (s.heap.nsMap mainGlobals) (s.heap.nsMap builtinsNs) s.heap := ⟨G00.T, G00.B, G00.D, G00.TE, G00.TD, G00.W, G00.X.1, G00.cls, G00.has, G00.apart, G00.once, G00.K⟩
  have hgens : s.gens = #[] := Array.eq_empty_of_size_eq_zero (beq_iff_eq.mp hgens)
  have G : Ground q loose r.records XP w s _ _ s.heap := RF.ground G0
  refine ⟨s₀, hf, hg0, s, hT, fun n hn => ?_, RF.1, RF.2.1, fun args hpre hlay ord hord => ?_⟩
  · obtain rfl : n = r.name := by split at hn <;> simp_all
    exact pinned_of_view hg G0 hdef hp hk
  · obtain ⟨⟨vs, s₁⟩, hlaid⟩ := Option.isSome_iff_exists.mp (layAllW_isSome (P := w.params) (ord := ord) G.has args r.args s (pre_splitW hpre).1)
    have keeps := layAllW_keeps _ _ _ hlaid
    have hal := layAllW_rest _ _ _ hlaid
    obtain ⟨as, hrd, hin, hold⟩ := reads_layAllW hord _ _ _ hlaid hlay s₁.heap (fun _ _ e => e)
    have L : Laid r.records w s s₁ args vs as := ⟨⟨ord, hord, hlaid⟩, hrd, hin, hold, keeps, hal.1.trans hgens, hal.2.2.1⟩
    have G₁ := G.keeps hXk keeps
    obtain ⟨a, o, pm, cd, doc, dV, kV, h1, h2, h3, h4, h5⟩ := G₁.fn hdef
    have hc := call w s s₁ _ _ G₁ (hYk _ _ _ (hY w s y) keeps) a o pm cd doc dV kV h2 h3 h4 h5 (defOf_name hdef ▸ h1) L.gens args vs as hpre hlay L.reads L.well (L.low G.low)
    obtain ⟨n, res, s₂, hrun, hend, hos, hkp, hlife⟩ := called_once (c := r.toRowW.claim) (s := s) (nm := r.name) (kept := fun h' => r.writes = true → namesKept r.prog r.keeps s.heap h' ∧ ∀ x ∈ r.records, ∀ a, classAt s.heap x.1 = some a → recordClass h' a x.1 (x.2.map (·.1)) = true)
      G₁.T.g h1 (Shared.asleep_of_life hal.2.2.2 hz) hal.2.2.2
      (wpC_mono hc (fun v s' g => have z := g.laid (c := r.toRowW.claim) hsame hwi' hi L; ⟨z.1, z.2.1, z.2.2, fun q => ⟨namesKept_of hT hg _ keeps g.2.1.old, noTable hwr q⟩⟩)
        fun e s' g => have z := g.laid (c := r.toRowW.claim) hsame hwi' hi L; ⟨z.1, z.2.1, z.2.2, fun q => ⟨namesKept_of hT hg _ keeps g.2.1.old, noTable hwr q⟩⟩)
    refine ⟨vs, s₁, hlaid, n, _, s₂, hrun, ?_, (fun _ i x hx => by rw [hgens] at hx; simp at hx), hkp, congrArg Life.seen hlife, Shared.rest_eq hos⟩
    rcases hend with ⟨v, rfl, d1, d2, d3, d4, d5⟩ | ⟨e, ob, cls, rfl, d1, d2, d3, d4, d5⟩
    · exact .inl ⟨v, rfl, d1, d2, d3, fun b o y _ => d4 b o y, d5⟩
    · exact .inr ⟨e, ob, cls, rfl, d1, d2, d3, d4, fun b o y _ => d5 b o y⟩
abbrev WalkC' {q : Program} {loose : List Str} {XP : (Str → Option Value) → Heap → Prop} {YP : World → Heap → Prop} {r : RowW} {d : DefRec} {kwd : List (Str × Expr)} {run : Value → List Value → Sem Value} {R : Prop} (_ : WalkO q loose XP YP r d kwd run → R) : Prop := WalkC q loose XP YP r d kwd
theorem hdC_of {l : OpenLaw} {q : Program} {loose : List Str} {H : Hook} {d : DefRec} {kwd : List (Str × Expr)} {run : Value → List Value → Sem Value} {R : Prop} {lv : List (Str × WData)} {N : Nat}
    (h : WalkO q loose (XL q lv) H.says l.row.toRowW d kwd run → R) (left : LeftO l.row.toRowW.prog q loose (fun s => xlAt q lv s && recOk l.row.toRowW.records s) H.obs H.val N)
    (k1 : l.row.wellSaid = true) (hdef : defOf q l.row.name = some (d, kwd)) (hp : l.row.prog.theDef l.row.name = some (d.params, d.body, d.scope)) (hk : kwWritten? d.params.kwonlyargs d.params.kw_defaults = some kwd)
    (hwr : (!l.row.writes || l.row.records.isEmpty) = true)
    (hch : chainsOk q = true) (how : opensWell l.row.prog = true) (hfr : frees l.row.toRowW = true) (hwi : l.row.within.isEmpty = true) (hb : l.row.prog.bare) (hw : l.row.toRowW.promised)
    (call : WalkC q loose (XL q lv) H.says l.row.toRowW d kwd) : l.row.Holds :=
  holdsC left (Hook.of H) (Hook.keeps H) (fun s e => xl_of s (Bool.and_eq_true_iff.mp e).1) XL.keeps hdef hp hk (fun s e => recFacts_of (Bool.and_eq_true_iff.mp e).2) hwr k1 hch how hfr hwi hb hw call
end Mine

set_option maxRecDepth 100000
set_option linter.unusedVariables false
namespace Mine
open PySem PySem.W PySem.Calls PyProof.Rows

/-- a list that may be changed -/
def ML (L : Addr) (ds : List S) (h : Heap) : Prop := ∃ vs, h.IsList L vs ∧ Paired S.is ds vs.toList
theorem ML.at {L : Addr} {ds : List S} {h h' : Heap} (x : ML L ds h) (k : ∀ o, h.get? L = some o → h'.get? L = some o) : ML L ds h' := by
  obtain ⟨vs, ⟨o, e, r⟩, p⟩ := x
  exact ⟨vs, ⟨o, k o e, r⟩, p⟩
theorem paired_set {α β : Type} {F : α → β → Prop} : ∀ {l₁ : List α} {l₂ : List β}, Paired F l₁ l₂ → ∀ {a : α} {b : β}, F a b → ∀ i, Paired F (l₁.set i a) (l₂.set i b)
  | _, _, .nil, a, b, f, i => by simp only [List.set_nil]; exact .nil
  | _, _, .cons g t, a, b, f, 0 => by simp only [List.set_cons_zero]; exact .cons f t
  | _, _, .cons g t, a, b, f, i + 1 => by simp only [List.set_cons_succ]; exact .cons g (paired_set t f i)

section
variable {prog : Program} {w : World} {A : Around} {K : Frag} {g0 h0 h h' : Heap} {mg mb : Str → Option Value} {env : Env} {X Y Y' : Addr → Prop} {ρ ρ' ρ₀ : List (Str × PV)} {x : Str} {v : Value} {P : PV} {P' : Flow → Heap → Prop}

theorem ev_load (hk : Loc env x) (y : Var env h0 x v) (hP : ∀ h, Keep h0 h → P v h) : Ev prog w A h0 (loadName env x) P := fun s Q E k h => by
  obtain ⟨a, b, c⟩ := y.keep k
  have q := h v s.heap s.toks (fun _ _ e => e) (hP _ k)
  rcases c with ⟨c1, m, c2, c3⟩ | ⟨c1, c, c2, c3⟩ | ⟨c1, c1', c, c2, c3⟩ | ⟨c1, mg, mb, c2, c3, c4⟩
  · exact wpAny_loadName_local a c1 c2 c3 q
  · exact wpAny_loadName_cell a c1 c2 c3 q
  · exact wpAny_loadName_free a c1 c2 c3 q c1'
  · rcases hk with hk | ⟨hk, _⟩ <;> rw [c1] at hk <;> cases hk
theorem Fre.load (F : Fre g0 env ρ h) (hk : Loc env x) (m : (x, P) ∈ ρ) : Ev prog w A h (loadName env x) P := by
  obtain ⟨st, v, y, p⟩ := F.vars _ m
  exact ev_load hk y fun h' k => st _ _ _ k p
/-- x op= value on whole numbers -/
theorem ex_aug {px pos : Pos} {op : Operator} {e : Expr} {rest : List Stmt} {a b c : Int} (F : Frm g0 env X Y ρ h) (hm : (x, isI a) ∈ ρ) (he : Ev prog w A h (eval e env) (isI b))
    (o : ∀ t u h, Ev prog w A h (inplaceOp op (.int a t) (.int b u)) (isI c)) (ρ' : List (Str × PV))
    (n : ∀ h', KeepB Y h h' → Frm g0 env X Y ρ' h' → Ex prog w A Y' h' (execs rest env) P')
    (hk : Loc env x) (hd : (x == ("__debug__" : Str)) = false) (hr : ∀ q ∈ ρ', q = (x, isI c) ∨ (q ∈ ρ ∧ q.1 ≠ x)) (hY : ∀ a, Y a → Y' a) : Ex prog w A Y' h (execs (.AugAssign (.Name x px) op e pos :: rest) env) P' := fun s Q E eq q => by
  subst eq
  refine wpAny_execs_cons (wpAny_AugAssign_Name ((F.e.load hk hm).use fun v h₁ tk k p => ?_))
  obtain ⟨t, rfl⟩ := p
  refine he _ _ E k fun v₂ h₂ tk₂ k₂ p₂ => ?_
  obtain ⟨u, rfl⟩ := p₂
  refine o t u h₂ ⟨h₂, s.gens, s.drawn, tk₂, s.os⟩ _ E (fun _ _ e => e) fun v₃ h₃ tk₃ k₃ p₃ => ?_
  have kk := (k.trans k₂).trans k₃
  refine store_any (s := ⟨h₃, s.gens, s.drawn, tk₃, s.os⟩) (F.keep kk) hd hk Stable.i p₃ hr fun h₄ tk₄ k₄ l₄ F₄ => ?_
  exact n h₄ (kk.b.trans k₄) F₄ ⟨h₄, s.gens, s.drawn, tk₄, s.os⟩ Q E rfl fun fl h₅ tk₅ k₅ l₅ p₅ => q fl h₅ tk₅ (((kk.b.trans k₄).wide hY).trans k₅) ((kk.live.trans l₄).trans l₅) p₅
theorem iadd_ev {a b : Int} {t u : Tok} : Ev prog w A h (inplaceOp .Add (.int a t) (.int b u)) (isI (a + b)) := fun s Q E k q =>
  iadd_int (q _ s.heap _ (fun _ _ e => e) ⟨_, rfl⟩)
theorem ior_ev {a b : Int} {t u : Tok} : Ev prog w A h (inplaceOp .BitOr (.int a t) (.int b u)) (isI (Builtin.bitOr a b)) := fun s Q E k q =>
  ior_int (q _ s.heap _ (fun _ _ e => e) ⟨_, rfl⟩)

/-- one address changed, which holds no name of the frame -/
theorem Frm.one (F : Frm g0 env X Y ρ h) {L : Addr} (hX : X L) (hl : L ≠ env.locals) (hc : ∀ n c, env.cells.lookup n = some c → c ≠ L) (k : But L h h') (lv : ∃ o, h'.get? L = some o) : Frm g0 env X Y ρ h' :=
  F.mut (Z := fun a => a = L) (fun a e => e ▸ hX) (fun e => hl e.symm) (fun n c e z => hc n c e z) (fun b o n e => k b o n e) (live_same k lv)
/-- o[i] = value, the object a list -/
theorem ex_set {o i value : Expr} {pos' pos : Pos} {rest : List Stmt} {L : Addr} {n : Nat} {d : S} {ds : List S} (F : Frm g0 env X Y ρ h) (hv : Ev prog w A h (eval value env) (isD d)) (ho : Ev prog w A h (eval o env) (isV (.ref L))) (hi : Ev prog w A h (eval i env) (isI n))
    (hX : X L) (hl : L ≠ env.locals) (hc : ∀ n c, env.cells.lookup n = some c → c ≠ L) (ml : ML L ds h) (hn : n < ds.length) (hz : ds.length < 2 ^ 62)
    (nx : ∀ h', KeepB (· = L) h h' → ML L (ds.set n d) h' → Frm g0 env X Y ρ h' → Ex prog w A Y' h' (execs rest env) P')
    (hsw : swapsWith value (some (.Subscript o i pos')) pos.line env = pure false) (hY : Y' L) : Ex prog w A Y' h (execs (.Assign [.Subscript o i pos'] value pos :: rest) env) P' := fun s Q E eq q => by
  subst eq
  refine wpAny_execs_cons (wpAny_Assign_Subscript (hv.use fun v h₁ tk k p => ho _ _ E k fun ov h₂ tk₂ k₂ e₂ => hi _ _ E (k.trans k₂) fun iv h₃ tk₃ k₃ ⟨u, e₃⟩ => ?_) hsw)
  have e₂' : ov = .ref L := e₂
  subst e₂' e₃
  have kk := (k.trans k₂).trans k₃
  obtain ⟨vs, hL, pr⟩ := ml.at fun o e => kk L o e
  have hsz : vs.size = ds.length := by rw [pr.length]; simp
  refine wpAny_setItem_list (s := ⟨h₃, s.gens, s.drawn, tk₃, s.os⟩) hL (by omega) (by omega) (by omega) fun h' hL' hB => ?_
  have hb : But L h₃ h' := hB.extBut
  have lv : ∃ o, h'.get? L = some o := let ⟨o, e, _⟩ := hL'; ⟨o, e⟩
  have kL : KeepB (· = L) s.heap h' := fun b o n e => hb b o n (kk b o e)
  refine nx h' kL ⟨_, hL', ?_⟩ ((F.keep kk).one hX hl hc hb lv) ⟨h', s.gens, s.drawn, tk₃, s.os⟩ Q E rfl fun fl h'' tk' k' l' p' => q fl h'' tk' (fun b o n e => k' b o n (kL b o (fun z => n (z ▸ hY)) e)) ((kk.live.trans (live_same hb lv)).trans l') p'
  rw [Array.toList_setIfInBounds]
  exact paired_set pr p _
/-- an item of a list that may be changed -/
theorem ev_item_ml {value slice : Expr} {pos : Pos} {L : Addr} {ds : List S} {n : Nat} {d : S} (x : Ev prog w A h0 (eval value env) (isV (.ref L))) (y : Ev prog w A h0 (eval slice env) (isI n)) (ml : ML L ds h0) (hd : ds[n]? = some d) (hz : n < 2 ^ 62)
    (hs : ∀ l u, subscripted slice false (.ref l) (.int n u) = operate [.ref l, .int n u] (getItem (.ref l) (.int n u))) : Ev prog w A h0 (eval (.Subscript value slice pos) env) (isD d) :=
  ev_item x y Mono.v fun a j h k e ⟨u, e'⟩ => by
    have e2 : a = .ref L := e
    subst e2 e'
    obtain ⟨vs, hL, pr⟩ := ml.at fun o e => k L o e
    obtain ⟨v, hv, hdv⟩ := paired_get pr hd
    refine ⟨"list", "list.__getitem__", fun s e => by subst e; exact hL.typeIs, slot_list_getitem.lookup, ⟨_, hs L u⟩, fun s Q E k q => ?_⟩
    exact wpAny_getItem_list (hL.at fun o e => k L o e) (by omega) (by omega) (by simpa using hv) (q v s.heap s.toks (fun _ _ e => e) hdv)

/-- o[i] op= value, the object a bytearray -/
theorem ex_augb {o i value : Expr} {pos' pos : Pos} {rest : List Stmt} {op : Operator} {L : Addr} {n : Nat} {c : Nat} {b : Int} {bs : Array UInt8} (F : Frm g0 env X Y ρ h) (ho : Ev prog w A h (eval o env) (isV (.ref L))) (hi : Ev prog w A h (eval i env) (isI n)) (hv : Ev prog w A h (eval value env) (isI b))
    (hop : ∀ t u h, Ev prog w A h (inplaceOp op (.int ((bs.getD n 0).toNat : Int) t) (.int b u)) (isI c)) (hcz : c < 256)
    (hX : X L) (hl : L ≠ env.locals) (hc : ∀ n c, env.cells.lookup n = some c → c ≠ L) (ml : IsBA h L bs) (hn : n < bs.size) (hz : bs.size ≤ 1000)
    (nx : ∀ h', KeepB (· = L) h h' → IsBA h' L (bs.setIfInBounds n c.toUInt8) → Frm g0 env X Y ρ h' → Ex prog w A Y' h' (execs rest env) P')
    (hau : ∀ ov iv new, augStore i ov iv new = (do holding [new, ov, iv] (setItem ov iv new); release [new, ov, iv] []; pure .next)) (hY : Y' L) : Ex prog w A Y' h (execs (.AugAssign (.Subscript o i pos') op value pos :: rest) env) P' := fun s Q E eq q => by
  subst eq
  refine wpAny_execs_cons (wpAny_AugAssign_SubscriptAny (ho.use fun ov h₁ tk₁ k₁ e₁ => hi _ _ E k₁ fun iv h₂ tk₂ k₂ ⟨u, e₂⟩ => ?_) hau)
  have e₁' : ov = .ref L := e₁
  subst e₁' e₂
  have kk := k₁.trans k₂
  refine ba_getItem (s := ⟨h₂, s.gens, s.drawn, tk₂, s.os⟩) (kk L _ ml) (by omega) (by omega) (by omega) fun t' tk₃ => ?_
  rw [Int.toNat_natCast]
  refine hv _ _ E kk fun v h₄ tk₄ k₄ ⟨u₄, e₄⟩ => ?_
  subst e₄
  refine hop _ _ h₄ ⟨h₄, s.gens, s.drawn, tk₄, s.os⟩ _ E (fun _ _ e => e) fun v₅ h₅ tk₅ k₅ ⟨u₅, e₅⟩ => ?_
  subst e₅
  have k5 := (kk.trans k₄).trans k₅
  refine ba_setItem (s := ⟨h₅, s.gens, s.drawn, tk₅, s.os⟩) (k5 L _ ml) (by omega) (by omega) (by omega) (by omega) (by omega) hz fun h' hb' hB => ?_
  have hb : But L h₅ h' := hB
  have lv : ∃ o, h'.get? L = some o := ⟨_, hb'⟩
  have kL : KeepB (· = L) s.heap h' := fun b o n e => hb b o n (k5 b o e)
  rw [Int.toNat_natCast, Int.toNat_natCast] at hb'
  exact nx h' kL hb' ((F.keep k5).one hX hl hc hb lv) ⟨h', s.gens, s.drawn, tk₅, s.os⟩ Q E rfl fun fl h'' tk' k' l' p' => q fl h'' tk' (fun b o n e => k' b o n (kL b o (fun z => n (z ▸ hY)) e)) ((k5.live.trans (live_same hb lv)).trans l') p'
end
end Mine

set_option maxRecDepth 100000
set_option linter.unusedVariables false
namespace Mine
open PySem PySem.W PySem.Calls PyProof.Rows

section
variable {prog : Program} {w : World} {A : Around} {K : Frag} {g0 h0 h h' : Heap} {mg mb : Str → Option Value} {env : Env} {X Y Y' : Addr → Prop} {ρ ρ₀ : List (Str × PV)} {x : Str} {v : Value} {P : PV} {P' : Flow → Heap → Prop}

theorem wp_execs_append {M : Model} {Γ : Ctx} (rest : List Stmt) {Q : Flow → Pos → Shared → Prop} {E : Value → Pos → Shared → Prop} : ∀ (pre : List Stmt) (p : Pos) (s : Shared),
    Sem.wp M Γ (execs pre env) (fun fl p s' => match fl with | .next => Sem.wp M Γ (execs rest env) Q E p s' | f => Q f p s') E p s → Sem.wp M Γ (execs (pre ++ rest) env) Q E p s
  | [], p, s, hw => by
    rw [execs_nil] at hw
    exact hw
  | st :: r, p, s, hw => by
    rw [execs_cons, Sem.wp_bind'] at hw
    rw [List.cons_append, execs_cons, Sem.wp_bind']
    refine Sem.wp_mono M Γ _ (fun fl p' s' h' => ?_) (fun _ _ _ z => z) p s hw
    cases fl with
    | next => exact wp_execs_append rest r p' s' h'
    | _ => exact h'

/-- as Ex, in the clean contexts -/
def ExC (prog : Program) (w : World) (A : Around) (Y : Addr → Prop) (h : Heap) (t : Sem Flow) (P : Flow → Heap → Prop) : Prop :=
  ∀ (s : Shared) (Q : Flow → Shared → Prop) (E : Value → Shared → Prop), s.heap = h → (∀ fl h' tk, KeepB Y h h' → Live h h' → P fl h' → Q fl { s with heap := h', toks := tk }) → wpC (model prog w) A t Q E s
theorem Ex.c {t : Sem Flow} (x : Ex prog w A Y h t P') : ExC prog w A Y h t P' := fun s Q E e q => wpC_of (x s Q E e q)
theorem exc_append {pre rest : List Stmt} {J : Heap → Prop} (x : Ex prog w A Y h (execs pre env) (fun fl h' => fl = .next ∧ J h')) (n : ∀ h', KeepB Y h h' → Live h h' → J h' → ExC prog w A Y h' (execs rest env) P') :
    ExC prog w A Y h (execs (pre ++ rest) env) P' := fun s Q E e q Γ p hΓ hc => by
  refine wp_execs_append rest pre p s ?_
  have z := x s (fun fl s' => match fl with | .next => ∀ p, Sem.wp (model prog w) Γ (execs rest env) (fun a _ s' => Q a s') (fun e _ s' => E e s') p s' | f => Q f s') E e (fun fl h' tk k l p => by
    obtain ⟨rfl, j⟩ := p
    intro p'
    exact n h' k l j ⟨h', s.gens, s.drawn, tk, s.os⟩ Q E rfl (fun fl h'' tk' k' l' p' => q fl h'' tk' (k.trans k') (l.trans l') p') Γ p' hΓ hc) Γ p hΓ
  refine Sem.wp_mono _ _ _ (fun fl p' s' h'' => ?_) (fun _ _ _ z => z) p s z
  cases fl with
  | next => exact h'' p'
  | _ => exact h''
theorem ExC.mono {t : Sem Flow} {P P' : Flow → Heap → Prop} (x : ExC prog w A Y h t P) (hP : ∀ fl h', KeepB Y h h' → P fl h' → P' fl h') : ExC prog w A Y h t P' :=
  fun s Q E e q => x s Q E e fun fl h' tk k l p => q fl h' tk k l (hP fl h' k p)

/-- as Ev, in the clean contexts -/
def EvC {α : Type} (prog : Program) (w : World) (A : Around) (h0 : Heap) (t : Sem α) (P : α → Heap → Prop) : Prop :=
  ∀ (s : Shared) (Q : α → Shared → Prop) (E : Value → Shared → Prop), Keep h0 s.heap →
    (∀ v h tk, Keep s.heap h → P v h → Q v { s with heap := h, toks := tk }) → wpC (model prog w) A t Q E s
theorem Ev.c {α : Type} {t : Sem α} {P : α → Heap → Prop} (x : Ev prog w A h0 t P) : EvC prog w A h0 t P := fun s Q E k q => wpC_of (x s Q E k q)
theorem EvC.mono {α : Type} {t : Sem α} {P P' : α → Heap → Prop} (x : EvC prog w A h0 t P) (hP : ∀ v h, Keep h0 h → P v h → P' v h) : EvC prog w A h0 t P' :=
  fun s Q E k' h => x s Q E k' fun v h' tk k p => h v h' tk k (hP v h' (k'.trans k) p)

theorem cmp_ltI {a b : Int} {v u : Value} (x : isI a v h) (y : isI b u h) : Ev prog w A h (compareOp .Lt v u) (isB (decide (a < b))) := fun s _ _ _ q => by
  obtain ⟨t, rfl⟩ := x; obtain ⟨t', rfl⟩ := y; exact PyProof.Rows.lt_int (q _ s.heap s.toks (fun _ _ e => e) rfl)

theorem paired_replicate {α β : Type} {F : α → β → Prop} {a : α} {b : β} (f : F a b) : ∀ n, Paired F (List.replicate n a) (List.replicate n b)
  | 0 => .nil
  | n + 1 => by rw [List.replicate_succ, List.replicate_succ]; exact .cons f (paired_replicate f n)
theorem fold_rep {v : Value} : ∀ (n : Nat) (a : Array Value), List.foldl (fun x1 x2 => x1 ++ x2) a (List.replicate n #[v]) = a ++ (List.replicate n v).toArray
  | 0, a => by simp
  | n + 1, a => by
    rw [List.replicate_succ, List.foldl_cons, fold_rep n]
    apply Array.toList_inj.mp
    simp [List.replicate_succ]
/-- a plain list of one value -/
def isP1 (d : S) : PV := fun v h => ∃ l u, v = .ref l ∧ h.PlainList l #[u] ∧ d.is u
theorem Mono.p1 {d : S} : Mono (isP1 d) := fun v h h' k ⟨l, u, a, b, c⟩ => ⟨l, u, a, b.at fun o e => k _ o e, c⟩
theorem ev_list1 {e : Expr} {pos : Pos} {d : S} (x : Ev prog w A h0 (eval e env) (isD d)) (he : starEach [e] env = [(false, eval e env)]) : Ev prog w A h0 (eval (.List [e] pos) env) (isP1 d) := fun s Q E k q =>
  wpAny_List (ev_args1 (P₁ := isD d) x (fun _ _ _ _ p => p) he s _ E k fun vs h₁ tk₁ k₁ ⟨v, e, p⟩ => ⟨by subst e; show (1 : Nat) ≤ sizeLine; decide, q _ _ _ (k₁.trans keep_push) ⟨_, v, rfl, ⟨_, by subst e; exact Heap.get?_push_size _ rfl⟩, p⟩⟩)
theorem mul_its {l : Addr} {items : Array Value} {k : Nat} {x : Int} {u : Tok} {s : Shared} {E : Value → Shared → Prop} {Q : Value → Shared → Prop}
    (hl : s.heap.get? l = some { cls := .type "list", dict := none, data := .seq items k, slots := #[] }) (hlo : 0 ≤ x) (hhi : x < 2 ^ 63) (hsz : items.size * x.toNat ≤ 2 ^ 24)
    (h : Q (.ref s.heap.objs.size) { s with heap := s.heap.push { cls := .type "list", data := .seq (List.foldl (fun x1 x2 => x1 ++ x2) #[] (List.replicate (if items.isEmpty = true then 0 else x.toNat) items)) } }) :
    wpAny (model prog w) A (binaryOp .Mult (.ref l) (.int x u)) Q E s :=
  wpAny_binaryOp_repeat_ref (T := "list") (U := "int") (by decide) ⟨_, hl, rfl⟩ (fun s' => typeIs_int s' x u) noFill_list_mul PySem.F.fills_int_mul PySem.F.slot_int_rmul repeat_list PySem.F.slot_int_index.lookup
    (call_meets PySem.F.slot_int_rmul (typeIs_int s x u) PySem.F.entry_int_rmul (PySem.F.args_int_rmul_2 _ _) (int___rmul___int_list x u l items k)
      ⟨hl, rfl, ⟨_, hl, rfl⟩, call_meets PySem.F.slot_list_mul ⟨_, hl, rfl⟩ PySem.F.entry_list_mul (PySem.F.args_list_mul_2 _ _)
        (AutoListH.list___mul___list_int_3 l items k x u (by simp [Builtin.List.listFitsIndex]; omega) (by omega) (by simp [Builtin.List.listTooLong, sizeLine]; omega))
        ⟨hl, h⟩⟩)
theorem its_one {y : Value} {n : Nat} : (List.foldl (fun x1 x2 => x1 ++ x2) #[] (List.replicate (if (#[y] : Array Value).isEmpty = true then 0 else ((n : Int)).toNat) #[y])) = (List.replicate n y).toArray := by
  rw [fold_rep, if_neg (by simp), Int.toNat_natCast]
  simp
/-- one value, n times over -/
theorem mul_one {d : S} {v : Value} {n : Nat} {u : Tok} (p : isP1 d v h) (hn : n ≤ 5000) :
    Ev prog w A h (binaryOp .Mult v (.int n u)) (fun v h' => ∃ L, v = .ref L ∧ h.get? L = none ∧ (∃ o, h'.get? L = some o) ∧ ML L (List.replicate n d) h') := fun s Q E k q => by
  obtain ⟨l, y, rfl, ⟨m, ho⟩, hd⟩ := p
  have hl := k _ _ ho
  have hs1 : (n : Int) < 2 ^ 63 := by omega
  have hs2 : (#[y] : Array Value).size * ((n : Int)).toNat ≤ 2 ^ 24 := by
    rw [Int.toNat_natCast, show (#[y] : Array Value).size = 1 from rfl, Nat.one_mul]
    omega
  refine mul_its hl (by omega) hs1 hs2 ?_
  rw [its_one]
  refine q _ _ s.toks keep_push ⟨_, rfl, ?_, ⟨_, Heap.get?_push_size _ rfl⟩, (List.replicate n y).toArray, Heap.PlainList.isList ⟨0, Heap.get?_push_size _ rfl⟩, paired_replicate hd n⟩
  exact none_of_keep k (Heap.get?_none_of_le (Nat.le_refl _))

/-- a new object that may be changed, stored under a name -/
theorem ex_new {px pos : Pos} {e : Expr} {rest : List Stmt} {PL : Addr → Heap → Prop} (F : Frm g0 env X Y ρ h) (he : Ev prog w A h (eval e env) (fun v h' => ∃ L, v = .ref L ∧ h.get? L = none ∧ (∃ o, h'.get? L = some o) ∧ PL L h'))
    (hPL : ∀ L h h', (∀ o, h.get? L = some o → h'.get? L = some o) → PL L h → PL L h') (ρ' : Addr → List (Str × PV))
    (hr : ∀ L, h.get? L = none → ∀ q ∈ ρ' L, q = (x, isV (.ref L)) ∨ (q.1 ≠ x ∧ Stable (fun a => X a ∨ a = L) q.2 ∧ ∃ P, (q.1, P) ∈ ρ ∧ ∀ v, P v h → q.2 v h))
    (n : ∀ L h', h.get? L = none → KeepB Y h h' → PL L h' → Frm g0 env (fun a => X a ∨ a = L) Y (ρ' L) h' → Ex prog w A (fun a => Y' a ∨ a = L) h' (execs rest env) P')
    (hk : Loc env x) (hd : (x == ("__debug__" : Str)) = false) (hsw : swapsWith e (some (.Name x px)) pos.line env = pure false) (hY : ∀ a, Y a → Y' a) : Ex prog w A Y' h (execs (.Assign [.Name x px] e pos :: rest) env) P' := fun s Q E eq q => by
  subst eq
  refine wpAny_execs_cons (wpAny_Assign_Name (he.use fun v h₁ tk k p => ?_) hsw)
  obtain ⟨L, rfl, hL, hLo, pl⟩ := p
  have F₁ : Frm g0 env (fun a => X a ∨ a = L) Y ((ρ' L).filter (fun q => q.1 ≠ x)) h₁ := F.grow k (fun a z => .inl z) (fun a z => z.elim (F.away a) fun z => z ▸ none_of_keep F.base hL) (fun a z => z.elim (fun z => let ⟨o, e⟩ := F.live a z; ⟨o, k a o e⟩) fun z => z ▸ hLo) fun p hp => by
    obtain ⟨hp, hne⟩ := List.mem_filter.mp hp
    rcases hr L hL p hp with e | ⟨_, st, P, m, i⟩
    · rw [e] at hne; simp at hne
    · exact ⟨st, P, m, i⟩
  refine store_any (s := ⟨h₁, s.gens, s.drawn, tk, s.os⟩) (P := isV (.ref L)) (ρ' := ρ' L) F₁ hd hk Stable.v rfl (fun q hq => ?_) fun h₂ tk₂ k₂ l₂ F₂ => ?_
  · rcases hr L hL q hq with e | ⟨hne, _⟩
    · exact .inl e
    · exact .inr ⟨List.mem_filter.mpr ⟨hq, by simpa using hne⟩, hne⟩
  · have hLY : ¬ Y L := fun z => by
      obtain ⟨o, e⟩ := F.live L (F.sub L z)
      rw [hL] at e; cases e
    refine n L h₂ hL (k.b.trans k₂) (hPL L h₁ h₂ (fun o e => k₂ L o hLY e) pl) F₂ ⟨h₂, s.gens, s.drawn, tk₂, s.os⟩ Q E rfl fun fl h₃ tk₃ k₃ l₃ p₃ => q fl h₃ tk₃ (fun b o nb e => ?_) ((k.live.trans l₂).trans l₃) p₃
    exact k₃ b o (fun z => z.elim nb fun z => by rw [z, hL] at e; cases e) (k₂ b o (fun z => nb (hY b z)) (k b o e))
end
end Mine

set_option maxRecDepth 100000
set_option linter.unusedVariables false
namespace Mine
open PySem PySem.W PySem.Calls PyProof.Rows

section
variable {M : Model} {A : Around} {E : Value → Shared → Prop} {s : Shared} {env : Env}
theorem wpC_keep {α : Type} {vs : List Value} {m : Sem α} {Q : α → Shared → Prop} (h : wpC M A m Q E s) : wpC M A (m.keep vs) Q E s :=
  fun Γ p hΓ hc => by rw [Sem.wp_keep]; exact h Γ p hΓ hc
theorem wpC_bindName {x : Str} {v : Value} {Q : Unit → Shared → Prop} (h : wpC M A (storeName env x v) Q E s) : wpC M A (bindName env x v) Q E s :=
  fun Γ p hΓ hc => by rw [Sem.wp_bindName]; exact h Γ p hΓ hc
theorem wpC_execs_cons {st rest} {Q : Flow → Shared → Prop}
    (h : wpC M A (exec st env) (fun f s' => match f with | .next => wpC M A (execs rest env) Q E s' | f => Q f s') E s) :
    wpC M A (execs (st :: rest) env) Q E s := fun Γ p hΓ hc => by
  rw [execs_cons, Sem.wp_bind']
  refine Sem.wp_mono M Γ _ (fun f p' s' h' => ?_) (fun _ _ _ h' => h') _ _ (h Γ p hΓ hc)
  cases f <;> first | exact h' Γ p' hΓ hc | exact h'
theorem wpC_execs_nil {Q : Flow → Shared → Prop} (h : Q .next s) : wpC M A (execs [] env) Q E s := fun _ _ _ _ => h
theorem wpC_Assign_Name {x pos' value pos} {Q : Flow → Shared → Prop}
    (h : wpC M A (eval value env) (fun v s₁ => wpAny M A (storeName env x v) (fun _ => Q .next) E s₁) E s)
    (hs : swapsWith value (some (.Name x pos')) pos.line env = pure false := by rfl) :
    wpC M A (exec (.Assign [.Name x pos'] value pos) env) Q E s := fun Γ p hΓ hc => by
  simp only [exec_Assign_Name env x pos' value pos hs, Sem.wp_bind', Sem.wp_cmd_standAt, Sem.wp_bindName, Sem.wp_pure']
  exact Sem.wp_mono M Γ _ (fun v _ s₁ h₁ => h₁ Γ _ hΓ) (fun _ _ _ h' => h') _ _ (h Γ _ hΓ hc)
theorem wpC_If {test body orelse pos} {Q : Flow → Shared → Prop}
    (h : wpC M A (isTrue test env (eval test env))
      (fun b s₂ => if b then wpC M A (execs body env) Q E s₂ else wpC M A (execs orelse env) Q E s₂) E s) :
    wpC M A (exec (.If test body orelse pos) env) Q E s := fun Γ p hΓ hc => by
  simp only [exec_If, Sem.wp_bind', Sem.wp_cmd_standAt]
  refine Sem.wp_mono M Γ _ (fun b p₂ s₂ h₂ => ?_) (fun _ _ _ h' => h') _ _ (h Γ _ hΓ hc)
  cases b <;> exact h₂ Γ p₂ hΓ hc
theorem wpC_Return_some {e pos} {Q : Flow → Shared → Prop} (h : wpC M A (eval e env) (fun v => Q (.ret v)) E s) :
    wpC M A (exec (.Return (some e) pos) env) Q E s := fun Γ p hΓ hc => by
  simp only [exec_Return_some, Sem.wp_bind', Sem.wp_cmd_standAt, Sem.wp_pure']; exact h Γ _ hΓ hc
theorem wpC_Compare1 {l op r pos} {Q : Value → Shared → Prop}
    (h : wpC M A (eval l env) (fun a s₁ => wpAny M A (eval r env) (fun b s₂ => wpAny M A (compareOp op a b) Q E s₂) E s₁) E s)
    (hm : behindInMarks op r = false) :
    wpC M A (eval (.Compare l [op] [r] pos) env) Q E s := fun Γ p hΓ hc => by
  simp only [eval_Compare1, markedBehindIn_of_false hm, Sem.wp_bind', Sem.wp_holding, Sem.wp_cmd_standAt, Sem.wp_operate]
  exact Sem.wp_mono M Γ _ (fun a p₁ s₁ h₁ => Sem.wp_mono M Γ _ (fun b _ s₂ h₂ => h₂ Γ _ hΓ) (fun _ _ _ h' => h') _ _ (h₁ Γ p₁ hΓ))
    (fun _ _ _ h' => h') _ _ (h Γ p hΓ hc)
theorem wpC_isTrue_Compare1 {l op r pos whole} {Q : Bool → Shared → Prop}
    (h : wpC M A (eval l env) (fun a s₁ => wpAny M A (eval r env) (fun b s₂ => wpAny M A (compareOp op a b)
      (fun c s₃ => wpAny M A (truthy c) Q E s₃) E s₂) E s₁) E s)
    (hm : behindInMarks op r = false) : wpC M A (isTrue (.Compare l [op] [r] pos) env whole) Q E s := fun Γ p hΓ hc => by
  simp only [isTrue_Compare1, markedBehindIn_of_false hm, Sem.wp_bind', Sem.wp_holding, Sem.wp_cmd_standAt, Sem.wp_operate]
  exact Sem.wp_mono M Γ _ (fun a p₁ s₁ h₁ => Sem.wp_mono M Γ _ (fun b _ s₂ h₂ => Sem.wp_mono M Γ _ (fun c p₃ s₃ h₃ => h₃ Γ p₃ hΓ)
    (fun _ _ _ h' => h') _ _ (h₂ Γ _ hΓ)) (fun _ _ _ h' => h') _ _ (h₁ Γ p₁ hΓ)) (fun _ _ _ h' => h') _ _ (h Γ p hΓ hc)
theorem wpC_And2 {x y : Expr} {pos : Pos} {Q : Value → Shared → Prop}
    (h : wpAny M A (eval x env) (fun v s₁ => wpAny M A (truthy v) (fun t s₂ => if t then wpC M A (eval y env) Q E s₂ else Q v s₂) E s₁) E s) :
    wpC M A (eval (.BoolOp .And [x, y] pos) env) Q E s := by
  show wpC M A (do
    let v ← eval x env
    standAt pos
    let t ← holding [v] (truthy v)
    match BoolOp.And, t with
    | .And, false | .Or, true => pure v
    | _, _ => boolOp pos .And [eval y env]) Q E s
  refine wpC_bindA (wpAny_mono h (fun v s₁ h₁ => wpC_bindA (wpAny_standAt (wpC_bindA (wpAny_holding (wpAny_mono h₁ (fun t s₂ h₂ => ?_) fun _ _ x => x))))) fun _ _ x => x)
  cases t with
  | false => exact wpC_pure h₂
  | true => exact h₂
theorem wpC_isTrue_Or2 {x y : Expr} {pos : Pos} {whole} {Q : Bool → Shared → Prop}
    (h : wpAny M A (isTrue x env (eval x env)) (fun t s₂ => if t then Q true s₂ else wpC M A (isTrue y env (eval y env)) Q E s₂) E s) :
    wpC M A (isTrue (.BoolOp .Or [x, y] pos) env whole) Q E s := by
  rw [arm_isTrue_BoolOp]
  show wpC M A (do
    match BoolOp.Or, ← isTrue x env (eval x env) with
    | .And, false => pure false
    | .Or, true => pure true
    | _, _ => allTrue .Or [y] env) Q E s
  refine wpC_bindA (wpAny_mono h (fun t s₂ h₂ => ?_) fun _ _ x => x)
  cases t with
  | true => exact wpC_pure h₂
  | false =>
    show wpC M A (do
      match BoolOp.Or, ← isTrue y env (eval y env) with
      | .And, false => pure false
      | .Or, true => pure true
      | _, _ => allTrue .Or [] env) Q E s₂
    refine wpC_bind (wpC_mono h₂ (fun t s₃ h₃ => ?_) fun _ _ x => x)
    cases t <;> exact wpC_pure h₃
theorem wpC_items1 {pos : Pos} {e : Expr} {Q : List Value → Shared → Prop}
    (h : wpC M A (eval e env) (fun v s₁ => Q [v] s₁) E s)
    (he : starEach [e] env = [(false, eval e env)]) : wpC M A (spliced (backTo pos (starEach [e] env))) Q E s := by
  rw [he]
  show wpC M A (do
    let v ← eval e env
    let here ← (pure [v] : Sem (List Value))
    return here ++ (← holding here (spliced (backTo pos [])))) Q E s
  exact wpC_bind (wpC_mono h (fun v s₁ h₁ => wpC_bindA (wpAny_pure (wpC_bindA (wpAny_holding (wpAny_pure (wpC_pure h₁)))))) fun _ _ x => x)
theorem wpC_evalArgs_plain {f : Value} {x : Sem Value} {rest : List (Bool × Sem Value)} {Q : Args → Shared → Prop}
    (h : wpC M A (spliced ((false, x) :: rest)) (fun vs s' => Q ⟨vs, []⟩ s') E s) : wpC M A (evalArgs f true ((false, x) :: rest) []) Q E s := by
  unfold evalArgs
  show wpC M A (spliced ((false, x) :: rest) >>= _) Q E s
  refine wpC_bind (wpC_mono h (fun vs s' h' => ?_) fun _ _ x => x)
  refine wpC_holding ?_
  exact wpC_bindA (wpAny_pure (wpC_bindA (wpAny_pure (wpC_pure h'))))
theorem wpC_callWith_type {pos : Pos} {T : String} {first : List Value} {args : List (Bool × Sem Value)} {Q : Value → Shared → Prop} (hplain : args.any (·.1) = false)
    (h : wpC M A (evalArgs (.type T) true args []) (fun a s₁ => wpC M A (call (.type T) (first ++ a.pos) a.kw) Q E s₁) E s) :
    wpC M A (callWith pos (.type T) first args []) Q E s := by
  unfold callWith
  refine wpC_bind (wpC_holding (wpC_mono h (fun a s₁ h₁ => wpC_bindA (wpAny_standAt ?_)) fun _ _ x => x))
  simp only [hplain, List.any_nil, Bool.or_false]
  refine wpC_bindA (wpAny_pure ?_)
  exact wpC_bind (wpC_mono h₁ (fun r s₂ hr => wpC_bindA (wpAny_holding (wpAny_point (wpC_pure hr)))) fun _ _ x => x)
theorem wpC_callWith_of {f : Value} {pos : Pos} {first : List Value} {Q : Value → Shared → Prop} {P : Heap → Prop} {args : List (Bool × Sem Value)} {keywords : List (Option Str × Sem Value)} (hplain : (args.any (·.1) || keywords.any (·.1.isNone)) = false)
    (hk : ∀ h, P h → ∃ k, (k = Keeper.frame ∨ k = Keeper.machine ∨ k = Keeper.boundFrame) ∧ Looks M h (keeperOf f) k)
    (h : wpC M A (evalArgs f true args keywords) (fun a s₁ => P s₁.heap ∧ wpC M A (call f (first ++ a.pos) a.kw) Q E s₁) E s) : wpC M A (callWith pos f first args keywords) Q E s := by
  unfold callWith
  refine wpC_bind (wpC_holding (wpC_mono h (fun a s₁ h₁ => wpC_bindA (wpAny_standAt ?_)) fun _ _ x => x))
  obtain ⟨k, hk', L⟩ := hk _ h₁.1
  simp only [hplain]
  refine wpC_bindA (L.here ?_)
  have tail : ∀ {t : Sem Value}, wpC M A t Q E s₁ → wpC M A (t >>= fun r => holding [r] point >>= fun _ => pure r) Q E s₁ :=
    fun ht => wpC_bind (wpC_mono ht (fun r s₂ hr => wpC_bindA (wpAny_holding (wpAny_point (wpC_pure hr)))) fun _ _ x => x)
  have marked (mk : Value) : wpC M A (callMarked mk f (first ++ a.pos) a.kw) Q E s₁ := by unfold callMarked; exact wpC_keep h₁.2
  rcases hk' with rfl | rfl | rfl <;> dsimp only <;> first | exact tail h₁.2 | (split <;> first | exact tail h₁.2 | exact tail (marked _))
theorem wpC_Call_Name {id : Str} {p pos : Pos} {args : List Expr} {Q : Value → Shared → Prop}
    (h : wpAny M A (eval (.Name id p) env) (fun f s₁ => wpC M A (callWith pos f [] (backTo pos (starEach args env)) []) Q E s₁) E s) :
    wpC M A (eval (.Call (.Name id p) args [] pos) env) Q E s := by
  rw [arm_eval_Call_Name']
  exact wpC_bindA h
end

section
variable {prog : Program} {w : World} {A : Around} {R : Result → Shared → Prop} {s : Shared}
theorem codeC_func {body env} (h : wpC (model prog w) (A.deeper env) (execs body env) (fun f s' => R (.ok (.ret (match f with | .ret v => v | _ => .none))) s')
      (fun e s' => wpAny (model prog w) (A.deeper env) (leaving env e) (fun _ s'' => R (.error e) s'') (fun e' s'' => R (.error e') s'') s') s) :
    codeC (model prog w) A (.func body env) R s := by
  refine codeC_of_tree ?_
  show wpC _ (A.deeper env) (do point; match ← (execs body env).onRaise (leaving env) with | .ret v => ret v | _ => ret .none) _ _ s
  refine wpC_bindA (wpAny_point (wpC_bind (wpC_onRaise (wpC_mono h (fun f s' h' => ?_) fun _ _ h' => ?_))))
  · cases f <;> exact wpC_pure h'
  · exact h'
theorem codeC_call_function {a : Addr} {args : Args} {o : Obj} {fd : FuncData} {body : List Stmt} (hroom : A.depth < recursionLimit)
    (ho : s.heap.get? a = some o)
    (hd' : o.data = .func fd) (hco : fd.scope.isCoroutine = false) (hgen : fd.scope.isGenerator = false) (hbody : fd.body = .stmts body) (hcd : s.heap.CodeRec fd.code fd.qualname)
    (h : wpAny (model prog w) A.in1 (bindArgs fd args) (fun binds s₁ =>
      wpAny (model prog w) A.in1 (newFunctionEnv fd.scope fd.globals fd.closure binds (fd.qualname ++ ".<locals>.") (some a) fd.code none fd.builtins)
        (fun env s₂ => s₂.heap.NoLimit ∧ codeC (model prog w) A (.func body env) R s₂) (fun e s' => R (.error e) s') s₁) (fun e s' => R (.error e) s') s) :
    codeC (model prog w) A (.call (.ref a) args) R s := by
  refine codeC_of_tree ?_
  show wpC _ A.in1 (callAny (.ref a) args) _ _ s
  simp only [callAny]
  refine wpC_bindA (wpAny_load ho ?_)
  obtain ⟨c, oc, vs, tq, hc, hoc, hdc, hq⟩ := hcd
  simp only [hd', callFunction, hco, hgen, hbody, hc]
  rw [hc] at h
  refine wpC_bindA (m := field (.ref c) 1) (wpAny_field hoc hdc hq (wpC_bindA (wpAny_pure ?_)))
  exact wpC_bindA (wpAny_mono h (fun binds s₁ h₁ => wpC_bindA (wpAny_mono h₁ (fun env s₂ h₂ => wpC_bindA (wpAny_enterFrame h₂.1 hroom
    (wpC_pure (And.intro rfl (And.intro rfl h₂.2))))) fun _ _ h' => h')) fun _ _ h' => h')
end
end Mine

set_option maxRecDepth 100000
set_option linter.unusedVariables false
namespace Mine
open PySem PySem.W PySem.Calls PyProof.Rows

section
variable {prog : Program} {w : World} {A : Around} {K : Frag} {g0 h0 h h' : Heap} {mg mb : Str → Option Value} {env : Env} {X Y Y' Z : Addr → Prop} {ρ ρ₀ : List (Str × PV)} {x : Str} {v : Value} {P P₁ P₂ : PV} {P' : Flow → Heap → Prop}

theorem EvC.base {α : Type} {t : Sem α} {P : α → Heap → Prop} (x : EvC prog w A h0 t P) (k : Keep h0 h) : EvC prog w A h t P :=
  fun s Q E k' q => x s Q E (k.trans k') q
/-- one argument -/
theorem evc_args1 {pos : Pos} {e : Expr} (x : EvC prog w A h0 (eval e env) P₁) (he : starEach [e] env = [(false, eval e env)]) :
    EvC prog w A h0 (spliced (backTo pos (starEach [e] env))) (fun vs h => ∃ v, vs = [v] ∧ P₁ v h) := fun s Q E k q =>
  wpC_items1 (x s _ E k fun v h tk k' p => q [v] h tk k' ⟨v, rfl, p⟩) he
/-- a call of a built-in type by its name -/
theorem evc_T {id : Str} {p pos : Pos} {T : String} {e : Expr} {PL : List Value → Heap → Prop} (hf : Ev prog w A h0 (eval (.Name id p) env) (isV (.type T)))
    (x : EvC prog w A h0 (spliced (backTo pos (starEach [e] env))) PL)
    (o : ∀ vs h, Keep h0 h → PL vs h → EvC prog w A h (call (.type T) vs) P) (he : starEach [e] env = [(false, eval e env)]) :
    EvC prog w A h0 (eval (.Call (.Name id p) [e] [] pos) env) P := fun s Q E k q =>
  wpC_Call_Name (hf s _ E k fun fv h₁ tk k₁ ef => by
    have ef' : fv = .type T := ef
    subst ef'
    rw [he] at x ⊢
    exact wpC_callWith_type rfl (wpC_evalArgs_plain (x ⟨h₁, s.gens, s.drawn, tk, s.os⟩ _ E (k.trans k₁) fun vs h₂ tk₂ k₂ p =>
      o vs h₂ ((k.trans k₁).trans k₂) p ⟨h₂, s.gens, s.drawn, tk₂, s.os⟩ Q E (fun _ _ e => e) fun v h₃ tk₃ k₃ p₃ => q v h₃ tk₃ (k₁.trans (k₂.trans k₃)) p₃)))
/-- a call through an attribute -/
theorem evc_attrCall {o : Expr} {name : Str} {apos pos : Pos} {args : List Expr} {kws : List Keyword} {pl : Sem Bool} {PM : Value × List Value → Heap → Prop} (x : Ev prog w A h0 (eval o env) P₁) (gm : ∀ v h, Keep h0 h → P₁ v h → Ev prog w A h (getMethod v name pl) PM)
    (cw : ∀ fx h, Keep h0 h → PM fx h → EvC prog w A h (callWith pos fx.1 fx.2 (backTo pos (starEach args env)) (backToKw pos (keywordEach kws env))) P)
    (he : eval (.Call (.Attribute o name apos) args kws pos) env = (do let ov ← eval o env; standAt apos.atName; let (f, first) ← holding [ov] (getMethod ov name pl); callWith pos f first (backTo pos (starEach args env)) (backToKw pos (keywordEach kws env)))) :
    EvC prog w A h0 (eval (.Call (.Attribute o name apos) args kws pos) env) P := fun s Q E k q => by
  rw [he]
  refine wpC_bindA (x s _ E k fun v h₁ tk₁ k₁ p => wpC_bindA (wpAny_standAt (wpC_bindA (wpAny_holding (gm v h₁ (k.trans k₁) p ⟨h₁, s.gens, s.drawn, tk₁, s.os⟩ _ E (fun _ _ e => e) fun fx h₂ tk₂ k₂ p₂ => ?_)))))
  exact cw fx h₂ ((k.trans k₁).trans k₂) p₂ ⟨h₂, s.gens, s.drawn, tk₂, s.os⟩ Q E (fun _ _ e => e) fun u h₃ tk₃ k₃ p₃ => q u h₃ tk₃ (k₁.trans (k₂.trans k₃)) p₃
theorem cwC_K {pos : Pos} {fa : Addr} {first : List Value} {e : Expr} {rest : List Expr} {PL : List Value → Heap → Prop} (W : Wd K g0 mg mb) (b : Keep g0 h0) (hk : keepIn K (.ref fa) = true) (y : Ev prog w A h0 (spliced (backTo pos (starEach (e :: rest) env))) PL)
    (oo : ∀ vs h, Keep h0 h → PL vs h → EvC prog w A h (call (.ref fa) (first ++ vs)) P) (hse : starEach (e :: rest) env = (false, eval e env) :: starEach rest env) (ha : (backTo pos (starEach rest env)).any (·.1) = false)
    {kws : List (Option Str × Sem Value)} (hkw : kws = []) : EvC prog w A h0 (callWith pos (.ref fa) first (backTo pos (starEach (e :: rest) env)) kws) P := fun s Q E k q => by
  subst hkw
  rw [hse] at y ⊢
  refine wpC_callWith_of (P := fun h => K.In h) (by show ((false || (backTo pos (starEach rest env)).any (·.1)) || false) = false; rw [ha]; rfl) (keeps_K hk) (wpC_evalArgs_plain (wpC_of (y s _ E k fun vs h₁ tk₁ k₁ p => ?_)))
  exact ⟨W.kin.keeps (b.trans (k.trans k₁)), oo vs h₁ (k.trans k₁) p ⟨h₁, s.gens, s.drawn, tk₁, s.os⟩ Q E (fun _ _ e => e) fun u h₃ tk₃ k₃ p₃ => q u h₃ tk₃ (k₁.trans k₃) p₃⟩

/-- comparisons and tests -/
theorem evc_cmp {l r : Expr} {op : CmpOp} {pos : Pos} (x : EvC prog w A h0 (eval l env) P₁) (y : Ev prog w A h0 (eval r env) P₂) (m : Mono P₁)
    (o : ∀ a b h, Keep h0 h → P₁ a h → P₂ b h → Ev prog w A h (compareOp op a b) P) (hm : behindInMarks op r = false) : EvC prog w A h0 (eval (.Compare l [op] [r] pos) env) P := fun s Q E k q =>
  wpC_Compare1 (x s _ E k fun a h₁ tk k₁ p => y _ _ E (k.trans k₁) fun b h₂ tk₂ k₂ p₂ =>
    o a b h₂ ((k.trans k₁).trans k₂) (m _ _ _ k₂ p) p₂ ⟨h₂, s.gens, s.drawn, tk₂, s.os⟩ Q E (fun _ _ e => e) fun v h₃ tk₃ k₃ p₃ => q v h₃ tk₃ (k₁.trans (k₂.trans k₃)) p₃) hm
theorem evc_cmpT {l r : Expr} {op : CmpOp} {pos : Pos} {b : Bool} {whole} (x : EvC prog w A h0 (eval l env) P₁) (y : Ev prog w A h0 (eval r env) P₂) (m : Mono P₁)
    (o : ∀ a b' h, Keep h0 h → P₁ a h → P₂ b' h → Ev prog w A h (compareOp op a b') (isB b)) (hm : behindInMarks op r = false) : EvC prog w A h0 (isTrue (.Compare l [op] [r] pos) env whole) (fun c _ => c = b) := fun s Q E k q =>
  wpC_isTrue_Compare1 (x s _ E k fun a h₁ tk k₁ p => y _ _ E (k.trans k₁) fun b h₂ tk₂ k₂ p₂ =>
    o a b h₂ ((k.trans k₁).trans k₂) (m _ _ _ k₂ p) p₂ ⟨h₂, s.gens, s.drawn, tk₂, s.os⟩ _ E (fun _ _ e => e) fun v h₃ tk₃ k₃ p₃ => by
      have p₄ : v = .bool _ := p₃
      subst p₄
      exact wpAny_truthy_bool (q _ h₃ tk₃ (k₁.trans (k₂.trans k₃)) rfl)) hm
theorem evc_or {a b : Expr} {pos : Pos} {whole} {c : Bool} (x : Ev prog w A h0 (isTrue a env (eval a env)) (fun c _ => c = false)) (y : EvC prog w A h0 (isTrue b env (eval b env)) (fun d _ => d = c)) :
    EvC prog w A h0 (isTrue (.BoolOp .Or [a, b] pos) env whole) (fun d _ => d = c) := fun s Q E k q =>
  wpC_isTrue_Or2 (x s _ E k fun t h₁ tk k₁ e => by
    subst e
    exact y ⟨h₁, s.gens, s.drawn, tk, s.os⟩ Q E (k.trans k₁) fun v h₂ tk₂ k₂ p₂ => q v h₂ tk₂ (k₁.trans k₂) p₂)
theorem evc_and {a b : Expr} {pos : Pos} (x : Ev prog w A h0 (eval a env) P₁) (o : ∀ v h, Keep h0 h → P₁ v h → Ev prog w A h (truthy v) (fun c _ => c = true)) (y : EvC prog w A h0 (eval b env) P) :
    EvC prog w A h0 (eval (.BoolOp .And [a, b] pos) env) P := fun s Q E k q =>
  wpC_And2 (x s _ E k fun v h₁ tk k₁ p => o v h₁ (k.trans k₁) p ⟨h₁, s.gens, s.drawn, tk, s.os⟩ _ E (fun _ _ e => e) fun t h₂ tk₂ k₂ e => by
    subst e
    exact y ⟨h₂, s.gens, s.drawn, tk₂, s.os⟩ Q E ((k.trans k₁).trans k₂) fun v h₃ tk₃ k₃ p₃ => q v h₃ tk₃ (k₁.trans (k₂.trans k₃)) p₃)

/-- statements -/
theorem exc_return {pos : Pos} {e : Expr} {rest : List Stmt} (he : EvC prog w A h (eval e env) P) (p : ∀ v h', Keep h h' → P v h' → P' (.ret v) h') :
    ExC prog w A Y h (execs (.Return (some e) pos :: rest) env) P' := fun s Q E eq q => by
  subst eq
  exact wpC_execs_cons (wpC_Return_some (he s _ E (fun _ _ e => e) fun v h₁ tk k z => q _ h₁ tk k.b k.live (p v h₁ k z)))
theorem exc_skip {test : Expr} {body rest : List Stmt} {pos : Pos} (he : EvC prog w A h (isTrue test env (eval test env)) (fun c _ => c = false))
    (n : ∀ h', Keep h h' → ExC prog w A Y h' (execs rest env) P') : ExC prog w A Y h (execs (.If test body [] pos :: rest) env) P' := fun s Q E eq q => by
  subst eq
  refine wpC_execs_cons (wpC_If (he s _ E (fun _ _ e => e) fun c h₁ tk k z => ?_))
  subst z
  exact wpC_execs_nil (n h₁ k ⟨h₁, s.gens, s.drawn, tk, s.os⟩ Q E rfl fun fl h₂ tk₂ k₂ l₂ p₂ => q fl h₂ tk₂ (k.b.trans k₂) (k.live.trans l₂) p₂)
/-- an if that ends the run where it is true -/
theorem exc_ifret {test : Expr} {body rest : List Stmt} {pos : Pos} (b : Bool) (he : Ev prog w A h (isTrue test env (eval test env)) (fun c _ => c = b))
    (y : b = true → ∀ h', Keep h h' → ExC prog w A Y h' (execs body env) (fun fl h'' => fl ≠ .next ∧ P' fl h''))
    (n : b = false → ∀ h', Keep h h' → ExC prog w A Y h' (execs rest env) P') : ExC prog w A Y h (execs (.If test body [] pos :: rest) env) P' := fun s Q E eq q => by
  subst eq
  refine wpC_execs_cons (wpC_If (wpC_of (he.use fun c h₁ tk k z => ?_)))
  subst z
  cases c with
  | false => exact wpC_execs_nil (n rfl h₁ k ⟨h₁, s.gens, s.drawn, tk, s.os⟩ Q E rfl fun fl h₂ tk₂ k₂ l₂ p₂ => q fl h₂ tk₂ (k.b.trans k₂) (k.live.trans l₂) p₂)
  | true =>
    refine y rfl h₁ k ⟨h₁, s.gens, s.drawn, tk, s.os⟩ _ E rfl fun fl h₂ tk₂ k₂ l₂ p₂ => ?_
    have z := q fl h₂ tk₂ (k.b.trans k₂) (k.live.trans l₂) p₂.2
    cases fl with
    | next => exact absurd rfl p₂.1
    | _ => exact z
/-- a new object that may be changed, stored under a name; made in a clean context -/
theorem exc_new {px pos : Pos} {e : Expr} {rest : List Stmt} {PL : Addr → Heap → Prop} (F : Frm g0 env X Y ρ h) (he : EvC prog w A h (eval e env) (fun v h' => ∃ L, v = .ref L ∧ h.get? L = none ∧ (∃ o, h'.get? L = some o) ∧ PL L h'))
    (hPL : ∀ L h h', (∀ o, h.get? L = some o → h'.get? L = some o) → PL L h → PL L h') (ρ' : Addr → List (Str × PV))
    (hr : ∀ L, h.get? L = none → ∀ q ∈ ρ' L, q = (x, isV (.ref L)) ∨ (q.1 ≠ x ∧ Stable (fun a => X a ∨ a = L) q.2 ∧ ∃ P, (q.1, P) ∈ ρ ∧ ∀ v, P v h → q.2 v h))
    (n : ∀ L h', h.get? L = none → KeepB Y h h' → PL L h' → Frm g0 env (fun a => X a ∨ a = L) Y (ρ' L) h' → ExC prog w A (fun a => Y' a ∨ a = L) h' (execs rest env) P')
    (hk : Loc env x) (hd : (x == ("__debug__" : Str)) = false) (hsw : swapsWith e (some (.Name x px)) pos.line env = pure false) (hY : ∀ a, Y a → Y' a) : ExC prog w A Y' h (execs (.Assign [.Name x px] e pos :: rest) env) P' := fun s Q E eq q => by
  subst eq
  refine wpC_execs_cons (wpC_Assign_Name (he s _ E (fun _ _ e => e) fun v h₁ tk k p => ?_) hsw)
  obtain ⟨L, rfl, hL, hLo, pl⟩ := p
  have F₁ : Frm g0 env (fun a => X a ∨ a = L) Y ((ρ' L).filter (fun q => q.1 ≠ x)) h₁ := F.grow k (fun a z => .inl z) (fun a z => z.elim (F.away a) fun z => z ▸ none_of_keep F.base hL) (fun a z => z.elim (fun z => let ⟨o, e⟩ := F.live a z; ⟨o, k a o e⟩) fun z => z ▸ hLo) fun p hp => by
    obtain ⟨hp, hne⟩ := List.mem_filter.mp hp
    rcases hr L hL p hp with e | ⟨_, st, P, m, i⟩
    · rw [e] at hne; simp at hne
    · exact ⟨st, P, m, i⟩
  refine store_any (s := ⟨h₁, s.gens, s.drawn, tk, s.os⟩) (P := isV (.ref L)) (ρ' := ρ' L) F₁ hd hk Stable.v rfl (fun q hq => ?_) fun h₂ tk₂ k₂ l₂ F₂ => ?_
  · rcases hr L hL q hq with e | ⟨hne, _⟩
    · exact .inl e
    · exact .inr ⟨List.mem_filter.mpr ⟨hq, by simpa using hne⟩, hne⟩
  · have hLY : ¬ Y L := fun z => by
      obtain ⟨o, e⟩ := F.live L (F.sub L z)
      rw [hL] at e; cases e
    refine n L h₂ hL (k.b.trans k₂) (hPL L h₁ h₂ (fun o e => k₂ L o hLY e) pl) F₂ ⟨h₂, s.gens, s.drawn, tk₂, s.os⟩ Q E rfl fun fl h₃ tk₃ k₃ l₃ p₃ => q fl h₃ tk₃ (fun b o nb e => ?_) ((k.live.trans l₂).trans l₃) p₃
    exact k₃ b o (fun z => z.elim nb fun z => by rw [z, hL] at e; cases e) (k₂ b o (fun z => nb (hY b z)) (k b o e))

/-- a run of one of the text's own defs in a clean context, told by what its body's run ends in -/
theorem evc_callK {ρ : (Addr → Prop) → List (Str × PV)} (W : Wd K g0 mg mb) (O : Out g0 X h0) {f : Addr} {fd : FuncData} {oc : Value} {od : Option Addr} {osl : Array (Option Value)} {body : List Stmt} {args : Args} {binds : List (Str × Value)}
    (hK : K.lookup f = some ⟨oc, od, .func fd, osl⟩) (hbody : fd.body = .stmts body) (hok : callOk K fd (binds.map (·.1)) = true) (hroom : A.depth < recursionLimit) (hbind : ∀ s : Shared, Keep h0 s.heap → BindsTo s fd args binds)
    (hρ : ∀ X' : Addr → Prop, (∀ a, X a → X' a) → (∀ a, X' a → ¬ X a → h0.get? a = none) → ∀ q ∈ ρ X', ParOk h0 X' binds q)
    (hrun : ∀ L env X' h₁, env = callEnvC fd L f → Keep h0 h₁ → (∀ a, X a → X' a) → (∀ a, X' a → ¬ X a → h0.get? a = none) → (∀ a, Own env a → h0.get? a = none) → Frm g0 env X' (Own env) (ρ X') h₁ →
      ExC prog w (A.deeper env) (Own env) h₁ (execs body env) fun fl h' => P (match fl with | .ret v => v | _ => .none) h') :
    EvC prog w A h0 (call (.ref f) args.pos args.kw) P := fun s Q E kq q => by
  simp only [callOk, Bool.and_eq_true, Bool.not_eq_true', beq_iff_eq, List.isEmpty_iff] at hok
  obtain ⟨⟨⟨⟨⟨⟨⟨⟨⟨⟨a1, a2⟩, a3⟩, a4⟩, a5⟩, a6⟩, a7⟩, a8⟩, a9⟩, a10⟩, a11⟩ := hok
  have hkind : (binds.all fun y => fd.scope.names.lookup y.1 == some .local || fd.scope.names.lookup y.1 == some .cell) = true := by rw [List.all_map] at a2; exact a2
  have hdbg : (binds.all fun y => y.1 != ("__debug__" : Str)) = true := by rw [List.all_map] at a4; exact a4
  have hnd := nodupB_of a3
  have O' := O.keep kq
  refine wpC_call (codeC_call_function hroom (W.kin.keeps O'.base _ _ hK) rfl a6 a7 hbody (codeRec_of (W.kin.keeps O'.base) a1) (hbind s kq _ _ _ _ ?_))
  rw [a11]
  refine wpAny_newFunctionEnv_cells a8 (kindsX hkind _) fun env' he s' x => ?_
  subst he
  obtain ⟨h₁, tk, rfl, hk₁⟩ := x.done
  refine ⟨(W.lim.keeps O'.base).keeps hk₁, codeC_func ?_⟩
  show wpC (model prog w) (A.deeper (callEnvC fd s.heap.objs.size f)) (execs body (callEnvC fd s.heap.objs.size f)) _ _ _
  have fresh : ∀ a, Xin X (callEnvC fd s.heap.objs.size f) a → ¬ X a → s.heap.get? a = none := by
    rintro a (q | q | ⟨n, q⟩) hn
    · exact absurd q hn
    · subst q; exact Heap.get?_none_of_le (Nat.le_refl _)
    · exact Heap.get?_none_of_le (Nat.le_of_lt (x.above n a (mem_of_lookup q)))
  have fresh0 : ∀ a, Xin X (callEnvC fd s.heap.objs.size f) a → ¬ X a → h0.get? a = none := fun a q hn => none_of_keep kq (fresh a q hn)
  have F : Frm g0 (callEnvC fd s.heap.objs.size f) (Xin X (callEnvC fd s.heap.objs.size f)) (Own (callEnvC fd s.heap.objs.size f)) (ρ (Xin X (callEnvC fd s.heap.objs.size f))) h₁ := {
    base := O'.base.trans hk₁
    away := fun a q => by
      rcases Classical.em (X a) with hx | hx
      · exact O.away a hx
      · exact none_of_keep O'.base (fresh a q hx)
    live := by
      rintro a (q | q | ⟨n, q⟩)
      · obtain ⟨o, e⟩ := O'.live a q; exact ⟨o, hk₁ a o e⟩
      · subst q; obtain ⟨o, _, _, e, _⟩ := x.toInCall.ns; exact ⟨o, e⟩
      · obtain ⟨o, e, _⟩ := x.cell n a q; exact ⟨o, e⟩
    sub := fun a q => .inr q
    loc := .inl rfl
    cel := fun n c hc => .inr ⟨n, hc⟩
    kind := a8
    glb := a9
    blt := a10
    g1 := W.e1
    g2 := W.e2
    ns := ⟨_, x.toInCall.ns⟩
    apart := x.apart
    cells := fun n c hc => ⟨_, x.cell n c hc⟩
    vars := fun q hq => by
      obtain ⟨st, v, hm, hp⟩ := hρ _ (fun a z => .inl z) fresh0 q hq
      refine ⟨st, v, ?_, hp h₁ (kq.trans hk₁)⟩
      have hd : (q.1 == ("__debug__" : Str)) = false := by
        have := List.all_eq_true.mp hdbg _ hm
        simpa [bne] using this
      rcases (kindsX hkind (s.heap.objs.size + 1)) _ hm with hl | ⟨hl, hs⟩
      · exact var_of_local a8 hd hl x.toInCall.ns (bindL_in hnd hm hl)
      · obtain ⟨c, hc⟩ := Option.isSome_iff_exists.mp hs
        refine var_of_cell a8 hd hl hc ?_
        have := x.cell q.1 c hc
        rw [bindC_in hnd hm hl] at this
        exact this }
  have own : ∀ a, Own (callEnvC fd s.heap.objs.size f) a → s.heap.get? a = none := by
    rintro a (hx | ⟨n, hx⟩)
    · subst hx; exact Heap.get?_none_of_le (Nat.le_refl _)
    · exact Heap.get?_none_of_le (Nat.le_of_lt (x.above n a (mem_of_lookup hx)))
  refine hrun s.heap.objs.size _ _ h₁ rfl (kq.trans hk₁) (fun a q => .inl q) fresh0 (fun a z => none_of_keep kq (own a z)) F ⟨h₁, s.gens, s.drawn, tk, s.os⟩ _ _ rfl fun fl h₂ tk₂ k₂ l₂ p₂ => ?_
  refine q _ h₂ tk₂ (fun b o e => ?_) p₂
  refine k₂ b o (fun hx => ?_) (hk₁ b o e)
  rw [own b hx] at e; cases e
end
end Mine

set_option maxRecDepth 100000
set_option linter.unusedVariables false
namespace Mine
open PySem PySem.W PySem.Calls PyProof.Rows

/-- bit k of n -/
def bt (n k : Nat) : Bool := n / 2 ^ k % 2 == 1
theorem bt_testBit (n k : Nat) : bt n k = n.testBit k := by
  rw [bt, Nat.testBit_eq_decide_div_mod_eq]; rfl
theorem and_pow (n k : Nat) : n &&& 2 ^ k = (if bt n k then 2 ^ k else 0) := by
  apply Nat.eq_of_testBit_eq
  intro i
  rw [Nat.testBit_and, Nat.testBit_two_pow]
  by_cases h : k = i
  · subst h
    rw [← bt_testBit]
    cases e : bt n k
    · simp
    · simp [Nat.testBit_two_pow_self]
  · cases e : bt n k
    · simp [h]
    · simp [h, Nat.testBit_two_pow]
theorem bitAnd_ne (n : Nat) (k : Nat) : (Builtin.bitAnd (n : Int) (1 * 2 ^ k) != 0) = bt n k := by
  have e : (1 * 2 ^ k : Int) = ((2 ^ k : Nat) : Int) := by rw [Int.one_mul]; norm_cast
  rw [e]
  unfold Builtin.bitAnd
  rw [show decide ((0 : Int) ≤ (n : Int)) = true from decide_eq_true (Int.natCast_nonneg _), show decide ((0 : Int) ≤ ((2 ^ k : Nat) : Int)) = true from decide_eq_true (Int.natCast_nonneg _)]
  simp only [Int.toNat_natCast]
  rw [and_pow]
  cases h : bt n k
  · simp
  · simp only [if_true]
    have : (2 ^ k : Nat) ≠ 0 := Nat.ne_of_gt (Nat.two_pow_pos k)
    rw [bne_iff_ne]
    exact fun e => this (by exact_mod_cast e)
theorem bitOr_nat (a b : Nat) : Builtin.bitOr (a : Int) (b : Int) = ((a ||| b : Nat) : Int) := by
  unfold Builtin.bitOr Builtin.bitAnd Builtin.bitNot
  have h1 : decide ((0 : Int) ≤ -(a : Int) - 1) = false := by simp; omega
  have h2 : decide ((0 : Int) ≤ -(b : Int) - 1) = false := by simp; omega
  rw [h1, h2]
  simp only
  rw [show (-(-(a : Int) - 1) - 1) = (a : Int) by omega, show (-(-(b : Int) - 1) - 1) = (b : Int) by omega]
  simp only [Int.toNat_natCast]
  omega
/-- the first j bits of an octet, as a number -/
def pv (c j : Nat) : Nat := c / 2 ^ (8 - j) * 2 ^ (8 - j)
theorem pv_le (c j : Nat) : pv c j ≤ c := Nat.div_mul_le_self _ _
theorem pv_zero {c : Nat} (h : c < 256) : pv c 0 = 0 := by
  unfold pv
  rw [Nat.div_eq_of_lt (by simpa using h), Nat.zero_mul]
theorem pv_eight (c : Nat) : pv c 8 = c := by unfold pv; simp
theorem pv_step (c j : Nat) (hj : j < 8) : pv c (j + 1) = pv c j + (if bt c (7 - j) then 2 ^ (7 - j) else 0) := by
  unfold pv bt
  have e1 : 8 - (j + 1) = 7 - j := by omega
  have e2 : 8 - j = (7 - j) + 1 := by omega
  rw [e1, e2, Nat.pow_succ, ← Nat.div_div_eq_div_mul]
  generalize hq : c / 2 ^ (7 - j) = q
  generalize 2 ^ (7 - j) = p
  rcases Nat.mod_two_eq_zero_or_one q with h | h
  · have : q = 2 * (q / 2) := by omega
    rw [h]
    simp only [show ((0 : Nat) == 1) = false from rfl, Bool.false_eq_true, if_false, Nat.add_zero]
    rw [show q / 2 * (p * 2) = 2 * (q / 2) * p by rw [Nat.mul_comm p 2, ← Nat.mul_assoc, Nat.mul_comm (q / 2) 2], ← this]
  · have : q = 2 * (q / 2) + 1 := by omega
    rw [h]
    simp only [show ((1 : Nat) == 1) = true from rfl, if_true]
    rw [show q / 2 * (p * 2) = 2 * (q / 2) * p by rw [Nat.mul_comm p 2, ← Nat.mul_assoc, Nat.mul_comm (q / 2) 2]]
    conv => lhs; rw [this]
    rw [Nat.add_mul, Nat.one_mul]
theorem pv_or (c j : Nat) (hj : j < 8) (hb : bt c (7 - j) = true) : pv c j ||| 2 ^ (7 - j) = pv c (j + 1) := by
  rw [pv_step c j hj, hb, if_pos rfl]
  unfold pv
  rw [show 8 - j = (7 - j) + 1 by omega]
  generalize hq : c / 2 ^ (7 - j + 1) = q
  rw [Nat.mul_comm, ← Nat.two_pow_add_eq_or_of_lt (Nat.pow_lt_pow_right (by decide) (Nat.lt_succ_self _))]
theorem pv_skip (c j : Nat) (hj : j < 8) (hb : bt c (7 - j) = false) : pv c (j + 1) = pv c j := by
  rw [pv_step c j hj, hb]; simp

/-- the octets, the first i of them whole, of the next one j bits -/
def preB (B : Array UInt8) (i j : Nat) : Array UInt8 := Array.ofFn (n := B.size) fun k => if k.val < i then B[k.val] else if k.val = i then (pv B[k.val].toNat j).toUInt8 else 0
theorem preB_size (B : Array UInt8) (i j : Nat) : (preB B i j).size = B.size := by simp [preB]
theorem preB_zero (B : Array UInt8) : preB B 0 0 = Array.replicate B.size 0 := by
  apply Array.ext (by simp [preB])
  intro i h1 h2
  have : pv (B[i]'(by simpa [preB] using h1)).toNat 0 = 0 := pv_zero (UInt8.toNat_lt _)
  simp [preB]
  intro e; subst e
  rw [this]; rfl
theorem preB_next (B : Array UInt8) (i : Nat) : preB B i 8 = preB B (i + 1) 0 := by
  apply Array.ext (by simp [preB])
  intro k h1 h2
  have hk : k < B.size := by simpa [preB] using h1
  have e0 : pv (B[k]'hk).toNat 0 = 0 := pv_zero (UInt8.toNat_lt _)
  simp only [preB, Array.getElem_ofFn, pv_eight, e0]
  by_cases h : k < i
  · rw [if_pos h, if_pos (by omega)]
  · rw [if_neg h]
    by_cases h' : k = i
    · subst h'
      rw [if_pos rfl, if_pos (by omega)]
      simp
    · rw [if_neg h', if_neg (by omega)]
      split <;> rfl
theorem preB_all (B : Array UInt8) : preB B B.size 0 = B := by
  apply Array.ext (by simp [preB])
  intro k h1 h2
  simp [preB, h2]
theorem preB_at (B : Array UInt8) {i j : Nat} (h : i < B.size) : ((preB B i j).getD i 0).toNat = pv B[i].toNat j := by
  rw [Array.getD_eq_getD_getElem?, Array.getElem?_eq_getElem (by rw [preB_size]; exact h), Option.getD_some]
  simp only [preB, Array.getElem_ofFn, Nat.lt_irrefl, if_false, if_true]
  have h1 := pv_le B[i].toNat j
  have h2 := UInt8.toNat_lt B[i]
  rw [UInt8.toNat_ofNat']
  omega
theorem preB_set (B : Array UInt8) {i j : Nat} (h : i < B.size) : (preB B i j).setIfInBounds i (pv B[i].toNat (j + 1)).toUInt8 = preB B i (j + 1) := by
  apply Array.ext (by simp [preB])
  intro k h1 h2
  have hk : k < B.size := by simpa [preB] using h2
  rw [Array.getElem_setIfInBounds (by simpa using h1)]
  by_cases e : i = k
  · subst e
    simp [preB]
  · rw [if_neg e]
    simp only [preB, Array.getElem_ofFn]
    rw [if_neg (show ¬ k = i from fun q => e q.symm), if_neg (show ¬ k = i from fun q => e q.symm)]
theorem preB_same (B : Array UInt8) {i j : Nat} (h : i < B.size) (e : pv B[i].toNat (j + 1) = pv B[i].toNat j) : preB B i (j + 1) = preB B i j := by
  apply Array.ext (by simp [preB])
  intro k h1 h2
  simp only [preB, Array.getElem_ofFn]
  by_cases q : k = i
  · subst q
    rw [e]
  · rw [if_neg q, if_neg q]

/-- n bits, the first m of them as they are to be -/
def cbl (cb : Nat → Bool) (n m : Nat) : List S := (List.range n).map fun k => S.bool (decide (k < m) && cb k)
theorem cbl_len (cb : Nat → Bool) (n m : Nat) : (cbl cb n m).length = n := by simp [cbl]
theorem cbl_zero (cb : Nat → Bool) (n : Nat) : cbl cb n 0 = List.replicate n (S.bool false) := by
  simp [cbl]
  apply List.ext_getElem (by simp)
  intro i h1 h2
  simp
theorem cbl_set (cb : Nat → Bool) {n m : Nat} : (cbl cb n m).set m (S.bool (cb m)) = cbl cb n (m + 1) := by
  apply List.ext_getElem (by simp [cbl])
  intro i h1 h2
  rw [List.getElem_set]
  by_cases e : m = i
  · subst e
    simp [cbl]
  · rw [if_neg e]
    simp only [cbl, List.getElem_map, List.getElem_range]
    congr 2
    simp; omega
theorem cbl_get (cb : Nat → Bool) {n m k : Nat} (h : k < n) (h' : k < m) : (cbl cb n m)[k]? = some (S.bool (cb k)) := by
  rw [List.getElem?_eq_getElem (by rw [cbl_len]; exact h)]
  simp [cbl, h']
end Mine

set_option maxRecDepth 100000
set_option linter.unusedVariables false
namespace Mine
open PySem PySem.W PySem.Calls PyProof.Rows

/-- the table of a block's inner code: empty, or the lambda's code known -/
def TabOk (P : Addr) (pos : Pos) (qual : Str) (X : Addr → Prop) (h : Heap) : Prop :=
  h.get? P = some (tabObj #[]) ∨ ∃ c' o vs t, h.get? P = some (tabObj #[rawInt pos.line, rawInt pos.col, .ref c']) ∧ ¬ X c' ∧ h.get? c' = some o ∧ o.data = .fields vs ∧ vs[1]? = some (.str qual t)
section
variable {P : Addr} {pos : Pos} {qual : Str} {X X' Y : Addr → Prop} {h h' : Heap}
theorem TabOk.keep (x : TabOk P pos qual X h) (k : KeepB Y h h') (hY : ∀ a, Y a → X a) (hP : ¬ Y P) : TabOk P pos qual X h' := by
  rcases x with x | ⟨c', o, vs, t, a, b, c, d, e⟩
  · exact .inl (k _ _ hP x)
  · exact .inr ⟨c', o, vs, t, k _ _ hP a, b, k _ _ (fun z => b (hY _ z)) c, d, e⟩
theorem TabOk.widen (x : TabOk P pos qual X h) (hf : ∀ a, X' a → ¬ X a → h.get? a = none) : TabOk P pos qual X' h := by
  rcases x with x | ⟨c', o, vs, t, a, b, c, d, e⟩
  · exact .inl x
  · exact .inr ⟨c', o, vs, t, a, fun z => (by rw [hf c' z b] at c; cases c), c, d, e⟩
theorem TabOk.narrow (x : TabOk P pos qual X' h) (hs : ∀ a, X a → X' a) : TabOk P pos qual X h := by
  rcases x with x | ⟨c', o, vs, t, a, b, c, d, e⟩
  · exact .inl x
  · exact .inr ⟨c', o, vs, t, a, fun z => b (hs _ z), c, d, e⟩
theorem TabOk.live (x : TabOk P pos qual X h) : ∃ o, h.get? P = some o := by
  rcases x with x | ⟨c', o, vs, t, a, _⟩
  · exact ⟨_, x⟩
  · exact ⟨_, a⟩
end

section
variable {prog : Program} {w : World} {A : Around} {K : Frag} {g0 h0 h h' : Heap} {mg mb : Str → Option Value} {env : Env} {X Y Y' Z : Addr → Prop} {ρ ρ' : List (Str × PV)} {x : Str} {P' : Flow → Heap → Prop} {P P₁ P₂ : PV}

/-- a lambda made -/
theorem cx_lambda {params : Arguments} {body : Expr} {scope : Scope} {pos : Pos} {c p : Addr} {qual : Str} {clos : List (Str × Addr)} (W : Wd K g0 mg mb) (b : Keep g0 h) (hbm : g0.BuiltinsAt mg p) (C : codeHdIn K c p = true) (hcode : env.code = .ref c) (hglb : env.globals = mainGlobals)
    (hdef : defaultsOf params env = ([], [])) (hcl : closL env scope.names [] = some clos) (tab : TabOk p pos qual X h) (hlive : ∀ a, X a → ∃ o, h.get? a = some o) (hq : (env.qual ++ "<lambda>" : Str) = qual) :
    Cx prog w A (fun a => a = p) h (eval (.Lambda params body scope pos) env) (fun v h' => ∃ f c' pm ctv, v = .ref f ∧ h.get? f = none ∧ h'.get? f = some (kla_obj "<lambda>" qual params body scope clos pm c' ctv) ∧ ¬ X c' ∧ h'.CodeRec (.ref c') qual ∧ TabOk p pos qual X h') := fun s Q E e q => by
  subst e
  refine kla_eval hdef ?_
  rw [hq]
  have hg := W.gs.keeps b
  have CH : CodeHd s.heap c p := (codeHd_of_K W.kin C).keeps b
  have hb := hbm.keeps b
  rcases tab with hP | ⟨c', o, vs, t, hP, nX, hc, hd, hv⟩
  · have hgP : mainGlobals ≠ p := fun z => by
      obtain ⟨o, es, ep, e, hd, _⟩ := hg
      rw [z, hP] at e; cases e; cases hd
    refine kla_makeFunction (closureFor_closL hcl) hglb hg hcode CH hP trivial rfl hgP hb fun c' ctv h' tk hx hge hlt hrec htb => ?_
    obtain ⟨c₂, o, vs, t, e2, hc, hd, hv⟩ := hrec
    cases e2
    have hx' : ∀ b o, b ≠ p → s.heap.get? b = some o → h'.get? b = some o := fun b o n e => hx b o n e
    have nX : ¬ X c' := fun z => by
      obtain ⟨o, e⟩ := hlive _ z
      exact absurd (Heap.lt_size e) (Nat.not_lt.mpr hge)
    have hsz : s.heap.objs.size ≤ h'.objs.size := Nat.le_of_lt (Nat.lt_of_le_of_lt hge hlt)
    refine q _ _ tk (fun b o n e => keep_push _ _ (hx' b o n e)) (fun b o e => ?_) ⟨h'.objs.size, c', _, ctv, rfl, Heap.get?_none_of_le hsz, Heap.get?_push_size _ rfl, nX, ⟨c', o, vs, t, rfl, keep_push _ _ hc, hd, hv⟩,
      .inr ⟨c', o, vs, t, keep_push _ _ htb, nX, keep_push _ _ hc, hd, hv⟩⟩
    by_cases z : b = p
    · exact ⟨_, z ▸ keep_push _ _ htb⟩
    · exact ⟨o, keep_push _ _ (hx' b o z e)⟩
  · have ht : TriplesOk (#[rawInt pos.line, rawInt pos.col, Value.ref c'] : Array Value).toList := trivial
    refine kla_makeFunctionHit (closureFor_closL hcl) hglb hg hcode CH hP ht (cv := .ref c') (by simp [codeAmong, rawInt]) hb fun ctv h' tk k hsz => ?_
    refine q _ _ tk (fun b o n e => keep_push _ _ (k b o e)) (fun b o e => ⟨o, keep_push _ _ (k b o e)⟩) ⟨h'.objs.size, c', _, ctv, rfl, Heap.get?_none_of_le hsz, Heap.get?_push_size _ rfl, nX, ⟨c', o, vs, t, rfl, keep_push _ _ (k _ _ hc), hd, hv⟩,
      .inr ⟨c', o, vs, t, keep_push _ _ (k _ _ hP), nX, keep_push _ _ (k _ _ hc), hd, hv⟩⟩

/-- a lambda called -/
theorem ev_lam {name qual : Str} {params : Arguments} {body : Expr} {scope : Scope} {clos : List (Str × Addr)} {pm ctv : Value} {c' f : Addr} {args : List Value} {binds : List (Str × Value)} (W : Wd K g0 mg mb) (b : Keep g0 h0) (hroom : A.depth < recursionLimit)
    (hf : h0.get? f = some (kla_obj name qual params body scope clos pm c' ctv)) (hcd : h0.CodeRec (.ref c') qual) (hbind : bindArgs (kla_fn name qual params body scope clos pm (.ref c') ctv) ⟨args, []⟩ = pure binds)
    (hloc : ∀ y ∈ binds, scope.names.lookup y.1 = some .local) (hcell : ∀ x ∈ scope.names, x.2 ≠ .cell) (hco : scope.isCoroutine = false) (hgen : scope.isGenerator = false) (hk : scope.kind = .function)
    (hrun : ∀ L h₁, Keep h0 h₁ → h₁.Ns L (fun y => binds.reverse.lookup y) → h0.get? L = none → Ev prog w (A.deeper (envX qual scope L f (.ref c') clos)) h₁ (eval body (envX qual scope L f (.ref c') clos)) P) : Ev prog w A h0 (call (.ref f) args) P := fun s Q E k q => by
  refine wpAny_call (kla_callFunE hroom (k _ _ hf) rfl hco hgen rfl (hcd.keeps k) ?_)
  rw [hbind]
  refine wpAny_pure (wpAny_newFunctionEnv hcell hloc (fun h₁ hns hsb => ⟨((W.lim.keeps b).keeps k).fresh _ hsb, ?_⟩) hk)
  show codeAny _ _ (.expr body (envX qual scope s.heap.objs.size f (.ref c') clos)) _ _
  have hk₁ : Keep s.heap h₁ := fun b o e => hsb.extBut b o (Nat.ne_of_lt (Heap.lt_size e)) (Heap.get?_push_of_some _ e)
  refine kla_codeExpr (hrun s.heap.objs.size h₁ (k.trans hk₁) hns (none_of_keep k get_size) ⟨h₁, s.gens, s.drawn, s.toks + binds.length, s.os⟩ _ _ (fun _ _ e => e) fun v h₂ tk₂ k₂ p => ?_)
  exact q v h₂ tk₂ (hk₁.trans k₂) p

/-- the frame after a change of Z's addresses, more addresses to shun -/
theorem Frm.growZ (F : Frm g0 env X Y ρ h) {X' : Addr → Prop} (hZX : ∀ a, Z a → X a) (hZl : ¬ Z env.locals) (hZc : ∀ n c, env.cells.lookup n = some c → ¬ Z c) (k : KeepB Z h h') (lv : Live h h') (hX : ∀ a, X a → X' a) (hg : ∀ a, X' a → g0.get? a = none) (hl : ∀ a, X' a → ∃ o, h'.get? a = some o)
    (hr : ∀ p ∈ ρ', Stable X' p.2 ∧ ∃ P, (p.1, P) ∈ ρ ∧ ∀ v, P v h → p.2 v h) : Frm g0 env X' Y ρ' h' := by
  have gl : ∀ {b : Addr}, (∃ o, g0.get? b = some o) → ∀ o, h.get? b = some o → h'.get? b = some o := fun ⟨o, e⟩ o' e' => k _ o' (fun q => by rw [F.away _ (hZX _ q)] at e; cases e) e'
  exact { F.mut hZX hZl hZc k lv with
    away := hg
    live := hl
    sub := fun a q => hX a (F.sub a q)
    vars := fun p hp => by
      obtain ⟨st, P, hm, i⟩ := hr p hp
      obtain ⟨_, v, y, z⟩ := F.vars _ hm
      exact ⟨st, v, y.move (fun o e => k _ o hZl e) (fun n c o e e' => k _ o (hZc n c e) e') (F.glb ▸ gl F.g1) (F.blt ▸ gl F.g2), st _ _ _ (fun b o n e => k b o (fun q => n (hX _ (hZX b q))) e) (i v z)⟩ }
/-- storing what a run gives that changes Z -/
theorem ex_assignZ {px pos : Pos} {e : Expr} {rest : List Stmt} (F : Frm g0 env X Y ρ h) (he : Cx prog w A Z h (eval e env) P) (hZX : ∀ a, Z a → X a) (hZl : ¬ Z env.locals) (hZc : ∀ n c, env.cells.lookup n = some c → ¬ Z c) (st : Stable X P) (ρ' : List (Str × PV))
    (n : ∀ h', KeepB (fun a => Y a ∨ Z a) h h' → Frm g0 env X Y ρ' h' → Ex prog w A Y' h' (execs rest env) P')
    (hk : Loc env x) (hd : (x == ("__debug__" : Str)) = false) (hr : ∀ q ∈ ρ', q = (x, P) ∨ (q ∈ ρ ∧ q.1 ≠ x))
    (hsw : swapsWith e (some (.Name x px)) pos.line env = pure false) (hY : ∀ a, Y a → Y' a) (hZY : ∀ a, Z a → Y' a) : Ex prog w A Y' h (execs (.Assign [.Name x px] e pos :: rest) env) P' := fun s Q E eq q => by
  refine wpAny_execs_cons (wpAny_Assign_Name (he s _ E eq fun v h₁ tk k l p => ?_) hsw)
  have F₁ := F.mut hZX hZl hZc k l
  refine store_any (s := ⟨h₁, s.gens, s.drawn, tk, s.os⟩) F₁ hd hk st p hr fun h₂ tk₂ k₂ l₂ F₂ => ?_
  have kk : KeepB (fun a => Y a ∨ Z a) h h₂ := fun b o nb e => k₂ b o (fun z => nb (.inl z)) (k b o (fun z => nb (.inr z)) e)
  exact n h₂ kk F₂ ⟨h₂, s.gens, s.drawn, tk₂, s.os⟩ Q E rfl fun fl h₃ tk₃ k₃ l₃ p₃ => q fl h₃ tk₃ ((kk.wide fun a z => z.elim (hY a) (hZY a)).trans k₃) ((l.trans l₂).trans l₃) p₃
/-- a run as Ex, that may lose the object at D -/
def ExD (prog : Program) (w : World) (A : Around) (Y : Addr → Prop) (D : Addr) (h : Heap) (t : Sem Flow) (P : Flow → Heap → Prop) : Prop :=
  ∀ (s : Shared) (Q : Flow → Shared → Prop) (E : Value → Shared → Prop), s.heap = h → (∀ fl h' tk, KeepB Y h h' → (∀ a o, a ≠ D → h.get? a = some o → ∃ o', h'.get? a = some o') → P fl h' → Q fl { s with heap := h', toks := tk }) → wpAny (model prog w) A t Q E s
/-- the same, an object made that will be changed later -/
theorem ex_assignZN {px pos : Pos} {e : Expr} {rest : List Stmt} {PL : Value → Addr → Heap → Prop} (F : Frm g0 env X Y ρ h) (he : Cx prog w A Z h (eval e env) (fun v h' => ∃ I, h.get? I = none ∧ (∃ o, h'.get? I = some o) ∧ PL v I h'))
    (hZX : ∀ a, Z a → X a) (hZl : ¬ Z env.locals) (hZc : ∀ n c, env.cells.lookup n = some c → ¬ Z c) (ρ' : Value → Addr → List (Str × PV))
    (hr : ∀ v I, h.get? I = none → ∀ q ∈ ρ' v I, q = (x, isV v) ∨ (q.1 ≠ x ∧ Stable (fun a => X a ∨ a = I) q.2 ∧ ∃ P, (q.1, P) ∈ ρ ∧ ∀ v, P v h → q.2 v h))
    (n : ∀ v I h₁ h', h.get? I = none → KeepB Z h h₁ → PL v I h₁ → KeepB Y h₁ h' → Frm g0 env (fun a => X a ∨ a = I) Y (ρ' v I) h' → ExD prog w A (fun a => Y' a ∨ a = I) I h' (execs rest env) P')
    (hk : Loc env x) (hd : (x == ("__debug__" : Str)) = false) (hsw : swapsWith e (some (.Name x px)) pos.line env = pure false) (hY : ∀ a, Y a → Y' a) (hZY : ∀ a, Z a → Y' a) : Ex prog w A Y' h (execs (.Assign [.Name x px] e pos :: rest) env) P' := fun s Q E eq q => by
  refine wpAny_execs_cons (wpAny_Assign_Name (he s _ E eq fun v h₁ tk k l p => ?_) hsw)
  obtain ⟨I, hI, hIo, pl⟩ := p
  have F₁ : Frm g0 env (fun a => X a ∨ a = I) Y ((ρ' v I).filter (fun q => q.1 ≠ x)) h₁ := F.growZ hZX hZl hZc k l (fun a z => .inl z) (fun a z => z.elim (F.away a) fun z => z ▸ none_of_keep F.base hI) (fun a z => z.elim (fun z => let ⟨o, e⟩ := F.live a z; l a o e) fun z => z ▸ hIo) fun p hp => by
    obtain ⟨hp, hne⟩ := List.mem_filter.mp hp
    rcases hr v I hI p hp with e | ⟨_, st, P, m, i⟩
    · rw [e] at hne; simp at hne
    · exact ⟨st, P, m, i⟩
  refine store_any (s := ⟨h₁, s.gens, s.drawn, tk, s.os⟩) (P := isV v) (ρ' := ρ' v I) F₁ hd hk Stable.v rfl (fun q hq => ?_) fun h₂ tk₂ k₂ l₂ F₂ => ?_
  · rcases hr v I hI q hq with e | ⟨hne, _⟩
    · exact .inl e
    · exact .inr ⟨List.mem_filter.mpr ⟨hq, by simpa using hne⟩, hne⟩
  · refine n v I h₁ h₂ hI k pl k₂ F₂ ⟨h₂, s.gens, s.drawn, tk₂, s.os⟩ Q E rfl fun fl h₃ tk₃ k₃ l₃ p₃ => q fl h₃ tk₃ (fun b o nb e => ?_) (fun b o e => ?_) p₃
    rotate_left
    · obtain ⟨o', e'⟩ := (l.trans l₂) b o e
      exact l₃ b o' (fun z => by rw [z, hI] at e; cases e) e'
    exact k₃ b o (fun z => z.elim nb fun z => by rw [z, hI] at e; cases e) (k₂ b o (fun z => nb (hY b z)) (k b o (fun z => nb (hZY b z)) e))

/-- two arguments, the first one of a run that changes Z -/
theorem cx_args2 {pos : Pos} {e f : Expr} (x : Cx prog w A Z h (eval e env) P₁) (y : ∀ h', KeepB Z h h' → Live h h' → Ev prog w A h' (eval f env) P₂) (m₁ : Mono P₁)
    (he : starEach [e, f] env = (false, eval e env) :: starEach [f] env) (hf : starEach [f] env = [(false, eval f env)]) (m₂ : Mono P₂) :
    Cx prog w A Z h (spliced (backTo pos (starEach [e, f] env))) (fun vs h' => ∃ u v, vs = [u, v] ∧ P₁ u h' ∧ P₂ v h') := fun s Q E eq q =>
  wpAny_items_cons (x s _ E eq fun v h₁ tk k l p => (ev_args1 (y h₁ k l) m₂ hf).use (s := ⟨h₁, s.gens, s.drawn, tk, s.os⟩) fun vs h₂ tk₂ k₂ ⟨u, e, p₂⟩ => by
    subst e
    exact q [v, u] h₂ tk₂ (k.trans k₂.b) (l.trans k₂.live) ⟨v, u, rfl, m₁ _ _ _ k₂ p, p₂⟩) he
/-- a call of a built-in type by its name, its arguments of a run that changes Z -/
theorem cx_T {id : Str} {p pos : Pos} {T : String} {e : Expr} {rest : List Expr} {PL : List Value → Heap → Prop} (hf : Ev prog w A h (eval (.Name id p) env) (isV (.type T)))
    (x : ∀ h', Keep h h' → Cx prog w A Z h' (spliced (backTo pos (starEach (e :: rest) env))) PL)
    (o : ∀ vs h', KeepB Z h h' → Live h h' → PL vs h' → Ev prog w A h' (call (.type T) vs) P) (he : starEach (e :: rest) env = (false, eval e env) :: starEach rest env) (ha : (backTo pos (starEach rest env)).any (·.1) = false) :
    Cx prog w A Z h (eval (.Call (.Name id p) (e :: rest) [] pos) env) P := fun s Q E eq q => by
  subst eq
  refine wpAny_Call_Name_kw (hf.use fun v h₁ tk k e => ?_)
  have e' : v = .type T := e
  subst e'
  refine callWith_type1 (x h₁ k ⟨h₁, s.gens, s.drawn, tk, s.os⟩ _ E rfl fun vs h₂ tk₂ k₂ l₂ p₂ => ?_) he ha
  exact (o vs h₂ (k.b.trans k₂) (k.live.trans l₂) p₂).use (s := ⟨h₂, s.gens, s.drawn, tk₂, s.os⟩) fun v h₃ tk₃ k₃ p₃ => q v h₃ tk₃ ((k.b.trans k₂).trans k₃.b) ((k.live.trans l₂).trans k₃.live) p₃

/-- an object's state hidden at some addresses -/
theorem MapSt.rebase {M T I l : Addr} {f : Value} {items : Array Value} {hb hb' : Heap} {i : Nat} (st : MapSt M T I l f items hb i h) (k : KeepB Y h h') (hM : ¬ Y M) (hT : ¬ Y T) (hI : ¬ Y I) (hl : ¬ Y l) (kb : Keep hb' h') (hn : hb'.get? I = none) : MapSt M T I l f items hb' i h' where
  om := k _ _ hM st.om
  ot := k _ _ hT st.ot
  oi := st.oi.at fun o e => k _ o hI e
  ol := st.ol.at fun o e => k _ o hl e
  keep := kb
  new := hn
  mi := st.mi
  ti := st.ti
  li := st.li
/-- storing what is made out of an object that is lost with it -/
theorem exD_assign {px pos : Pos} {e : Expr} {rest : List Stmt} {I : Addr} (F : Frm g0 env (fun a => X a ∨ a = I) Y ρ h) (hIX : ¬ X I) (hYX : ∀ a, Y a → X a)
    (he : ∀ (s : Shared) (Q : Value → Shared → Prop) (E : Value → Shared → Prop), s.heap = h → (∀ u h' tk, (∀ b o, b ≠ I → h.get? b = some o → h'.get? b = some o) → P u h' → Q u { s with heap := h', toks := tk }) → wpAny (model prog w) A (eval e env) Q E s)
    (st : Stable X P) (ρ₁ ρ' : List (Str × PV)) (hρ : ∀ p ∈ ρ₁, Stable X p.2 ∧ ∃ P, (p.1, P) ∈ ρ ∧ ∀ v h, P v h → p.2 v h)
    (n : ∀ h', KeepB (fun a => Y a ∨ a = I) h h' → Frm g0 env X Y ρ' h' → Ex prog w A Y' h' (execs rest env) P')
    (hk : Loc env x) (hd : (x == ("__debug__" : Str)) = false) (hr : ∀ q ∈ ρ', q = (x, P) ∨ (q ∈ ρ₁ ∧ q.1 ≠ x))
    (hsw : swapsWith e (some (.Name x px)) pos.line env = pure false) (hY : ∀ a, Y a → Y' a) : ExD prog w A (fun a => Y' a ∨ a = I) I h (execs (.Assign [.Name x px] e pos :: rest) env) P' := fun s Q E eq q => by
  refine wpAny_execs_cons (wpAny_Assign_Name (he s _ E eq fun v h₁ tk k p => ?_) hsw)
  have F₁ : Frm g0 env X Y ρ₁ h₁ := F.shrink (Z := fun a => a = I) (fun a z => .inl z) hYX (fun a z => .inr z) (fun a z => z ▸ hIX) (fun b o nb e => k b o nb e) hρ
  refine store_any (s := ⟨h₁, s.gens, s.drawn, tk, s.os⟩) F₁ hd hk st p hr fun h₂ tk₂ k₂ l₂ F₂ => ?_
  have kk : KeepB (fun a => Y a ∨ a = I) h h₂ := fun b o nb e => k₂ b o (fun z => nb (.inl z)) (k b o (fun z => nb (.inr z)) e)
  refine n h₂ kk F₂ ⟨h₂, s.gens, s.drawn, tk₂, s.os⟩ Q E rfl fun fl h₃ tk₃ k₃ l₃ p₃ => q fl h₃ tk₃ (fun b o nb e => k₃ b o (fun z => nb (.inl z)) (kk b o (fun z => nb (z.imp (hY b) id)) e)) (fun b o nb e => ?_) p₃
  obtain ⟨o', e'⟩ := l₂ b o (k b o nb e)
  exact l₃ b o' e'
/-- sep.join(m), m a map object that a name holds -/
theorem wp_joinMap {o e : Expr} {apos pos : Pos} {pl : Sem Bool} {x : Str} {ds : List S} {g : Nat → Str} {M T I l : Addr} {f : Value} {items : Array Value} {hb : Heap} (hh : A.handled = none) (xo : Ev prog w A h (eval o env) (isS x)) (ye : ∀ h', Keep h h' → Ev prog w A h' (eval e env) (isV (.ref M)))
    (st : MapSt M T I l f items hb 0 h) (hitems : Paired S.is ds items.toList)
    (hf : ∀ i y, i < ds.length → (ds.getD i .none).is y → ∀ A' : Around, A'.depth = A.depth → A'.handled = none → ∀ h'', Keep hb h'' → Ev prog w A' h'' (call f [y]) (isS (g i)))
    (hn : ds.length ≤ 100000) (hok : (((List.range ds.length).map g).map (·.length)).sum + ds.length * x.length ≤ 16777216)
    (hc : ∀ ov, callWith pos (.builtin "str.join") [ov] (backTo pos (starEach [e] env)) (backToKw pos (keywordEach [] env)) = callWith pos (.builtin "str.join") [ov] (backTo pos (starEach [e] env)) [])
    (he : eval (.Call (.Attribute o (Str.ofString "join") apos) [e] [] pos) env = (do let ov ← eval o env; standAt apos.atName; let (f, first) ← holding [ov] (getMethod ov (Str.ofString "join") pl); callWith pos f first (backTo pos (starEach [e] env)) (backToKw pos (keywordEach [] env))))
    (hse : starEach [e] env = [(false, eval e env)]) (s : Shared) (Q : Value → Shared → Prop) (E : Value → Shared → Prop) (eq : s.heap = h)
    (q : ∀ u h' tk, (∀ b o, b ≠ I → h.get? b = some o → h'.get? b = some o) → isS (Txt.join x ((List.range ds.length).map g)) u h' → Q u { s with heap := h', toks := tk }) :
    wpAny (model prog w) A (eval (.Call (.Attribute o (Str.ofString "join") apos) [e] [] pos) env) Q E s := by
  subst eq
  refine methodCall_KW (pl := pl) (xo.use fun v h₁ tk₁ k₁ ⟨t, ev⟩ => ?_) he
  subst ev
  refine getMethod_builtin (typeIs_str _ _ _) PySem.F.plainAttrs_str PySem.F.slot_str_join PySem.F.type_str_join (fun a e => by cases e) ?_
  show wpAny _ _ (callWith pos (.builtin "str.join") [.str x t] _ _) _ _ _
  rw [hc]
  refine callWith_method1 ((ev_args1 (ye h₁ k₁) Mono.v hse).use (s := ⟨h₁, s.gens, s.drawn, tk₁, s.os⟩) fun vs h₂ tk₂ k₂ ⟨u, ev, eu⟩ => ?_) hse rfl
  have eu' : u = .ref M := eu
  subst ev eu'
  have st₂ : MapSt M T I l f items hb 0 h₂ := st.kept (fun b o _ e => k₂ b o (k₁ b o e)) fun o e => k₂ _ o (k₁ _ o e)
  exact call_join_map (s := ⟨h₂, s.gens, s.drawn, tk₂, s.os⟩) hh (h := hb) (x := x) (ds := ds) (g := g) ⟨t, rfl⟩ hn hok hf st₂ hitems fun u h₄ tk₄ k₄ p => q u h₄ tk₄ (fun b o n e => k₄ b o n (k₂ b o (k₁ b o e))) p
end
end Mine

set_option maxRecDepth 100000
set_option linter.unusedVariables false
namespace Mine
open PySem PySem.W PySem.Calls PyProof.Rows

/-- a bit as a sign -/
def bch (b : Bool) : Nat := if b then 49 else 48
/-- w bits of n, as signs -/
def bitsT (w n : Nat) : List Nat := (List.range w).map fun k => bch (bt n (w - 1 - k))
theorem bitsT_len (w n : Nat) : (bitsT w n).length = w := by simp [bitsT]
theorem bt_half (n k : Nat) : bt (n / 2) k = bt n (k + 1) := by
  unfold bt
  rw [Nat.div_div_eq_div_mul, Nat.pow_succ, Nat.mul_comm 2]
theorem bitsT_succ (w n : Nat) : bitsT (w + 1) n = bitsT w (n / 2) ++ [bch (bt n 0)] := by
  unfold bitsT
  rw [List.range_succ, List.map_append]
  congr 1
  · refine List.map_congr_left fun k hk => ?_
    rw [bt_half]
    have := List.mem_range.mp hk
    congr 2; omega
  · simp
theorem bitsT_zero (w : Nat) : bitsT w 0 = List.replicate w 48 := by
  apply List.ext_getElem (by simp [bitsT])
  intro i h1 h2
  simp [bitsT, bt, bch]
theorem digit2 (n : Nat) (h : n < 2) : (Nat.digitChar n).toNat = bch (bt n 0) := by
  rcases n with _ | _ | n
  · decide
  · decide
  · omega
/-- zeros ahead of the binary digits of n -/
theorem digits_pad : ∀ (w n : Nat), n < 2 ^ (w + 1) → List.replicate (w + 1 - (Nat.toDigits 2 n).length) 48 ++ (Nat.toDigits 2 n).map Char.toNat = bitsT (w + 1) n
  | 0, n, h => by
    have h2 : n < 2 := by simpa using h
    rw [Nat.toDigits_of_lt_base h2, bitsT_succ]
    simp only [List.length_cons, List.length_nil, Nat.sub_self, List.replicate_zero, List.nil_append, List.map_cons, List.map_nil]
    rw [digit2 n h2]
    rfl
  | w + 1, n, h => by
    rw [bitsT_succ]
    by_cases h2 : n < 2
    · rw [Nat.toDigits_of_lt_base h2, show n / 2 = 0 by omega, bitsT_zero]
      simp only [List.length_cons, List.length_nil, List.map_cons, List.map_nil]
      rw [digit2 n h2]
      rfl
    · have t : Nat.toDigits 2 (n / 2) ++ Nat.toDigits 2 (n % 2) = Nat.toDigits 2 (2 * (n / 2) + n % 2) := Nat.toDigits_append_toDigits (by decide) (by omega) (Nat.mod_lt _ (by decide))
      rw [Nat.div_add_mod] at t
      have hm : n % 2 < 2 := Nat.mod_lt _ (by decide)
      rw [← t, List.map_append, Nat.toDigits_of_lt_base hm, ← digits_pad w (n / 2) (by rw [Nat.pow_succ] at h; omega)]
      simp only [List.length_append, List.length_cons, List.length_nil, List.map_cons, List.map_nil]
      rw [digit2 _ hm, ← List.append_assoc]
      have e1 : bt (n % 2) 0 = bt n 0 := by unfold bt; simp
      rw [e1, show w + 1 + 1 - ((Nat.toDigits 2 (n / 2)).length + (0 + 1)) = w + 1 - (Nat.toDigits 2 (n / 2)).length by omega]
theorem digits_le {w n : Nat} (h : n < 2 ^ (w + 1)) : (Nat.toDigits 2 n).length ≤ w + 1 := by
  have := congrArg List.length (digits_pad w n h)
  rw [bitsT_len, List.length_append, List.length_replicate, List.length_map] at this
  omega
theorem bin_cps (n : Nat) : (baseText "0b" 2 (n : Int)).cps.toList = 48 :: 98 :: (Nat.toDigits 2 n).map Char.toNat := by
  unfold baseText
  rw [if_neg (by omega), Int.natAbs_natCast]
  simp only [Str.ofString_eq_toList]
  show ((_ ++ _ : Str)).cps.toList = _
  show (((#[] : Array Nat) ++ _) ++ _ : Array Nat).toList = _
  simp
theorem cutL_from2 {α : Type} (a b : α) (l : List α) : cutL (a :: b :: l) (some 2) none = l := by
  have e : clipAt (a :: b :: l).length (2 : Int) = min 2 (a :: b :: l).length := clipAt_nat _ 2
  unfold cutL
  simp only [Option.elim_some, Option.elim_none, e]
  rw [show min 2 (a :: b :: l).length = 2 by simp]
  simp
/-- bin(n)[2:] -/
theorem bin_cut (n : Nat) : cutL (baseText "0b" 2 (n : Int)).cps.toList (some 2) none = (Nat.toDigits 2 n).map Char.toNat := by
  rw [bin_cps, cutL_from2]
theorem digits_ne (n : Nat) : (Nat.toDigits 2 n) ≠ [] := fun h => by
  have := toDigits_len_ge 2 n
  rw [h] at this; simp at this
theorem digit_sign {n c : Nat} (h : c ∈ (Nat.toDigits 2 n).map Char.toNat) : 48 ≤ c ∧ c ≤ 57 := by
  obtain ⟨ch, hch, e⟩ := List.mem_map.mp h
  have r := digit_range (Nat.isDigit_of_mem_toDigits (by decide) (by decide) hch)
  rw [← e]; exact r
/-- bin(n)[2:].zfill(w) -/
theorem zfill_bits {w n : Nat} (h : n < 2 ^ (w + 1)) : Txt.zfill (sL (cutL (baseText "0b" 2 (n : Int)).cps.toList (some 2) none)) ((w + 1 : Nat) : Int) = sL (bitsT (w + 1) n) := by
  rw [bin_cut]
  have hp := digits_pad w n h
  have hl := digits_le h
  generalize hd : (Nat.toDigits 2 n).map Char.toNat = ds at hp
  have hdl : ds.length = (Nat.toDigits 2 n).length := by rw [← hd, List.length_map]
  have hsl : (sL ds).length = ds.length := by show (sL ds).cps.size = _; simp [sL]
  unfold Txt.zfill
  by_cases hc : ((w + 1 : Nat) : Int) ≤ (sL ds).length
  · rw [if_pos hc]
    have : w + 1 - (Nat.toDigits 2 n).length = 0 := by rw [hsl] at hc; omega
    rw [this, List.replicate_zero, List.nil_append] at hp
    rw [hp]
  · rw [if_neg hc]
    have hne : ds ≠ [] := by
      rw [← hd]
      intro q
      exact digits_ne n (List.map_eq_nil_iff.mp q)
    obtain ⟨c, r, rfl⟩ := List.exists_cons_of_ne_nil hne
    have hc' := digit_sign (n := n) (c := c) (by rw [hd]; exact List.mem_cons_self)
    have hz : ∀ m, PySem.zfilled (sL (c :: r)) m = Builtin.Str.padded (sL (c :: r)) m 0 48 := fun m => by
      unfold PySem.zfilled
      have e : (sL (c :: r)).cps[0]? = some c := by simp [sL]
      rw [e]
      split
      · rename_i q; cases q; omega
      · rename_i q; cases q; omega
      · rfl
    rw [hz, ← hp]
    unfold Builtin.Str.padded
    rw [hsl]
    simp only [Int.toNat_natCast, Array.replicate_zero, Array.append_empty]
    unfold sL
    congr 1
    apply Array.toList_inj.mp
    simp only [Array.toList_append, Array.toList_replicate]
    rw [hdl]
theorem bch_bin (b : Bool) : bch b = 48 ∨ bch b = 49 := by cases b <;> simp [bch]
theorem bitsT_bin (w n : Nat) : Bin (bitsT w n) := fun c hc => by
  obtain ⟨k, _, rfl⟩ := List.mem_map.mp hc
  exact bch_bin _
theorem bval_append (a : List Nat) (c : Nat) : bval (a ++ [c]) = bval a * 2 + (c - 48) := by
  unfold bval; rw [List.foldl_append]; rfl
/-- the number that w bits say -/
theorem bval_bits : ∀ (w n : Nat), n < 2 ^ w → bval (bitsT w n) = n
  | 0, n, h => by
    have : n = 0 := by simpa using h
    subst this; rfl
  | w + 1, n, h => by
    rw [bitsT_succ, bval_append, bval_bits w (n / 2) (by rw [Nat.pow_succ] at h; omega)]
    unfold bt bch
    rcases Nat.mod_two_eq_zero_or_one n with q | q
    · simp [q]; omega
    · simp [q]; omega
/-- signs of a run of bits -/
def cbT (cb : Nat → Bool) (a n : Nat) : List Nat := (List.range n).map fun k => bch (cb (a + k))
theorem cbT_len (cb : Nat → Bool) (a n : Nat) : (cbT cb a n).length = n := by simp [cbT]
theorem cbT_bin (cb : Nat → Bool) (a n : Nat) : Bin (cbT cb a n) := fun c hc => by
  obtain ⟨k, _, rfl⟩ := List.mem_map.mp hc
  exact bch_bin _
theorem cbT_add (cb : Nat → Bool) (a m n : Nat) : cbT cb a (m + n) = cbT cb a m ++ cbT cb (a + m) n := by
  unfold cbT
  rw [List.range_add, List.map_append, List.map_map]
  congr 1
  refine List.map_congr_left fun k _ => ?_
  show bch (cb (a + (m + k))) = bch (cb (a + m + k))
  rw [Nat.add_assoc]
theorem cbT_bits {cb : Nat → Bool} {a w n : Nat} (h : ∀ k, k < w → cb (a + k) = bt n (w - 1 - k)) : cbT cb a w = bitsT w n := by
  unfold cbT bitsT
  exact List.map_congr_left fun k hk => by rw [h k (List.mem_range.mp hk)]
/-- groups of w bits -/
theorem cbT_groups {cb : Nat → Bool} {w : Nat} {f : Nat → Nat} : ∀ n, (∀ j, j < n → ∀ k, k < w → cb (j * w + k) = bt (f j) (w - 1 - k)) → cbT cb 0 (n * w) = (List.range n).flatMap fun j => bitsT w (f j)
  | 0, _ => by simp [cbT]
  | n + 1, h => by
    rw [Nat.succ_mul, cbT_add, cbT_groups n (fun j hj => h j (Nat.lt_succ_of_lt hj)), List.range_succ, List.flatMap_append]
    congr 1
    rw [List.flatMap_singleton, Nat.zero_add]
    exact cbT_bits (h n (Nat.lt_succ_self n))
theorem bval_app : ∀ (b a : List Nat), bval (a ++ b) = bval a * 2 ^ b.length + bval b
  | [], a => by simp [bval]
  | c :: b, a => by
    have e : a ++ c :: b = (a ++ [c]) ++ b := by simp
    have e2 : c :: b = [c] ++ b := rfl
    rw [e, bval_app b, bval_append]
    conv => rhs; rw [e2, bval_app b [c]]
    rw [List.length_append, List.length_singleton]
    have e3 : bval [c] = c - 48 := by simp [bval]
    rw [e3, Nat.add_mul, Nat.pow_add, Nat.pow_one, Nat.add_assoc, Nat.mul_assoc]
theorem bigv_snoc (l : List UInt8) (c : UInt8) : (l ++ [c]).foldl (fun (acc : Nat) (c : UInt8) => acc * 256 + c.toNat) 0 = l.foldl (fun (acc : Nat) (c : UInt8) => acc * 256 + c.toNat) 0 * 256 + c.toNat := by
  rw [List.foldl_append]; rfl
/-- the number that the bits of some octets say -/
theorem bval_octets {cb : Nat → Bool} (B : Array UInt8) (h : ∀ i (h : i < B.size), ∀ j, j < 8 → cb (i * 8 + j) = bt B[i].toNat (7 - j)) : bval (cbT cb 0 (B.size * 8)) = bigv B := by
  have key : ∀ n, n ≤ B.size → bval (cbT cb 0 (n * 8)) = (B.toList.take n).foldl (fun (acc : Nat) (c : UInt8) => acc * 256 + c.toNat) 0 := by
    intro n
    induction n with
    | zero => intro _; simp [cbT, bval]
    | succ n ih =>
      intro hn
      have hlt : n < B.size := hn
      rw [Nat.succ_mul, cbT_add, bval_app, ih (Nat.le_of_lt hn), Nat.zero_add, cbT_len, List.take_add_one]
      have e : B.toList[n]? = some B[n] := by simp [hlt]
      rw [e]
      show _ = ((B.toList.take n) ++ [B[n]]).foldl _ 0
      rw [bigv_snoc, cbT_bits (w := 8) (n := B[n].toNat) (fun k hk => h n hlt k hk), bval_bits 8 _ (UInt8.toNat_lt _)]
  have := key B.size (Nat.le_refl _)
  rw [this, bigv, List.take_of_length_le (by simp)]
end Mine

set_option maxRecDepth 100000
set_option linter.unusedVariables false
namespace Mine
open PySem PySem.W PySem.Calls PyProof.Rows

theorem bin_len (n : Nat) : (baseText "0b" 2 (n : Int)).length = (Nat.toDigits 2 n).length + 2 := by
  have := congrArg List.length (bin_cps n)
  rw [Array.length_toList, List.length_cons, List.length_cons, List.length_map] at this
  exact this
theorem sL_cps (l : List Nat) : (sL l).cps.toList = l := by simp [sL]
theorem sL_len (l : List Nat) : (sL l).length = l.length := by show (sL l).cps.size = _; simp [sL]
theorem cutL_take {α : Type} (l : List α) (n : Nat) : cutL l none (some (n : Int)) = l.take n := by
  unfold cutL
  simp only [Option.elim_some, Option.elim_none, clipAt_nat]
  rw [List.drop_zero, Nat.sub_zero, List.take_eq_take_iff]
  omega
theorem cutL_back {α : Type} (l : List α) (n : Nat) (h : 1 ≤ n) : cutL l (some (-(n : Int))) none = l.drop (l.length - n) := by
  unfold cutL
  simp only [Option.elim_some, Option.elim_none, clipAt_neg _ _ h]
  exact List.take_of_length_le (by rw [List.length_drop]; omega)
theorem cutL_drop {α : Type} (l : List α) (n : Nat) : cutL l (some (n : Int)) none = l.drop n := by
  unfold cutL
  simp only [Option.elim_some, Option.elim_none, clipAt_nat]
  by_cases h : n ≤ l.length
  · rw [Nat.min_eq_left h]
    exact List.take_of_length_le (by rw [List.length_drop]; omega)
  · rw [Nat.min_eq_right (by omega), Nat.sub_self, List.take_zero, List.drop_eq_nil_of_le (by omega)]
theorem join_empty : ∀ ws : List (List Nat), Str.join (Str.ofString "") (ws.map sL) = sL ws.flatten
  | [] => by rw [List.map_nil, join_nil]; rfl
  | [a] => by simp [join_one]
  | a :: b :: r => by
    have ih := join_empty (b :: r)
    rw [List.map_cons, List.map_cons, join_cons_cons, ← List.map_cons, ih]
    have e : (Str.ofString "" : Str) = ⟨#[]⟩ := by decide +kernel
    rw [e, List.flatten_cons]
    show (⟨(sL a).cps ++ #[] ++ (sL (b :: r).flatten).cps⟩ : Str) = _
    unfold sL
    congr 1
    apply Array.toList_inj.mp
    simp
theorem bitsT_bval : ∀ (n : Nat) (T : List Nat), T.length = n → Bin T → bitsT n (bval T) = T
  | 0, T, h, _ => by
    have : T = [] := List.eq_nil_of_length_eq_zero h
    subst this; rfl
  | n + 1, T, h, hb => by
    have hne : T ≠ [] := fun q => by rw [q] at h; cases h
    have e := List.dropLast_concat_getLast hne
    have hc := hb _ (List.getLast_mem hne)
    have hb' : Bin T.dropLast := fun c hc => hb c (List.dropLast_subset _ hc)
    have hl : T.dropLast.length = n := by rw [List.length_dropLast, h]; rfl
    generalize T.getLast hne = c at *
    generalize T.dropLast = D at *
    subst e
    rw [bitsT_succ, bval_append]
    have h1 : (bval D * 2 + (c - 48)) / 2 = bval D := by rcases hc with rfl | rfl <;> omega
    rw [h1, bitsT_bval n D hl hb']
    congr 2
    unfold bt bch
    rcases hc with rfl | rfl
    · simp
    · have : (bval D * 2 + (49 - 48)) / 2 ^ 0 % 2 = 1 := by simp
      simp
/-- the octets of the number that octets say -/
theorem little_big : ∀ (l : List UInt8), (KTBy.little l.length ((l.foldl (fun (acc : Nat) (c : UInt8) => acc * 256 + c.toNat) 0 : Nat) : Int)).reverse = l.map fun c => ((c.toNat : Nat) : Int) := by
  have key : ∀ (n : Nat) (l : List UInt8), l.length = n → (KTBy.little n ((l.foldl (fun (acc : Nat) (c : UInt8) => acc * 256 + c.toNat) 0 : Nat) : Int)).reverse = l.map fun c => ((c.toNat : Nat) : Int) := by
    intro n
    induction n with
    | zero =>
      intro l h
      have : l = [] := List.eq_nil_of_length_eq_zero h
      subst this; rfl
    | succ n ih =>
      intro l h
      have hne : l ≠ [] := fun q => by rw [q] at h; cases h
      have e := List.dropLast_concat_getLast hne
      have hl : l.dropLast.length = n := by rw [List.length_dropLast, h]; rfl
      generalize l.getLast hne = c at *
      generalize l.dropLast = D at *
      subst e
      rw [bigv_snoc]
      have := ih D hl
      generalize D.foldl (fun (acc : Nat) (c : UInt8) => acc * 256 + c.toNat) 0 = v at *
      have hc := UInt8.toNat_lt c
      show (_ :: KTBy.little n _).reverse = _
      rw [show ((v * 256 + c.toNat : Nat) : Int) / 256 = (v : Int) by omega, show ((v * 256 + c.toNat : Nat) : Int) % 256 = ((c.toNat : Nat) : Int) by omega]
      rw [List.reverse_cons, this, List.map_append]
      rfl
  exact fun l => key _ l rfl
theorem bytes_back (B : Array UInt8) : byteArr (KTBy.little B.size (bigv B : Int)).reverse = B := by
  have := little_big B.toList
  rw [Array.length_toList] at this
  rw [bigv, this]
  exact (arr_of_ints rfl).symm

theorem octets_bits (D : Array UInt8) : bitsT (D.size * 8) (bigv D) = cbT (fun i => bt (D.getD (i / 8) 0).toNat (7 - i % 8)) 0 (D.size * 8) := by
  rw [← bval_octets (cb := fun i => bt (D.getD (i / 8) 0).toNat (7 - i % 8)) D fun i h j hj => ?_]
  · exact bitsT_bval _ _ (cbT_len _ _ _) (cbT_bin _ _ _)
  · show bt (D.getD ((i * 8 + j) / 8) 0).toNat (7 - (i * 8 + j) % 8) = _
    rw [show (i * 8 + j) / 8 = i by omega, show (i * 8 + j) % 8 = j by omega, Array.getD_eq_getD_getElem?, Array.getElem?_eq_getElem h, Option.getD_some]
theorem cbT_take (cb : Nat → Bool) (a m n : Nat) (h : m ≤ n) : (cbT cb a n).take m = cbT cb a m := by
  obtain ⟨k, rfl⟩ := Nat.exists_eq_add_of_le h
  rw [cbT_add]
  exact List.take_left' (cbT_len _ _ _)
theorem cbT_drop (cb : Nat → Bool) (a m n : Nat) (h : m ≤ n) : (cbT cb a n).drop m = cbT cb (a + m) (n - m) := by
  obtain ⟨k, rfl⟩ := Nat.exists_eq_add_of_le h
  rw [cbT_add, Nat.add_sub_cancel_left]
  exact List.drop_left' (cbT_len _ _ _)
section
variable {prog : Program} {w : World} {A : Around} {K : Frag} {g0 h0 h h' : Heap} {mg mb : Str → Option Value} {env : Env} {X Y Y' Z : Addr → Prop} {ρ ρ' : List (Str × PV)} {x : Str} {P' : Flow → Heap → Prop} {P P₁ P₂ : PV}
theorem ev_neg {e : Expr} {pos : Pos} {n : Int} (x : Ev prog w A h0 (eval e env) (isI n)) : Ev prog w A h0 (eval (.UnaryOp .USub e pos) env) (isI (-n)) := fun s Q E k q =>
  wpAny_UnaryOp (x s _ E k fun v h₁ tk k₁ ⟨t, ev⟩ => by
    subst ev
    exact PyProof.Rows.neg_int (q _ _ _ k₁ ⟨_, rfl⟩))
/-- a try whose body neither leaves it nor raises -/
theorem ex_try {body rest : List Stmt} {hd : ExceptHandler} {hs : List ExceptHandler} {pos : Pos} {J : Heap → Prop} (x : Ex prog w A Y h (execs body env) (fun fl h' => fl = .next ∧ J h')) (n : ∀ h', KeepB Y h h' → J h' → Ex prog w A Y h' (execs rest env) P') :
    Ex prog w A Y h (execs (.Try body (hd :: hs) [] [] pos :: rest) env) P' := fun s Q E e q => by
  refine wpAny_execs_cons (wpAny_Try_except (x s _ _ e fun fl h' tk k l p => ?_))
  obtain ⟨rfl, j⟩ := p
  exact wpAny_execs_nil (n h' k j ⟨h', s.gens, s.drawn, tk, s.os⟩ Q E rfl fun fl h'' tk' k' l' p' => q fl h'' tk' (k.trans k') (l.trans l') p')
/-- a lambda called, told by what its names hold -/
theorem ev_lamF {name qual : Str} {params : Arguments} {body : Expr} {scope : Scope} {clos : List (Str × Addr)} {pm ctv : Value} {c' f : Addr} {args : List Value} {binds : List (Str × Value)} (ρ : List (Str × PV)) (W : Wd K g0 mg mb) (b : Keep g0 h0) (hroom : A.depth < recursionLimit)
    (hf : h0.get? f = some (kla_obj name qual params body scope clos pm c' ctv)) (hcd : h0.CodeRec (.ref c') qual) (hbind : bindArgs (kla_fn name qual params body scope clos pm (.ref c') ctv) ⟨args, []⟩ = pure binds)
    (hloc : ∀ y ∈ binds, scope.names.lookup y.1 = some .local) (hcell : ∀ x ∈ scope.names, x.2 ≠ .cell) (hco : scope.isCoroutine = false) (hgen : scope.isGenerator = false) (hk : scope.kind = .function)
    (hρ : ∀ L h₁, Keep h0 h₁ → h₁.Ns L (fun y => binds.reverse.lookup y) → ∀ q ∈ ρ, Mono q.2 ∧ ∃ v, Var (envX qual scope L f (.ref c') clos) h₁ q.1 v ∧ q.2 v h₁)
    (hrun : ∀ L h₁, Keep h0 h₁ → Fre g0 (envX qual scope L f (.ref c') clos) ρ h₁ → Ev prog w (A.deeper (envX qual scope L f (.ref c') clos)) h₁ (eval body (envX qual scope L f (.ref c') clos)) P) : Ev prog w A h0 (call (.ref f) args) P :=
  ev_lam W b hroom hf hcd hbind hloc hcell hco hgen hk fun L h₁ k ns hL => hrun L h₁ k ⟨b.trans k, hk, rfl, rfl, fun q hq => let ⟨m, v, y, z⟩ := hρ L h₁ k ns q hq; ⟨m, v, y, z⟩⟩
theorem TabOk.avoid {p : Addr} {pos : Pos} {qual : Str} {I l : Addr} {i : Nat} (x : TabOk p pos qual X h) (it : h.IsListIter I l i) : TabOk p pos qual (fun a => X a ∨ a = I) h := by
  rcases x with x | ⟨c', o, vs, t, a, b, c, d, e⟩
  · exact .inl x
  · refine .inr ⟨c', o, vs, t, a, fun z => z.elim b fun z => ?_, c, d, e⟩
    subst z
    obtain ⟨o', e1, e2, e3⟩ := it
    rw [e1] at c; cases c
    rw [e3] at d; cases d
    simp at e
end
end Mine

set_option maxRecDepth 100000
set_option linter.unusedVariables false
namespace Mine
open PySem PySem.W PySem.Calls PyProof.Rows

/-- a plain list that may be changed -/
def MP (L : Addr) (ds : List S) (h : Heap) : Prop := ∃ vs, h.PlainList L vs ∧ Paired S.is ds vs.toList
theorem MP.at {L : Addr} {ds : List S} {h h' : Heap} (x : MP L ds h) (k : ∀ o, h.get? L = some o → h'.get? L = some o) : MP L ds h' := by
  obtain ⟨vs, ⟨n, e⟩, p⟩ := x
  exact ⟨vs, ⟨n, k _ e⟩, p⟩
theorem MP.ld {L : Addr} {ds : List S} {h : Heap} {X : Addr → Prop} (x : MP L ds h) (n : ¬ X L) : isLd X ds (.ref L) h := by
  obtain ⟨vs, ⟨m, e⟩, p⟩ := x
  exact ⟨⟨L, vs, rfl, n, Heap.PlainList.isList ⟨m, e⟩, p⟩, L, _, rfl, e, rfl⟩

section
variable {prog : Program} {w : World} {A : Around} {K : Frag} {g0 h0 h h' : Heap} {mg mb : Str → Option Value} {env : Env} {X Y Y' : Addr → Prop} {ρ ρ' : List (Str × PV)} {x : Str} {P' : Flow → Heap → Prop} {P P₁ P₂ : PV}
/-- an empty list -/
theorem ev_empty {pos : Pos} : Ev prog w A h (eval (.List [] pos) env) (fun v h' => ∃ L, v = .ref L ∧ h.get? L = none ∧ (∃ o, h'.get? L = some o) ∧ MP L [] h') := fun s Q E k q =>
  wpAny_List ((ev_args0 (pos := pos)) s _ E k fun vs h₁ tk₁ k₁ ev => ⟨by rw [ev]; exact Nat.zero_le _, q _ _ _ (k₁.trans keep_push) ⟨_, rfl, none_of_keep (k.trans k₁) get_size, ⟨_, Heap.get?_push_size _ rfl⟩, #[], ⟨0, by subst ev; exact Heap.get?_push_size _ rfl⟩, .nil⟩⟩)
/-- o.append(e) as a statement, o a plain list -/
theorem ex_append {o e : Expr} {apos cpos pos : Pos} {rest : List Stmt} {L : Addr} {d : S} {ds : List S} {pl : Sem Bool} (F : Frm g0 env X Y ρ h) (ho : Ev prog w A h (eval o env) (isV (.ref L))) (hv : Ev prog w A h (eval e env) (isD d))
    (hX : X L) (hl : L ≠ env.locals) (hc : ∀ n c, env.cells.lookup n = some c → c ≠ L) (ml : MP L ds h) (hz : ds.length ≤ 100000)
    (nx : ∀ h', KeepB (· = L) h h' → MP L (ds ++ [d]) h' → Frm g0 env X Y ρ h' → Ex prog w A Y' h' (execs rest env) P')
    (hi : interactive env = false) (hsw : swapsWith (.Call (.Attribute o (Str.ofString "append") apos) [e] [] cpos) none pos.line env = pure false)
    (hcw : ∀ ov, callWith cpos (.builtin "list.append") [ov] (backTo cpos (starEach [e] env)) (backToKw cpos (keywordEach [] env)) = callWith cpos (.builtin "list.append") [ov] (backTo cpos (starEach [e] env)) [])
    (he : eval (.Call (.Attribute o (Str.ofString "append") apos) [e] [] cpos) env = (do let ov ← eval o env; standAt apos.atName; let (f, first) ← holding [ov] (getMethod ov (Str.ofString "append") pl); callWith cpos f first (backTo cpos (starEach [e] env)) (backToKw cpos (keywordEach [] env))))
    (hse : starEach [e] env = [(false, eval e env)]) (hY : Y' L) : Ex prog w A Y' h (execs (.Expr (.Call (.Attribute o (Str.ofString "append") apos) [e] [] cpos) pos :: rest) env) P' := fun s Q E eq q => by
  subst eq
  refine wpAny_execs_cons (wpAny_Expr ?_ hi hsw)
  refine methodCall_KW (pl := pl) (ho.use fun ov h₁ tk₁ k₁ ev => ?_) he
  have ev' : ov = .ref L := ev
  subst ev'
  obtain ⟨vs, ⟨m, hL⟩, pr⟩ := ml
  have hL₁ := k₁ _ _ hL
  refine getMethod_builtin (s := ⟨h₁, s.gens, s.drawn, tk₁, s.os⟩) ⟨_, hL₁, rfl⟩ PySem.F.plainAttrs_list slot_list_append type_list_append (fun a e => by cases e; exact ⟨_, hL₁, rfl⟩) ?_
  show wpAny _ _ (callWith cpos (.builtin "list.append") [.ref L] _ _) _ _ _
  rw [hcw]
  refine callWith_method1 ((ev_args1 (P₁ := isD d) hv (fun _ _ _ _ p => p) hse) ⟨h₁, s.gens, s.drawn, tk₁, s.os⟩ _ E k₁ fun us h₂ tk₂ k₂ ⟨y, eu, hy⟩ => ?_) hse rfl
  subst eu
  have hL₂ := k₂ _ _ hL₁
  have ez : vs.size = ds.length := by rw [pr.length]; simp
  refine wpAny_list_append_plain (s := ⟨h₂, s.gens, s.drawn, tk₂, s.os⟩) (hsz := by rw [ez, sizeLine_eq]; omega) ⟨m, hL₂⟩ fun h' hl' hB => ?_
  show wpAny _ _ (execs rest env) Q E _
  have hb : But L h₂ h' := hB.extBut
  have lv : ∃ o, h'.get? L = some o := let ⟨n, e⟩ := hl'; ⟨_, e⟩
  have kk := k₁.trans k₂
  have kL : KeepB (· = L) s.heap h' := fun b o n e => hb b o n (kk b o e)
  refine nx h' kL ⟨_, hl', ?_⟩ ((F.keep kk).one hX hl hc hb lv) ⟨h', s.gens, s.drawn, tk₂, s.os⟩ Q E rfl fun fl h'' tk' k' l' p' => q fl h'' tk' (fun b o n e => k' b o n (kL b o (fun z => n (z ▸ hY)) e)) ((kk.live.trans (live_same hb lv)).trans l') p'
  rw [Array.toList_push]
  exact paired_append pr (.cons hy .nil)
end
end Mine

set_option maxRecDepth 100000
set_option linter.unusedVariables false
namespace Mine
open PySem PySem.W PySem.Calls PyProof.Rows
open AutoSeq1 (wpAny_loadPart')

theorem ba_no_bytes : typeLookup (.type "bytearray") (Str.ofString "__bytes__") = pure none := by rw [typeLookup_type, builtinLookup_eq_fast]; kernel_rfl
theorem ba_no_index : typeLookup (.type "bytearray") (Str.ofString "__index__") = pure none := by rw [typeLookup_type, builtinLookup_eq_fast]; kernel_rfl
theorem ba_buf : typeLookup (.type "bytearray") (Str.ofString "__buffer__") = pure (some (.builtin "bytearray.__buffer__")) := by rw [typeLookup_type, builtinLookup_eq_fast]; kernel_rfl
theorem ba_bends : ("bytearray.__buffer__".endsWith ("." ++ "__buffer__")) = true := by decide +kernel
theorem ba_bdrop : ("bytearray.__buffer__".dropRight ("__buffer__".length + 1)) = "bytearray" := by decide +kernel
section
variable {prog : Program} {w : World} {A : Around} {E : Value → Shared → Prop} {s : Shared}
theorem ba_slotOwn {a : Addr} {b : Array UInt8} {Q : Bool → Shared → Prop} (hl : IsBA s.heap a b) (h : Q true s) : wpAny (model prog w) A (Builtin.Bytes.slotIsOwn (.ref a) "__buffer__") Q E s := by
  have hl' : s.heap.get? a = some { cls := .type "bytearray", data := .bytearray b 0 } := hl
  have hT : s.TypeIs (.ref a) "bytearray" := ⟨_, hl, rfl⟩
  unfold Builtin.Bytes.slotIsOwn
  refine wpAny_bind (wpAny_specialOf hT ba_buf ?_)
  dsimp only
  refine bm_if_false (by rw [ba_bends]; rfl) ?_
  rw [ba_bdrop]
  exact wpAny_isInstance (T := "bytearray") (b := true) hT sub_ba h
theorem bytes_new_ba {a : Addr} {b : Array UInt8} {Q : Value → Shared → Prop} (hl : IsBA s.heap a b) (hz : b.size ≤ 1000) (hQ : ∀ t k, Q (.bytes b t) { s with toks := k }) :
    codeAny (model prog w) A (.call (.builtin "bytes.__new__") ⟨[.type "bytes", .ref a], []⟩) (wants Q E) s := by
  refine codeAny_of_tree ?_
  show wpAny _ A.in1 (do checkBuiltinCall "bytes.__new__" ⟨[.type "bytes", .ref a], []⟩; again (.builtin "bytes.__new__" ⟨[.type "bytes", .ref a], []⟩)) _ _ s
  refine wpAny_bind (wpAny_of_eq (F.bm_newCall _) (wpAny_pure ⟨plainId_quiet F.bm_plain _, codeAny_builtin F.bm_entry ?_⟩))
  rw [Around.under_plainId F.bm_plain _]
  have hT : s.TypeIs (.ref a) "bytearray" := ⟨_, hl, rfl⟩
  unfold Builtin.«bytes.__new__»
  refine wpAny_bind (wpAny_of_eq (a := true) rfl ?_)
  refine bm_if_false rfl ?_
  refine wpAny_bind (wpAny_of_eq F.bm_sub ?_)
  refine bm_if_false rfl ?_
  refine wpAny_bind (wpAny_of_eq (F.bm_bind _) ?_)
  refine wpAny_bind (wpAny_of_eq (a := ()) rfl ?_)
  refine wpAny_bind (wpAny_of_eq (a := ()) rfl ?_)
  refine bm_if_false rfl ?_
  refine wpAny_bind (wpAny_specialOf hT ba_no_bytes ?_)
  refine wpAny_bind (wpAny_bind ?_)
  show wpAny _ _ (load a >>= _) _ _ _
  refine wpAny_bind (wpAny_load hl ?_)
  refine wpAny_pure (wpAny_pure ?_)
  refine bm_if_false rfl ?_
  refine wpAny_bind (wpAny_specialOf hT ba_no_index ?_)
  refine bm_if_true rfl ?_
  first
    | show wpAny _ _ (Builtin.Bytes.buffer? "bytes.__new__" (.ref a) true >>= _) _ _ _
    | (refine wpAny_bind ?_; show wpAny _ _ (Builtin.Bytes.buffer? "bytes.__new__" (.ref a) true >>= _) _ _ _)
  refine wpAny_bind ?_
  unfold Builtin.Bytes.buffer?
  refine wpAny_bind (wpAny_specialOf hT ba_buf ?_)
  dsimp only
  refine wpAny_bind (ba_slotOwn hl ?_)
  refine bm_if_false rfl ?_
  refine wpAny_bind (wpAny_specialOf hT ba_buf ?_)
  refine wpAny_bind (ba_ownRelease hl ?_)
  refine bm_if_false rfl ?_
  refine wpAny_bind (ba_payload hl (wpAny_pure ?_))
  dsimp only
  refine wpAny_bind (wpAny_rule ?_)
  refine wpAny_bind (wpAny_mkBytes ?_ (by rw [sizeLine_eq]; omega))
  show wpAny _ _ (if (Value.type "bytes" == Value.type "bytes") = true then _ else _) _ _ _
  refine bm_if_true (by decide) ?_
  first
    | exact wpAny_pure (hQ _ _)
    | exact wpAny_pure ⟨_, rfl, hQ _ _⟩
    | exact wpAny_bind (wpAny_pure (wpAny_pure (hQ _ _)))
theorem call_bytesA {h : Heap} {v : Value} {a : Addr} {b : Array UInt8} (e : v = .ref a) (p : IsBA h a b) (hz : b.size ≤ 1000) : Ev prog w A h (call (.type "bytes") [v]) (isY b) := fun s Q E k q => by
  subst e
  refine callType_codes (Q₁ := fun obj s₁ => s₁.TypeIs obj "bytes" ∧ Q obj s₁) F.bm_called (F.bm_typeCall _) F.entry_object_init
    (bytes_new_ba (k _ _ p) hz fun t tk => ⟨PySem.W.typeIs_bytes _ _ _, q _ s.heap tk (fun _ _ e => e) ⟨t, rfl⟩⟩) fun obj s₁ h₁ => ?_
  exact ⟨h₁.1, F.args_object_init_2 obj _, object_init_meets F.bm_called.init.lookup F.bm_called.made (by decide) prog w A.in1 _ s₁ ⟨h₁.1, rfl, h₁.2⟩⟩
end
end Mine

set_option maxRecDepth 100000
set_option linter.unusedVariables false
namespace Mine
open PySem PySem.W PySem.Calls PyProof.Rows

theorem bai_slot_iter : Slot "bytearray_iterator" "__iter__" "bytearray_iterator.__iter__" :=
  .of (owner := "bytearray_iterator") (n := "__iter__") (by rw [typeLookup_type, builtinLookup_eq_fast]; kernel_rfl) (by decide +kernel) (by decide +kernel) (by decide +kernel)
    (by first | exact .inl (by decide +kernel) | exact .inr (by decide +kernel)) (by rw [isSubtype_type]; kernel_rfl)
theorem bai_entry_iter : entryFor table "bytearray_iterator.__iter__" = some Builtin.«dict_keyiterator.__iter__» :=
  entryFor_alias (id' := "dict_keyiterator.__iter__") (by kernel_rfl) (by first | rfl | decide +kernel | (unfold String.splitOn; simp +decide [String.splitOnAux])) (by decide +kernel) (by kernel_rfl)
theorem bai_args_iter (a : Value) : argsOk "bytearray_iterator.__iter__" ⟨[a], []⟩ := by unfold argsOk; kernel_rfl

section
variable {prog : Program} {w : World} {A : Around} {E : Value → Shared → Prop} {s : Shared}
theorem walks_ba (hh : A.handled = none) {it a : Addr} {b : Array UInt8} (hne : a ≠ it) : Walks prog w A it [it, a] [it] b.size (fun i v => ∃ u, v = .int ((b.getD i 0).toNat : Int) u) (fun i h => IsBAIter h it a i ∧ IsBA h a b) where
  sub := fun _ hb => by rw [List.mem_singleton.mp hb]; simp
  frame := fun i h h' st k => ⟨let ⟨o, e, r⟩ := st.1; ⟨o, k it (by simp) o e, r⟩, k a (by simp) _ st.2⟩
  item := fun i s Q E hi st hQ => by
    obtain ⟨hit, hb⟩ := st
    obtain ⟨o, ho, hc, hd⟩ := id hit
    have hx : b[i]? = some (b.getD i 0) := by rw [Array.getD_eq_getD_getElem?]; simp [hi]
    unfold pyNext
    refine wpAny_bind (wpAny_attempt (wpAny_callSpecial?_slot (name := Str.ofString "__next__") hit.ty ba_slot_next
      (wpAny_call_entry ba_slot_next hit.ty ba_entry_next ?_ (ba_args_next _))))
    show wpAny _ _ (field (.ref it) 0 >>= _) _ _ s
    refine wpAny_bind (wpAny_field ho hd (x := .ref a) rfl ?_)
    show wpAny _ _ (load a >>= _) _ _ s
    refine wpAny_bind (wpAny_load hb ?_)
    show wpAny _ _ (field (.ref it) 1 >>= _) _ _ s
    refine wpAny_bind (wpAny_field ho hd (x := .int i 0) rfl ?_)
    simp only [Int.toNat_natCast, hx]
    refine wpAny_bind (wpAny_setField ho hd (by simp) (wpAny_bind (wpAny_mkInt (wpAny_pure ⟨_, rfl, wpAny_pure (hQ _ _ _ ⟨_, rfl⟩ ⟨?_, (Heap.get?_update_ne _ _ _ _ hne).trans hb⟩ fun b o hb e => (Heap.SameBut.update ..).extBut b o (fun z => hb (by simp [z])) e)⟩))))
    exact ⟨_, Heap.get?_update_self _ ho (Obj.isFreed_of_fields (Obj.data_mapFields hd _)), (Obj.cls_mapFields ..).trans hc, by
      rw [Obj.data_mapFields hd]; simp [rawInt]⟩
  done := fun s Q E st hQ => by
    obtain ⟨hit, hb⟩ := st
    obtain ⟨o, ho, hc, hd⟩ := id hit
    have hx : b[b.size]? = none := by simp
    unfold pyNext
    refine wpAny_bind (wpAny_attempt (wpAny_callSpecial?_slot (name := Str.ofString "__next__") hit.ty ba_slot_next
      (wpAny_call_entry ba_slot_next hit.ty ba_entry_next ?_ (ba_args_next _))))
    show wpAny _ _ (field (.ref it) 0 >>= _) _ _ s
    refine wpAny_bind (wpAny_field ho hd (x := .ref a) rfl ?_)
    show wpAny _ _ (load a >>= _) _ _ s
    refine wpAny_bind (wpAny_load hb ?_)
    show wpAny _ _ (field (.ref it) 1 >>= _) _ _ s
    refine wpAny_bind (wpAny_field ho hd (x := .int (b.size : Nat) 0) rfl ?_)
    simp only [Int.toNat_natCast, hx]
    refine wpAny_bind (wpAny_rule (wpAny_bind (wpAny_setField ho hd (by simp) ?_)))
    refine wpAny_bind (wpAny_letGo ?_)
    show wpAny _ _ (newExc (.type "StopIteration") [] >>= _) _ _ _
    refine wpAny_bind ?_
    simp only [newExc, newTuple]
    refine wpAny_bind (wpAny_newObj_type ?_ (by size_fits))
    refine wpAny_bind (m := firstArgMember _ _) (wpAny_of_eq (a := Value.none) (by first | rfl | (simp only [firstArgMember]; rfl)) ?_)
    refine wpAny_newObj_type ?_ (by size_fits)
    simp only [raiseNew]
    refine wpAny_bind (wpAny_handled ?_)
    first | rw [show A.in1.handled = none from hh] | rw [hh]
    refine wpAny_bind (wpAny_pure (wpAny_throw ?_))
    refine wpAny_bind (wpAny_isInstance (T := "StopIteration") (b := true) ⟨_, Heap.get?_push_size _ rfl, rfl⟩ isSubtype_stop ?_)
    exact wpAny_pure (hQ _ s.toks fun b o hb e => (((Heap.SameBut.update ..).extBut.push _).push _) b o (fun z => hb (by simp [z])) e)
  self := fun i s Q E st hQ => by
    have hT := st.1.ty
    refine wpAny_pyIter_slot hT bai_slot_iter (wpAny_call_entry bai_slot_iter hT bai_entry_iter ?_ (bai_args_iter _))
    show wpAny _ _ (ret (.ref it)) _ _ s
    exact wpAny_pure ⟨_, rfl, "bytearray_iterator", _, hT, ba_slot_next.lookup, hQ⟩
theorem hint_ba {r : Addr} {Q : Bool → Shared → Prop} (hT : s.TypeIs (.ref r) "bytearray") (h : Q false s) : wpAny (model prog w) A (Builtin.List.listLengthHint (.ref r)) Q E s := by
  unfold Builtin.List.listLengthHint
  refine wpAny_bind (wpAny_specialOf hT ba_slot_len.lookup ?_)
  generalize hid : ("bytearray.__len__" : String) = id0
  wp_delta
  rw [show splitId id0 = some ("bytearray", "__len__") from by subst hid; decide +kernel]
  subst hid
  refine wpAny_bind (wpAny_isInstance (T := "bytearray") (b := true) hT (by rw [isSubtype_type]; kernel_rfl) ?_)
  refine wpAny_ite_split (fun hab => absurd hab (by decide)) (fun _ => ?_)
  refine wpAny_ite_split (fun _ => ?_) (fun hab => absurd (by decide +kernel) hab)
  refine wpAny_bind (wpAny_typeOf hT ?_)
  exact wpAny_pure h
theorem src_ba (a : Addr) (b : Array UInt8) : KdlSrc prog w "bytearray" a a b.size (fun i v => ∃ u, v = .int ((b.getD i 0).toNat : Int) u) (fun h => IsBA h a b) where
  type := fun s ok => ⟨_, ok, rfl⟩
  there := fun h ok => ⟨Heap.lt_size ok, Heap.lt_size ok⟩
  keep := fun h h' ok k => k a (.inl rfl) _ ok
  notList := by decide
  notTuple := by decide
  hint := fun A E s Q ok h => hint_ba ⟨_, ok, rfl⟩ h
  iter := fun A s hh ok => ⟨_, fun i h => IsBAIter h s.heap.objs.size a i ∧ IsBA h a b, fun E Q q => pyIter_ba ok q, walks_ba hh (Nat.ne_of_lt (Heap.lt_size ok)), ⟨_, Heap.get?_push_size _ rfl, rfl, rfl⟩, Heap.get?_push_of_some _ ok⟩
/-- list(b), b a bytearray -/
theorem call_listA {X : Addr → Prop} {h : Heap} {v : Value} {a : Addr} {b : Array UInt8} (hh : A.handled = none) (e : v = .ref a) (p : IsBA h a b) (hz : b.size ≤ 1000) (hlive : ∀ a, X a → ∃ o, h.get? a = some o) :
    Ev prog w A h (call (.type "list") [v]) (isLI X (b.toList.map fun c => ((c.toNat : Nat) : Int))) := fun s Q E k q => by
  subst e
  refine kdl_call (src_ba a b) hh (k _ _ p) (by rw [sizeLine_eq]; omega) fun h' tk acc c kk hS hacc => ?_
  refine q _ h' tk kk ⟨_, acc, rfl, fun z => ?_, ⟨_, hS, rfl, _, rfl⟩, ?_⟩
  · obtain ⟨o, e⟩ := hlive _ z
    have := k _ _ e
    rw [get_size] at this; cases this
  · obtain ⟨h1, h2⟩ := hacc
    have key : ∀ n, n ≤ b.size → Paired S.is (((b.toList.take n).map fun c => ((c.toNat : Nat) : Int)).map S.int) (acc.toList.take n) := by
      intro n
      induction n with
      | zero => intro _; simp; exact .nil
      | succ n ih =>
        intro hn
        have hlt : n < acc.size := by omega
        have hlb : n < b.size := hn
        rw [List.take_add_one, List.take_add_one, List.map_append, List.map_append]
        have e : acc.toList[n]? = some acc[n] := by simp [hlt]
        have e2 : b.toList[n]? = some b[n] := by simp [hlb]
        rw [e, e2]
        refine paired_append (ih (Nat.le_of_lt hn)) (.cons ?_ .nil)
        obtain ⟨u, hu⟩ := h2 n acc[n] (by simp [hlt])
        rw [hu, Array.getD_eq_getD_getElem?, Array.getElem?_eq_getElem hlb]
        exact ⟨u, rfl⟩
    have := key b.size (Nat.le_refl _)
    rwa [List.take_of_length_le (by simp), List.take_of_length_le (by simp [h1])] at this
end
end Mine

set_option maxRecDepth 100000
set_option linter.unusedVariables false
namespace Mine
open PySem PySem.W PySem.Calls PyProof.Rows

section
variable {prog : Program} {w : World} {A : Around} {K : Frag} {g0 h0 h h' : Heap} {mg mb : Str → Option Value} {env : Env} {X X2 Y Y' Z : Addr → Prop} {ρ ρ' : List (Str × PV)} {x : Str} {P' : Flow → Heap → Prop} {P P₁ P₂ : PV}

theorem cmp_eqLI {ns ms : List Int} {v u : Value} (hu : A.units + 64 < cLine) (x : isLI X ns v h) (y : isLI X2 ms u h) : Ev prog w A h (compareOp .Eq v u) (isB (decide (ns = ms))) := fun s Q E k q => by
  obtain ⟨l, vs, rfl, n, hl, z⟩ := x
  obtain ⟨l', vs', rfl, n', hl', z'⟩ := y
  exact eq_intsK (vs := vs.toList) (us := vs'.toList) (hl.at fun o e => k l o e) (intsAre_of z) (hl'.at fun o e => k l' o e) (intsAre_of z') hu (q _ s.heap s.toks (fun _ _ e => e) rfl)
/-- the last item of a list -/
theorem ev_item_last {value slice : Expr} {pos : Pos} {ds : List S} {d : S} (x : Ev prog w A h0 (eval value env) (isL X ds)) (y : Ev prog w A h0 (eval slice env) (isI (-1))) (hz : ds.length < 2 ^ 62) (hd : ds.getLast? = some d)
    (hs : ∀ l u, subscripted slice false (.ref l) (.int (-1) u) = operate [.ref l, .int (-1) u] (getItem (.ref l) (.int (-1) u))) : Ev prog w A h0 (eval (.Subscript value slice pos) env) (isD d) :=
  ev_item x y Mono.l fun a j h k ⟨l, vs, e, n, hl, z⟩ ⟨u, e'⟩ => by
    subst e e'
    have ez : vs.size = ds.length := by rw [z.length]; simp
    have hd' : ds[ds.length - 1]? = some d := by rw [← List.getLast?_eq_getElem?]; exact hd
    obtain ⟨v, hv, hdv⟩ := paired_get z hd'
    have hne : 1 ≤ ds.length := by
      cases ds with
      | nil => cases hd
      | cons a r => simp
    refine ⟨"list", "list.__getitem__", fun s e => by subst e; exact hl.typeIs, slot_list_getitem.lookup, ⟨_, hs l u⟩, fun s Q E k q => ?_⟩
    exact wpAny_getItem_list_neg (hl.at fun o e => k l o e) (by omega) (by rw [ez]; omega) (by omega) (by rw [ez, show (-1 + (ds.length : Int)).toNat = ds.length - 1 by omega]; simpa using hv) (q v s.heap s.toks (fun _ _ e => e) hdv)

/-- a chain of or, all of it false -/
theorem ev_ors : ∀ {es : List Expr} {h0 : Heap}, (∀ e ∈ es, Ev prog w A h0 (isTrue e env (eval e env)) (fun c _ => c = false)) → Ev prog w A h0 (allTrue .Or es env) (fun c _ => c = false)
  | [], h0, _ => Ev.pure fun _ _ => rfl
  | e :: r, h0, x => by
    show Ev prog w A h0 (do
      match BoolOp.Or, ← isTrue e env (eval e env) with
      | .And, false => pure false
      | .Or, true => pure true
      | _, _ => allTrue .Or r env) _
    refine Ev.bind (x e List.mem_cons_self) fun c h k ec => ?_
    subst ec
    exact ev_ors fun e he => (x e (List.mem_cons_of_mem _ he)).base k
theorem ev_or {es : List Expr} {pos : Pos} {whole} (x : ∀ e ∈ es, Ev prog w A h0 (isTrue e env (eval e env)) (fun c _ => c = false)) : Ev prog w A h0 (isTrue (.BoolOp .Or es pos) env whole) (fun c _ => c = false) := by
  rw [arm_isTrue_BoolOp]
  exact ev_ors x

/-- a, b = (e, f), both local names: stored the other way round -/
theorem ex_tuple2 {a b : Str} {pa pb tp vp pos : Pos} {k1 k2 : Nat} {e f : Expr} {rest : List Stmt} (hh : A.handled = none) (F : Frm g0 env X Y ρ h) (he : Ev prog w A h (eval e env) P₁) (hf : Ev prog w A h (eval f env) P₂) (st₁ : Stable X P₁) (st₂ : Stable X P₂) (ρ₁ ρ' : List (Str × PV))
    (n : ∀ h', KeepB Y h h' → Frm g0 env X Y ρ' h' → Ex prog w A Y' h' (execs rest env) P')
    (hka : Loc env a) (hkb : Loc env b) (hda : (a == ("__debug__" : Str)) = false) (hdb : (b == ("__debug__" : Str)) = false) (hr₁ : ∀ q ∈ ρ₁, q = (b, P₂) ∨ (q ∈ ρ ∧ q.1 ≠ b)) (hr : ∀ q ∈ ρ', q = (a, P₁) ∨ (q ∈ ρ₁ ∧ q.1 ≠ a))
    (hse : starEach [e, f] env = (false, eval e env) :: starEach [f] env) (hsf : starEach [f] env = [(false, eval f env)])
    (hs : swapsWithSole [.Tuple [.Name a pa, .Name b pb] k1 tp] (.Tuple [e, f] k2 vp) pos.line env = pure false) (hw : swappedStores [.Tuple [.Name a pa, .Name b pb] k1 tp] (.Tuple [e, f] k2 vp) env = pure (some [a, b]))
    (hY : ∀ a, Y a → Y' a) : Ex prog w A Y' h (execs (.Assign [.Tuple [.Name a pa, .Name b pb] k1 tp] (.Tuple [e, f] k2 vp) pos :: rest) env) P' := fun s Q E eq q => by
  subst eq
  refine wpAny_execs_cons (Assign_Tuple_swapped (wpAny_Tuple ((ev_args2 he hf st₁.mono st₂.mono hse hsf).use fun vs h₁ tk₁ kk₁ ⟨u, v, ev, p₁, p₂⟩ => ⟨by subst ev; show 2 ≤ sizeLine; decide, ?_⟩)) hs hw)
  subst ev
  have ht : IsTup (h₁.push { cls := .type "tuple", data := .seq [u, v].toArray }) h₁.objs.size #[u, v] := ⟨_, Heap.get?_push_size _ rfl, rfl, _, rfl⟩
  refine unpackItems_tuple (s := ⟨h₁.push { cls := .type "tuple", data := .seq [u, v].toArray }, s.gens, s.drawn, tk₁, s.os⟩) (items := #[u, v]) hh ht fun h₂ hx => ?_
  have k12 : Keep h₁ h₂ := fun b o eb => hx b o (fun z => by
    have lt : b < h₁.objs.size := Heap.lt_size eb
    have z' : b = (h₁.push { cls := .type "tuple", data := .seq [u, v].toArray }).objs.size := z
    rw [Heap.size_push] at z'
    rw [z'] at lt
    exact absurd lt (Nat.not_lt.mpr (Nat.le_succ _))) (keep_push _ _ eb)
  have kk₂ : Keep s.heap h₂ := kk₁.trans k12
  have p₁' : P₁ u h₂ := st₁.mono _ _ _ k12 p₁
  have p₂' : P₂ v h₂ := st₂.mono _ _ _ k12 p₂
  show wpAny _ _ (assignInOrder [bindName env b, bindName env a] [v, u]) _ _ _
  have F₂ := F.keep kk₂
  refine assignInOrder_cons (wpAny_bindName ?_)
  refine store_any (s := ⟨h₂, s.gens, s.drawn, tk₁, s.os⟩) F₂ hdb hkb st₂ p₂' hr₁ fun h₃ tk₃ k₃ l₃ F₃ => ?_
  refine assignInOrder_cons (wpAny_bindName ?_)
  refine store_any (s := ⟨h₃, s.gens, s.drawn, tk₃, s.os⟩) F₃ hda hka st₁ (st₁ _ _ _ (fun b o nb e => k₃ b o (fun z => nb (F.sub _ z)) e) p₁') hr fun h₄ tk₄ k₄ l₄ F₄ => ?_
  refine assignInOrder_nil ?_
  have kk : KeepB Y s.heap h₄ := (kk₂.b.trans k₃).trans k₄
  exact n h₄ kk F₄ ⟨h₄, s.gens, s.drawn, tk₄, s.os⟩ Q E rfl fun fl h₅ tk₅ k₅ l₅ p₅ => q fl h₅ tk₅ ((kk.wide hY).trans k₅) (((kk₂.live.trans l₃).trans l₄).trans l₅) p₅

/-- runs that change Z -/
theorem cx_isTrue {e : Expr} {b : Bool} (x : Cx prog w A Z h (eval e env) P₁) (o : ∀ v h', P₁ v h' → Ev prog w A h' (truthy v) (fun c _ => c = b)) (hm : Mono P₁)
    (he : isTrue e env (eval e env) = (do let v ← eval e env; standAt e.pos; holding [v] (truthy v))) : Cx prog w A Z h (isTrue e env (eval e env)) (fun c h' => c = b ∧ ∃ v, P₁ v h') := fun s Q E eq q =>
  isTrue_plain (x s _ E eq fun v h₁ tk k l p => (o v h₁ p).use (s := ⟨h₁, s.gens, s.drawn, tk, s.os⟩) fun c h₂ tk₂ k₂ ec => q c h₂ tk₂ (k.trans k₂.b) (l.trans k₂.live) ⟨ec, v, hm _ _ _ k₂ p⟩) he
theorem cx_not {e : Expr} {pos : Pos} {b : Bool} {whole} {R : Heap → Prop} (x : Cx prog w A Z h (isTrue e env (eval e env)) (fun c h' => c = b ∧ R h')) : Cx prog w A Z h (isTrue (.UnaryOp .Not e pos) env whole) (fun c h' => c = !b ∧ R h') := fun s Q E eq q =>
  wpAny_isTrue_Not (x s _ E eq fun c h₁ tk k l p => q (!c) h₁ tk k l ⟨by rw [p.1], p.2⟩)
/-- a method of an object called, the call changes Z -/
theorem cx_method {o e : Expr} {name : Str} {apos pos : Pos} {pl : Sem Bool} {fa : Addr} (W : Wd K g0 mg mb) (b : Keep g0 h) (hk : keepIn K (.ref fa) = true) (x : Ev prog w A h (eval o env) P₁) (gm : ∀ v h', Keep h h' → P₁ v h' → Ev prog w A h' (getMethod v name pl) (fun fx _ => fx = (.ref fa, [v]))) (m₁ : Mono P₁)
    (y : ∀ h', Keep h h' → Ev prog w A h' (eval e env) P₂) (m₂ : Mono P₂) (oo : ∀ v u h', Keep h h' → P₁ v h' → P₂ u h' → Cx prog w A Z h' (call (.ref fa) [v, u]) P)
    (he : eval (.Call (.Attribute o name apos) [e] [] pos) env = (do let ov ← eval o env; standAt apos.atName; let (f, first) ← holding [ov] (getMethod ov name pl); callWith pos f first (backTo pos (starEach [e] env)) (backToKw pos (keywordEach [] env))))
    (hse : starEach [e] env = [(false, eval e env)]) : Cx prog w A Z h (eval (.Call (.Attribute o name apos) [e] [] pos) env) P := fun s Q E eq q => by
  subst eq
  refine methodCall_KW (pl := pl) (x.use fun v h₁ tk₁ k₁ p => (gm v h₁ k₁ p).use (s := ⟨h₁, s.gens, s.drawn, tk₁, s.os⟩) fun fx h₂ tk₂ k₂ efx => ?_) he
  subst efx
  have p₂ := m₁ _ _ _ k₂ p
  show wpAny _ _ (callWith pos (.ref fa) [v] (backTo pos (starEach [e] env)) []) _ _ _
  refine callWith_K W.kin hk ((ev_args1 (y h₂ (k₁.trans k₂)) m₂ hse).use (s := ⟨h₂, s.gens, s.drawn, tk₂, s.os⟩) fun vs h₃ tk₃ k₃ ⟨u, ev, pu⟩ => ⟨W.kin.keeps (b.trans ((k₁.trans k₂).trans k₃)), ?_⟩) hse rfl
  subst ev
  have k13 := (k₁.trans k₂).trans k₃
  exact oo v u h₃ k13 (m₁ _ _ _ k₃ p₂) pu ⟨h₃, s.gens, s.drawn, tk₃, s.os⟩ Q E rfl fun r h₄ tk₄ k₄ l₄ p₄ => q r h₄ tk₄ (k13.b.trans k₄) (k13.live.trans l₄) p₄
end
end Mine

set_option maxRecDepth 100000
set_option linter.unusedVariables false
namespace Mine
open PySem PySem.W PySem.Calls PyProof.Rows

/-- as Cx, in the clean contexts -/
def CxC {α : Type} (prog : Program) (w : World) (A : Around) (Z : Addr → Prop) (h : Heap) (t : Sem α) (P : α → Heap → Prop) : Prop :=
  ∀ (s : Shared) (Q : α → Shared → Prop) (E : Value → Shared → Prop), s.heap = h → (∀ v h' tk, KeepB Z h h' → Live h h' → P v h' → Q v { s with heap := h', toks := tk }) → wpC (model prog w) A t Q E s

section
variable {prog : Program} {w : World} {A : Around} {E : Value → Shared → Prop} {s : Shared}
theorem set_plain {l : Addr} {items : Array Value} {m : Nat} {k : Int} {t : Tok} {v : Value} {Q : Unit → Shared → Prop} (hl : s.heap.get? l = some { cls := .type "list", data := .seq items m })
    (h0 : 0 ≤ k) (hfit : k < 2 ^ 63) (hn : k < items.size)
    (hQ : ∀ h', h'.PlainList l (items.setIfInBounds k.toNat v) → Heap.SameBut l s.heap h' → Q () { s with heap := h' }) :
    wpAny (model prog w) A (setItem (.ref l) (.int k t) v) Q E s := by
  have hT : s.TypeIs (.ref l) "list" := ⟨_, hl, rfl⟩
  unfold setItem
  try with_reducible refine wpAny_holding ?_
  first | refine wpAny_bind (wpAny_pure ?_) | skip
  refine wpAny_bind (wpAny_sequenceKey hT (by decide) ?_)
  refine wpAny_bind (wpAny_callSpecial?_slot (name := Str.ofString "__setitem__") hT slot_list_setitem
    (wpAny_call_entry slot_list_setitem hT entry_list_setitem ?_ (args_list_setitem _ _ _)))
  show wpAny _ _ (Builtin.List.listSubscript? (.int k t) >>= _) _ _ s
  refine wpAny_bind (wpAny_listSubscript_int (fitsIndex_of h0 hfit) ?_)
  clear hfit
  obtain ⟨j, rfl⟩ := Int.eq_ofNat_of_zero_le h0
  have hj : j < items.size := by omega
  have hx' : items[j]? = some items[j] := Array.getElem?_eq_getElem hj
  show wpAny _ _ ((seqItemAt l j >>= fun r => pure (r.map (j, ·))) >>= _) _ _ s
  refine wpAny_bind (wpAny_bind (wpAny_seqItemAt hl rfl (wpAny_pure ?_)))
  rw [hx']
  show wpAny _ _ (setSeqItemAt l j v >>= _) _ _ s
  have hfin : (s.heap.update l (Obj.mapSeq (·.setIfInBounds j v))).PlainList l (items.setIfInBounds j v) := ⟨_, Heap.get?_update_self (Obj.mapSeq (·.setIfInBounds j v)) hl rfl⟩
  refine wpAny_bind (wpAny_setSeqItemAt hl rfl ?_)
  first
    | exact wpAny_bind (wpAny_pure (wpAny_pure ⟨.none, rfl, wpAny_pure (hQ _ hfin (Heap.SameBut.update ..))⟩))
    | exact wpAny_pure ⟨.none, rfl, wpAny_pure (hQ _ hfin (Heap.SameBut.update ..))⟩
end
section
variable {prog : Program} {w : World} {A : Around} {K : Frag} {g0 h0 h h' : Heap} {mg mb : Str → Option Value} {env : Env} {X Y Y' Z : Addr → Prop} {ρ ρ' : List (Str × PV)} {x : Str} {P' : Flow → Heap → Prop} {P P₁ P₂ : PV} {R : Heap → Prop}

theorem cxc_and {a b : Expr} {pos : Pos} (x : Cx prog w A Z h (eval a env) (fun v h' => isB true v h' ∧ R h')) (y : ∀ h', KeepB Z h h' → Live h h' → R h' → EvC prog w A h' (eval b env) P) : CxC prog w A Z h (eval (.BoolOp .And [a, b] pos) env) P := fun s Q E eq q =>
  wpC_And2 (x s _ E eq fun v h₁ tk k l p => by
    obtain ⟨pv, r⟩ := p
    have pv' : v = .bool true := pv
    subst pv'
    refine wpAny_truthy_bool ?_
    exact y h₁ k l r ⟨h₁, s.gens, s.drawn, tk, s.os⟩ Q E (fun _ _ e => e) fun u h₂ tk₂ k₂ p₂ => q u h₂ tk₂ (k.trans k₂.b) (l.trans k₂.live) p₂)
theorem cxc_or {a b : Expr} {pos : Pos} {whole} (mR : ∀ h h', Keep h h' → R h → R h') (x : Cx prog w A Z h (isTrue a env (eval a env)) (fun c h' => c = false ∧ R h')) (y : ∀ h', KeepB Z h h' → Live h h' → R h' → EvC prog w A h' (isTrue b env (eval b env)) (fun c _ => c = false)) :
    CxC prog w A Z h (isTrue (.BoolOp .Or [a, b] pos) env whole) (fun c h' => c = false ∧ R h') := fun s Q E eq q =>
  wpC_isTrue_Or2 (x s _ E eq fun c h₁ tk k l p => by
    obtain ⟨rfl, r⟩ := p
    exact y h₁ k l r ⟨h₁, s.gens, s.drawn, tk, s.os⟩ Q E (fun _ _ e => e) fun u h₂ tk₂ k₂ p₂ => q u h₂ tk₂ (k.trans k₂.b) (l.trans k₂.live) ⟨p₂, mR _ _ k₂ r⟩)
theorem cx_or {a b : Expr} {pos : Pos} {whole} (x : Ev prog w A h (isTrue a env (eval a env)) (fun c _ => c = false)) (y : ∀ h', Keep h h' → Cx prog w A Z h' (isTrue b env (eval b env)) (fun c h' => c = false ∧ R h')) :
    Cx prog w A Z h (isTrue (.BoolOp .Or [a, b] pos) env whole) (fun c h' => c = false ∧ R h') := fun s Q E eq q => by
  subst eq
  rw [arm_isTrue_BoolOp]
  show wpAny _ _ (do
    match BoolOp.Or, ← isTrue a env (eval a env) with
    | .And, false => pure false
    | .Or, true => pure true
    | _, _ => allTrue .Or [b] env) _ _ _
  refine wpAny_bind (x.use fun c h₁ tk k ec => ?_)
  subst ec
  show wpAny _ _ (do
    match BoolOp.Or, ← isTrue b env (eval b env) with
    | .And, false => pure false
    | .Or, true => pure true
    | _, _ => allTrue .Or [] env) _ _ _
  refine wpAny_bind (y h₁ k ⟨h₁, s.gens, s.drawn, tk, s.os⟩ _ E rfl fun c h₂ tk₂ k₂ l₂ p₂ => ?_)
  obtain ⟨rfl, r⟩ := p₂
  exact wpAny_pure (q false h₂ tk₂ (k.b.trans k₂) (k.live.trans l₂) ⟨rfl, r⟩)
theorem exc_returnZ {pos : Pos} {e : Expr} {rest : List Stmt} (he : CxC prog w A Z h (eval e env) P) (hZY : ∀ a, Z a → Y a) (p : ∀ v h', KeepB Z h h' → P v h' → P' (.ret v) h') :
    ExC prog w A Y h (execs (.Return (some e) pos :: rest) env) P' := fun s Q E eq q => by
  subst eq
  exact wpC_execs_cons (wpC_Return_some (he s _ E rfl fun v h₁ tk k l z => q _ h₁ tk (k.wide hZY) l (p v h₁ k z)))
theorem exc_skipZ {test : Expr} {body rest : List Stmt} {pos : Pos} (he : CxC prog w A Z h (isTrue test env (eval test env)) (fun c h' => c = false ∧ R h')) (hZY : ∀ a, Z a → Y a)
    (n : ∀ h', KeepB Z h h' → Live h h' → R h' → ExC prog w A Y h' (execs rest env) P') : ExC prog w A Y h (execs (.If test body [] pos :: rest) env) P' := fun s Q E eq q => by
  subst eq
  refine wpC_execs_cons (wpC_If (he s _ E rfl fun c h₁ tk k l z => ?_))
  obtain ⟨rfl, r⟩ := z
  exact wpC_execs_nil (n h₁ k l r ⟨h₁, s.gens, s.drawn, tk, s.os⟩ Q E rfl fun fl h₂ tk₂ k₂ l₂ p₂ => q fl h₂ tk₂ ((k.wide hZY).trans k₂) (l.trans l₂) p₂)
theorem ex_skipZ {test : Expr} {body rest : List Stmt} {pos : Pos} (he : Cx prog w A Z h (isTrue test env (eval test env)) (fun c h' => c = false ∧ R h')) (hZY : ∀ a, Z a → Y a)
    (n : ∀ h', KeepB Z h h' → Live h h' → R h' → Ex prog w A Y h' (execs rest env) P') : Ex prog w A Y h (execs (.If test body [] pos :: rest) env) P' := fun s Q E eq q => by
  subst eq
  refine wpAny_execs_cons (wpAny_If (he s _ E rfl fun c h₁ tk k l z => ?_))
  obtain ⟨rfl, r⟩ := z
  exact wpAny_execs_nil (n h₁ k l r ⟨h₁, s.gens, s.drawn, tk, s.os⟩ Q E rfl fun fl h₂ tk₂ k₂ l₂ p₂ => q fl h₂ tk₂ ((k.wide hZY).trans k₂) (l.trans l₂) p₂)

/-- a run of one of the text's own defs in a clean context, that may change Z -/
theorem cxc_callK {ρ : (Addr → Prop) → List (Str × PV)} (W : Wd K g0 mg mb) (O : Out g0 X h0) {f : Addr} {fd : FuncData} {oc : Value} {od : Option Addr} {osl : Array (Option Value)} {body : List Stmt} {args : Args} {binds : List (Str × Value)}
    (hK : K.lookup f = some ⟨oc, od, .func fd, osl⟩) (hbody : fd.body = .stmts body) (hok : callOk K fd (binds.map (·.1)) = true) (hroom : A.depth < recursionLimit) (hbind : ∀ s : Shared, Keep h0 s.heap → BindsTo s fd args binds)
    (hρ : ∀ X' : Addr → Prop, (∀ a, X a → X' a) → (∀ a, X' a → ¬ X a → h0.get? a = none) → ∀ q ∈ ρ X', ParOk h0 X' binds q)
    (hrun : ∀ L env X' h₁, env = callEnvC fd L f → Keep h0 h₁ → (∀ a, X a → X' a) → (∀ a, X' a → ¬ X a → h0.get? a = none) → (∀ a, Own env a → h0.get? a = none) → Frm g0 env X' (Own env) (ρ X') h₁ →
      ExC prog w (A.deeper env) (fun a => Own env a ∨ Z a) h₁ (execs body env) fun fl h' => P (match fl with | .ret v => v | _ => .none) h') :
    CxC prog w A Z h0 (call (.ref f) args.pos args.kw) P := fun s Q E eqh q => by
  subst eqh
  have kq : Keep s.heap s.heap := fun _ _ e => e
  simp only [callOk, Bool.and_eq_true, Bool.not_eq_true', beq_iff_eq, List.isEmpty_iff] at hok
  obtain ⟨⟨⟨⟨⟨⟨⟨⟨⟨⟨a1, a2⟩, a3⟩, a4⟩, a5⟩, a6⟩, a7⟩, a8⟩, a9⟩, a10⟩, a11⟩ := hok
  have hkind : (binds.all fun y => fd.scope.names.lookup y.1 == some .local || fd.scope.names.lookup y.1 == some .cell) = true := by rw [List.all_map] at a2; exact a2
  have hdbg : (binds.all fun y => y.1 != ("__debug__" : Str)) = true := by rw [List.all_map] at a4; exact a4
  have hnd := nodupB_of a3
  have O' := O.keep kq
  refine wpC_call (codeC_call_function hroom (W.kin.keeps O'.base _ _ hK) rfl a6 a7 hbody (codeRec_of (W.kin.keeps O'.base) a1) (hbind s kq _ _ _ _ ?_))
  rw [a11]
  refine wpAny_newFunctionEnv_cells a8 (kindsX hkind _) fun env' he s' x => ?_
  subst he
  obtain ⟨h₁, tk, rfl, hk₁⟩ := x.done
  refine ⟨(W.lim.keeps O'.base).keeps hk₁, codeC_func ?_⟩
  show wpC (model prog w) (A.deeper (callEnvC fd s.heap.objs.size f)) (execs body (callEnvC fd s.heap.objs.size f)) _ _ _
  have fresh : ∀ a, Xin X (callEnvC fd s.heap.objs.size f) a → ¬ X a → s.heap.get? a = none := by
    rintro a (q | q | ⟨n, q⟩) hn
    · exact absurd q hn
    · subst q; exact Heap.get?_none_of_le (Nat.le_refl _)
    · exact Heap.get?_none_of_le (Nat.le_of_lt (x.above n a (mem_of_lookup q)))
  have fresh0 : ∀ a, Xin X (callEnvC fd s.heap.objs.size f) a → ¬ X a → s.heap.get? a = none := fun a q hn => none_of_keep kq (fresh a q hn)
  have F : Frm g0 (callEnvC fd s.heap.objs.size f) (Xin X (callEnvC fd s.heap.objs.size f)) (Own (callEnvC fd s.heap.objs.size f)) (ρ (Xin X (callEnvC fd s.heap.objs.size f))) h₁ := {
    base := O'.base.trans hk₁
    away := fun a q => by
      rcases Classical.em (X a) with hx | hx
      · exact O.away a hx
      · exact none_of_keep O'.base (fresh a q hx)
    live := by
      rintro a (q | q | ⟨n, q⟩)
      · obtain ⟨o, e⟩ := O'.live a q; exact ⟨o, hk₁ a o e⟩
      · subst q; obtain ⟨o, _, _, e, _⟩ := x.toInCall.ns; exact ⟨o, e⟩
      · obtain ⟨o, e, _⟩ := x.cell n a q; exact ⟨o, e⟩
    sub := fun a q => .inr q
    loc := .inl rfl
    cel := fun n c hc => .inr ⟨n, hc⟩
    kind := a8
    glb := a9
    blt := a10
    g1 := W.e1
    g2 := W.e2
    ns := ⟨_, x.toInCall.ns⟩
    apart := x.apart
    cells := fun n c hc => ⟨_, x.cell n c hc⟩
    vars := fun q hq => by
      obtain ⟨st, v, hm, hp⟩ := hρ _ (fun a z => .inl z) fresh0 q hq
      refine ⟨st, v, ?_, hp h₁ (kq.trans hk₁)⟩
      have hd : (q.1 == ("__debug__" : Str)) = false := by
        have := List.all_eq_true.mp hdbg _ hm
        simpa [bne] using this
      rcases (kindsX hkind (s.heap.objs.size + 1)) _ hm with hl | ⟨hl, hs⟩
      · exact var_of_local a8 hd hl x.toInCall.ns (bindL_in hnd hm hl)
      · obtain ⟨c, hc⟩ := Option.isSome_iff_exists.mp hs
        refine var_of_cell a8 hd hl hc ?_
        have := x.cell q.1 c hc
        rw [bindC_in hnd hm hl] at this
        exact this }
  have own : ∀ a, Own (callEnvC fd s.heap.objs.size f) a → s.heap.get? a = none := by
    rintro a (hx | ⟨n, hx⟩)
    · subst hx; exact Heap.get?_none_of_le (Nat.le_refl _)
    · exact Heap.get?_none_of_le (Nat.le_of_lt (x.above n a (mem_of_lookup hx)))
  refine hrun s.heap.objs.size _ _ h₁ rfl (kq.trans hk₁) (fun a q => .inl q) fresh0 (fun a z => none_of_keep kq (own a z)) F ⟨h₁, s.gens, s.drawn, tk, s.os⟩ _ _ rfl fun fl h₂ tk₂ k₂ l₂ p₂ => ?_
  refine q _ h₂ tk₂ (fun b o nb e => ?_) (fun b o e => l₂ b o (hk₁ b o e)) p₂
  refine k₂ b o (fun hx => hx.elim (fun hx => ?_) nb) (hk₁ b o e)
  rw [own b hx] at e; cases e
/-- o[i] = value, the object a plain list -/
theorem ex_setP {o i value : Expr} {pos' pos : Pos} {rest : List Stmt} {L : Addr} {n : Nat} {d : S} {ds : List S} (F : Frm g0 env X Y ρ h) (hv : Ev prog w A h (eval value env) (isD d)) (ho : Ev prog w A h (eval o env) (isV (.ref L))) (hi : Ev prog w A h (eval i env) (isI n))
    (hX : X L) (hl : L ≠ env.locals) (hc : ∀ n c, env.cells.lookup n = some c → c ≠ L) (ml : MP L ds h) (hn : n < ds.length) (hz : ds.length < 2 ^ 62)
    (nx : ∀ h', KeepB (· = L) h h' → MP L (ds.set n d) h' → Frm g0 env X Y ρ h' → Ex prog w A Y' h' (execs rest env) P')
    (hsw : swapsWith value (some (.Subscript o i pos')) pos.line env = pure false) (hY : Y' L) : Ex prog w A Y' h (execs (.Assign [.Subscript o i pos'] value pos :: rest) env) P' := fun s Q E eq q => by
  subst eq
  refine wpAny_execs_cons (wpAny_Assign_Subscript (hv.use fun v h₁ tk k p => ho _ _ E k fun ov h₂ tk₂ k₂ e₂ => hi _ _ E (k.trans k₂) fun iv h₃ tk₃ k₃ ⟨u, e₃⟩ => ?_) hsw)
  have e₂' : ov = .ref L := e₂
  subst e₂' e₃
  have kk := (k.trans k₂).trans k₃
  obtain ⟨vs, ⟨m, hL⟩, pr⟩ := ml.at fun o e => kk L o e
  have hsz : vs.size = ds.length := by rw [pr.length]; simp
  have hlst : h₃.IsList L vs := Heap.PlainList.isList ⟨m, hL⟩
  refine set_plain (s := ⟨h₃, s.gens, s.drawn, tk₃, s.os⟩) hL (by omega) (by omega) (by omega) fun h' hL' hB => ?_
  have hb : But L h₃ h' := hB.extBut
  have lv : ∃ o, h'.get? L = some o := let ⟨n, e⟩ := hL'; ⟨_, e⟩
  have kL : KeepB (· = L) s.heap h' := fun b o n e => hb b o n (kk b o e)
  refine nx h' kL ⟨_, hL', ?_⟩ ((F.keep kk).one hX hl hc hb lv) ⟨h', s.gens, s.drawn, tk₃, s.os⟩ Q E rfl fun fl h'' tk' k' l' p' => q fl h'' tk' (fun b o n e => k' b o n (kL b o (fun z => n (z ▸ hY)) e)) ((kk.live.trans (live_same hb lv)).trans l') p'
  rw [Array.toList_setIfInBounds]
  exact paired_set pr p _
end
end Mine

namespace Mine
section
open PySem PySem.W PyProof.Rows
set_option maxRecDepth 100000
set_option linter.unusedVariables false
set_option maxHeartbeats 8000000 in
theorem hdC (call : WalkC' hd) : PySem.Challenge.rw_fe0189_02.Holds := by
  o_law
  refine hdC_of (N := 3158) hd (LeftO.of_pieces (boot_open hd._proof_42 (of_decide_eq_true (id (Eq.refl true))) hd._proof_43) hd._proof_318 hd._proof_316 (of_decide_eq_true (id (Eq.refl true))) (fun w => funext fun os => hd._proof_350 w os)) (by assumption) (by rfl) (by rfl) (by rfl) (by rfl) (by decide +kernel) (by decide +kernel) (by decide +kernel) (by decide +kernel) ⟨rfl, rfl, rfl, rfl, rfl, by decide +kernel⟩ ?hw call
  case hw => w_witness2
end
end Mine
set_option maxRecDepth 100000
set_option linter.unusedVariables false
namespace Mine
open PySem PySem.W PySem.Calls PyProof.Rows
noncomputable abbrev KK (w : World) : Frag := hd.heap_39 w.params
abbrev aCls : Addr := 135
abbrev aNumber : Addr := 146
abbrev aDigest : Addr := 153
abbrev aBits : Addr := 158
abbrev aNumbers : Addr := 163
abbrev aDue : Addr := 170
end Mine

set_option maxRecDepth 100000
set_option linter.unusedVariables false
set_option Elab.async false
namespace Mine
open PySem PySem.W PySem.Calls PyProof.Rows

/-- names put together -/
local macro_rules | `(tactic| walk_at "m_mem") => `(tactic| first | with_reducible exact List.mem_cons_self | (with_reducible refine List.mem_cons_of_mem _ ?_; walk_at "m_mem"))
local macro_rules | `(tactic| walk_at "m_fre") => `(tactic| first | assumption | exact Frm.e (by assumption))
local macro_rules | `(tactic| walk_at "m_var") => `(tactic| exact Fre.var (by walk_at "m_fre") (by walk_at "m_mem"))
local macro_rules | `(tactic| walk_at "m_env") => `(tactic| first | (subst_vars; kernel_rfl!))
local macro_rules | `(tactic| walk_at "m_glob") => `(tactic| exact Fre.glob (by walk_at "m_fre") (by assumption) (by kernel_rfl!) (by walk_at "m_env") (by kernel_rfl!))
local macro_rules | `(tactic| walk_at "m_blt") => `(tactic| exact Fre.blti (by walk_at "m_fre") (by assumption) (by kernel_rfl!) (by kernel_rfl!) (by decide) (by walk_at "m_env") (by kernel_rfl!))
local macro_rules | `(tactic| walk_at "m_loc") => `(tactic| exact Or.inl (by walk_at "m_env"))
local macro_rules | `(tactic| walk_at "m_cel") => `(tactic| exact Or.inr ⟨by walk_at "m_env", by walk_at "m_env"⟩)
local macro_rules | `(tactic| walk_at "m_hr") => `(tactic| first | with_reducible exact hr_nil | (with_reducible refine hr_cons ?_ ?_; first | exact Or.inl rfl | exact Or.inr ⟨by walk_at "m_mem", by dsimp only; decide +kernel⟩); walk_at "m_hr")


def num (ns : List Int) (k : Int) : Int := ns.getD (k % (ns.length : Int)).toNat 0 + 7 * k
def digF (b : Array UInt8) : Nat → Int
  | 0 => 0
  | k + 1 => (3 * digF b k + ((b.getD k 0).toNat : Int) + (k : Int)) % 65521
theorem digF_nonneg (b : Array UInt8) : ∀ k, 0 ≤ digF b k
  | 0 => Int.le_refl _
  | k + 1 => Int.emod_nonneg _ (by decide)
theorem digF_lt (b : Array UInt8) : ∀ k, digF b k < 65521
  | 0 => by show (0 : Int) < _; decide
  | k + 1 => Int.emod_lt_of_pos _ (by decide)
def dig (b : Array UInt8) : Array UInt8 := ((List.replicate 16 (byteArr [digF b b.size % 256, digF b b.size / 256]).toList).flatten).toArray

section
variable {prog : Program} {w : World} {A : Around} {g0 h0 h h' : Heap} {mg mb : Str → Option Value} {X : Addr → Prop}

set_option maxHeartbeats 4000000 in
theorem c_number (W : Wd (KK w) g0 mg mb) (O : Out g0 X h0) (hr : A.depth + 5 < recursionLimit) {ns : List Int} {v : Value} {place : Int} {t : Tok} (p : isLI X ns v h0) (hz : ns.length ≤ 63) :
    Ev prog w A h0 (call (.ref aNumber) [v, .int place t]) (isI (num ns place)) := by
  refine ev_callK W O (f := aNumber) (args := ⟨[v, .int place t], []⟩) (binds := [(Str.ofString "script", v), (Str.ofString "place", .int place t)])
    (ρ := fun X' => [(Str.ofString "script", isLI X' ns), (Str.ofString "place", isI place)])
    rfl rfl (by kernel_rfl!) (by omega) (fun _ _ => BindsTo.of_eq rfl) ?_ ?_
  · intro X' hX hF
    exact hr_cons ⟨Stable.li, v, by simp, fun h k => isL.keep (isL.widen p hF) k.b⟩ (hr_cons ⟨Stable.i, .int place t, by simp, fun h k => ⟨_, rfl⟩⟩ hr_nil)
  · intro L env X' h₁ he k hX fresh F cells
    refine ex_return (P := isI (num ns place)) ?_ fun v h' _ z => z
    refine (ev_add (ev_ifexp (b := !ns.isEmpty) (P := isI (ns.getD (place % (ns.length : Int)).toNat 0)) (ev_isTrue (P₁ := isLI (X') ns) ?v (fun v h k z => ?t) ?tt) (fun hb => ?y) (fun hb => ?z)) (ev_mul ev_int ?v2 ?m))
    case v => walk_at "m_var"
    case t => exact (ev_truthy_list z (by simp; omega)).mono fun v h k z => by simpa using z
    case tt => rfl
    case v2 => walk_at "m_var"
    case m => exact IntMulOk.of_left (by decide +kernel)
    case z =>
      have : ns = [] := by simpa using hb
      subst this
      exact ev_int
    case y =>
      have hne : ns ≠ [] := by simpa using hb
      have hp : 0 < ns.length := List.length_pos_iff.mpr hne
      have b1 := Int.emod_nonneg place (show (ns.length : Int) ≠ 0 by omega)
      have b2 := Int.emod_lt_of_pos place (show (0 : Int) < ns.length by omega)
      refine (ev_item_list (X := X') (ds := ns.map S.int) (i := place % (ns.length : Int)) (d := .int (ns.getD (place % (ns.length : Int)).toNat 0)) ?a (ev_mod ?b (ev_B (P := isI ns.length) (T := "len") (PL := fun vs h => ∃ v, vs = [v] ∧ isLI (X') ns v h) ?c (ev_args1 ?d Mono.li rfl) (fun vs h k z => ?e) rfl rfl) (by omega)) b1 (by omega) ?g (fun _ _ => rfl))
      case a => walk_at "m_var"
      case b => walk_at "m_var"
      case c => walk_at "m_blt"
      case d => walk_at "m_var"
      case e =>
        obtain ⟨v, rfl, z⟩ := z
        simpa using ev_len_list z (by simp; omega)
      case g =>
        have : (place % (ns.length : Int)).toNat < ns.length := by omega
        simp [this]

set_option maxHeartbeats 4000000 in
theorem c_digest (W : Wd (KK w) g0 mg mb) (O : Out g0 X h0) (hr : A.depth + 5 < recursionLimit) (hh : A.handled = none) {b : Array UInt8} {v : Value} (p : isBy X b v h0) (hz : b.size ≤ 1000) :
    Ev prog w A h0 (call (.ref aDigest) [v]) (isY (dig b)) := by
  refine ev_callK W O (f := aDigest) (args := ⟨[v], []⟩) (binds := [(Str.ofString "data", v)])
    (ρ := fun X' => [(Str.ofString "data", isBy X' b)])
    rfl rfl (by kernel_rfl!) (by omega) (fun _ _ => BindsTo.of_eq rfl) ?_ ?_
  · intro X' hX hF
    exact hr_cons ⟨Stable.by, v, by simp, fun h k => isBy.keep (isBy.widen p hF) k.b⟩ hr_nil
  · intro L env X' h₁ he k hX fresh F cells
    replace hh : (A.deeper env).handled = none := hh
    refine ex_assign F (P := isI 0) ev_int Stable.i [(Str.ofString "total", isI 0), (Str.ofString "data", isBy X' b)] (fun h₂ k₂ F₂ => ?_) (by walk_at "m_loc") rfl (by walk_at "m_hr") rfl
    refine ex_for F₂ (n := b.size) (item := fun i => [(Str.ofString "k", .int i), (Str.ofString "octet", .int ((b.getD i 0).toNat : Int))]) (evit_enum (P₁ := isBy X' b) (A := A.deeper env) hh ?a ?b ?hne Mono.by rfl fun v s Q E z => enum_src_by z) ?t ?nm F₂.sub (fun _ z => z)
      (fun X'' i => [(Str.ofString "total", isI (digF b i))]) (fun _ _ => True) (fun _ => False) (fun _ z => z.elim) (fun _ _ _ _ _ => trivial) trivial ?en ?fr ?st [(Str.ofString "total", isI (digF b b.size))] ?ex (fun h₃ k₃ _ F₃ => ?_) (fun _ => rfl)
    case a => walk_at "m_blt"
    case b => walk_at "m_var"
    case hne => decide +kernel
    case t => exact ⟨by walk_at "m_env", by walk_at "m_env"⟩
    case nm => exact fun i hi => hr_cons ⟨by walk_at "m_env", by kernel_rfl!⟩ (hr_cons ⟨by walk_at "m_env", by kernel_rfl!⟩ hr_nil)
    case en => exact fun X'' _ _ => hr_cons ⟨Stable.i, _, List.mem_cons_self, fun v z => z⟩ hr_nil
    case fr => exact fun X'' i hi => hr_cons (hr_cons (by dsimp only; decide +kernel) (hr_cons (by dsimp only; decide +kernel) hr_nil)) hr_nil
    case ex => exact fun X'' _ => hr_cons ⟨Stable.i, _, List.mem_cons_self, fun v h z => z⟩ hr_nil
    case st =>
      intro i X'' h₃ hi _ _ k₃ _ F₃
      replace F₃ : Frm g0 env X'' _ [(Str.ofString "k", isI i), (Str.ofString "octet", isI ((b.getD i 0).toNat : Int)), (Str.ofString "total", isI (digF b i))] h₃ := F₃
      refine ex_assign F₃ (P := isI (digF b (i + 1))) (ev_mod (ev_add (ev_add (ev_mul ev_int ?a (IntMulOk.of_left (by decide +kernel))) ?b) ?c) ev_int (by decide)) Stable.i [(Str.ofString "total", isI (digF b (i + 1)))] (fun h₄ k₄ F₄ => ex_nil ⟨rfl, trivial, F₄⟩) (by walk_at "m_loc") rfl (by walk_at "m_hr") rfl
      case a => walk_at "m_var"
      case b => walk_at "m_var"
      case c => walk_at "m_var"
    refine ex_return (P := isY (dig b)) (ev_mulY (b := (byteArr [digF b b.size % 256, digF b b.size / 256]).toList) (ev_T (T := "bytes") (PL := fun vs h => ∃ v, vs = [v] ∧ isLI X' [digF b b.size % 256, digF b b.size / 256] v h) ?a (ev_args1 (ev_list (evpS (ev_mod ?b ev_int (by decide)) (evpS (ev_div ?c ev_int (by decide) (by decide)) evp0 rfl) rfl) F₃.live (by show (2 : Nat) ≤ sizeLine; decide)) Mono.l rfl) ?d rfl rfl) ev_int ?ne (by decide) (by decide) ?sz) fun v h' _ z => z
    case a => walk_at "m_blt"
    case b => walk_at "m_var"
    case c => walk_at "m_var"
    case d =>
      rintro vs h k ⟨v, rfl, z⟩
      have b0 := digF_nonneg b b.size
      have b1 := digF_lt b b.size
      exact call_bytesL hh z (hr_cons ⟨by omega, by omega⟩ (hr_cons ⟨by omega, by omega⟩ hr_nil)) (by show (2 : Nat) ≤ sizeLine; decide)
    case ne => simp [byteArr]
    case sz => simp [byteArr]
end
end Mine

set_option maxRecDepth 100000
set_option linter.unusedVariables false
set_option Elab.async false
namespace Mine
open PySem PySem.W PySem.Calls PyProof.Rows
/-- names put together -/
local macro_rules | `(tactic| walk_at "m_mem") => `(tactic| first | with_reducible exact List.mem_cons_self | (with_reducible refine List.mem_cons_of_mem _ ?_; walk_at "m_mem"))
local macro_rules | `(tactic| walk_at "m_fre") => `(tactic| first | assumption | exact Frm.e (by assumption))
local macro_rules | `(tactic| walk_at "m_var") => `(tactic| exact Fre.var (by walk_at "m_fre") (by walk_at "m_mem"))
local macro_rules | `(tactic| walk_at "m_env") => `(tactic| first | (subst_vars; kernel_rfl!))
local macro_rules | `(tactic| walk_at "m_glob") => `(tactic| exact Fre.glob (by walk_at "m_fre") (by assumption) (by kernel_rfl!) (by walk_at "m_env") (by kernel_rfl!))
local macro_rules | `(tactic| walk_at "m_blt") => `(tactic| exact Fre.blti (by walk_at "m_fre") (by assumption) (by kernel_rfl!) (by kernel_rfl!) (by decide) (by walk_at "m_env") (by kernel_rfl!))
local macro_rules | `(tactic| walk_at "m_loc") => `(tactic| exact Or.inl (by walk_at "m_env"))
local macro_rules | `(tactic| walk_at "m_cel") => `(tactic| exact Or.inr ⟨by walk_at "m_env", by walk_at "m_env"⟩)
local macro_rules | `(tactic| walk_at "m_hr") => `(tactic| first | with_reducible exact hr_nil | (with_reducible refine hr_cons ?_ ?_; first | exact Or.inl rfl | exact Or.inr ⟨by walk_at "m_mem", by dsimp only; decide +kernel⟩); walk_at "m_hr")


def bitsOf (b : Array UInt8) : List Int := (List.range b.size).flatMap fun i => (List.range 8).map fun (k : Nat) => ((b.getD i 0).toNat : Int) / 2 ^ ((7 : Int) - (k : Int)).toNat % 2
/-- the number that some bits say, the first one worth 2 ^ e -/
def wl (e : Int) (l : List Int) : List Int := (List.range l.length).map fun (k : Nat) => l.getD k 0 * 2 ^ (e - (k : Int)).toNat
def wsum (e : Int) (l : List Int) : Int := (wl e l).sum
theorem wl_S (e : Int) (l : List Int) : (wl e l).map S.int = (List.range (l.map S.int).length).map fun (k : Nat) => S.int (l.getD k 0 * 2 ^ (e - (k : Int)).toNat) := by simp [wl]
theorem getD_S {l : List Int} {k : Nat} (h : k < (l.map S.int).length) : (l.map S.int).getD k .none = .int (l.getD k 0) := by
  have h' : k < l.length := by simpa using h
  simp [h']
def numsOf (bits : List Int) : List Int := (List.range (bits.length / 11)).map fun (j : Nat) => wsum 10 (cutL bits (some (11 * (j : Int))) (some (11 * (j : Int) + 11)))
def octsOf (bits : List Int) : List Int := (List.range (bits.length / 8)).map fun (j : Nat) => wsum 7 (cutL bits (some (8 * (j : Int))) (some (8 * (j : Int) + 8)))
theorem bitsOf_S (b : Array UInt8) : (bitsOf b).map S.int = (List.range b.size).flatMap fun i => (List.range 8).map fun (k : Nat) => S.int (((b.getD i 0).toNat : Int) / 2 ^ ((7 : Int) - (k : Int)).toNat % 2) := by
  rw [bitsOf, List.map_flatMap]
  simp only [List.map_map]
  rfl
theorem cutL_len {α : Type} (l : List α) {a c : Nat} : (cutL l (some (c * (a : Int))) (some (c * (a : Int) + c))).length ≤ c := by
  unfold cutL
  simp only [Option.elim_some, List.length_take, List.length_drop]
  have e1 : clipAt l.length ((c : Int) * a) = min (c * a) l.length := by rw [← Int.natCast_mul]; exact clipAt_nat _ _
  have e2 : clipAt l.length ((c : Int) * a + c) = min (c * a + c) l.length := by
    rw [← Int.natCast_mul, ← Int.natCast_add]; exact clipAt_nat _ _
  rw [e1, e2]
  omega
theorem cutL_map {α β : Type} (f : α → β) (l : List α) (a b : Option Int) : cutL (l.map f) a b = (cutL l a b).map f := by
  unfold cutL; simp
theorem cutL_le {α : Type} (l : List α) (a b : Option Int) : (cutL l a b).length ≤ l.length := by
  unfold cutL; simp only [List.length_take, List.length_drop]; exact Nat.le_trans (Nat.min_le_right _ _) (Nat.sub_le _ _)

section
variable {prog : Program} {w : World} {A : Around} {g0 h0 h h' : Heap} {mg mb : Str → Option Value} {X : Addr → Prop}

set_option maxHeartbeats 4000000 in
theorem c_bits (W : Wd (KK w) g0 mg mb) (O : Out g0 X h0) (hr : A.depth + 5 < recursionLimit) (hh : A.handled = none) {b : Array UInt8} {v : Value} (p : isY b v h0) (hz : b.size ≤ 1000) :
    Ev prog w A h0 (call (.ref aBits) [v]) (isLI X (bitsOf b)) := by
  refine ev_callK W O (f := aBits) (args := ⟨[v], []⟩) (binds := [(Str.ofString "data", v)])
    (ρ := fun X' => [(Str.ofString "data", isY b)])
    rfl rfl (by kernel_rfl!) (by omega) (fun _ _ => BindsTo.of_eq rfl) ?_ ?_
  · intro X' hX hF
    exact hr_cons ⟨Stable.y, v, by simp, fun h k => p⟩ hr_nil
  · intro L env X' h₁ he k hX fresh F cells
    replace hh : (A.deeper env).handled = none := hh
    refine ex_return (P := isLI X' (bitsOf b)) ?_ fun v h' _ z => isL.narrow z hX
    show Ev _ _ _ _ _ (isL X' ((bitsOf b).map S.int))
    rw [bitsOf_S]
    refine ev_ofComp (compev2 (n := b.size) (n2 := 8) (Z := X') (item := fun i => [(Str.ofString "octet", .int ((b.getD i 0).toNat : Int))]) (item2 := fun k => [(Str.ofString "k", .int (k : Int))]) F.e
      (fun i k => .int (((b.getD i 0).toNat : Int) / 2 ^ ((7 : Int) - (k : Int)).toNat % 2)) [] (fun i k => [(Str.ofString "octet", isI ((b.getD i 0).toNat : Int)), (Str.ofString "k", isI (k : Int))])
      (evit_bytes hh ?it) ?sz ?ok (clOf_ok ?cl) ?t1 ?t2 hr_nil ?hr ?dis ?it2 ?el ?fs) ?ok (clOf_ok ?cl) F.live ?fs1
    case it => walk_at "m_var"
    case sz => simp [sizeLine]; omega
    case ok => kernel_rfl!
    case cl => walk_at "m_env"
    case t1 => rfl
    case t2 => rfl
    case hr =>
      exact fun i k => hr_cons (.inl ⟨_, List.mem_cons_self, rfl, by kernel_rfl!, by kernel_rfl!⟩) (hr_cons (.inl ⟨_, List.mem_cons_of_mem _ List.mem_cons_self, rfl, by kernel_rfl!, by kernel_rfl!⟩) hr_nil)
    case dis => exact fun i k => hr_cons (hr_cons (by dsimp only; decide +kernel) hr_nil) hr_nil
    case it2 =>
      rintro envC h D ⟨C, hC⟩ k F
      refine evit_range hh (by decide) ?_ ev_int rfl
      walk_at "m_blt"
    case el =>
      rintro i k envC h hi hk ⟨C, hC⟩ kk F
      exact ev_mod (ev_div (by walk_at "m_var") (ev_pow ev_int (ev_sub ev_int (by walk_at "m_var")) (by omega) (by rw [show Builtin.Int.intBits 2 = 2 by decide +kernel]; omega)) (pos_pow _) (by rw [log_pow]; omega)) ev_int (by decide)
    case fs => exact fun _ _ => rfl
    case fs1 => exact fun _ => rfl

set_option maxHeartbeats 4000000 in
theorem c_numbers (W : Wd (KK w) g0 mg mb) (O : Out g0 X h0) (hr : A.depth + 5 < recursionLimit) (hh : A.handled = none) {bits : List Int} {v : Value} (p : isLI X bits v h0) (hz : bits.length ≤ 4000) :
    Ev prog w A h0 (call (.ref aNumbers) [v]) (isLI X (numsOf bits)) := by
  refine ev_callK W O (f := aNumbers) (args := ⟨[v], []⟩) (binds := [(Str.ofString "bits", v)])
    (ρ := fun X' => [(Str.ofString "bits", isLI X' bits)])
    rfl rfl (by kernel_rfl!) (by omega) (fun _ _ => BindsTo.of_eq rfl) ?_ ?_
  · intro X' hX hF
    exact hr_cons ⟨Stable.li, v, by simp, fun h k => isL.keep (isL.widen p hF) k.b⟩ hr_nil
  · intro L env X' h₁ he k hX fresh F cells
    replace hh : (A.deeper env).handled = none := hh
    refine ex_return (P := isLI X' (numsOf bits)) (?main : Ev _ _ _ _ _ (isL X' ((numsOf bits).map S.int))) fun v h' _ z => isL.narrow z hX
    case main =>
      rw [show (numsOf bits).map S.int = (List.range (bits.length / 11)).map fun (j : Nat) => S.int (wsum 10 (cutL bits (some (11 * (j : Int))) (some (11 * (j : Int) + 11)))) by simp [numsOf]]
      refine ev_ofComp (compev0 (Z := X') (item := fun j => [(Str.ofString "j", .int (j : Int))]) F.e (fun j => S.int (wsum 10 (cutL bits (some (11 * (j : Int))) (some (11 * (j : Int) + 11))))) (fun j => [(Str.ofString "j", isI (j : Int)), (Str.ofString "bits", isLI X' bits)])
        (evit_range hh ?nn ?rg ?len rfl) ?sz ?ok (clOf_ok ?cl) ?t1 ?hr ?el) ?ok (clOf_ok ?cl) F.live (fun _ => rfl)
      case nn => omega
      case rg => walk_at "m_blt"
      case len =>
        rw [show ((bits.length / 11 : Nat) : Int) = (bits.length : Int) / 11 by omega]
        refine ev_div (ev_B (P := isI bits.length) (T := "len") (PL := fun vs h => ∃ v, vs = [v] ∧ isLI X' bits v h) ?c (ev_args1 ?d Mono.li rfl) (fun vs h k z => ?e) rfl rfl) ev_int (by decide) (by decide)
        case c => walk_at "m_blt"
        case d => walk_at "m_var"
        case e =>
          obtain ⟨v, rfl, z⟩ := z
          simpa using ev_len_list z (by simp; omega)
      case sz => simp [sizeLine]; omega
      case ok => kernel_rfl!
      case cl => walk_at "m_env"
      case t1 => rfl
      case hr => exact fun j => hr_cons (.inl ⟨_, List.mem_cons_self, rfl, by kernel_rfl!, by kernel_rfl!⟩) (hr_cons (.inr ⟨List.mem_cons_self, by kernel_rfl!, by walk_at "m_env"⟩) hr_nil)
      case el =>
        rintro j envC h hj ⟨C, hC⟩ kk F'
        have cl := cutL_len (a := j) (c := 11) bits
        have live : ∀ a, X' a → ∃ o, h.get? a = some o := fun a q => let ⟨o, e⟩ := F.live a q; ⟨o, kk a o e⟩
        generalize hcut : cutL bits (some (11 * (j : Int))) (some (11 * (j : Int) + 11)) = cut at *
        refine ev_B (T := "sum") (PL := fun vs h => ∃ v, vs = [v] ∧ isLI X' (wl 10 cut) v h) ?a (ev_args1 (?inn : Ev _ _ _ _ _ (isL X' ((wl 10 cut).map S.int))) Mono.l rfl) (fun vs h k ⟨v, e, z⟩ => e ▸ call_sumL hh z) rfl rfl
        case a => walk_at "m_blt"
        case inn =>
          rw [wl_S]
          refine ev_ofComp (compev0 (Z := X') (item := fun k => [(Str.ofString "k", .int (k : Int)), (Str.ofString "bit", (cut.map S.int).getD k .none)]) F' _ (fun k => [(Str.ofString "k", isI (k : Int)), (Str.ofString "bit", isD ((cut.map S.int).getD k .none))])
            (evit_enum (P₁ := isLI X' cut) hh ?a ?src ?hne Mono.li rfl fun v s Q E z => enum_src_list z) ?sz ?ok (clOf_ok ?cl) ?t1 ?hr ?el) ?ok (clOf_ok ?cl) live (fun _ => rfl)
          case a => walk_at "m_blt"
          case src =>
            show Ev _ _ _ _ _ (isL X' (cut.map S.int))
            rw [← hcut, ← cutL_map]
            refine ev_cut_list (ds := bits.map S.int) ?v (ev_slice (ev_part1 (ev_mul ev_int ?j1 (IntMulOk.of_left (by decide +kernel)))) (ev_part1 (ev_add (ev_mul ev_int ?j2 (IntMulOk.of_left (by decide +kernel))) ev_int))) live (by simp [sizeLine]; omega) fun _ _ => ⟨_, rfl⟩
            case v => walk_at "m_var"
            case j1 => walk_at "m_var"
            case j2 => walk_at "m_var"
          case hne => decide +kernel
          case sz => simp [sizeLine]; omega
          case ok => kernel_rfl!
          case cl => walk_at "m_env"
          case t1 => exact ⟨rfl, rfl⟩
          case hr => exact fun k => hr_cons (.inl ⟨_, List.mem_cons_self, rfl, by kernel_rfl!, by kernel_rfl!⟩) (hr_cons (.inl ⟨_, List.mem_cons_of_mem _ List.mem_cons_self, rfl, by kernel_rfl!, by kernel_rfl!⟩) hr_nil)
          case el =>
            rintro k envD h hk ⟨D, hD⟩ kk F''
            have hk' : k < cut.length := by simpa using hk
            rw [getD_S hk] at F''
            exact ev_mul (by walk_at "m_var") (ev_pow ev_int (ev_sub ev_int (by walk_at "m_var")) (by omega) (by rw [show Builtin.Int.intBits 2 = 2 by decide +kernel]; omega)) (mulOk_pow (by omega))
end
end Mine

set_option maxRecDepth 100000
set_option linter.unusedVariables false
set_option Elab.async false
namespace Mine
open PySem PySem.W PySem.Calls PyProof.Rows
/-- names put together -/
local macro_rules | `(tactic| walk_at "m_mem") => `(tactic| first | with_reducible exact List.mem_cons_self | (with_reducible refine List.mem_cons_of_mem _ ?_; walk_at "m_mem"))
local macro_rules | `(tactic| walk_at "m_fre") => `(tactic| first | assumption | exact Frm.e (by assumption))
local macro_rules | `(tactic| walk_at "m_var") => `(tactic| exact Fre.var (by walk_at "m_fre") (by walk_at "m_mem"))
local macro_rules | `(tactic| walk_at "m_env") => `(tactic| first | (subst_vars; kernel_rfl!))
local macro_rules | `(tactic| walk_at "m_glob") => `(tactic| exact Fre.glob (by walk_at "m_fre") (by assumption) (by kernel_rfl!) (by walk_at "m_env") (by kernel_rfl!))
local macro_rules | `(tactic| walk_at "m_blt") => `(tactic| exact Fre.blti (by walk_at "m_fre") (by assumption) (by kernel_rfl!) (by kernel_rfl!) (by decide) (by walk_at "m_env") (by kernel_rfl!))
local macro_rules | `(tactic| walk_at "m_loc") => `(tactic| exact Or.inl (by walk_at "m_env"))
local macro_rules | `(tactic| walk_at "m_cel") => `(tactic| exact Or.inr ⟨by walk_at "m_env", by walk_at "m_env"⟩)
local macro_rules | `(tactic| walk_at "m_hr") => `(tactic| first | with_reducible exact hr_nil | (with_reducible refine hr_cons ?_ ?_; first | exact Or.inl rfl | exact Or.inr ⟨by walk_at "m_mem", by dsimp only; decide +kernel⟩); walk_at "m_hr")


def dueBits (b : Array UInt8) : List Int := bitsOf b ++ cutL (bitsOf (cutL (dig b).toList none (some 1)).toArray) none (some ((b.size : Int) / 4))
def dueOf (b : Array UInt8) : List Int := numsOf (dueBits b)
theorem bitsOf_len (b : Array UInt8) : (bitsOf b).length = b.size * 8 := by
  have sc : ∀ (l : List Nat), (l.map fun _ => 8).sum = l.length * 8 := by
    intro l
    induction l with
    | nil => rfl
    | cons x r ih => rw [List.map_cons, List.sum_cons, ih, List.length_cons]; omega
  unfold bitsOf
  rw [List.length_flatMap]
  simp only [List.length_map, List.length_range]
  rw [sc, List.length_range]
theorem dig_size (b : Array UInt8) : (dig b).size = 32 := by
  simp [dig, byteArr]
theorem cut1_size (b : Array UInt8) : (cutL (dig b).toList none (some 1)).toArray.size ≤ 1 := by
  have := dig_size b
  unfold cutL
  simp only [Option.elim_some, Option.elim_none, List.size_toArray, List.length_take, List.length_drop]
  have e : clipAt (dig b).toList.length 1 = min 1 (dig b).toList.length := clipAt_nat _ 1
  rw [e]
  omega

section
variable {prog : Program} {w : World} {A : Around} {g0 h0 h h' : Heap} {mg mb : Str → Option Value} {X : Addr → Prop}

set_option maxHeartbeats 4000000 in
theorem c_due (W : Wd (KK w) g0 mg mb) (O : Out g0 X h0) (hr : A.depth + 10 < recursionLimit) (hh : A.handled = none) {b : Array UInt8} {v : Value} (p : isY b v h0) (hz : b.size ≤ 300) :
    Ev prog w A h0 (call (.ref aDue) [v]) (isLI X (dueOf b)) := by
  refine ev_callK W O (f := aDue) (args := ⟨[v], []⟩) (binds := [(Str.ofString "data", v)])
    (ρ := fun X' => [(Str.ofString "data", isY b)])
    rfl rfl (by kernel_rfl!) (by omega) (fun _ _ => BindsTo.of_eq rfl) ?_ ?_
  · intro X' hX hF
    exact hr_cons ⟨Stable.y, v, by simp, fun h k => p⟩ hr_nil
  · intro L env X' h₁ he k hX fresh F cells
    replace hh : (A.deeper env).handled = none := hh
    replace hr : (A.deeper env).depth + 8 < recursionLimit := by show A.depth + 1 + 8 < _; omega
    have l1 := bitsOf_len b
    have l2 := bitsOf_len (cutL (dig b).toList none (some 1)).toArray
    have l3 := cut1_size b
    have l4 := cutL_le (bitsOf (cutL (dig b).toList none (some 1)).toArray) none (some ((b.size : Int) / 4))
    have l5 := dig_size b
    refine ex_return (P := isLI X' (dueOf b)) (ev_F (fa := aNumbers) (PL := fun vs h => ∃ v, vs = [v] ∧ isLI X' (dueBits b) v h) ?qa W F.base (by kernel_rfl!)
      (ev_args1 (?main : Ev _ _ _ _ _ (isL X' ((dueBits b).map S.int))) Mono.l rfl) (fun vs h k ⟨v, e, z⟩ => e ▸ c_numbers W (F.out.keep k) (by omega) hh z (by rw [dueBits, List.length_append]; omega)) rfl rfl) fun v h' _ z => isL.narrow z hX
    case qa => walk_at "m_glob"
    case main =>
      rw [dueBits, List.map_append, ← cutL_map]
      refine ev_addL (ev_F (fa := aBits) (PL := fun vs h => ∃ v, vs = [v] ∧ isY b v h) ?qb W F.base (by kernel_rfl!) (ev_args1 ?qc Mono.y rfl) (fun vs h k ⟨v, e, z⟩ => e ▸ c_bits W (F.out.keep k) (by omega) hh z (by omega)) rfl rfl)
        (ev_cut_list (ev_F (fa := aBits) (PL := fun vs h => ∃ v, vs = [v] ∧ isY (cutL (dig b).toList none (some 1)).toArray v h) ?qd W F.base (by kernel_rfl!)
          (ev_args1 (ev_cut_bytes (ev_F (fa := aDigest) (PL := fun vs h => ∃ v, vs = [v] ∧ isY b v h) ?qe W F.base (by kernel_rfl!) (ev_args1 ?qf Mono.y rfl) (fun vs h k ⟨v, e, z⟩ => e ▸ c_digest W (F.out.keep k) (by omega) hh (Or.inl z) (by omega)) rfl rfl)
            (ev_slice ev_part0 (ev_part1 ev_int)) (by simp [l5, sizeLine]) fun _ _ => ⟨_, rfl⟩) Mono.y rfl) (fun vs h k ⟨v, e, z⟩ => e ▸ c_bits W (F.out.keep k) (by omega) hh z (by omega)) rfl rfl)
          (ev_slice ev_part0 (ev_part1 (ev_div (ev_B (P := isI b.size) (T := "len") (PL := fun vs h => ∃ v, vs = [v] ∧ isY b v h) ?qg (ev_args1 ?qh Mono.y rfl) (fun vs h k ⟨v, e, z⟩ => e ▸ call_lenY z (by omega)) rfl rfl) ev_int (by decide) (by decide)))) F.live (by simp [sizeLine]; omega) fun _ _ => ⟨_, rfl⟩) F.live (by rw [cutL_map]; simp [sizeLine]; omega)
      case qb => walk_at "m_glob"
      case qc => walk_at "m_var"
      case qd => walk_at "m_glob"
      case qe => walk_at "m_glob"
      case qf => walk_at "m_var"
      case qg => walk_at "m_blt"
      case qh => walk_at "m_var"
end
end Mine

set_option maxRecDepth 100000
set_option linter.unusedVariables false
set_option Elab.async false
namespace Mine
open PySem PySem.W PySem.Calls PyProof.Rows
/-- names put together -/
local macro_rules | `(tactic| walk_at "m_mem") => `(tactic| first | with_reducible exact List.mem_cons_self | (with_reducible refine List.mem_cons_of_mem _ ?_; walk_at "m_mem"))
local macro_rules | `(tactic| walk_at "m_fre") => `(tactic| first | assumption | exact Frm.e (by assumption))
local macro_rules | `(tactic| walk_at "m_var") => `(tactic| exact Fre.var (by walk_at "m_fre") (by walk_at "m_mem"))
local macro_rules | `(tactic| walk_at "m_env") => `(tactic| first | (subst_vars; kernel_rfl!))
local macro_rules | `(tactic| walk_at "m_glob") => `(tactic| exact Fre.glob (by walk_at "m_fre") (by assumption) (by kernel_rfl!) (by walk_at "m_env") (by kernel_rfl!))
local macro_rules | `(tactic| walk_at "m_blt") => `(tactic| exact Fre.blti (by walk_at "m_fre") (by assumption) (by kernel_rfl!) (by kernel_rfl!) (by decide) (by walk_at "m_env") (by kernel_rfl!))
local macro_rules | `(tactic| walk_at "m_loc") => `(tactic| exact Or.inl (by walk_at "m_env"))
local macro_rules | `(tactic| walk_at "m_cel") => `(tactic| exact Or.inr ⟨by walk_at "m_env", by walk_at "m_env"⟩)
local macro_rules | `(tactic| walk_at "m_hr") => `(tactic| first | with_reducible exact hr_nil | (with_reducible refine hr_cons ?_ ?_; first | exact Or.inl rfl | exact Or.inr ⟨by walk_at "m_mem", by dsimp only; decide +kernel⟩); walk_at "m_hr")


local macro_rules | `(tactic| walk_at "m_rfl") => `(tactic| first | rfl | kernel_rfl!)
/-- an object of Mnemonic over the words ws -/
def isMn (X : Addr → Prop) (ws : List Str) : PV := fun v h => ∃ x es wl t, v = .ref x ∧ IsObj X aCls x es h ∧ getL (Str.ofString "wordlist") es = some (some wl) ∧ isLd X (ws.map .str) wl h ∧
  getL (Str.ofString "sha256") es = some (some (.ref aDigest)) ∧ getL (Str.ofString "delimiter") es = some (some (.str (Str.ofString " ") t)) ∧
  ∀ n ∈ [Str.ofString "normalize_string", Str.ofString "expand_word", Str.ofString "expand", Str.ofString "check", Str.ofString "to_entropy", Str.ofString "to_mnemonic"], getL n es = some none
theorem isMn.keep {X : Addr → Prop} {ws : List Str} {v : Value} {h h' : Heap} (p : isMn X ws v h) (k : KeepB X h h') : isMn X ws v h' := by
  obtain ⟨x, es, wl, t, e, a, b, c, d⟩ := p
  exact ⟨x, es, wl, t, e, a.keep k, b, isLd.keep c k, d⟩
theorem Stable.mn {X ws} : Stable X (isMn X ws) := fun _ _ _ k p => isMn.keep p k
theorem Mono.mn {X ws} : Mono (isMn X ws) := Stable.mn.mono
theorem isMn.widen {X X' : Addr → Prop} {ws : List Str} {v : Value} {h : Heap} (p : isMn X ws v h) (hf : ∀ a, X' a → ¬ X a → h.get? a = none) : isMn X' ws v h := by
  obtain ⟨x, es, wl, t, e, a, b, c, d⟩ := p
  exact ⟨x, es, wl, t, e, a.widen hf, b, isLd.widen c hf, d⟩
theorem isMn.narrow {X X' : Addr → Prop} {ws : List Str} {v : Value} {h : Heap} (p : isMn X' ws v h) (hs : ∀ a, X a → X' a) : isMn X ws v h := by
  obtain ⟨x, es, wl, t, e, a, b, c, d⟩ := p
  exact ⟨x, es, wl, t, e, a.narrow hs, b, isLd.narrow c hs, d⟩

section
variable {prog : Program} {w : World} {A : Around} {g0 h0 h h' : Heap} {mg mb : Str → Option Value} {X : Addr → Prop}

set_option maxHeartbeats 4000000 in
theorem c_make (W : Wd (KK w) g0 mg mb) (O : Out g0 X h0) (hr : A.depth + 5 < recursionLimit) (hh : A.handled = none) {names : List Str} {vl vn vr : Value} (pl : isS (Str.ofString "some") vl h0) (pn : isLd X (names.map .str) vn h0) (pr : isI names.length vr h0) (hz : names.length ≤ 5000) :
    Ev prog w A h0 (call (.ref aCls) [vl, vn, vr, .ref aDigest]) (isMn X names) := by
  refine ev_make (fI := 49) W O.base (by kernel_rfl!) (by kernel_rfl!) (by kernel_rfl!) fun s k R q => ?_
  have O' := O.keep k
  generalize hbe : s.heap = hb at *
  have k1 : Keep hb ((hb.push (dictOf [] 0)).push (instObj aCls hb.objs.size)) := keep_push.trans keep_push
  have hat : ((hb.push (dictOf [] 0)).push (instObj aCls hb.objs.size)).get? (hb.objs.size + 1) = some (instObj aCls hb.objs.size) := by
    have := Heap.get?_push_size (hb.push (dictOf [] 0)) (o := instObj aCls hb.objs.size) rfl
    rwa [Heap.size_push] at this
  have hdt : ((hb.push (dictOf [] 0)).push (instObj aCls hb.objs.size)).get? hb.objs.size = some (dictOf [] 0) := keep_push _ _ (Heap.get?_push_size hb rfl)
  have nx : hb.get? (hb.objs.size + 1) = none := Heap.get?_none_of_le (Nat.le_succ _)
  have nd : hb.get? hb.objs.size = none := get_size
  have hXn : ∀ a, X a → hb.get? a ≠ none := fun a z e => by obtain ⟨o, e'⟩ := O'.live a z; rw [e] at e'; cases e'
  have pn' : isLd X (names.map .str) vn hb := Mono.ld _ _ _ k pn
  refine code_callR (P := fun fl h' => fl = .next ∧ Keep hb h' ∧ isMn X names (.ref (hb.objs.size + 1)) h') W (O'.keep k1) (f := 49) (args := ⟨[.ref (hb.objs.size + 1), vl, vn, vr, .ref aDigest], []⟩)
    (binds := [(Str.ofString "self", .ref (hb.objs.size + 1)), (Str.ofString "language", vl), (Str.ofString "wordlist", vn), (Str.ofString "radix", vr), (Str.ofString "sha256", .ref aDigest)])
    (ρ := fun _ => [(Str.ofString "self", isV (.ref (hb.objs.size + 1))), (Str.ofString "language", isV vl), (Str.ofString "wordlist", isV vn), (Str.ofString "radix", isV vr), (Str.ofString "sha256", isV (.ref aDigest))])
    rfl rfl (by kernel_rfl!) ?dep (fun s' k' => kp_binds (W.kin.keeps ((O'.keep k1).base.trans k')) fun _ => rfl) ?rho ?run _ _ rfl fun fl h' tk ⟨e, k', p⟩ => ?fin
  case dep =>
    show (A.under _).depth < _
    have hw : Code.weight (.builtin "type.__call__" ⟨.ref aCls :: [vl, vn, vr, .ref aDigest], []⟩) = 1 := by kernel_rfl!
    show A.depth + Code.weight _ < _
    rw [hw]
    omega
  case rho =>
    intro X' hX hF
    exact hr_cons ⟨Stable.v, _, by simp, fun h k => rfl⟩ (hr_cons ⟨Stable.v, _, by simp, fun h k => rfl⟩ (hr_cons ⟨Stable.v, _, by simp, fun h k => rfl⟩ (hr_cons ⟨Stable.v, _, by simp, fun h k => rfl⟩ (hr_cons ⟨Stable.v, _, by simp, fun h k => rfl⟩ hr_nil))))
  case fin =>
    subst e
    exact q h' tk k' p
  case run =>
    intro L env X' h₁ he k₁ hX fr hab own F
    obtain ⟨m, hm⟩ := F.ns
    have hL0 := own _ (.inl rfl)
    have v1 := F.val (name := Str.ofString "self") (by walk_at "m_mem") (by walk_at "m_env") hm
    have v2 := F.val (name := Str.ofString "language") (by walk_at "m_mem") (by walk_at "m_env") hm
    have v3 := F.val (name := Str.ofString "wordlist") (by walk_at "m_mem") (by walk_at "m_env") hm
    have v4 := F.val (name := Str.ofString "radix") (by walk_at "m_mem") (by walk_at "m_env") hm
    have v5 := F.val (name := Str.ofString "sha256") (by walk_at "m_mem") (by walk_at "m_env") hm
    have I₁ : Ini hb aCls env m (hb.objs.size + 1) hb.objs.size [] 0 h₁ := {
      keep := k1.trans k₁
      ns := hm
      at_ := k₁ _ _ hat
      dict := k₁ _ _ hdt
      hx := nx
      hd := nd
      lx := fun e => by rw [← e, hat] at hL0; cases hL0
      ld := fun e => by rw [← e, hdt] at hL0; cases hL0
      xd := Nat.succ_ne_self _
      above := Nat.le_trans (by rw [Heap.size_push, Heap.size_push]; omega) hab }
    have Fr : ∀ {es n h}, Ini hb aCls env m (hb.objs.size + 1) hb.objs.size es n h → Fre g0 env [(Str.ofString "self", isV (.ref (hb.objs.size + 1))), (Str.ofString "language", isV vl), (Str.ofString "wordlist", isV vn), (Str.ofString "radix", isV vr), (Str.ofString "sha256", isV (.ref aDigest)),
        (Str.ofString "language", isS (Str.ofString "some")), (Str.ofString "wordlist", isL X (names.map .str))] h := fun I =>
      I.fre O'.base F.kind F.glb F.blt (hr_cons ⟨Mono.v, by walk_at "m_env", by kernel_rfl!, _, v1, rfl⟩ (hr_cons ⟨Mono.v, by walk_at "m_env", by kernel_rfl!, _, v2, rfl⟩ (hr_cons ⟨Mono.v, by walk_at "m_env", by kernel_rfl!, _, v3, rfl⟩ (hr_cons ⟨Mono.v, by walk_at "m_env", by kernel_rfl!, _, v4, rfl⟩
        (hr_cons ⟨Mono.v, by walk_at "m_env", by kernel_rfl!, _, v5, rfl⟩ (hr_cons ⟨Mono.s, by walk_at "m_env", by kernel_rfl!, _, v2, pl⟩ (hr_cons ⟨Mono.l, by walk_at "m_env", by kernel_rfl!, _, v3, pn'.1⟩ hr_nil)))))))
    have XK := W.kin.keeps O'.base
    obtain ⟨tr, rfl⟩ := pr
    refine er_setattr (P := isV (.int (names.length : Int) tr)) I₁ XK ?a1 (fun h k => ?a2) (by kernel_rfl!) (by kernel_rfl!) (by kernel_rfl!) (by kernel_rfl!) (by walk_at "m_rfl") (fun _ _ => Nat.le_trans (Nat.le_refl 1) (by decide)) rfl Mono.v (fun h₂ t2 u2 e2 _ I₂ => ?_) (fun _ _ _ z => z)
    case a1 => have F := Fr I₁; walk_at "m_var"
    case a2 => have F := Fr (I₁.kept k); walk_at "m_var"
    cases e2
    refine er_setattr (P := isV vl) I₂ XK ?a1 (fun h k => ?a2) (by kernel_rfl!) (by kernel_rfl!) (by kernel_rfl!) (by kernel_rfl!) (by walk_at "m_rfl") (fun _ _ => Nat.le_trans (Nat.le_refl 2) (by decide)) rfl Mono.v (fun h₃ t3 u3 e3 _ I₃ => ?_) (fun _ _ _ z => z)
    case a1 => have F := Fr I₂; exact F.var (P := isV vl) (by walk_at "m_mem")
    case a2 => have F := Fr (I₂.kept k); walk_at "m_var"
    cases e3
    refine er_setattr (P := isV (.ref aDigest)) I₃ XK ?a1 (fun h k => ?a2) (by kernel_rfl!) (by kernel_rfl!) (by kernel_rfl!) (by kernel_rfl!) (by walk_at "m_rfl") (fun _ _ => Nat.le_trans (Nat.le_refl 3) (by decide)) rfl Mono.v (fun h₄ t4 u4 e4 _ I₄ => ?_) (fun _ _ _ z => z)
    case a1 => have F := Fr I₃; walk_at "m_var"
    case a2 => have F := Fr (I₃.kept k); walk_at "m_var"
    cases e4
    refine er_skip (ev_cmpT (P₁ := isI (names.map S.str).length) (P₂ := isI names.length) (ev_B (P := isI (names.map S.str).length) (T := "len") (PL := fun vs h => ∃ v, vs = [v] ∧ isL X (names.map .str) v h) ?b1 (ev_args1 ?b2 Mono.l rfl) (fun vs h k ⟨v, e, z⟩ => e ▸ ev_len_list z (by simp; omega)) rfl rfl)
      (ev_attr (P₁ := isV (.ref (hb.objs.size + 1))) ?b3 (fun v h k e => ?b4) rfl (fun _ _ => rfl)) Mono.i (fun a b h k x y => (cmp_neI x y).mono fun v h k z => ?b5) rfl) (fun h₅ k₅ => ?_)
    case b1 => have F := Fr I₄; walk_at "m_blt"
    case b2 => have F := Fr I₄; exact F.var (P := isL X (names.map .str)) (by walk_at "m_mem")
    case b3 => have F := Fr I₄; exact F.var (P := isV (.ref (hb.objs.size + 1))) (by walk_at "m_mem")
    case b4 =>
      cases e
      have I₅ := I₄.kept k
      exact (getA_own (X := X) (attr := none) W (O'.base.trans I₅.keep) (I₅.obj hXn) (by kernel_rfl!) (by kernel_rfl!) (by kernel_rfl!) (by kernel_rfl!) rfl rfl).mono fun v h k e => ⟨tr, e⟩
    case b5 =>
      have e : v = .bool (((names.map S.str).length : Int) != (names.length : Int)) := z
      rw [e]; show Value.bool _ = .bool _
      simp
    have I₅ := I₄.kept k₅
    refine er_setattr (P := isV vn) I₅ XK ?a1 (fun h k => ?a2) (by kernel_rfl!) (by kernel_rfl!) (by kernel_rfl!) (by kernel_rfl!) (by walk_at "m_rfl") (fun _ _ => Nat.le_trans (Nat.le_refl 4) (by decide)) rfl Mono.v (fun h₆ t6 u6 e6 _ I₆ => ?_) (fun _ _ _ z => z)
    case a1 => have F := Fr I₅; exact F.var (P := isV vn) (by walk_at "m_mem")
    case a2 => have F := Fr (I₅.kept k); walk_at "m_var"
    cases e6
    refine er_setattr (P := isS (Str.ofString " ")) I₆ XK (ev_ifexp (b := false) (ev_cmpT (P₁ := isS (Str.ofString "some")) (P₂ := isS (Str.ofString "japanese")) ?c1 ev_str Mono.s (fun a b h k x y => (cmp_eqS x y).mono fun v h k z => ?c2) rfl) (fun e => by cases e) fun _ => ev_str) (fun h k => ?a2) (by kernel_rfl!) (by kernel_rfl!) (by kernel_rfl!) (by kernel_rfl!) (by walk_at "m_rfl")
      (fun _ _ => Nat.le_trans (Nat.le_refl 5) (by decide)) rfl Mono.s (fun h₇ t7 u7 e7 _ I₇ => ?_) (fun _ _ _ z => z)
    case c1 => have F := Fr I₆; exact F.var (P := isS (Str.ofString "some")) (by walk_at "m_mem")
    case c2 =>
      have e : v = .bool (Str.ofString "some" == Str.ofString "japanese") := z
      rw [e]; show Value.bool _ = .bool _
      rw [show (Str.ofString "some" == Str.ofString "japanese") = false by decide +kernel]
    case a2 => have F := Fr (I₆.kept k); walk_at "m_var"
    obtain ⟨t7', rfl⟩ := e7
    refine er_nil ⟨rfl, I₇.keep, _, _, vn, t7', rfl, I₇.obj hXn, rfl, Mono.ld _ _ _ I₇.keep pn', rfl, rfl, ?_⟩
    exact hr_cons rfl (hr_cons rfl (hr_cons rfl (hr_cons rfl (hr_cons rfl (hr_cons rfl hr_nil)))))
end
end Mine

set_option maxRecDepth 100000
set_option linter.unusedVariables false
set_option Elab.async false
namespace Mine
open PySem PySem.W PySem.Calls PyProof.Rows
/-- names put together -/
local macro_rules | `(tactic| walk_at "m_mem") => `(tactic| first | with_reducible exact List.mem_cons_self | (with_reducible refine List.mem_cons_of_mem _ ?_; walk_at "m_mem"))
local macro_rules | `(tactic| walk_at "m_fre") => `(tactic| first | assumption | exact Frm.e (by assumption))
local macro_rules | `(tactic| walk_at "m_var") => `(tactic| exact Fre.var (by walk_at "m_fre") (by walk_at "m_mem"))
local macro_rules | `(tactic| walk_at "m_env") => `(tactic| first | (subst_vars; kernel_rfl!))
local macro_rules | `(tactic| walk_at "m_glob") => `(tactic| exact Fre.glob (by walk_at "m_fre") (by assumption) (by kernel_rfl!) (by walk_at "m_env") (by kernel_rfl!))
local macro_rules | `(tactic| walk_at "m_blt") => `(tactic| exact Fre.blti (by walk_at "m_fre") (by assumption) (by kernel_rfl!) (by kernel_rfl!) (by decide) (by walk_at "m_env") (by kernel_rfl!))
local macro_rules | `(tactic| walk_at "m_loc") => `(tactic| exact Or.inl (by walk_at "m_env"))
local macro_rules | `(tactic| walk_at "m_cel") => `(tactic| exact Or.inr ⟨by walk_at "m_env", by walk_at "m_env"⟩)
local macro_rules | `(tactic| walk_at "m_hr") => `(tactic| first | with_reducible exact hr_nil | (with_reducible refine hr_cons ?_ ?_; first | exact Or.inl rfl | exact Or.inr ⟨by walk_at "m_mem", by dsimp only; decide +kernel⟩); walk_at "m_hr")


section
variable {prog : Program} {w : World} {A : Around} {g0 h0 h h' : Heap} {mg mb : Str → Option Value} {X : Addr → Prop} {env : Env}

set_option maxHeartbeats 4000000 in
theorem c_norm (W : Wd (KK w) g0 mg mb) (O : Out g0 X h0) (hr : A.depth + 5 < recursionLimit) (hh : A.handled = none) {x : Str} {v : Value} (p : isS x v h0) :
    Ev prog w A h0 (call (.ref 56) [v]) (isS x) := by
  refine ev_callK W O (f := 56) (args := ⟨[v], []⟩) (binds := [(Str.ofString "txt", v)]) (ρ := fun X' => [(Str.ofString "txt", isS x)])
    rfl rfl (by kernel_rfl!) (by omega) (fun _ _ => BindsTo.of_eq rfl) ?_ ?_
  · intro X' hX hF
    exact hr_cons ⟨Stable.s, v, by simp, fun h k => p⟩ hr_nil
  · intro L env X' h₁ he k hX fresh F cells
    replace hh : (A.deeper env).handled = none := hh
    refine ex_if (b := false) (ev_isTrue (P₁ := isB false) (ev_B (T := "isinstance") (PL := fun vs h => ∃ u v, vs = [u, v] ∧ isS x u h ∧ isV (.type "bytes") v h) ?a (ev_args2 ?b ?c Mono.s Mono.v rfl rfl) (fun vs h k ⟨u, v, e, z, z'⟩ => ?d) rfl rfl) (fun v h k z => tr_b z) rfl) fun h₂ k₂ => ?_
    case a => walk_at "m_blt"
    case b => walk_at "m_var"
    case c => walk_at "m_blt"
    case d => subst e; cases z'; exact isi_str_bytes z
    have F₂ := F.keep k₂
    refine ex_if (b := true) (ev_isTrue (P₁ := isB true) (ev_B (T := "isinstance") (PL := fun vs h => ∃ u v, vs = [u, v] ∧ isS x u h ∧ isV (.type "str") v h) ?a (ev_args2 ?b ?c Mono.s Mono.v rfl rfl) (fun vs h k ⟨u, v, e, z, z'⟩ => ?d) rfl rfl) (fun v h k z => tr_b z) rfl) fun h₃ k₃ => ?_
    case a => walk_at "m_blt"
    case b => walk_at "m_var"
    case c => walk_at "m_blt"
    case d => subst e; cases z'; exact isi_str_str z
    have F₃ := F₂.keep k₃
    refine ex_assign F₃ (P := isS x) ?v Stable.s [(Str.ofString "utxt", isS x)] (fun h₄ k₄ F₄ => ex_nil (ex_nil ?r)) (by walk_at "m_loc") rfl (by walk_at "m_hr") rfl
    case v => walk_at "m_var"
    case r =>
      refine ex_return (P := isS x) ?v fun v h' _ z => z
      walk_at "m_var"

/-- what an object answers for its names -/
theorem ev_wordlist {value : Expr} {pos : Pos} {ws : List Str} (W : Wd (KK w) g0 mg mb) (b : Keep g0 h0) (x : Ev prog w A h0 (eval value env) (isMn X ws)) (he : eval (.Attribute value (Str.ofString "wordlist") pos) env = (do let o ← eval value env; standAt pos.atName; let r ← holding [o] (getAttr o (Str.ofString "wordlist") true); letTemporaryGo value o r; pure r))
    (ht : ∀ o r, letTemporaryGo value o r = pure ()) : Ev prog w A h0 (eval (.Attribute value (Str.ofString "wordlist") pos) env) (isLd X (ws.map .str)) :=
  ev_attr x (fun v h k ⟨a, es, wl, t, e, ob, g1, g2, _⟩ => by
    subst e
    exact (getA_own W (b.trans k) ob (attr := none) (by kernel_rfl!) (by kernel_rfl!) (by kernel_rfl!) (by kernel_rfl!) g1 (by obtain ⟨⟨l, vs, e, _⟩, _⟩ := g2; rw [e]; rfl)).mono fun v h k e => by cases e; exact Mono.ld _ _ _ k g2) he ht
theorem ev_delim {value : Expr} {pos : Pos} {ws : List Str} (W : Wd (KK w) g0 mg mb) (b : Keep g0 h0) (x : Ev prog w A h0 (eval value env) (isMn X ws)) (he : eval (.Attribute value (Str.ofString "delimiter") pos) env = (do let o ← eval value env; standAt pos.atName; let r ← holding [o] (getAttr o (Str.ofString "delimiter") true); letTemporaryGo value o r; pure r))
    (ht : ∀ o r, letTemporaryGo value o r = pure ()) : Ev prog w A h0 (eval (.Attribute value (Str.ofString "delimiter") pos) env) (isS (Str.ofString " ")) :=
  ev_attr x (fun v h k ⟨a, es, wl, t, e, ob, g1, g2, g3, g4, _⟩ => by
    subst e
    exact (getA_own W (b.trans k) ob (attr := none) (by kernel_rfl!) (by kernel_rfl!) (by kernel_rfl!) (by kernel_rfl!) g4 rfl).mono fun v h k e => ⟨t, e⟩) he ht
/-- self.sha256(...) -/
theorem ev_sha {o e : Expr} {apos pos : Pos} {ws : List Str} {bs : Array UInt8} (W : Wd (KK w) g0 mg mb) (O : Out g0 X h0) (hr : A.depth + 5 < recursionLimit) (hh : A.handled = none) (hz : bs.size ≤ 1000) (x : Ev prog w A h0 (eval o env) (isMn X ws)) (y : Ev prog w A h0 (eval e env) (isBy X bs)) {pl : Sem Bool}
    (he : eval (.Call (.Attribute o (Str.ofString "sha256") apos) [e] [] pos) env = (do let ov ← eval o env; standAt apos.atName; let (f, first) ← holding [ov] (getMethod ov (Str.ofString "sha256") pl); callWith pos f first (backTo pos (starEach [e] env)) (backToKw pos (keywordEach [] env))))
    (hse : starEach [e] env = [(false, eval e env)]) : Ev prog w A h0 (eval (.Call (.Attribute o (Str.ofString "sha256") apos) [e] [] pos) env) (isY (dig bs)) :=
  ev_attrCall (PM := fun fx _ => fx = (.ref aDigest, [])) x (fun v h k ⟨a, es, wl, t, e, ob, g1, g2, g3, _⟩ => by
      subst e
      exact getM_own W (O.base.trans k) ob (by kernel_rfl!) (by kernel_rfl!) (by kernel_rfl!) g3 rfl)
    (fun fx h k e => by
      subst e
      exact cw_K W (O.base.trans k) (by kernel_rfl!) ((ev_args1 y Mono.by hse).base k) (fun vs h' k' ⟨v, e, z⟩ => by subst e; exact c_digest W (O.keep (k.trans k')) hr hh z hz) hse rfl rfl) he
/-- self.normalize_string(...) -/
theorem ev_norm {o e : Expr} {apos pos : Pos} {ws : List Str} {y : Str} (W : Wd (KK w) g0 mg mb) (O : Out g0 X h0) (hr : A.depth + 5 < recursionLimit) (hh : A.handled = none) (x : Ev prog w A h0 (eval o env) (isMn X ws)) (ye : Ev prog w A h0 (eval e env) (isS y)) {pl : Sem Bool}
    (he : eval (.Call (.Attribute o (Str.ofString "normalize_string") apos) [e] [] pos) env = (do let ov ← eval o env; standAt apos.atName; let (f, first) ← holding [ov] (getMethod ov (Str.ofString "normalize_string") pl); callWith pos f first (backTo pos (starEach [e] env)) (backToKw pos (keywordEach [] env))))
    (hse : starEach [e] env = [(false, eval e env)]) : Ev prog w A h0 (eval (.Call (.Attribute o (Str.ofString "normalize_string") apos) [e] [] pos) env) (isS y) :=
  ev_attrCall (PM := fun fx _ => fx = (.ref 56, [])) x (fun v h k ⟨a, es, wl, t, e, ob, g1, g2, g3, g4, g5⟩ => by
      subst e
      exact getM_sm (p' := 58) (rest := _) W (O.base.trans k) ob (by kernel_rfl!) (by kernel_rfl!) (by kernel_rfl!) (by kernel_rfl!) (by kernel_rfl!) (by kernel_rfl!) (by decide +kernel) (g5 _ (by simp)) rfl rfl)
    (fun fx h k e => by
      subst e
      exact cw_K W (O.base.trans k) (by kernel_rfl!) ((ev_args1 ye Mono.s hse).base k) (fun vs h' k' ⟨v, e, z⟩ => by subst e; exact c_norm W (O.keep (k.trans k')) hr hh z) hse rfl rfl) he
/-- e.split(' ') -/
theorem ev_split {o e : Expr} {apos pos : Pos} {x : Str} (xo : Ev prog w A h0 (eval o env) (isS x)) (ye : Ev prog w A h0 (eval e env) (isS sp)) (hlive : ∀ a, X a → ∃ o, h0.get? a = some o) (hz : x.length ≤ 10000) {pl : Sem Bool}
    (hc : ∀ ov, callWith pos (.builtin "str.split") [ov] (backTo pos (starEach [e] env)) (backToKw pos (keywordEach [] env)) = callWith pos (.builtin "str.split") [ov] (backTo pos (starEach [e] env)) [])
    (he : eval (.Call (.Attribute o (Str.ofString "split") apos) [e] [] pos) env = (do let ov ← eval o env; standAt apos.atName; let (f, first) ← holding [ov] (getMethod ov (Str.ofString "split") pl); callWith pos f first (backTo pos (starEach [e] env)) (backToKw pos (keywordEach [] env))))
    (hse : starEach [e] env = [(false, eval e env)]) : Ev prog w A h0 (eval (.Call (.Attribute o (Str.ofString "split") apos) [e] [] pos) env) (isLS X (Txt.split x sp)) :=
  ev_methB (P₁ := isS x) (T := "str") (PL := fun vs h => ∃ v, vs = [v] ∧ isS sp v h) xo Mono.s PySem.F.plainAttrs_str PySem.F.slot_str_split PySem.F.type_str_split (fun v h k z => by
      obtain ⟨t, rfl⟩ := z
      exact ⟨fun s _ => typeIs_str _ _ _, fun a e => by cases e⟩) (ev_args1 ye Mono.s hse)
    (fun v vs h k z ⟨v', e, z'⟩ => e ▸ call_split z z' (by rw [sp_cps]; rfl) (fun a q => let ⟨o, e⟩ := hlive a q; ⟨o, k a o e⟩) (by rw [sizeLine_eq]; omega) (Nat.le_trans (parts_le x sp (by rw [sp_cps]; decide)) (by rw [sizeLine_eq]; omega))) hc he hse rfl

end
end Mine

set_option maxRecDepth 100000
set_option linter.unusedVariables false
set_option Elab.async false
namespace Mine
open PySem PySem.W PySem.Calls PyProof.Rows
/-- names put together -/
local macro_rules | `(tactic| walk_at "m_mem") => `(tactic| first | with_reducible exact List.mem_cons_self | (with_reducible refine List.mem_cons_of_mem _ ?_; walk_at "m_mem"))
local macro_rules | `(tactic| walk_at "m_fre") => `(tactic| first | assumption | exact Frm.e (by assumption))
local macro_rules | `(tactic| walk_at "m_var") => `(tactic| exact Fre.var (by walk_at "m_fre") (by walk_at "m_mem"))
local macro_rules | `(tactic| walk_at "m_env") => `(tactic| first | (subst_vars; kernel_rfl!))
local macro_rules | `(tactic| walk_at "m_glob") => `(tactic| exact Fre.glob (by walk_at "m_fre") (by assumption) (by kernel_rfl!) (by walk_at "m_env") (by kernel_rfl!))
local macro_rules | `(tactic| walk_at "m_blt") => `(tactic| exact Fre.blti (by walk_at "m_fre") (by assumption) (by kernel_rfl!) (by kernel_rfl!) (by decide) (by walk_at "m_env") (by kernel_rfl!))
local macro_rules | `(tactic| walk_at "m_loc") => `(tactic| exact Or.inl (by walk_at "m_env"))
local macro_rules | `(tactic| walk_at "m_cel") => `(tactic| exact Or.inr ⟨by walk_at "m_env", by walk_at "m_env"⟩)
local macro_rules | `(tactic| walk_at "m_hr") => `(tactic| first | with_reducible exact hr_nil | (with_reducible refine hr_cons ?_ ?_; first | exact Or.inl rfl | exact Or.inr ⟨by walk_at "m_mem", by dsimp only; decide +kernel⟩); walk_at "m_hr")


/-- a bytearray made since h0 -/
def isE (X : Addr → Prop) (h0 : Heap) (B : Array UInt8) : PV := fun v h => isA X B v h ∧ ∃ a, v = .ref a ∧ h0.get? a = none
theorem Stable.e {X : Addr → Prop} {h0 : Heap} {B : Array UInt8} : Stable X (isE X h0 B) := fun _ _ _ k p => ⟨isA.keep p.1 k, p.2⟩
theorem isA.widen {X X' : Addr → Prop} {b : Array UInt8} {v : Value} {h : Heap} (p : isA X b v h) (hf : ∀ a, X' a → ¬ X a → h.get? a = none) : isA X' b v h := by
  obtain ⟨a, e, n, q⟩ := p
  exact ⟨a, e, fun z => (by rw [IsBA, hf a z n] at q; cases q), q⟩
theorem isA.narrow {X X' : Addr → Prop} {b : Array UInt8} {v : Value} {h : Heap} (p : isA X' b v h) (hs : ∀ a, X a → X' a) : isA X b v h := by
  obtain ⟨a, e, n, q⟩ := p
  exact ⟨a, e, fun z => n (hs _ z), q⟩
theorem isE.widen {X X' : Addr → Prop} {h0 : Heap} {b : Array UInt8} {v : Value} {h : Heap} (p : isE X h0 b v h) (hf : ∀ a, X' a → ¬ X a → h.get? a = none) : isE X' h0 b v h := ⟨isA.widen p.1 hf, p.2⟩
theorem isE.narrow {X X' : Addr → Prop} {h0 : Heap} {b : Array UInt8} {v : Value} {h : Heap} (p : isE X' h0 b v h) (hs : ∀ a, X a → X' a) : isE X h0 b v h := ⟨isA.narrow p.1 hs, p.2⟩
/-- the bits of the digest -/
def hbl (b : Array UInt8) : List S := (List.range b.size).flatMap fun i => (List.range 8).map fun k => S.bool (bt (b.getD i 0).toNat (7 - k))
theorem flat8 {α : Type} (f : Nat → Nat → α) : ∀ (n i : Nat), i < n * 8 → ((List.range n).flatMap fun i => (List.range 8).map (f i))[i]? = some (f (i / 8) (i % 8))
  | 0, i, h => by omega
  | n + 1, i, h => by
    have hl : ((List.range n).flatMap fun i => (List.range 8).map (f i)).length = n * 8 := by
      clear h
      induction n with
      | zero => rfl
      | succ n ih => rw [List.range_succ (n := n), List.flatMap_append, List.length_append, ih]; simp; omega
    rw [List.range_succ (n := n), List.flatMap_append]
    by_cases h' : i < n * 8
    · rw [List.getElem?_append_left (by rw [hl]; exact h')]
      exact flat8 f n i h'
    · rw [List.getElem?_append_right (by rw [hl]; omega), hl]
      simp only [List.flatMap_cons, List.flatMap_nil, List.append_nil]
      rw [List.getElem?_map, List.getElem?_range (by omega)]
      simp only [Option.map_some]
      congr 2 <;> omega
theorem hbl_get (b : Array UInt8) {i : Nat} (h : i < b.size * 8) : (hbl b)[i]? = some (S.bool (bt (b.getD (i / 8) 0).toNat (7 - i % 8))) := flat8 (fun i k => S.bool (bt (b.getD i 0).toNat (7 - k))) b.size i h

section
variable {prog : Program} {w : World} {A : Around} {g0 h0 h h' : Heap} {mg mb : Str → Option Value} {X Y : Addr → Prop} {env : Env} {P' : Flow → Heap → Prop}
theorem exc_split (k : Nat) {body : List Stmt} {J : Heap → Prop} (x : Ex prog w A Y h (execs (body.take k) env) (fun fl h' => fl = .next ∧ J h')) (n : ∀ h', KeepB Y h h' → Live h h' → J h' → ExC prog w A Y h' (execs (body.drop k) env) P') :
    ExC prog w A Y h (execs body env) P' := by
  have := exc_append x n
  rwa [List.take_append_drop] at this
theorem evc_ba {n : Nat} {v : Value} (p : isI (n : Int) v h) (hn : n ≤ 1000) : EvC prog w A h (call (.type "bytearray") [v]) (fun v h' => ∃ L, v = .ref L ∧ h.get? L = none ∧ (∃ o, h'.get? L = some o) ∧ IsBA h' L (Array.replicate n 0)) := fun s Q E k q => by
  obtain ⟨t, rfl⟩ := p
  exact call_ba hn fun h' tk b k' => q _ h' tk k' ⟨_, rfl, none_of_keep k get_size, ⟨_, b⟩, b⟩
theorem ev_lenA {v : Value} {a : Addr} {b : Array UInt8} (e : v = .ref a) (p : IsBA h a b) (hz : b.size ≤ 1000) : Ev prog w A h (call (.builtin "len") [v]) (isI b.size) := fun s Q E k q => by
  subst e
  exact ba_len (k _ _ p) hz fun t' tk => q _ s.heap tk (fun _ _ e => e) ⟨t', rfl⟩

set_option maxHeartbeats 16000000 in
theorem c_entropy (W : Wd (KK w) g0 mg mb) (O : Out g0 X h0) (hr : A.depth + 8 < recursionLimit) (hh : A.handled = none) {ws parts : List Str} {B : Array UInt8} {cb : Nat → Bool} {idx : Nat → Nat} {u v : Value}
    (pu : isMn X ws u h0) (p : (∃ x, isS x v h0 ∧ x.length ≤ 10000 ∧ Txt.split x sp = parts) ∨ isLS X parts v h0) (hN : ([12, 15, 18, 21, 24] : List Int).any (· == (parts.length : Int)) = true) (hws : ws.length ≤ 5000)
    (hi : ∀ j, j < parts.length → ws[idx j]? = some (parts.getD j (Str.ofString "")) ∧ ∀ m, m < idx j → ws[m]? ≠ some (parts.getD j (Str.ofString "")))
    (hcb : ∀ j, j < parts.length → ∀ k, k < 11 → cb (j * 11 + k) = bt (idx j) (10 - k)) (hB : B.size * 8 + parts.length / 3 = parts.length * 11)
    (hbits : ∀ i (h : i < B.size), ∀ j, j < 8 → cb (i * 8 + j) = bt B[i].toNat (7 - j))
    (hck : ∀ i, i < parts.length / 3 → cb (B.size * 8 + i) = bt ((dig B).getD (i / 8) 0).toNat (7 - i % 8)) :
    EvC prog w A h0 (call (.ref 82) [u, v]) (fun v h => ∃ L, v = .ref L ∧ h0.get? L = none ∧ IsBA h L B) := by
  have hN24 : parts.length ≤ 24 := by
    simp only [List.any_cons, List.any_nil, Bool.or_false, Bool.or_eq_true, beq_iff_eq] at hN
    omega
  have hBz : B.size ≤ 1000 := by omega
  refine evc_callK W O (f := 82) (args := ⟨[u, v], []⟩) (binds := [(Str.ofString "self", u), (Str.ofString "words", v)]) (ρ := fun X' => [(Str.ofString "self", isMn X' ws), (Str.ofString "words", isV v)])
    rfl rfl (by kernel_rfl!) (by omega) (fun _ _ => BindsTo.of_eq rfl) ?_ ?_
  · intro X' hX hF
    exact hr_cons ⟨Stable.mn, u, by simp, fun h k => Mono.mn _ _ _ k (isMn.widen pu hF)⟩ (hr_cons ⟨Stable.v, v, by simp, fun h k => rfl⟩ hr_nil)
  · intro L0 env X' h₁ he k hX fresh own F
    replace hh : (A.deeper env).handled = none := hh
    have hr' : (A.deeper env).depth + 7 < recursionLimit := by show A.depth + 1 + 7 < _; omega
    have hlen : (parts.map S.str).length = parts.length := List.length_map _
    obtain ⟨b, hb⟩ : ∃ b : Bool, (b = false ∧ ∃ x, isS x v h₁ ∧ x.length ≤ 10000 ∧ Txt.split x sp = parts) ∨ (b = true ∧ isLS X' parts v h₁) := by
      rcases p with p | p
      · exact ⟨false, .inl ⟨rfl, p⟩⟩
      · exact ⟨true, .inr ⟨rfl, Mono.ls _ _ _ k (isL.widen p fresh)⟩⟩
    refine exc_split 8 (J := fun h' => ∃ L, ¬ X' L ∧ Frm g0 env (fun a => X' a ∨ a = L) (Own env) [(Str.ofString "self", isMn (fun a => X' a ∨ a = L) ws), (Str.ofString "concatBits", isV (.ref L)), (Str.ofString "checksumLengthBits", isI ((parts.length / 3 : Nat) : Int)), (Str.ofString "entropyLengthBits", isI ((B.size * 8 : Nat) : Int))] h' ∧ ML L (cbl cb (parts.length * 11) (parts.length * 11)) h') ?pre ?post
    case pre =>
      refine ex_if (b := !b) (ev_not (b := b) (ev_isTrue (P₁ := isB b) (ev_B (T := "isinstance") (PL := fun vs h => ∃ a c, vs = [a, c] ∧ isV v a h ∧ isV (.type "list") c h) ?a (ev_args2 ?b ?c Mono.v Mono.v rfl rfl) (fun vs h k ⟨a, c, e, z, z'⟩ => ?d) rfl rfl) (fun v h k z => tr_b z) rfl)) fun h₂ k₂ => ?_
      case a => walk_at "m_blt"
      case b => walk_at "m_var"
      case c => walk_at "m_blt"
      case d =>
        subst e; cases z; cases z'
        rcases hb with ⟨rfl, x, hx, _⟩ | ⟨rfl, hx⟩
        · exact isi_str_list hx
        · exact isi_list_list (Mono.ls _ _ _ k hx)
      have F₂ := F.keep k₂
      refine Ex.mono (P := fun fl h'' => fl = .next ∧ Frm g0 env X' (Own env) [(Str.ofString "self", isMn X' ws), (Str.ofString "words", isLS X' parts)] h'') ?ifp (fun fl h₃ k₃ z => ?cont)
      case ifp =>
        rcases hb with ⟨rfl, x, hx, hx1, hx2⟩ | ⟨rfl, hx⟩
        · refine ex_assign F₂ (P := isLS X' parts) ?sp Stable.ls [(Str.ofString "self", isMn X' ws), (Str.ofString "words", isLS X' parts)] (fun h₃ k₃ F₃ => ex_nil ⟨rfl, F₃⟩) (by walk_at "m_loc") rfl (hr_cons (.inr ⟨by walk_at "m_mem", by dsimp only; decide +kernel⟩) (hr_cons (.inl rfl) hr_nil)) (by subst_vars; rfl)
          rw [← hx2]
          refine ev_split ?m ev_str F₂.live hx1 (fun _ => rfl) rfl rfl
          refine Ev.mono (P := isV v) ?m2 (fun _ _ _ e => by cases e; exact hx)
          walk_at "m_var"
        · refine ex_nil ⟨rfl, F₂.more (hr_cons (.inl (by walk_at "m_mem")) (hr_cons (.inr ⟨isV v, by walk_at "m_mem", Stable.ls, fun _ e => by cases e; exact Mono.ls _ _ _ k₂ hx⟩) hr_nil))⟩
      case cont =>
        obtain ⟨rfl, F₃⟩ := z
        dsimp only
        have evlen : ∀ {h₄ : Heap} {p1 p2 pos : Pos}, Frm g0 env X' (Own env) [(Str.ofString "self", isMn X' ws), (Str.ofString "words", isLS X' parts)] h₄ → Ev prog w (A.deeper env) h₄ (eval (.Call (.Name (Str.ofString "len") p1) [.Name (Str.ofString "words") p2] [] pos) env) (isI parts.length) := fun F₄ => by
          refine (ev_B (P := isI (parts.map S.str).length) (T := "len") (PL := fun vs h => ∃ v, vs = [v] ∧ isL X' (parts.map S.str) v h) ?c (ev_args1 ?d Mono.l rfl) (fun vs h k ⟨v, e, z⟩ => e ▸ ev_len_list z (by rw [hlen]; omega)) rfl rfl).mono fun _ _ _ z => by rw [hlen] at z; exact z
          case c => walk_at "m_blt"
          case d => walk_at "m_var"
        refine ex_skip (ev_cmpT (P₁ := isI parts.length) (P₂ := isLI X' [12, 15, 18, 21, 24]) (evlen F₃) (ev_list (evpS ev_int (evpS ev_int (evpS ev_int (evpS ev_int (evpS ev_int evp0 rfl) rfl) rfl) rfl) rfl) F₃.live (by simp [sizeLine])) Mono.i (fun a b h k z z' => (cmp_notInI z z').mono fun v h k z => by rw [hN] at z; exact z) rfl) fun h₄ k₄ => ?_
        have F₄ := F₃.keep k₄
        refine ex_assign F₄ (P := isI ((parts.length * 11 : Nat) : Int)) ?v Stable.i [(Str.ofString "self", isMn X' ws), (Str.ofString "words", isLS X' parts), (Str.ofString "concatLenBits", isI ((parts.length * 11 : Nat) : Int))] (fun h₅ k₅ F₅ => ?_) (by walk_at "m_loc") rfl (hr_cons (.inr ⟨by walk_at "m_mem", by dsimp only; decide +kernel⟩) (hr_cons (.inr ⟨by walk_at "m_mem", by dsimp only; decide +kernel⟩) (hr_cons (.inl rfl) hr_nil))) (by subst_vars; rfl)
        case v =>
          rw [show ((parts.length * 11 : Nat) : Int) = (parts.length : Int) * 11 by omega]
          exact ev_mul (evlen F₄) ev_int (IntMulOk.of_right (by decide +kernel))
        refine ex_new (PL := fun L h => ML L (cbl cb (parts.length * 11) 0) h) F₅ (ev_bin (P₁ := isP1 (.bool false)) (P₂ := isI ((parts.length * 11 : Nat) : Int)) (ev_list1 ev_bool rfl) ?v Mono.p1 (fun a b h k z ⟨t, e⟩ => ?mul)) (fun L h h' k z => z.at k)
          (fun L => [(Str.ofString "self", isMn (fun a => X' a ∨ a = L) ws), (Str.ofString "words", isLS (fun a => X' a ∨ a = L) parts), (Str.ofString "concatLenBits", isI ((parts.length * 11 : Nat) : Int)), (Str.ofString "concatBits", isV (.ref L))]) (fun L hL => ?hr) (fun L h₆ hL k₆ ml F₆ => ?_) (by walk_at "m_loc") rfl (by subst_vars; rfl) (fun _ q => q)
        case v => walk_at "m_var"
        case mul =>
          subst e
          exact (mul_one z (by omega)).mono fun v h' k' ⟨L, e, n, o, m⟩ => ⟨L, e, none_of_keep k n, o, by rw [cbl_zero]; exact m⟩
        case hr =>
          have fr : ∀ a, (X' a ∨ a = L) → ¬ X' a → h₅.get? a = none := fun a z n => (z.resolve_left n) ▸ hL
          exact hr_cons (.inr ⟨by dsimp only; decide +kernel, Stable.mn, _, by walk_at "m_mem", fun v z => isMn.widen z fr⟩) (hr_cons (.inr ⟨by dsimp only; decide +kernel, Stable.ls, _, by walk_at "m_mem", fun v z => isL.widen z fr⟩)
            (hr_cons (.inr ⟨by dsimp only; decide +kernel, Stable.i, _, by walk_at "m_mem", fun v z => z⟩) (hr_cons (.inl rfl) hr_nil)))
        have hLX : ¬ X' L := fun z => by obtain ⟨o, e⟩ := F₅.live L z; rw [hL] at e; cases e
        have hLl : L ≠ env.locals := fun e => hLX (F₅.sub _ (e ▸ F₅.loc))
        have hLc : ∀ n c, env.cells.lookup n = some c → c ≠ L := fun n c z e => hLX (F₅.sub _ (e ▸ F₅.cel n c z))
        refine ex_assign F₆ (P := isI 0) ev_int Stable.i [(Str.ofString "self", isMn (fun a => X' a ∨ a = L) ws), (Str.ofString "words", isLS (fun a => X' a ∨ a = L) parts), (Str.ofString "concatLenBits", isI ((parts.length * 11 : Nat) : Int)), (Str.ofString "concatBits", isV (.ref L)), (Str.ofString "wordindex", isI 0)] (fun h₇ k₇ F₇ => ?_) (by walk_at "m_loc") rfl (by walk_at "m_hr") (by subst_vars; rfl) (fun _ q => .inl q)
        have ml₇ : ML L (cbl cb (parts.length * 11) 0) h₇ := ml.at fun o e => k₇ L o (fun z => hLX (F₅.sub _ z)) e
        have hYY : ∀ a, (Own env a ∨ a = L) → (X' a ∨ a = L) := fun a z => z.imp (F₅.sub a) id
        refine ex_for F₇ (n := (parts.map S.str).length) (item := fun i => [(Str.ofString "word", (parts.map S.str).getD i .none)]) (evit_list (ds := parts.map S.str) hh ?src) ?t ?nm hYY (fun a z => .inl z)
          (fun X'' i => [(Str.ofString "self", isMn X'' ws), (Str.ofString "concatLenBits", isI ((parts.length * 11 : Nat) : Int)), (Str.ofString "concatBits", isV (.ref L)), (Str.ofString "wordindex", isI (i : Int))])
          (fun i h => ML L (cbl cb (parts.length * 11) (i * 11)) h) (fun a => a = L) (fun a z => ⟨.inr z, z ▸ hLl⟩) (fun i h h' k z => z.at fun o e => k L o rfl e) (by simpa using ml₇)
          ?entry ?fr ?step
          [(Str.ofString "self", isMn (fun a => X' a ∨ a = L) ws), (Str.ofString "concatLenBits", isI ((parts.length * 11 : Nat) : Int)), (Str.ofString "concatBits", isV (.ref L))] ?exit ?after (fun _ => rfl)
        case src => walk_at "m_var"
        case t =>
          show env.kindOf (Str.ofString "word") = some .local
          walk_at "m_env"
        case nm => exact fun i hi => hr_cons ⟨by walk_at "m_env", by kernel_rfl!⟩ hr_nil
        case entry =>
          exact fun X'' hX'' hf => hr_cons ⟨Stable.mn, _, by walk_at "m_mem", fun v z => isMn.widen z hf⟩ (hr_cons ⟨Stable.i, _, by walk_at "m_mem", fun v z => z⟩ (hr_cons ⟨Stable.v, _, by walk_at "m_mem", fun v z => z⟩ (hr_cons ⟨Stable.i, isI 0, by walk_at "m_mem", fun v z => z⟩ hr_nil)))
        case fr =>
          exact fun X'' i hi => hr_cons (hr_cons (by dsimp only; decide +kernel) hr_nil) (hr_cons (hr_cons (by dsimp only; decide +kernel) hr_nil) (hr_cons (hr_cons (by dsimp only; decide +kernel) hr_nil) (hr_cons (hr_cons (by dsimp only; decide +kernel) hr_nil) hr_nil)))
        case exit =>
          exact fun X'' hX'' => hr_cons ⟨Stable.mn, _, by walk_at "m_mem", fun v h z => isMn.narrow z hX''⟩ (hr_cons ⟨Stable.i, _, by walk_at "m_mem", fun v h z => z⟩ (hr_cons ⟨Stable.v, _, by walk_at "m_mem", fun v h z => z⟩ hr_nil))
        case step =>
          intro i X'' h₈ hi8 hX'' hf k₈ ml₈ F₈
          rw [hlen] at hi8
          obtain ⟨hi1, hi2⟩ := hi i hi8
          replace F₈ : Frm g0 env X'' (Own env) [(Str.ofString "word", isS (parts.getD i (Str.ofString ""))), (Str.ofString "self", isMn X'' ws), (Str.ofString "concatLenBits", isI ((parts.length * 11 : Nat) : Int)), (Str.ofString "concatBits", isV (.ref L)), (Str.ofString "wordindex", isI (i : Int))] h₈ := by
            have e : (parts.map S.str).getD i .none = S.str (parts.getD i (Str.ofString "")) := by simp [hi8]
            rw [e] at F₈
            exact F₈
          have hidx : idx i < ws.length := (List.getElem?_eq_some_iff.mp hi1).1
          refine ex_assign F₈ (P := isI (idx i : Int)) (ev_methB (P₁ := isLd X'' (ws.map .str)) (T := "list") (PL := fun vs h => ∃ v, vs = [v] ∧ isS (parts.getD i (Str.ofString "")) v h) ?wl Mono.ld PySem.F.plainAttrs_list PySem.F.slot_list_index PySem.F.type_list_index (fun v h k z => ?ty) (ev_args1 ?ar Mono.s rfl)
            (fun v vs h k z ⟨v', e, z'⟩ => e ▸ call_indexS z.1 z' hi1 hi2 (by omega)) (fun _ => rfl) rfl rfl rfl) Stable.i
            [(Str.ofString "self", isMn X'' ws), (Str.ofString "concatLenBits", isI ((parts.length * 11 : Nat) : Int)), (Str.ofString "concatBits", isV (.ref L)), (Str.ofString "wordindex", isI (i : Int)), (Str.ofString "ndx", isI (idx i : Int))] (fun h₉ k₉ F₉ => ?_) (by walk_at "m_loc") rfl ?hr (by subst_vars; rfl) (fun a z => .inl z)
          case hr =>
            refine hr_cons (.inr ⟨by walk_at "m_mem", by dsimp only; decide +kernel⟩) (hr_cons (.inr ⟨by walk_at "m_mem", by dsimp only; decide +kernel⟩) (hr_cons (.inr ⟨by walk_at "m_mem", by dsimp only; decide +kernel⟩) (hr_cons (.inr ⟨by walk_at "m_mem", by dsimp only; decide +kernel⟩) (hr_cons (.inl rfl) hr_nil))))
          case wl =>
            refine ev_wordlist W F₈.base ?sf rfl fun _ _ => rfl
            case sf => walk_at "m_var"
          case ty =>
            obtain ⟨⟨l, vs, e, _, hl, _⟩, l', o, e', ho, hd⟩ := z
            subst e
            cases e'
            exact ⟨fun s e => by subst e; exact hl.typeIs, fun a e => by cases e; exact ⟨o, ho, hd⟩⟩
          case ar =>
            refine ev_norm (ws := ws) W F₈.out (by omega) hh ?sf ?wd rfl rfl
            case sf => walk_at "m_var"
            case wd => walk_at "m_var"
          refine ex_skip (ev_cmpT (P₁ := isI (idx i : Int)) (P₂ := isI 0) ?nx ev_int Mono.i (fun a b h k z z' => (cmp_ltI z z').mono fun v h k z => ?lt) rfl) fun h₁₀ k₁₀ => ?_
          case nx => walk_at "m_var"
          case lt =>
            rw [show decide ((idx i : Int) < 0) = false from decide_eq_false (by omega)] at z
            exact z
          have F₁₀ := F₉.keep k₁₀
          have hLX'' : X'' L := hX'' L (.inr rfl)
          have ml₁₀ : ML L (cbl cb (parts.length * 11) (i * 11 + 0)) h₁₀ := ml₈.at fun o e => k₁₀ L o (k₉ L o (fun z => hLX (F₅.sub _ z)) e)
          refine ex_for F₁₀ (n := 11) (item := fun k => [(Str.ofString "ii", .int (k : Int))]) (evit_range hh (by decide) ?rg ev_int rfl) ?t ?nm (fun a z => hX'' a (hYY a z)) (fun a z => .inl z)
            (fun X3 k => [(Str.ofString "self", isMn X3 ws), (Str.ofString "concatLenBits", isI ((parts.length * 11 : Nat) : Int)), (Str.ofString "concatBits", isV (.ref L)), (Str.ofString "wordindex", isI (i : Int)), (Str.ofString "ndx", isI (idx i : Int))])
            (fun k h => ML L (cbl cb (parts.length * 11) (i * 11 + k)) h) (fun a => a = L) (fun a z => ⟨z ▸ hLX'', z ▸ hLl⟩) (fun i h h' k z => z.at fun o e => k L o rfl e) ml₁₀
            ?entry ?fr ?step2
            [(Str.ofString "self", isMn X'' ws), (Str.ofString "concatLenBits", isI ((parts.length * 11 : Nat) : Int)), (Str.ofString "concatBits", isV (.ref L)), (Str.ofString "wordindex", isI (i : Int))] ?exit ?after2 (fun _ => rfl)
          case rg => walk_at "m_blt"
          case t =>
            show env.kindOf (Str.ofString "ii") = some .local
            walk_at "m_env"
          case nm => exact fun i hi => hr_cons ⟨by walk_at "m_env", by kernel_rfl!⟩ hr_nil
          case entry =>
            exact fun X3 hX3 hf3 => hr_cons ⟨Stable.mn, _, by walk_at "m_mem", fun v z => isMn.widen z hf3⟩ (hr_cons ⟨Stable.i, _, by walk_at "m_mem", fun v z => z⟩ (hr_cons ⟨Stable.v, _, by walk_at "m_mem", fun v z => z⟩ (hr_cons ⟨Stable.i, _, by walk_at "m_mem", fun v z => z⟩ (hr_cons ⟨Stable.i, _, by walk_at "m_mem", fun v z => z⟩ hr_nil))))
          case fr =>
            exact fun X'' i hi => hr_cons (hr_cons (by dsimp only; decide +kernel) hr_nil) (hr_cons (hr_cons (by dsimp only; decide +kernel) hr_nil) (hr_cons (hr_cons (by dsimp only; decide +kernel) hr_nil) (hr_cons (hr_cons (by dsimp only; decide +kernel) hr_nil) (hr_cons (hr_cons (by dsimp only; decide +kernel) hr_nil) hr_nil))))
          case exit =>
            exact fun X3 hX3 => hr_cons ⟨Stable.mn, _, by walk_at "m_mem", fun v h z => isMn.narrow z hX3⟩ (hr_cons ⟨Stable.i, _, by walk_at "m_mem", fun v h z => z⟩ (hr_cons ⟨Stable.v, _, by walk_at "m_mem", fun v h z => z⟩ (hr_cons ⟨Stable.i, _, by walk_at "m_mem", fun v h z => z⟩ hr_nil)))
          case step2 =>
            intro kk X3 h₁₁ hk hX3 hf3 k₁₁ ml₁₁ F₁₁
            replace F₁₁ : Frm g0 env X3 (Own env) [(Str.ofString "ii", isI (kk : Int)), (Str.ofString "self", isMn X3 ws), (Str.ofString "concatLenBits", isI ((parts.length * 11 : Nat) : Int)), (Str.ofString "concatBits", isV (.ref L)), (Str.ofString "wordindex", isI (i : Int)), (Str.ofString "ndx", isI (idx i : Int))] h₁₁ := F₁₁
            have hik : i * 11 + kk < parts.length * 11 := by omega
            refine ex_set (n := i * 11 + kk) (d := .bool (cb (i * 11 + kk))) F₁₁ ?val ?ob ?ix (hX3 L hLX'') hLl hLc ml₁₁ (by rw [cbl_len]; exact hik) (by rw [cbl_len]; omega) (fun h' kb ml' F' => ex_nil ⟨rfl, ?ml, F'.less ?less⟩) (by subst_vars; rfl) (.inr rfl)
            case val =>
              refine (ev_cmp (P₁ := isI (Builtin.bitAnd (idx i : Int) (1 * 2 ^ ((10 : Int) - (kk : Int)).toNat))) (P₂ := isI 0) (ev_and ?va (ev_shl ev_int (ev_sub ev_int ?vb) (by omega) (by omega) (by decide))) ev_int Mono.i (fun a b h k z z' => cmp_neI z z') rfl).mono fun v h k z => ?_
              case va => walk_at "m_var"
              case vb => walk_at "m_var"
              rw [show ((10 : Int) - (kk : Int)).toNat = 10 - kk by omega, bitAnd_ne, ← hcb i hi8 kk hk] at z
              exact z
            case ob => walk_at "m_var"
            case ix =>
              rw [show ((i * 11 + kk : Nat) : Int) = (i : Int) * 11 + (kk : Int) by omega]
              refine ev_add (ev_mul ?va ev_int (IntMulOk.of_right (by decide +kernel))) ?vb
              case va => walk_at "m_var"
              case vb => walk_at "m_var"
            case ml => rw [cbl_set] at ml'; exact ml'
            case less => exact fun p hp => List.mem_cons_of_mem _ hp
          case after2 =>
            intro h₁₁ k₁₁ ml₁₁ F₁₁
            refine ex_aug (a := (i : Int)) (b := 1) (c := ((i + 1 : Nat) : Int)) F₁₁ (by walk_at "m_mem") ev_int (fun t u h => iadd_ev) [(Str.ofString "self", isMn X'' ws), (Str.ofString "concatLenBits", isI ((parts.length * 11 : Nat) : Int)), (Str.ofString "concatBits", isV (.ref L)), (Str.ofString "wordindex", isI ((i + 1 : Nat) : Int))]
              (fun h₁₂ k₁₂ F₁₂ => ex_nil ⟨rfl, ?ml, F₁₂⟩) (by walk_at "m_loc") rfl (by walk_at "m_hr") (fun a z => .inl z)
            case ml =>
              rw [Nat.succ_mul]
              exact ml₁₁.at fun o e => k₁₂ L o (fun z => hLX (F₅.sub _ z)) e
        case after =>
          intro h₈ k₈ ml₈ F₈
          rw [hlen] at ml₈
          refine ex_assign F₈ (P := isI ((parts.length / 3 : Nat) : Int)) ?v Stable.i [(Str.ofString "self", isMn (fun a => X' a ∨ a = L) ws), (Str.ofString "concatLenBits", isI ((parts.length * 11 : Nat) : Int)), (Str.ofString "concatBits", isV (.ref L)), (Str.ofString "checksumLengthBits", isI ((parts.length / 3 : Nat) : Int))] (fun h₉ k₉ F₉ => ?_) (by walk_at "m_loc") rfl (by walk_at "m_hr") (by subst_vars; rfl) (fun a z => .inl z)
          case v =>
            rw [show ((parts.length / 3 : Nat) : Int) = ((parts.length * 11 : Nat) : Int) / 33 by omega]
            refine ev_div ?a ev_int (by decide) (by decide)
            case a => walk_at "m_var"
          refine ex_assign F₉ (P := isI ((B.size * 8 : Nat) : Int)) ?v Stable.i [(Str.ofString "self", isMn (fun a => X' a ∨ a = L) ws), (Str.ofString "concatBits", isV (.ref L)), (Str.ofString "checksumLengthBits", isI ((parts.length / 3 : Nat) : Int)), (Str.ofString "entropyLengthBits", isI ((B.size * 8 : Nat) : Int))] (fun h₁₀ k₁₀ F₁₀ => ?_) (by walk_at "m_loc") rfl (by walk_at "m_hr") (by subst_vars; rfl) (fun a z => .inl z)
          case v =>
            rw [show ((B.size * 8 : Nat) : Int) = ((parts.length * 11 : Nat) : Int) - ((parts.length / 3 : Nat) : Int) by omega]
            refine ev_sub ?a ?b
            case a => walk_at "m_var"
            case b => walk_at "m_var"
          exact ex_nil ⟨rfl, L, hLX, F₁₀, ml₈.at fun o e => k₁₀ L o (fun z => hLX (F₅.sub _ z)) (k₉ L o (fun z => hLX (F₅.sub _ z)) e)⟩
    case post =>
      intro h₂ k₂ l₂ ⟨L, hLX, F₂, ml₂⟩
      refine exc_new (PL := fun E h => IsBA h E (preB B 0 0)) F₂ (evc_T (T := "bytearray") (PL := fun vs h => ∃ v, vs = [v] ∧ isI (B.size : Int) v h) ?ba (Ev.c (ev_args1 (P₁ := isI (B.size : Int)) ?qn Mono.i rfl)) (fun vs h k ⟨v, e, z⟩ => ?mk) rfl) (fun L h h' k z => k _ z)
        (fun E => [(Str.ofString "self", isMn (fun a => (X' a ∨ a = L) ∨ a = E) ws), (Str.ofString "concatBits", isV (.ref L)), (Str.ofString "checksumLengthBits", isI ((parts.length / 3 : Nat) : Int)), (Str.ofString "entropyLengthBits", isI ((B.size * 8 : Nat) : Int)), (Str.ofString "entropy", isV (.ref E))])
        (fun E hE => ?hr) (fun E h₃ hE k₃ ba₃ F₃ => Ex.c ?_) (by walk_at "m_loc") rfl (by subst_vars; rfl) (fun _ q => q)
      case ba => walk_at "m_blt"
      case qn =>
        rw [show (B.size : Int) = ((B.size * 8 : Nat) : Int) / 8 by omega]
        refine ev_div ?a ev_int (by decide) (by decide)
        case a => walk_at "m_var"
      case mk =>
        subst e
        exact (evc_ba z hBz).mono fun v h' k' ⟨L, e, n, o, m⟩ => ⟨L, e, none_of_keep k n, o, by rw [preB_zero]; exact m⟩
      case hr =>
        have fr : ∀ a, ((X' a ∨ a = L) ∨ a = E) → ¬ (X' a ∨ a = L) → h₂.get? a = none := fun a z n => (z.resolve_left n) ▸ hE
        exact hr_cons (.inr ⟨by dsimp only; decide +kernel, Stable.mn, _, by walk_at "m_mem", fun v z => isMn.widen z fr⟩) (hr_cons (.inr ⟨by dsimp only; decide +kernel, Stable.v, _, by walk_at "m_mem", fun v z => z⟩)
            (hr_cons (.inr ⟨by dsimp only; decide +kernel, Stable.i, _, by walk_at "m_mem", fun v z => z⟩) (hr_cons (.inr ⟨by dsimp only; decide +kernel, Stable.i, _, by walk_at "m_mem", fun v z => z⟩) (hr_cons (.inl rfl) hr_nil))))
      have hEX : ¬ (X' E ∨ E = L) := fun z => by obtain ⟨o, e⟩ := F₂.live E z; rw [hE] at e; cases e
      have hLl : L ≠ env.locals := fun e => hLX (e ▸ F.sub _ F.loc)
      have hEl : E ≠ env.locals := fun e => hEX (.inl (e ▸ F.sub _ F.loc))
      have hLc : ∀ n c, env.cells.lookup n = some c → c ≠ L := fun n c z e => hLX (F.sub _ (e ▸ F.cel n c z))
      have hEc : ∀ n c, env.cells.lookup n = some c → c ≠ E := fun n c z e => hEX (.inl (F.sub _ (e ▸ F.cel n c z)))
      have hE0 : h0.get? E = none := none_of_keep k (by
        cases e : h₁.get? E with
        | none => rfl
        | some o =>
          obtain ⟨o', e'⟩ := l₂ E o e
          rw [hE] at e'; cases e')
      have ml₃ : ML L (cbl cb (parts.length * 11) (parts.length * 11)) h₃ := ml₂.at fun o e => k₃ L o (fun z => hLX (F.sub _ z)) e
      generalize hcbl : cbl cb (parts.length * 11) (parts.length * 11) = cbs at *
      have cbg : ∀ k, k < parts.length * 11 → cbs[k]? = some (S.bool (cb k)) := fun k hk => hcbl ▸ cbl_get cb hk hk
      have hYY : ∀ a, (Own env a ∨ a = E) → ((X' a ∨ a = L) ∨ a = E) := fun a z => z.imp (fun z => .inl (F.sub a z)) id
      refine ex_for F₃ (n := B.size) (item := fun i => [(Str.ofString "ii", .int (i : Int))]) (evit_range hh (by omega) ?rg ?len rfl) ?t ?nm hYY (fun a z => .inl z)
        (fun X3 i => [(Str.ofString "self", isMn X3 ws), (Str.ofString "concatBits", isV (.ref L)), (Str.ofString "checksumLengthBits", isI ((parts.length / 3 : Nat) : Int)), (Str.ofString "entropyLengthBits", isI ((B.size * 8 : Nat) : Int)), (Str.ofString "entropy", isV (.ref E))])
        (fun i h => IsBA h E (preB B i 0) ∧ ML L cbs h) (fun a => a = E ∨ a = L) (fun a z => z.elim (fun e => ⟨.inr e, fun q => hEl (e.symm.trans q)⟩) (fun e => ⟨.inl (.inr e), fun q => hLl (e.symm.trans q)⟩)) (fun i h h' k z => ⟨k _ _ (.inl rfl) z.1, z.2.at fun o e => k L o (.inr rfl) e⟩) ⟨ba₃, ml₃⟩
        ?entry ?fr ?step
        [(Str.ofString "self", isMn (fun a => (X' a ∨ a = L) ∨ a = E) ws), (Str.ofString "concatBits", isV (.ref L)), (Str.ofString "checksumLengthBits", isI ((parts.length / 3 : Nat) : Int)), (Str.ofString "entropyLengthBits", isI ((B.size * 8 : Nat) : Int)), (Str.ofString "entropy", isV (.ref E))] ?exit ?after (fun _ => rfl)
      case rg => walk_at "m_blt"
      case len =>
        refine ev_B (T := "len") (PL := fun vs h => ∃ v, vs = [v] ∧ isV (.ref E) v h) ?c (ev_args1 ?d Mono.v rfl) (fun vs h k ⟨v, e, z⟩ => ?g) rfl rfl
        case c => walk_at "m_blt"
        case d => walk_at "m_var"
        case g =>
          subst e
          have := ev_lenA (prog := prog) (w := w) (A := A.deeper env) (b := preB B 0 0) z (k _ _ ba₃) (by rw [preB_size]; exact hBz)
          rw [preB_size] at this
          exact this
      case t =>
        show env.kindOf (Str.ofString "ii") = some .local
        walk_at "m_env"
      case nm => exact fun i hi => hr_cons ⟨by walk_at "m_env", by kernel_rfl!⟩ hr_nil
      case entry =>
        exact fun X3 hX3 hf3 => hr_cons ⟨Stable.mn, _, by walk_at "m_mem", fun v z => isMn.widen z hf3⟩ (hr_cons ⟨Stable.v, _, by walk_at "m_mem", fun v z => z⟩ (hr_cons ⟨Stable.i, _, by walk_at "m_mem", fun v z => z⟩ (hr_cons ⟨Stable.i, _, by walk_at "m_mem", fun v z => z⟩ (hr_cons ⟨Stable.v, _, by walk_at "m_mem", fun v z => z⟩ hr_nil))))
      case fr =>
        exact fun X'' i hi => hr_cons (hr_cons (by dsimp only; decide +kernel) hr_nil) (hr_cons (hr_cons (by dsimp only; decide +kernel) hr_nil) (hr_cons (hr_cons (by dsimp only; decide +kernel) hr_nil) (hr_cons (hr_cons (by dsimp only; decide +kernel) hr_nil) (hr_cons (hr_cons (by dsimp only; decide +kernel) hr_nil) hr_nil))))
      case exit =>
        exact fun X3 hX3 => hr_cons ⟨Stable.mn, _, by walk_at "m_mem", fun v h z => isMn.narrow z hX3⟩ (hr_cons ⟨Stable.v, _, by walk_at "m_mem", fun v h z => z⟩ (hr_cons ⟨Stable.i, _, by walk_at "m_mem", fun v h z => z⟩ (hr_cons ⟨Stable.i, _, by walk_at "m_mem", fun v h z => z⟩ (hr_cons ⟨Stable.v, _, by walk_at "m_mem", fun v h z => z⟩ hr_nil))))
      case step =>
        intro i X3 h₄ hi4 hX3 hf3 k₄ ⟨ba₄, ml₄⟩ F₄
        replace F₄ : Frm g0 env X3 (Own env) [(Str.ofString "ii", isI (i : Int)), (Str.ofString "self", isMn X3 ws), (Str.ofString "concatBits", isV (.ref L)), (Str.ofString "checksumLengthBits", isI ((parts.length / 3 : Nat) : Int)), (Str.ofString "entropyLengthBits", isI ((B.size * 8 : Nat) : Int)), (Str.ofString "entropy", isV (.ref E))] h₄ := F₄
        refine ex_for F₄ (n := 8) (item := fun k => [(Str.ofString "jj", .int (k : Int))]) (evit_range hh (by decide) ?rg ev_int rfl) ?t ?nm (fun a z => hX3 a (hYY a z)) (fun a z => .inl z)
          (fun X4 k => [(Str.ofString "ii", isI (i : Int)), (Str.ofString "self", isMn X4 ws), (Str.ofString "concatBits", isV (.ref L)), (Str.ofString "checksumLengthBits", isI ((parts.length / 3 : Nat) : Int)), (Str.ofString "entropyLengthBits", isI ((B.size * 8 : Nat) : Int)), (Str.ofString "entropy", isV (.ref E))])
          (fun j h => IsBA h E (preB B i j) ∧ ML L cbs h) (fun a => a = E ∨ a = L) (fun a z => z.elim (fun e => ⟨hX3 _ (.inr e), fun q => hEl (e.symm.trans q)⟩) (fun e => ⟨hX3 _ (.inl (.inr e)), fun q => hLl (e.symm.trans q)⟩)) (fun i h h' k z => ⟨k _ _ (.inl rfl) z.1, z.2.at fun o e => k L o (.inr rfl) e⟩) ⟨ba₄, ml₄⟩
          ?entry ?fr ?step2
          [(Str.ofString "self", isMn X3 ws), (Str.ofString "concatBits", isV (.ref L)), (Str.ofString "checksumLengthBits", isI ((parts.length / 3 : Nat) : Int)), (Str.ofString "entropyLengthBits", isI ((B.size * 8 : Nat) : Int)), (Str.ofString "entropy", isV (.ref E))] ?exit ?after2 (fun _ => rfl)
        case rg => walk_at "m_blt"
        case t =>
          show env.kindOf (Str.ofString "jj") = some .local
          walk_at "m_env"
        case nm => exact fun i hi => hr_cons ⟨by walk_at "m_env", by kernel_rfl!⟩ hr_nil
        case entry =>
          exact fun X4 hX4 hf4 => hr_cons ⟨Stable.i, _, by walk_at "m_mem", fun v z => z⟩ (hr_cons ⟨Stable.mn, _, by walk_at "m_mem", fun v z => isMn.widen z hf4⟩ (hr_cons ⟨Stable.v, _, by walk_at "m_mem", fun v z => z⟩ (hr_cons ⟨Stable.i, _, by walk_at "m_mem", fun v z => z⟩ (hr_cons ⟨Stable.i, _, by walk_at "m_mem", fun v z => z⟩ (hr_cons ⟨Stable.v, _, by walk_at "m_mem", fun v z => z⟩ hr_nil)))))
        case fr =>
          exact fun X'' i hi => hr_cons (hr_cons (by dsimp only; decide +kernel) hr_nil) (hr_cons (hr_cons (by dsimp only; decide +kernel) hr_nil) (hr_cons (hr_cons (by dsimp only; decide +kernel) hr_nil) (hr_cons (hr_cons (by dsimp only; decide +kernel) hr_nil) (hr_cons (hr_cons (by dsimp only; decide +kernel) hr_nil) (hr_cons (hr_cons (by dsimp only; decide +kernel) hr_nil) hr_nil)))))
        case exit =>
          exact fun X4 hX4 => hr_cons ⟨Stable.mn, _, by walk_at "m_mem", fun v h z => isMn.narrow z hX4⟩ (hr_cons ⟨Stable.v, _, by walk_at "m_mem", fun v h z => z⟩ (hr_cons ⟨Stable.i, _, by walk_at "m_mem", fun v h z => z⟩ (hr_cons ⟨Stable.i, _, by walk_at "m_mem", fun v h z => z⟩ (hr_cons ⟨Stable.v, _, by walk_at "m_mem", fun v h z => z⟩ hr_nil))))
        case step2 =>
          intro j X4 h₅ hj hX4 hf4 k₅ ⟨ba₅, ml₅⟩ F₅
          replace F₅ : Frm g0 env X4 (Own env) [(Str.ofString "jj", isI (j : Int)), (Str.ofString "ii", isI (i : Int)), (Str.ofString "self", isMn X4 ws), (Str.ofString "concatBits", isV (.ref L)), (Str.ofString "checksumLengthBits", isI ((parts.length / 3 : Nat) : Int)), (Str.ofString "entropyLengthBits", isI ((B.size * 8 : Nat) : Int)), (Str.ofString "entropy", isV (.ref E))] h₅ := F₅
          have hij : i * 8 + j < parts.length * 11 := by omega
          have hbt := hbits i hi4 j hj
          refine ex_if (b := cb (i * 8 + j)) (ev_isTrue (P₁ := isB (cb (i * 8 + j))) (ev_item_ml (n := i * 8 + j) ?cbn ?ix ml₅ (cbg _ hij) (by omega) (fun _ _ => rfl)) (fun v h k z => tr_b z) rfl) fun h₆ k₆ => ?_
          case cbn => walk_at "m_var"
          case ix =>
            rw [show ((i * 8 + j : Nat) : Int) = (i : Int) * 8 + (j : Int) by omega]
            refine ev_add (ev_mul ?va ev_int (IntMulOk.of_right (by decide +kernel))) ?vb
            case va => walk_at "m_var"
            case vb => walk_at "m_var"
          have F₆ := F₅.keep k₆
          have ba₆ : IsBA h₆ E (preB B i j) := k₆ _ _ ba₅
          have ml₆ : ML L cbs h₆ := ml₅.at fun o e => k₆ L o e
          cases hc : cb (i * 8 + j) with
          | false =>
            rw [hc] at hbt
            exact ex_nil (ex_nil ⟨rfl, ⟨by rw [preB_same B hi4 (pv_skip _ j hj hbt.symm)]; exact ba₆, ml₆⟩, F₆.less fun p hp => List.mem_cons_of_mem _ hp⟩)
          | true =>
            rw [hc] at hbt
            refine ex_augb (n := i) (c := pv B[i].toNat (j + 1)) (b := 1 * 2 ^ (7 - j)) F₆ ?en ?ix ?vl (fun t u h => ?op) (Nat.lt_of_le_of_lt (pv_le _ _) (UInt8.toNat_lt _)) (hX4 _ (hX3 _ (.inr rfl))) hEl hEc ba₆ (by rw [preB_size]; exact hi4) (by rw [preB_size]; exact hBz)
              (fun h₇ k₇ ba₇ F₇ => ex_nil (ex_nil ⟨rfl, ⟨by rw [preB_set B hi4] at ba₇; exact ba₇, ml₆.at fun o e => k₇ L o (fun z => hEX (.inr z.symm)) e⟩, F₇.less fun p hp => List.mem_cons_of_mem _ hp⟩)) (fun _ _ _ => rfl) (.inr rfl)
            case en => walk_at "m_var"
            case ix => walk_at "m_var"
            case vl =>
              rw [show 7 - j = ((7 : Int) - (j : Int)).toNat by omega]
              refine ev_shl ev_int (ev_sub ev_int ?vb) (by omega) (by omega) (by decide)
              case vb => walk_at "m_var"
            case op =>
              rw [preB_at B hi4, ← pv_or _ j hj hbt.symm]
              rw [show (1 * 2 ^ (7 - j) : Int) = ((2 ^ (7 - j) : Nat) : Int) by rw [Int.one_mul]; norm_cast, ← bitOr_nat]
              exact ior_ev
        case after2 =>
          intro h₅ k₅ ⟨ba₅, ml₅⟩ F₅
          exact ex_nil ⟨rfl, ⟨by rw [← preB_next]; exact ba₅, ml₅⟩, F₅⟩
      case after =>
        intro h₄ k₄ ⟨ba₄, ml₄⟩ F₄
        rw [preB_all] at ba₄
        have F₅ : Frm g0 env X' (Own env) [(Str.ofString "self", isMn X' ws), (Str.ofString "concatBits", isV (.ref L)), (Str.ofString "checksumLengthBits", isI ((parts.length / 3 : Nat) : Int)), (Str.ofString "entropyLengthBits", isI ((B.size * 8 : Nat) : Int)), (Str.ofString "entropy", isV (.ref E))] h₄ :=
          F₄.shrink (Z := fun _ => False) (fun a z => .inl (.inl z)) F.sub (fun a z => z.elim) (fun a z => z.elim) (fun b o n e => e)
            (hr_cons ⟨Stable.mn, _, by walk_at "m_mem", fun v h z => isMn.narrow z fun a z => Or.inl (Or.inl z)⟩ (hr_cons ⟨Stable.v, _, by walk_at "m_mem", fun v h z => z⟩ (hr_cons ⟨Stable.i, _, by walk_at "m_mem", fun v h z => z⟩ (hr_cons ⟨Stable.i, _, by walk_at "m_mem", fun v h z => z⟩ (hr_cons ⟨Stable.v, _, by walk_at "m_mem", fun v h z => z⟩ hr_nil)))))
        have F₆ : Frm g0 env X' (Own env) [(Str.ofString "self", isMn X' ws), (Str.ofString "concatBits", isL X' cbs), (Str.ofString "checksumLengthBits", isI ((parts.length / 3 : Nat) : Int)), (Str.ofString "entropyLengthBits", isI ((B.size * 8 : Nat) : Int)), (Str.ofString "entropy", isE X' h0 B)] h₄ :=
          F₅.more (hr_cons (.inl (by walk_at "m_mem")) (hr_cons (.inr ⟨isV (.ref L), by walk_at "m_mem", Stable.l, fun v e => by obtain ⟨vs, l1, l2⟩ := ml₄; exact ⟨L, vs, e, hLX, l1, l2⟩⟩) (hr_cons (.inl (by walk_at "m_mem")) (hr_cons (.inl (by walk_at "m_mem"))
            (hr_cons (.inr ⟨isV (.ref E), by walk_at "m_mem", Stable.e, fun v e => ⟨⟨E, e, fun z => hEX (.inl z), ba₄⟩, E, e, hE0⟩⟩) hr_nil)))))
        refine Ex.wide (Y := Own env) ?_ (fun a z => .inl z)
        refine ex_assign F₆ (P := isY (dig B)) (ev_sha (ws := ws) W F₆.out (by omega) hh hBz ?sf ?en rfl rfl) Stable.y
          [(Str.ofString "concatBits", isL X' cbs), (Str.ofString "checksumLengthBits", isI ((parts.length / 3 : Nat) : Int)), (Str.ofString "entropyLengthBits", isI ((B.size * 8 : Nat) : Int)), (Str.ofString "entropy", isE X' h0 B), (Str.ofString "hashBytes", isY (dig B))] (fun h₇ k₇ F₇ => ?_) (by walk_at "m_loc") rfl (by walk_at "m_hr") (by subst_vars; rfl) (fun a z => z)
        case sf => walk_at "m_var"
        case en =>
          refine Ev.mono (P := isE X' h0 B) ?en2 fun v h k z => .inr z.1
          case en2 => walk_at "m_var"
        have hds : (dig B).size = 32 := dig_size B
        have htg : env.kindOf (Str.ofString "i") = some .local := by walk_at "m_env"
        refine ex_assign_comp F₇ (ds := hbl (dig B)) (compev2 (n := (dig B).size) (n2 := 8) (Z := X') (item := fun i => [(Str.ofString "c", .int (((dig B).getD i 0).toNat : Int))]) (item2 := fun k => [(Str.ofString "i", .int (k : Int))]) F₇.e
            (fun i k => S.bool (bt ((dig B).getD i 0).toNat (7 - k))) [] (fun i k => [(Str.ofString "c", isI (((dig B).getD i 0).toNat : Int)), (Str.ofString "i", isI (k : Int))])
            (evit_bytes hh ?it) ?sz ?ok (clOf_ok ?cl) ?t1 ?t2 hr_nil ?hr ?dis ?it2 ?el ?fs) (by kernel_rfl!) (clOf_ok (by walk_at "m_env"))
          [(Str.ofString "concatBits", isL X' cbs), (Str.ofString "checksumLengthBits", isI ((parts.length / 3 : Nat) : Int)), (Str.ofString "entropyLengthBits", isI ((B.size * 8 : Nat) : Int)), (Str.ofString "entropy", isE X' h0 B), (Str.ofString "hashBits", isL X' (hbl (dig B)))] (fun h₈ k₈ F₈ => ?_) (by walk_at "m_loc") rfl (by walk_at "m_hr") (by subst_vars; rfl) (fun _ => rfl) (fun a z => z)
        case it => walk_at "m_var"
        case sz => simp [sizeLine, hds]
        case ok => kernel_rfl!
        case cl => walk_at "m_env"
        case t1 => rfl
        case t2 => rfl
        case hr => exact fun i k => hr_cons (.inl ⟨_, List.mem_cons_self, rfl, by kernel_rfl!, by kernel_rfl!⟩) (hr_cons (.inl ⟨_, List.mem_cons_of_mem _ List.mem_cons_self, rfl, by kernel_rfl!, by kernel_rfl!⟩) hr_nil)
        case dis => exact fun i k => hr_cons (hr_cons (by dsimp only; decide +kernel) hr_nil) hr_nil
        case it2 =>
          rintro envC h D ⟨C, hC⟩ k F
          refine evit_range hh (by decide) ?_ ev_int rfl
          walk_at "m_blt"
        case el =>
          rintro i k envC h hi hk ⟨C, hC⟩ kk F
          refine (ev_cmp (P₁ := isI (Builtin.bitAnd (((dig B).getD i 0).toNat : Int) (1 * 2 ^ ((7 : Int) - (k : Int)).toNat))) (P₂ := isI 0) (ev_and ?va (ev_shl ev_int (ev_sub ev_int ?vb) (by omega) (by omega) (by decide))) ev_int Mono.i (fun a b h k z z' => cmp_neI z z') rfl).mono fun v h k' z => ?_
          case va => walk_at "m_var"
          case vb => walk_at "m_var"
          rw [show ((7 : Int) - (k : Int)).toNat = 7 - k by omega, bitAnd_ne] at z
          exact z
        case fs => exact fun _ _ => rfl
        refine ex_for F₈ (n := parts.length / 3) (item := fun k => [(Str.ofString "i", .int (k : Int))]) (evit_range hh (by omega) ?rg ?cn rfl) ?t ?nm F₈.sub (fun a z => z)
          (fun X3 k => [(Str.ofString "concatBits", isL X3 cbs), (Str.ofString "entropyLengthBits", isI ((B.size * 8 : Nat) : Int)), (Str.ofString "entropy", isE X3 h0 B), (Str.ofString "hashBits", isL X3 (hbl (dig B)))])
          (fun _ _ => True) (fun _ => False) (fun _ z => z.elim) (fun _ _ _ _ _ => trivial) trivial
          ?entry ?fr ?step
          [(Str.ofString "entropy", isE X' h0 B)] ?exit ?after2 (fun _ => rfl)
        case rg => walk_at "m_blt"
        case cn => walk_at "m_var"
        case t => exact htg
        case nm => exact fun i hi => hr_cons ⟨htg, by kernel_rfl!⟩ hr_nil
        case entry =>
          exact fun X3 hX3 hf3 => hr_cons ⟨Stable.l, _, by walk_at "m_mem", fun v z => isL.widen z hf3⟩ (hr_cons ⟨Stable.i, _, by walk_at "m_mem", fun v z => z⟩ (hr_cons ⟨Stable.e, _, by walk_at "m_mem", fun v z => isE.widen z hf3⟩ (hr_cons ⟨Stable.l, _, by walk_at "m_mem", fun v z => isL.widen z hf3⟩ hr_nil)))
        case fr =>
          exact fun X'' i hi => hr_cons (hr_cons (by dsimp only; decide +kernel) hr_nil) (hr_cons (hr_cons (by dsimp only; decide +kernel) hr_nil) (hr_cons (hr_cons (by dsimp only; decide +kernel) hr_nil) (hr_cons (hr_cons (by dsimp only; decide +kernel) hr_nil) hr_nil)))
        case exit =>
          exact fun X3 hX3 => hr_cons ⟨Stable.e, _, by walk_at "m_mem", fun v h z => isE.narrow z hX3⟩ hr_nil
        case step =>
          intro i X3 h₉ hi hX3 hf3 k₉ _ F₉
          replace F₉ : Frm g0 env X3 (Own env) [(Str.ofString "i", isI (i : Int)), (Str.ofString "concatBits", isL X3 cbs), (Str.ofString "entropyLengthBits", isI ((B.size * 8 : Nat) : Int)), (Str.ofString "entropy", isE X3 h0 B), (Str.ofString "hashBits", isL X3 (hbl (dig B)))] h₉ := F₉
          have hc := hck i hi
          refine ex_skip (ev_cmpT (P₁ := isB (cb (B.size * 8 + i))) (P₂ := isB (cb (B.size * 8 + i))) (ev_item_list (X := X3) (ds := cbs) (i := ((B.size * 8 + i : Nat) : Int)) (d := .bool (cb (B.size * 8 + i))) ?v1 ?i1 (by omega) (by omega) (by rw [Int.toNat_natCast]; exact cbg _ (by omega)) (fun _ _ => rfl))
            (ev_item_list (X := X3) (ds := hbl (dig B)) (i := (i : Int)) (d := .bool (cb (B.size * 8 + i))) ?v2 ?i2 (by omega) (by omega) (by rw [Int.toNat_natCast, hbl_get _ (by rw [hds]; omega), hc]) (fun _ _ => rfl)) Mono.b (fun a b h k z z' => (cmp_neB z z').mono fun v h k z => ?ne) rfl) fun h₁₀ k₁₀ => ex_nil ⟨rfl, trivial, (F₉.keep k₁₀).less fun p hp => List.mem_cons_of_mem _ hp⟩
          case v1 => walk_at "m_var"
          case i1 =>
            rw [show ((B.size * 8 + i : Nat) : Int) = ((B.size * 8 : Nat) : Int) + (i : Int) by omega]
            refine ev_add ?va ?vb
            case va => walk_at "m_var"
            case vb => walk_at "m_var"
          case v2 => walk_at "m_var"
          case i2 => walk_at "m_var"
          case ne =>
            rw [show (cb (B.size * 8 + i) != cb (B.size * 8 + i)) = false by simp] at z
            exact z
        case after2 =>
          intro h₉ k₉ _ F₉
          refine ex_return (P := isE X' h0 B) ?r fun v h' _ z => ?fin
          case r => walk_at "m_var"
          case fin =>
            obtain ⟨⟨a, e1, n, ba⟩, a', e2, z⟩ := z
            subst e1
            cases e2
            exact ⟨a, rfl, z, ba⟩
end
end Mine

set_option maxRecDepth 100000
set_option linter.unusedVariables false
set_option Elab.async false
namespace Mine
open PySem PySem.W PySem.Calls PyProof.Rows
/-- names put together -/
local macro_rules | `(tactic| walk_at "m_mem") => `(tactic| first | with_reducible exact List.mem_cons_self | (with_reducible refine List.mem_cons_of_mem _ ?_; walk_at "m_mem"))
local macro_rules | `(tactic| walk_at "m_fre") => `(tactic| first | assumption | exact Frm.e (by assumption))
local macro_rules | `(tactic| walk_at "m_var") => `(tactic| exact Fre.var (by walk_at "m_fre") (by walk_at "m_mem"))
local macro_rules | `(tactic| walk_at "m_env") => `(tactic| first | (subst_vars; kernel_rfl!))
local macro_rules | `(tactic| walk_at "m_glob") => `(tactic| exact Fre.glob (by walk_at "m_fre") (by assumption) (by kernel_rfl!) (by walk_at "m_env") (by kernel_rfl!))
local macro_rules | `(tactic| walk_at "m_blt") => `(tactic| exact Fre.blti (by walk_at "m_fre") (by assumption) (by kernel_rfl!) (by kernel_rfl!) (by decide) (by walk_at "m_env") (by kernel_rfl!))
local macro_rules | `(tactic| walk_at "m_loc") => `(tactic| exact Or.inl (by walk_at "m_env"))
local macro_rules | `(tactic| walk_at "m_cel") => `(tactic| exact Or.inr ⟨by walk_at "m_env", by walk_at "m_env"⟩)
local macro_rules | `(tactic| walk_at "m_hr") => `(tactic| first | with_reducible exact hr_nil | (with_reducible refine hr_cons ?_ ?_; first | exact Or.inl rfl | exact Or.inr ⟨by walk_at "m_mem", by dsimp only; decide +kernel⟩); walk_at "m_hr")


--@only 2
abbrev lamPos : Pos := ⟨80, 22, 80, 73⟩
--@end
abbrev lamQual : Str := Str.ofString "Mnemonic.check.<locals>.<lambda>"
abbrev Tab (X : Addr → Prop) (h : Heap) : Prop := TabOk 91 lamPos lamQual X h
/-- what the lambda of check answers for the words that the list has -/
def LamSpec (prog : Program) (w : World) (g0 : Heap) (ws parts : List Str) (idx : Nat → Nat) (n : Nat) (cell f c' : Addr) (ob : Obj) : Prop :=
  ∀ (h2 : Heap) (X : Addr → Prop) (u : Value) (A' : Around) (j : Nat) (y : Value), Keep g0 h2 → h2.get? f = some ob → h2.CodeRec (.ref c') lamQual → isMn X ws u h2 → h2.IsCell cell (some u) → A'.depth < recursionLimit → A'.handled = none →
    j < n → isS (parts.getD j (Str.ofString "")) y h2 → Ev prog w A' h2 (call (.ref f) [y]) (isS (sL (bitsT 11 (idx j))))
/-- what holds of the lambda behind its making -/
def LamP (prog : Program) (w : World) (g0 : Heap) (X : Addr → Prop) (ws parts : List Str) (idx : Nat → Nat) (n : Nat) (cell : Addr) (hs : Heap) : PV := fun v h =>
  ∃ f c' ob, v = .ref f ∧ hs.get? f = none ∧ h.get? f = some ob ∧ ¬ X c' ∧ h.CodeRec (.ref c') lamQual ∧ Tab X h ∧ LamSpec prog w g0 ws parts idx n cell f c' ob
theorem Tab.keeps {X : Addr → Prop} {h h' : Heap} (x : Tab X h) (k : Keep h h') : Tab X h' := TabOk.keep (Y := fun _ => False) x (fun b o _ e => k b o e) (fun a z => z.elim) (fun z => z)
theorem Mono.lamP {prog : Program} {w : World} {g0 hs : Heap} {X : Addr → Prop} {ws parts : List Str} {idx : Nat → Nat} {n : Nat} {cell : Addr} : Mono (LamP prog w g0 X ws parts idx n cell hs) :=
  fun v h h' k ⟨f, c', ob, e, n, o, nx, cr, tb, s⟩ => ⟨f, c', ob, e, n, k _ _ o, nx, cr.keeps k, Tab.keeps tb k, s⟩
/-- what holds behind the making of the map -/
def Mapped (prog : Program) (w : World) (g0 : Heap) (X : Addr → Prop) (ws parts : List Str) (idx : Nat → Nat) (n : Nat) (cell : Addr) (v : Value) (I : Addr) (h : Heap) : Prop :=
  ∃ M T l f items c' ob, v = .ref M ∧ (¬ X M ∧ ¬ X T ∧ ¬ X I ∧ ¬ X l ∧ ¬ X f ∧ ¬ X c') ∧ (∃ hb, MapSt M T I l (.ref f) items hb 0 h) ∧ Paired S.is (parts.map S.str) items.toList ∧ f ≠ I ∧ c' ≠ I ∧ h.get? f = some ob ∧ h.CodeRec (.ref c') lamQual ∧
    LamSpec prog w g0 ws parts idx n cell f c' ob ∧ Tab X h

section
variable {prog : Program} {w : World} {A : Around} {g0 h0 h h' : Heap} {mg mb : Str → Option Value} {X Y : Addr → Prop} {env : Env} {P' : Flow → Heap → Prop}

set_option maxHeartbeats 16000000 in
theorem c_check (W : Wd (KK w) g0 mg mb) (O : Out g0 X h0) (hr : A.depth + 20 < recursionLimit) (hh : A.handled = none) (hbm : g0.BuiltinsAt mg 91) (hX91 : X 91) (tab : Tab X h0) {ws parts : List Str} {B : Array UInt8} {cb : Nat → Bool} {idx : Nat → Nat} {u v : Value} {x : Str}
    (pu : isMn X ws u h0) (p : isS x v h0) (hx : x.length ≤ 10000) (hsp : Txt.split x sp = parts) (hN : ([12, 15, 18, 21, 24] : List Int).any (· == (parts.length : Int)) = true) (hws : ws.length ≤ 5000)
    (hi : ∀ j, j < parts.length → ws[idx j]? = some (parts.getD j (Str.ofString "")) ∧ ∀ m, m < idx j → ws[m]? ≠ some (parts.getD j (Str.ofString ""))) (hi2 : ∀ j, j < parts.length → idx j < 2 ^ 11)
    (hcb : ∀ j, j < parts.length → ∀ k, k < 11 → cb (j * 11 + k) = bt (idx j) (10 - k)) (hB : B.size * 8 + parts.length / 3 = parts.length * 11)
    (hbits : ∀ i (h : i < B.size), ∀ j, j < 8 → cb (i * 8 + j) = bt B[i].toNat (7 - j))
    (hck : ∀ i, i < parts.length / 3 → cb (B.size * 8 + i) = bt ((dig B).getD (i / 8) 0).toNat (7 - i % 8)) :
    Cx prog w A (fun a => a = 91) h0 (call (.ref 96) [u, v]) (fun v h => isB true v h ∧ Tab X h) := by
  have hN24 : parts.length ≤ 24 := by
    simp only [List.any_cons, List.any_nil, Bool.or_false, Bool.or_eq_true, beq_iff_eq] at hN
    omega
  have hN3 : parts.length / 3 * 3 = parts.length := by
    simp only [List.any_cons, List.any_nil, Bool.or_false, Bool.or_eq_true, beq_iff_eq] at hN
    omega
  have hN12 : 12 ≤ parts.length := by
    simp only [List.any_cons, List.any_nil, Bool.or_false, Bool.or_eq_true, beq_iff_eq] at hN
    omega
  refine Co.cx (args := ⟨[u, v], []⟩) (code_callK W O (f := 96) (args := ⟨[u, v], []⟩) (binds := [(Str.ofString "self", u), (Str.ofString "mnemonic", v)]) (ρ := fun X' => [(Str.ofString "self", isMn X' ws), (Str.ofString "self", isV u), (Str.ofString "mnemonic", isS x)])
    rfl rfl (by kernel_rfl!) (by omega) (fun _ _ => BindsTo.of_eq rfl) ?_ ?_)
  · intro X' hX hF
    exact hr_cons ⟨Stable.mn, u, by simp, fun h k => Mono.mn _ _ _ k (isMn.widen pu hF)⟩ (hr_cons ⟨Stable.v, u, by simp, fun h k => rfl⟩ (hr_cons ⟨Stable.s, v, by simp, fun h k => p⟩ hr_nil))
  · intro L0 env X' h₁ he k hX fresh own F
    replace hh : (A.deeper env).handled = none := hh
    have hr' : (A.deeper env).depth + 18 < recursionLimit := by show A.depth + 1 + 18 < _; omega
    have hlen : (parts.map S.str).length = parts.length := List.length_map _
    have tab₁ : Tab X' h₁ := (tab.widen fresh).keep (Y := fun _ => False) (fun b o _ e => k b o e) (fun a z => z.elim) (fun z => z)
    have hOwn91 : ¬ Own env 91 := fun z => by
      obtain ⟨o, e⟩ := tab.live
      rw [own _ z] at e; cases e
    have hl91 : (91 : Addr) ≠ env.locals := fun e => hOwn91 (.inl e)
    have hc91 : ∀ n c, env.cells.lookup n = some c → c ≠ 91 := fun n c z e => hOwn91 (.inr ⟨n, e ▸ z⟩)
    have hsub : ∀ a, Own env a → X' a := F.sub
    refine ex_assign F (P := isLS X' parts) ?sp Stable.ls [(Str.ofString "self", isMn X' ws), (Str.ofString "self", isV u), (Str.ofString "mnemonic_list", isLS X' parts)] (fun h₂ k₂ F₂ => ?_) (by walk_at "m_loc") rfl (by walk_at "m_hr") (by subst_vars; rfl) (fun a z => .inl z)
    case sp =>
      rw [← hsp]
      refine ev_split (x := x) (ev_norm (ws := ws) W F.out (by omega) hh ?s ?m rfl rfl) ev_str F.live hx (fun _ => rfl) rfl rfl
      case s => exact F.e.var (P := isMn X' ws) (by walk_at "m_mem")
      case m => walk_at "m_var"
    have tab₂ : Tab X' h₂ := tab₁.keep k₂ hsub hOwn91
    refine ex_skip (ev_cmpT (P₁ := isI parts.length) (P₂ := isLI X' [12, 15, 18, 21, 24]) ?len (ev_list (evpS ev_int (evpS ev_int (evpS ev_int (evpS ev_int (evpS ev_int evp0 rfl) rfl) rfl) rfl) rfl) F₂.live (by simp [sizeLine])) Mono.i (fun a b h k z z' => (cmp_notInI z z').mono fun v h k z => by rw [hN] at z; exact z) rfl) fun h₃ k₃ => ?_
    case len =>
      refine (ev_B (P := isI (parts.map S.str).length) (T := "len") (PL := fun vs h => ∃ v, vs = [v] ∧ isL X' (parts.map S.str) v h) ?c (ev_args1 ?d Mono.l rfl) (fun vs h k ⟨v, e, z⟩ => e ▸ ev_len_list z (by rw [hlen]; omega)) rfl rfl).mono fun _ _ _ z => by rw [hlen] at z; exact z
      case c => walk_at "m_blt"
      case d => walk_at "m_var"
    have F₃ := F₂.keep k₃
    have tab₃ : Tab X' h₃ := tab₂.keep (Y := fun _ => False) (fun b o _ e => k₃ b o e) (fun a z => z.elim) (fun z => z)
    have mn₃ : isMn X' ws u h₃ := Mono.mn _ _ _ k₃ ((Mono.mn _ _ _ k (isMn.widen pu fresh)).keep (k₂.wide hsub))
    have hcell : env.cells.lookup (Str.ofString "self") = some (L0 + 1) := by walk_at "m_env"
    refine ex_try (J := fun h' => Tab X' h' ∧ Frm g0 env X' (Own env) [(Str.ofString "self", isMn X' ws), (Str.ofString "b", isS (sL (cbT cb 0 (parts.length * 11))))] h') ?body (fun h₄ k₄ ⟨tab₄, F₄⟩ => ?rest)
    case body =>
      refine ex_assignZN (Z := fun a => a = 91) (PL := Mapped prog w g0 X' ws parts idx parts.length (L0 + 1)) F₃ ?mp (fun a z => z ▸ hX _ hX91) (fun z => hl91 z.symm) (fun n c z e => hc91 n c z e)
        (fun v I => [(Str.ofString "self", isMn (fun a => X' a ∨ a = I) ws), (Str.ofString "self", isV u), (Str.ofString "idx", isV v)]) (fun v I hI => ?hr) (fun v I h₄ h₅ hI k₄ pl k₅ F₅ => ?join) (by walk_at "m_loc") rfl (by subst_vars; rfl) (fun a z => .inl z) (fun a z => .inr z)
      case hr =>
        have fr : ∀ a, (X' a ∨ a = I) → ¬ X' a → h₃.get? a = none := fun a z n => (z.resolve_left n) ▸ hI
        exact hr_cons (.inr ⟨by dsimp only; decide +kernel, Stable.mn, _, by walk_at "m_mem", fun v z => isMn.widen z fr⟩) (hr_cons (.inr ⟨by dsimp only; decide +kernel, Stable.v, isV u, by walk_at "m_mem", fun v z => z⟩) (hr_cons (.inl rfl) hr_nil))
      case mp =>
        refine cx_T (T := "map") (PL := fun vs h' => ∃ a b, vs = [a, b] ∧ LamP prog w g0 X' ws parts idx parts.length (L0 + 1) h₃ a h' ∧ isLS X' parts b h') ?mb (fun h' k => ?ar) (fun vs h' kz l ⟨a, b, e, p1, p2⟩ => ?cm) rfl rfl
        case mb => walk_at "m_blt"
        case ar =>
          refine cx_args2 (P₁ := LamP prog w g0 X' ws parts idx parts.length (L0 + 1) h₃) (P₂ := isLS X' parts) ((cx_lambda (X := X') (qual := lamQual) (c := 95) (p := 91) W (F₃.base.trans k) hbm (by kernel_rfl!) ?code ?glb ?dfl (clOf_ok ?cl) (Tab.keeps tab₃ k) (F₃.keep k).live ?q).mono fun v h'' kz ⟨f, c', pm, ctv, e, n, o, nx, cr, tb⟩ => ⟨f, c', _, e, none_of_keep k n, o, nx, cr, tb, ?spec⟩) (fun h'' kz l => ?ml) Mono.lamP rfl rfl Mono.ls
          case code => subst_vars; rfl
          case glb => subst_vars; rfl
          case dfl => rfl
          case cl => walk_at "m_env"
          case q => walk_at "m_env"
          case ml =>
            have F' := (F₃.keep k).mut (Z := fun a => a = 91) (fun a z => z ▸ hX _ hX91) (fun z => hl91 z.symm) (fun n c z e => hc91 n c z e) kz l
            exact F'.e.var (P := isLS X' parts) (by walk_at "m_mem")
          case spec =>
            intro h2 X2 u2 A' j y k2 hf2 hc2 mn2 cell2 hr2 hh2 hj py
            obtain ⟨hi1, hi3⟩ := hi j hj
            have hidx : idx j < ws.length := (List.getElem?_eq_some_iff.mp hi1).1
            refine ev_lamF [(Str.ofString "x", isS (parts.getD j (Str.ofString ""))), (Str.ofString "self", isMn X2 ws)] W k2 hr2 hf2 hc2 (binds := [(Str.ofString "x", y)]) rfl (locs rfl) (by decide) rfl rfl rfl (fun L h₆ k₆ ns => ?vars) fun L h₆ k₆ Fl => ?_
            case vars =>
              refine hr_cons ⟨Mono.s, y, var_of_local rfl (by kernel_rfl!) rfl ns rfl, py⟩ (hr_cons ⟨Mono.mn, u2, ⟨rfl, by kernel_rfl!, .inr (.inr (.inl ⟨rfl, by kernel_rfl!, L0 + 1, ?lk, let ⟨o, a, b⟩ := cell2; ⟨o, k₆ _ _ a, b⟩⟩))⟩, Mono.mn _ _ _ k₆ mn2⟩ hr_nil)
              case lk => walk_at "m_env"
            have b6 := k2.trans k₆
            have hl : (Nat.toDigits 2 (idx j)).length ≤ 11 := digits_le (hi2 j hj)
            refine (ev_methB (P₁ := isS (sL (cutL (baseText "0b" 2 (idx j : Int)).cps.toList (some 2) none))) (T := "str") (PL := fun vs h => ∃ v, vs = [v] ∧ isI 11 v h) ?cut Mono.s PySem.F.plainAttrs_str PySem.F.slot_str_zfill PySem.F.type_str_zfill (fun v h k z => ?ty) (ev_args1 ev_int Mono.i rfl)
              (fun v vs h k z ⟨v', e, z'⟩ => e ▸ call_zfill z z' (by decide)) (fun _ => rfl) rfl rfl rfl).mono fun v h k z => ?fin
            case ty =>
              obtain ⟨t, rfl⟩ := z
              exact ⟨fun s _ => typeIs_str _ _ _, fun a e => by cases e⟩
            case fin =>
              rw [show (11 : Int) = ((10 + 1 : Nat) : Int) from rfl, zfill_bits (hi2 j hj)] at z
              exact z
            case cut =>
              refine ev_cut_str (x := baseText "0b" 2 (idx j : Int)) ?bin (ev_slice (ev_part1 ev_int) ev_part0) ?sz fun _ _ => ⟨_, rfl⟩
              case sz => rw [bin_len, sizeLine_eq]; omega
              case bin =>
                refine ev_B (T := "bin") (PL := fun vs h => ∃ v, vs = [v] ∧ isI (idx j : Int) v h) ?bn (ev_args1 ?ix Mono.i rfl) (fun vs h k ⟨v, e, z⟩ => e ▸ call_bin z ?sz2) rfl rfl
                case bn => walk_at "m_blt"
                case sz2 => rw [bin_len, sizeLine_eq]; omega
                case ix =>
                  refine ev_methB (P₁ := isLd X2 (ws.map .str)) (T := "list") (PL := fun vs h => ∃ v, vs = [v] ∧ isS (parts.getD j (Str.ofString "")) v h) ?wl Mono.ld PySem.F.plainAttrs_list PySem.F.slot_list_index PySem.F.type_list_index (fun v h k z => ?ty) (ev_args1 ?ar Mono.s rfl)
                    (fun v vs h k z ⟨v', e, z'⟩ => e ▸ call_indexS z.1 z' hi1 hi3 (by omega)) (fun _ => rfl) rfl rfl rfl
                  case wl =>
                    refine ev_wordlist W b6 ?sf rfl fun _ _ => rfl
                    case sf => exact Fl.var (P := isMn X2 ws) (by walk_at "m_mem")
                  case ty =>
                    obtain ⟨⟨l, vs, e, _, hl, _⟩, l', o, e', ho, hd⟩ := z
                    subst e
                    cases e'
                    exact ⟨fun s e => by subst e; exact hl.typeIs, fun a e => by cases e; exact ⟨o, ho, hd⟩⟩
                  case ar => exact Fl.var (P := isS (parts.getD j (Str.ofString ""))) (by walk_at "m_mem")
        case cm =>
          obtain ⟨f, c', ob, ea, nf, hf, nX, cr, tb, spec⟩ := p1
          subst e ea
          have live' : ∀ a, X' a → ∃ o, h'.get? a = some o := fun a z => let ⟨o, e⟩ := F₃.live a z; l a o e
          refine (call_map (f := .ref f) p2 live').mono fun v h'' k'' ⟨M, T, I, l', items, hb, ev, st, kb, pr, hM, hI, nM, nI, nl, nT⟩ => ?_
          have hfb := kb _ _ hf
          obtain ⟨c2, oc, vs2, t2, e2, hc2, hd2, hv2⟩ := id cr
          cases e2
          refine ⟨I, ?_, (let ⟨o, e, _⟩ := st.oi; ⟨o, e⟩), M, T, l', f, items, c', ob, ev, ⟨nM, nT, nI, nl, fun z => ?_, nX⟩, ⟨hb, st⟩, pr, fun z => ?_, fun z => ?_, k'' _ _ hf, cr.keeps k'', spec, Tab.keeps tb k''⟩
          · cases e : h₃.get? I with
            | none => rfl
            | some o =>
              obtain ⟨o', e'⟩ := l I o e
              rw [kb _ _ e'] at hI; cases hI
          · obtain ⟨o, e⟩ := F₃.live _ z
            rw [nf] at e; cases e
          · rw [z, hI] at hfb; cases hfb
          · have := kb _ _ hc2
            rw [z, hI] at this; cases this
      case join =>
        obtain ⟨M, T, l, f, items, c', ob, ev, ⟨nM, nT, nI, nl, nf, nc⟩, ⟨hb, st⟩, pr, hfI, hcI, hf, cr, spec, tb⟩ := pl
        subst ev
        have F₄L := F₅.live
        have fr : ∀ a, (X' a ∨ a = I) → ¬ X' a → h₃.get? a = none := fun a z n => (z.resolve_left n) ▸ hI
        have mn₅ : isMn (fun a => X' a ∨ a = I) ws u h₅ := ((isMn.widen mn₃ fr).keep (k₄.wide fun a z => by cases z; exact .inl (hX _ hX91))).keep (k₅.wide fun a z => .inl (hsub a z))
        have hloc : X' env.locals := hsub _ (.inl rfl)
        have kb : Keep (hideAll h₅ [env.locals, I]) h₅ := fun b o e => of_hideAll _ e
        have kh : ∀ b o, ¬ (X' b ∨ b = I) → h₅.get? b = some o → (hideAll h₅ [env.locals, I]).get? b = some o := fun b o n e => hideAll_get _ e fun hm => by
          simp only [List.mem_cons, List.not_mem_nil, or_false] at hm
          rcases hm with rfl | rfl
          · exact n (.inl hloc)
          · exact n (.inr rfl)
        have st₅ : MapSt M T I l (.ref f) items (hideAll h₅ [env.locals, I]) 0 h₅ := st.rebase k₅ (fun z => nM (hsub _ z)) (fun z => nT (hsub _ z)) (fun z => nI (hsub _ z)) (fun z => nl (hsub _ z)) kb (hideAll_none _ (by simp))
        have tb₅ : Tab X' h₅ := tb.keep k₅ hsub hOwn91
        have hf₅ : h₅.get? f = some ob := k₅ _ _ (fun z => nf (hsub _ z)) hf
        have cell₅ : h₅.IsCell (L0 + 1) (some u) := by
          obtain ⟨_, v, ⟨_, _, c⟩, e⟩ := F₅.vars (Str.ofString "self", isV u) (by walk_at "m_mem")
          have e' : v = u := e
          subst e'
          have hkc : env.kindOf (Str.ofString "self") = some .cell := by walk_at "m_env"
          rcases c with ⟨c1, _⟩ | ⟨c1, c, c2, c3⟩ | ⟨c1, _⟩ | ⟨c1, _⟩
          · rw [hkc] at c1; cases c1
          · rw [hcell] at c2; cases c2; exact c3
          · rw [hkc] at c1; cases c1
          · rw [hkc] at c1; cases c1
        have hcX : X' (L0 + 1) := hsub _ (.inr ⟨_, hcell⟩)
        have hcl : (L0 + 1 : Addr) ≠ env.locals := by
          obtain ⟨m, hn⟩ := F₅.ns
          exact Heap.IsCell.notNs cell₅ hn
        refine exD_assign (P := isS (sL (cbT cb 0 (parts.length * 11)))) F₅ nI hsub (fun s Q E eq q => wp_joinMap (g := fun j => sL (bitsT 11 (idx j))) (x := Str.ofString "") (ds := parts.map S.str) hh ev_str (fun h' k => ?idx) st₅ pr ?hf (by rw [hlen]; omega) ?ok (fun _ => rfl) rfl rfl s Q E eq fun u h' tk k p => q u h' tk k ?eqp) Stable.s
          [(Str.ofString "self", isMn X' ws)] [(Str.ofString "self", isMn X' ws), (Str.ofString "b", isS (sL (cbT cb 0 (parts.length * 11))))] (hr_cons ⟨Stable.mn, _, by walk_at "m_mem", fun v h z => isMn.narrow z fun a z => Or.inl z⟩ hr_nil)
          (fun h₆ k₆ F₆ => ex_nil ⟨rfl, TabOk.narrow (TabOk.keep (Y := fun a => Own env a ∨ a = I) (TabOk.avoid tb₅ st₅.oi) k₆ (fun a z => z.imp (hsub a) id) (fun z => z.elim hOwn91 fun z => nI (z ▸ hX _ hX91))) fun a z => Or.inl z, F₆⟩) (by walk_at "m_loc") rfl (by walk_at "m_hr") (by subst_vars; rfl) (fun a z => .inl z)
        case idx => exact (F₅.keep k).e.var (P := isV (.ref M)) (by walk_at "m_mem")
        case eqp =>
          have e : Txt.join (Str.ofString "") ((List.range (parts.map S.str).length).map fun j => sL (bitsT 11 (idx j))) = sL (cbT cb 0 (parts.length * 11)) := by
            rw [hlen, join_eq, show ((List.range parts.length).map fun j => sL (bitsT 11 (idx j))) = ((List.range parts.length).map fun j => bitsT 11 (idx j)).map sL by rw [List.map_map]; rfl, join_empty, cbT_groups (w := 11) (f := idx) parts.length hcb]
            rw [List.flatMap_def]
          rw [← e]; exact p
        case ok =>
          have h1 := sum_le (l := (List.range (parts.map S.str).length).map fun j => sL (bitsT 11 (idx j))) (B := 11) fun y hy => by
            obtain ⟨i, _, rfl⟩ := List.mem_map.mp hy
            rw [sL_len, bitsT_len]
            exact Nat.le_refl _
          simp only [List.length_map, List.length_range] at h1 ⊢
          have h2 : (Str.ofString "").length = 0 := by decide +kernel
          rw [h2]
          omega
        case hf =>
          intro i y hi hy A' dA hA h'' k''
          rw [hlen] at hi
          have e1 : (parts.map S.str).getD i .none = .str (parts.getD i (Str.ofString "")) := by simp [hi]
          rw [e1] at hy
          obtain ⟨c2, oc, vs2, t2, e2, hc2, hd2, hv2⟩ := cr
          cases e2
          refine spec h'' (fun a => X' a ∨ a = I) u A' i y (fun b o e => k'' _ _ (kh _ _ (fun z => ?_) (F₅.base _ _ e))) (k'' _ _ (kh _ _ (fun z => z.elim nf hfI) hf₅)) ⟨_, oc, vs2, t2, rfl, k'' _ _ (kh _ _ (fun z => z.elim nc hcI) (k₅ _ _ (fun z => nc (hsub _ z)) hc2)), hd2, hv2⟩
            (Mono.mn _ _ _ k'' (mn₅.keep kh)) ?cell (by rw [dA]; omega) hA hi hy
          · rw [F₅.away _ z] at e; cases e
          case cell =>
            obtain ⟨o, a, b⟩ := cell₅
            refine ⟨o, k'' _ _ (hideAll_get _ a fun hm => ?_), b⟩
            simp only [List.mem_cons, List.not_mem_nil, or_false] at hm
            rcases hm with hm | hm
            · exact hcl hm
            · exact nI (hm ▸ hcX)
    case rest =>
      have hD : (dig B).size = 32 := dig_size B
      have hY91 : ∀ a, Own env a → (Own env a ∨ a = 91) := fun a z => .inl z
      refine ex_assign F₄ (P := isI ((parts.length * 11 : Nat) : Int)) ?qv Stable.i [(Str.ofString "self", isMn X' ws), (Str.ofString "b", isS (sL (cbT cb 0 (parts.length * 11)))), (Str.ofString "l", isI ((parts.length * 11 : Nat) : Int))] (fun h₅ k₅ F₅ => ?_) (by walk_at "m_loc") rfl ?hr (by subst_vars; rfl) hY91
      case hr => exact hr_cons (.inr ⟨by walk_at "m_mem", by dsimp only; decide +kernel⟩) (hr_cons (.inr ⟨by walk_at "m_mem", by dsimp only; decide +kernel⟩) (hr_cons (.inl rfl) hr_nil))
      case qv =>
        refine (ev_B (P := isI (sL (cbT cb 0 (parts.length * 11))).length) (T := "len") (PL := fun vs h => ∃ v, vs = [v] ∧ isS (sL (cbT cb 0 (parts.length * 11))) v h) ?c (ev_args1 ?d Mono.s rfl) (fun vs h k ⟨v, e, z⟩ => e ▸ call_lenS z (by rw [sL_len, cbT_len]; omega)) rfl rfl).mono fun _ _ _ z => by rw [sL_len, cbT_len] at z; exact z
        case c => walk_at "m_blt"
        case d => walk_at "m_var"
      have hsz : (sL (cbT cb 0 (parts.length * 11))).length ≤ sizeLine := by rw [sL_len, cbT_len, sizeLine_eq]; omega
      refine ex_assign F₅ (P := isS (sL (cbT cb 0 (B.size * 8)))) ((ev_cut_str (x := sL (cbT cb 0 (parts.length * 11))) ?qb (ev_slice ev_part0 (ev_part1 (ev_mul (a := ((parts.length * 11 : Nat) : Int) / 33) (ev_div ?ql ev_int (by decide) (by decide)) ev_int (IntMulOk.of_right (by decide +kernel))))) hsz fun _ _ => ⟨_, rfl⟩).mono fun v h k z => ?qeq) Stable.s
        [(Str.ofString "self", isMn X' ws), (Str.ofString "b", isS (sL (cbT cb 0 (parts.length * 11)))), (Str.ofString "l", isI ((parts.length * 11 : Nat) : Int)), (Str.ofString "d", isS (sL (cbT cb 0 (B.size * 8))))] (fun h₆ k₆ F₆ => ?_) (by walk_at "m_loc") rfl (by walk_at "m_hr") (by subst_vars; rfl) hY91
      case qb => walk_at "m_var"
      case ql => walk_at "m_var"
      case qeq =>
        rw [sL_cps, show ((parts.length * 11 : Nat) : Int) / 33 * 32 = ((B.size * 8 : Nat) : Int) by omega, cutL_take, cbT_take _ _ _ _ (by omega)] at z
        exact z
      refine ex_assign F₆ (P := isS (sL (cbT cb (B.size * 8) (parts.length / 3)))) ((ev_cut_str (x := sL (cbT cb 0 (parts.length * 11))) ?qb (ev_slice (ev_part1 (ev_div (a := -((parts.length * 11 : Nat) : Int)) (ev_neg ?ql) ev_int (by decide) (by decide))) ev_part0) hsz fun _ _ => ⟨_, rfl⟩).mono fun v h k z => ?qeq) Stable.s
        [(Str.ofString "self", isMn X' ws), (Str.ofString "l", isI ((parts.length * 11 : Nat) : Int)), (Str.ofString "d", isS (sL (cbT cb 0 (B.size * 8)))), (Str.ofString "h", isS (sL (cbT cb (B.size * 8) (parts.length / 3))))] (fun h₇ k₇ F₇ => ?_) (by walk_at "m_loc") rfl (by walk_at "m_hr") (by subst_vars; rfl) hY91
      case qb => walk_at "m_var"
      case ql => walk_at "m_var"
      case qeq =>
        rw [sL_cps, show -((parts.length * 11 : Nat) : Int) / 33 = -((parts.length / 3 : Nat) : Int) by omega, cutL_back _ _ (by omega), cbT_len, cbT_drop _ _ _ _ (by omega), Nat.zero_add, show parts.length * 11 - parts.length / 3 = B.size * 8 by omega, show parts.length * 11 - B.size * 8 = parts.length / 3 by omega] at z
        exact z
      have hbv : bval (sL (cbT cb 0 (B.size * 8))).cps.toList = bigv B := by rw [sL_cps]; exact bval_octets B hbits
      refine ex_assign F₇ (P := isY B) (ev_attrCall (P₁ := isI (bigv B : Int)) (PM := fun fx h => ∃ v, fx = (.builtin "int.to_bytes", [v]) ∧ isI (bigv B : Int) v h) ?int (fun v h k z => ?gm) (fun fx h k z => ?cw) rfl) Stable.y
        [(Str.ofString "self", isMn X' ws), (Str.ofString "l", isI ((parts.length * 11 : Nat) : Int)), (Str.ofString "h", isS (sL (cbT cb (B.size * 8) (parts.length / 3)))), (Str.ofString "nd", isY B)] (fun h₈ k₈ F₈ => ?_) (by walk_at "m_loc") rfl (by walk_at "m_hr") (by subst_vars; rfl) hY91
      case int =>
        rw [← hbv]
        refine ev_T (T := "int") (PL := fun vs h => ∃ a b, vs = [a, b] ∧ isS (sL (cbT cb 0 (B.size * 8))) a h ∧ isI 2 b h) ?qi (ev_args2 ?qd ev_int Mono.s Mono.i rfl rfl) (fun vs h k ⟨a, b, e, z, z'⟩ => e ▸ call_int2 z z' (by rw [sL_len, cbT_len]; omega) (by rw [sL_cps]; exact cbT_bin _ _ _) (fun q => ?qne)) rfl rfl
        case qi => walk_at "m_blt"
        case qd => walk_at "m_var"
        case qne =>
          have := congrArg List.length q
          rw [sL_cps, cbT_len, List.length_nil] at this
          omega
      case gm =>
        obtain ⟨t, rfl⟩ := z
        exact fun s Q E k' q => getMethod_builtin (typeIs_int _ _ _) PySem.F.plainAttrs_int KTBy.slot KTBy.type_eq (fun a e => by cases e) (q _ s.heap s.toks (fun _ _ e => e) ⟨_, rfl, t, rfl⟩)
      case cw =>
        obtain ⟨v, e, z⟩ := z
        subst e
        refine cw_kw1 (PK := isS (Str.ofString "big")) (PL := fun vs h => ∃ u, vs = [u] ∧ isI (B.size : Int) u h) (ev_args1 (P₁ := isI (B.size : Int)) ?qn Mono.i rfl) (fun vs h h' k ⟨u, e, z⟩ => ⟨u, e, z⟩) ev_str (fun vs kv h k ⟨u, e, z1⟩ z2 => ?qc) rfl rfl
        case qn =>
          rw [show (B.size : Int) = ((parts.length * 11 : Nat) : Int) / 33 * 4 by omega]
          refine ev_mul (ev_div ?ql ev_int (by decide) (by decide)) ev_int (IntMulOk.of_right (by decide +kernel))
          case ql => have F₇' := F₇.keep k; walk_at "m_var"
        case qc =>
          subst e
          have := call_toBytes (prog := prog) (w := w) (A := A.deeper env) (h := h) (v := v) (x := (bigv B : Int)) z z1 z2 (k := B.size) (by omega) (by omega) (by
            have := bigv_lt B
            exact_mod_cast this)
          rw [bytes_back] at this
          exact this
      refine ex_assign F₈ (P := isS (sL (cbT (fun i => bt ((dig B).getD (i / 8) 0).toNat (7 - i % 8)) 0 (parts.length / 3)))) ((ev_cut_str (x := sL (bitsT 256 (bigv (dig B)))) ?qz (ev_slice (a := none) (b := some (((parts.length * 11 : Nat) : Int) / 33)) ev_part0 (ev_part1 (ev_div ?ql ev_int (by decide) (by decide)))) ?qs fun _ _ => ⟨_, rfl⟩).mono fun v h k z => ?qeq) Stable.s
        [(Str.ofString "h", isS (sL (cbT cb (B.size * 8) (parts.length / 3)))), (Str.ofString "nh", isS (sL (cbT (fun i => bt ((dig B).getD (i / 8) 0).toNat (7 - i % 8)) 0 (parts.length / 3))))] (fun h₉ k₉ F₉ => ?_) (by walk_at "m_loc") rfl (by walk_at "m_hr") (by subst_vars; rfl) hY91
      case ql => walk_at "m_var"
      case qs => rw [sL_len, bitsT_len, sizeLine_eq]; omega
      case qeq =>
        have ob := octets_bits (dig B)
        rw [hD] at ob
        rw [sL_cps, show ((parts.length * 11 : Nat) : Int) / 33 = ((parts.length / 3 : Nat) : Int) by omega, cutL_take, ob, cbT_take _ _ _ _ (by omega)] at z
        exact z
      case qz =>
        have hlt : bigv (dig B) < 2 ^ (255 + 1) := by
          have := bigv_lt (dig B)
          rw [hD] at this
          exact this
        refine (ev_methB (P₁ := isS (sL (cutL (baseText "0b" 2 (bigv (dig B) : Int)).cps.toList (some 2) none))) (T := "str") (PL := fun vs h => ∃ v, vs = [v] ∧ isI 256 v h) ?cut Mono.s PySem.F.plainAttrs_str PySem.F.slot_str_zfill PySem.F.type_str_zfill (fun v h k z => ?ty) (ev_args1 ev_int Mono.i rfl)
          (fun v vs h k z ⟨v', e, z'⟩ => e ▸ call_zfill z z' (by decide)) (fun _ => rfl) rfl rfl rfl).mono fun v h k z => ?fin
        case ty =>
          obtain ⟨t, rfl⟩ := z
          exact ⟨fun s _ => typeIs_str _ _ _, fun a e => by cases e⟩
        case fin =>
          rw [show (256 : Int) = ((255 + 1 : Nat) : Int) from rfl, zfill_bits hlt] at z
          exact z
        case cut =>
          have hl : (Nat.toDigits 2 (bigv (dig B))).length ≤ 256 := digits_le hlt
          refine ev_cut_str (x := baseText "0b" 2 (bigv (dig B) : Int)) ?bin (ev_slice (ev_part1 ev_int) ev_part0) ?sz fun _ _ => ⟨_, rfl⟩
          case sz => rw [bin_len, sizeLine_eq]; omega
          case bin =>
            refine ev_B (T := "bin") (PL := fun vs h => ∃ v, vs = [v] ∧ isI (bigv (dig B) : Int) v h) ?bn (ev_args1 ?fb Mono.i rfl) (fun vs h k ⟨v, e, z⟩ => e ▸ call_bin z ?sz2) rfl rfl
            case bn => walk_at "m_blt"
            case sz2 => rw [bin_len, sizeLine_eq]; omega
            case fb =>
              refine ev_attrCall (P₁ := isV (.type "int")) (PM := fun fx h' => ∃ x, fx = (.ref x, []) ∧ KFB.StandsAt x h') ?qi (fun v h k z => ?gm) (fun fx h k ⟨x, e, st⟩ => ?cw) rfl
              case qi => walk_at "m_blt"
              case gm =>
                cases z
                exact getM_fb W (F₈.base.trans k) (by kernel_rfl!)
              case cw =>
                subst e
                have F₈' := F₈.keep k
                refine cw_fb (PL := fun vs h => ∃ u, vs = [u] ∧ isY (dig B) u h) (PK := isS (Str.ofString "big")) st (ev_args1 (ev_sha (ws := ws) (X := X') W F₈'.out (by omega) hh (by omega) ?qs ?qn rfl rfl) Mono.y rfl) (fun vs h h' k ⟨u, e, z⟩ => ⟨u, e, z⟩) ev_str (fun vs kv h k ⟨u, e, z1⟩ z2 => e ▸ call_fb (k _ _ st) z1 z2 (by omega)) rfl rfl
                case qs => walk_at "m_var"
                case qn =>
                  refine Ev.mono (P := isY B) ?qnd fun v h k z => .inl z
                  case qnd => walk_at "m_var"
      refine ex_return (P := isB true) (ev_cmp (P₁ := isS (sL (cbT cb (B.size * 8) (parts.length / 3)))) (P₂ := isS (sL (cbT (fun i => bt ((dig B).getD (i / 8) 0).toNat (7 - i % 8)) 0 (parts.length / 3)))) ?qh ?qn Mono.s (fun a b h k z z' => (cmp_eqS z z').mono fun v h k z => ?qeq) rfl) fun v h' k' z => ?qfin
      case qh => walk_at "m_var"
      case qn => walk_at "m_var"
      case qeq =>
        have e : cbT cb (B.size * 8) (parts.length / 3) = cbT (fun i => bt ((dig B).getD (i / 8) 0).toNat (7 - i % 8)) 0 (parts.length / 3) := List.map_congr_left fun i hi => by
          rw [hck i (List.mem_range.mp hi), Nat.zero_add]
        rw [e, show (sL (cbT (fun i => bt ((dig B).getD (i / 8) 0).toNat (7 - i % 8)) 0 (parts.length / 3)) == sL (cbT (fun i => bt ((dig B).getD (i / 8) 0).toNat (7 - i % 8)) 0 (parts.length / 3))) = true from beq_self_eq_true _] at z
        exact z
      case qfin =>
        have t5 : Tab X' h₅ := tab₄.keep k₅ hsub hOwn91
        have t6 : Tab X' h₆ := t5.keep k₆ hsub hOwn91
        have t7 : Tab X' h₇ := t6.keep k₇ hsub hOwn91
        have t8 : Tab X' h₈ := t7.keep k₈ hsub hOwn91
        have t9 : Tab X' h₉ := t8.keep k₉ hsub hOwn91
        exact ⟨z, TabOk.narrow (Tab.keeps t9 k') hX⟩
end
end Mine

set_option maxRecDepth 100000
set_option linter.unusedVariables false
set_option Elab.async false
namespace Mine
open PySem PySem.W PySem.Calls PyProof.Rows
/-- names put together -/
local macro_rules | `(tactic| walk_at "m_mem") => `(tactic| first | with_reducible exact List.mem_cons_self | (with_reducible refine List.mem_cons_of_mem _ ?_; walk_at "m_mem"))
local macro_rules | `(tactic| walk_at "m_fre") => `(tactic| first | assumption | exact Frm.e (by assumption))
local macro_rules | `(tactic| walk_at "m_var") => `(tactic| exact Fre.var (by walk_at "m_fre") (by walk_at "m_mem"))
local macro_rules | `(tactic| walk_at "m_env") => `(tactic| first | (subst_vars; kernel_rfl!))
local macro_rules | `(tactic| walk_at "m_glob") => `(tactic| exact Fre.glob (by walk_at "m_fre") (by assumption) (by kernel_rfl!) (by walk_at "m_env") (by kernel_rfl!))
local macro_rules | `(tactic| walk_at "m_blt") => `(tactic| exact Fre.blti (by walk_at "m_fre") (by assumption) (by kernel_rfl!) (by kernel_rfl!) (by decide) (by walk_at "m_env") (by kernel_rfl!))
local macro_rules | `(tactic| walk_at "m_loc") => `(tactic| exact Or.inl (by walk_at "m_env"))
local macro_rules | `(tactic| walk_at "m_cel") => `(tactic| exact Or.inr ⟨by walk_at "m_env", by walk_at "m_env"⟩)
local macro_rules | `(tactic| walk_at "m_hr") => `(tactic| first | with_reducible exact hr_nil | (with_reducible refine hr_cons ?_ ?_; first | exact Or.inl rfl | exact Or.inr ⟨by walk_at "m_mem", by dsimp only; decide +kernel⟩); walk_at "m_hr")


theorem sL_add (a b : List Nat) : sL a ++ sL b = sL (a ++ b) := by
  show (⟨(sL a).cps ++ (sL b).cps⟩ : Str) = _
  unfold sL
  congr 1
  apply Array.toList_inj.mp
  simp
theorem cutL_mid {α : Type} (l : List α) (a b : Nat) (h1 : a ≤ b) (h2 : b ≤ l.length) : cutL l (some (a : Int)) (some (b : Int)) = (l.drop a).take (b - a) := by
  unfold cutL
  simp only [Option.elim_some, clipAt_nat]
  rw [Nat.min_eq_left (Nat.le_trans h1 h2), Nat.min_eq_left h2]

theorem padOk_le {n : Nat} (h : n ≤ 2000) : PadOk (n : Int) = true := by
  unfold PadOk fitsSsize Builtin.Str.tooLong
  rw [Int.toNat_natCast, decide_eq_false (show ¬ ((n : Int) < -(2 ^ 63 : Int)) by omega), decide_eq_false (show ¬ ((n : Int) ≥ 2 ^ 63) by omega), decide_eq_false (show ¬ (n > sizeLine) by rw [sizeLine_eq]; omega)]
  rfl
section
variable {prog : Program} {w : World} {A : Around} {g0 h0 h h' : Heap} {mg mb : Str → Option Value} {X Y : Addr → Prop} {env : Env} {P' : Flow → Heap → Prop}

/-- int.from_bytes(e, byteorder='big') -/
theorem ev_fb {p apos pos kp : Pos} {e ke : Expr} {bs : Array UInt8} {pl : Sem Bool} (W : Wd (KK w) g0 mg mb) (b : Keep g0 h) (hn : Ev prog w A h (eval (.Name (Str.ofString "int") p) env) (isV (.type "int"))) (x : ∀ h', Keep h h' → Ev prog w A h' (eval e env) (isY bs)) (y : Ev prog w A h (eval ke env) (isS (Str.ofString "big"))) (hz : bs.size ≤ 900) (hse : starEach [e] env = [(false, eval e env)])
    (hpl : (backTo pos (starEach [e] env)).any (·.1) = false)
    (he : eval (.Call (.Attribute (.Name (Str.ofString "int") p) (Str.ofString "from_bytes") apos) [e] [⟨some (Str.ofString "byteorder"), ke, kp⟩] pos) env = (do let ov ← eval (.Name (Str.ofString "int") p) env; standAt apos.atName; let (f, first) ← holding [ov] (getMethod ov (Str.ofString "from_bytes") pl); callWith pos f first (backTo pos (starEach [e] env)) (backToKw pos (keywordEach [⟨some (Str.ofString "byteorder"), ke, kp⟩] env)))) :
    Ev prog w A h (eval (.Call (.Attribute (.Name (Str.ofString "int") p) (Str.ofString "from_bytes") apos) [e] [⟨some (Str.ofString "byteorder"), ke, kp⟩] pos) env) (isI (bigv bs)) := by
  refine ev_attrCall (P₁ := isV (.type "int")) (PM := fun fx h' => ∃ x, fx = (.ref x, []) ∧ KFB.StandsAt x h') hn (fun v h k z => ?gm) (fun fx h k ⟨u0, e, st⟩ => ?cw) he
  case gm =>
    cases z
    exact getM_fb W (b.trans k) (by kernel_rfl!)
  case cw =>
    subst e
    exact cw_fb (PL := fun vs h => ∃ u, vs = [u] ∧ isY bs u h) (PK := isS (Str.ofString "big")) st (ev_args1 (x _ k) Mono.y hse) (fun vs h h' k ⟨u, e, z⟩ => ⟨u, e, z⟩) (y.base k) (fun vs kv h k ⟨u, e, z1⟩ z2 => e ▸ call_fb (k _ _ st) z1 z2 hz) hse hpl
/-- bin(e)[2:].zfill(n) -/
theorem ev_binz {p pos spos cpos apos zpos lp : Pos} {e ze : Expr} {n w1 : Nat} {pl : Sem Bool} (hn : Ev prog w A h (eval (.Name (Str.ofString "bin") p) env) (isV (.builtin "bin"))) (x : Ev prog w A h (eval e env) (isI (n : Int))) (y : Ev prog w A h (eval ze env) (isI ((w1 + 1 : Nat) : Int))) (hlt : n < 2 ^ (w1 + 1)) (hw : w1 ≤ 1000)
    (hse : starEach [e] env = [(false, eval e env)]) (hsz : starEach [ze] env = [(false, eval ze env)])
    (hc : ∀ ov, callWith zpos (.builtin "str.zfill") [ov] (backTo zpos (starEach [ze] env)) (backToKw zpos (keywordEach [] env)) = callWith zpos (.builtin "str.zfill") [ov] (backTo zpos (starEach [ze] env)) [])
    (hsu : ∀ l u, ∃ ops, subscripted (.Slice (some (.Constant (.int 2) 0 lp)) none none spos) false l u = operate ops (getItem l u))
    (he : eval (.Call (.Attribute (.Subscript (.Call (.Name (Str.ofString "bin") p) [e] [] pos) (.Slice (some (.Constant (.int 2) 0 lp)) none none spos) cpos) (Str.ofString "zfill") apos) [ze] [] zpos) env = (do let ov ← eval (.Subscript (.Call (.Name (Str.ofString "bin") p) [e] [] pos) (.Slice (some (.Constant (.int 2) 0 lp)) none none spos) cpos) env; standAt apos.atName; let (f, first) ← holding [ov] (getMethod ov (Str.ofString "zfill") pl); callWith zpos f first (backTo zpos (starEach [ze] env)) (backToKw zpos (keywordEach [] env)))) :
    Ev prog w A h (eval (.Call (.Attribute (.Subscript (.Call (.Name (Str.ofString "bin") p) [e] [] pos) (.Slice (some (.Constant (.int 2) 0 lp)) none none spos) cpos) (Str.ofString "zfill") apos) [ze] [] zpos) env) (isS (sL (bitsT (w1 + 1) n))) := by
  have hl : (Nat.toDigits 2 n).length ≤ w1 + 1 := digits_le hlt
  refine (ev_methB (P₁ := isS (sL (cutL (baseText "0b" 2 (n : Int)).cps.toList (some 2) none))) (T := "str") (PL := fun vs h => ∃ v, vs = [v] ∧ isI ((w1 + 1 : Nat) : Int) v h) ?cut Mono.s PySem.F.plainAttrs_str PySem.F.slot_str_zfill PySem.F.type_str_zfill (fun v h k z => ?ty) (ev_args1 y Mono.i hsz)
    (fun v vs h k z ⟨v', e, z'⟩ => e ▸ call_zfill z z' ?pad) hc he hsz rfl).mono fun v h k z => ?fin
  case pad => exact padOk_le (by omega)
  case ty =>
    obtain ⟨t, rfl⟩ := z
    exact ⟨fun s _ => typeIs_str _ _ _, fun a e => by cases e⟩
  case fin =>
    rw [zfill_bits hlt] at z
    exact z
  case cut =>
    refine ev_cut_str (x := baseText "0b" 2 (n : Int)) ?bin (ev_slice (ev_part1 ev_int) ev_part0) ?sz hsu
    case sz => rw [bin_len, sizeLine_eq]; omega
    case bin => exact ev_B (T := "bin") (PL := fun vs h => ∃ v, vs = [v] ∧ isI (n : Int) v h) hn (ev_args1 x Mono.i hse) (fun vs h k ⟨v, e, z⟩ => e ▸ call_bin z (by rw [bin_len, sizeLine_eq]; omega)) hse rfl

set_option maxHeartbeats 16000000 in
theorem c_mnem (W : Wd (KK w) g0 mg mb) (O : Out g0 X h0) (hr : A.depth + 20 < recursionLimit) (hh : A.handled = none) {ws : List Str} {B : Array UInt8} {cb : Nat → Bool} {idx : Nat → Nat} {N : Nat} {u v : Value} (pu : isMn X ws u h0) (p : isY B v h0)
    (hB : ([16, 20, 24, 28, 32] : List Int).any (· == (B.size : Int)) = true) (hN : B.size * 8 + B.size / 4 = N * 11) (hws : ws.length ≤ 5000) (hwl : ∀ j, j < N → idx j < ws.length) (hi2 : ∀ j, j < N → idx j < 2 ^ 11) (hlen : ∀ y ∈ ws, y.length ≤ 100)
    (hcb : ∀ j, j < N → ∀ k, k < 11 → cb (j * 11 + k) = bt (idx j) (10 - k)) (hbits : ∀ i (h : i < B.size), ∀ j, j < 8 → cb (i * 8 + j) = bt B[i].toNat (7 - j))
    (hck : ∀ i, i < B.size / 4 → cb (B.size * 8 + i) = bt ((dig B).getD (i / 8) 0).toNat (7 - i % 8)) :
    Ev prog w A h0 (call (.ref 89) [u, v]) (isS (Str.join sp ((List.range N).map fun j => ws.getD (idx j) (Str.ofString "")))) := by
  have hB32 : B.size ≤ 32 ∧ 16 ≤ B.size ∧ B.size / 4 * 4 = B.size := by
    simp only [List.any_cons, List.any_nil, Bool.or_false, Bool.or_eq_true, beq_iff_eq] at hB
    omega
  obtain ⟨hB1, hB2, hB3⟩ := hB32
  have hN24 : N ≤ 24 := by omega
  have hD : (dig B).size = 32 := dig_size B
  refine ev_callK W O (f := 89) (args := ⟨[u, v], []⟩) (binds := [(Str.ofString "self", u), (Str.ofString "data", v)]) (ρ := fun X' => [(Str.ofString "self", isMn X' ws), (Str.ofString "data", isY B)])
    rfl rfl (by kernel_rfl!) (by omega) (fun _ _ => BindsTo.of_eq rfl) ?_ ?_
  · intro X' hX hF
    exact hr_cons ⟨Stable.mn, u, by simp, fun h k => Mono.mn _ _ _ k (isMn.widen pu hF)⟩ (hr_cons ⟨Stable.y, v, by simp, fun h k => p⟩ hr_nil)
  · intro L0 env X' h₁ he k hX fresh F cells
    replace hh : (A.deeper env).handled = none := hh
    have hr' : (A.deeper env).depth + 18 < recursionLimit := by show A.depth + 1 + 18 < _; omega
    refine ex_skip (ev_cmpT (P₁ := isI B.size) (P₂ := isLI X' [16, 20, 24, 28, 32]) (ev_B (T := "len") (PL := fun vs h => ∃ v, vs = [v] ∧ isY B v h) ?qc (ev_args1 ?qd Mono.y rfl) (fun vs h k ⟨v, e, z⟩ => e ▸ call_lenY z (by omega)) rfl rfl) (ev_list (evpS ev_int (evpS ev_int (evpS ev_int (evpS ev_int (evpS ev_int evp0 rfl) rfl) rfl) rfl) rfl) F.live (by simp [sizeLine])) Mono.i (fun a b h k z z' => (cmp_notInI z z').mono fun v h k z => by rw [hB] at z; exact z) rfl) fun h₂ k₂ => ?_
    case qc => walk_at "m_blt"
    case qd => walk_at "m_var"
    have F₂ := F.keep k₂
    refine ex_assign F₂ (P := isI (bigv (dig B))) (ev_fb (bs := dig B) W F₂.base ?qi (fun h' k => ?qs) ev_str (by omega) rfl rfl rfl) Stable.i [(Str.ofString "self", isMn X' ws), (Str.ofString "data", isY B), (Str.ofString "h", isI (bigv (dig B)))] (fun h₃ k₃ F₃ => ?_) (by walk_at "m_loc") rfl ?qr (by subst_vars; rfl)
    case qr => exact hr_cons (.inr ⟨by walk_at "m_mem", by dsimp only; decide +kernel⟩) (hr_cons (.inr ⟨by walk_at "m_mem", by dsimp only; decide +kernel⟩) (hr_cons (.inl rfl) hr_nil))
    case qi => walk_at "m_blt"
    case qs =>
      have F' := F₂.keep k
      refine ev_sha (ws := ws) (X := X') W F'.out (by omega) hh (by omega) ?qs ?qn rfl rfl
      case qs => walk_at "m_var"
      case qn =>
        refine Ev.mono (P := isY B) ?qnd fun v h k z => .inl z
        case qnd => walk_at "m_var"
    have hlt1 : bigv B < 2 ^ (B.size * 8 - 1 + 1) := by
      have := bigv_lt B
      rw [show B.size * 8 - 1 + 1 = 8 * B.size by omega, Nat.pow_mul]
      exact this
    have hlt2 : bigv (dig B) < 2 ^ (255 + 1) := by
      have := bigv_lt (dig B)
      rw [hD] at this
      exact this
    have e1 : bitsT (B.size * 8 - 1 + 1) (bigv B) = cbT cb 0 (B.size * 8) := by
      rw [show B.size * 8 - 1 + 1 = B.size * 8 by omega, ← bval_octets B hbits]
      exact bitsT_bval _ _ (cbT_len _ _ _) (cbT_bin _ _ _)
    have e2 : (bitsT 256 (bigv (dig B))).take (B.size / 4) = cbT cb (B.size * 8) (B.size / 4) := by
      have ob := octets_bits (dig B)
      rw [hD] at ob
      rw [show (256 : Nat) = 32 * 8 from rfl, ob, cbT_take _ _ _ _ (by omega)]
      exact (List.map_congr_left fun i hi => by rw [hck i (List.mem_range.mp hi), Nat.zero_add]).symm
    refine ex_assign F₃ (P := isS (sL (cbT cb 0 (N * 11)))) ((ev_addS (a := sL (cbT cb 0 (B.size * 8))) (b := sL (cbT cb (B.size * 8) (B.size / 4))) ?qa ?qb (by rw [sL_len, sL_len, cbT_len, cbT_len, sizeLine_eq]; omega)).mono fun v h k z => ?qe) Stable.s
      [(Str.ofString "self", isMn X' ws), (Str.ofString "b", isS (sL (cbT cb 0 (N * 11))))] (fun h₄ k₄ F₄ => ?_) (by walk_at "m_loc") rfl (by walk_at "m_hr") (by subst_vars; rfl)
    case qe =>
      have e : cbT cb 0 (N * 11) = cbT cb 0 (B.size * 8) ++ cbT cb (B.size * 8) (B.size / 4) := by rw [← hN, cbT_add, Nat.zero_add]
      rw [sL_add, ← e] at z
      exact z
    case qa =>
      rw [← e1]
      refine ev_binz (w1 := B.size * 8 - 1) (n := bigv B) ?q1 (ev_fb (bs := B) W F₃.base ?q2 (fun h' k => ?q3) ev_str (by omega) rfl rfl rfl) ?q4 hlt1 (by omega) rfl rfl (fun _ => rfl) (fun _ _ => ⟨_, rfl⟩) rfl
      case q1 => walk_at "m_blt"
      case q2 => walk_at "m_blt"
      case q3 => have F' := F₃.keep k; walk_at "m_var"
      case q4 =>
        rw [show ((B.size * 8 - 1 + 1 : Nat) : Int) = (B.size : Int) * 8 by omega]
        refine ev_mul (ev_B (T := "len") (PL := fun vs h => ∃ v, vs = [v] ∧ isY B v h) ?qc (ev_args1 ?qd Mono.y rfl) (fun vs h k ⟨v, e, z⟩ => e ▸ call_lenY z (by omega)) rfl rfl) ev_int (IntMulOk.of_right (by decide +kernel))
        case qc => walk_at "m_blt"
        case qd => walk_at "m_var"
    case qb =>
      refine (ev_cut_str (x := sL (bitsT 256 (bigv (dig B)))) ?q5 (ev_slice (a := none) (b := some ((B.size : Int) * 8 / 32)) ev_part0 (ev_part1 (ev_div (ev_mul (ev_B (T := "len") (PL := fun vs h => ∃ v, vs = [v] ∧ isY B v h) ?qc (ev_args1 ?qd Mono.y rfl) (fun vs h k ⟨v, e, z⟩ => e ▸ call_lenY z (by omega)) rfl rfl) ev_int (IntMulOk.of_right (by decide +kernel))) ev_int (by decide) (by decide)))) (by rw [sL_len, bitsT_len, sizeLine_eq]; omega) fun _ _ => ⟨_, rfl⟩).mono fun v h k z => ?q6
      case qc => walk_at "m_blt"
      case qd => walk_at "m_var"
      case q6 =>
        rw [sL_cps, show (B.size : Int) * 8 / 32 = ((B.size / 4 : Nat) : Int) by omega, cutL_take, e2] at z
        exact z
      case q5 =>
        refine ev_binz (w1 := 255) (n := bigv (dig B)) ?u1 ?u2 ?u3 hlt2 (by omega) rfl rfl (fun _ => rfl) (fun _ _ => ⟨_, rfl⟩) rfl
        case u1 => walk_at "m_blt"
        case u2 => walk_at "m_var"
        case u3 =>
          show Ev _ _ _ _ _ (isI 256)
          exact ev_int
    refine ex_new (PL := fun L h => MP L [] h) F₄ ev_empty (fun L h h' k z => z.at k)
      (fun L => [(Str.ofString "self", isMn (fun a => X' a ∨ a = L) ws), (Str.ofString "b", isS (sL (cbT cb 0 (N * 11)))), (Str.ofString "result", isV (.ref L))]) (fun L hL => ?qhr) (fun L h₅ hL k₅ ml F₅ => ?_) (by walk_at "m_loc") rfl (by subst_vars; rfl) (fun _ q => q)
    case qhr =>
      have fr : ∀ a, (X' a ∨ a = L) → ¬ X' a → h₄.get? a = none := fun a z n => (z.resolve_left n) ▸ hL
      exact hr_cons (.inr ⟨by dsimp only; decide +kernel, Stable.mn, _, by walk_at "m_mem", fun v z => isMn.widen z fr⟩) (hr_cons (.inr ⟨by dsimp only; decide +kernel, Stable.s, _, by walk_at "m_mem", fun v z => z⟩) (hr_cons (.inl rfl) hr_nil))
    have hLX : ¬ X' L := fun z => by obtain ⟨o, e⟩ := F₄.live L z; rw [hL] at e; cases e
    have hLl : L ≠ env.locals := fun e => hLX (F₄.sub _ (e ▸ F₄.loc))
    have hLc : ∀ n c, env.cells.lookup n = some c → c ≠ L := fun n c z e => hLX (F₄.sub _ (e ▸ F₄.cel n c z))
    have hYY : ∀ a, (Own env a ∨ a = L) → (X' a ∨ a = L) := fun a z => z.imp (F₄.sub a) id
    have htx : (sL (cbT cb 0 (N * 11))).length = N * 11 := by rw [sL_len, cbT_len]
    generalize hw : (fun j => S.str (ws.getD (idx j) (Str.ofString ""))) = wd
    refine ex_for F₅ (n := N) (item := fun i => [(Str.ofString "i", .int (i : Int))]) (evit_range hh (by omega) ?rg ?q7 rfl) ?t ?nm hYY (fun a z => .inl z)
      (fun X3 i => [(Str.ofString "self", isMn X3 ws), (Str.ofString "b", isS (sL (cbT cb 0 (N * 11)))), (Str.ofString "result", isV (.ref L))])
      (fun i h => MP L ((List.range i).map wd) h) (fun a => a = L) (fun a z => ⟨.inr z, fun q => hLl (z.symm.trans q)⟩) (fun i h h' k z => z.at fun o e => k L o rfl e) ml
      ?entry ?fr ?step
      [(Str.ofString "self", isMn (fun a => X' a ∨ a = L) ws), (Str.ofString "result", isV (.ref L))] ?exit ?after (fun _ => rfl)
    case rg => walk_at "m_blt"
    case q7 =>
      rw [show (N : Int) = ((N * 11 : Nat) : Int) / 11 by omega, ← htx]
      refine ev_div (ev_B (T := "len") (PL := fun vs h => ∃ v, vs = [v] ∧ isS (sL (cbT cb 0 (N * 11))) v h) ?qc (ev_args1 ?qd Mono.s rfl) (fun vs h k ⟨v, e, z⟩ => e ▸ call_lenS z (by rw [htx]; omega)) rfl rfl) ev_int (by decide) (by decide)
      case qc => walk_at "m_blt"
      case qd => walk_at "m_var"
    case t =>
      show env.kindOf (Str.ofString "i") = some .local
      walk_at "m_env"
    case nm => exact fun i hi => hr_cons ⟨by walk_at "m_env", by kernel_rfl!⟩ hr_nil
    case entry =>
      exact fun X3 hX3 hf3 => hr_cons ⟨Stable.mn, _, by walk_at "m_mem", fun v z => isMn.widen z hf3⟩ (hr_cons ⟨Stable.s, _, by walk_at "m_mem", fun v z => z⟩ (hr_cons ⟨Stable.v, _, by walk_at "m_mem", fun v z => z⟩ hr_nil))
    case fr =>
      exact fun X'' i hi => hr_cons (hr_cons (by dsimp only; decide +kernel) hr_nil) (hr_cons (hr_cons (by dsimp only; decide +kernel) hr_nil) (hr_cons (hr_cons (by dsimp only; decide +kernel) hr_nil) hr_nil))
    case exit =>
      exact fun X3 hX3 => hr_cons ⟨Stable.mn, _, by walk_at "m_mem", fun v h z => isMn.narrow z hX3⟩ (hr_cons ⟨Stable.v, _, by walk_at "m_mem", fun v h z => z⟩ hr_nil)
    case step =>
      intro i X3 h₆ hi6 hX3 hf3 k₆ ml₆ F₆
      replace F₆ : Frm g0 env X3 (Own env) [(Str.ofString "i", isI (i : Int)), (Str.ofString "self", isMn X3 ws), (Str.ofString "b", isS (sL (cbT cb 0 (N * 11)))), (Str.ofString "result", isV (.ref L))] h₆ := F₆
      have hLX3 : X3 L := hX3 L (.inr rfl)
      have ecut : cutL (sL (cbT cb 0 (N * 11))).cps.toList (some ((i : Int) * 11)) (some (((i : Int) + 1) * 11)) = cbT cb (i * 11) 11 := by
        rw [sL_cps, show (i : Int) * 11 = ((i * 11 : Nat) : Int) by omega, show ((i : Int) + 1) * 11 = ((i * 11 + 11 : Nat) : Int) by omega, cutL_mid _ _ _ (by omega) (by rw [cbT_len]; omega), cbT_drop _ _ _ _ (by omega), Nat.zero_add, Nat.add_sub_cancel_left]
        exact cbT_take _ _ _ _ (by omega)
      have ebv : bval (cbT cb (i * 11) 11) = idx i := by
        rw [cbT_bits (w := 11) (n := idx i) (fun k hk => hcb i hi6 k hk), bval_bits _ _ (hi2 i hi6)]
      refine ex_assign F₆ (P := isI (idx i : Int)) ?qx Stable.i [(Str.ofString "self", isMn X3 ws), (Str.ofString "b", isS (sL (cbT cb 0 (N * 11)))), (Str.ofString "result", isV (.ref L)), (Str.ofString "idx", isI (idx i : Int))] (fun h₇ k₇ F₇ => ?_) (by walk_at "m_loc") rfl ?qr (by subst_vars; rfl) (fun a z => .inl z)
      case qr => exact hr_cons (.inr ⟨by walk_at "m_mem", by dsimp only; decide +kernel⟩) (hr_cons (.inr ⟨by walk_at "m_mem", by dsimp only; decide +kernel⟩) (hr_cons (.inr ⟨by walk_at "m_mem", by dsimp only; decide +kernel⟩) (hr_cons (.inl rfl) hr_nil)))
      case qx =>
        refine (ev_T (P := isI (bval (sL (cbT cb (i * 11) 11)).cps.toList)) (T := "int") (PL := fun vs h => ∃ a b, vs = [a, b] ∧ isS (sL (cbT cb (i * 11) 11)) a h ∧ isI 2 b h) ?qi (ev_args2 ?qd ev_int Mono.s Mono.i rfl rfl) (fun vs h k ⟨a, b, e, z, z'⟩ => e ▸ call_int2 z z' (by rw [sL_len, cbT_len]; omega) (by rw [sL_cps]; exact cbT_bin _ _ _) (fun q => ?qne)) rfl rfl).mono fun v h k z => by rw [sL_cps, ebv] at z; exact z
        case qi => walk_at "m_blt"
        case qne =>
          have := congrArg List.length q
          rw [sL_cps, cbT_len, List.length_nil] at this
          omega
        case qd =>
          rw [← ecut]
          refine ev_cut_str (x := sL (cbT cb 0 (N * 11))) ?qb (ev_slice (ev_part1 (ev_mul ?w1 ev_int (IntMulOk.of_right (by decide +kernel)))) (ev_part1 (ev_mul (ev_add ?w2 ev_int) ev_int (IntMulOk.of_right (by decide +kernel))))) (by rw [htx, sizeLine_eq]; omega) fun _ _ => ⟨_, rfl⟩
          case qb => walk_at "m_var"
          case w1 => walk_at "m_var"
          case w2 => walk_at "m_var"
      have ml₇ : MP L ((List.range i).map wd) h₇ := ml₆.at fun o e => k₇ L o (fun z => hLX (F₄.sub _ z)) e
      have hgd : (ws.map S.str)[((idx i : Int)).toNat]? = some (S.str (ws.getD (idx i) (Str.ofString ""))) := by
        have := hwl i hi6
        simp [this]
      refine ex_append (d := .str (ws.getD (idx i) (Str.ofString ""))) F₇ ?qo ?qv hLX3 hLl hLc ml₇ (by rw [List.length_map, List.length_range]; omega) (fun h₈ kb ml₈ F₈ => ex_nil ⟨rfl, ?qm, F₈.less ?qless⟩) (by subst_vars; rfl) (by subst_vars; rfl) (fun _ => rfl) rfl rfl (.inr rfl)
      case qo => walk_at "m_var"
      case qv =>
        refine ev_item_list (X := X3) (ds := ws.map S.str) (i := (idx i : Int)) (d := .str (ws.getD (idx i) (Str.ofString ""))) ((ev_wordlist (ws := ws) W F₇.base ?sf rfl fun _ _ => rfl).mono fun _ _ _ z => z.1) ?q8 (by omega) ?q9 hgd (fun _ _ => rfl)
        case sf => walk_at "m_var"
        case q8 => walk_at "m_var"
        case q9 => have := hi2 i hi6; omega
      case qm =>
        rw [List.range_succ, List.map_append]
        subst hw
        exact ml₈
      case qless => exact hr_cons (by walk_at "m_mem") (hr_cons (by walk_at "m_mem") (hr_cons (by walk_at "m_mem") hr_nil))
    case after =>
      intro h₆ k₆ ml₆ F₆
      have eys : (List.range N).map wd = ((List.range N).map fun j => ws.getD (idx j) (Str.ofString "")).map S.str := by
        rw [List.map_map]; subst hw; rfl
      have ylen : ∀ y ∈ (List.range N).map fun j => ws.getD (idx j) (Str.ofString ""), y.length ≤ 100 := fun y hy => by
        obtain ⟨j, hj, rfl⟩ := List.mem_map.mp hy
        have hj' := hwl j (List.mem_range.mp hj)
        rw [List.getD_eq_getElem?_getD, List.getElem?_eq_getElem hj', Option.getD_some]
        exact hlen _ (List.getElem_mem hj')
      have hlen2 : ((List.range N).map fun j => ws.getD (idx j) (Str.ofString "")).length = N := by simp
      generalize hys : ((List.range N).map fun j => ws.getD (idx j) (Str.ofString "")) = ys at eys ylen hlen2 ⊢
      have hsum := sum_le ylen
      rw [hlen2] at hsum
      have hsp1 : sp.length = 1 := by rw [sp_cps]; rfl
      refine ex_return (P := isS (Txt.join sp ys)) (ev_methB (P₁ := isS sp) (T := "str") (PL := fun vs h => ∃ v, vs = [v] ∧ isLS X' ys v h) ?dl Mono.s PySem.F.plainAttrs_str PySem.F.slot_str_join PySem.F.type_str_join (fun v h k z => ?ty) (ev_args1 ?res Mono.ls rfl)
        (fun v vs h k z ⟨v', e, z'⟩ => e ▸ call_joinL z z' (by rw [hlen2, hsp1]; omega)) (fun _ => rfl) rfl rfl rfl) fun v h' _ z => ?fin
      case dl =>
        refine ev_delim (X := fun a => X' a ∨ a = L) (ws := ws) W F₆.base ?sf rfl fun _ _ => rfl
        case sf => walk_at "m_var"
      case ty =>
        obtain ⟨t, rfl⟩ := z
        exact ⟨fun s _ => typeIs_str _ _ _, fun a e => by cases e⟩
      case res =>
        refine Ev.mono (P := isV (.ref L)) ?rv fun v h k z => ?_
        case rv => walk_at "m_var"
        cases z
        rw [eys] at ml₆
        exact ((ml₆.at fun o e => k _ o e).ld hLX).1
      case fin =>
        rw [← join_eq]
        exact z
end
end Mine

set_option maxRecDepth 100000
set_option linter.unusedVariables false
set_option Elab.async false
namespace Mine
open PySem PySem.W PySem.Calls PyProof.Rows

def b2i (b : Bool) : Int := if b then 1 else 0
/-- bit k of some octets and of what their digest adds -/
def cbB (B : Array UInt8) (k : Nat) : Bool := if k < B.size * 8 then bt (B.getD (k / 8) 0).toNat (7 - k % 8) else bt ((dig B).getD ((k - B.size * 8) / 8) 0).toNat (7 - (k - B.size * 8) % 8)
/-- number j of them -/
def idxB (B : Array UInt8) (j : Nat) : Nat := bval (cbT (cbB B) (j * 11) 11)
theorem cbB_bits (B : Array UInt8) : ∀ i (h : i < B.size), ∀ j, j < 8 → cbB B (i * 8 + j) = bt B[i].toNat (7 - j) := fun i h j hj => by
  unfold cbB
  rw [if_pos (by omega), show (i * 8 + j) / 8 = i by omega, show (i * 8 + j) % 8 = j by omega, Array.getD_eq_getD_getElem?, Array.getElem?_eq_getElem h, Option.getD_some]
theorem cbB_ck (B : Array UInt8) (i : Nat) : cbB B (B.size * 8 + i) = bt ((dig B).getD (i / 8) 0).toNat (7 - i % 8) := by
  unfold cbB
  rw [if_neg (by omega), Nat.add_sub_cancel_left]
theorem bval_lt : ∀ (n : Nat) (T : List Nat), T.length = n → Bin T → bval T < 2 ^ n
  | 0, T, h, _ => by
    have : T = [] := List.eq_nil_of_length_eq_zero h
    subst this; decide
  | n + 1, T, h, hb => by
    have hne : T ≠ [] := fun q => by rw [q] at h; cases h
    have e := List.dropLast_concat_getLast hne
    have hc := hb _ (List.getLast_mem hne)
    have hb' : Bin T.dropLast := fun c hc => hb c (List.dropLast_subset _ hc)
    have hl : T.dropLast.length = n := by rw [List.length_dropLast, h]; rfl
    generalize T.getLast hne = c at *
    generalize T.dropLast = D at *
    subst e
    have := bval_lt n D hl hb'
    rw [bval_append, Nat.pow_succ]
    rcases hc with rfl | rfl <;> omega
theorem idx_lt (B : Array UInt8) (j : Nat) : idxB B j < 2 ^ 11 := bval_lt 11 _ (cbT_len _ _ _) (cbT_bin _ _ _)
theorem bch_inj {a b : Bool} (h : bch a = bch b) : a = b := by cases a <;> cases b <;> simp_all [bch]
theorem idx_bits (B : Array UInt8) (j k : Nat) (hk : k < 11) : cbB B (j * 11 + k) = bt (idxB B j) (10 - k) := by
  have e := bitsT_bval 11 (cbT (cbB B) (j * 11) 11) (cbT_len _ _ _) (cbT_bin _ _ _)
  have e2 : (bitsT 11 (idxB B j))[k]? = (cbT (cbB B) (j * 11) 11)[k]? := by rw [← e]; rfl
  unfold bitsT cbT at e2
  rw [List.getElem?_map, List.getElem?_map, List.getElem?_range hk] at e2
  simp only [Option.map_some, Option.some.injEq] at e2
  exact (bch_inj e2).symm
theorem bit_int (n k : Nat) : (n : Int) / 2 ^ k % 2 = b2i (bt n k) := by
  have : ((n : Int) / 2 ^ k % 2) = ((n / 2 ^ k % 2 : Nat) : Int) := by push_cast; rfl
  rw [this]
  unfold b2i bt
  rcases Nat.mod_two_eq_zero_or_one (n / 2 ^ k) with h | h <;> simp [h]
theorem bitsOf_eq (b : Array UInt8) : bitsOf b = (List.range (b.size * 8)).map fun k => b2i (bt (b.getD (k / 8) 0).toNat (7 - k % 8)) := by
  refine List.ext_getElem? fun i => ?_
  by_cases h : i < b.size * 8
  · unfold bitsOf
    rw [flat8 (fun i (k : Nat) => ((b.getD i 0).toNat : Int) / 2 ^ ((7 : Int) - (k : Int)).toNat % 2) b.size i h, List.getElem?_map, List.getElem?_range h, Option.map_some, show ((7 : Int) - ((i % 8 : Nat) : Int)).toNat = 7 - i % 8 by omega, bit_int]
  · rw [List.getElem?_eq_none (by rw [bitsOf_len]; omega), List.getElem?_eq_none (by simp; omega)]
theorem take_range {α : Type} (f : Nat → α) (m n : Nat) (h : m ≤ n) : ((List.range n).map f).take m = (List.range m).map f := by
  rw [← List.map_take, List.take_range, Nat.min_eq_left h]
theorem dueBits_eq (B : Array UInt8) (hB : B.size ≤ 32) : dueBits B = (List.range (B.size * 8 + B.size / 4)).map fun k => b2i (cbB B k) := by
  unfold dueBits
  have hD := dig_size B
  have e1 : (cutL (dig B).toList none (some 1)).toArray = #[(dig B).getD 0 0] := by
    rw [show (1 : Int) = ((1 : Nat) : Int) from rfl, cutL_take]
    have : (dig B).toList.length = 32 := by rw [Array.length_toList, hD]
    obtain ⟨a, r, e⟩ : ∃ a r, (dig B).toList = a :: r := by
      cases h : (dig B).toList with
      | nil => rw [h] at this; cases this
      | cons a r => exact ⟨a, r, rfl⟩
    have e0 : (dig B).getD 0 0 = a := by
      rw [Array.getD_eq_getD_getElem?, ← Array.getElem?_toList, e]; rfl
    rw [e0, e]; rfl
  rw [e1, show ((B.size : Int) / 4) = ((B.size / 4 : Nat) : Int) by omega, cutL_take, bitsOf_eq, bitsOf_eq, take_range _ _ _ (by show B.size / 4 ≤ 1 * 8; omega), List.range_add, List.map_append, List.map_map]
  congr 1
  · refine List.map_congr_left fun k hk => ?_
    unfold cbB
    rw [if_pos (List.mem_range.mp hk)]
  · refine List.map_congr_left fun k hk => ?_
    have hk' := List.mem_range.mp hk
    show _ = b2i (cbB B (B.size * 8 + k))
    rw [cbB_ck, show k / 8 = 0 by omega]
    rfl
theorem wl_snoc (l : List Int) (c : Int) (e : Nat) (h : l.length ≤ e + 1) : wl ((e + 1 : Nat) : Int) (l ++ [c]) = (wl (e : Int) l).map (· * 2) ++ [c * 2 ^ (((e + 1 : Nat) : Int) - (l.length : Int)).toNat] := by
  unfold wl
  rw [List.length_append, List.length_singleton, List.range_succ, List.map_append, List.map_map]
  congr 1
  · refine List.map_congr_left fun k hk => ?_
    have hk' := List.mem_range.mp hk
    show _ = _ * _ * 2
    rw [show (((e + 1 : Nat) : Int) - (k : Int)).toNat = ((e : Int) - (k : Int)).toNat + 1 by omega, Int.pow_succ, ← Int.mul_assoc]
    congr 2
    rw [List.getD_eq_getElem?_getD, List.getD_eq_getElem?_getD, List.getElem?_append_left hk']
  · simp
theorem sum_twice : ∀ l : List Int, (l.map (· * 2)).sum = l.sum * 2
  | [] => rfl
  | a :: r => by rw [List.map_cons, List.sum_cons, List.sum_cons, sum_twice r, Int.add_mul]
theorem wsum_bval : ∀ (n : Nat) (bl : List Bool), bl.length = n + 1 → wsum (n : Int) (bl.map b2i) = (bval (bl.map bch) : Int)
  | 0, bl, h => by
    obtain ⟨b, rfl⟩ := List.length_eq_one_iff.mp h
    cases b <;> decide
  | n + 1, bl, h => by
    have hne : bl ≠ [] := fun q => by rw [q] at h; cases h
    have e := List.dropLast_concat_getLast hne
    have hl : bl.dropLast.length = n + 1 := by rw [List.length_dropLast, h]; rfl
    generalize bl.getLast hne = c at *
    generalize bl.dropLast = D at *
    subst e
    have ih := wsum_bval n D hl
    unfold wsum at ih ⊢
    rw [List.map_append, List.map_append, List.map_singleton, List.map_singleton, wl_snoc _ _ _ (by rw [List.length_map, hl]; exact Nat.le_refl _), List.sum_append, sum_twice, ih, bval_append, List.length_map, hl]
    simp only [List.sum_cons, List.sum_nil, Int.add_zero]
    rw [show (((n + 1 : Nat) : Int) - ((n + 1 : Nat) : Int)).toNat = 0 by omega]
    cases c <;> simp [b2i, bch]
theorem dueOf_eq (B : Array UInt8) {N : Nat} (hB : B.size ≤ 32) (hN : B.size * 8 + B.size / 4 = N * 11) : dueOf B = (List.range N).map fun j => (idxB B j : Int) := by
  unfold dueOf numsOf
  rw [dueBits_eq B hB, hN]
  simp only [List.length_map, List.length_range]
  rw [show N * 11 / 11 = N by omega]
  refine List.map_congr_left fun j hj => ?_
  have hj' := List.mem_range.mp hj
  have e : cutL ((List.range (N * 11)).map fun k => b2i (cbB B k)) (some (11 * (j : Int))) (some (11 * (j : Int) + 11)) = ((List.range 11).map fun k => cbB B (j * 11 + k)).map b2i := by
    rw [show (11 * (j : Int)) = ((j * 11 : Nat) : Int) by omega, show (((j * 11 : Nat) : Int) + 11) = ((j * 11 + 11 : Nat) : Int) by omega]
    unfold cutL
    simp only [Option.elim_some, clipAt_nat, List.length_map, List.length_range]
    rw [Nat.min_eq_left (by omega), Nat.min_eq_left (by omega), Nat.add_sub_cancel_left, show N * 11 = j * 11 + (11 + (N * 11 - j * 11 - 11)) by omega, List.range_add, List.map_append, List.drop_left' (by simp), List.map_map, List.range_add, List.map_append, List.take_left' (by simp), List.map_map]
    rfl
  rw [e]
  have := wsum_bval 10 ((List.range 11).map fun k => cbB B (j * 11 + k)) (by simp)
  rw [show ((10 : Nat) : Int) = 10 from rfl] at this
  rw [this, List.map_map]
  rfl
end Mine

set_option maxRecDepth 100000
set_option linter.unusedVariables false
set_option Elab.async false
namespace Mine
open PySem PySem.W PySem.Calls PyProof.Rows
/-- names put together -/
local macro_rules | `(tactic| walk_at "m_mem") => `(tactic| first | with_reducible exact List.mem_cons_self | (with_reducible refine List.mem_cons_of_mem _ ?_; walk_at "m_mem"))
local macro_rules | `(tactic| walk_at "m_fre") => `(tactic| first | assumption | exact Frm.e (by assumption))
local macro_rules | `(tactic| walk_at "m_var") => `(tactic| exact Fre.var (by walk_at "m_fre") (by walk_at "m_mem"))
local macro_rules | `(tactic| walk_at "m_env") => `(tactic| first | (subst_vars; kernel_rfl!))
local macro_rules | `(tactic| walk_at "m_glob") => `(tactic| exact Fre.glob (by walk_at "m_fre") (by assumption) (by kernel_rfl!) (by walk_at "m_env") (by kernel_rfl!))
local macro_rules | `(tactic| walk_at "m_blt") => `(tactic| exact Fre.blti (by walk_at "m_fre") (by assumption) (by kernel_rfl!) (by kernel_rfl!) (by decide) (by walk_at "m_env") (by kernel_rfl!))
local macro_rules | `(tactic| walk_at "m_loc") => `(tactic| exact Or.inl (by walk_at "m_env"))
local macro_rules | `(tactic| walk_at "m_cel") => `(tactic| exact Or.inr ⟨by walk_at "m_env", by walk_at "m_env"⟩)
local macro_rules | `(tactic| walk_at "m_hr") => `(tactic| first | with_reducible exact hr_nil | (with_reducible refine hr_cons ?_ ?_; first | exact Or.inl rfl | exact Or.inr ⟨by walk_at "m_mem", by dsimp only; decide +kernel⟩); walk_at "m_hr")


--@only 2
abbrev aLaw : Addr := 175
abbrev theRow : OpenRow := PySem.Challenge.rw_fe0189_02.row
--@end

theorem paired_of_ints : ∀ {ns : List Int} {vs : List Value}, IntsAre vs ns → Paired S.is (ns.map S.int) vs
  | _, _, .nil => .nil
  | _, _, .cons n t r => .cons ⟨t, rfl⟩ (paired_of_ints r)
set_option maxHeartbeats 4000000 in
theorem enter (law : ∀ (w : World) (g0 h0 : Heap) (mg mb : Str → Option Value) (script : List Int) (v : Value), Wd (KK w) g0 mg mb → Out g0 (fun a => a = 91) h0 → g0.BuiltinsAt mg 91 → Tab (fun a => a = 91) h0 → isLI (fun a => a = 91) script v h0 → script.length ≤ 63 →
    CxC theRow.prog w callerA (fun a => a = 91) h0 (call (.ref aLaw) [v]) (fun v h => isB true v h ∧ Tab (fun a => a = 91) h)) : PySem.Challenge.rw_fe0189_02.Holds := by
  refine hdC ?_
  intro w s₀ s₁ mg mb G Y fa o pm cd doc dV kV ho hd hcd hD hmg hg args vals as hpre hlay hrd hwl hlo
  have KX := km_in_of Y
  have TB := km_tabs_of Y
  refine Ground.open G ?_
  intro T B D TE TW
  have efa : fa = aLaw := by
    have e1 := mg_of KX T.g (n := Str.ofString "law") (v := .ref aLaw) (by kernel_rfl!)
    have e2 : mg (Str.ofString "law") = some (.ref fa) := hmg
    rw [e1] at e2
    cases e2; rfl
  subst efa
  clear hmg hcd hD ho hd
  wrow_args hpre hlay hrd hwl hlo
  rename_i script _ _ _ _ _ _ _ L vs _ hL _ _ _ hI _ hlen _
  have h91 : s₁.heap.get? 91 = some (tabObj #[]) := TB 91 (by simp)
  have hT : TabsAt [(95, 91)] s₁.heap := List.forall_mem_cons.mpr ⟨⟨codeHd_of_K KX (by kernel_rfl!), h91⟩, fun _ h => nomatch h⟩
  have W : Wd (KK w) (ghostOf s₁.heap [(95, 91)]) mg mb := ⟨ghost_K hT KX (by kernel_rfl!), ghost_ns hT T.g, ghost_ns hT T.b, T.builtins, let ⟨mc, a, r⟩ := T.nolimit; ⟨mc, ghost_ns hT a, r⟩⟩
  have O : Out (ghostOf s₁.heap [(95, 91)]) (fun a => a = 91) s₁.heap := ⟨fun b o e => of_hideAll _ e, fun a e => e ▸ hideAll_none _ (by simp), fun a e => e ▸ ⟨_, h91⟩⟩
  have hbm : (ghostOf s₁.heap [(95, 91)]).BuiltinsAt mg 91 := by
    obtain ⟨bm, ob, b1, b2, b3, b4, b5, b6⟩ := T.bmain
    refine ⟨bm, ob, b1, b2, fun e => ?_, fun e => ?_, ghost_get hT b3 fun q => (by rw [q] at b4; cases b4), b4, b5, b6⟩
    · obtain ⟨o, es, ep, e1, e2, _⟩ := T.g
      rw [e, e1] at b3; cases b3; rw [e2] at b6; cases b6
    · rw [e, h91] at b3; cases b3; cases b4
  have hlist : isLI (fun a => a = 91) script (.ref L) s₁.heap := by
    refine ⟨L, vs.toArray, rfl, fun e => ?_, hL, ?_⟩
    · obtain ⟨o, e1, e2, _⟩ := hL
      rw [e, h91] at e1; cases e1; cases e2
    · exact paired_of_ints hI
  refine law w _ s₁.heap mg mb script (.ref L) W O hbm (.inl h91) hlist (by omega) s₁ _ _ rfl fun v h' tk k l p => ?_
  obtain ⟨pv, tab⟩ := p
  have pv' : v = .bool true := pv
  subst pv'
  have h91' : ∃ ps, h'.get? 91 = some (tabObj ps) := by
    rcases tab with e | ⟨c', o, vs, t, e, _⟩
    · exact ⟨_, e⟩
    · exact ⟨_, e⟩
  refine ⟨.inl ⟨_, .bool true, [], rfl, fun _ => rfl, .bool true, ?post, fun _ => ⟨List.nodup_nil, fun a ha => nomatch ha⟩⟩, ⟨fun b o e => ?old, fun b o e => l b o e⟩, rfl, .of_eq hg⟩
  case post => wrow_post
  case old =>
    by_cases hb : b = 91
    · subst hb
      rw [h91] at e; cases e
      obtain ⟨ps, e'⟩ := h91'
      exact .inr (.inl ⟨((hT (95, 91) (by simp)).1.tab h91).isCodeTable, rfl, #[], ps, rfl, by rw [Array.empty_append]; exact e'⟩)
    · exact .inl (k b o hb e)
end Mine

set_option maxRecDepth 100000
set_option linter.unusedVariables false
set_option Elab.async false
namespace Mine
open PySem PySem.W PySem.Calls PyProof.Rows
/-- names put together -/
local macro_rules | `(tactic| walk_at "m_mem") => `(tactic| first | with_reducible exact List.mem_cons_self | (with_reducible refine List.mem_cons_of_mem _ ?_; walk_at "m_mem"))
local macro_rules | `(tactic| walk_at "m_fre") => `(tactic| first | assumption | exact Frm.e (by assumption))
local macro_rules | `(tactic| walk_at "m_var") => `(tactic| exact Fre.var (by walk_at "m_fre") (by walk_at "m_mem"))
local macro_rules | `(tactic| walk_at "m_env") => `(tactic| first | (subst_vars; kernel_rfl!))
local macro_rules | `(tactic| walk_at "m_glob") => `(tactic| exact Fre.glob (by walk_at "m_fre") (by assumption) (by kernel_rfl!) (by walk_at "m_env") (by kernel_rfl!))
local macro_rules | `(tactic| walk_at "m_blt") => `(tactic| exact Fre.blti (by walk_at "m_fre") (by assumption) (by kernel_rfl!) (by kernel_rfl!) (by decide) (by walk_at "m_env") (by kernel_rfl!))
local macro_rules | `(tactic| walk_at "m_loc") => `(tactic| exact Or.inl (by walk_at "m_env"))
local macro_rules | `(tactic| walk_at "m_cel") => `(tactic| exact Or.inr ⟨by walk_at "m_env", by walk_at "m_env"⟩)
local macro_rules | `(tactic| walk_at "m_hr") => `(tactic| first | with_reducible exact hr_nil | (with_reducible refine hr_cons ?_ ?_; first | exact Or.inl rfl | exact Or.inr ⟨by walk_at "m_mem", by dsimp only; decide +kernel⟩); walk_at "m_hr")


section
variable {prog : Program} {w : World} {A : Around} {g0 h0 h h' : Heap} {mg mb : Str → Option Value} {X Y : Addr → Prop} {env : Env} {P' : Flow → Heap → Prop} {P₁ : PV}

/-- _law_number(s, e) -/
theorem ev_num {p pos : Pos} {se e : Expr} {s : List Int} {k : Int} (W : Wd (KK w) g0 mg mb) (O : Out g0 X h) (hr : A.depth + 5 < recursionLimit) (hf : Ev prog w A h (eval (.Name (Str.ofString "_law_number") p) env) (isV (.ref aNumber))) (hs : Ev prog w A h (eval se env) (isLI X s)) (he : Ev prog w A h (eval e env) (isI k)) (hz : s.length ≤ 63)
    (h1 : starEach [se, e] env = (false, eval se env) :: starEach [e] env) (h2 : starEach [e] env = [(false, eval e env)]) (ha : (backTo pos (starEach [e] env)).any (·.1) = false) :
    Ev prog w A h (eval (.Call (.Name (Str.ofString "_law_number") p) [se, e] [] pos) env) (isI (num s k)) :=
  ev_F (fa := aNumber) (PL := fun vs h => ∃ u v, vs = [u, v] ∧ isLI X s u h ∧ isI k v h) hf W O.base (by kernel_rfl!) (ev_args2 hs he Mono.li Mono.i h1 h2) (fun vs h k ⟨u, v, e, z, t, e2⟩ => by
    subst e e2
    exact c_number W (O.keep k) hr z hz) h1 ha
/-- bytes(e), e a list of whole numbers -/
theorem ev_bytesL {p pos : Pos} {e : Expr} {ns : List Int} (hh : A.handled = none) (hb : Ev prog w A h (eval (.Name (Str.ofString "bytes") p) env) (isV (.type "bytes"))) (he : Ev prog w A h (eval e env) (isLI X ns)) (hz : ns.length ≤ 300) (hr : ∀ n ∈ ns, 0 ≤ n ∧ n < 256)
    (h2 : starEach [e] env = [(false, eval e env)]) : Ev prog w A h (eval (.Call (.Name (Str.ofString "bytes") p) [e] [] pos) env) (isY (byteArr ns)) :=
  ev_T (T := "bytes") (PL := fun vs h => ∃ v, vs = [v] ∧ isLI X ns v h) hb (ev_args1 he Mono.li h2) (fun vs h k ⟨v, e, z⟩ => e ▸ call_bytesL hh z hr (by rw [sizeLine_eq]; omega)) h2 rfl
/-- _law_due(e) -/
theorem ev_due {p pos : Pos} {e : Expr} {b : Array UInt8} (W : Wd (KK w) g0 mg mb) (O : Out g0 X h) (hr : A.depth + 10 < recursionLimit) (hh : A.handled = none) (hf : Ev prog w A h (eval (.Name (Str.ofString "_law_due") p) env) (isV (.ref aDue))) (he : Ev prog w A h (eval e env) (isY b)) (hz : b.size ≤ 300)
    (h2 : starEach [e] env = [(false, eval e env)]) : Ev prog w A h (eval (.Call (.Name (Str.ofString "_law_due") p) [e] [] pos) env) (isLI X (dueOf b)) :=
  ev_F (fa := aDue) (PL := fun vs h => ∃ v, vs = [v] ∧ isY b v h) hf W O.base (by kernel_rfl!) (ev_args1 he Mono.y h2) (fun vs h k ⟨v, e, z⟩ => e ▸ c_due W (O.keep k) hr hh z hz) h2 rfl
/-- _law_bits(e) -/
theorem ev_bits {p pos : Pos} {e : Expr} {b : Array UInt8} (W : Wd (KK w) g0 mg mb) (O : Out g0 X h) (hr : A.depth + 5 < recursionLimit) (hh : A.handled = none) (hf : Ev prog w A h (eval (.Name (Str.ofString "_law_bits") p) env) (isV (.ref aBits))) (he : Ev prog w A h (eval e env) (isY b)) (hz : b.size ≤ 300)
    (h2 : starEach [e] env = [(false, eval e env)]) : Ev prog w A h (eval (.Call (.Name (Str.ofString "_law_bits") p) [e] [] pos) env) (isLI X (bitsOf b)) :=
  ev_F (fa := aBits) (PL := fun vs h => ∃ v, vs = [v] ∧ isY b v h) hf W O.base (by kernel_rfl!) (ev_args1 he Mono.y h2) (fun vs h k ⟨v, e, z⟩ => e ▸ c_bits W (O.keep k) hr hh z (by omega)) h2 rfl
/-- ' '.join(e) -/
theorem ev_join {o e : Expr} {apos pos : Pos} {xs : List Str} {pl : Sem Bool} (xo : Ev prog w A h (eval o env) (isS sp)) (he : Ev prog w A h (eval e env) (isLS X xs)) (hz : (xs.map (·.length)).sum + xs.length ≤ 16777216)
    (hc : ∀ ov, callWith pos (.builtin "str.join") [ov] (backTo pos (starEach [e] env)) (backToKw pos (keywordEach [] env)) = callWith pos (.builtin "str.join") [ov] (backTo pos (starEach [e] env)) [])
    (hev : eval (.Call (.Attribute o (Str.ofString "join") apos) [e] [] pos) env = (do let ov ← eval o env; standAt apos.atName; let (f, first) ← holding [ov] (getMethod ov (Str.ofString "join") pl); callWith pos f first (backTo pos (starEach [e] env)) (backToKw pos (keywordEach [] env))))
    (hse : starEach [e] env = [(false, eval e env)]) : Ev prog w A h (eval (.Call (.Attribute o (Str.ofString "join") apos) [e] [] pos) env) (isS (Str.join sp xs)) :=
  (ev_methB (P₁ := isS sp) (T := "str") (PL := fun vs h => ∃ v, vs = [v] ∧ isLS X xs v h) xo Mono.s PySem.F.plainAttrs_str PySem.F.slot_str_join PySem.F.type_str_join (fun v h k z => by
      obtain ⟨t, rfl⟩ := z
      exact ⟨fun s _ => typeIs_str _ _ _, fun a e => by cases e⟩) (ev_args1 he Mono.ls hse)
    (fun v vs h k z ⟨v', e, z'⟩ => e ▸ call_joinL z z' (by rw [show sp.length = 1 by rw [sp_cps]; rfl, Nat.mul_one]; exact hz)) hc hev hse rfl).mono fun v h k z => by rw [join_eq] at z; exact z
/-- a method of the object -/
theorem getM_mn {name : Str} {pl : Sem Bool} {f : Addr} {ws : List Str} {v : Value} (W : Wd (KK w) g0 mg mb) (b : Keep g0 h) (z : isMn X ws v h) (hg : plainGet (KK w) aCls name = true) (hf : findIn (KK w) (.ref aCls) name = some (some (.ref f))) (ht : isFn (KK w) (.ref f) = true)
    (hn : name ∈ [Str.ofString "normalize_string", Str.ofString "expand_word", Str.ofString "expand", Str.ofString "check", Str.ofString "to_entropy", Str.ofString "to_mnemonic"]) :
    Ev prog w A h (getMethod v name pl) (fun fx _ => fx = (.ref f, [v])) := by
  obtain ⟨a, es, wl, t, e, ob, g1, g2, g3, g4, g5⟩ := z
  subst e
  exact getM_fn W b ob hg hf ht (g5 _ hn)
/-- made.check(e), where the words are good -/
theorem cx_checkCall {o e : Expr} {apos pos : Pos} {pl : Sem Bool} {ws parts : List Str} {B : Array UInt8} {cb : Nat → Bool} {idx : Nat → Nat} {x : Str} (W : Wd (KK w) g0 mg mb) (O : Out g0 X h) (hr : A.depth + 20 < recursionLimit) (hh : A.handled = none) (hbm : g0.BuiltinsAt mg 91) (hX91 : X 91) (tab : Tab X h)
    (xo : Ev prog w A h (eval o env) (isMn X ws)) (xe : Ev prog w A h (eval e env) (isS x)) (hx : x.length ≤ 10000) (hsp : Txt.split x sp = parts) (hN : ([12, 15, 18, 21, 24] : List Int).any (· == (parts.length : Int)) = true) (hws : ws.length ≤ 5000)
    (hi : ∀ j, j < parts.length → ws[idx j]? = some (parts.getD j (Str.ofString "")) ∧ ∀ m, m < idx j → ws[m]? ≠ some (parts.getD j (Str.ofString ""))) (hi2 : ∀ j, j < parts.length → idx j < 2 ^ 11)
    (hcb : ∀ j, j < parts.length → ∀ k, k < 11 → cb (j * 11 + k) = bt (idx j) (10 - k)) (hB : B.size * 8 + parts.length / 3 = parts.length * 11)
    (hbits : ∀ i (h : i < B.size), ∀ j, j < 8 → cb (i * 8 + j) = bt B[i].toNat (7 - j))
    (hck : ∀ i, i < parts.length / 3 → cb (B.size * 8 + i) = bt ((dig B).getD (i / 8) 0).toNat (7 - i % 8))
    (he : eval (.Call (.Attribute o (Str.ofString "check") apos) [e] [] pos) env = (do let ov ← eval o env; standAt apos.atName; let (f, first) ← holding [ov] (getMethod ov (Str.ofString "check") pl); callWith pos f first (backTo pos (starEach [e] env)) (backToKw pos (keywordEach [] env))))
    (hse : starEach [e] env = [(false, eval e env)]) : Cx prog w A (fun a => a = 91) h (eval (.Call (.Attribute o (Str.ofString "check") apos) [e] [] pos) env) (fun v h => isB true v h ∧ Tab X h) :=
  cx_method (P₁ := isMn X ws) (P₂ := isS x) (fa := 96) W O.base (by kernel_rfl!) xo (fun v h' k z => getM_mn W (O.base.trans k) z (by kernel_rfl!) (by kernel_rfl!) (by kernel_rfl!) (by simp)) Mono.mn (fun h' k => xe.base k) Mono.s
    (fun v u h' k z z' => c_check W (O.keep k) hr hh hbm hX91 (Tab.keeps tab k) z z' hx hsp hN hws hi hi2 hcb hB hbits hck) he hse
/-- made.to_entropy(e) -/
theorem evc_entCall {o e : Expr} {apos pos : Pos} {pl : Sem Bool} {ws parts : List Str} {B : Array UInt8} {cb : Nat → Bool} {idx : Nat → Nat} (W : Wd (KK w) g0 mg mb) (O : Out g0 X h) (hr : A.depth + 20 < recursionLimit) (hh : A.handled = none)
    (xo : Ev prog w A h (eval o env) (isMn X ws)) (xe : Ev prog w A h (eval e env) P₁) (m₁ : Mono P₁) (hp : ∀ v h', Keep h h' → P₁ v h' → (∃ x, isS x v h' ∧ x.length ≤ 10000 ∧ Txt.split x sp = parts) ∨ isLS X parts v h') (hN : ([12, 15, 18, 21, 24] : List Int).any (· == (parts.length : Int)) = true) (hws : ws.length ≤ 5000)
    (hi : ∀ j, j < parts.length → ws[idx j]? = some (parts.getD j (Str.ofString "")) ∧ ∀ m, m < idx j → ws[m]? ≠ some (parts.getD j (Str.ofString "")))
    (hcb : ∀ j, j < parts.length → ∀ k, k < 11 → cb (j * 11 + k) = bt (idx j) (10 - k)) (hB : B.size * 8 + parts.length / 3 = parts.length * 11)
    (hbits : ∀ i (h : i < B.size), ∀ j, j < 8 → cb (i * 8 + j) = bt B[i].toNat (7 - j))
    (hck : ∀ i, i < parts.length / 3 → cb (B.size * 8 + i) = bt ((dig B).getD (i / 8) 0).toNat (7 - i % 8))
    (he : eval (.Call (.Attribute o (Str.ofString "to_entropy") apos) [e] [] pos) env = (do let ov ← eval o env; standAt apos.atName; let (f, first) ← holding [ov] (getMethod ov (Str.ofString "to_entropy") pl); callWith pos f first (backTo pos (starEach [e] env)) (backToKw pos (keywordEach [] env))))
    (hse : starEach [e] env = [(false, eval e env)]) : EvC prog w A h (eval (.Call (.Attribute o (Str.ofString "to_entropy") apos) [e] [] pos) env) (fun v h' => ∃ L, v = .ref L ∧ h.get? L = none ∧ IsBA h' L B) :=
  evc_attrCall (PM := fun fx h' => ∃ v, fx = (.ref 82, [v]) ∧ isMn X ws v h') (P₁ := isMn X ws) xo (fun v h' k z => (getM_mn W (O.base.trans k) z (by kernel_rfl!) (by kernel_rfl!) (by kernel_rfl!) (by simp)).mono fun fx h'' k' e => ⟨v, e, Mono.mn _ _ _ k' z⟩)
    (fun fx h' k ⟨v, e, z⟩ => by
      subst e
      refine cwC_K (PL := fun vs h => ∃ u, vs = [u] ∧ P₁ u h) W (O.base.trans k) (by kernel_rfl!) ((ev_args1 xe m₁ hse).base k) (fun vs h'' k' ⟨u, e, zu⟩ => ?_) hse rfl rfl
      subst e
      exact (c_entropy W (O.keep (k.trans k')) (by omega) hh (Mono.mn _ _ _ k' z) (hp _ _ (k.trans k') zu) hN hws hi hcb hB hbits hck).mono fun v h3 k3 ⟨L, e, n, b⟩ => ⟨L, e, none_of_keep (k.trans k') n, b⟩) he
end
end Mine

set_option maxRecDepth 100000
set_option linter.unusedVariables false
set_option Elab.async false
namespace Mine
open PySem PySem.W PySem.Calls PyProof.Rows

/-- the word of a number -/
def wtx (n : Nat) : Str := Str.ofString "w" ++ Str.ofString (toString (n : Int))
theorem wtx_cps (n : Nat) : (wtx n).cps.toList = 119 :: (Nat.toDigits 10 n).map Char.toNat := by
  have e : (Str.ofString "w" : Str) = ⟨#[119]⟩ := by decide +kernel
  unfold wtx
  rw [e, show (n : Int) = Int.ofNat n from rfl, text_ofNat]
  show ((#[119] : Array Nat) ++ ((Nat.toDigits 10 n).map Char.toNat).toArray).toList = _
  simp
theorem wtx_inj {a b : Nat} (h : wtx a = wtx b) : a = b := by
  have := congrArg (fun x : Str => x.cps.toList) h
  simp only [wtx_cps, List.cons.injEq, true_and] at this
  rw [← KIN.val_back a, ← KIN.val_back b, this]
theorem wtx_eq (a b : Nat) : (wtx a == wtx b) = (a == b) := by
  rw [Bool.eq_iff_iff, beq_iff_eq, beq_iff_eq]
  exact ⟨wtx_inj, fun e => by rw [e]⟩
theorem dash_cps : (Str.ofString "-").cps.toList = [45] := by decide +kernel
theorem wtx_dash (n : Nat) : Str.ofString "-" ≠ wtx n := fun h => by
  have := congrArg (fun x : Str => x.cps.toList) h
  simp only [wtx_cps, dash_cps, List.cons.injEq] at this
  omega
theorem wtx_blank (n : Nat) : 32 ∉ (wtx n).cps.toList := fun h => by
  rw [wtx_cps] at h
  rcases List.mem_cons.mp h with e | h
  · omega
  · obtain ⟨ch, hch, e⟩ := List.mem_map.mp h
    have r := digit_range (Nat.isDigit_of_mem_toDigits (by decide) (by decide) hch)
    omega
theorem wtx_len {n : Nat} (h : n < 2048) : (wtx n).length ≤ 5 := by
  have h1 := digits10_le (k := 4) (n := n) (by decide) (by omega)
  have : (wtx n).cps.toList.length ≤ 5 := by rw [wtx_cps, List.length_cons, List.length_map]; omega
  rwa [Array.length_toList] at this
/-- the list of words, the numbers of l written into it -/
def nmsOf (l : List Nat) : List Str := (List.range 2048).map fun m => if m ∈ l then wtx m else Str.ofString "-"
theorem nms_len (l : List Nat) : (nmsOf l).length = 2048 := by simp [nmsOf]
theorem nms_nil : nmsOf [] = List.replicate 2048 (Str.ofString "-") := by
  apply List.ext_getElem (by rw [nms_len, List.length_replicate])
  intro i h1 h2
  rw [List.getElem_replicate]
  simp only [nmsOf, List.getElem_map]
  exact if_neg List.not_mem_nil
theorem nms_set (l : List Nat) (n : Nat) : (nmsOf l).set n (wtx n) = nmsOf (l ++ [n]) := by
  apply List.ext_getElem (by simp [nmsOf])
  intro i h1 h2
  rw [List.getElem_set]
  by_cases e : n = i
  · subst e
    simp [nmsOf]
  · rw [if_neg e]
    simp only [nmsOf, List.getElem_map, List.getElem_range, List.mem_append, List.mem_singleton]
    have : (i ∈ l ∨ i = n) ↔ i ∈ l := ⟨fun h => h.resolve_right fun q => e q.symm, .inl⟩
    simp only [this]
theorem nms_get {l : List Nat} {n : Nat} (h : n < 2048) (hm : n ∈ l) : (nmsOf l)[n]? = some (wtx n) := by
  unfold nmsOf
  rw [List.getElem?_map, List.getElem?_range h, Option.map_some, if_pos hm]
theorem nms_first {l : List Nat} {n m : Nat} (hmn : m < n) : (nmsOf l)[m]? ≠ some (wtx n) := fun e => by
  unfold nmsOf at e
  rw [List.getElem?_map] at e
  by_cases h : m < 2048
  · rw [List.getElem?_range h, Option.map_some, Option.some.injEq] at e
    by_cases hm : m ∈ l
    · rw [if_pos hm] at e
      have := wtx_inj e; omega
    · rw [if_neg hm] at e
      exact wtx_dash n e
  · rw [List.getElem?_eq_none (by simp; omega)] at e; cases e
theorem nms_short {l : List Nat} {y : Str} (h : y ∈ nmsOf l) : y.length ≤ 100 := by
  unfold nmsOf at h
  obtain ⟨m, hm, e⟩ := List.mem_map.mp h
  have hm' := List.mem_range.mp hm
  by_cases q : m ∈ l
  · rw [if_pos q] at e
    rw [← e]
    exact Nat.le_trans (wtx_len hm') (by decide)
  · rw [if_neg q] at e
    rw [← e]
    decide +kernel
theorem cut_bits (B : Array UInt8) {k : Nat} (hk : k * 11 + 11 ≤ B.size * 8) : cutL (bitsOf B) (some (11 * (k : Int))) (some (11 * (k : Int) + 11)) = (List.range 11).map fun i => b2i (cbB B (k * 11 + i)) := by
  rw [bitsOf_eq, show (11 * (k : Int)) = ((k * 11 : Nat) : Int) by omega, show (((k * 11 : Nat) : Int) + 11) = ((k * 11 + 11 : Nat) : Int) by omega]
  rw [cutL_mid _ _ _ (by omega) (by simpa using hk), Nat.add_sub_cancel_left]
  apply List.ext_getElem (by simp; omega)
  intro i h1 h2
  have hi : i < 11 := by simpa using h2
  simp only [List.getElem_take, List.getElem_drop, List.getElem_map, List.getElem_range]
  unfold cbB
  rw [if_pos (by omega)]
theorem b2i_inj {a b : Bool} (h : b2i a = b2i b) : a = b := by cases a <;> cases b <;> simp_all [b2i]
theorem bits_iff (D T : Array UInt8) (k : Nat) : decide (((List.range 11).map fun i => b2i (cbB D (k * 11 + i))) = (List.range 11).map fun i => b2i (cbB T (k * 11 + i))) = (idxB D k == idxB T k) := by
  rw [Bool.eq_iff_iff, beq_iff_eq, decide_eq_true_iff]
  constructor
  · intro h
    unfold idxB
    congr 1
    refine List.map_congr_left fun i hi => ?_
    have hi' := List.mem_range.mp hi
    have := congrArg (fun l : List Int => l[i]?) h
    simp only [List.getElem?_map, List.getElem?_range hi', Option.map_some, Option.some.injEq] at this
    rw [b2i_inj this]
  · intro h
    refine List.map_congr_left fun i hi => ?_
    have hi' := List.mem_range.mp hi
    rw [idx_bits D k i hi', idx_bits T k i hi', h]
end Mine

set_option maxRecDepth 100000
set_option linter.unusedVariables false
set_option Elab.async false
namespace Mine
open PySem PySem.W PySem.Calls PyProof.Rows
/-- names put together -/
local macro_rules | `(tactic| walk_at "m_mem") => `(tactic| first | with_reducible exact List.mem_cons_self | (with_reducible refine List.mem_cons_of_mem _ ?_; walk_at "m_mem"))
local macro_rules | `(tactic| walk_at "m_fre") => `(tactic| first | assumption | exact Frm.e (by assumption))
local macro_rules | `(tactic| walk_at "m_var") => `(tactic| exact Fre.var (by walk_at "m_fre") (by walk_at "m_mem"))
local macro_rules | `(tactic| walk_at "m_env") => `(tactic| first | (subst_vars; kernel_rfl!))
local macro_rules | `(tactic| walk_at "m_glob") => `(tactic| exact Fre.glob (by walk_at "m_fre") (by assumption) (by kernel_rfl!) (by walk_at "m_env") (by kernel_rfl!))
local macro_rules | `(tactic| walk_at "m_blt") => `(tactic| exact Fre.blti (by walk_at "m_fre") (by assumption) (by kernel_rfl!) (by kernel_rfl!) (by decide) (by walk_at "m_env") (by kernel_rfl!))
local macro_rules | `(tactic| walk_at "m_loc") => `(tactic| exact Or.inl (by walk_at "m_env"))
local macro_rules | `(tactic| walk_at "m_cel") => `(tactic| exact Or.inr ⟨by walk_at "m_env", by walk_at "m_env"⟩)
local macro_rules | `(tactic| walk_at "m_hr") => `(tactic| first | with_reducible exact hr_nil | (with_reducible refine hr_cons ?_ ?_; first | exact Or.inl rfl | exact Or.inr ⟨by walk_at "m_mem", by dsimp only; decide +kernel⟩); walk_at "m_hr")


/-- the words of some octets -/
def wordsOf (B : Array UInt8) (N : Nat) : List Str := (List.range N).map fun j => wtx (idxB B j)
theorem words_len (B : Array UInt8) (N : Nat) : (wordsOf B N).length = N := by simp [wordsOf]
theorem words_get (B : Array UInt8) {N j : Nat} (h : j < N) : (wordsOf B N).getD j (Str.ofString "") = wtx (idxB B j) := by
  unfold wordsOf
  rw [List.getD_eq_getElem?_getD, List.getElem?_map, List.getElem?_range h]
  rfl
theorem words_hi {l : List Nat} {B : Array UInt8} {N : Nat} (hm : ∀ j, j < N → idxB B j ∈ l) : ∀ j, j < (wordsOf B N).length → (nmsOf l)[idxB B j]? = some ((wordsOf B N).getD j (Str.ofString "")) ∧ ∀ m, m < idxB B j → (nmsOf l)[m]? ≠ some ((wordsOf B N).getD j (Str.ofString "")) := fun j hj => by
  rw [words_len] at hj
  rw [words_get B hj]
  exact ⟨nms_get (idx_lt B j) (hm j hj), fun m h => nms_first h⟩
theorem words_blank (B : Array UInt8) (N : Nat) : ∀ x ∈ wordsOf B N, 32 ∉ x.cps.toList := fun x hx => by
  obtain ⟨j, _, rfl⟩ := List.mem_map.mp hx
  exact wtx_blank _
theorem words_short (B : Array UInt8) (N : Nat) : ∀ x ∈ wordsOf B N, x.length ≤ 5 := fun x hx => by
  obtain ⟨j, _, rfl⟩ := List.mem_map.mp hx
  exact wtx_len (idx_lt B j)
theorem words_split {B : Array UInt8} {N : Nat} (h : 1 ≤ N) : Txt.split (Str.join sp (wordsOf B N)) sp = wordsOf B N :=
  split_join (fun e => by
    have := words_len B N
    rw [e] at this; simp at this; omega) (words_blank B N)
theorem join_len {xs : List Str} {b : Nat} (h : ∀ x ∈ xs, x.length ≤ b) : (Str.join sp xs).length ≤ xs.length * (b + 1) := by
  induction xs with
  | nil => rw [join_nil]; exact Nat.zero_le _
  | cons a r ih =>
    have ha := h a List.mem_cons_self
    have hr := ih fun x hx => h x (List.mem_cons_of_mem _ hx)
    cases r with
    | nil => rw [join_one, List.length_cons, List.length_nil]; omega
    | cons b' r' =>
      rw [join_cons_cons, List.length_cons, Nat.succ_mul]
      have e : (a ++ sp ++ Str.join sp (b' :: r')).length = a.length + 1 + (Str.join sp (b' :: r')).length := by
        show (a.cps ++ sp.cps ++ (Str.join sp (b' :: r')).cps).size = a.cps.size + 1 + (Str.join sp (b' :: r')).cps.size
        rw [sp_cps]; simp
      rw [e]; omega
theorem byteArr_back {ns : List Int} (hr : ∀ n ∈ ns, 0 ≤ n ∧ n < 256) : (byteArr ns).toList.map (fun c => ((c.toNat : Nat) : Int)) = ns := by
  unfold byteArr
  simp only [List.map_map]
  conv => rhs; rw [← List.map_id ns]
  refine List.map_congr_left fun n hn => ?_
  obtain ⟨h1, h2⟩ := hr n hn
  show ((n.toNat.toUInt8.toNat : Nat) : Int) = n
  rw [UInt8.toNat_ofNat']
  omega

section
variable {prog : Program} {w : World} {A : Around} {g0 h0 h h' : Heap} {mg mb : Str → Option Value} {X Y : Addr → Prop} {env : Env} {P' : Flow → Heap → Prop} {P₁ : PV}
/-- one value, n times over, as a plain list -/
theorem mul_oneP {d : S} {v : Value} {n : Nat} {u : Tok} (p : isP1 d v h) (hn : n ≤ 5000) :
    Ev prog w A h (binaryOp .Mult v (.int n u)) (fun v h' => ∃ L, v = .ref L ∧ h.get? L = none ∧ (∃ o, h'.get? L = some o) ∧ MP L (List.replicate n d) h') := fun s Q E k q => by
  obtain ⟨l, y, rfl, ⟨m, ho⟩, hd⟩ := p
  have hl := k _ _ ho
  have hs1 : (n : Int) < 2 ^ 63 := by omega
  have hs2 : (#[y] : Array Value).size * ((n : Int)).toNat ≤ 2 ^ 24 := by
    rw [Int.toNat_natCast, show (#[y] : Array Value).size = 1 from rfl, Nat.one_mul]
    omega
  refine mul_its hl (by omega) hs1 hs2 ?_
  rw [its_one]
  refine q _ _ s.toks keep_push ⟨_, rfl, ?_, ⟨_, Heap.get?_push_size _ rfl⟩, (List.replicate n y).toArray, ⟨0, Heap.get?_push_size _ rfl⟩, paired_replicate hd n⟩
  exact none_of_keep k (Heap.get?_none_of_le (Nat.le_refl _))
/-- made.to_mnemonic(e) -/
theorem ev_mnemCall {o e : Expr} {apos pos : Pos} {pl : Sem Bool} {ws : List Str} {B : Array UInt8} {N : Nat} (W : Wd (KK w) g0 mg mb) (O : Out g0 X h) (hr : A.depth + 20 < recursionLimit) (hh : A.handled = none)
    (xo : Ev prog w A h (eval o env) (isMn X ws)) (xe : Ev prog w A h (eval e env) (isY B)) (hB : ([16, 20, 24, 28, 32] : List Int).any (· == (B.size : Int)) = true) (hN : B.size * 8 + B.size / 4 = N * 11) (hws : ws.length = 2048) (hlen : ∀ y ∈ ws, y.length ≤ 100)
    (he : eval (.Call (.Attribute o (Str.ofString "to_mnemonic") apos) [e] [] pos) env = (do let ov ← eval o env; standAt apos.atName; let (f, first) ← holding [ov] (getMethod ov (Str.ofString "to_mnemonic") pl); callWith pos f first (backTo pos (starEach [e] env)) (backToKw pos (keywordEach [] env))))
    (hse : starEach [e] env = [(false, eval e env)]) : Ev prog w A h (eval (.Call (.Attribute o (Str.ofString "to_mnemonic") apos) [e] [] pos) env) (isS (Str.join sp ((List.range N).map fun j => ws.getD (idxB B j) (Str.ofString "")))) :=
  ev_attrCall (PM := fun fx h' => ∃ v, fx = (.ref 89, [v]) ∧ isMn X ws v h') (P₁ := isMn X ws) xo (fun v h' k z => (getM_mn W (O.base.trans k) z (by kernel_rfl!) (by kernel_rfl!) (by kernel_rfl!) (by simp)).mono fun fx h'' k' e => ⟨v, e, Mono.mn _ _ _ k' z⟩)
    (fun fx h' k ⟨v, e, z⟩ => by
      subst e
      refine cw_K (PL := fun vs h => ∃ u, vs = [u] ∧ isY B u h) W (O.base.trans k) (by kernel_rfl!) ((ev_args1 xe Mono.y hse).base k) (fun vs h'' k' ⟨u, e, zu⟩ => ?_) hse rfl rfl
      subst e
      exact c_mnem (cb := cbB B) W (O.keep (k.trans k')) hr hh (Mono.mn _ _ _ k' z) zu hB hN (by omega) (fun j _ => by rw [hws]; exact idx_lt B j) (fun j _ => idx_lt B j) hlen (fun j _ k hk => idx_bits B j k hk) (cbB_bits B) (fun i _ => cbB_ck B i)) he
end
end Mine

set_option maxRecDepth 100000
set_option linter.unusedVariables false
set_option Elab.async false
namespace Mine
open PySem PySem.W PySem.Calls PyProof.Rows
/-- names put together -/
local macro_rules | `(tactic| walk_at "m_mem") => `(tactic| first | with_reducible exact List.mem_cons_self | (with_reducible refine List.mem_cons_of_mem _ ?_; walk_at "m_mem"))
local macro_rules | `(tactic| walk_at "m_fre") => `(tactic| first | assumption | exact Frm.e (by assumption))
local macro_rules | `(tactic| walk_at "m_var") => `(tactic| exact Fre.var (by walk_at "m_fre") (by walk_at "m_mem"))
local macro_rules | `(tactic| walk_at "m_env") => `(tactic| first | (subst_vars; kernel_rfl!))
local macro_rules | `(tactic| walk_at "m_glob") => `(tactic| exact Fre.glob (by walk_at "m_fre") (by assumption) (by kernel_rfl!) (by walk_at "m_env") (by kernel_rfl!))
local macro_rules | `(tactic| walk_at "m_blt") => `(tactic| exact Fre.blti (by walk_at "m_fre") (by assumption) (by kernel_rfl!) (by kernel_rfl!) (by decide) (by walk_at "m_env") (by kernel_rfl!))
local macro_rules | `(tactic| walk_at "m_loc") => `(tactic| exact Or.inl (by walk_at "m_env"))
local macro_rules | `(tactic| walk_at "m_cel") => `(tactic| exact Or.inr ⟨by walk_at "m_env", by walk_at "m_env"⟩)
local macro_rules | `(tactic| walk_at "m_hr") => `(tactic| first | with_reducible exact hr_nil | (with_reducible refine hr_cons ?_ ?_; first | exact Or.inl rfl | exact Or.inr ⟨by walk_at "m_mem", by dsimp only; decide +kernel⟩); walk_at "m_hr")


/-- the octets of the script -/
def datL (s : List Int) (n : Nat) : List Int := (List.range n).map fun (k : Nat) => num s (1 + (k : Int)) * 37 / 3 % 256
/-- one of them turned -/
def trnL (s : List Int) (n at_ : Nat) : List Int := (datL s n).take at_ ++ [((datL s n).getD at_ 0 + 1 + num s 41 % 255) % 256] ++ (datL s n).drop (at_ + 1)
theorem dat_len (s : List Int) (n : Nat) : (datL s n).length = n := by simp [datL]
theorem dat_range (s : List Int) (n : Nat) : ∀ x ∈ datL s n, 0 ≤ x ∧ x < 256 := fun x hx => by
  obtain ⟨k, _, rfl⟩ := List.mem_map.mp hx
  exact ⟨Int.emod_nonneg _ (by decide), Int.emod_lt_of_pos _ (by decide)⟩
theorem trn_len (s : List Int) {n at_ : Nat} (h : at_ < n) : (trnL s n at_).length = n := by
  unfold trnL
  simp only [List.length_append, List.length_take, List.length_drop, dat_len, List.length_singleton]
  omega
theorem trn_range (s : List Int) (n at_ : Nat) : ∀ x ∈ trnL s n at_, 0 ≤ x ∧ x < 256 := fun x hx => by
  unfold trnL at hx
  rcases List.mem_append.mp hx with hx | hx
  · rcases List.mem_append.mp hx with hx | hx
    · exact dat_range s n x (List.mem_of_mem_take hx)
    · rw [List.mem_singleton.mp hx]
      exact ⟨Int.emod_nonneg _ (by decide), Int.emod_lt_of_pos _ (by decide)⟩
  · exact dat_range s n x (List.mem_of_mem_drop hx)

set_option maxHeartbeats 64000000 in
theorem law_walk (w : World) (g0 h0 : Heap) (mg mb : Str → Option Value) (s : List Int) (v : Value) (W : Wd (KK w) g0 mg mb) (O : Out g0 (fun a => a = 91) h0) (hbm : g0.BuiltinsAt mg 91) (tab : Tab (fun a => a = 91) h0) (p : isLI (fun a => a = 91) s v h0) (hs : s.length ≤ 63) :
    CxC theRow.prog w callerA (fun a => a = 91) h0 (call (.ref aLaw) [v]) (fun v h => isB true v h ∧ Tab (fun a => a = 91) h) := by
  obtain ⟨n, hn⟩ : ∃ n : Nat, (n : Int) = 16 + 4 * (num s 0 % 5) := ⟨(16 + 4 * (num s 0 % 5)).toNat, by
    have := Int.emod_nonneg (num s 0) (show (5 : Int) ≠ 0 by decide); omega⟩
  have hn5 : 16 ≤ n ∧ n ≤ 32 ∧ n / 4 * 4 = n := by
    have h1 := Int.emod_nonneg (num s 0) (show (5 : Int) ≠ 0 by decide)
    have h2 := Int.emod_lt_of_pos (num s 0) (show (0 : Int) < 5 by decide)
    omega
  obtain ⟨hn1, hn2, hn3⟩ := hn5
  obtain ⟨at_, hat⟩ : ∃ at_ : Nat, (at_ : Int) = num s 40 % (n : Int) := ⟨(num s 40 % (n : Int)).toNat, by
    have := Int.emod_nonneg (num s 40) (show (n : Int) ≠ 0 by omega); omega⟩
  have hatn : at_ < n := by
    have := Int.emod_lt_of_pos (num s 40) (show (0 : Int) < n by omega); omega
  obtain ⟨N, hN⟩ : ∃ N, N = n / 4 * 3 := ⟨_, rfl⟩
  have hd1 := dat_len s n
  have hd2 := dat_range s n
  have ht1 := trn_len s hatn
  have ht2 := trn_range s n at_
  have hD : (byteArr (datL s n)).size = n := by rw [byteArr_size, hd1]
  have hT : (byteArr (trnL s n at_)).size = n := by rw [byteArr_size, ht1]
  have hbD := byteArr_back hd2
  have hbT := byteArr_back ht2
  have hNn : n * 8 + n / 4 = N * 11 := by omega
  have dueD := dueOf_eq (byteArr (datL s n)) (N := N) (by omega) (by rw [hD]; exact hNn)
  have dueT := dueOf_eq (byteArr (trnL s n at_)) (N := N) (by omega) (by rw [hT]; exact hNn)
  refine cxc_callK (Z := fun a => a = 91) W O (f := aLaw) (args := ⟨[v], []⟩) (binds := [(Str.ofString "script", v)]) (ρ := fun X' => [(Str.ofString "script", isLI X' s)])
    rfl rfl (by kernel_rfl!) (by decide) (fun _ _ => BindsTo.of_eq rfl) ?_ ?_
  · intro X' hX hF
    exact hr_cons ⟨Stable.li, v, by simp, fun h k => isL.keep (isL.widen p hF) k.b⟩ hr_nil
  · intro L0 env X' h₁ he k hX fresh own F
    have hh : (callerA.deeper env).handled = none := rfl
    have hr : (callerA.deeper env).depth + 100 < recursionLimit := by show callerA.depth + 1 + 100 < _; decide
    have hu : (callerA.deeper env).units + 64 < cLine := by show callerA.units + 3 + 64 < _; decide
    have hX91 : X' 91 := hX _ rfl
    have tab₁ : Tab X' h₁ := Tab.keeps (tab.widen fresh) k
    have hOwn91 : ¬ Own env 91 := fun z => by
      obtain ⟨o, e⟩ := tab.live
      rw [own _ z] at e; cases e
    have hsub : ∀ a, Own env a → X' a := F.sub
    have hZl : ¬ (env.locals = 91) := fun e => hOwn91 (.inl e.symm)
    have hZc : ∀ n c, env.cells.lookup n = some c → ¬ (c = 91) := fun n c z e => hOwn91 (.inr ⟨n, e ▸ z⟩)
    generalize hdl : datL s n = dl at *
    generalize htl : trnL s n at_ = tl at *
    obtain ⟨ll, hll⟩ : ∃ ll, ll = (List.range N).map (idxB (byteArr dl)) ++ (List.range N).map (idxB (byteArr tl)) := ⟨_, rfl⟩
    refine exc_split 13 (J := fun h' => Tab X' h' ∧ Frm g0 env X' (Own env) [(Str.ofString "script", isLI X' s), (Str.ofString "data", isLI X' dl), (Str.ofString "turned", isLI X' tl), (Str.ofString "made", isMn X' (nmsOf ll)), (Str.ofString "one", isLS X' (wordsOf (byteArr dl) N)), (Str.ofString "two", isLS X' (wordsOf (byteArr tl) N))] h') ?pre ?post
    case pre =>
      refine Ex.wide (Y := Own env) (Ex.mono (P := fun fl h' => fl = .next ∧ Frm g0 env X' (Own env) [(Str.ofString "script", isLI X' s), (Str.ofString "data", isLI X' dl), (Str.ofString "turned", isLI X' tl), (Str.ofString "made", isMn X' (nmsOf ll)), (Str.ofString "one", isLS X' (wordsOf (byteArr dl) N)), (Str.ofString "two", isLS X' (wordsOf (byteArr tl) N))] h') ?_ (fun fl h' kk z => ⟨z.1, tab₁.keep kk hsub hOwn91, z.2⟩)) (fun a z => .inl z)
      refine ex_assign F (P := isI (n : Int)) ?q1 Stable.i [(Str.ofString "script", isLI X' s), (Str.ofString "size", isI (n : Int))] (fun h₂ k₂ F₂ => ?_) (by walk_at "m_loc") rfl ?q2 (by subst_vars; rfl)
      case q2 => exact hr_cons (.inr ⟨by walk_at "m_mem", by dsimp only; decide +kernel⟩) (hr_cons (.inl rfl) hr_nil)
      case q1 =>
        rw [hn]
        refine ev_add ev_int (ev_mul ev_int (ev_mod (ev_num W F.out (by omega) ?q3 ?q4 ev_int hs rfl rfl rfl) ev_int (by decide)) (IntMulOk.of_left (by decide +kernel)))
        case q3 => walk_at "m_glob"
        case q4 => walk_at "m_var"
      refine ex_assign_comp F₂ (ds := dl.map S.int) ?ce (by kernel_rfl!) (clOf_ok (by walk_at "m_env")) [(Str.ofString "script", isLI X' s), (Str.ofString "size", isI (n : Int)), (Str.ofString "data", isLI X' dl)] (fun h₃ k₃ F₃ => ?_) (by walk_at "m_loc") rfl ?q5 (by subst_vars; rfl) (fun _ => rfl) (fun a z => z)
      case q5 => exact hr_cons (.inr ⟨by walk_at "m_mem", by dsimp only; decide +kernel⟩) (hr_cons (.inr ⟨by walk_at "m_mem", by dsimp only; decide +kernel⟩) (hr_cons (.inl rfl) hr_nil))
      case ce =>
        rw [show dl.map S.int = (List.range n).map fun (k : Nat) => S.int (num s (1 + (k : Int)) * 37 / 3 % 256) by rw [← hdl, datL, List.map_map]; rfl]
        refine compev0 (Z := X') (item := fun k => [(Str.ofString "k", .int (k : Int))]) F₂.e (fun (k : Nat) => S.int (num s (1 + (k : Int)) * 37 / 3 % 256)) (fun k => [(Str.ofString "k", isI (k : Int)), (Str.ofString "script", isLI X' s)])
          (evit_range hh (by omega) ?rg ?len rfl) (by rw [sizeLine_eq]; omega) (by kernel_rfl!) (clOf_ok (by walk_at "m_env")) rfl ?hr ?el
        case rg => walk_at "m_blt"
        case len => walk_at "m_var"
        case hr => exact fun j => hr_cons (.inl ⟨_, List.mem_cons_self, rfl, by kernel_rfl!, by kernel_rfl!⟩) (hr_cons (.inr ⟨by walk_at "m_mem", by kernel_rfl!, by walk_at "m_env"⟩) hr_nil)
        case el =>
          rintro j envC h hj ⟨C, hC⟩ kk F'
          refine ev_mod (ev_div (ev_mul (ev_num W (F₂.out.keep kk) (by omega) ?q6 ?q7 (ev_add ev_int ?q8) hs rfl rfl rfl) ev_int (IntMulOk.of_right (by decide +kernel))) ev_int (by decide) (by decide)) ev_int (by decide)
          case q6 => walk_at "m_glob"
          case q7 => walk_at "m_var"
          case q8 => walk_at "m_var"
      refine ex_assign F₃ (P := isI (at_ : Int)) ?q1 Stable.i [(Str.ofString "script", isLI X' s), (Str.ofString "size", isI (n : Int)), (Str.ofString "data", isLI X' dl), (Str.ofString "at", isI (at_ : Int))] (fun h₄ k₄ F₄ => ?_) (by walk_at "m_loc") rfl ?q2 (by subst_vars; rfl)
      case q2 => exact hr_cons (.inr ⟨by walk_at "m_mem", by dsimp only; decide +kernel⟩) (hr_cons (.inr ⟨by walk_at "m_mem", by dsimp only; decide +kernel⟩) (hr_cons (.inr ⟨by walk_at "m_mem", by dsimp only; decide +kernel⟩) (hr_cons (.inl rfl) hr_nil)))
      case q1 =>
        rw [hat]
        refine ev_mod (ev_num W F₃.out (by omega) ?q3 ?q4 ev_int hs rfl rfl rfl) ?q9 (by omega)
        case q3 => walk_at "m_glob"
        case q4 => walk_at "m_var"
        case q9 => walk_at "m_var"
      refine ex_assign F₄ (P := isLI X' tl) ?q1 Stable.li [(Str.ofString "script", isLI X' s), (Str.ofString "size", isI (n : Int)), (Str.ofString "data", isLI X' dl), (Str.ofString "turned", isLI X' tl)] (fun h₅ k₅ F₅ => ?_) (by walk_at "m_loc") rfl ?q2 (by subst_vars; rfl)
      case q2 => exact hr_cons (.inr ⟨by walk_at "m_mem", by dsimp only; decide +kernel⟩) (hr_cons (.inr ⟨by walk_at "m_mem", by dsimp only; decide +kernel⟩) (hr_cons (.inr ⟨by walk_at "m_mem", by dsimp only; decide +kernel⟩) (hr_cons (.inl rfl) hr_nil)))
      case q1 =>
        have e : tl.map S.int = (cutL (dl.map S.int) none (some (at_ : Int)) ++ [S.int ((dl.getD at_ 0 + 1 + num s 41 % 255) % 256)]) ++ cutL (dl.map S.int) (some ((at_ : Int) + 1)) none := by
          rw [← htl, trnL, hdl, cutL_take, show (at_ : Int) + 1 = ((at_ + 1 : Nat) : Int) by omega, cutL_drop, List.map_append, List.map_append, List.map_take, List.map_drop]
          rfl
        have hml : (dl.map S.int).length = n := by rw [List.length_map, hd1]
        have l1 : (cutL (dl.map S.int) none (some (at_ : Int))).length ≤ n := by rw [cutL_take, List.length_take, hml]; omega
        have l2 : (cutL (dl.map S.int) (some ((at_ : Int) + 1)) none).length ≤ n := by rw [show (at_ : Int) + 1 = ((at_ + 1 : Nat) : Int) by omega, cutL_drop, List.length_drop, hml]; omega
        show Ev _ _ _ _ _ (isL X' (tl.map S.int))
        rw [e]
        refine ev_addL (ev_addL (ev_cut_list ?w1 (ev_slice ev_part0 (ev_part1 ?w2)) F₄.live (by rw [hml, sizeLine_eq]; omega) fun _ _ => ⟨_, rfl⟩) (ev_list (evpS (ev_mod (ev_add (ev_add (ev_item_list (X := X') (ds := dl.map S.int) (i := (at_ : Int)) (d := .int (dl.getD at_ 0)) ?w3 ?w4 (by omega) (by omega) ?w5 (fun _ _ => rfl)) ev_int) (ev_mod (ev_num W F₄.out (by omega) ?w6 ?w7 ev_int hs rfl rfl rfl) ev_int (by decide))) ev_int (by decide)) evp0 rfl) F₄.live (by rw [sizeLine_eq, List.length_singleton]; decide)) F₄.live ?w8)
          (ev_cut_list ?w9 (ev_slice (ev_part1 (ev_add ?w10 ev_int)) ev_part0) F₄.live (by rw [hml, sizeLine_eq]; omega) fun _ _ => ⟨_, rfl⟩) F₄.live ?w11
        case w1 => walk_at "m_var"
        case w2 => walk_at "m_var"
        case w3 => walk_at "m_var"
        case w4 => walk_at "m_var"
        case w5 =>
          have : at_ < dl.length := by rw [hd1]; exact hatn
          simp [this]
        case w6 => walk_at "m_glob"
        case w7 => walk_at "m_var"
        case w8 => rw [sizeLine_eq, List.length_singleton]; omega
        case w9 => walk_at "m_var"
        case w10 => walk_at "m_var"
        case w11 => rw [sizeLine_eq, List.length_append, List.length_singleton]; omega
      generalize hDD : byteArr dl = D at *
      generalize hTT : byteArr tl = T at *
      have llen : ll.length = N + N := by rw [hll]; simp
      have hllt : ∀ x ∈ ll, x < 2048 := fun x hx => by
        rw [hll] at hx
        rcases List.mem_append.mp hx with hx | hx
        · obtain ⟨j, _, rfl⟩ := List.mem_map.mp hx; exact idx_lt _ _
        · obtain ⟨j, _, rfl⟩ := List.mem_map.mp hx; exact idx_lt _ _
      refine ex_tuple2 hh F₅ (P₁ := isLI X' ((List.range N).map fun j => (idxB D j : Int))) (P₂ := isLI X' ((List.range N).map fun j => (idxB T j : Int))) ?x1 ?x2 Stable.li Stable.li
        [(Str.ofString "script", isLI X' s), (Str.ofString "size", isI (n : Int)), (Str.ofString "data", isLI X' dl), (Str.ofString "turned", isLI X' tl), (Str.ofString "other", isLI X' ((List.range N).map fun j => (idxB T j : Int)))]
        [(Str.ofString "script", isLI X' s), (Str.ofString "size", isI (n : Int)), (Str.ofString "data", isLI X' dl), (Str.ofString "turned", isLI X' tl), (Str.ofString "due", isLI X' ((List.range N).map fun j => (idxB D j : Int))), (Str.ofString "other", isLI X' ((List.range N).map fun j => (idxB T j : Int)))]
        (fun h₆ k₆ F₆ => ?_) (by walk_at "m_loc") (by walk_at "m_loc") rfl rfl (by walk_at "m_hr") (by walk_at "m_hr") rfl rfl (by subst_vars; rfl) (by subst_vars; rfl) (fun a z => z)
      case x1 =>
        rw [← dueD, ← hDD]
        refine ev_due (X := X') W F₅.out (by omega) hh ?aay1 (ev_bytesL (X := X') hh ?aay2 ?aay3 (by omega) hd2 rfl) (by rw [hDD]; omega) rfl
        case aay1 => walk_at "m_glob"
        case aay2 => walk_at "m_blt"
        case aay3 => walk_at "m_var"
      case x2 =>
        rw [← dueT, ← hTT]
        refine ev_due (X := X') W F₅.out (by omega) hh ?aby1 (ev_bytesL (X := X') hh ?aby2 ?aby3 (by omega) ht2 rfl) (by rw [hTT]; omega) rfl
        case aby1 => walk_at "m_glob"
        case aby2 => walk_at "m_blt"
        case aby3 => walk_at "m_var"
      refine ex_new (PL := fun L h => MP L ((nmsOf (ll.take 0)).map S.str) h) F₆ (ev_bin (P₁ := isP1 (.str (Str.ofString "-"))) (P₂ := isI ((2048 : Nat) : Int)) (ev_list1 ev_str rfl) ?z1 Mono.p1 (fun a b h k z ⟨t, e⟩ => ?z2)) (fun L h h' k z => z.at k)
        (fun L => [(Str.ofString "script", isLI (fun a => X' a ∨ a = L) s), (Str.ofString "size", isI (n : Int)), (Str.ofString "data", isLI (fun a => X' a ∨ a = L) dl), (Str.ofString "turned", isLI (fun a => X' a ∨ a = L) tl), (Str.ofString "due", isLI (fun a => X' a ∨ a = L) ((List.range N).map fun j => (idxB D j : Int))), (Str.ofString "other", isLI (fun a => X' a ∨ a = L) ((List.range N).map fun j => (idxB T j : Int))), (Str.ofString "names", isV (.ref L))])
        (fun L hL => ?z3) (fun L h₇ hL k₇ ml F₇ => ?_) (by walk_at "m_loc") rfl (by subst_vars; rfl) (fun _ q => q)
      case z1 =>
        show Ev _ _ _ _ _ (isI 2048)
        exact ev_int
      case z2 =>
        subst e
        exact (mul_oneP z (by decide)).mono fun v h' k' ⟨L, e, n, o, m⟩ => ⟨L, e, none_of_keep k n, o, by rw [List.take_zero, nms_nil, List.map_replicate]; exact m⟩
      case z3 =>
        have fr : ∀ a, (X' a ∨ a = L) → ¬ X' a → h₆.get? a = none := fun a z n => (z.resolve_left n) ▸ hL
        exact hr_cons (.inr ⟨by dsimp only; decide +kernel, Stable.li, _, by walk_at "m_mem", fun v z => isL.widen z fr⟩) (hr_cons (.inr ⟨by dsimp only; decide +kernel, Stable.i, _, by walk_at "m_mem", fun v z => z⟩) (hr_cons (.inr ⟨by dsimp only; decide +kernel, Stable.li, _, by walk_at "m_mem", fun v z => isL.widen z fr⟩)
          (hr_cons (.inr ⟨by dsimp only; decide +kernel, Stable.li, _, by walk_at "m_mem", fun v z => isL.widen z fr⟩) (hr_cons (.inr ⟨by dsimp only; decide +kernel, Stable.li, _, by walk_at "m_mem", fun v z => isL.widen z fr⟩) (hr_cons (.inr ⟨by dsimp only; decide +kernel, Stable.li, _, by walk_at "m_mem", fun v z => isL.widen z fr⟩) (hr_cons (.inl rfl) hr_nil))))))
      have hLX : ¬ X' L := fun z => by obtain ⟨o, e⟩ := F₆.live L z; rw [hL] at e; cases e
      have hLl : L ≠ env.locals := fun e => hLX (F₆.sub _ (e ▸ F₆.loc))
      have hLc : ∀ n c, env.cells.lookup n = some c → c ≠ L := fun n c z e => hLX (F₆.sub _ (e ▸ F₆.cel n c z))
      have hYY : ∀ a, (Own env a ∨ a = L) → (X' a ∨ a = L) := fun a z => z.imp (F₆.sub a) id
      have hdsl : (ll.map fun (j : Nat) => S.int (j : Int)).length = N + N := by rw [List.length_map, llen]
      refine ex_for F₇ (n := (ll.map fun (j : Nat) => S.int (j : Int)).length) (item := fun i => [(Str.ofString "number", (ll.map fun (j : Nat) => S.int (j : Int)).getD i .none)]) (evit_list (ds := ll.map fun (j : Nat) => S.int (j : Int)) hh ?src) ?t ?nm hYY (fun a z => .inl z)
        (fun X3 i => [(Str.ofString "script", isLI X3 s), (Str.ofString "size", isI (n : Int)), (Str.ofString "data", isLI X3 dl), (Str.ofString "turned", isLI X3 tl), (Str.ofString "due", isLI X3 ((List.range N).map fun j => (idxB D j : Int))), (Str.ofString "other", isLI X3 ((List.range N).map fun j => (idxB T j : Int))), (Str.ofString "names", isV (.ref L))])
        (fun i h => MP L ((nmsOf (ll.take i)).map S.str) h) (fun a => a = L) (fun a z => ⟨.inr z, fun q => hLl (z.symm.trans q)⟩) (fun i h h' k z => z.at fun o e => k L o rfl e) ml
        ?entry ?fr ?step
        [(Str.ofString "script", isLI (fun a => X' a ∨ a = L) s), (Str.ofString "size", isI (n : Int)), (Str.ofString "data", isLI (fun a => X' a ∨ a = L) dl), (Str.ofString "turned", isLI (fun a => X' a ∨ a = L) tl), (Str.ofString "due", isLI (fun a => X' a ∨ a = L) ((List.range N).map fun j => (idxB D j : Int))), (Str.ofString "other", isLI (fun a => X' a ∨ a = L) ((List.range N).map fun j => (idxB T j : Int))), (Str.ofString "names", isV (.ref L))] ?exit ?after (fun _ => rfl)
      case src =>
        have e : (ll.map fun (j : Nat) => S.int (j : Int)) = (((List.range N).map fun j => (idxB D j : Int)).map S.int) ++ (((List.range N).map fun j => (idxB T j : Int)).map S.int) := by
          rw [hll, List.map_append, List.map_map, List.map_map, List.map_map, List.map_map]
          rfl
        rw [e]
        refine ev_addL ?acy1 ?acy2 F₇.live (by rw [sizeLine_eq]; simp; omega)
        case acy1 => walk_at "m_var"
        case acy2 => walk_at "m_var"
      case t =>
        show env.kindOf (Str.ofString "number") = some .local
        walk_at "m_env"
      case nm => exact fun i hi => hr_cons ⟨by walk_at "m_env", by kernel_rfl!⟩ hr_nil
      case entry =>
        exact fun X3 hX3 hf3 => hr_cons ⟨Stable.li, _, by walk_at "m_mem", fun v z => isL.widen z hf3⟩ (hr_cons ⟨Stable.i, _, by walk_at "m_mem", fun v z => z⟩ (hr_cons ⟨Stable.li, _, by walk_at "m_mem", fun v z => isL.widen z hf3⟩ (hr_cons ⟨Stable.li, _, by walk_at "m_mem", fun v z => isL.widen z hf3⟩ (hr_cons ⟨Stable.li, _, by walk_at "m_mem", fun v z => isL.widen z hf3⟩ (hr_cons ⟨Stable.li, _, by walk_at "m_mem", fun v z => isL.widen z hf3⟩ (hr_cons ⟨Stable.v, _, by walk_at "m_mem", fun v z => z⟩ hr_nil))))))
      case fr =>
        exact fun X'' i hi => hr_cons (hr_cons (by dsimp only; decide +kernel) hr_nil) (hr_cons (hr_cons (by dsimp only; decide +kernel) hr_nil) (hr_cons (hr_cons (by dsimp only; decide +kernel) hr_nil) (hr_cons (hr_cons (by dsimp only; decide +kernel) hr_nil) (hr_cons (hr_cons (by dsimp only; decide +kernel) hr_nil) (hr_cons (hr_cons (by dsimp only; decide +kernel) hr_nil) (hr_cons (hr_cons (by dsimp only; decide +kernel) hr_nil) hr_nil))))))
      case exit =>
        exact fun X3 hX3 => hr_cons ⟨Stable.li, _, by walk_at "m_mem", fun v h z => isL.narrow z hX3⟩ (hr_cons ⟨Stable.i, _, by walk_at "m_mem", fun v h z => z⟩ (hr_cons ⟨Stable.li, _, by walk_at "m_mem", fun v h z => isL.narrow z hX3⟩ (hr_cons ⟨Stable.li, _, by walk_at "m_mem", fun v h z => isL.narrow z hX3⟩ (hr_cons ⟨Stable.li, _, by walk_at "m_mem", fun v h z => isL.narrow z hX3⟩ (hr_cons ⟨Stable.li, _, by walk_at "m_mem", fun v h z => isL.narrow z hX3⟩ (hr_cons ⟨Stable.v, _, by walk_at "m_mem", fun v h z => z⟩ hr_nil))))))
      case step =>
        intro i X3 h₈ hi8 hX3 hf3 k₈ ml₈ F₈
        rw [hdsl] at hi8
        have hil : i < ll.length := by rw [llen]; exact hi8
        obtain ⟨m, hm⟩ : ∃ m, ll[i]? = some m := ⟨_, List.getElem?_eq_getElem hil⟩
        have hm2 : m < 2048 := hllt m (List.mem_of_getElem? hm)
        have ei : (ll.map fun (j : Nat) => S.int (j : Int)).getD i .none = S.int (m : Int) := by rw [List.getD_eq_getElem?_getD, List.getElem?_map, hm]; rfl
        rw [ei] at F₈
        replace F₈ : Frm g0 env X3 (Own env) [(Str.ofString "number", isI (m : Int)), (Str.ofString "script", isLI X3 s), (Str.ofString "size", isI (n : Int)), (Str.ofString "data", isLI X3 dl), (Str.ofString "turned", isLI X3 tl), (Str.ofString "due", isLI X3 ((List.range N).map fun j => (idxB D j : Int))), (Str.ofString "other", isLI X3 ((List.range N).map fun j => (idxB T j : Int))), (Str.ofString "names", isV (.ref L))] h₈ := F₈
        refine ex_setP (n := m) (d := .str (wtx m)) F₈ ?ady1 ?ady2 ?ady3 (hX3 L (.inr rfl)) hLl hLc ml₈ (by rw [List.length_map, nms_len]; exact hm2) (by rw [List.length_map, nms_len]; decide) (fun h₉ kb ml₉ F₉ => ex_nil ⟨rfl, ?ady4, F₉.less fun p hp => List.mem_cons_of_mem _ hp⟩) (by subst_vars; rfl) (.inr rfl)
        case ady1 =>
          refine ev_addS (a := Str.ofString "w") (b := Str.ofString (toString (m : Int))) ev_str (ev_T (T := "str") (PL := fun vs h => ∃ v, vs = [v] ∧ isI (m : Int) v h) ?adv1 (ev_args1 ?adv2 Mono.i rfl) (fun vs h k ⟨v, e, z⟩ => e ▸ call_strI z ?adv3) rfl rfl) ?adv4
          case adv1 => walk_at "m_blt"
          case adv2 => walk_at "m_var"
          case adv3 =>
            rw [Int.natAbs_natCast]
            by_cases h0 : m = 0
            · subst h0; decide
            · exact Nat.lt_trans ((Nat.log2_lt h0).mpr (show m < 2 ^ 11 by omega)) (by decide)
          case adv4 =>
            have := wtx_len hm2
            unfold wtx at this
            have e1 : (Str.ofString "w" ++ Str.ofString (toString (m : Int))).length = (Str.ofString "w").length + (Str.ofString (toString (m : Int))).length := by
              show (_ ++ _ : Array Nat).size = _
              rw [Array.size_append]; rfl
            rw [sizeLine_eq]
            omega
        case ady2 => walk_at "m_var"
        case ady3 => walk_at "m_var"
        case ady4 =>
          rw [List.take_add_one, hm, Option.toList_some, ← nms_set, List.map_set]
          exact ml₉
      case after =>
        intro h₈ k₈ ml₈ F₈
        rw [List.take_of_length_le (by rw [hdsl, llen]; exact Nat.le_refl _)] at ml₈
        refine Ex.wide (Y := Own env) ?_ (fun a z => .inl z)
        have F₉ : Frm g0 env X' (Own env) [(Str.ofString "script", isLI X' s), (Str.ofString "size", isI (n : Int)), (Str.ofString "data", isLI X' dl), (Str.ofString "turned", isLI X' tl), (Str.ofString "due", isLI X' ((List.range N).map fun j => (idxB D j : Int))), (Str.ofString "other", isLI X' ((List.range N).map fun j => (idxB T j : Int))), (Str.ofString "names", isV (.ref L))] h₈ :=
          F₈.shrink (Z := fun _ => False) (fun a z => .inl z) F.sub (fun a z => z.elim) (fun a z => z.elim) (fun b o n e => e)
            (hr_cons ⟨Stable.li, _, by walk_at "m_mem", fun v h z => isL.narrow z fun a z => Or.inl z⟩ (hr_cons ⟨Stable.i, _, by walk_at "m_mem", fun v h z => z⟩ (hr_cons ⟨Stable.li, _, by walk_at "m_mem", fun v h z => isL.narrow z fun a z => Or.inl z⟩ (hr_cons ⟨Stable.li, _, by walk_at "m_mem", fun v h z => isL.narrow z fun a z => Or.inl z⟩
              (hr_cons ⟨Stable.li, _, by walk_at "m_mem", fun v h z => isL.narrow z fun a z => Or.inl z⟩ (hr_cons ⟨Stable.li, _, by walk_at "m_mem", fun v h z => isL.narrow z fun a z => Or.inl z⟩ (hr_cons ⟨Stable.v, _, by walk_at "m_mem", fun v h z => z⟩ hr_nil)))))))
        have F₁₀ : Frm g0 env X' (Own env) [(Str.ofString "script", isLI X' s), (Str.ofString "size", isI (n : Int)), (Str.ofString "data", isLI X' dl), (Str.ofString "turned", isLI X' tl), (Str.ofString "due", isLI X' ((List.range N).map fun j => (idxB D j : Int))), (Str.ofString "other", isLI X' ((List.range N).map fun j => (idxB T j : Int))), (Str.ofString "names", isLd X' ((nmsOf ll).map S.str))] h₈ :=
          F₉.more (hr_cons (.inl (by walk_at "m_mem")) (hr_cons (.inl (by walk_at "m_mem")) (hr_cons (.inl (by walk_at "m_mem")) (hr_cons (.inl (by walk_at "m_mem")) (hr_cons (.inl (by walk_at "m_mem")) (hr_cons (.inl (by walk_at "m_mem")) (hr_cons (.inr ⟨isV (.ref L), by walk_at "m_mem", Stable.ld, fun v e => by cases e; exact ml₈.ld hLX⟩) hr_nil)))))))
        have hmD : ∀ j, j < N → idxB D j ∈ ll := fun j hj => by
          rw [hll]; exact List.mem_append_left _ (List.mem_map_of_mem (List.mem_range.mpr hj))
        have hmT : ∀ j, j < N → idxB T j ∈ ll := fun j hj => by
          rw [hll]; exact List.mem_append_right _ (List.mem_map_of_mem (List.mem_range.mpr hj))
        have eW : ∀ B : Array UInt8, (∀ j, j < N → idxB B j ∈ ll) → ((List.range N).map fun j => (nmsOf ll).getD (idxB B j) (Str.ofString "")) = wordsOf B N := fun B hm => by
          unfold wordsOf
          refine List.map_congr_left fun j hj => ?_
          rw [List.getD_eq_getElem?_getD, nms_get (idx_lt B j) (hm j (List.mem_range.mp hj))]
          rfl
        refine ex_assign F₁₀ (P := isMn X' (nmsOf ll)) ?ba1 Stable.mn
          [(Str.ofString "script", isLI X' s), (Str.ofString "size", isI (n : Int)), (Str.ofString "data", isLI X' dl), (Str.ofString "turned", isLI X' tl), (Str.ofString "due", isLI X' ((List.range N).map fun j => (idxB D j : Int))), (Str.ofString "other", isLI X' ((List.range N).map fun j => (idxB T j : Int))), (Str.ofString "names", isLd X' ((nmsOf ll).map S.str)), (Str.ofString "made", isMn X' (nmsOf ll))]
          (fun h₁₁ k₁₁ F₁₁ => ?_) (by walk_at "m_loc") rfl (by walk_at "m_hr") (by subst_vars; rfl)
        case ba1 =>
          refine ev_F (fa := aCls) (PL := fun vs h => ∃ a r, vs = a :: r ∧ isS (Str.ofString "some") a h ∧ ∃ b r2, r = b :: r2 ∧ isLd X' ((nmsOf ll).map S.str) b h ∧ ∃ c r3, r2 = c :: r3 ∧ isI 2048 c h ∧ ∃ d, r3 = [d] ∧ isV (.ref aDigest) d h) ?ba2 W F₁₀.base (by kernel_rfl!)
            (ev_argsS ev_str (ev_argsS ?ba3 (ev_argsS ev_int (ev_args1 ?ba4 Mono.v rfl) Mono.i rfl) Mono.ld rfl) Mono.s rfl) (fun vs h k ⟨a, r, e1, z1, b, r2, e2, z2, c, r3, e3, z3, d, e4, z4⟩ => ?ba5) rfl rfl
          case ba2 => walk_at "m_glob"
          case ba3 => walk_at "m_var"
          case ba4 => walk_at "m_glob"
          case ba5 =>
            subst e1 e2 e3 e4
            cases z4
            exact c_make W (F₁₀.out.keep k) (by omega) hh z1 z2 (by rw [nms_len]; exact z3) (by rw [nms_len]; decide)
        have hBD : ([16, 20, 24, 28, 32] : List Int).any (· == (D.size : Int)) = true := by
          rw [hD]; simp only [List.any_cons, List.any_nil, Bool.or_false, Bool.or_eq_true, beq_iff_eq]; omega
        have hBT : ([16, 20, 24, 28, 32] : List Int).any (· == (T.size : Int)) = true := by
          rw [hT]; simp only [List.any_cons, List.any_nil, Bool.or_false, Bool.or_eq_true, beq_iff_eq]; omega
        have hsN : N * (5 + 1) ≤ 10000 := by omega
        refine ex_tuple2 hh F₁₁ (P₁ := isLS X' (wordsOf D N)) (P₂ := isLS X' (wordsOf T N)) ?bb1 ?bb2 Stable.ls Stable.ls
          [(Str.ofString "script", isLI X' s), (Str.ofString "size", isI (n : Int)), (Str.ofString "data", isLI X' dl), (Str.ofString "turned", isLI X' tl), (Str.ofString "due", isLI X' ((List.range N).map fun j => (idxB D j : Int))), (Str.ofString "other", isLI X' ((List.range N).map fun j => (idxB T j : Int))), (Str.ofString "names", isLd X' ((nmsOf ll).map S.str)), (Str.ofString "made", isMn X' (nmsOf ll)), (Str.ofString "two", isLS X' (wordsOf T N))]
          [(Str.ofString "script", isLI X' s), (Str.ofString "size", isI (n : Int)), (Str.ofString "data", isLI X' dl), (Str.ofString "turned", isLI X' tl), (Str.ofString "due", isLI X' ((List.range N).map fun j => (idxB D j : Int))), (Str.ofString "other", isLI X' ((List.range N).map fun j => (idxB T j : Int))), (Str.ofString "names", isLd X' ((nmsOf ll).map S.str)), (Str.ofString "made", isMn X' (nmsOf ll)), (Str.ofString "two", isLS X' (wordsOf T N)), (Str.ofString "one", isLS X' (wordsOf D N))]
          (fun h₁₂ k₁₂ F₁₂ => ?_) (by walk_at "m_loc") (by walk_at "m_loc") rfl rfl (by walk_at "m_hr") (by walk_at "m_hr") rfl rfl (by subst_vars; rfl) (by subst_vars; rfl) (fun a z => z)
        case bb1 =>
          rw [← words_split (B := D) (N := N) (by omega)]
          refine ev_split (x := Str.join sp (wordsOf D N)) ((ev_mnemCall (X := X') (ws := nmsOf ll) (B := D) (N := N) W F₁₁.out (by omega) hh ?bc1 ?bc0 hBD (by rw [hD]; exact hNn) (nms_len ll) (fun y hy => nms_short hy) rfl rfl).mono fun v h k z => by rw [eW D hmD] at z; exact z) ev_str F₁₁.live
            (Nat.le_trans (join_len (words_short D N)) (by rw [words_len]; exact hsN)) (fun _ => rfl) rfl rfl
          case bc1 => walk_at "m_var"
          case bc0 =>
            rw [← hDD]
            refine ev_bytesL (X := X') hh ?bc2 ?bc3 (by omega) hd2 rfl
            case bc2 => walk_at "m_blt"
            case bc3 => walk_at "m_var"
        case bb2 =>
          rw [← words_split (B := T) (N := N) (by omega)]
          refine ev_split (x := Str.join sp (wordsOf T N)) ((ev_mnemCall (X := X') (ws := nmsOf ll) (B := T) (N := N) W F₁₁.out (by omega) hh ?bd1 ?bd0 hBT (by rw [hT]; exact hNn) (nms_len ll) (fun y hy => nms_short hy) rfl rfl).mono fun v h k z => by rw [eW T hmT] at z; exact z) ev_str F₁₁.live
            (Nat.le_trans (join_len (words_short T N)) (by rw [words_len]; exact hsN)) (fun _ => rfl) rfl rfl
          case bd1 => walk_at "m_var"
          case bd0 =>
            rw [← hTT]
            refine ev_bytesL (X := X') hh ?bd2 ?bd3 (by omega) ht2 rfl
            case bd2 => walk_at "m_blt"
            case bd3 => walk_at "m_var"
        have wl : ∀ B : Array UInt8, ((wordsOf B N).map S.str).length = N := fun B => by rw [List.length_map, words_len]
        refine ex_skip (ev_or (hr_cons (ev_cmpT (P₁ := isI (N : Int)) (P₂ := isI (N : Int)) ?be1 ?be2 Mono.i (fun a b h k z z' => (cmp_neI z z').mono fun v h k z => by rw [show ((N : Int) != (N : Int)) = false by simp] at z; exact z) rfl)
          (hr_cons (ev_cmpT (P₁ := isI (N : Int)) (P₂ := isI (N : Int)) ?be3 ?be4 Mono.i (fun a b h k z z' => (cmp_neI z z').mono fun v h k z => by rw [show ((N : Int) != (N : Int)) = false by simp] at z; exact z) rfl) hr_nil))) fun h₁₃ k₁₃ => ?_
        case be1 =>
          refine (ev_B (P := isI ((wordsOf D N).map S.str).length) (T := "len") (PL := fun vs h => ∃ v, vs = [v] ∧ isL X' ((wordsOf D N).map S.str) v h) ?bf1 (ev_args1 ?bf2 Mono.l rfl) (fun vs h k ⟨v, e, z⟩ => e ▸ ev_len_list z (by rw [wl]; omega)) rfl rfl).mono fun _ _ _ z => by rw [wl] at z; exact z
          case bf1 => walk_at "m_blt"
          case bf2 => walk_at "m_var"
        case be2 =>
          rw [show (N : Int) = (n : Int) / 4 * 3 by omega]
          refine ev_mul (ev_div ?bf3 ev_int (by decide) (by decide)) ev_int (IntMulOk.of_right (by decide +kernel))
          case bf3 => walk_at "m_var"
        case be3 =>
          refine (ev_B (P := isI ((wordsOf T N).map S.str).length) (T := "len") (PL := fun vs h => ∃ v, vs = [v] ∧ isL X' ((wordsOf T N).map S.str) v h) ?bf4 (ev_args1 ?bf5 Mono.l rfl) (fun vs h k ⟨v, e, z⟩ => e ▸ ev_len_list z (by rw [wl]; omega)) rfl rfl).mono fun _ _ _ z => by rw [wl] at z; exact z
          case bf4 => walk_at "m_blt"
          case bf5 => walk_at "m_var"
        case be4 =>
          refine (ev_B (P := isI ((wordsOf D N).map S.str).length) (T := "len") (PL := fun vs h => ∃ v, vs = [v] ∧ isL X' ((wordsOf D N).map S.str) v h) ?bf6 (ev_args1 ?bf7 Mono.l rfl) (fun vs h k ⟨v, e, z⟩ => e ▸ ev_len_list z (by rw [wl]; omega)) rfl rfl).mono fun _ _ _ z => by rw [wl] at z; exact z
          case bf6 => walk_at "m_blt"
          case bf7 => walk_at "m_var"
        have F₁₃ := F₁₂.keep k₁₃
        refine ex_tuple2 hh F₁₃ (P₁ := isLI X' (bitsOf D)) (P₂ := isLI X' (bitsOf T)) ?bg1 ?bg2 Stable.li Stable.li
          [(Str.ofString "script", isLI X' s), (Str.ofString "data", isLI X' dl), (Str.ofString "turned", isLI X' tl), (Str.ofString "due", isLI X' ((List.range N).map fun j => (idxB D j : Int))), (Str.ofString "other", isLI X' ((List.range N).map fun j => (idxB T j : Int))), (Str.ofString "names", isLd X' ((nmsOf ll).map S.str)), (Str.ofString "made", isMn X' (nmsOf ll)), (Str.ofString "two", isLS X' (wordsOf T N)), (Str.ofString "one", isLS X' (wordsOf D N)), (Str.ofString "others", isLI X' (bitsOf T))]
          [(Str.ofString "script", isLI X' s), (Str.ofString "data", isLI X' dl), (Str.ofString "turned", isLI X' tl), (Str.ofString "due", isLI X' ((List.range N).map fun j => (idxB D j : Int))), (Str.ofString "other", isLI X' ((List.range N).map fun j => (idxB T j : Int))), (Str.ofString "names", isLd X' ((nmsOf ll).map S.str)), (Str.ofString "made", isMn X' (nmsOf ll)), (Str.ofString "two", isLS X' (wordsOf T N)), (Str.ofString "one", isLS X' (wordsOf D N)), (Str.ofString "others", isLI X' (bitsOf T)), (Str.ofString "bits", isLI X' (bitsOf D))]
          (fun h₁₄ k₁₄ F₁₄ => ?_) (by walk_at "m_loc") (by walk_at "m_loc") rfl rfl (by walk_at "m_hr") (by walk_at "m_hr") rfl rfl (by subst_vars; rfl) (by subst_vars; rfl) (fun a z => z)
        case bg1 =>
          refine ev_bits (X := X') (b := D) W F₁₃.out (by omega) hh ?bh1 ?bh2 (by omega) rfl
          case bh1 => walk_at "m_glob"
          case bh2 =>
            rw [← hDD]
            refine ev_bytesL (X := X') hh ?bh3 ?bh4 (by omega) hd2 rfl
            case bh3 => walk_at "m_blt"
            case bh4 => walk_at "m_var"
        case bg2 =>
          refine ev_bits (X := X') (b := T) W F₁₃.out (by omega) hh ?bi1 ?bi2 (by omega) rfl
          case bi1 => walk_at "m_glob"
          case bi2 =>
            rw [← hTT]
            refine ev_bytesL (X := X') hh ?bi3 ?bi4 (by omega) ht2 rfl
            case bi3 => walk_at "m_blt"
            case bi4 => walk_at "m_var"
        have bl : ∀ B : Array UInt8, B.size = n → ((bitsOf B).map S.int).length = n * 8 := fun B h => by rw [List.length_map, bitsOf_len, h]
        have wg : ∀ (B : Array UInt8) (j : Nat), j < N → ((wordsOf B N).map S.str)[((j : Nat) : Int).toNat]? = some (S.str (wtx (idxB B j))) := fun B j hj => by
          rw [Int.toNat_natCast, List.getElem?_map, wordsOf, List.getElem?_map, List.getElem?_range hj]; rfl
        refine ex_for F₁₄ (n := N - 1) (item := fun k => [(Str.ofString "k", .int (k : Int))]) (evit_range hh (by omega) ?rg ?bj1 rfl) ?t ?nm F₁₄.sub (fun a z => z)
          (fun X3 k => [(Str.ofString "script", isLI X3 s), (Str.ofString "data", isLI X3 dl), (Str.ofString "turned", isLI X3 tl), (Str.ofString "due", isLI X3 ((List.range N).map fun j => (idxB D j : Int))), (Str.ofString "other", isLI X3 ((List.range N).map fun j => (idxB T j : Int))), (Str.ofString "names", isLd X3 ((nmsOf ll).map S.str)), (Str.ofString "made", isMn X3 (nmsOf ll)), (Str.ofString "two", isLS X3 (wordsOf T N)), (Str.ofString "one", isLS X3 (wordsOf D N)), (Str.ofString "others", isLI X3 (bitsOf T)), (Str.ofString "bits", isLI X3 (bitsOf D))])
          (fun _ _ => True) (fun _ => False) (fun _ z => z.elim) (fun _ _ _ _ _ => trivial) trivial
          ?entry ?fr ?step
          [(Str.ofString "script", isLI X' s), (Str.ofString "data", isLI X' dl), (Str.ofString "turned", isLI X' tl), (Str.ofString "due", isLI X' ((List.range N).map fun j => (idxB D j : Int))), (Str.ofString "other", isLI X' ((List.range N).map fun j => (idxB T j : Int))), (Str.ofString "names", isLd X' ((nmsOf ll).map S.str)), (Str.ofString "made", isMn X' (nmsOf ll)), (Str.ofString "two", isLS X' (wordsOf T N)), (Str.ofString "one", isLS X' (wordsOf D N))] ?exit ?after (fun _ => rfl)
        case rg => walk_at "m_blt"
        case bj1 =>
          rw [show ((N - 1 : Nat) : Int) = (N : Int) - 1 by omega]
          refine ev_sub ((ev_B (P := isI ((wordsOf D N).map S.str).length) (T := "len") (PL := fun vs h => ∃ v, vs = [v] ∧ isL X' ((wordsOf D N).map S.str) v h) ?bj2 (ev_args1 ?bj3 Mono.l rfl) (fun vs h k ⟨v, e, z⟩ => e ▸ ev_len_list z (by rw [wl]; omega)) rfl rfl).mono fun _ _ _ z => by rw [wl] at z; exact z) ev_int
          case bj2 => walk_at "m_blt"
          case bj3 => walk_at "m_var"
        case t =>
          show env.kindOf (Str.ofString "k") = some .local
          walk_at "m_env"
        case nm => exact fun i hi => hr_cons ⟨by walk_at "m_env", by kernel_rfl!⟩ hr_nil
        case entry =>
          exact fun X3 hX3 hf3 => hr_cons ⟨Stable.li, _, by walk_at "m_mem", fun v z => isL.widen z hf3⟩ (hr_cons ⟨Stable.li, _, by walk_at "m_mem", fun v z => isL.widen z hf3⟩ (hr_cons ⟨Stable.li, _, by walk_at "m_mem", fun v z => isL.widen z hf3⟩ (hr_cons ⟨Stable.li, _, by walk_at "m_mem", fun v z => isL.widen z hf3⟩ (hr_cons ⟨Stable.li, _, by walk_at "m_mem", fun v z => isL.widen z hf3⟩ (hr_cons ⟨Stable.ld, _, by walk_at "m_mem", fun v z => isLd.widen z hf3⟩ (hr_cons ⟨Stable.mn, _, by walk_at "m_mem", fun v z => isMn.widen z hf3⟩
            (hr_cons ⟨Stable.ls, _, by walk_at "m_mem", fun v z => isL.widen z hf3⟩ (hr_cons ⟨Stable.ls, _, by walk_at "m_mem", fun v z => isL.widen z hf3⟩ (hr_cons ⟨Stable.li, _, by walk_at "m_mem", fun v z => isL.widen z hf3⟩ (hr_cons ⟨Stable.li, _, by walk_at "m_mem", fun v z => isL.widen z hf3⟩ hr_nil))))))))))
        case fr =>
          exact fun X'' i hi => hr_cons (hr_cons (by dsimp only; decide +kernel) hr_nil) (hr_cons (hr_cons (by dsimp only; decide +kernel) hr_nil) (hr_cons (hr_cons (by dsimp only; decide +kernel) hr_nil) (hr_cons (hr_cons (by dsimp only; decide +kernel) hr_nil) (hr_cons (hr_cons (by dsimp only; decide +kernel) hr_nil) (hr_cons (hr_cons (by dsimp only; decide +kernel) hr_nil) (hr_cons (hr_cons (by dsimp only; decide +kernel) hr_nil)
            (hr_cons (hr_cons (by dsimp only; decide +kernel) hr_nil) (hr_cons (hr_cons (by dsimp only; decide +kernel) hr_nil) (hr_cons (hr_cons (by dsimp only; decide +kernel) hr_nil) (hr_cons (hr_cons (by dsimp only; decide +kernel) hr_nil) hr_nil))))))))))
        case exit =>
          exact fun X3 hX3 => hr_cons ⟨Stable.li, _, by walk_at "m_mem", fun v h z => isL.narrow z hX3⟩ (hr_cons ⟨Stable.li, _, by walk_at "m_mem", fun v h z => isL.narrow z hX3⟩ (hr_cons ⟨Stable.li, _, by walk_at "m_mem", fun v h z => isL.narrow z hX3⟩ (hr_cons ⟨Stable.li, _, by walk_at "m_mem", fun v h z => isL.narrow z hX3⟩ (hr_cons ⟨Stable.li, _, by walk_at "m_mem", fun v h z => isL.narrow z hX3⟩ (hr_cons ⟨Stable.ld, _, by walk_at "m_mem", fun v h z => isLd.narrow z hX3⟩ (hr_cons ⟨Stable.mn, _, by walk_at "m_mem", fun v h z => isMn.narrow z hX3⟩
            (hr_cons ⟨Stable.ls, _, by walk_at "m_mem", fun v h z => isL.narrow z hX3⟩ (hr_cons ⟨Stable.ls, _, by walk_at "m_mem", fun v h z => isL.narrow z hX3⟩ hr_nil))))))))
        case step =>
          intro k X3 h₁₅ hk hX3 hf3 k₁₅ _ F₁₅
          replace F₁₅ : Frm g0 env X3 (Own env) [(Str.ofString "k", isI (k : Int)), (Str.ofString "script", isLI X3 s), (Str.ofString "data", isLI X3 dl), (Str.ofString "turned", isLI X3 tl), (Str.ofString "due", isLI X3 ((List.range N).map fun j => (idxB D j : Int))), (Str.ofString "other", isLI X3 ((List.range N).map fun j => (idxB T j : Int))), (Str.ofString "names", isLd X3 ((nmsOf ll).map S.str)), (Str.ofString "made", isMn X3 (nmsOf ll)), (Str.ofString "two", isLS X3 (wordsOf T N)), (Str.ofString "one", isLS X3 (wordsOf D N)), (Str.ofString "others", isLI X3 (bitsOf T)), (Str.ofString "bits", isLI X3 (bitsOf D))] h₁₅ := F₁₅
          have hk11 : k * 11 + 11 ≤ n * 8 := by omega
          have cE : ∀ B : Array UInt8, B.size = n → cutL ((bitsOf B).map S.int) (some (11 * (k : Int))) (some (11 * (k : Int) + 11)) = ((List.range 11).map fun i => b2i (cbB B (k * 11 + i))).map S.int := fun B h => by
            rw [cutL_map, cut_bits B (by rw [h]; exact hk11)]
          refine ex_skip (ev_cmpT (P₁ := isB (idxB D k == idxB T k)) (P₂ := isB (idxB D k == idxB T k))
            (ev_cmp (P₁ := isS (wtx (idxB D k))) (P₂ := isS (wtx (idxB T k))) (ev_item_list (X := X3) (ds := (wordsOf D N).map S.str) (i := (k : Int)) (d := .str (wtx (idxB D k))) ?bk1 ?bk2 (by omega) (by omega) (wg D k (by omega)) (fun _ _ => rfl)) (ev_item_list (X := X3) (ds := (wordsOf T N).map S.str) (i := (k : Int)) (d := .str (wtx (idxB T k))) ?bk3 ?bk4 (by omega) (by omega) (wg T k (by omega)) (fun _ _ => rfl)) Mono.s
              (fun a b h k z z' => (cmp_eqS z z').mono fun v h k z => by rw [wtx_eq] at z; exact z) rfl)
            (ev_cmp (P₁ := isLI X3 ((List.range 11).map fun i => b2i (cbB D (k * 11 + i)))) (P₂ := isLI X3 ((List.range 11).map fun i => b2i (cbB T (k * 11 + i)))) ?bk5 ?bk6 Mono.li
              (fun a b h k z z' => (cmp_eqLI hu z z').mono fun v h k z => by rw [bits_iff] at z; exact z) rfl) Mono.b (fun a b h kq z z' => (cmp_neB z z').mono fun v h k' z => ?bk7) rfl) fun h₁₆ k₁₆ => ex_nil ⟨rfl, trivial, (F₁₅.keep k₁₆).less fun p hp => List.mem_cons_of_mem _ hp⟩
          case bk1 => walk_at "m_var"
          case bk2 => walk_at "m_var"
          case bk3 => walk_at "m_var"
          case bk4 => walk_at "m_var"
          case bk5 =>
            show Ev _ _ _ _ _ (isL X3 (((List.range 11).map fun i => b2i (cbB D (k * 11 + i))).map S.int))
            rw [← cE D hD]
            refine ev_cut_list (ds := (bitsOf D).map S.int) ?bl1 (ev_slice (ev_part1 (ev_mul ev_int ?bl2 (IntMulOk.of_left (by decide +kernel)))) (ev_part1 (ev_add (ev_mul ev_int ?bl3 (IntMulOk.of_left (by decide +kernel))) ev_int))) F₁₅.live (by rw [bl D hD, sizeLine_eq]; omega) fun _ _ => ⟨_, rfl⟩
            case bl1 => walk_at "m_var"
            case bl2 => walk_at "m_var"
            case bl3 => walk_at "m_var"
          case bk6 =>
            show Ev _ _ _ _ _ (isL X3 (((List.range 11).map fun i => b2i (cbB T (k * 11 + i))).map S.int))
            rw [← cE T hT]
            refine ev_cut_list (ds := (bitsOf T).map S.int) ?bm1 (ev_slice (ev_part1 (ev_mul ev_int ?bm2 (IntMulOk.of_left (by decide +kernel)))) (ev_part1 (ev_add (ev_mul ev_int ?bm3 (IntMulOk.of_left (by decide +kernel))) ev_int))) F₁₅.live (by rw [bl T hT, sizeLine_eq]; omega) fun _ _ => ⟨_, rfl⟩
            case bm1 => walk_at "m_var"
            case bm2 => walk_at "m_var"
            case bm3 => walk_at "m_var"
          case bk7 =>
            rw [show ((idxB D k == idxB T k) != (idxB D k == idxB T k)) = false by simp] at z
            exact z
        case after =>
          intro h₁₅ k₁₅ _ F₁₅
          have hl1 : N - 1 < N := by omega
          have lastL : ∀ {α : Type} (f : Nat → α), ((List.range N).map f).getLast? = some (f (N - 1)) := fun f => by
            rw [List.getLast?_eq_getElem?, List.length_map, List.length_range, List.getElem?_map, List.getElem?_range hl1]; rfl
          have wS : ∀ B : Array UInt8, (wordsOf B N).map S.str = (List.range N).map fun j => S.str (wtx (idxB B j)) := fun B => by rw [wordsOf, List.map_map]; rfl
          have iS : ∀ B : Array UInt8, ((List.range N).map fun j => (idxB B j : Int)).map S.int = (List.range N).map fun j => S.int (idxB B j : Int) := fun B => by rw [List.map_map]; rfl
          have nG : ∀ (m : Nat), m ∈ ll → ((nmsOf ll).map S.str)[((m : Nat) : Int).toNat]? = some (S.str (wtx m)) := fun m hm => by
            rw [Int.toNat_natCast, List.getElem?_map, nms_get (hllt m hm) hm]; rfl
          have ltm : ∀ (B : Array UInt8) (j : Nat), ((idxB B j : Nat) : Int) < 2 ^ 62 := fun B j => by
            have := idx_lt B j
            omega
          refine ex_skip (ev_or (hr_cons (ev_cmpT (P₁ := isB (idxB D (N - 1) == idxB T (N - 1))) (P₂ := isB (idxB D (N - 1) == idxB T (N - 1)))
              (ev_cmp (P₁ := isS (wtx (idxB D (N - 1)))) (P₂ := isS (wtx (idxB T (N - 1)))) ?bn1 ?bn2 Mono.s (fun a b h kq z z' => (cmp_eqS z z').mono fun v h k z => by rw [wtx_eq] at z; exact z) rfl)
              (ev_cmp (P₁ := isI (idxB D (N - 1) : Int)) (P₂ := isI (idxB T (N - 1) : Int)) ?bn3 ?bn4 Mono.i (fun a b h kq z z' => (cmp_eqI z z').mono fun v h k z => ?bn5) rfl) Mono.b (fun a b h kq z z' => (cmp_neB z z').mono fun v h k' z => ?bn6) rfl)
            (hr_cons (ev_cmpT (P₁ := isS (wtx (idxB D (N - 1)))) (P₂ := isS (wtx (idxB D (N - 1)))) ?bo1 (ev_item_list (X := X') (ds := (nmsOf ll).map S.str) (i := (idxB D (N - 1) : Int)) (d := .str (wtx (idxB D (N - 1)))) ?bo2 ?bo3 (by omega) (ltm _ _) (nG _ (hmD _ hl1)) (fun _ _ => rfl)) Mono.s (fun a b h kq z z' => (cmp_neS z z').mono fun v h k' z => ?bo4) rfl)
            (hr_cons (ev_cmpT (P₁ := isS (wtx (idxB T 0))) (P₂ := isS (wtx (idxB T 0))) (ev_item_list (X := X') (ds := (wordsOf T N).map S.str) (i := 0) (d := .str (wtx (idxB T 0))) ?bp1 ev_int (by decide) (by decide) (wg T 0 (by omega)) (fun _ _ => rfl))
              (ev_item_list (X := X') (ds := (nmsOf ll).map S.str) (i := (idxB T 0 : Int)) (d := .str (wtx (idxB T 0))) ?bp2 ?bp3 (by omega) (ltm _ _) (nG _ (hmT _ (by omega))) (fun _ _ => rfl)) Mono.s (fun a b h kq z z' => (cmp_neS z z').mono fun v h k' z => ?bp4) rfl) hr_nil)))) fun h₁₆ k₁₆ => ex_nil ⟨rfl, (F₁₅.keep k₁₆).less ?bq⟩
          case bn1 =>
            refine ev_item_last (X := X') (ds := (wordsOf D N).map S.str) (d := .str (wtx (idxB D (N - 1)))) ?br1 (ev_neg ev_int) (by rw [wl]; omega) (by rw [wS]; exact lastL _) (fun _ _ => rfl)
            case br1 => walk_at "m_var"
          case bn2 =>
            refine ev_item_last (X := X') (ds := (wordsOf T N).map S.str) (d := .str (wtx (idxB T (N - 1)))) ?br2 (ev_neg ev_int) (by rw [wl]; omega) (by rw [wS]; exact lastL _) (fun _ _ => rfl)
            case br2 => walk_at "m_var"
          case bn3 =>
            refine ev_item_last (X := X') (ds := ((List.range N).map fun j => (idxB D j : Int)).map S.int) (d := .int (idxB D (N - 1) : Int)) ?br3 (ev_neg ev_int) (by simp; omega) (by rw [iS]; exact lastL _) (fun _ _ => rfl)
            case br3 => walk_at "m_var"
          case bn4 =>
            refine ev_item_last (X := X') (ds := ((List.range N).map fun j => (idxB T j : Int)).map S.int) (d := .int (idxB T (N - 1) : Int)) ?br4 (ev_neg ev_int) (by simp; omega) (by rw [iS]; exact lastL _) (fun _ _ => rfl)
            case br4 => walk_at "m_var"
          case bn5 =>
            rw [show ((idxB D (N - 1) : Int) == (idxB T (N - 1) : Int)) = (idxB D (N - 1) == idxB T (N - 1)) by rw [Bool.eq_iff_iff, beq_iff_eq, beq_iff_eq]; omega] at z
            exact z
          case bn6 =>
            rw [show ((idxB D (N - 1) == idxB T (N - 1)) != (idxB D (N - 1) == idxB T (N - 1))) = false by simp] at z
            exact z
          case bo1 =>
            refine ev_item_last (X := X') (ds := (wordsOf D N).map S.str) (d := .str (wtx (idxB D (N - 1)))) ?br5 (ev_neg ev_int) (by rw [wl]; omega) (by rw [wS]; exact lastL _) (fun _ _ => rfl)
            case br5 => walk_at "m_var"
          case bo2 =>
            refine Ev.mono (P := isLd X' ((nmsOf ll).map S.str)) ?br6 fun v h k z => z.1
            case br6 => walk_at "m_var"
          case bo3 =>
            refine ev_item_last (X := X') (ds := ((List.range N).map fun j => (idxB D j : Int)).map S.int) (d := .int (idxB D (N - 1) : Int)) ?br7 (ev_neg ev_int) (by simp; omega) (by rw [iS]; exact lastL _) (fun _ _ => rfl)
            case br7 => walk_at "m_var"
          case bo4 =>
            rw [show (wtx (idxB D (N - 1)) != wtx (idxB D (N - 1))) = false by rw [bne, beq_self_eq_true]; rfl] at z
            exact z
          case bp1 => walk_at "m_var"
          case bp2 =>
            refine Ev.mono (P := isLd X' ((nmsOf ll).map S.str)) ?br8 fun v h k z => z.1
            case br8 => walk_at "m_var"
          case bp3 =>
            refine ev_item_list (X := X') (ds := ((List.range N).map fun j => (idxB T j : Int)).map S.int) (i := 0) (d := .int (idxB T 0 : Int)) ?br9 ev_int (by decide) (by decide) (by rw [iS, List.getElem?_map, show (0 : Int).toNat = 0 from rfl, List.getElem?_range (by omega)]; rfl) (fun _ _ => rfl)
            case br9 => walk_at "m_var"
          case bp4 =>
            rw [show (wtx (idxB T 0) != wtx (idxB T 0)) = false by rw [bne, beq_self_eq_true]; rfl] at z
            exact z
          case bq => exact hr_cons (by walk_at "m_mem") (hr_cons (by walk_at "m_mem") (hr_cons (by walk_at "m_mem") (hr_cons (by walk_at "m_mem") (hr_cons (by walk_at "m_mem") (hr_cons (by walk_at "m_mem") hr_nil)))))
    case post =>
      intro h₂ k₂ l₂ ⟨tab₂, F₂⟩
      have hW : ∀ B : Array UInt8, ([12, 15, 18, 21, 24] : List Int).any (· == ((wordsOf B N).length : Int)) = true := fun B => by
        rw [words_len]; simp only [List.any_cons, List.any_nil, Bool.or_false, Bool.or_eq_true, beq_iff_eq]; omega
      have hmD : ∀ j, j < N → idxB (byteArr dl) j ∈ ll := fun j hj => by
        rw [hll]; exact List.mem_append_left _ (List.mem_map_of_mem (List.mem_range.mpr hj))
      have hmT : ∀ j, j < N → idxB (byteArr tl) j ∈ ll := fun j hj => by
        rw [hll]; exact List.mem_append_right _ (List.mem_map_of_mem (List.mem_range.mpr hj))
      have hS3 : ∀ B : Array UInt8, B.size = n → B.size * 8 + (wordsOf B N).length / 3 = (wordsOf B N).length * 11 := fun B h => by rw [words_len, h]; omega
      have hsum : ∀ B : Array UInt8, ((wordsOf B N).map (·.length)).sum + (wordsOf B N).length ≤ 16777216 := fun B => by
        have := sum_le (words_short B N)
        rw [words_len] at this ⊢; omega
      have hjl : ∀ B : Array UInt8, (Str.join sp (wordsOf B N)).length ≤ 10000 := fun B => Nat.le_trans (join_len (words_short B N)) (by rw [words_len]; omega)
      have hmut : ∀ {h h' : Heap} {ρ : List (Str × PV)}, Frm g0 env X' (Own env) ρ h → KeepB (fun a => a = 91) h h' → Live h h' → Frm g0 env X' (Own env) ρ h' := fun F k l => F.mut (Z := fun a => a = 91) (fun a z => by cases z; exact hX91) hZl hZc k l
      have hl5 : (nmsOf ll).length ≤ 5000 := by rw [nms_len]; decide
      refine exc_ifret (num s 42 % 2 != 0) (ev_isTrue (P₁ := isI (num s 42 % 2)) (ev_mod (ev_num W F₂.out (by omega) ?ca1 ?ca2 ev_int hs rfl rfl rfl) ev_int (by decide)) (fun v h k z => tr_i z) rfl) (fun _ h₃ k₃ => ?yes) (fun _ h₃ k₃ => ?no)
      case ca1 => walk_at "m_glob"
      case ca2 => walk_at "m_var"
      case yes =>
        have F₃ := F₂.keep k₃
        refine exc_returnZ (Z := fun a => a = 91) (P := fun v h => isB true v h ∧ Tab X' h) (cxc_and (R := Tab X') (cx_checkCall (X := X') (ws := nmsOf ll) (parts := wordsOf (byteArr tl) N) (B := byteArr tl) (cb := cbB (byteArr tl)) (idx := idxB (byteArr tl)) (x := Str.join sp (wordsOf (byteArr tl) N)) W F₃.out (by omega) hh hbm hX91 (Tab.keeps tab₂ k₃) ?cb1 (ev_join (X := X') ev_str ?cb2 (hsum _) (fun _ => rfl) rfl rfl) (hjl _) (words_split (by omega)) (hW _) hl5
          (words_hi hmT) (fun j _ => idx_lt _ j) (fun j _ k hk => idx_bits _ j k hk) (hS3 _ hT) (cbB_bits _) (fun i _ => cbB_ck _ i) rfl rfl) (fun h₄ k₄ l₄ tab₄ => ?cb3)) (fun a z => .inr z) (fun v h' k z => ⟨(by simp), z.1, TabOk.narrow z.2 hX⟩)
        case cb1 => walk_at "m_var"
        case cb2 => walk_at "m_var"
        case cb3 =>
          have F₄ := hmut F₃ k₄ l₄
          refine (evc_cmp (P₁ := isLI X' dl) (P₂ := isLI X' dl) (evc_T (T := "list") (PL := fun vs h => ∃ v, vs = [v] ∧ ∃ L, v = .ref L ∧ h₄.get? L = none ∧ IsBA h L (byteArr dl)) ?cb4 (evc_args1 (evc_entCall (P₁ := isLS X' (wordsOf (byteArr dl) N)) (X := X') (ws := nmsOf ll) (parts := wordsOf (byteArr dl) N) (B := byteArr dl) (cb := cbB (byteArr dl)) (idx := idxB (byteArr dl)) W F₄.out (by omega) hh ?cb5 ?cb6 Mono.ls (fun v h' k z => .inr z) (hW _) hl5
            (words_hi hmD) (fun j _ k hk => idx_bits _ j k hk) (hS3 _ hD) (cbB_bits _) (fun i _ => cbB_ck _ i) rfl rfl) rfl) (fun vs h k ⟨v, e, L, ev, hL, ba⟩ => ?cb7) rfl) ?cb8 Mono.li (fun a b h k z z' => (cmp_eqLI hu z z').mono fun v h k z => by rw [show decide (dl = dl) = true by simp] at z; exact z) rfl).mono fun v h k z => ⟨z, Tab.keeps tab₄ k⟩
          case cb4 => walk_at "m_blt"
          case cb5 => walk_at "m_var"
          case cb6 => walk_at "m_var"
          case cb7 =>
            subst e
            have := call_listA (prog := theRow.prog) (w := w) (X := X') (A := callerA.deeper env) hh ev ba (by omega) (F₄.keep k).live
            rw [hbD] at this
            exact this.c
          case cb8 => walk_at "m_var"
      case no =>
        have F₃ := F₂.keep k₃
        refine exc_returnZ (Z := fun a => a = 91) (P := fun v h => isB true v h ∧ Tab X' h) (cxc_and (R := Tab X') (cx_checkCall (X := X') (ws := nmsOf ll) (parts := wordsOf (byteArr dl) N) (B := byteArr dl) (cb := cbB (byteArr dl)) (idx := idxB (byteArr dl)) (x := Str.join sp (wordsOf (byteArr dl) N)) W F₃.out (by omega) hh hbm hX91 (Tab.keeps tab₂ k₃) ?cc1 (ev_join (X := X') ev_str ?cc2 (hsum _) (fun _ => rfl) rfl rfl) (hjl _) (words_split (by omega)) (hW _) hl5
          (words_hi hmD) (fun j _ => idx_lt _ j) (fun j _ k hk => idx_bits _ j k hk) (hS3 _ hD) (cbB_bits _) (fun i _ => cbB_ck _ i) rfl rfl) (fun h₄ k₄ l₄ tab₄ => ?cc3)) (fun a z => .inr z) (fun v h' k z => ⟨z.1, TabOk.narrow z.2 hX⟩)
        case cc1 => walk_at "m_var"
        case cc2 => walk_at "m_var"
        case cc3 =>
          have F₄ := hmut F₃ k₄ l₄
          refine (evc_cmp (P₁ := isLI X' tl) (P₂ := isLI X' tl) (evc_T (T := "list") (PL := fun vs h => ∃ v, vs = [v] ∧ ∃ L, v = .ref L ∧ h₄.get? L = none ∧ IsBA h L (byteArr tl)) ?cc4 (evc_args1 (evc_entCall (P₁ := isS (Str.join sp (wordsOf (byteArr tl) N))) (X := X') (ws := nmsOf ll) (parts := wordsOf (byteArr tl) N) (B := byteArr tl) (cb := cbB (byteArr tl)) (idx := idxB (byteArr tl)) W F₄.out (by omega) hh ?cc5 (ev_join (X := X') ev_str ?cc6 (hsum _) (fun _ => rfl) rfl rfl) Mono.s (fun v h' k z => .inl ⟨_, z, hjl _, words_split (by omega)⟩) (hW _) hl5
            (words_hi hmT) (fun j _ k hk => idx_bits _ j k hk) (hS3 _ hT) (cbB_bits _) (fun i _ => cbB_ck _ i) rfl rfl) rfl) (fun vs h k ⟨v, e, L, ev, hL, ba⟩ => ?cc7) rfl) ?cc8 Mono.li (fun a b h k z z' => (cmp_eqLI hu z z').mono fun v h k z => by rw [show decide (tl = tl) = true by simp] at z; exact z) rfl).mono fun v h k z => ⟨z, Tab.keeps tab₄ k⟩
          case cc4 => walk_at "m_blt"
          case cc5 => walk_at "m_var"
          case cc6 => walk_at "m_var"
          case cc7 =>
            subst e
            have := call_listA (prog := theRow.prog) (w := w) (X := X') (A := callerA.deeper env) hh ev ba (by omega) (F₄.keep k).live
            rw [hbT] at this
            exact this.c
          case cc8 => walk_at "m_var"

theorem law_holds : PySem.Challenge.rw_fe0189_02.Holds := enter law_walk
end Mine

theorem PySem.Challenge.cw_fe0189_02_holds : PySem.Challenge.rw_fe0189_02.Holds :=
  Mine.law_holds
