import PyProof.Rows.All
import Wide.All
import OpenK.AllK
import Wide.FinOn
import Lean
import PySem.Challenge.RW_pe0025_01
open PySem PySem.W PyProof.Rows
set_option Elab.async false
set_option maxRecDepth 100000
set_option autoImplicit false
set_option linter.unusedVariables false
set_option linter.unusedSimpArgs false

namespace Mine

abbrev Pg : Program := PySem.Challenge.pw_pe0025_01
abbrev Md (w : World) : Model := model Pg w

def NoE : Value → Shared → Prop := fun _ _ => False

/-- the heap grows: what stood stands -/
def Grow (h h' : Heap) : Prop := ∀ b o, h.get? b = some o → h'.get? b = some o
theorem Grow.refl (h : Heap) : Grow h h := fun _ _ e => e
theorem Grow.trans {a b c : Heap} (x : Grow a b) (y : Grow b c) : Grow a c := fun p o e => y p o (x p o e)
theorem Grow.push (h : Heap) (o : Obj) : Grow h (h.push o) := fun _ _ e => Heap.get?_push_of_some o e

structure GExt (g g' : Array GenState) : Prop where
  old : ∀ (i : Nat) (x : GenState), g[i]? = some x → g'[i]? = some x
  bare : AllBare g → AllBare g'
theorem GExt.refl (g : Array GenState) : GExt g g := ⟨fun _ _ e => e, fun e => e⟩
theorem GExt.trans {a b c : Array GenState} (x : GExt a b) (y : GExt b c) : GExt a c := ⟨fun i g e => y.old i g (x.old i g e), fun e => y.bare (x.bare e)⟩

structure Ext (s s' : Shared) : Prop where
  grow : Grow s.heap s'.heap
  os : s'.os = s.os
  gens : GExt s.gens s'.gens
theorem Ext.refl (s : Shared) : Ext s s := ⟨Grow.refl _, rfl, GExt.refl _⟩
theorem Ext.trans {a b c : Shared} (x : Ext a b) (y : Ext b c) : Ext a c := ⟨x.grow.trans y.grow, y.os.trans x.os, x.gens.trans y.gens⟩
theorem Ext.toks (s : Shared) (t : Nat) : Ext s { s with toks := t } := ⟨Grow.refl _, rfl, GExt.refl _⟩
theorem Ext.heap {s : Shared} {h : Heap} (t : Nat) (g : Grow s.heap h) : Ext s { s with heap := h, toks := t } := ⟨g, rfl, GExt.refl _⟩
theorem Ext.heap' {s : Shared} {h : Heap} (g : Grow s.heap h) : Ext s { s with heap := h } := ⟨g, rfl, GExt.refl _⟩

section
variable {w : World} {A : Around} {α β : Type}

/-- a computation from any state whose heap bears h₀: it ends with R, raises nothing, and only adds -/
def Co (w : World) (A : Around) (t : Sem α) (h₀ : Heap) (R : α → Heap → Prop) : Prop :=
  ∀ s : Shared, Grow h₀ s.heap → wpAny (Md w) A t (fun v s' => R v s'.heap ∧ Ext s s') NoE s

theorem wnd {t : Sem α} {P Q : α → Shared → Prop} {E : Value → Shared → Prop} {s : Shared} (h : wpAny (Md w) A t P NoE s) (k : ∀ a s', P a s' → Q a s') : wpAny (Md w) A t Q E s :=
  wpAny_mono h k fun _ _ f => f.elim

theorem Co.use {t : Sem α} {h₀ : Heap} {R : α → Heap → Prop} {Q : α → Shared → Prop} {E : Value → Shared → Prop} {s : Shared} (c : Co w A t h₀ R) (g : Grow h₀ s.heap)
    (k : ∀ a s', R a s'.heap → Ext s s' → Q a s') : wpAny (Md w) A t Q E s := wnd (c s g) fun a s' p => k a s' p.1 p.2

theorem Co.mono {t : Sem α} {h₀ h₁ : Heap} {R R' : α → Heap → Prop} (c : Co w A t h₀ R) (g : Grow h₀ h₁) (k : ∀ a h, Grow h₁ h → R a h → R' a h) : Co w A t h₁ R' :=
  fun s e => wnd (c s (g.trans e)) fun a _ p => ⟨k a _ (e.trans p.2.grow) p.1, p.2⟩
theorem Co.at {t : Sem α} {h₀ h₁ : Heap} {R : α → Heap → Prop} (c : Co w A t h₀ R) (g : Grow h₀ h₁) : Co w A t h₁ R := c.mono g fun _ _ _ r => r
theorem Co.post {t : Sem α} {h₀ : Heap} {R R' : α → Heap → Prop} (c : Co w A t h₀ R) (k : ∀ a h, Grow h₀ h → R a h → R' a h) : Co w A t h₀ R' := c.mono (Grow.refl _) k

theorem Co.bind {t : Sem α} {k : α → Sem β} {h₀ : Heap} {R : α → Heap → Prop} {R' : β → Heap → Prop} (c : Co w A t h₀ R) (d : ∀ a h₁, Grow h₀ h₁ → R a h₁ → Co w A (k a) h₁ R') : Co w A (t >>= k) h₀ R' :=
  fun s g => wpAny_bind (c.use g fun a s₁ r e => wnd (d a s₁.heap (g.trans e.grow) r s₁ (Grow.refl _)) fun _ _ p => ⟨p.1, e.trans p.2⟩)
theorem Co.pure {a : α} {h₀ : Heap} {R : α → Heap → Prop} (r : ∀ h, Grow h₀ h → R a h) : Co w A (Pure.pure a : Sem α) h₀ R := fun s g => wpAny_pure ⟨r _ g, Ext.refl _⟩

/-- from a rule that gives back a state with new toks alone -/
theorem Co.of {t : Sem α} {h₀ : Heap} {R : α → Heap → Prop} (h : ∀ s : Shared, Grow h₀ s.heap → ∀ Q : α → Shared → Prop, (∀ a s', R a s'.heap → Ext s s' → Q a s') → wpAny (Md w) A t Q NoE s) : Co w A t h₀ R :=
  fun s g => h s g _ fun _ _ r e => ⟨r, e⟩
end

abbrev Rl := Value → Heap → Prop
def Mono (R : Rl) : Prop := ∀ v h h', Grow h h' → R v h → R v h'

def VInt (n : Int) : Rl := fun v _ => ∃ t, v = .int n t
def VStr (x : Str) : Rl := fun v _ => ∃ t, v = .str x t
def VBytes (b : Array UInt8) : Rl := fun v _ => ∃ t, v = .bytes b t
def VBool (b : Bool) : Rl := fun v _ => v = .bool b
def VIs (u : Value) : Rl := fun v _ => v = u
theorem VInt.mono (n : Int) : Mono (VInt n) := fun _ _ _ _ r => r
theorem VStr.mono (x : Str) : Mono (VStr x) := fun _ _ _ _ r => r
theorem VBytes.mono (x : Array UInt8) : Mono (VBytes x) := fun _ _ _ _ r => r
theorem VBool.mono (b : Bool) : Mono (VBool b) := fun _ _ _ _ r => r
theorem VIs.mono (u : Value) : Mono (VIs u) := fun _ _ _ _ r => r

def Pw (h : Heap) : List Rl → List Value → Prop
  | [], [] => True
  | r :: rs, v :: vs => r v h ∧ Pw h rs vs
  | _, _ => False
theorem Pw.mono {h h' : Heap} (g : Grow h h') : ∀ {rs : List Rl} {vs : List Value}, (∀ r ∈ rs, Mono r) → Pw h rs vs → Pw h' rs vs
  | [], [], _, _ => trivial
  | r :: _, _ :: _, m, p => ⟨m r (.head _) _ _ _ g p.1, Pw.mono g (fun r hr => m r (.tail _ hr)) p.2⟩
  | [], _ :: _, _, p => p.elim
  | _ :: _, [], _, p => p.elim
theorem Pw.length {h : Heap} : ∀ {rs : List Rl} {vs : List Value}, Pw h rs vs → vs.length = rs.length
  | [], [], _ => rfl
  | _ :: _, _ :: _, p => by rw [List.length_cons, List.length_cons, Pw.length p.2]
  | [], _ :: _, p => p.elim
  | _ :: _, [], p => p.elim
theorem Pw.get {h : Heap} : ∀ {rs : List Rl} {vs : List Value} {i : Nat} {r : Rl}, Pw h rs vs → rs[i]? = some r → ∃ v, vs[i]? = some v ∧ r v h
  | _ :: _, v :: _, 0, _, p, e => by cases e; exact ⟨v, rfl, p.1⟩
  | _ :: rs, _ :: vs, i + 1, _, p, e => Pw.get (rs := rs) (vs := vs) (i := i) p.2 e
  | [], _, _, _, _, e => by cases e
  | _ :: _, [], _, _, p, _ => p.elim
theorem Pw.get' {h : Heap} : ∀ {rs : List Rl} {vs : List Value} {i : Nat} {v : Value}, Pw h rs vs → vs[i]? = some v → ∃ r, rs[i]? = some r ∧ r v h
  | r :: _, _ :: _, 0, _, p, e => by cases e; exact ⟨r, rfl, p.1⟩
  | _ :: rs, _ :: vs, i + 1, _, p, e => Pw.get' (rs := rs) (vs := vs) (i := i) p.2 e
  | _, [], _, _, _, e => by cases e
  | [], _ :: _, _, _, p, _ => p.elim
theorem Pw.append {h : Heap} : ∀ {rs rs' : List Rl} {vs vs' : List Value}, Pw h rs vs → Pw h rs' vs' → Pw h (rs ++ rs') (vs ++ vs')
  | [], _, [], _, _, q => q
  | _ :: _, _, _ :: _, _, p, q => ⟨p.1, Pw.append p.2 q⟩
  | [], _, _ :: _, _, p, _ => p.elim
  | _ :: _, _, [], _, p, _ => p.elim

def VList (rs : List Rl) : Rl := fun v h => ∃ a its, v = .ref a ∧ h.PlainList a its ∧ Pw h rs its.toList
/-- a list of which the plain make is not known -/
def VListW (rs : List Rl) : Rl := fun v h => ∃ a its, v = .ref a ∧ h.IsList a its ∧ Pw h rs its.toList
theorem IsList.grow {h h' : Heap} {a : Addr} {its : Array Value} (x : h.IsList a its) (g : Grow h h') : h'.IsList a its := let ⟨o, ho, r⟩ := x; ⟨o, g _ _ ho, r⟩
theorem PlainList.grow {h h' : Heap} {a : Addr} {its : Array Value} (x : h.PlainList a its) (g : Grow h h') : h'.PlainList a its := let ⟨n, e⟩ := x; ⟨n, g _ _ e⟩
theorem VList.mono {rs : List Rl} (m : ∀ r ∈ rs, Mono r) : Mono (VList rs) := fun _ _ _ g ⟨a, its, e, l, p⟩ => ⟨a, its, e, PlainList.grow l g, p.mono g m⟩
theorem VListW.mono {rs : List Rl} (m : ∀ r ∈ rs, Mono r) : Mono (VListW rs) := fun _ _ _ g ⟨a, its, e, l, p⟩ => ⟨a, its, e, IsList.grow l g, p.mono g m⟩
theorem VList.weak {rs : List Rl} {v : Value} {h : Heap} (x : VList rs v h) : VListW rs v h := let ⟨a, its, e, l, p⟩ := x; ⟨a, its, e, l.isList, p⟩
theorem mono_ints (l : List Int) : ∀ r ∈ l.map VInt, Mono r := fun r h => by obtain ⟨n, _, rfl⟩ := List.mem_map.mp h; exact VInt.mono n
theorem mono_strs (l : List Str) : ∀ r ∈ l.map VStr, Mono r := fun r h => by obtain ⟨n, _, rfl⟩ := List.mem_map.mp h; exact VStr.mono n
abbrev VInts (l : List Int) : Rl := VList (l.map VInt)
abbrev VStrs (l : List Str) : Rl := VList (l.map VStr)
theorem VInts.mono (l : List Int) : Mono (VInts l) := VList.mono (mono_ints l)
theorem VStrs.mono (l : List Str) : Mono (VStrs l) := VList.mono (mono_strs l)
theorem mono_rows (l : List (List Str)) : ∀ r ∈ l.map VStrs, Mono r := fun r h => by obtain ⟨n, _, rfl⟩ := List.mem_map.mp h; exact VStrs.mono n
abbrev VRows (l : List (List Str)) : Rl := VList (l.map VStrs)
theorem VRows.mono (l : List (List Str)) : Mono (VRows l) := VList.mono (mono_rows l)

end Mine

namespace Mine
section
variable {w : World} {A : Around} {env : Env} {h₀ : Heap}

theorem co_int {i : Int} {k : Nat} {pos : Pos} : Co w A (eval (.Constant (.int i) k pos) env) h₀ (VInt i) :=
  Co.of fun _ _ _ k => wpAny_Constant_int (k _ _ ⟨_, rfl⟩ (Ext.toks _ _))
theorem co_str {x : Str} {k : Nat} {pos : Pos} : Co w A (eval (.Constant (.str x) k pos) env) h₀ (VStr x) :=
  Co.of fun _ _ _ k => Calls.Constant_str (k _ _ ⟨_, rfl⟩ (Ext.toks _ _))
theorem co_bytes {x : List UInt8} {k : Nat} {pos : Pos} : Co w A (eval (.Constant (.bytes x) k pos) env) h₀ (VBytes x.toArray) :=
  fun s _ => fun _ _ _ => ⟨⟨s.toks, rfl⟩, Ext.toks _ _⟩
theorem co_bool {b : Bool} {k : Nat} {pos : Pos} : Co w A (eval (.Constant (.bool b) k pos) env) h₀ (VBool b) :=
  fun s _ => fun _ _ _ => ⟨rfl, Ext.refl s⟩

def Sees (w : World) (A : Around) (env : Env) (h₀ : Heap) (x : Str) (v : Value) : Prop := Co w A (loadName env x) h₀ (VIs v)
theorem Sees.at {h₁ : Heap} {x : Str} {v : Value} (h : Sees w A env h₀ x v) (g : Grow h₀ h₁) : Sees w A env h₁ x v := Co.at h g
theorem sees_local {x : Str} {v : Value} {m : Str → Option Value} (hk : env.scope.kind = .function) (hl : env.kindOf x = some .local) (hn : h₀.Ns env.locals m) (hv : m x = some v) : Sees w A env h₀ x v :=
  fun s g => wpAny_loadName_local hk hl (hn.keeps g) hv ⟨rfl, Ext.refl _⟩
theorem sees_cell {x : Str} {v : Value} {c : Addr} (hk : env.scope.kind = .function) (hl : env.kindOf x = some .cell) (hc : env.cells.lookup x = some c) (hv : h₀.IsCell c (some v)) : Sees w A env h₀ x v :=
  fun s g => wpAny_loadName_cell hk hl hc (hv.keeps g) ⟨rfl, Ext.refl _⟩
theorem sees_free {x : Str} {v : Value} {c : Addr} (hk : env.scope.kind = .function) (hl : env.kindOf x = some .free) (hc : env.cells.lookup x = some c) (hv : h₀.IsCell c (some v)) (hn : (x == ("__classdict__" : Str)) = false) : Sees w A env h₀ x v :=
  fun s g => wpAny_loadName_free hk hl hc (hv.keeps g) ⟨rfl, Ext.refl _⟩ hn
theorem loadName_global {x : Str} {M : Model} {Q : Value → Shared → Prop} {E : Value → Shared → Prop} {s : Shared} (hk : env.scope.kind = .function) (hx : env.kindOf x = some .globalImplicit) (h : wpAny M A (loadGlobal env x) Q E s) : wpAny M A (loadName env x) Q E s := by
  have hb : env.blockKind = .function := by unfold Env.blockKind; rw [hk]; rfl
  have ha : env.scope.kind.isAnnotationScope = false := by rw [hk]; rfl
  unfold loadName
  rw [hb, hx, ha]
  exact h
theorem sees_global {x : Str} {v : Value} {m : Str → Option Value} (hk : env.scope.kind = .function) (hl : env.kindOf x = some .globalImplicit) (hn : h₀.Ns env.globals m) (hv : m x = some v) : Sees w A env h₀ x v :=
  fun s g => loadName_global hk hl (Calls.loadGlobal_global (hn.keeps g) hv ⟨rfl, Ext.refl _⟩)
theorem sees_builtin {x : Str} {v : Value} {m mb : Str → Option Value} (hk : env.scope.kind = .function) (hl : env.kindOf x = some .globalImplicit) (hn : h₀.Ns env.globals m) (hm : m x = none) (hb : h₀.Ns env.builtins mb) (hv : mb x = some v) : Sees w A env h₀ x v :=
  fun s g => loadName_global hk hl (Calls.loadGlobal_builtin (hn.keeps g) hm (hb.keeps g) hv ⟨rfl, Ext.refl _⟩)
theorem co_name {x : Str} {pos : Pos} {v : Value} (h : Sees w A env h₀ x v) (hd : (x == ("__debug__" : Str)) = false := by decide) : Co w A (eval (.Name x pos) env) h₀ (VIs v) :=
  fun s g => wpAny_Name (h s g) hd
theorem co_nameI {x : Str} {pos : Pos} {n : Int} {t : Tok} (h : Sees w A env h₀ x (.int n t)) (hd : (x == ("__debug__" : Str)) = false := by decide) : Co w A (eval (.Name x pos) env) h₀ (VInt n) :=
  (co_name h hd).post fun _ _ _ e => ⟨t, e⟩
theorem co_nameS {x : Str} {pos : Pos} {n : Str} {t : Tok} (h : Sees w A env h₀ x (.str n t)) (hd : (x == ("__debug__" : Str)) = false := by decide) : Co w A (eval (.Name x pos) env) h₀ (VStr n) :=
  (co_name h hd).post fun _ _ _ e => ⟨t, e⟩
theorem co_nameB {x : Str} {pos : Pos} {n : Array UInt8} {t : Tok} (h : Sees w A env h₀ x (.bytes n t)) (hd : (x == ("__debug__" : Str)) = false := by decide) : Co w A (eval (.Name x pos) env) h₀ (VBytes n) :=
  (co_name h hd).post fun _ _ _ e => ⟨t, e⟩
theorem co_nameR {x : Str} {pos : Pos} {v : Value} {R : Rl} (h : Sees w A env h₀ x v) (m : Mono R) (r : R v h₀) (hd : (x == ("__debug__" : Str)) = false := by decide) : Co w A (eval (.Name x pos) env) h₀ R :=
  (co_name h hd).post fun _ _ g e => e ▸ m _ _ _ g r

theorem co_bin {l r : Expr} {op : Operator} {pos : Pos} {R1 R2 R : Rl} (m : Mono R1) (a : Co w A (eval l env) h₀ R1) (b : Co w A (eval r env) h₀ R2)
    (k : ∀ x y h, Grow h₀ h → R1 x h → R2 y h → Co w A (binaryOp op x y) h R) : Co w A (eval (.BinOp l op r pos) env) h₀ R :=
  fun _ g => wpAny_BinOp (a.use g fun x _ r1 e1 => b.use (g.trans e1.grow) fun y s2 r2 e2 =>
    wnd (k x y s2.heap ((g.trans e1.grow).trans e2.grow) (m _ _ _ e2.grow r1) r2 s2 (Grow.refl _)) fun _ _ p => ⟨p.1, (e1.trans e2).trans p.2⟩)
theorem co_add {l r : Expr} {pos : Pos} {x y : Int} (a : Co w A (eval l env) h₀ (VInt x)) (b : Co w A (eval r env) h₀ (VInt y)) : Co w A (eval (.BinOp l .Add r pos) env) h₀ (VInt (x + y)) :=
  co_bin (VInt.mono _) a b fun _ _ _ _ ⟨_, e⟩ ⟨_, f⟩ => by subst e f; exact Co.of fun _ _ _ k => add_int (k _ _ ⟨_, rfl⟩ (Ext.toks _ _))
theorem co_sub {l r : Expr} {pos : Pos} {x y : Int} (a : Co w A (eval l env) h₀ (VInt x)) (b : Co w A (eval r env) h₀ (VInt y)) : Co w A (eval (.BinOp l .Sub r pos) env) h₀ (VInt (x - y)) :=
  co_bin (VInt.mono _) a b fun _ _ _ _ ⟨_, e⟩ ⟨_, f⟩ => by subst e f; exact Co.of fun _ _ _ k => sub_int (k _ _ ⟨_, rfl⟩ (Ext.toks _ _))
theorem co_mod {l r : Expr} {pos : Pos} {x y : Int} (hy : 0 < y) (a : Co w A (eval l env) h₀ (VInt x)) (b : Co w A (eval r env) h₀ (VInt y)) : Co w A (eval (.BinOp l .Mod r pos) env) h₀ (VInt (x % y)) :=
  co_bin (VInt.mono _) a b fun _ _ _ _ ⟨_, e⟩ ⟨_, f⟩ => by
    subst e f; exact Co.of fun _ _ _ k => mod_int (by omega) (k _ _ ⟨_, by rw [Int.fmod_eq_emod_of_nonneg _ (by omega)]⟩ (Ext.toks _ _))
theorem co_div {l r : Expr} {pos : Pos} {x y : Int} (hy : 0 < y) (hs : y.natAbs.log2 < 100) (a : Co w A (eval l env) h₀ (VInt x)) (b : Co w A (eval r env) h₀ (VInt y)) : Co w A (eval (.BinOp l .FloorDiv r pos) env) h₀ (VInt (x / y)) :=
  co_bin (VInt.mono _) a b fun _ _ _ _ ⟨_, e⟩ ⟨_, f⟩ => by
    subst e f; exact Co.of fun _ _ _ k => floordiv_int (by omega) (k _ _ ⟨_, by rw [Int.fdiv_eq_ediv_of_nonneg _ (by omega)]⟩ (Ext.toks _ _)) (.inl (PyProof.noPylong_of_log2 (by omega)))
theorem co_pow {l r : Expr} {pos : Pos} {x y : Int} (h0 : 0 ≤ y) (h1 : y ≤ 1000000) (hx : x.natAbs < 2 ^ 64) (a : Co w A (eval l env) h₀ (VInt x)) (b : Co w A (eval r env) h₀ (VInt y)) : Co w A (eval (.BinOp l .Pow r pos) env) h₀ (VInt (x ^ y.toNat)) :=
  co_bin (VInt.mono _) a b fun _ _ _ _ ⟨_, e⟩ ⟨_, f⟩ => by
    subst e f; exact Co.of fun _ _ _ k => pow_int_small h0 h1 hx (k _ _ ⟨_, rfl⟩ (Ext.toks _ _))

theorem co_cmp {l r : Expr} {op : CmpOp} {pos : Pos} {R1 R2 R : Rl} (m : Mono R1) (a : Co w A (eval l env) h₀ R1) (b : Co w A (eval r env) h₀ R2)
    (k : ∀ x y h, Grow h₀ h → R1 x h → R2 y h → Co w A (compareOp op x y) h R) (hm : behindInMarks op r = false := by with_unfolding_all rfl) : Co w A (eval (.Compare l [op] [r] pos) env) h₀ R :=
  fun _ g => wpAny_Compare1 (a.use g fun x _ r1 e1 => b.use (g.trans e1.grow) fun y s2 r2 e2 =>
    wnd (k x y s2.heap ((g.trans e1.grow).trans e2.grow) (m _ _ _ e2.grow r1) r2 s2 (Grow.refl _)) fun _ _ p => ⟨p.1, (e1.trans e2).trans p.2⟩) hm

def TBool (b : Bool) : Bool → Heap → Prop := fun x _ => x = b
theorem cot_cmp {l r : Expr} {op : CmpOp} {pos : Pos} {whole : Sem Value} {R1 R2 : Rl} {c : Bool} (m : Mono R1) (a : Co w A (eval l env) h₀ R1) (b : Co w A (eval r env) h₀ R2)
    (k : ∀ x y h, Grow h₀ h → R1 x h → R2 y h → Co w A (compareOp op x y) h (VBool c)) (hm : behindInMarks op r = false := by with_unfolding_all rfl) :
    Co w A (isTrue (.Compare l [op] [r] pos) env whole) h₀ (TBool c) :=
  fun _ g => wpAny_isTrue_Compare1 (a.use g fun x _ r1 e1 => b.use (g.trans e1.grow) fun y s2 r2 e2 =>
    wnd (k x y s2.heap ((g.trans e1.grow).trans e2.grow) (m _ _ _ e2.grow r1) r2 s2 (Grow.refl _)) fun v _ p => by
      obtain ⟨e, x⟩ := p
      subst e
      exact wpAny_truthy_bool ⟨rfl, (e1.trans e2).trans x⟩) hm

theorem co_ifexp {t b o : Expr} {pos : Pos} {c : Bool} {R : Rl} (ht : Co w A (isTrue t env (eval t env)) h₀ (TBool c)) (hb : c = true → Co w A (eval b env) h₀ R) (ho : c = false → Co w A (eval o env) h₀ R) :
    Co w A (eval (.IfExp t b o pos) env) h₀ R :=
  fun _ g => wpAny_IfExp (ht.use g fun v s1 r e1 => by
    cases r
    cases hc : c with
    | true => rw [if_pos rfl]; exact wnd (hb hc s1 (g.trans e1.grow)) fun _ _ p => ⟨p.1, e1.trans p.2⟩
    | false => rw [if_neg Bool.false_ne_true]; exact wnd (ho hc s1 (g.trans e1.grow)) fun _ _ p => ⟨p.1, e1.trans p.2⟩)

theorem cmpI {op : CmpOp} {x y : Int} {c : Bool} (h : ∀ (s : Shared) (t u : Tok) (Q : Value → Shared → Prop), Q (.bool c) s → wpAny (Md w) A (compareOp op (.int x t) (.int y u)) Q NoE s) :
    ∀ a b h, Grow h₀ h → VInt x a h → VInt y b h → Co w A (compareOp op a b) h (VBool c) := fun _ _ _ _ ⟨_, e⟩ ⟨_, f⟩ => by subst e f; exact Co.of fun s _ _ k => h s _ _ _ (k _ _ rfl (Ext.refl _))
theorem cmpI_eq {x y : Int} : ∀ a b h, Grow h₀ h → VInt x a h → VInt y b h → Co w A (compareOp .Eq a b) h (VBool (x == y)) := cmpI fun _ _ _ _ q => eq_int q
theorem cmpI_ne {x y : Int} : ∀ a b h, Grow h₀ h → VInt x a h → VInt y b h → Co w A (compareOp .NotEq a b) h (VBool (x != y)) := cmpI fun _ _ _ _ q => ne_int q
theorem cmpI_lt {x y : Int} : ∀ a b h, Grow h₀ h → VInt x a h → VInt y b h → Co w A (compareOp .Lt a b) h (VBool (decide (x < y))) := cmpI fun _ _ _ _ q => lt_int q
theorem cmpI_ge {x y : Int} : ∀ a b h, Grow h₀ h → VInt x a h → VInt y b h → Co w A (compareOp .GtE a b) h (VBool (decide (y ≤ x))) := cmpI fun _ _ _ _ q => ge_int q
theorem cmpS {op : CmpOp} {x y : Str} {c : Bool} (h : ∀ (s : Shared) (t u : Tok) (Q : Value → Shared → Prop), Q (.bool c) s → wpAny (Md w) A (compareOp op (.str x t) (.str y u)) Q NoE s) :
    ∀ a b h, Grow h₀ h → VStr x a h → VStr y b h → Co w A (compareOp op a b) h (VBool c) := fun _ _ _ _ ⟨_, e⟩ ⟨_, f⟩ => by subst e f; exact Co.of fun s _ _ k => h s _ _ _ (k _ _ rfl (Ext.refl _))
theorem cmpS_eq {x y : Str} : ∀ a b h, Grow h₀ h → VStr x a h → VStr y b h → Co w A (compareOp .Eq a b) h (VBool (x == y)) := cmpS fun _ _ _ _ q => PyProof.Rows.eq_str q
theorem cmpS_lt {x y : Str} : ∀ a b h, Grow h₀ h → VStr x a h → VStr y b h → Co w A (compareOp .Lt a b) h (VBool (decide (x.cps.toList < y.cps.toList))) := cmpS fun _ _ _ _ q => PyProof.Rows.lt_str q
end
end Mine

namespace Mine
section
variable {w : World} {A : Around} {env : Env} {h₀ : Heap}

/-- the arguments, one by one -/
def Args (rs : List Rl) : List Value → Heap → Prop := fun vs h => Pw h rs vs
theorem co_sp0 : Co w A (spliced []) h₀ (Args []) := fun _ _ => Calls.spliced_nil ⟨trivial, Ext.refl _⟩
theorem co_sp1 {x : Sem Value} {rest : List (Bool × Sem Value)} {R : Rl} {rs : List Rl} (m : Mono R) (a : Co w A x h₀ R) (b : Co w A (spliced rest) h₀ (Args rs)) : Co w A (spliced ((false, x) :: rest)) h₀ (Args (R :: rs)) :=
  fun _ g => Calls.spliced_cons (a.use g fun _ _ r1 e1 => b.use (g.trans e1.grow) fun _ _ r2 e2 => ⟨⟨m _ _ _ e2.grow r1, r2⟩, e1.trans e2⟩)
theorem co_args1 {e : Expr} {pos : Pos} {R : Rl} (m : Mono R) (a : Co w A (eval e env) h₀ R) (hs : starEach [e] env = [(false, eval e env)] := by rfl) : Co w A (spliced (backTo pos (starEach [e] env))) h₀ (Args [R]) := by
  rw [hs]; exact co_sp1 m a co_sp0
theorem co_args2 {e f : Expr} {pos : Pos} {R S : Rl} (m : Mono R) (n : Mono S) (a : Co w A (eval e env) h₀ R) (b : Co w A (eval f env) h₀ S) (hs : starEach [e, f] env = [(false, eval e env), (false, eval f env)] := by rfl) :
    Co w A (spliced (backTo pos (starEach [e, f] env))) h₀ (Args [R, S]) := by
  rw [hs]; exact co_sp1 m a (co_sp1 n b co_sp0)
theorem co_args3 {e f d : Expr} {pos : Pos} {R S T : Rl} (m : Mono R) (n : Mono S) (o : Mono T) (a : Co w A (eval e env) h₀ R) (b : Co w A (eval f env) h₀ S) (c : Co w A (eval d env) h₀ T) (hs : starEach [e, f, d] env = [(false, eval e env), (false, eval f env), (false, eval d env)] := by rfl) :
    Co w A (spliced (backTo pos (starEach [e, f, d] env))) h₀ (Args [R, S, T]) := by
  rw [hs]; exact co_sp1 m a (co_sp1 n b (co_sp1 o c co_sp0))

theorem evalArgs_trees {f : Value} {e : Expr} {rest : List Expr} {pos : Pos} {Q : PySem.Args → Shared → Prop} {E : Value → Shared → Prop} {s : Shared} (hs : starEach (e :: rest) env = (false, eval e env) :: starEach rest env)
    (h : wpAny (Md w) A (spliced (backTo pos (starEach (e :: rest) env))) (fun vs s' => Q ⟨vs, []⟩ s') E s) : wpAny (Md w) A (evalArgs f true (backTo pos (starEach (e :: rest) env)) []) Q E s := by
  rw [hs] at h ⊢
  exact Calls.evalArgs_plain h
theorem plain_trees {e : Expr} {rest : List Expr} {pos : Pos} (hs : starEach (e :: rest) env = (false, eval e env) :: starEach rest env) (hp : (backTo pos (starEach rest env)).any (·.1) = false) : (backTo pos (starEach (e :: rest) env)).any (·.1) = false := by
  rw [hs]; show (false || (backTo pos (starEach rest env)).any (·.1)) = false; rw [hp]; rfl

theorem co_callB {x : Str} {p pos : Pos} {e : Expr} {rest : List Expr} {id : String} {rs : List Rl} {R : Rl} (hf : Sees w A env h₀ x (.builtin id)) (ha : Co w A (spliced (backTo pos (starEach (e :: rest) env))) h₀ (Args rs))
    (k : ∀ vs h, Grow h₀ h → Pw h rs vs → Co w A (call (.builtin id) vs) h R) (hd : (x == ("__debug__" : Str)) = false := by decide) (hs : starEach (e :: rest) env = (false, eval e env) :: starEach rest env := by rfl)
    (hp : (backTo pos (starEach rest env)).any (·.1) = false := by rfl) : Co w A (eval (.Call (.Name x p) (e :: rest) [] pos) env) h₀ R :=
  fun _ g => wpAny_Call_Name_kw ((co_name hf hd).use g fun f s1 e0 e1 => by
    cases e0
    refine Calls.callWith_builtin (plain_trees hs hp) (evalArgs_trees hs (ha.use (g.trans e1.grow) fun vs s2 r e2 => ?_))
    exact wnd (k vs s2.heap ((g.trans e1.grow).trans e2.grow) r s2 (Grow.refl _)) fun _ _ p => ⟨p.1, (e1.trans e2).trans p.2⟩)
theorem co_callT {x : Str} {p pos : Pos} {e : Expr} {rest : List Expr} {T : String} {rs : List Rl} {R : Rl} (hf : Sees w A env h₀ x (.type T)) (ha : Co w A (spliced (backTo pos (starEach (e :: rest) env))) h₀ (Args rs))
    (k : ∀ vs h, Grow h₀ h → Pw h rs vs → Co w A (call (.type T) vs) h R) (hd : (x == ("__debug__" : Str)) = false := by decide) (hs : starEach (e :: rest) env = (false, eval e env) :: starEach rest env := by rfl)
    (hp : (backTo pos (starEach rest env)).any (·.1) = false := by rfl) : Co w A (eval (.Call (.Name x p) (e :: rest) [] pos) env) h₀ R :=
  fun _ g => wpAny_Call_Name_kw ((co_name hf hd).use g fun f s1 e0 e1 => by
    cases e0
    refine PySem.callWith_type (plain_trees hs hp) (evalArgs_trees hs (ha.use (g.trans e1.grow) fun vs s2 r e2 => ?_))
    exact wnd (k vs s2.heap ((g.trans e1.grow).trans e2.grow) r s2 (Grow.refl _)) fun _ _ p => ⟨p.1, (e1.trans e2).trans p.2⟩)
theorem co_callF {x : Str} {p pos : Pos} {e : Expr} {rest : List Expr} {a : Addr} {o : Obj} {fd : FuncData} {rs : List Rl} {R : Rl} (hf : Sees w A env h₀ x (.ref a)) (ho : h₀.get? a = some o) (hd' : o.data = .func fd)
    (ha : Co w A (spliced (backTo pos (starEach (e :: rest) env))) h₀ (Args rs))
    (k : ∀ vs h, Grow h₀ h → Pw h rs vs → Co w A (call (.ref a) vs) h R) (hd : (x == ("__debug__" : Str)) = false := by decide) (hs : starEach (e :: rest) env = (false, eval e env) :: starEach rest env := by rfl) :
    Co w A (eval (.Call (.Name x p) (e :: rest) [] pos) env) h₀ R :=
  fun _ g => wpAny_Call_Name_kw ((co_name hf hd).use g fun f s1 e0 e1 => by
    cases e0
    refine Calls.callWith_function (o := o) (fd := fd) (evalArgs_trees hs (ha.use (g.trans e1.grow) fun vs s2 r e2 => ⟨⟨((g.trans e1.grow).trans e2.grow) _ _ ho, hd'⟩, ?_⟩))
    exact wnd (k vs s2.heap ((g.trans e1.grow).trans e2.grow) r s2 (Grow.refl _)) fun _ _ p => ⟨p.1, (e1.trans e2).trans p.2⟩)

/-- a method of a str -/
theorem co_methS {o : Expr} {name : Str} {apos pos : Pos} {e : Expr} {rest : List Expr} {id : String} {x : Str} {rs : List Rl} {R : Rl}
    (hbase : attributeBase o name env (eval o env) = eval o env)
    (hfew : ((backTo pos (starEach (e :: rest) env)).all (fun x => !x.1) && (backToKw pos (keywordEach [] env)).all (fun x => x.1.isSome)
      && decide ((e :: rest).length + ([] : List Keyword).length + (if ([] : List Keyword).isEmpty then 0 else 1) < 30)) = true)
    (hline : (apos.endLine == pos.line) = true) (slot : Slot "str" name id) (hty : typeOf (.builtin id) = pure (.type "method_descriptor"))
    (ho : Co w A (eval o env) h₀ (VStr x)) (ha : Co w A (spliced (backTo pos (starEach (e :: rest) env))) h₀ (Args rs))
    (k : ∀ t vs h, Grow h₀ h → Pw h rs vs → Co w A (call (.builtin id) (.str x t :: vs)) h R)
    (hs : starEach (e :: rest) env = (false, eval e env) :: starEach rest env := by rfl)
    (hp : (backTo pos (starEach rest env)).any (·.1) = false := by rfl) : Co w A (eval (.Call (.Attribute o name apos) (e :: rest) [] pos) env) h₀ R :=
  fun _ g => wpAny_Call_method hbase hfew hline F.plainAttrs_str slot hty (ho.use g fun f s1 r1 e1 => by
    obtain ⟨t, rfl⟩ := r1
    refine ⟨typeIs_str _ _ _, (fun a h => nomatch h), ?_⟩
    refine Calls.callWith_builtin (plain_trees hs hp) (evalArgs_trees hs (ha.use (g.trans e1.grow) fun vs s2 r e2 => ?_))
    exact wnd (k t vs s2.heap ((g.trans e1.grow).trans e2.grow) r s2 (Grow.refl _)) fun _ _ p => ⟨p.1, (e1.trans e2).trans p.2⟩)

theorem co_subs {value slice : Expr} {pos : Pos} {R1 R2 R : Rl} (m : Mono R1) (a : Co w A (eval value env) h₀ R1) (b : Co w A (eval slice env) h₀ R2)
    (k : ∀ o i h, Grow h₀ h → R1 o h → R2 i h → Co w A (subscriptTail value slice o i) h R) : Co w A (eval (.Subscript value slice pos) env) h₀ R :=
  fun _ g => Subscript_ (a.use g fun x _ r1 e1 => b.use (g.trans e1.grow) fun y s2 r2 e2 =>
    wnd (k x y s2.heap ((g.trans e1.grow).trans e2.grow) (m _ _ _ e2.grow r1) r2 s2 (Grow.refl _)) fun _ _ p => ⟨p.1, (e1.trans e2).trans p.2⟩)

/-- an optional part of a slice -/
def VPart (i : Option Int) : Rl := fun v _ => match i with | none => v = .none | some n => ∃ t, v = .int n t
theorem VPart.mono (i : Option Int) : Mono (VPart i) := fun _ _ _ _ r => r
theorem co_part0 : Co w A (evalPart none env) h₀ (VPart none) := fun _ _ => wpAny_pure ⟨rfl, Ext.refl _⟩
theorem co_part1 {e : Expr} {n : Int} (a : Co w A (eval e env) h₀ (VInt n)) : Co w A (evalPart (some e) env) h₀ (VPart (some n)) := a
def VSlice (lo hi : Option Int) : Rl := fun v h => ∃ a l u, v = .ref a ∧ h.IsSliceOf a l u .none ∧ VPart lo l h ∧ VPart hi u h
theorem co_slice {lower upper : Option Expr} {p : Pos} {lo hi : Option Int} (a : Co w A (evalPart lower env) h₀ (VPart lo)) (b : Co w A (evalPart upper env) h₀ (VPart hi)) : Co w A (eval (.Slice lower upper none p) env) h₀ (VSlice lo hi) :=
  fun _ g => wpAny_Slice (a.use g fun l _ r1 e1 => b.use (g.trans e1.grow) fun u s2 r2 e2 => wpAny_pure ⟨⟨_, l, u, rfl, Heap.IsSliceOf.new _ _ _ _, r1, r2⟩, (e1.trans e2).trans (Ext.heap' (Grow.push _ _))⟩)
theorem VPart.isPart {v : Value} {h : Heap} {i : Option Int} (x : VPart i v h) : IsPart v i := by
  cases i with
  | none => obtain rfl : v = .none := x; constructor
  | some n => obtain ⟨t, rfl⟩ := (x : ∃ t, v = .int n t); constructor

theorem co_strSlice {value : Expr} {lower upper : Option Expr} {p pos : Pos} {x : Str} {lo hi : Option Int} (hx : x.length ≤ 1000) (v : Co w A (eval value env) h₀ (VStr x)) (a : Co w A (evalPart lower env) h₀ (VPart lo)) (b : Co w A (evalPart upper env) h₀ (VPart hi)) :
    Co w A (eval (.Subscript value (.Slice lower upper none p) pos) env) h₀ (VStr (Txt.slice x lo hi)) := by
  have hsz : x.length ≤ sizeLine := by rw [sizeLine_eq]; omega
  refine co_subs (VStr.mono _) v (co_slice a b) fun o i h _ ⟨t, ho⟩ ⟨ad, l, u, hi', hs, hl, hu⟩ => ?_
  subst ho hi'
  refine Co.of fun s g Q k => ?_
  obtain ⟨ob, e1, e2, e3⟩ := hs
  have fin : ∀ (lp up : Option (Int × Tok)), partValue lp = l → partValue up = u → lp.map (·.1) = lo → up.map (·.1) = hi → wpAny (Md w) A (getItem (.str x t) (.ref ad)) Q NoE s := by
    intro lp up el eu e4 e5
    subst el eu e4 e5
    refine wpAny_getItem_str_slice (l := lp) (u := up) (st := none) ⟨ob, g _ _ e1, e2, e3⟩ rfl (post_val_or_str ⟨Nat.le_trans (Txt.slice_le x _ _) hsz, fun t' tk => k _ _ ⟨_, rfl⟩ (Ext.toks _ _)⟩)
  refine tail_any (typeIs_str _ _ _) F.slot_str_getitem.lookup ?_ (by with_unfolding_all rfl)
  cases lo with
  | none =>
    obtain rfl : l = .none := hl
    cases hi with
    | none => obtain rfl : u = .none := hu; exact fin none none rfl rfl rfl rfl
    | some n => obtain ⟨t1, rfl⟩ := (hu : ∃ t, u = .int n t); exact fin none (some (n, t1)) rfl rfl rfl rfl
  | some m =>
    obtain ⟨t2, rfl⟩ := (hl : ∃ t, l = .int m t)
    cases hi with
    | none => obtain rfl : u = .none := hu; exact fin (some (m, t2)) none rfl rfl rfl rfl
    | some n => obtain ⟨t1, rfl⟩ := (hu : ∃ t, u = .int n t); exact fin (some (m, t2)) (some (n, t1)) rfl rfl rfl rfl
end
end Mine

namespace Mine

theorem pw_ints {h : Heap} : ∀ {ns : List Int} {vs : List Value}, Pw h (ns.map VInt) vs → IntsAre vs ns
  | [], [], _ => .nil
  | n :: ns, v :: vs, p => by obtain ⟨⟨t, rfl⟩, q⟩ := p; exact .cons n t (pw_ints q)
  | [], _ :: _, p => p.elim
  | _ :: _, [], p => p.elim
theorem ints_pw {h : Heap} : ∀ {ns : List Int} {vs : List Value}, IntsAre vs ns → Pw h (ns.map VInt) vs
  | [], [], _ => trivial
  | _ :: _, _ :: _, .cons n t r => ⟨⟨t, rfl⟩, ints_pw r⟩
theorem pw_strs {h : Heap} : ∀ {ns : List Str} {vs : List Value}, Pw h (ns.map VStr) vs → StrsAre vs ns
  | [], [], _ => .nil
  | n :: ns, v :: vs, p => by obtain ⟨⟨t, rfl⟩, q⟩ := p; exact .cons n t (pw_strs q)
  | [], _ :: _, p => p.elim
  | _ :: _, [], p => p.elim
theorem pw_readS {h : Heap} : ∀ {xs : List Str} {vs : List Value}, Pw h (xs.map VStr) vs → ReadsAll h vs (xs.map PyData.str) []
  | [], [], _ => .nil
  | x :: xs, v :: vs, p => by
    obtain ⟨⟨t, rfl⟩, q⟩ := p
    have := ReadsAll.cons (Reads.str (h := h) x t) (pw_readS q)
    simpa using this
  | [], _ :: _, p => p.elim
  | _ :: _, [], p => p.elim
theorem readS {h : Heap} {v : Value} {xs : List Str} (r : VStrs xs v h) : ∃ as, Reads h v (.list (xs.map PyData.str)) as := by
  obtain ⟨a, its, rfl, ⟨o, ho, hc, n, hd⟩, p⟩ := r.weak
  exact ⟨_, Reads.list ho hc hd (pw_readS p)⟩
theorem pw_readR {h : Heap} : ∀ {xs : List (List Str)} {vs : List Value}, Pw h (xs.map VStrs) vs → ∃ as, ReadsAll h vs (xs.map fun r => PyData.list (r.map PyData.str)) as
  | [], [], _ => ⟨_, .nil⟩
  | x :: xs, v :: vs, p => by
    obtain ⟨a, ra⟩ := readS p.1
    obtain ⟨b, rb⟩ := pw_readR p.2
    exact ⟨_, ReadsAll.cons ra rb⟩
  | [], _ :: _, p => p.elim
  | _ :: _, [], p => p.elim
theorem readR {h : Heap} {v : Value} {xs : List (List Str)} (r : VRows xs v h) : ∃ as, Reads h v (.list (xs.map fun r => PyData.list (r.map PyData.str))) as := by
  obtain ⟨a, its, rfl, ⟨o, ho, hc, n, hd⟩, p⟩ := r.weak
  obtain ⟨as, ra⟩ := pw_readR p
  exact ⟨_, Reads.list ho hc hd ra⟩
theorem readI {h : Heap} {v : Value} {xs : List Int} (r : VInts xs v h) : ∃ as, Reads h v (.list (xs.map PyData.int)) as := by
  obtain ⟨a, its, rfl, hl, p⟩ := r.weak
  exact ⟨_, reads_of_ints (vs := its.toList) (by simpa using hl) (pw_ints p)⟩

theorem canLayAll0_strs : ∀ ns : List Str, (∀ x ∈ ns, PyData.strOk x = true) → PyData.canLayAll0 (ns.map PyData.str) = true
  | [], _ => by simp [PyData.canLayAll0]
  | n :: r, h => by simp [PyData.canLayAll0, PyData.canLay0, canLayAll0_strs r fun x hx => h x (.tail _ hx), h n (.head _)]
theorem depthAll_strs : ∀ ns : List Str, PyData.depthAll (ns.map PyData.str) ≤ 1
  | [] => by simp [PyData.depthAll]
  | n :: r => by
    have := depthAll_strs r
    simp only [List.map_cons, PyData.depthAll, PyData.depth]
    omega
theorem canLayAll0_rows : ∀ ns : List (List Str), (∀ r ∈ ns, ∀ x ∈ r, PyData.strOk x = true) → PyData.canLayAll0 (ns.map fun r => PyData.list (r.map PyData.str)) = true
  | [], _ => by simp [PyData.canLayAll0]
  | n :: r, h => by simp [PyData.canLayAll0, PyData.canLay0, canLayAll0_rows r fun x hx => h x (.tail _ hx), canLayAll0_strs n (h n (.head _))]
theorem depthAll_rows : ∀ ns : List (List Str), PyData.depthAll (ns.map fun r => PyData.list (r.map PyData.str)) ≤ 2
  | [] => by simp [PyData.depthAll]
  | n :: r => by
    have := depthAll_rows r
    have := depthAll_strs n
    simp only [List.map_cons, PyData.depthAll, PyData.depth]
    omega
theorem shaped_of {ds : List PyData} (h1 : PyData.canLayAll0 ds = true) (h2 : PyData.depthAll ds ≤ 10) : PySem.SeqAt.shaped (.list ds) = true := by
  have h3 : PyData.depth (.list ds) ≤ 64 := by simp only [PyData.depth]; omega
  show (PyData.canLay0 (.list ds) && decide (PyData.depth (.list ds) ≤ 64)) = true
  rw [Bool.and_eq_true]
  exact ⟨by simp only [PyData.canLay0]; exact h1, decide_eq_true h3⟩
theorem noMix_strs : ∀ ns ms : List Str, PySem.SeqAt.noMixAll (ns.map PyData.str) (ms.map PyData.str) = true
  | [], [] => by simp [PySem.SeqAt.noMixAll]
  | [], _ :: _ => by simp [PySem.SeqAt.noMixAll]
  | _ :: _, [] => by simp [PySem.SeqAt.noMixAll]
  | _ :: r, _ :: q => by simp [PySem.SeqAt.noMixAll, PySem.SeqAt.noMix, noMix_strs r q]
theorem noMix_rows : ∀ ns ms : List (List Str), PySem.SeqAt.noMixAll (ns.map fun r => PyData.list (r.map PyData.str)) (ms.map fun r => PyData.list (r.map PyData.str)) = true
  | [], [] => by simp [PySem.SeqAt.noMixAll]
  | [], _ :: _ => by simp [PySem.SeqAt.noMixAll]
  | _ :: _, [] => by simp [PySem.SeqAt.noMixAll]
  | a :: r, b :: q => by simp [PySem.SeqAt.noMixAll, PySem.SeqAt.noMix, noMix_rows r q, noMix_strs a b]
theorem same_strs : ∀ ns : List Str, PySem.Spec.sameAll (ns.map PyData.str) (ns.map PyData.str) = true
  | [] => by simp [PySem.Spec.sameAll]
  | n :: r => by simp [PySem.Spec.sameAll, PySem.Spec.same, same_strs r]
theorem same_rows : ∀ ns : List (List Str), PySem.Spec.sameAll (ns.map fun r => PyData.list (r.map PyData.str)) (ns.map fun r => PyData.list (r.map PyData.str)) = true
  | [] => by simp [PySem.Spec.sameAll]
  | n :: r => by simp [PySem.Spec.sameAll, PySem.Spec.same, same_strs n, same_rows r]

section
variable {w : World} {A : Around} {env : Env} {h₀ : Heap}

theorem ne_strs (hu : A.units + 64 < cLine) {xs : List Str} (ok : ∀ x ∈ xs, PyData.strOk x = true) : ∀ a b h, Grow h₀ h → VStrs xs a h → VStrs xs b h → Co w A (compareOp .NotEq a b) h (VBool false) := fun a b h _ x y s g => by
  obtain ⟨as, ra⟩ := readS (VStrs.mono _ _ _ _ g x)
  obtain ⟨bs, rb⟩ := readS (VStrs.mono _ _ _ _ g y)
  have hs := shaped_of (canLayAll0_strs xs ok) (Nat.le_trans (depthAll_strs xs) (by decide))
  refine ne_dataH_same ra rb hs hs hu (by simp only [PySem.SeqAt.noMix]; exact noMix_strs xs xs) ⟨?_, Ext.refl _⟩
  simp only [PySem.Spec.same, same_strs]; rfl
theorem ne_rows (hu : A.units + 64 < cLine) {xs : List (List Str)} (ok : ∀ r ∈ xs, ∀ x ∈ r, PyData.strOk x = true) : ∀ a b h, Grow h₀ h → VRows xs a h → VRows xs b h → Co w A (compareOp .NotEq a b) h (VBool false) := fun a b h _ x y s g => by
  obtain ⟨as, ra⟩ := readR (VRows.mono _ _ _ _ g x)
  obtain ⟨bs, rb⟩ := readR (VRows.mono _ _ _ _ g y)
  have hs := shaped_of (canLayAll0_rows xs ok) (Nat.le_trans (depthAll_rows xs) (by decide))
  refine ne_dataH_same ra rb hs hs hu (by simp only [PySem.SeqAt.noMix]; exact noMix_rows xs xs) ⟨?_, Ext.refl _⟩
  simp only [PySem.Spec.same, same_rows]; rfl
theorem ne_ints (hu : A.units + 64 < cLine) {xs : List Int} : ∀ a b h, Grow h₀ h → VInts xs a h → VInts xs b h → Co w A (compareOp .NotEq a b) h (VBool false) := fun a b h _ x y s g => by
  obtain ⟨a, i1, rfl, l1, p1⟩ := (VInts.mono _ _ _ _ g x).weak
  obtain ⟨b, i2, rfl, l2, p2⟩ := (VInts.mono _ _ _ _ g y).weak
  refine ne_intsK (vs := i1.toList) (us := i2.toList) (by simpa using l1) (pw_ints p1) (by simpa using l2) (pw_ints p2) hu ⟨?_, Ext.refl _⟩
  simp [VBool]

/-- a list display -/
theorem co_list {elts : List Expr} {pos : Pos} {rs : List Rl} (hl : rs.length ≤ 1000) (ha : Co w A (spliced (backTo pos (starEach elts env))) h₀ (Args rs)) (mr : ∀ r ∈ rs, Mono r) : Co w A (eval (.List elts pos) env) h₀ (VList rs) :=
  fun _ g => wpAny_List (ha.use g fun vs s1 r e1 => by
    have hn : vs.length = rs.length := Pw.length r
    refine ⟨by rw [hn, sizeLine_eq]; omega, ⟨_, _, rfl, ⟨_, Heap.get?_push_size _ rfl⟩, ?_⟩, e1.trans (Ext.heap' (Grow.push _ _))⟩
    rw [List.toList_toArray]
    exact Pw.mono (Grow.push _ _) mr r)

theorem pw_take {h : Heap} : ∀ (n : Nat) {rs : List Rl} {vs : List Value}, Pw h rs vs → Pw h (rs.take n) (vs.take n)
  | 0, _, _, _ => by simp [Pw]
  | _ + 1, [], [], _ => trivial
  | n + 1, _ :: _, _ :: _, p => ⟨p.1, pw_take n p.2⟩
  | _ + 1, [], _ :: _, p => p.elim
  | _ + 1, _ :: _, [], p => p.elim
theorem pw_drop {h : Heap} : ∀ (n : Nat) {rs : List Rl} {vs : List Value}, Pw h rs vs → Pw h (rs.drop n) (vs.drop n)
  | 0, _, _, p => p
  | _ + 1, [], [], _ => trivial
  | n + 1, _ :: rs, _ :: vs, p => by rw [List.drop_succ_cons, List.drop_succ_cons]; exact pw_drop n p.2
  | _ + 1, [], _ :: _, p => p.elim
  | _ + 1, _ :: _, [], p => p.elim

theorem pick_upto (its : Array Value) (n : Nat) : (slicePick its none (some (n : Int)) none).toList = its.toList.take n := by
  rw [kms_pick_eq]
  simp only [kms_pick]
  show (its.toList.drop (kms_lo none its.toList.length)).take (kms_hi (some (n : Int)) its.toList.length - kms_lo none its.toList.length) = _
  have e1 : kms_lo none its.toList.length = 0 := by simp [kms_lo]
  have e2 : kms_hi (some (n : Int)) its.toList.length = min n its.toList.length := by
    simp only [kms_hi]; rw [if_neg (by omega), Int.toNat_natCast]
  rw [e1, e2, List.drop_zero, Nat.sub_zero, kmk_take_min]
theorem pick_from (its : Array Value) (n : Nat) : (slicePick its (some (n : Int)) none none).toList = its.toList.drop n := by
  rw [kms_pick_eq]
  simp only [kms_pick]
  have e1 : kms_lo (some (n : Int)) its.toList.length = min n its.toList.length := by
    simp only [kms_lo]; rw [if_neg (by omega), Int.toNat_natCast]
  have e2 : kms_hi none its.toList.length = its.toList.length := by simp [kms_hi]
  rw [e1, e2, kmk_drop_min]
  exact List.take_of_length_le (by rw [List.length_drop]; omega)

theorem co_listSlice {value : Expr} {lower upper : Option Expr} {p pos : Pos} {rs : List Rl} {lo hi : Option Int} {R : Rl} (mr : ∀ r ∈ rs, Mono r) (hl : rs.length ≤ 1000) (v : Co w A (eval value env) h₀ (VListW rs)) (a : Co w A (evalPart lower env) h₀ (VPart lo)) (b : Co w A (evalPart upper env) h₀ (VPart hi))
    (k : ∀ a h its, h.PlainList a (slicePick its lo hi none) → Pw h rs its.toList → R (.ref a) h) :
    Co w A (eval (.Subscript value (.Slice lower upper none p) pos) env) h₀ R := by
  refine co_subs (VListW.mono mr) v (co_slice a b) fun o i h _ ⟨la, its, ho, hL, pw⟩ ⟨ad, l, u, hi', hs, hl', hu⟩ => ?_
  subst ho hi'
  refine Co.of fun s g Q q => ?_
  have hL' := IsList.grow hL g
  obtain ⟨ob, e1, e2, e3⟩ := hs
  have hn : its.size = rs.length := by rw [← Array.length_toList]; exact Pw.length pw
  refine tail_any (T := "list") (by obtain ⟨o, x1, x2, _⟩ := hL'; exact ⟨o, x1, x2⟩) F.slot_list_getitem.lookup ?_ (by with_unfolding_all rfl)
  refine wpAny_getItem_list_slice hL' ⟨ob, g _ _ e1, e2, e3⟩ hl'.isPart hu.isPart .none (by intro e; cases e) ?_ (by rw [hn, sizeLine_eq]; omega)
  refine q _ _ (k _ _ its ⟨_, Heap.get?_push_size _ rfl⟩ (Pw.mono (g.trans (Grow.push _ _)) mr pw)) (Ext.heap' (Grow.push _ _))
theorem Co.weak {t : Sem Value} {rs : List Rl} (v : Co w A t h₀ (VList rs)) : Co w A t h₀ (VListW rs) := v.post fun _ _ _ r => r.weak
theorem co_uptoW {value e : Expr} {p pos : Pos} {rs : List Rl} {n : Nat} (mr : ∀ r ∈ rs, Mono r) (hl : rs.length ≤ 1000) (v : Co w A (eval value env) h₀ (VListW rs)) (b : Co w A (eval e env) h₀ (VInt n)) :
    Co w A (eval (.Subscript value (.Slice none (some e) none p) pos) env) h₀ (VList (rs.take n)) :=
  co_listSlice mr hl v co_part0 (co_part1 b) fun a h its hL pw => ⟨a, _, rfl, hL, by rw [pick_upto]; exact pw_take n pw⟩
theorem co_upto {value e : Expr} {p pos : Pos} {rs : List Rl} {n : Nat} (mr : ∀ r ∈ rs, Mono r) (hl : rs.length ≤ 1000) (v : Co w A (eval value env) h₀ (VList rs)) (b : Co w A (eval e env) h₀ (VInt n)) :
    Co w A (eval (.Subscript value (.Slice none (some e) none p) pos) env) h₀ (VList (rs.take n)) :=
  co_uptoW mr hl (Co.weak v) b
theorem co_from {value e : Expr} {p pos : Pos} {rs : List Rl} {n : Nat} (mr : ∀ r ∈ rs, Mono r) (hl : rs.length ≤ 1000) (v : Co w A (eval value env) h₀ (VList rs)) (b : Co w A (eval e env) h₀ (VInt n)) :
    Co w A (eval (.Subscript value (.Slice (some e) none none p) pos) env) h₀ (VList (rs.drop n)) :=
  co_listSlice mr hl (Co.weak v) (co_part1 b) co_part0 fun a h its hL pw => ⟨a, _, rfl, hL, by rw [pick_from]; exact pw_drop n pw⟩

theorem co_listIdx {value slice : Expr} {pos : Pos} {rs : List Rl} {n : Nat} {R : Rl} (mr : ∀ r ∈ rs, Mono r) (hl : rs.length ≤ 1000) (hr : rs[n]? = some R) (v : Co w A (eval value env) h₀ (VList rs)) (b : Co w A (eval slice env) h₀ (VInt n))
    (hs : ∀ a t, subscripted slice false (.ref a) (.int n t) = operate [.ref a, .int n t] (getItem (.ref a) (.int n t)) := by intro _ _; with_unfolding_all rfl) :
    Co w A (eval (.Subscript value slice pos) env) h₀ R := by
  refine co_subs (VList.mono mr) v b fun o i h _ ⟨la, its, ho, hL, pw⟩ ⟨t, hi'⟩ => ?_
  subst ho hi'
  refine Co.of fun s g Q q => ?_
  have hL' := IsList.grow hL.isList g
  obtain ⟨x, hx, rx⟩ := Pw.get (Pw.mono g mr pw) hr
  have hlt : n < rs.length := by
    by_cases h : n < rs.length
    · exact h
    · rw [List.getElem?_eq_none (by omega)] at hr; cases hr
  refine tail_any (T := "list") (by obtain ⟨o, x1, x2, _⟩ := hL'; exact ⟨o, x1, x2⟩) F.slot_list_getitem.lookup ?_ (hs _ _)
  exact wpAny_getItem_list hL' (Int.natCast_nonneg n) (by omega) (by rw [Int.toNat_natCast, ← Array.getElem?_toList]; exact hx) (q _ _ rx (Ext.refl _))
theorem co_listLast {value slice : Expr} {pos : Pos} {rs : List Rl} {R : Rl} (mr : ∀ r ∈ rs, Mono r) (hl : rs.length ≤ 1000) (hr : rs.getLast? = some R) (v : Co w A (eval value env) h₀ (VList rs)) (b : Co w A (eval slice env) h₀ (VInt (-1)))
    (hs : ∀ a t, subscripted slice false (.ref a) (.int (-1) t) = operate [.ref a, .int (-1) t] (getItem (.ref a) (.int (-1) t)) := by intro _ _; with_unfolding_all rfl) :
    Co w A (eval (.Subscript value slice pos) env) h₀ R := by
  refine co_subs (VList.mono mr) v b fun o i h _ ⟨la, its, ho, hL, pw⟩ ⟨t, hi'⟩ => ?_
  subst ho hi'
  refine Co.of fun s g Q q => ?_
  have hL' := IsList.grow hL.isList g
  rw [List.getLast?_eq_getElem?] at hr
  obtain ⟨x, hx, rx⟩ := Pw.get (Pw.mono g mr pw) hr
  have hn : its.size = rs.length := by rw [← Array.length_toList]; exact Pw.length pw
  have hlt : rs.length - 1 < rs.length := by
    by_cases h : rs.length - 1 < rs.length
    · exact h
    · rw [List.getElem?_eq_none (by omega)] at hr; cases hr
  refine tail_any (T := "list") (by obtain ⟨o, x1, x2, _⟩ := hL'; exact ⟨o, x1, x2⟩) F.slot_list_getitem.lookup ?_ (hs _ _)
  refine wpAny_getItem_list_neg hL' (by decide) (by omega) (by decide) ?_ (q _ _ rx (Ext.refl _))
  rw [← Array.getElem?_toList, show (-1 + (its.size : Int)).toNat = rs.length - 1 by omega]
  exact hx
end
end Mine

namespace Mine

theorem lm_list_mul_bool (l : Addr) (items : Array Value) (n : Nat) (d : Option Addr) (sl : Array (Option Value)) (b : Bool) (hc1 : ¬items.size * (if b then (1 : Int) else 0).toNat > (2 ^ 63 - 1) / 8) (hc2 : ¬Builtin.List.listTooLong (items.size * (if b then (1 : Int) else 0).toNat) = true) :
    Meets (Builtin.«list.__mul__» ⟨[.ref l, .bool b], []⟩) (fun _ R s => s.heap.get? l = some { cls := .type "list", dict := d, data := .seq items n, slots := sl } ∧ R (.ok (.ret (Value.ref s.heap.objs.size))) { s with heap := s.heap.push { cls := Value.type "list", data := Data.seq (List.foldl (fun x1 x2 => x1 ++ x2) #[] (List.replicate (if items.isEmpty = true then 0 else (if b then (1 : Int) else 0).toNat) items)) }, toks := s.toks }) :=
  .of_wp fun prog w A R s h => by
    obtain ⟨hp, g, d, tk, os⟩ := s; obtain ⟨hl, h⟩ := h
    have hsz := AutoListH.joined_fits hc2
    have hc0 : ¬(!Builtin.List.listFitsIndex (if b then (1 : Int) else 0)) = true := by cases b <;> decide
    cases b
    · wp_walk; exact ⟨_, rfl, h⟩
    · wp_walk
      refine wpAny_ite_false (decide_eq_false hc1) ?_
      wp_walk
      refine wpAny_ite_false (decide_eq_false hc2) ?_
      wp_walk
      refine wpAny_ite_false (decide_eq_false (Nat.not_lt.mpr hsz)) ?_
      wp_walk
      exact ⟨_, rfl, h⟩
theorem lm_int_rmul_list_bool (b : Bool) (l : Addr) (items : Array Value) (n : Nat) (d : Option Addr) (sl : Array (Option Value)) :
    Meets (Builtin.«int.__rmul__» ⟨[.bool b, .ref l], []⟩) (fun _ R s => s.heap.get? l = some { cls := .type "list", dict := d, data := .seq items n, slots := sl } ∧ R (.ok (.ret Value.notImplemented)) s) :=
  .of_wp fun prog w A R s h => by obtain ⟨hp, g, d, tk, os⟩ := s; obtain ⟨hl, h⟩ := h; wp_walk; exact ⟨_, rfl, h⟩

theorem pw_rep {h : Heap} {rs : List Rl} {vs : List Value} (p : Pw h rs vs) : ∀ n : Nat, Pw h (List.replicate n rs).flatten (List.replicate n vs).flatten
  | 0 => trivial
  | n + 1 => by rw [List.replicate_succ, List.replicate_succ, List.flatten_cons, List.flatten_cons]; exact p.append (pw_rep p n)

section
variable {w : World} {A : Around} {env : Env} {h₀ : Heap}

theorem co_listAdd {l r : Expr} {pos : Pos} {rs ss : List Rl} (mr : ∀ r ∈ rs, Mono r) (ms : ∀ r ∈ ss, Mono r) (hn : rs.length ≤ 1000) (hm : ss.length ≤ 1000) (a : Co w A (eval l env) h₀ (VList rs)) (b : Co w A (eval r env) h₀ (VList ss)) :
    Co w A (eval (.BinOp l .Add r pos) env) h₀ (VList (rs ++ ss)) :=
  co_bin (VList.mono mr) a b fun x y h _ x1 y1 => fun s g => by
    obtain ⟨la, i1, rfl, ⟨n1, l1⟩, p1⟩ := VList.mono mr _ _ _ g x1
    obtain ⟨lb, i2, rfl, ⟨n2, l2⟩, p2⟩ := VList.mono ms _ _ _ g y1
    have s1 : i1.size = rs.length := by rw [← Array.length_toList]; exact Pw.length p1
    have s2 : i2.size = ss.length := by rw [← Array.length_toList]; exact Pw.length p2
    refine concat_meets ⟨_, l1, rfl⟩ ⟨_, l2, rfl⟩ noFill_list_add seq_list_add PySem.F.slot_list_add PySem.F.entry_list_add (PySem.F.args_list_add_2 _ _) (list_addW la lb i1 i2 n1 n2 none none #[] #[] (by rw [s1, s2, sizeLine_eq]; omega)) ⟨l1, l2, ?_⟩
    refine ⟨⟨_, _, rfl, ⟨_, Heap.get?_push_size _ rfl⟩, ?_⟩, Ext.heap' (Grow.push _ _)⟩
    rw [Array.toList_append]
    exact (p1.mono (Grow.push _ _) mr).append (p2.mono (Grow.push _ _) ms)

theorem co_listMulI {l r : Expr} {pos : Pos} {rs : List Rl} {x : Int} (mr : ∀ r ∈ rs, Mono r) (hn : rs.length ≤ 1000) (hm : x ≤ 1000) (h0 : 0 ≤ x) (a : Co w A (eval l env) h₀ (VList rs)) (b : Co w A (eval r env) h₀ (VInt x)) :
    Co w A (eval (.BinOp l .Mult r pos) env) h₀ (VList (List.replicate x.toNat rs).flatten) :=
  co_bin (VList.mono mr) a b fun xx y h _ x1 y1 => fun s g => by
    obtain ⟨la, i1, rfl, ⟨k, ho⟩, p1⟩ := VList.mono mr _ _ _ g x1
    obtain ⟨u, rfl⟩ := y1
    have s1 : i1.size = rs.length := by rw [← Array.length_toList]; exact Pw.length p1
    have s2 : i1.size * x.toNat ≤ 1000 * 1000 := by rw [s1]; exact Nat.mul_le_mul hn (by omega)
    have s3 : i1.size * x.toNat ≤ 2 ^ 24 := Nat.le_trans s2 (by decide)
    refine wpAny_binaryOp_repeat_ref (T := "list") (U := "int") (by decide) ⟨_, ho, rfl⟩ (fun s' => typeIs_int s' x u) noFill_list_mul F.fills_int_mul F.slot_int_rmul repeat_list F.slot_int_index.lookup
      (call_meets F.slot_int_rmul (typeIs_int s x u) F.entry_int_rmul (F.args_int_rmul_2 _ _) (lm_int_rmul_list_any x u la i1 k none #[])
        ⟨ho, rfl, ⟨_, ho, rfl⟩, call_meets F.slot_list_mul ⟨_, ho, rfl⟩ F.entry_list_mul (F.args_list_mul_2 _ _)
          (lm_list_mul_any la i1 k none #[] x u (by simp [Builtin.List.listFitsIndex]; omega) (by omega) (by simp [Builtin.List.listTooLong, sizeLine]; omega))
          ⟨ho, ?_⟩⟩)
    refine ⟨⟨_, _, rfl, ⟨_, Heap.get?_push_size _ rfl⟩, ?_⟩, Ext.heap (s := s) s.toks (Grow.push _ _)⟩
    rw [listMul_foldl_if, List.toList_toArray]
    exact pw_rep (p1.mono (Grow.push _ _) mr) x.toNat

theorem co_listMulB {l r : Expr} {pos : Pos} {rs : List Rl} {c : Bool} (mr : ∀ r ∈ rs, Mono r) (hn : rs.length ≤ 1000) (a : Co w A (eval l env) h₀ (VList rs)) (b : Co w A (eval r env) h₀ (VBool c)) :
    Co w A (eval (.BinOp l .Mult r pos) env) h₀ (VList (if c then rs else [])) :=
  co_bin (VList.mono mr) a b fun x y h _ x1 y1 => fun s g => by
    obtain ⟨la, i1, rfl, ⟨k, ho⟩, p1⟩ := VList.mono mr _ _ _ g x1
    cases y1
    have s1 : i1.size = rs.length := by rw [← Array.length_toList]; exact Pw.length p1
    have s2 : i1.size * (if c then (1 : Int) else 0).toNat ≤ 1000 := by rw [s1]; cases c <;> simp; exact hn
    have f2 : ¬i1.size * (if c then (1 : Int) else 0).toNat > (2 ^ 63 - 1) / 8 := by
      have : (1000000 : Nat) ≤ (2 ^ 63 - 1) / 8 := by decide
      omega
    have f3 : ¬Builtin.List.listTooLong (i1.size * (if c then (1 : Int) else 0).toNat) = true := by
      simp only [Builtin.List.listTooLong, decide_eq_true_eq]
      rw [sizeLine_eq]; omega
    refine wpAny_binaryOp_repeat_ref (T := "list") (U := "bool") (by decide) ⟨_, ho, rfl⟩ (fun s' => PySem.typeIs_bool s' c) noFill_list_mul F.fills_bool_mul F.slot_bool_rmul repeat_list F.slot_bool_index.lookup
      (call_meets F.slot_bool_rmul (PySem.typeIs_bool s c) F.entry_int_rmul (F.args_int_rmul_2 _ _) (lm_int_rmul_list_bool c la i1 k none #[])
        ⟨ho, rfl, ⟨_, ho, rfl⟩, call_meets F.slot_list_mul ⟨_, ho, rfl⟩ F.entry_list_mul (F.args_list_mul_2 _ _)
          (lm_list_mul_bool la i1 k none #[] c f2 f3)
          ⟨ho, ?_⟩⟩)
    refine ⟨⟨_, _, rfl, ⟨_, Heap.get?_push_size _ rfl⟩, ?_⟩, Ext.heap (s := s) s.toks (Grow.push _ _)⟩
    rw [listMul_foldl_if, List.toList_toArray]
    cases c
    · exact trivial
    · have := pw_rep (p1.mono (Grow.push s.heap { cls := Value.type "list", data := Data.seq (List.replicate (if true then (1 : Int) else 0).toNat i1.toList).flatten.toArray }) mr) 1
      simpa using this

theorem call_len {rs : List Rl} (hn : rs.length ≤ 1000) (mr : ∀ r ∈ rs, Mono r) : ∀ vs h, Grow h₀ h → Pw h [VList rs] vs → Co w A (call (.builtin "len") vs) h (VInt rs.length)
  | [v], h, _, ⟨r, _⟩ => fun s g => by
    obtain ⟨la, i1, rfl, hl, p1⟩ := (VList.mono mr _ _ _ g r).weak
    have s1 : i1.size = rs.length := by rw [← Array.length_toList]; exact Pw.length p1
    exact PyProof.Rows.len_list hl (by omega) ⟨⟨_, by rw [s1]⟩, Ext.toks _ _⟩
  | [], _, _, p => p.elim
  | _ :: _ :: _, _, _, p => p.2.elim
theorem call_sum {ns : List Int} (hh : A.handled = none) : ∀ vs h, Grow h₀ h → Pw h [VInts ns] vs → Co w A (call (.builtin "sum") vs) h (VInt ns.sum)
  | [v], h, _, ⟨r, _⟩ => fun s g => by
    obtain ⟨la, i1, rfl, hl, p1⟩ := (VInts.mono _ _ _ _ g r).weak
    have hi := pw_ints p1
    obtain ⟨xs, hx⟩ := hi.allInts.items
    have hx' : i1 = intItems xs := by simpa using hx
    refine sum_intListG hh (hx' ▸ hl) fun h' tk t' hk => ⟨⟨t', ?_⟩, Ext.heap _ hk⟩
    have e1 : ns = xs.toList.map (·.1) := by
      rw [← nums_intItems, ← hx']
      exact (show numsOf i1.toList = ns from hi.numsOf).symm
    rw [preSum_eq, List.take_of_length_le (by simp), e1]
  | [], _, _, p => p.elim
  | _ :: _ :: _, _, _, p => p.2.elim
theorem call_min {a b : Int} (hh : A.handled = none) : ∀ vs h, Grow h₀ h → Pw h [VInt a, VInt b] vs → Co w A (call (.builtin "min") vs) h (VInt (min a b))
  | [v, u], h, _, ⟨⟨t, e⟩, ⟨t', e'⟩, _⟩ => fun s g => by
    subst e e'
    refine min_two_ints hh fun h' tk hk => ⟨?_, Ext.heap _ hk⟩
    by_cases hba : b < a
    · rw [if_pos hba]; exact ⟨_, by rw [Int.min_eq_right (by omega)]⟩
    · rw [if_neg hba]; exact ⟨_, by rw [Int.min_eq_left (by omega)]⟩
  | [], _, _, p => p.elim
  | [_], _, _, p => p.2.elim
  | _ :: _ :: _ :: _, _, _, p => p.2.2.elim
theorem cmp_in {k : Int} {ns : List Int} : ∀ a b h, Grow h₀ h → VInt k a h → VInts ns b h → Co w A (compareOp .In a b) h (VBool (ns.any (· == k))) := fun a b h _ ⟨t, e⟩ r s g => by
  subst e
  obtain ⟨la, i1, rfl, hl, p1⟩ := (VInts.mono _ _ _ _ g r).weak
  exact in_list_ints (vs := i1.toList) (by simpa using hl) (pw_ints p1) ⟨rfl, Ext.refl _⟩
end
end Mine

namespace Mine

def tests (ifs : List Expr) (env : Env) : Sem Bool :=
  forIn ifs true fun c r => if r = true then do let ok ← isTrue c env (eval c env); pure (ForInStep.yield ok) else pure (ForInStep.yield r)

section
variable {w : World} {A : Around} {env : Env} {h₀ : Heap}

theorem co_tests0 : Co w A (tests [] env) h₀ (TBool true) := fun _ _ => wpAny_tests_nil ⟨rfl, Ext.refl _⟩
theorem co_tests1 {c : Expr} {b : Bool} (h : Co w A (isTrue c env (eval c env)) h₀ (TBool b)) : Co w A (tests [c] env) h₀ (TBool b) := fun s g => wpAny_tests_one (h s g)

theorem compLoop_go {elt target iter : Expr} {ifs : List Expr} {scope : Scope} {pos : Pos} {it acc : Value} {R : Result → Shared → Prop} {s : Shared} (I : Nat → Shared → Prop)
    (turn : ∀ n s, I n s → wpAny (Md w) A (pyNext it) (fun r s₁ => match r with
      | none => R (.ok .next) s₁
      | some v => wpAny (Md w) A (letOwnedTupleGo target it v) (fun _ s₁' => wpAny (Md w) A (assign target env v) (fun _ s₂ =>
          wpAny (Md w) A (tests ifs env) (fun ok s₃ =>
            if ok = true then wpAny (Md w) A (eval elt env) (fun x s₄ => wpAny (Md w) A (call (.builtin "list.append") [acc, x]) (fun _ s₅ => ∃ m, m < n ∧ I m s₅) NoE s₄) NoE s₃
            else ∃ m, m < n ∧ I m s₃) NoE s₂) NoE s₁') NoE s₁) NoE s)
    (n : Nat) (h : I n s) : codeAny (Md w) A (.compLoop (.ListComp elt [⟨target, iter, ifs, 0⟩] scope pos) 0 it acc env) R s := by
  refine codeAny_loop rfl I (fun n s hI => ?_) n h
  show wpAny _ A ((compTurn (.ListComp elt [⟨target, iter, ifs, 0⟩] scope pos) 0 it acc env).onRaise (fun x => do noteFrame x env; theTreesLotGoes x)) _ _ s
  refine wpAny_noted ?_
  rw [compTurn_list]
  refine wpAny_bind (wpAny_standAt (wpAny_bind (wnd (turn n s hI) fun r s₁ h₁ => ?_)))
  cases r with
  | none => exact wpAny_pure h₁
  | some v =>
    refine wpAny_bind (wnd h₁ fun _ s₁' h₁' => wpAny_bind (wnd h₁' fun _ s₂ h₂ => wpAny_bind (wnd h₂ fun ok s₃ h₃ => ?_)))
    cases ok with
    | false => exact wpAny_pure ⟨rfl, h₃⟩
    | true =>
      exact wpAny_bind (wpAny_bind (wnd h₃ fun x s₄ h₄ => wpAny_bind (wnd h₄ fun _ s₅ h₅ => wpAny_pure (wpAny_pure ⟨rfl, h₅⟩))))

/-- an iterable: its iterator hands out n values, P i v of the i-th -/
def Iters (w : World) (A : Around) (target : Expr) (hb : Heap) (x : Value) (h : Heap) (n : Nat) (P : Nat → Value → Heap → Prop) : Prop :=
  ∀ s : Shared, Grow h s.heap → wpAny (Md w) A (pyIter x) (fun it s₂ => (∃ I fp wr Mid St, it = .ref I ∧ KTurns Pg w A target I fp wr n P Mid St ∧ St 0 s₂.heap ∧ (∀ b ∈ fp, b < s₂.heap.objs.size) ∧ (∀ b ∈ wr, hb.get? b = none) ∧ (∀ i h, St i h → ∀ b ∈ wr, ∃ o, h.get? b = some o) ∧ (∀ b ∈ fp, hb.get? b = none ∨ ∃ o its k, s₂.heap.get? b = some o ∧ o.data = .seq its k) ∧
    (∀ i (s : Shared) (Q : Value → Shared → Prop) (E : Value → Shared → Prop), St i s.heap → Q (.ref I) s → wpAny (Md w) A (pyIter (.ref I)) Q E s)) ∧ Ext s s₂) NoE s

theorem Iters.imp {target : Expr} {hb h : Heap} {x : Value} {n : Nat} {P P' : Nat → Value → Heap → Prop} (y : Iters w A target hb x h n P) (k : ∀ i v h, P i v h → P' i v h) : Iters w A target hb x h n P' :=
  fun s g => wnd (y s g) fun _ _ ⟨⟨I, fp, wr, Mid, St, e, W, r⟩, x⟩ => ⟨⟨I, fp, wr, Mid, St, e, ⟨W.sub, W.frame, W.item, fun i v s Q E hm hQ => W.go i v s Q E hm fun h' hp st hk => hQ h' (k _ _ _ hp) st hk, W.done⟩, r⟩, x⟩

/-- what the target's names hold behind the i-th assignment -/
def Assigns (w : World) (A : Around) (target : Expr) (env : Env) (P : Nat → Value → Heap → Prop) (B : Nat → (Str → Option Value) → Prop) : Prop :=
  ∀ i v m (s : Shared), P i v s.heap → s.heap.Ns env.locals m →
    wpAny (Md w) A (assign target env v) (fun _ s' => (∃ m', s'.heap.Ns env.locals m' ∧ B i m') ∧ (∀ b o, b ≠ env.locals → s.heap.get? b = some o → s'.heap.get? b = some o) ∧ s'.os = s.os ∧ s'.gens = s.gens) NoE s

/-- F holds of y however the objects that stood in h are turned -/
def Stb (h : Heap) (F : Rl) : Rl := fun y h' => ∀ (X : Addr → Prop) (h'' : Heap), (∀ b, X b → ∃ o, h.get? b = some o) → (∀ b o, ¬ X b → h'.get? b = some o → h''.get? b = some o) → F y h''
theorem Stb.now {h h' : Heap} {F : Rl} {y : Value} (x : Stb h F y h') : F y h' := x (fun _ => False) h' (fun _ e => e.elim) fun _ _ _ e => e
theorem Co.stb {t : Sem Value} {F : Rl} (c : Co w A t h₀ F) (imm : ∀ y h h', F y h → F y h') : Co w A t h₀ (Stb h₀ F) := c.post fun _ _ _ r _ _ _ _ => imm _ _ _ r
theorem imm_int (n : Int) : ∀ y h h', VInt n y h → VInt n y h' := fun _ _ _ r => r
theorem imm_str (n : Str) : ∀ y h h', VStr n y h → VStr n y h' := fun _ _ _ r => r

/-- a new list -/
def VNew (h₀ : Heap) (rs : List Rl) : Rl := fun v h => ∃ a its, v = .ref a ∧ h.PlainList a its ∧ Pw h rs its.toList ∧ h₀.get? a = none
theorem VNew.list {h₀ h : Heap} {rs : List Rl} {v : Value} (x : VNew h₀ rs v h) : VList rs v h := let ⟨a, its, e, l, p, _⟩ := x; ⟨a, its, e, l, p⟩
theorem VNew.stb {h₀ h : Heap} {rs : List Rl} {v : Value} (imm : ∀ r ∈ rs, ∀ y h h', r y h → r y h') (x : VNew h₀ rs v h) : Stb h₀ (VList rs) v h := by
  obtain ⟨a, its, rfl, hl, p, hn⟩ := x
  intro X h'' hX hk
  have hXa : ¬ X a := fun e => by obtain ⟨o, ho⟩ := hX a e; rw [hn] at ho; cases ho
  refine ⟨a, its, rfl, hl.at fun o e => hk a o hXa e, ?_⟩
  clear hl
  generalize its.toList = vs at p
  induction rs generalizing vs with
  | nil => cases vs with
    | nil => trivial
    | cons => exact p.elim
  | cons r rs ih => cases vs with
    | nil => exact p.elim
    | cons v vs => exact ⟨imm r (.head _) _ _ _ p.1, ih (fun r hr => imm r (.tail _ hr)) vs p.2⟩

theorem pw_map_range {h : Heap} {F : Nat → Rl} {p : Nat → Bool} {n : Nat} {ys : List Value} {y : Value} (hy : Pw h (((List.range n).filter p).map F) ys) (hp : p n = true) (r : F n y h) : Pw h (((List.range (n + 1)).filter p).map F) (ys ++ [y]) := by
  rw [List.range_succ, List.filter_append, List.map_append]
  refine hy.append ?_
  simp only [List.filter_cons, hp, if_true, List.filter_nil, List.map_cons, List.map_nil]
  exact ⟨r, trivial⟩
theorem pw_map_range0 {h : Heap} {F : Nat → Rl} {p : Nat → Bool} {n : Nat} {ys : List Value} (hy : Pw h (((List.range n).filter p).map F) ys) (hp : p n = false) : Pw h (((List.range (n + 1)).filter p).map F) ys := by
  rw [List.range_succ, List.filter_append, List.map_append]
  simp only [List.filter_cons, hp, List.filter_nil]
  simpa using hy

theorem comp_loop {elt target iter : Expr} {ifs : List Expr} {scope : Scope} {pos : Pos} {cenv : Env} {own : List Addr} {J : Heap → Prop} {Bh : Nat → Heap → Prop} {n : Nat} {P : Nat → Value → Heap → Prop} {p : Nat → Bool} {F : Nat → Rl}
    {s₁ s : Shared} {I D : Addr} {fp wr : List Addr} {Mid : Nat → Value → Heap → Prop} {St : Nat → Heap → Prop} {R : Result → Shared → Prop} (hsz : n ≤ 1000)
    (W : KTurns Pg w A target I fp wr n P Mid St) (hst : St 0 s.heap) (hacc : s.heap.PlainList D #[]) (hJ : J s.heap) (e₁ : Ext s₁ s)
    (Jkeep : ∀ h h', J h → (∀ b ∈ own, ∀ o, h.get? b = some o → h'.get? b = some o) → J h') (Bkeep : ∀ i h h', Bh i h → (∀ b ∈ own, ∀ o, h.get? b = some o → h'.get? b = some o) → Bh i h')
    (BJ : ∀ i h, Bh i h → J h) (Jlive : ∀ h, J h → ∀ b ∈ own, ∃ o, h.get? b = some o)
    (hDo : D ∉ own) (hDf : D ∉ fp) (hof : ∀ b ∈ own, b ∉ fp) (fresh : ∀ b o, s₁.heap.get? b = some o → b ∉ own ∧ b ∉ wr ∧ b ≠ D) (hlive : ∀ i h, St i h → ∀ b ∈ wr, ∃ o, h.get? b = some o)
    (hasg : ∀ i v (s : Shared), P i v s.heap → J s.heap → wpAny (Md w) A (assign target cenv v) (fun _ s' => Bh i s'.heap ∧ (∀ b o, b ∉ own → s.heap.get? b = some o → s'.heap.get? b = some o) ∧ s'.os = s.os ∧ s'.gens = s.gens) NoE s)
    (htest : ∀ i h, i < n → Grow s₁.heap h → Bh i h → Co w A (tests ifs cenv) h (TBool (p i)))
    (helt : ∀ i h, i < n → p i = true → Grow s₁.heap h → Bh i h → Co w A (eval elt cenv) h (Stb h (F i)))
    (hR : ∀ s' : Shared, Ext s₁ s' → J s'.heap → (∀ h', (∀ b o, b ∉ own → s'.heap.get? b = some o → h'.get? b = some o) → VList (((List.range n).filter p).map F) (.ref D) h') → R (.ok .next) s') :
    codeAny (Md w) A (.compLoop (.ListComp elt [⟨target, iter, ifs, 0⟩] scope pos) 0 (.ref I) (.ref D) cenv) R s := by
  have hDw : D ∉ wr := fun h => hDf (W.sub _ h)
  have how : ∀ b ∈ own, b ∉ wr := fun b hb h => hof b hb (W.sub _ h)
  refine compLoop_go
    (fun k s' => ∃ i ys, k = n + 1 - i ∧ i ≤ n ∧ St i s'.heap ∧ s'.heap.PlainList D ys ∧ J s'.heap ∧
      (∀ h', (∀ b o, ¬ (b ∈ own ∨ b = D ∨ b ∈ wr) → s'.heap.get? b = some o → h'.get? b = some o) → Pw h' (((List.range i).filter p).map F) ys.toList) ∧ ys.size ≤ i ∧ Ext s₁ s') ?_ (n + 1)
    ⟨0, #[], rfl, Nat.zero_le _, hst, hacc, hJ, fun _ _ => trivial, Nat.le_refl _, e₁⟩
  rintro k s' ⟨i, ys, rfl, hi, hst', hacc', hJ', hpw, hys, e'⟩
  by_cases hin : i < n
  · refine W.item i s' _ _ hin hst' fun v h₁ tk₁ hmid hk₁ => ?_
    refine W.go i v _ _ _ hmid fun h₂ hP hst₂ hk₂ => ?_
    have keep₂ : ∀ b o, b ∉ wr → s'.heap.get? b = some o → h₂.get? b = some o := fun b o hb e => hk₂ b o hb (hk₁ b o hb e)
    have hJ₂ : J h₂ := Jkeep _ _ hJ' fun b hb o e => keep₂ b o (how b hb) e
    refine wnd (hasg i v { s' with heap := h₂, toks := tk₁ } hP hJ₂) fun _ s₃ h₃ => ?_
    obtain ⟨hB, hk₃, hos₃, hg₃⟩ := h₃
    have hk₃' : ∀ b o, b ∉ own → h₂.get? b = some o → s₃.heap.get? b = some o := hk₃
    have keep₃ : ∀ b o, b ∉ wr → b ∉ own → s'.heap.get? b = some o → s₃.heap.get? b = some o := fun b o hb hc e => hk₃' b o hc (keep₂ b o hb e)
    have g₃ : Grow s₁.heap s₃.heap := fun b o e => keep₃ b o (fresh b o e).2.1 (fresh b o e).1 (e'.grow b o e)
    have e₃ : Ext s₁ s₃ := ⟨g₃, hos₃.trans e'.os, by rw [hg₃]; exact e'.gens⟩
    have hst₃ : St (i + 1) s₃.heap := W.frame _ _ _ hst₂ fun b hb o e => hk₃' b o (fun h => hof b h hb) e
    have hacc₃ : s₃.heap.PlainList D ys := hacc'.at fun o e => keep₃ D o hDw hDo e
    refine (htest i s₃.heap hin g₃ hB).use (Grow.refl _) fun ok s₄ r₄ e₄ => ?_
    cases r₄
    have g₄ := e₃.trans e₄
    have hst₄ : St (i + 1) s₄.heap := W.frame _ _ _ hst₃ fun b _ o e => e₄.grow b o e
    have hacc₄ := PlainList.grow hacc₃ e₄.grow
    have hB₄ : Bh i s₄.heap := Bkeep _ _ _ hB fun b _ o e => e₄.grow b o e
    have pw₄ : ∀ h', (∀ b o, ¬ (b ∈ own ∨ b = D ∨ b ∈ wr) → s₄.heap.get? b = some o → h'.get? b = some o) → Pw h' (((List.range i).filter p).map F) ys.toList := fun h' hk => hpw h' fun b o hb e => hk b o hb (e₄.grow b o (keep₃ b o (fun h => hb (.inr (.inr h))) (fun h => hb (.inl h)) e))
    cases hpi : p i with
    | false =>
      simp only [Bool.false_eq_true, if_false]
      exact ⟨n + 1 - (i + 1), by omega, i + 1, ys, rfl, hin, hst₄, hacc₄, BJ _ _ hB₄, fun h' hk => pw_map_range0 (pw₄ h' hk) hpi, by omega, g₄⟩
    | true =>
      simp only [if_true]
      refine (helt i s₄.heap hin hpi g₄.grow hB₄).use (Grow.refl _) fun y s₅ r₅ e₅ => ?_
      have hacc₅ := PlainList.grow hacc₄ e₅.grow
      refine wpAny_list_append_plain (hsz := by rw [sizeLine_eq]; omega) hacc₅ fun h₆ hl₆ hs₆ => ?_
      have keep₆ : ∀ b o, b ≠ D → s₅.heap.get? b = some o → h₆.get? b = some o := fun b o hb e => hs₆.extBut b o hb e
      have g₆ : Grow s₁.heap h₆ := fun b o e => keep₆ b o (fresh b o e).2.2 (e₅.grow b o (g₄.grow b o e))
      refine ⟨n + 1 - (i + 1), by omega, i + 1, ys.push y, rfl, hin, W.frame _ _ _ hst₄ fun b hb o e => keep₆ b o (fun h => hDf (h ▸ hb)) (e₅.grow b o e), hl₆,
        Jkeep _ _ (BJ _ _ hB₄) fun b hb o e => keep₆ b o (fun h => hDo (h ▸ hb)) (e₅.grow b o e), fun h' hk => ?_, by rw [Array.size_push]; omega, ⟨g₆, ?_, ?_⟩⟩
      · rw [Array.toList_push]
        refine pw_map_range (pw₄ h' fun b o hb e => hk b o hb (keep₆ b o (fun h => hb (.inr (.inl h))) (e₅.grow b o e))) hpi ?_
        refine r₅ (fun b => b ∈ own ∨ b = D ∨ b ∈ wr) h' (fun b hb => ?_) fun b o hb e => hk b o hb (keep₆ b o (fun h => hb (.inr (.inl h))) e)
        rcases hb with hb | rfl | hb
        · exact Jlive _ (BJ _ _ hB₄) b hb
        · obtain ⟨_, ho⟩ := hacc₄; exact ⟨_, ho⟩
        · exact hlive _ _ hst₄ b hb
      · exact e₅.os.trans g₄.os
      · exact g₄.gens.trans e₅.gens
  · have hnn : i = n := by omega
    subst hnn
    refine W.done s' _ _ hst' fun h₁ tk₁ hk₁ => ?_
    have g₁ : Grow s₁.heap h₁ := fun b o e => hk₁ b o (fresh b o e).2.1 (e'.grow b o e)
    refine hR _ ⟨g₁, e'.os, e'.gens⟩ (Jkeep _ _ hJ' fun b hb o e => hk₁ b o (how b hb) e) fun h' hk => ⟨D, ys, rfl, hacc'.at fun o e => hk D o hDo (hk₁ D o hDw e), hpw h' fun b o hb e => hk b o (fun h => hb (.inl h)) (hk₁ b o (fun h => hb (.inr (.inr h))) e)⟩

theorem comp_core {elt target iter : Expr} {ifs : List Expr} {scope : Scope} {pos : Pos} {cl : List (Str × Addr)} {n : Nat} {P : Nat → Value → Heap → Prop} {B : Nat → (Str → Option Value) → Prop} {p : Nat → Bool} {F : Nat → Rl}
    {s₁ s₂ : Shared} {I : Addr} {fp wr : List Addr} {Mid : Nat → Value → Heap → Prop} {St : Nat → Heap → Prop} {E : Value → Shared → Prop} {RR : Value → Addr → Result → Shared → Prop}
    (hcell : ∀ y ∈ scope.names, y.2 ≠ .cell) (hkind : scope.kind = .function) (hsz : n ≤ 1000)
    (W : KTurns Pg w A target I fp wr n P Mid St) (hst : St 0 s₂.heap) (hfp : ∀ b ∈ fp, b < s₂.heap.objs.size) (hwr : ∀ b ∈ wr, s₁.heap.get? b = none) (hlive : ∀ i h, St i h → ∀ b ∈ wr, ∃ o, h.get? b = some o)
    (hself : ∀ i (s : Shared) (Q : Value → Shared → Prop) (E : Value → Shared → Prop), St i s.heap → Q (.ref I) s → wpAny (Md w) A (pyIter (.ref I)) Q E s) (e₂ : Ext s₁ s₂)
    (hasg : ∀ C, Assigns w A target (compEnvC scope cl C env) P B)
    (htest : ∀ i C m h, i < n → Grow s₁.heap h → h.Ns C m → B i m → Co w A (tests ifs (compEnvC scope cl C env)) h (TBool (p i)))
    (helt : ∀ i C m h, i < n → p i = true → Grow s₁.heap h → h.Ns C m → B i m → Co w A (eval elt (compEnvC scope cl C env)) h (Stb h (F i)))
    (hRR : ∀ D C m (s' : Shared), s₁.heap.get? D = none → s₁.heap.get? C = none → D ≠ C → s'.heap.Ns C m → Ext s₁ s' → (∀ h', (∀ b o, b ≠ C → s'.heap.get? b = some o → h'.get? b = some o) → VList (((List.range n).filter p).map F) (.ref D) h') → RR (.ref D) C (.ok .next) s') :
    wpAny (Md w) A (newList []) (fun acc s₃ => wpAny (Md w) A (newFunctionEnv scope env.globals cl [] env.qual none .none (some env)) (fun cenv s₄ =>
      codeAny (Md w) A (.compStart (.ListComp elt [⟨target, iter, ifs, 0⟩] scope pos) 0 (.ref I) acc { cenv with scope := relabel scope env }) (RR acc cenv.locals) s₄) E s₃) E s₂ := by
  refine wpAny_newObj_type (wpAny_newFunctionEnv hcell (by intro y hy; simp at hy) (fun h₁ hns₁ hsb₁ => ?_) hkind)
  dsimp only at hns₁ hsb₁ ⊢
  generalize hH2 : s₂.heap.push { cls := .type "list", dict := none, data := .seq ([] : List Value).toArray } = H2 at hns₁ hsb₁ ⊢
  have hC : H2.objs.size = s₂.heap.objs.size + 1 := by rw [← hH2, Heap.size_push]
  generalize hCd : H2.objs.size = C at hns₁ hsb₁ hC ⊢
  generalize hDd : s₂.heap.objs.size = D at hC ⊢
  have hlt : ∀ b : Addr, b < D → b ≠ C ∧ b ≠ D := fun b hb => ⟨Nat.ne_of_lt (by rw [hC]; exact Nat.lt_succ_of_lt hb), Nat.ne_of_lt hb⟩
  have hDC : D ≠ C := Nat.ne_of_lt (by rw [hC]; exact Nat.lt_succ_self _)
  have old : ∀ b o, s₂.heap.get? b = some o → b < D := fun b o e => hDd ▸ Heap.lt_size e
  have up : ∀ b o, s₂.heap.get? b = some o → h₁.get? b = some o := fun b o e => hsb₁.extBut b o (hlt b (old b o e)).1 (Heap.get?_push_of_some _ (hH2 ▸ Heap.get?_push_of_some _ e))
  have hacc : h₁.PlainList D #[] := ⟨_, hsb₁.extBut _ _ hDC (Heap.get?_push_of_some _ (hH2 ▸ hDd ▸ Heap.get?_push_size _ rfl))⟩
  have hst₁ : St 0 h₁ := W.frame _ _ _ hst fun b _ o e => up b o e
  rw [hDd] at hfp
  have hDf : D ∉ fp := fun hm => (hlt D (hfp _ hm)).2 rfl
  have hCf : C ∉ fp := fun hm => (hlt C (hfp _ hm)).1 rfl
  have fresh : ∀ b o, s₁.heap.get? b = some o → b ≠ C ∧ b ∉ wr ∧ b ≠ D := fun b o e => by
    have := hlt b (old b o (e₂.grow b o e))
    refine ⟨this.1, fun hm => ?_, this.2⟩
    rw [hwr b hm] at e; cases e
  have hDn : s₁.heap.get? D = none := by
    cases e : s₁.heap.get? D with
    | none => rfl
    | some o => exact absurd rfl (fresh D o e).2.2
  have hCn : s₁.heap.get? C = none := by
    cases e : s₁.heap.get? C with
    | none => rfl
    | some o => exact absurd rfl (fresh C o e).1
  have loop : codeAny (Md w) A (.compLoop (.ListComp elt [⟨target, iter, ifs, 0⟩] scope pos) 0 (.ref I) (.ref D) (compEnvC scope cl C env))
      (RR (.ref D) C) { s₂ with heap := h₁, toks := s₂.toks + ([] : List (Str × Value)).length } := by
    refine comp_loop (own := [C]) (J := fun h => ∃ m, h.Ns C m) (Bh := fun i h => ∃ m, h.Ns C m ∧ B i m) hsz W hst₁ hacc ⟨_, hns₁⟩ ⟨e₂.grow.trans up, e₂.os, e₂.gens⟩
      (fun h h' ⟨m, hn⟩ hk => ⟨m, hn.at' fun o e => hk C (List.mem_singleton.mpr rfl) o e⟩) (fun i h h' ⟨m, hn, hb⟩ hk => ⟨m, hn.at' fun o e => hk C (List.mem_singleton.mpr rfl) o e, hb⟩) (fun i h ⟨m, hn, _⟩ => ⟨m, hn⟩)
      (fun h ⟨m, hn⟩ b hb => by rw [List.mem_singleton.mp hb]; obtain ⟨o, _, _, ho, _⟩ := hn; exact ⟨o, ho⟩)
      (fun h => hDC (List.mem_singleton.mp h)) hDf (fun b hb => by rw [List.mem_singleton.mp hb]; exact hCf) (fun b o e => ⟨fun h => (fresh b o e).1 (List.mem_singleton.mp h), (fresh b o e).2⟩) hlive
      (fun i v s hP ⟨m, hn⟩ => wnd (hasg C i v m s hP hn) fun _ s' ⟨hB, hk, hos, hg⟩ => ⟨hB, fun b o hb e => hk b o (fun h => hb (List.mem_singleton.mpr h)) e, hos, hg⟩)
      (fun i h hi g ⟨m, hn, hb⟩ => htest i C m h hi g hn hb) (fun i h hi hp g ⟨m, hn, hb⟩ => helt i C m h hi hp g hn hb)
      fun s' e' ⟨m, hn⟩ hv => hRR D C m s' hDn hCn hDC hn e' fun h' hk => hv h' fun b o hb e => hk b o (fun h => hb (List.mem_singleton.mpr h)) e
  exact codeAny_compStart_list loop (hself 0 _ _ _ hst₁ loop)

theorem co_comp {elt target iter : Expr} {ifs : List Expr} {scope : Scope} {pos : Pos} {cl : List (Str × Addr)} {n : Nat} {RI : Heap → Rl} {P : Nat → Value → Heap → Prop} {B : Nat → (Str → Option Value) → Prop} {p : Nat → Bool} {F : Nat → Rl}
    (hclos : closureFor scope env = pure cl) (hcell : ∀ y ∈ scope.names, y.2 ≠ .cell) (hkind : scope.kind = .function)
    (hnames : ∀ y ∈ scope.names, y.2 = .local → scope.names.lookup y.1 = some .local) (hsz : n ≤ 1000)
    (hit : ∀ hb, Grow h₀ hb → Co w A (eval iter env) hb (RI hb)) (hiter : ∀ hb x h, Grow h₀ hb → Grow hb h → RI hb x h → Iters w A target hb x h n P)
    (hasg : ∀ C, Assigns w A target (compEnvC scope cl C env) P B)
    (htest : ∀ i C m h, i < n → Grow h₀ h → h.Ns C m → B i m → Co w A (tests ifs (compEnvC scope cl C env)) h (TBool (p i)))
    (helt : ∀ i C m h, i < n → p i = true → Grow h₀ h → h.Ns C m → B i m → Co w A (eval elt (compEnvC scope cl C env)) h (Stb h (F i)))
    (hs : ∀ x, foldedSetIterable iter env x = pure x := by intro _; rfl) :
    Co w A (eval (.ListComp elt [⟨target, iter, ifs, 0⟩] scope pos) env) h₀ (VNew h₀ (((List.range n).filter p).map F)) := by
  intro s₀ g₀
  rw [eval_ListComp]
  refine wpAny_comprehension_free (use := none) rfl hs hclos hkind hnames ((hit s₀.heap g₀).use (Grow.refl _) fun xv s₁ rx e₁ => wnd (hiter s₀.heap xv s₁.heap g₀ e₁.grow rx s₁ (Grow.refl _)) fun it s₂ h₂ => ?_)
  obtain ⟨⟨I, fp, wr, Mid, St, rfl, W, hst, hfp, hwr, hlive, _, hself⟩, e₂⟩ := h₂
  refine comp_core (s₁ := s₀) (RR := fun acc C => compPost (Md w) A NoE none (fun v s' => VNew h₀ (((List.range n).filter p).map F) v s'.heap ∧ Ext s₀ s') acc C) hcell hkind hsz W hst hfp hwr hlive hself (e₁.trans e₂) hasg
    (fun i C m h hi g => htest i C m h hi (g₀.trans g)) (fun i C m h hi hp g => helt i C m h hi hp (g₀.trans g)) fun D C m s' hD hC hDC hn e' hv => ?_
  refine ⟨m, hn, fun h' hsb => ?_⟩
  obtain ⟨a, its, e, hl, hpw⟩ := hv h' fun b o hb e => hsb.extBut b o hb e
  cases e
  have hDn : h₀.get? D = none := by
    cases e : h₀.get? D with
    | none => rfl
    | some o => rw [g₀ _ _ e] at hD; cases hD
  refine ⟨⟨D, its, rfl, hl, hpw, hDn⟩, ⟨fun b o e => hsb.extBut b o (fun h => ?_) (e'.grow b o e), e'.os, e'.gens⟩⟩
  rw [h, hC] at e; cases e
end
end Mine

namespace Mine
section
variable {w : World} {A : Around} {env : Env} {h₀ : Heap}

def Imm (rs : List Rl) : Prop := ∀ r ∈ rs, ∀ y h h', r y h → r y h'
theorem Imm.ints (l : List Int) : Imm (l.map VInt) := fun r h => by obtain ⟨n, _, rfl⟩ := List.mem_map.mp h; exact imm_int n
theorem Imm.strs (l : List Str) : Imm (l.map VStr) := fun r h => by obtain ⟨n, _, rfl⟩ := List.mem_map.mp h; exact imm_str n
theorem Imm.mono {rs : List Rl} (x : Imm rs) : ∀ r ∈ rs, Mono r := fun r hr _ _ _ _ q => x r hr _ _ _ q

/-- the i-th value is of the i-th make -/
def Nth (rs : List Rl) : Nat → Value → Heap → Prop := fun i v h => ∃ r, rs[i]? = some r ∧ r v h
theorem none_of_size {h hb : Heap} {b : Addr} (g : Grow hb h) (hb' : h.objs.size ≤ b) : hb.get? b = none := by
  cases e : hb.get? b with
  | none => rfl
  | some o => exact absurd (Heap.lt_size (g _ _ e)) (Nat.not_lt.mpr hb')

theorem iters_listV {target : Expr} {hb h : Heap} {x : Value} {rs : List Rl} (hh : A.handled = none) (g : Grow hb h) (r : VListW rs x h) : ∃ its : Array Value, Pw h rs its.toList ∧ Iters w A target hb x h rs.length (fun i v _ => its[i]? = some v) := by
  obtain ⟨ax, its, rfl, hl₀, p⟩ := r
  refine ⟨its, p, fun s gs => ?_⟩
  have hl := IsList.grow hl₀ gs
  have hlt : ax < s.heap.objs.size := by obtain ⟨o, e, _⟩ := hl; exact Heap.lt_size e
  have hne : ax ≠ s.heap.objs.size := Nat.ne_of_lt hlt
  have hn : its.size = rs.length := by rw [← Array.length_toList]; exact Pw.length p
  refine wpAny_pyIter_list hl ⟨?_, Ext.heap' (Grow.push _ _)⟩
  have W := KTurns.ofWalks (target := target) (Walks.list (prog := Pg) (w := w) hh s.heap.objs.size ax hne its) (fun i v s Q E st q => letGo_listiter st.1 q)
  rw [hn] at W
  have hl' := hl.push { cls := .type "list_iterator", data := .fields #[.ref ax, .int 0 0] }
  refine ⟨s.heap.objs.size, _, _, _, _, rfl, W, ⟨⟨_, Heap.get?_push_size _ rfl, rfl, rfl⟩, hl'⟩, ?_, ?_, ?_, ?_, ?_⟩
  · intro b hb'
    simp only [List.mem_cons, List.not_mem_nil, or_false] at hb'
    rcases hb' with rfl | rfl
    · rw [Heap.size_push]; exact Nat.lt_succ_self _
    · rw [Heap.size_push]; exact Nat.lt_succ_of_lt hlt
  · intro b hb'
    rw [List.mem_singleton.mp hb']
    exact none_of_size (g.trans gs) (Nat.le_refl _)
  · intro i h st b hb'
    rw [List.mem_singleton.mp hb']
    obtain ⟨o, ho, _⟩ := st.1
    exact ⟨o, ho⟩
  · intro b hb'
    simp only [List.mem_cons, List.not_mem_nil, or_false] at hb'
    rcases hb' with rfl | rfl
    · exact .inl (none_of_size (g.trans gs) (Nat.le_refl _))
    · obtain ⟨o, e1, _, k, e2⟩ := hl'
      exact .inr ⟨o, its, k, e1, e2⟩
  · intro i s Q E st q
    exact wpAny_pyIter_listiter st.1 q
theorem iters_list {target : Expr} {hb h : Heap} {x : Value} {rs : List Rl} (hh : A.handled = none) (imm : Imm rs) (g : Grow hb h) (r : VList rs x h) : Iters w A target hb x h rs.length (Nth rs) := by
  obtain ⟨its, p, I⟩ := iters_listV (w := w) (A := A) (target := target) hh g r.weak
  refine I.imp fun i v h' hv => ?_
  obtain ⟨r, hr, rv⟩ := Pw.get' p (by rw [Array.getElem?_toList]; exact hv)
  exact ⟨r, hr, imm r (List.mem_of_getElem? hr) _ _ _ rv⟩

/-- a range -/
def VRange (a b c : Int) : Rl := fun v h => ∃ r t u x, v = .ref r ∧ IsRange h r a b c t u x
theorem call_range1 {n : Int} : ∀ vs h, Grow h₀ h → Pw h [VInt n] vs → Co w A (call (.type "range") vs) h (VRange 0 n 1)
  | [v], h, _, ⟨⟨t, e⟩, _⟩ => fun s g => by
    subst e
    exact call_range_1 ⟨⟨_, _, _, _, rfl, Heap.get?_push_size _ rfl⟩, Ext.heap _ (Grow.push _ _)⟩
  | [], _, _, p => p.elim
  | _ :: _ :: _, _, _, p => p.2.elim
theorem call_range3 {a b c : Int} (hc : c ≠ 0) (hc2 : c.natAbs < 1073741824) : ∀ vs h, Grow h₀ h → Pw h [VInt a, VInt b, VInt c] vs → Co w A (call (.type "range") vs) h (VRange a b c)
  | [v, u, x], h, _, ⟨⟨t, e⟩, ⟨t', e'⟩, ⟨t'', e''⟩, _⟩ => fun s g => by
    subst e e' e''
    exact call_range_3 hc ⟨⟨_, _, _, _, rfl, Heap.get?_push_size _ rfl⟩, Ext.heap _ (Grow.push _ _)⟩ (.inl (PyProof.noPylong_small hc2))
  | [], _, _, p => p.elim
  | [_], _, _, p => p.2.elim
  | [_, _], _, _, p => p.2.2.elim
  | _ :: _ :: _ :: _ :: _, _, _, p => p.2.2.2.elim
theorem iters_range {x : Str} {px : Pos} {hb h : Heap} {v : Value} {a b c : Int} {n : Nat} (hh : A.handled = none) (hsm : Builtin.Range.small a b c = true) (hn : Builtin.Range.rangeSize a b c = n) (g : Grow hb h) (r : VRange a b c v h) :
    Iters w A (.Name x px) hb v h n (fun i v _ => ∃ t, v = .int (a + i * c) t) := by
  intro s gs
  obtain ⟨ra, t, u, y, rfl, hr⟩ := r
  refine wpAny_pyIter_range (gs _ _ hr) hsm ⟨?_, Ext.heap' (Grow.push _ _)⟩
  have W := KTurns.ofWalks (target := .Name x px) (Walks.range (prog := Pg) (w := w) (A := A) hh s.heap.objs.size a c n) (fun i v s Q E st q => wpAny_pure q)
  refine ⟨s.heap.objs.size, _, _, _, _, rfl, W, ?_, ?_, ?_, ?_, ?_, ?_⟩
  · show IsRangeIter _ _ _ _ _
    rw [hn]
    have := Heap.get?_push_size s.heap (o := { cls := .type "range_iterator", data := .fields #[rawInt a, rawInt n, rawInt c] }) rfl
    simpa using this
  · intro b hb'
    rw [List.mem_singleton.mp hb', Heap.size_push]; exact Nat.lt_succ_self _
  · intro b hb'
    rw [List.mem_singleton.mp hb']
    exact none_of_size (g.trans gs) (Nat.le_refl _)
  · intro i h st b hb'
    rw [List.mem_singleton.mp hb']
    exact ⟨_, st⟩
  · intro b hb'
    rw [List.mem_singleton.mp hb']
    exact .inl (none_of_size (g.trans gs) (Nat.le_refl _))
  · intro i s Q E st q
    exact wpAny_pyIter_rangeiter st q

/-- zip of two lists, new since hb -/
def VZip (hb : Heap) (rs ss : List Rl) : Rl := fun v h => ∃ z TI TO i1 i2 l1 l2 xs ys, v = .ref z ∧ ZipApart z TI TO i1 i2 l1 l2 ∧
  IsZip h z TI TO .none ∧ IsPair h TI (.ref i1) (.ref i2) ∧ (∃ a b, IsPair h TO a b) ∧ h.IsListIter i1 l1 0 ∧ h.IsListIter i2 l2 0 ∧ h.IsList l1 xs ∧ h.IsList l2 ys ∧ Pw h rs xs.toList ∧ Pw h ss ys.toList ∧
  (∀ b ∈ [z, TI, TO, i1, i2], hb.get? b = none)
theorem call_zip {hb : Heap} {rs ss : List Rl} (i1 : ∀ r ∈ rs, Mono r) (i2 : ∀ r ∈ ss, Mono r) : ∀ vs h, Grow hb h → Pw h [VList rs, VList ss] vs → Co w A (call (.type "zip") vs) h (VZip hb rs ss)
  | [v, u], h, gb, ⟨r1, r2, _⟩ => fun s g => by
    obtain ⟨la, xs, rfl, hl1, p1⟩ := (VList.mono i1 _ _ _ g r1).weak
    obtain ⟨lb, ys, rfl, hl2, p2⟩ := (VList.mono i2 _ _ _ g r2).weak
    have h1 : la < s.heap.objs.size := by obtain ⟨o, e, _⟩ := hl1; exact Heap.lt_size e
    have h2 : lb < s.heap.objs.size := by obtain ⟨o, e, _⟩ := hl2; exact Heap.lt_size e
    refine call_zip_2 hl1 hl2 fun h' hz hTI hTO it1 it2 hsz hk => ⟨?_, Ext.heap' hk⟩
    refine ⟨_, _, _, _, _, la, lb, xs, ys, rfl, ktu_apart s.heap.objs.size la lb h1 h2, hz, hTI, ⟨_, _, hTO⟩, it1, it2, IsList.grow hl1 hk, IsList.grow hl2 hk, p1.mono hk i1, p2.mono hk i2, ?_⟩
    intro b hb'
    refine none_of_size (gb.trans g) ?_
    simp only [List.mem_cons, List.not_mem_nil, or_false] at hb'
    rcases hb' with rfl | rfl | rfl | rfl | rfl
    · exact Nat.le_add_right _ _
    · exact Nat.le_add_right _ _
    · exact Nat.le_add_right _ _
    · exact Nat.le_refl _
    · exact Nat.le_add_right _ _
  | [], _, _, p => p.elim
  | [_], _, _, p => p.2.elim
  | _ :: _ :: _ :: _, _, _, p => p.2.2.elim

/-- a tuple of two -/
def Pair2 (rs ss : List Rl) : Nat → Value → Heap → Prop := fun i v h => ∃ T x y, v = .ref T ∧ h.IsTuple T #[x, y] ∧ Nth rs i x h ∧ Nth ss i y h
theorem iters_zipV {elts : List Expr} {k : Nat} {pos : Pos} {hb h : Heap} {v : Value} {rs ss : List Rl} (hh : A.handled = none) (hlen : ss.length = rs.length) (r : VZip hb rs ss v h) :
    ∃ xs ys : Array Value, Pw h rs xs.toList ∧ Pw h ss ys.toList ∧ Iters w A (.Tuple elts k pos) hb v h rs.length (fun i v h => ∃ T x y, v = .ref T ∧ h.IsTuple T #[x, y] ∧ xs[i]? = some x ∧ ys[i]? = some y) := by
  obtain ⟨z, TI, TO, j1, j2, l1, l2, xs, ys, rfl, D, hz, hTI, ⟨a, b, hTO⟩, it1, it2, hl1, hl2, p1, p2, hfr⟩ := r
  refine ⟨xs, ys, p1, p2, fun s gs => ?_⟩
  have n1 : xs.size = rs.length := by rw [← Array.length_toList]; exact Pw.length p1
  have n2 : ys.size = ss.length := by rw [← Array.length_toList]; exact Pw.length p2
  have st0 : IsZip s.heap z TI TO .none ∧ IsPair s.heap TI (.ref j1) (.ref j2) ∧ (∃ a b, IsPair s.heap TO a b) ∧ s.heap.IsListIter j1 l1 0 ∧ s.heap.IsListIter j2 l2 0 ∧ s.heap.IsList l1 xs ∧ s.heap.IsList l2 ys :=
    ⟨gs _ _ hz, gs _ _ hTI, ⟨a, b, gs _ _ hTO⟩, it1.at fun o e => gs _ o e, it2.at fun o e => gs _ o e, IsList.grow hl1 gs, IsList.grow hl2 gs⟩
  refine wpAny_pyIter_zip st0.1 ⟨?_, Ext.refl _⟩
  have W := KTurns.ofWalksU (elts := elts) (k := k) (pos := pos) (WalksT.toU (WalksT.zip2 (prog := Pg) (w := w) hh z TI TO j1 j2 l1 l2 D xs ys))
  have hmin : min xs.size ys.size = rs.length := by omega
  rw [hmin] at W
  refine ⟨z, _, _, _, _, rfl, ⟨W.sub, W.frame, W.item, ?_, W.done⟩, st0, ?_, (fun b hb' => hfr b (by simp only [List.mem_cons, List.not_mem_nil, or_false] at hb' ⊢; rcases hb' with h | h | h | h <;> simp [h])), ?_, ?_, ?_⟩
  · intro i v s' Q E hm hQ
    refine W.go i v s' Q E hm fun h' hp st hk => hQ h' ?_ st hk
    obtain ⟨T, vals, e, ⟨x, y, hx, hy, hv⟩, hT⟩ := hp
    subst hv
    exact ⟨T, x, y, e, hT, hx, hy⟩
  · intro b hb'
    obtain ⟨y1, y2, ⟨_, _, y3⟩, ⟨_, y4, _⟩, ⟨_, y5, _⟩, ⟨_, y6, _⟩, ⟨_, y7, _⟩⟩ := st0
    simp only [List.mem_cons, List.not_mem_nil, or_false] at hb'
    rcases hb' with rfl | rfl | rfl | rfl | rfl | rfl | rfl
    · exact Heap.lt_size y1
    · exact Heap.lt_size y2
    · exact Heap.lt_size y3
    · exact Heap.lt_size y4
    · exact Heap.lt_size y5
    · exact Heap.lt_size y6
    · exact Heap.lt_size y7
  · intro i h st b hb'
    obtain ⟨y1, y2, ⟨_, _, y3⟩, ⟨_, y4, _⟩, ⟨_, y5, _⟩, ⟨_, y6, _⟩, ⟨_, y7, _⟩⟩ := st
    simp only [List.mem_cons, List.not_mem_nil, or_false] at hb'
    rcases hb' with rfl | rfl | rfl | rfl
    · exact ⟨_, y1⟩
    · exact ⟨_, y3⟩
    · exact ⟨_, y4⟩
    · exact ⟨_, y5⟩
  · intro b hb'
    obtain ⟨y1, y2, ⟨_, _, y3⟩, ⟨_, y4, _⟩, ⟨_, y5, _⟩, ⟨o6, y6, _, k6, z6⟩, ⟨o7, y7, _, k7, z7⟩⟩ := st0
    simp only [List.mem_cons, List.not_mem_nil, or_false] at hb'
    rcases hb' with rfl | rfl | rfl | rfl | rfl | rfl | rfl
    · exact .inl (hfr _ (by simp))
    · exact .inl (hfr _ (by simp))
    · exact .inl (hfr _ (by simp))
    · exact .inl (hfr _ (by simp))
    · exact .inl (hfr _ (by simp))
    · exact .inr ⟨o6, xs, k6, y6, z6⟩
    · exact .inr ⟨o7, ys, k7, y7, z7⟩
  · intro i s Q E st q
    exact wpAny_pyIter_zip st.1 q
theorem iters_zip {elts : List Expr} {k : Nat} {pos : Pos} {hb h : Heap} {v : Value} {rs ss : List Rl} (hh : A.handled = none) (i1 : Imm rs) (i2 : Imm ss) (hlen : ss.length = rs.length) (r : VZip hb rs ss v h) :
    Iters w A (.Tuple elts k pos) hb v h rs.length (Pair2 rs ss) := by
  obtain ⟨xs, ys, p1, p2, I⟩ := iters_zipV (w := w) (A := A) (elts := elts) (k := k) (pos := pos) hh hlen r
  refine I.imp fun i v h' ⟨T, x, y, e, hT, hx, hy⟩ => ?_
  obtain ⟨r, hr, rv⟩ := Pw.get' p1 (by rw [Array.getElem?_toList]; exact hx)
  obtain ⟨r', hr', rv'⟩ := Pw.get' p2 (by rw [Array.getElem?_toList]; exact hy)
  exact ⟨T, x, y, e, hT, ⟨r, hr, i1 r (List.mem_of_getElem? hr) _ _ _ rv⟩, ⟨r', hr', i2 r' (List.mem_of_getElem? hr') _ _ _ rv'⟩⟩

/-- the target is a name -/
theorem asg_name {x : Str} {px : Pos} {P : Nat → Value → Heap → Prop} {B : Nat → (Str → Option Value) → Prop} (hx : env.kindOf x = some .local) (hp : (env.scope.kind == .class || (env.scope.kind == .module && env.locals != env.globals)) = false)
    (hB : ∀ i v h (m : Str → Option Value), P i v h → B i (fun z => if z = x then some v else m z)) : Assigns w A (.Name x px) env P B := fun i v m s hP hn =>
  wpAny_assign_Name (wpAny_storeName_local hx hn (fun h' hn' hs' => ⟨⟨_, hn', hB i v s.heap m hP⟩, fun b o hb e => hs'.extBut b o hb e, rfl, rfl⟩) hp)
theorem asg_pair {x y : Str} {px py tp : Pos} {kk : Nat} {rs ss : List Rl} {B : Nat → (Str → Option Value) → Prop} (hh : A.handled = none) (hx : env.kindOf x = some .local) (hy : env.kindOf y = some .local) (hp : (env.scope.kind == .class || (env.scope.kind == .module && env.locals != env.globals)) = false)
    (hB : ∀ i u v h (m : Str → Option Value), Nth rs i u h → Nth ss i v h → B i (fun z => if z = y then some v else if z = x then some u else m z)) : Assigns w A (.Tuple [.Name x px, .Name y py] kk tp) env (Pair2 rs ss) B := fun i v m s hP hn => by
  obtain ⟨T, a, b, rfl, hT, ha, hb⟩ := hP
  exact kcp_assign hh hT hx hy hp hn fun h' tk hn' hk => ⟨⟨_, hn', hB i a b s.heap m ha hb⟩, hk, rfl, rfl⟩
end
end Mine

namespace Mine

/-- the sequences stay as they are -/
def GrowS (h h' : Heap) : Prop := ∀ b o, (∃ its n, o.data = .seq its n) → h.get? b = some o → h'.get? b = some o
theorem Grow.s {h h' : Heap} (g : Grow h h') : GrowS h h' := fun b o _ e => g b o e
theorem GrowS.refl (h : Heap) : GrowS h h := fun _ _ _ e => e
theorem GrowS.trans {a b c : Heap} (x : GrowS a b) (y : GrowS b c) : GrowS a c := fun p o q e => y p o q (x p o q e)
theorem GrowS.ofNs {h h' : Heap} {L : Addr} {m : Str → Option Value} (hn : h.Ns L m) (hs : Heap.SameBut L h h') : GrowS h h' := fun b o ⟨its, n, e⟩ g => by
  refine hs.extBut b o (fun hb => ?_) g
  obtain ⟨o', es, ep, ho', hd, _⟩ := hn
  subst hb
  rw [g] at ho'; cases ho'
  rw [e] at hd; cases hd
theorem GrowS.ofCell {h h' : Heap} {L : Addr} {v : Option Value} (hn : h.IsCell L v) (hs : Heap.SameBut L h h') : GrowS h h' := fun b o ⟨its, n, e⟩ g => by
  refine hs.extBut b o (fun hb => ?_) g
  obtain ⟨o', ho', hd⟩ := hn
  subst hb
  rw [g] at ho'; cases ho'
  rw [e] at hd; cases hd
def Firm (R : Rl) : Prop := ∀ v h h', GrowS h h' → R v h → R v h'
theorem Firm.mono {R : Rl} (f : Firm R) : Mono R := fun v h h' g r => f v h h' g.s r
theorem VInt.firm (n : Int) : Firm (VInt n) := fun _ _ _ _ r => r
theorem VStr.firm (n : Str) : Firm (VStr n) := fun _ _ _ _ r => r
theorem VBytes.firm (n : Array UInt8) : Firm (VBytes n) := fun _ _ _ _ r => r
theorem Pw.firm {h h' : Heap} (g : GrowS h h') : ∀ {rs : List Rl} {vs : List Value}, (∀ r ∈ rs, Firm r) → Pw h rs vs → Pw h' rs vs
  | [], [], _, _ => trivial
  | r :: _, _ :: _, m, p => ⟨m r (.head _) _ _ _ g p.1, Pw.firm g (fun r hr => m r (.tail _ hr)) p.2⟩
  | [], _ :: _, _, p => p.elim
  | _ :: _, [], _, p => p.elim
theorem VList.firm {rs : List Rl} (f : ∀ r ∈ rs, Firm r) : Firm (VList rs) := fun _ _ _ g ⟨a, its, e, ⟨n, l⟩, p⟩ => ⟨a, its, e, ⟨n, g _ _ ⟨its, n, rfl⟩ l⟩, p.firm g f⟩
theorem firm_ints (l : List Int) : ∀ r ∈ l.map VInt, Firm r := fun r h => by obtain ⟨n, _, rfl⟩ := List.mem_map.mp h; exact VInt.firm n
theorem firm_strs (l : List Str) : ∀ r ∈ l.map VStr, Firm r := fun r h => by obtain ⟨n, _, rfl⟩ := List.mem_map.mp h; exact VStr.firm n
theorem VInts.firm (l : List Int) : Firm (VInts l) := VList.firm (firm_ints l)
theorem VStrs.firm (l : List Str) : Firm (VStrs l) := VList.firm (firm_strs l)
theorem firm_rows (l : List (List Str)) : ∀ r ∈ l.map VStrs, Firm r := fun r h => by obtain ⟨n, _, rfl⟩ := List.mem_map.mp h; exact VStrs.firm n
theorem VRows.firm (l : List (List Str)) : Firm (VRows l) := VList.firm (firm_rows l)

/-- inside a call: the frame's names, and what stood before it -/
structure InF (s₀ : Shared) (L : Addr) (m : Str → Option Value) (s : Shared) : Prop where
  F : Fr s₀.heap L s.heap m
  os : s.os = s₀.os
  gens : GExt s₀.gens s.gens
theorem InF.ext {s₀ s s' : Shared} {L : Addr} {m : Str → Option Value} (x : InF s₀ L m s) (e : Ext s s') : InF s₀ L m s' :=
  ⟨⟨x.F.ns.keeps e.grow, fun b o h => e.grow b o (x.F.keep b o h), x.F.above⟩, e.os.trans x.os, x.gens.trans e.gens⟩
theorem InF.done {s₀ s : Shared} {L : Addr} {m : Str → Option Value} (x : InF s₀ L m s) : Ext s₀ s := ⟨x.F.keep, x.os, x.gens⟩
theorem InF.start {s : Shared} {L : Addr} {h : Heap} {tk : Nat} {m : Str → Option Value} (F : Fr s.heap L h m) : InF s L m { s with heap := h, toks := tk } := ⟨F, rfl, GExt.refl _⟩

section
variable {w : World} {A : Around} {env : Env} {h₀ : Heap}

theorem co_plain {a : Addr} {o : Obj} {name : Str} {params : Arguments} {body : List Stmt} {scope : Scope} {pm cd doc : Value} {vals : List Value} {binds : List (Str × Value)} {R : Rl}
    (hroom : A.depth < recursionLimit) (ho : h₀.get? a = some o) (hdata : o.data = .func (Calls.docDef name params body scope pm cd doc)) (hlim : h₀.NoLimit) (hcd : h₀.CodeRec cd name)
    (hbind : bindArgs (Calls.docDef name params body scope pm cd doc) ⟨vals, []⟩ = pure binds) (hloc : ∀ x ∈ binds, scope.names.lookup x.1 = some .local)
    (hbody : ∀ (s₀ s : Shared) (L : Addr), Grow h₀ s₀.heap → InF s₀ L (fun x => binds.reverse.lookup x) s →
      wpAny (Md w) (A.deeper (envOf name scope L a cd)) (execs body (envOf name scope L a cd)) (fun f s' => R (match f with | .ret v => v | _ => .none) s'.heap ∧ Ext s₀ s') NoE s)
    (hco : scope.isCoroutine = false := by rfl) (hgen : scope.isGenerator = false := by rfl) (hk : scope.kind = .function := by rfl)
    (hcell : ∀ x ∈ scope.names, x.2 ≠ .cell := by decide) : Co w A (call (.ref a) vals) h₀ R := fun s g =>
  wpAny_call (call_plain hroom (g _ _ ho) hdata (hlim.keeps g) (hcd.keeps g) hbind hloc
    (fun h₁ F => wnd (hbody s { s with heap := h₁, toks := s.toks + binds.length } _ g (InF.start F)) fun _ _ p => p) hco hgen hk hcell)

/-- all but own stays -/
def KeepBut (own : List Addr) (h h' : Heap) : Prop := ∀ b o, b ∉ own → h.get? b = some o → h'.get? b = some o
theorem KeepBut.refl (own : List Addr) (h : Heap) : KeepBut own h h := fun _ _ _ e => e
theorem KeepBut.trans {own : List Addr} {a b c : Heap} (x : KeepBut own a b) (y : KeepBut own b c) : KeepBut own a c := fun p o hp e => y p o hp (x p o hp e)
theorem Grow.but {h h' : Heap} (own : List Addr) (g : Grow h h') : KeepBut own h h' := fun b o _ e => g b o e
theorem KeepBut.more {own own' : List Addr} {h h' : Heap} (x : KeepBut own h h') (s : ∀ b ∈ own, b ∈ own') : KeepBut own' h h' := fun b o hb e => x b o (fun m => hb (s b m)) e
/-- own are no sequences -/
def Soft (own : List Addr) (h : Heap) : Prop := ∀ b ∈ own, ∃ o, h.get? b = some o ∧ ∀ its k, o.data ≠ .seq its k
theorem KeepBut.s {own : List Addr} {h h' : Heap} (x : KeepBut own h h') (f : Soft own h) : GrowS h h' := fun b o ⟨its, k, e⟩ g => x b o (fun m => by obtain ⟨o', g', n⟩ := f b m; rw [g] at g'; cases g'; exact n its k e) g
theorem Soft.ns {h : Heap} {L : Addr} {m : Str → Option Value} (hn : h.Ns L m) : Soft [L] h := fun b hb => by
  rw [List.mem_singleton.mp hb]
  obtain ⟨o, es, ep, ho, hd, _⟩ := hn
  exact ⟨o, ho, fun its k e => by rw [hd] at e; cases e⟩

/-- x = e, x a local name -/
theorem st_local {x : Str} {p pos : Pos} {e : Expr} {R : Rl} {s₀ s : Shared} {m : Str → Option Value} {Q : Flow → Shared → Prop} {E : Value → Shared → Prop} (I : InF s₀ env.locals m s) (c : Co w A (eval e env) s.heap R)
    (hl : env.kindOf x = some .local) (hp : (env.scope.kind == .class || (env.scope.kind == .module && env.locals != env.globals)) = false)
    (k : ∀ v s', InF s₀ env.locals (fun y => if y = x then some v else m y) s' → KeepBut [env.locals] s.heap s'.heap → (∀ R', Firm R' → (∀ h, R v h → R' v h) → R' v s'.heap) → Q .next s')
    (hs : swapsWith e (some (.Name x p)) pos.line env = pure false := by rfl) : wpAny (Md w) A (exec (.Assign [.Name x p] e pos) env) Q E s :=
  wpAny_Assign_Name (c.use (Grow.refl _) fun v s₁ r e₁ => wpAny_storeName_local hl (I.ext e₁).F.ns (fun h' hn hsb => by
    have gs := GrowS.ofNs (I.ext e₁).F.ns hsb
    exact k v _ ⟨(I.ext e₁).F.set hn hsb, (I.ext e₁).os, (I.ext e₁).gens⟩ ((e₁.grow.but _).trans fun b o hb e => hsb.extBut b o (fun h => hb (List.mem_singleton.mpr h)) e) fun R' f q => f _ _ _ gs (q _ r)) hp) hs

/-- what stood still stands, turned or not -/
def Live (h h' : Heap) : Prop := ∀ c o, h.get? c = some o → ∃ o', h'.get? c = some o'
theorem Live.trans {a b c : Heap} (x : Live a b) (y : Live b c) : Live a c := fun p o e => by obtain ⟨o', e'⟩ := x p o e; exact y p o' e'
theorem Live.ofBut {a b : Heap} {own : List Addr} (k : KeepBut own a b) (h : ∀ c ∈ own, ∃ o, b.get? c = some o) : Live a b := fun p o e => by
  by_cases hp : p ∈ own
  · exact h p hp
  · exact ⟨o, k p o hp e⟩
/-- for target in iter: body, no turn leaves the loop -/
theorem st_for {target iter : Expr} {body : List Stmt} {pos : Pos} {own : List Addr} {n : Nat} {s : Shared} {Q : Flow → Shared → Prop} {E : Value → Shared → Prop}
    (hev : wpAny (Md w) A (eval iter env) (fun x s₁ => ∃ (hb : Heap) (P : Nat → Value → Heap → Prop) (J : Heap → Nat → Shared → Prop), Grow hb s₁.heap ∧ Iters w A target hb x s₁.heap n P ∧ Soft own hb ∧ (∀ s₂, Ext s₁ s₂ → J s₂.heap 0 s₂) ∧
      (∀ h₂ i (X : Addr → Prop) (a b : Shared), (∀ c, X c → hb.get? c = none ∧ ∃ o, h₂.get? c = some o) → (∀ c o, ¬ X c → a.heap.get? c = some o → b.heap.get? c = some o) → b.os = a.os → b.gens = a.gens → (i < n → Live a.heap b.heap) → J h₂ i a → J h₂ i b) ∧
      (∀ h₂ i v s', i < n → J h₂ i s' → P i v s'.heap → wpAny (Md w) A (assign target env v) (fun _ s₂ => wpAny (Md w) A (execs body env) (fun f s₃ => f = .next ∧ J h₂ (i + 1) s₃ ∧ KeepBut own s'.heap s₃.heap) NoE s₂) NoE s') ∧
      (∀ h₂ s', J h₂ n s' → Q .next s')) NoE s)
    (hs : ∀ x, foldedSetIterable iter env x = pure x := by intro _; rfl) : wpAny (Md w) A (exec (.For target iter body [] pos) env) Q E s := by
  refine wpAny_For (wnd hev fun x s₁ h₁ => ?_) hs
  obtain ⟨hb, P, J, gb, hI, soft, j0, jst, turn, fin⟩ := h₁
  refine wnd (hI s₁ (Grow.refl _)) fun it s₂ h₂ => ?_
  obtain ⟨⟨I, fp, wr, Mid, St, rfl, W, hst, hfp, hwr, hlive, hsq, hself⟩, e₂⟩ := h₂
  have hX : ∀ c, c ∈ wr → hb.get? c = none ∧ ∃ o, s₂.heap.get? c = some o := fun c hc => ⟨hwr c hc, hlive 0 _ hst c hc⟩
  have hdis : ∀ c, c ∈ fp → c ∉ own := fun c hc ho => by
    obtain ⟨o, e, hn⟩ := soft c ho
    rcases hsq c hc with h | ⟨o', its, k, e', hd⟩
    · rw [h] at e; cases e
    · rw [e₂.grow _ _ (gb _ _ e)] at e'; cases e'; exact hn its k hd
  refine codeAny_forLoop_any (fun k s' => ∃ i, k + i = n ∧ St i s'.heap ∧ J s₂.heap i s') ?_ n ⟨0, rfl, hst, j0 s₂ e₂⟩
  rintro k s' ⟨i, hki, hst', hj⟩
  cases k with
  | zero =>
    obtain rfl : i = n := by omega
    refine W.done s' _ _ hst' fun h' tk hk => ?_
    exact wpAny_execs_nil (fin s₂.heap _ (jst s₂.heap i (fun c => c ∈ wr) s' _ hX (fun c o hc e => hk c o hc e) rfl rfl (fun h => absurd h (Nat.lt_irrefl _)) hj))
  | succ k =>
    refine W.item i s' _ _ (by omega) hst' fun v h' tk hm hk => ?_
    refine W.go i v _ _ _ hm fun h'' hp st hk' => ?_
    have hj' := jst s₂.heap i (fun c => c ∈ wr) s' { s' with heap := h'', toks := tk } hX (fun c o hc e => hk' c o hc (hk c o hc e)) rfl rfl (fun _ c o e => by
      by_cases hc : c ∈ wr
      · exact hlive _ _ st c hc
      · exact ⟨o, hk' c o hc (hk c o hc e)⟩) hj
    refine wnd (turn s₂.heap i v _ (by omega) hj' hp) fun _ s₃ h₃ => ?_
    refine wnd h₃ fun f s₄ h₄ => ?_
    obtain ⟨rfl, hj₄, hk₄⟩ := h₄
    exact ⟨k, Nat.lt_succ_self k, i + 1, by omega, W.frame _ _ _ st fun b hb o e => hk₄ b o (hdis b hb) e, hj₄⟩
end
end Mine

namespace Mine
open Builtin
theorem new_eq (b : Array UInt8) (t u : Tok) : «str.__new__» ⟨[.type "str", .bytes b t, .str (PySem.Str.ofString "ascii") u], []⟩ = (mkStr (PySem.Str.ofString "ascii") >>= fun e => rule "str.__new__.decode-bytes" >>= fun _ => call (.builtin "bytes.decode") [.bytes b t] [(PySem.Str.ofString "encoding", e)] >>= fun v => ret v) := by kernel_rfl
theorem check_eq (b : Array UInt8) (t u : Tok) : checkBuiltinCall "bytes.decode" ⟨[.bytes b t], [(PySem.Str.ofString "encoding", .str (PySem.Str.ofString "ascii") u)]⟩ = pure () := by kernel_rfl
theorem dec0_eq (t u : Tok) : «bytes.decode» ⟨[.bytes #[] t], [(PySem.Str.ofString "encoding", .str (PySem.Str.ofString "ascii") u)]⟩ = (rule "bytes.decode.empty" >>= fun _ => retStr Str.empty) := by kernel_rfl
theorem dec_eq (c : UInt8) (cs : List UInt8) (t u : Tok) : «bytes.decode» ⟨[.bytes (c :: cs).toArray t], [(PySem.Str.ofString "encoding", .str (PySem.Str.ofString "ascii") u)]⟩ = (mkStr (PySem.Str.ofString "utf-8") >>= fun _ => mkStr (PySem.Str.ofString "ascii") >>= fun e => mkStr (PySem.Str.ofString "bytes.decode") >>= fun d =>
    call (.builtin "_codecs.decode.text") [.bytes (c :: cs).toArray t, e, .none, d] >>= fun v => ret v) := by kernel_rfl
theorem road_eq {id : String} (b : Array UInt8) : _codecs.decodeRoad id b (PySem.Str.ofString "ascii") none [] = (_codecs.runDecoder id _codecs.asciiDecoder none true b 0 [] >>= fun r => mkStr ⟨r.1⟩) := by kernel_rfl
theorem typeCall_str_2 (a b : Value) : checkTypeCall "str" ⟨[a, b], []⟩ = pure () := by kernel_rfl
theorem newCall_str_2 (a b : Value) : checkBuiltinCall "str.__new__" ⟨[.type "str", a, b], []⟩ = pure () := by kernel_rfl
theorem forIn_steps {σ : Type} (f : Nat → σ → Sem (ForInStep σ)) (g : Nat → σ) (n : Nat) (h : ∀ k, k < n → f k (g k) = pure (.yield (g (k + 1)))) : ∀ m k, k + m = n → forIn (List.range' k m 1) (g k) f = pure (g n)
  | 0, k, e => by
    have : k = n := by omega
    subst this
    simp
  | m + 1, k, e => by
    rw [List.range'_succ, List.forIn_cons, h k (by omega)]
    exact forIn_steps f g n h m (k + 1) (by omega)
def decAt (b : Array UInt8) (k : Nat) : Nat × Array Nat × _codecs.Faults := (k, ((b.toList.take k).map (·.toNat)).toArray, { held := [] })
theorem run_ascii (id : String) (b : Array UInt8) (hb : ∀ c ∈ b.toList, c.toNat < 128) (hsz : b.size ≤ 1000) : _codecs.runDecoder id _codecs.asciiDecoder none true b 0 [] = pure ((b.toList.map (·.toNat)).toArray, b.size) := by
  unfold _codecs.runDecoder
  dsimp only
  rw [Std.Legacy.Range.forIn_eq_forIn_range']
  show (forIn (List.range' 0 ((b.size - 0 + 1 - 1) / 1) 1) (decAt b 0) _ >>= _) = _
  rw [forIn_steps _ (decAt b) b.size ?_ _ 0 (by simp)]
  · show (Pure.pure ((decAt b b.size).2.1, (decAt b b.size).1) : Sem (Array Nat × Nat)) = _
    simp only [decAt]
    rw [List.take_of_length_le (by simp)]
  · intro k hk
    dsimp only [decAt]
    have h1 : ¬ ((b.toList.take k).map (·.toNat)).toArray.size > sizeLine := by
      rw [List.size_toArray, List.length_map, List.length_take, sizeLine_eq, Array.length_toList]; omega
    rw [if_neg h1, if_neg (by omega)]
    have h2 : (b.getD k 0).toNat < 128 := hb _ (by simp [Array.getD, hk])
    have h3 : _codecs.asciiDecoder.find true b k = .text [(b.getD k 0).toNat] (k + 1) := by
      show (if (b.getD k 0).toNat < 128 then _codecs.Found.char _ (k + 1) else _) = _
      rw [if_pos h2]; rfl
    rw [h3]
    dsimp only
    have h4 : ((b.toList.take k).map (·.toNat)).toArray ++ [(b.getD k 0).toNat].toArray = ((b.toList.take (k + 1)).map (·.toNat)).toArray := by
      rw [List.take_succ_eq_append_getElem (by simpa using hk), List.map_append]
      simp [Array.getD, hk]
    rw [h4]

def textOf (b : Array UInt8) : Str := ⟨(b.toList.map (·.toNat)).toArray⟩
theorem textOf_len (b : Array UInt8) : (textOf b).length = b.size := by simp [textOf, Str.length]

theorem meets_textA {t t1 t2 : Tok} {d : Str} {b : Array UInt8} (hb : ∀ c ∈ b.toList, c.toNat < 128) (hsz : b.size ≤ 1000) :
    Meets («_codecs.decode.text» ⟨[.bytes b t, .str (PySem.Str.ofString "ascii") t1, .none, .str d t2], []⟩) (fun _ R s => R (.ok (.ret (.str (textOf b) s.toks))) { s with toks := s.toks + 1 }) := by
  refine .of_wp fun prog w A R s h => ?_
  show wpAny _ _ (Bytes.bytesLike _ (.bytes b t) >>= fun r => _) _ _ s
  refine wpAny_bind (wpAny_of_eq KBd.like_eq ?_)
  refine wpAny_bind (wpAny_of_eq KBd.held_eq ?_)
  show wpAny _ _ (_codecs.decodeRoad _ b (PySem.Str.ofString "ascii") none [] >>= fun v => _) _ _ s
  rw [road_eq, run_ascii _ b hb hsz]
  refine wpAny_bind (wpAny_bind (wpAny_pure ?_))
  exact wpAny_mkStr (wpAny_pure ⟨_, rfl, h⟩) (by show (textOf b).length ≤ _; rw [textOf_len, sizeLine_eq]; omega)

section
variable {w : World} {A : Around} {env : Env} {h₀ : Heap}

theorem decode_kw {b : Array UInt8} {t u : Tok} {Q : Value → Shared → Prop} {E : Value → Shared → Prop} {s : Shared} (hb : ∀ c ∈ b.toList, c.toNat < 128) (hsz : b.size ≤ 1000) (h : ∀ t' k, Q (.str (textOf b) t') { s with toks := k }) :
    wpAny (Md w) A (call (.builtin "bytes.decode") [.bytes b t] [(PySem.Str.ofString "encoding", .str (PySem.Str.ofString "ascii") u)]) Q E s := by
  refine wpAny_call (codeAny_call_builtin (by decide +kernel) FB.entry_bytes_decode ?_)
  rw [check_eq]
  refine wpAny_pure ?_
  obtain ⟨l⟩ := b
  cases l with
  | nil =>
    show wpAny _ _ («bytes.decode» ⟨[.bytes #[] t], _⟩) _ _ _
    rw [dec0_eq]
    refine wpAny_bind (wpAny_rule ?_)
    exact wpAny_bind (wpAny_mkStr (wpAny_pure (h _ _)) (by decide))
  | cons c cs =>
    show wpAny _ _ («bytes.decode» ⟨[.bytes (c :: cs).toArray t], _⟩) _ _ _
    rw [dec_eq]
    refine wpAny_bind (wpAny_mkStr ?_ (by decide))
    refine wpAny_bind (wpAny_mkStr ?_ (by decide))
    refine wpAny_bind (wpAny_mkStr ?_ (by decide))
    exact wpAny_bind (call_function_meets KBd.kind_text KBd.plain_text KBd.entry_text (KBd.args_text _ _ _ _) (meets_textA hb hsz) (wpAny_pure (h _ _)))

theorem meets_newA {t u : Tok} {b : Array UInt8} (hb : ∀ c ∈ b.toList, c.toNat < 128) (hsz : b.size ≤ 1000) :
    MeetsIn Pg w («str.__new__» ⟨[.type "str", .bytes b t, .str (PySem.Str.ofString "ascii") u], []⟩) (fun _ R s => ∀ t' k, R (.ok (.ret (.str (textOf b) t'))) { s with toks := k }) := by
  refine MeetsIn.of_wp fun A R s h => ?_
  rw [new_eq]
  refine wpAny_bind (wpAny_mkStr ?_ (by decide))
  refine wpAny_bind (wpAny_rule ?_)
  exact wpAny_bind (decode_kw hb hsz fun t' k => wpAny_pure ⟨_, rfl, h t' k⟩)

theorem call_strA {b : Array UInt8} (hb : ∀ c ∈ b.toList, c.toNat < 128) (hsz : b.size ≤ 1000) : ∀ vs h, Grow h₀ h → Pw h [VBytes b, VStr (PySem.Str.ofString "ascii")] vs → Co w A (call (.type "str") vs) h (VStr (textOf b))
  | [v, u], h, _, ⟨⟨t, e⟩, ⟨t', e'⟩, _⟩ => fun s g => by
    subst e e'
    exact callType_newIn PySem.F.called_str (by decide) (typeCall_str_2 _ _) (newCall_str_2 _ _) (fun obj => PySem.F.args_object_init_3 obj _ _) PySem.F.entry_str_new (meets_newA hb hsz) fun t' k => ⟨typeIs_str _ _ _, ⟨_, rfl⟩, Ext.toks _ _⟩
  | [], _, _, p => p.elim
  | [_], _, _, p => p.2.elim
  | _ :: _ :: _ :: _, _, _, p => p.2.2.elim

theorem call_abs {a : Int} (h0 : 0 ≤ a) : ∀ vs h, Grow h₀ h → Pw h [VInt a] vs → Co w A (call (.builtin "abs") vs) h (VInt a)
  | [v], h, _, ⟨⟨t, e⟩, _⟩ => fun s g => by
    subst e
    refine call_abs_int fun u tk => ⟨⟨u, ?_⟩, Ext.toks _ _⟩
    rw [if_neg (by omega)]
  | [], _, _, p => p.elim
  | _ :: _ :: _, _, _, p => p.2.elim
theorem call_int {a : Int} : ∀ vs h, Grow h₀ h → Pw h [VInt a] vs → Co w A (call (.type "int") vs) h (VInt a)
  | [v], h, _, ⟨⟨t, e⟩, _⟩ => fun s g => by
    subst e
    exact call_int_int ⟨⟨_, rfl⟩, Ext.refl _⟩
  | [], _, _, p => p.elim
  | _ :: _ :: _, _, _, p => p.2.elim
def VPair (R S : Rl) : Rl := fun v h => ∃ T x y, v = .ref T ∧ h.IsTuple T #[x, y] ∧ R x h ∧ S y h
theorem call_divmod {a : Int} : ∀ vs h, Grow h₀ h → Pw h [VInt a, VInt 16] vs → Co w A (call (.builtin "divmod") vs) h (VPair (VInt (a / 16)) (VInt (a % 16)))
  | [v, u], h, _, ⟨⟨t, e⟩, ⟨t', e'⟩, _⟩ => fun s g => by
    subst e e'
    refine divmod_int (by decide) ⟨⟨_, _, _, rfl, ⟨_, Heap.get?_push_size _ rfl, rfl, _, rfl⟩, ⟨s.toks, ?_⟩, ⟨s.toks + 1, ?_⟩⟩, Ext.heap _ (Grow.push _ _)⟩ (.inl (PyProof.noPylong_small (by decide)))
    · rw [Int.fdiv_eq_ediv_of_nonneg _ (by decide)]
    · rw [Int.fmod_eq_emod_of_nonneg _ (by decide)]
  | [], _, _, p => p.elim
  | [_], _, _, p => p.2.elim
  | _ :: _ :: _ :: _, _, _, p => p.2.2.elim
theorem call_lstrip {x y : Str} {t : Tok} (hx : x.length ≤ 1000) : ∀ vs h, Grow h₀ h → Pw h [VStr y] vs → Co w A (call (.builtin "str.lstrip") (.str x t :: vs)) h (VStr (Txt.lstripChars x y))
  | [v], h, _, ⟨⟨u, e⟩, _⟩ => fun s g => by
    subst e
    exact SC.lstripChars (fun t' k => ⟨⟨_, rfl⟩, Ext.toks _ _⟩) (by rw [sizeLine_eq]; omega)
  | [], _, _, p => p.elim
  | _ :: _ :: _, _, _, p => p.2.elim
theorem call_join {x : Str} {ys : List Str} {t : Tok} (hok : (ys.map (·.length)).sum + ys.length * x.length ≤ 1000) : ∀ vs h, Grow h₀ h → Pw h [VStrs ys] vs → Co w A (call (.builtin "str.join") (.str x t :: vs)) h (VStr (Txt.join x ys))
  | [v], h, _, ⟨r, _⟩ => fun s g => by
    obtain ⟨la, i1, rfl, hl, p1⟩ := (VStrs.mono _ _ _ _ g r).weak
    exact join_list hl (pw_strs p1) (by omega) fun t' k => ⟨⟨_, rfl⟩, Ext.toks _ _⟩
  | [], _, _, p => p.elim
  | _ :: _ :: _, _, _, p => p.2.elim

theorem co_bytesSlice {value : Expr} {lower upper : Option Expr} {p pos : Pos} {b : Array UInt8} {lo hi : Option Int} (hb : b.size ≤ 1000) (v : Co w A (eval value env) h₀ (VBytes b)) (x : Co w A (evalPart lower env) h₀ (VPart lo)) (y : Co w A (evalPart upper env) h₀ (VPart hi)) :
    Co w A (eval (.Subscript value (.Slice lower upper none p) pos) env) h₀ (VBytes (KBy.picked b lo hi)) := by
  refine co_subs (VBytes.mono _) v (co_slice x y) fun o i h _ ⟨t, ho⟩ ⟨ad, l, u, hi', hs, hl, hu⟩ => ?_
  subst ho hi'
  refine Co.of fun s g Q k => ?_
  obtain ⟨ob, e1, e2, e3⟩ := hs
  refine tail_any (T := "bytes") (typeIs_bytes _ _ _) FB.slot_bytes_getitem.lookup ?_ (by with_unfolding_all rfl)
  exact getItem_meets (typeIs_bytes _ _ _) (by decide) FB.slot_bytes_getitem FB.entry_bytes_getitem (FB.args_bytes_getitem_2 _ _) (KBc.meets_slice2 b t _ hl.isPart hu.isPart)
    ⟨⟨ob, g _ _ e1, e2, e3⟩, Nat.le_trans (KBc.size_picked_le b lo hi) (by rw [sizeLine_eq]; omega), fun t' tk => k _ _ ⟨_, rfl⟩ (Ext.toks _ _)⟩
theorem co_bytesAdd {l r : Expr} {pos : Pos} {b c : Array UInt8} (hb : b.size ≤ 1000) (hc : c.size ≤ 1000) (x : Co w A (eval l env) h₀ (VBytes b)) (y : Co w A (eval r env) h₀ (VBytes c)) : Co w A (eval (.BinOp l .Add r pos) env) h₀ (VBytes (b ++ c)) :=
  co_bin (VBytes.mono _) x y fun _ _ _ _ ⟨_, e⟩ ⟨_, f⟩ => by
    subst e f
    exact Co.of fun _ _ _ k => KBy.add_bytes (by omega) fun t' tk => k _ _ ⟨_, rfl⟩ (Ext.toks _ _)
/-- s[i] of a text -/
theorem co_strIdx {value slice : Expr} {pos : Pos} {x : Str} {n : Nat} {c : Nat} (hc : x.cps[n]? = some c) (hx : x.length ≤ 1000) (v : Co w A (eval value env) h₀ (VStr x)) (b : Co w A (eval slice env) h₀ (VInt n))
    (hs : ∀ t u, subscripted slice false (.str x t) (.int n u) = operate [.str x t, .int n u] (getItem (.str x t) (.int n u)) := by intro _ _; with_unfolding_all rfl) :
    Co w A (eval (.Subscript value slice pos) env) h₀ (VStr ⟨#[c]⟩) := by
  refine co_subs (VStr.mono _) v b fun o i h _ ⟨t, ho⟩ ⟨u, hi'⟩ => ?_
  subst ho hi'
  refine Co.of fun s g Q q => ?_
  have hlt : n < x.cps.size := by
    by_cases h : n < x.cps.size
    · exact h
    · rw [Array.getElem?_eq_none (by omega)] at hc; cases hc
  have hlen : x.length = x.cps.size := rfl
  refine tail_any (typeIs_str _ _ _) F.slot_str_getitem.lookup ?_ (hs _ _)
  refine PyProof.Rows.getItem_str (c := c) ?_ ?_ (q _ _ ⟨_, rfl⟩ (Ext.toks _ _))
  · simp only [Bool.or_eq_false_iff, decide_eq_false_iff_not]; omega
  · have e : seqIndex? (n : Int) x.length = some n := by
      have h1 : ¬ ((n : Int) < 0) := by omega
      have h2 : (0 : Int) ≤ n := by omega
      have h3 : (n : Int) < x.cps.size := by omega
      simp [seqIndex?, hlen, h1, h2, h3]
    rw [e]; exact hc
end
end Mine

namespace Mine

theorem map_strs {n : Nat} (f : Nat → Str) : ((List.range n).filter fun _ => true).map (fun i => VStr (f i)) = ((List.range n).map f).map VStr := by
  rw [List.filter_eq_self.mpr (fun _ _ => rfl), List.map_map]; rfl
theorem map_ints {n : Nat} (f : Nat → Int) : ((List.range n).filter fun _ => true).map (fun i => VInt (f i)) = ((List.range n).map f).map VInt := by
  rw [List.filter_eq_self.mpr (fun _ _ => rfl), List.map_map]; rfl
theorem map_rows {n : Nat} (f : Nat → List Str) : ((List.range n).filter fun _ => true).map (fun i => VStrs (f i)) = ((List.range n).map f).map VStrs := by
  rw [List.filter_eq_self.mpr (fun _ _ => rfl), List.map_map]; rfl

def compEnvX (scope : Scope) (cl : List (Str × Addr)) (C K : Addr) (x : Str) (env : Env) : Env :=
  { scope := relabel scope env, locals := C, globals := env.globals, cells := (x, K) :: cl, qual := env.qual, func := none, code := env.code, frame := env.frame, builtins := env.builtins }

section
variable {w : World} {A : Around} {env : Env} {h₀ : Heap}

/-- a comprehension whose own name is captured by an inner one -/
theorem co_compX {elt iter : Expr} {x : Str} {px : Pos} {scope : Scope} {pos : Pos} {cl : List (Str × Addr)} {n : Nat} {RI : Heap → Rl} {P : Nat → Value → Heap → Prop} {PV : Nat → Value → Prop} {F : Nat → Rl}
    (hclos : closureFor scope env = pure cl) (hcf : ∀ k, cellsFrom k scope.names cl = (x, k) :: cl) (hpc : ∀ h, pushCells h scope.names = h.push { cls := .type "cell", data := .cell none }) (hkind : scope.kind = .function)
    (hx : (relabel scope env).names.lookup x = some .cell)
    (hnames : ∀ y ∈ scope.names, y.2 = .local → scope.names.lookup y.1 = some .local) (hsz : n ≤ 1000)
    (hit : ∀ hb, Grow h₀ hb → Co w A (eval iter env) hb (RI hb)) (hiter : ∀ hb v h, Grow h₀ hb → Grow hb h → RI hb v h → Iters w A (.Name x px) hb v h n P) (hP : ∀ i v h, P i v h → PV i v)
    (helt : ∀ i C K v h, i < n → Grow h₀ h → h.IsCell K (some v) → PV i v → Co w A (eval elt (compEnvX scope cl C K x env)) h (Stb h (F i)))
    (hs : ∀ x, foldedSetIterable iter env x = pure x := by intro _; rfl) :
    Co w A (eval (.ListComp elt [⟨.Name x px, iter, [], 0⟩] scope pos) env) h₀ (VNew h₀ (((List.range n).filter fun _ => true).map F)) := by
  intro s₀ g₀
  rw [eval_ListComp]
  refine wpAny_comprehension_free (use := none) rfl hs hclos hkind hnames ((hit s₀.heap g₀).use (Grow.refl _) fun xv s₁ rx e₁ => wnd (hiter s₀.heap xv s₁.heap g₀ e₁.grow rx s₁ (Grow.refl _)) fun it s₂ h₂ => ?_)
  obtain ⟨⟨I, fp, wr, Mid, St, rfl, W, hst, hfp, hwr, hlive, _, hself⟩, e₂⟩ := h₂
  have e₀₂ := e₁.trans e₂
  refine wpAny_newObj_type ?_
  generalize hH2 : s₂.heap.push { cls := .type "list", dict := none, data := .seq ([] : List Value).toArray } = H2
  have hC : H2.objs.size = s₂.heap.objs.size + 1 := by rw [← hH2, Heap.size_push]
  simp only [newFunctionEnv, Option.isSome_some, if_true]
  refine wpAny_bind (wpAny_alloc ?_)
  refine wpAny_bind (wpAny_layCells _ (fun name kind cells => by cases hkc : kind == NameKind.cell <;> simp [hkc]) _ _ _ _ ?_)
  refine wpAny_bind ?_
  rw [List.forIn_nil]
  refine wpAny_pure (wpAny_pure ?_)
  dsimp only
  rw [hcf, hpc]
  generalize hH3 : H2.push { cls := .type "dict", data := .dict #[] } = H3
  have hK : H3.objs.size = H2.objs.size + 1 := by rw [← hH3, Heap.size_push]
  generalize hH4 : H3.push { cls := .type "cell", data := .cell none } = H4
  have hns : H4.Ns H2.objs.size (fun _ => none) := by
    have h1 := (Heap.Ns.new H2 (.type "dict")).keeps (h' := H4) fun b o e => hH4 ▸ Heap.get?_push_of_some _ (hH3 ▸ e)
    exact h1
  have hcl : H4.IsCell H3.objs.size none := ⟨_, hH4 ▸ Heap.get?_push_size _ rfl, rfl⟩
  generalize hKd : H3.objs.size = K at hcl hK ⊢
  generalize hCd : H2.objs.size = C at hns hC hK ⊢
  generalize hDd : s₂.heap.objs.size = D at hC ⊢
  have hlt : ∀ b : Addr, b < D → b ≠ C ∧ b ≠ D ∧ b ≠ K := fun b hb => by
    have h1 : b < C := by rw [hC]; exact Nat.lt_succ_of_lt hb
    exact ⟨Nat.ne_of_lt h1, Nat.ne_of_lt hb, Nat.ne_of_lt (by rw [hK]; exact Nat.lt_succ_of_lt h1)⟩
  have hDC : D < C := by rw [hC]; exact Nat.lt_succ_self _
  have hCK : C < K := by rw [hK]; exact Nat.lt_succ_self _
  have old : ∀ b o, s₂.heap.get? b = some o → b < D := fun b o e => hDd ▸ Heap.lt_size e
  have up : Grow s₂.heap H4 := fun b o e => hH4 ▸ Heap.get?_push_of_some _ (hH3 ▸ Heap.get?_push_of_some _ (hH2 ▸ Heap.get?_push_of_some _ e))
  have hacc : H4.PlainList D #[] := ⟨_, hH4 ▸ Heap.get?_push_of_some _ (hH3 ▸ Heap.get?_push_of_some _ (hH2 ▸ hDd ▸ Heap.get?_push_size _ rfl))⟩
  have hst₁ : St 0 H4 := W.frame _ _ _ hst fun b _ o e => up b o e
  rw [hDd] at hfp
  have hDf : D ∉ fp := fun hm => (hlt D (hfp _ hm)).2.1 rfl
  have hof : ∀ b ∈ [C, K], b ∉ fp := fun b hb hm => by
    simp only [List.mem_cons, List.not_mem_nil, or_false] at hb
    rcases hb with rfl | rfl
    · exact (hlt _ (hfp _ hm)).1 rfl
    · exact (hlt _ (hfp _ hm)).2.2 rfl
  have fresh : ∀ b o, s₀.heap.get? b = some o → b ∉ [C, K] ∧ b ∉ wr ∧ b ≠ D := fun b o e => by
    have h1 := hlt b (old b o (e₀₂.grow b o e))
    refine ⟨fun hb => ?_, fun hm => ?_, h1.2.1⟩
    · simp only [List.mem_cons, List.not_mem_nil, or_false] at hb
      rcases hb with rfl | rfl
      · exact h1.1 rfl
      · exact h1.2.2 rfl
    · rw [hwr b hm] at e; cases e
  have hDn : h₀.get? D = none := by
    cases e : h₀.get? D with
    | none => rfl
    | some o => exact absurd rfl (fresh D o (g₀ _ _ e)).2.2
  have loop : codeAny (Md w) A (.compLoop (.ListComp elt [⟨.Name x px, iter, [], 0⟩] scope pos) 0 (.ref I) (.ref D) (compEnvX scope cl C K x env))
      (compPost (Md w) A NoE none (fun v s' => VNew h₀ (((List.range n).filter fun _ => true).map F) v s'.heap ∧ Ext s₀ s') (.ref D) C) { s₂ with heap := H4 } := by
    refine comp_loop (s₁ := s₀) (F := F) (p := fun _ => true) (own := [C, K]) (J := fun h => (∃ m, h.Ns C m) ∧ ∃ v, h.IsCell K v) (Bh := fun i h => (∃ m, h.Ns C m) ∧ ∃ v, h.IsCell K (some v) ∧ PV i v) hsz W hst₁ hacc ⟨⟨_, hns⟩, ⟨_, hcl⟩⟩ ⟨e₀₂.grow.trans up, e₀₂.os, e₀₂.gens⟩
      ?_ ?_ ?_ ?_ ?_ hDf hof fresh hlive ?_ ?_ ?_ ?_
    · rintro h h' ⟨⟨m, hn⟩, v, o, ho, hd⟩ hk
      exact ⟨⟨m, hn.at' fun o e => hk C (by simp) o e⟩, v, o, hk K (by simp) o ho, hd⟩
    · rintro i h h' ⟨⟨m, hn⟩, v, ⟨o, ho, hd⟩, hp⟩ hk
      exact ⟨⟨m, hn.at' fun o e => hk C (by simp) o e⟩, v, ⟨o, hk K (by simp) o ho, hd⟩, hp⟩
    · rintro i h ⟨hn, v, hc, _⟩
      exact ⟨hn, _, hc⟩
    · rintro h ⟨⟨m, hn⟩, v, hc⟩ b hb
      simp only [List.mem_cons, List.not_mem_nil, or_false] at hb
      rcases hb with rfl | rfl
      · obtain ⟨o, _, _, ho, _⟩ := hn; exact ⟨o, ho⟩
      · obtain ⟨o, ho, _⟩ := hc; exact ⟨o, ho⟩
    · intro hb
      simp only [List.mem_cons, List.not_mem_nil, or_false] at hb
      rcases hb with h | h
      · exact absurd h (Nat.ne_of_lt hDC)
      · exact absurd h (Nat.ne_of_lt (Nat.lt_trans hDC hCK))
    · rintro i v s hPv ⟨⟨m, hn⟩, v', hc⟩
      refine wpAny_assign_Name (wpAny_storeName_cell (env := compEnvX scope cl C K x env) (c := K) hkind hx (by simp [compEnvX]) hc fun h' hc' hsb => ?_)
      refine ⟨⟨⟨m, hn.sameBut hsb (Nat.ne_of_lt hCK)⟩, v, hc', hP i v _ hPv⟩, fun b o hb e => hsb.extBut b o (fun h => hb (by simp [h])) e, rfl, rfl⟩
    · intro i h hi g _
      exact co_tests0
    · rintro i h hi _ g ⟨_, v, hc, hp⟩
      exact helt i C K v h hi (g₀.trans g) hc hp
    · rintro s' e' ⟨⟨m, hn⟩, _⟩ hv
      refine ⟨m, hn, fun h' hsb => ?_⟩
      obtain ⟨a, its, e, hl, hpw⟩ := hv h' fun b o hb e => hsb.extBut b o (fun h => hb (by simp [h])) e
      cases e
      refine ⟨⟨D, its, rfl, hl, hpw, hDn⟩, ⟨fun b o e => hsb.extBut b o (fun h => ?_) (e'.grow b o e), e'.os, e'.gens⟩⟩
      exact (fresh b o e).1 (by simp [h])
  exact codeAny_compStart_list loop (hself 0 _ _ _ hst₁ loop)
end
end Mine

namespace Mine

/-- inside a call whose frame has cells -/
structure InC (s₀ : Shared) (L : Addr) (cs : List (Str × Addr)) (m cm : Str → Option Value) (s : Shared) : Prop where
  I : InF s₀ L m s
  X : Cl L cs s.heap cm
theorem InC.ext {s₀ s s' : Shared} {L : Addr} {cs : List (Str × Addr)} {m cm : Str → Option Value} (x : InC s₀ L cs m cm s) (e : Ext s s') : InC s₀ L cs m cm s' := ⟨x.I.ext e, x.X.keeps e.grow⟩

section
variable {w : World} {A : Around} {env : Env} {h₀ : Heap}

theorem co_cells {a : Addr} {o : Obj} {name : Str} {params : Arguments} {body : List Stmt} {scope : Scope} {pm cd doc : Value} {vals : List Value} {binds : List (Str × Value)} {R : Rl}
    (hroom : A.depth < recursionLimit) (ho : h₀.get? a = some o) (hdata : o.data = .func (Calls.docDef name params body scope pm cd doc)) (hlim : h₀.NoLimit) (hcd : h₀.CodeRec cd name)
    (hbind : bindArgs (Calls.docDef name params body scope pm cd doc) ⟨vals, []⟩ = pure binds)
    (hkind : ∀ n, ∀ x ∈ binds, scope.names.lookup x.1 = some .local ∨ (scope.names.lookup x.1 = some .cell ∧ ((cellsFrom n scope.names []).lookup x.1).isSome = true))
    (hbody : ∀ (s₀ s : Shared) (L : Addr), Grow h₀ s₀.heap → InC s₀ L (cellsFrom (L + 1) scope.names []) (bindL (envOfC name scope L a cd).kindOf binds fun _ => none) (bindC (envOfC name scope L a cd).kindOf binds fun _ => none) s →
      wpAny (Md w) (A.deeper (envOfC name scope L a cd)) (execs body (envOfC name scope L a cd)) (fun f s' => R (match f with | .ret v => v | _ => .none) s'.heap ∧ Ext s₀ s') NoE s)
    (hco : scope.isCoroutine = false := by rfl) (hgen : scope.isGenerator = false := by rfl) (hk : scope.kind = .function := by rfl) : Co w A (call (.ref a) vals) h₀ R := fun s g =>
  wpAny_call (call_cells hroom (g _ _ ho) hdata (hlim.keeps g) (hcd.keeps g) hbind (hkind _)
    (fun h₁ tk F X => wnd (hbody s { s with heap := h₁, toks := tk } _ g ⟨InF.start F, X⟩) fun _ _ p => p) hco hgen hk)
end
end Mine

namespace Mine

def fnAt (i : Nat) : Stmt := Pg.main.body.getD i (.Pass ⟨0, 0, 0, 0⟩)
def nameOf : Stmt → Str
  | .FunctionDef n _ _ _ _ _ _ _ _ _ => n
  | _ => ⟨#[]⟩
def paramsOf : Stmt → Arguments
  | .FunctionDef _ p _ _ _ _ _ _ _ _ => p
  | _ => ⟨[], [], none, [], [], none, []⟩
def bodyOf : Stmt → List Stmt
  | .FunctionDef _ _ b _ _ _ _ _ _ _ => b
  | _ => []
def scopeOf : Stmt → Scope
  | .FunctionDef _ _ _ _ _ _ s _ _ _ => s
  | _ => default
/-- the def stands at a -/
structure Fn (i : Nat) (h : Heap) (a : Addr) : Prop where
  at' : ∃ o pm cd doc, h.get? a = some o ∧ o.data = .func (Calls.docDef (nameOf (fnAt i)) (paramsOf (fnAt i)) (bodyOf (fnAt i)) (scopeOf (fnAt i)) pm cd doc) ∧ h.CodeRec cd (nameOf (fnAt i))
theorem Fn.keeps {i : Nat} {h h' : Heap} {a : Addr} (x : Fn i h a) (g : Grow h h') : Fn i h' a := let ⟨⟨o, pm, cd, doc, e, r, c⟩⟩ := x; ⟨⟨o, pm, cd, doc, g _ _ e, r, c.keeps g⟩⟩

abbrev envF (i : Nat) (L a : Addr) (cd : Value) : Env := envOf (nameOf (fnAt i)) (scopeOf (fnAt i)) L a cd

def coll (x y : Str) : Int := b2i (decide (y.cps.toList < x.cps.toList)) - b2i (decide (x.cps.toList < y.cps.toList))

section
variable {w : World} {A : Around} {env : Env} {h₀ : Heap}

theorem co_strcoll {a : Addr} {x y : Str} (f : Fn 1 h₀ a) (hl : h₀.NoLimit) (hroom : A.depth < recursionLimit) : ∀ vs h, Grow h₀ h → Pw h [VStr x, VStr y] vs → Co w A (call (.ref a) vs) h (VInt (coll x y))
  | [v, u], h, g, ⟨⟨t, e⟩, ⟨t', e'⟩, _⟩ => by
    subst e e'
    obtain ⟨⟨o, pm, cd, doc, ho, hd, hc⟩⟩ := f.keeps g
    refine co_plain (binds := [(Str.ofString "a", .str x t), (Str.ofString "b", .str y t')]) hroom ho hd (hl.keeps g) hc (by rfl) (locs (by rfl)) fun s₀ s L gs I => ?_
    refine wpAny_execs_cons ?_
    refine wpAny_Return_some ?_
    have sa := sees_local (w := w) (A := A.deeper (envF 1 L a cd)) (env := envF 1 L a cd) (x := Str.ofString "a") rfl rfl I.F.ns rfl
    have sb := sees_local (w := w) (A := A.deeper (envF 1 L a cd)) (env := envF 1 L a cd) (x := Str.ofString "b") rfl rfl I.F.ns rfl
    refine Co.use (R := VInt (coll x y)) (h₀ := s.heap) ?_ (Grow.refl _) fun v s' r e => ⟨r, (I.ext e).done⟩
    exact co_bin (VBool.mono _) (co_cmp (VStr.mono _) (co_nameS sa) (co_nameS sb) (cmpS fun _ _ _ _ q => PySem.P.gt_str q)) (co_cmp (VStr.mono _) (co_nameS sa) (co_nameS sb) cmpS_lt) fun _ _ _ _ e e' => by
        cases e; cases e'
        exact Co.of fun _ _ _ k => sub_bool (k _ _ ⟨_, rfl⟩ (Ext.toks _ _))
  | [], _, _, p => p.elim
  | [_], _, _, p => p.2.elim
  | _ :: _ :: _ :: _, _, _, p => p.2.2.elim
end
end Mine

namespace Mine

/-- the figures to the base 16, the highest first, none for 0 -/
def hexL (n : Nat) : List Nat := if h : n = 0 then [] else hexL (n / 16) ++ [n % 16]
termination_by n
decreasing_by omega
theorem hexL_zero : hexL 0 = [] := by rw [hexL]; simp
theorem hexL_pos {n : Nat} (h : n ≠ 0) : hexL n = hexL (n / 16) ++ [n % 16] := by rw [hexL]; simp [h]
def letter (d : Nat) : UInt8 := UInt8.ofNat (65 + d)
def apL (n : Nat) : List UInt8 := (hexL n).map letter
theorem apL_zero : apL 0 = [] := by simp [apL, hexL_zero]
theorem apL_pos {n : Nat} (h : n ≠ 0) : apL n = apL (n / 16) ++ [letter (n % 16)] := by simp [apL, hexL_pos h]
theorem hexL_len : ∀ (k n : Nat), n < 16 ^ k → (hexL n).length ≤ k
  | 0, n, h => by
    have : n = 0 := by simpa using h
    subst this; simp [hexL_zero]
  | k + 1, n, h => by
    by_cases h0 : n = 0
    · subst h0; simp [hexL_zero]
    · rw [hexL_pos h0, List.length_append, List.length_singleton]
      have := hexL_len k (n / 16) (by rw [Nat.div_lt_iff_lt_mul (by decide)]; rw [Nat.pow_succ] at h; exact h)
      omega
def apTab : List UInt8 := [65, 66, 67, 68, 69, 70, 71, 72, 73, 74, 75, 76, 77, 78, 79, 80]
theorem pick_tab (d : Nat) (h : d < 16) : KBy.picked apTab.toArray (some (d : Int)) (some ((d : Int) + 1)) = #[letter d] := by
  have : ∀ d : Fin 16, KBy.picked apTab.toArray (some ((d : Nat) : Int)) (some (((d : Nat) : Int) + 1)) = #[letter d] := by decide +kernel
  exact this ⟨d, h⟩

section
variable {w : World} {A : Around} {env : Env} {h₀ : Heap}

/-- what the def's frame and builtins show -/
structure Bi (mg mb : Str → Option Value) (h : Heap) : Prop where
  g : h.Ns mainGlobals mg
  b : h.Ns builtinsNs mb
  nolimit : h.NoLimit
theorem Bi.keeps {mg mb : Str → Option Value} {h h' : Heap} (x : Bi mg mb h) (g : Grow h h') : Bi mg mb h' := ⟨x.g.keeps g, x.b.keeps g, x.nolimit.keeps g⟩

theorem co_int2ap {a : Addr} {n : Nat} {mg mb : Str → Option Value} (f : Fn 5 h₀ a) (B : Bi mg mb h₀) (hroom : A.depth < recursionLimit) (hh : A.handled = none)
    (gI : mg (Str.ofString "int") = none) (bI : mb (Str.ofString "int") = some (.type "int")) (gA : mg (Str.ofString "abs") = none) (bA : mb (Str.ofString "abs") = some (.builtin "abs"))
    (gD : mg (Str.ofString "divmod") = none) (bD : mb (Str.ofString "divmod") = some (.builtin "divmod")) (hn : n < 16 ^ 100) :
    ∀ vs h, Grow h₀ h → Pw h [VInt n] vs → Co w A (call (.ref a) vs) h (VBytes (apL n).toArray)
  | [v], h, g, ⟨⟨t, e⟩, _⟩ => by
    subst e
    obtain ⟨⟨o, pm, cd, doc, ho, hd, hc⟩⟩ := f.keeps g
    refine co_plain (binds := [(Str.ofString "num", .int n t)]) hroom ho hd (B.nolimit.keeps g) hc (by rfl) (locs (by rfl)) fun s₀ s L gs I => ?_
    have B₀ := (B.keeps g).keeps gs
    refine wpAny_execs_cons ?_
    refine st_local (env := envF 5 L a cd) I co_bytes rfl rfl fun v₁ s₁ I₁ _ r₁ => ?_
    obtain ⟨t₁, rfl⟩ := r₁ _ (VBytes.firm _) fun _ r => r
    refine wpAny_execs_cons ?_
    refine st_local (env := envF 5 L a cd) I₁ (co_bytes (x := apTab)) rfl rfl fun v₂ s₂ I₂ _ r₂ => ?_
    obtain ⟨t₂, rfl⟩ := r₂ _ (VBytes.firm _) fun _ r => r
    refine wpAny_execs_cons ?_
    have B₂ := B₀.keeps I₂.F.keep
    refine st_local (env := envF 5 L a cd) (R := VInt n) I₂ ?_ rfl rfl fun v₃ s₃ I₃ _ r₃ => ?_
    · refine co_callT (sees_builtin rfl rfl B₂.g gI B₂.b bI) (co_args1 (VInt.mono n) ?_) call_int
      refine co_callB (sees_builtin rfl rfl B₂.g gA B₂.b bA) (co_args1 (VInt.mono n) ?_) (call_abs (by omega))
      exact co_nameI (sees_local rfl rfl I₂.F.ns rfl)
    obtain ⟨t₃, rfl⟩ := r₃ _ (VInt.firm _) fun _ r => r
    refine wpAny_execs_cons ?_
    refine wpAny_While (codeAny_whileLoop
      (fun k s' => ∃ v m tk tv ta, InF s₀ L m s' ∧ m (Str.ofString "num") = some (.int k tk) ∧ m (Str.ofString "val") = some (.bytes v tv) ∧ m (Str.ofString "AP") = some (.bytes apTab.toArray ta) ∧ apL k ++ v.toList = apL n) ?_ n
      ⟨#[], _, t₃, t₁, t₂, I₃, rfl, rfl, rfl, by simp⟩)
    rintro k s' ⟨v, m, tk, tv, ta, I', hk, hv, hA, he⟩
    have B' := B₀.keeps I'.F.keep
    have hvl : v.size ≤ 100 := by
      have h1 := congrArg List.length he
      have h2 := hexL_len 100 n hn
      rw [List.length_append] at h1
      have h4 : v.toList.length = v.size := Array.length_toList
      have h3 : (apL n).length ≤ 100 := by simpa [apL] using h2
      omega
    refine isTrue_plain (Co.use (co_nameI (sees_local (env := envF 5 L a cd) rfl rfl I'.F.ns hk)) (Grow.refl _) fun x s₄ r₄ e₄ => ?_)
    obtain ⟨_, rfl⟩ := r₄
    refine PyProof.Rows.truthy_int ?_
    have I₄ := I'.ext e₄
    by_cases hk0 : k = 0
    · subst hk0
      rw [if_neg (by decide)]
      refine wpAny_execs_nil ?_
      show wpAny _ _ _ _ _ _
      refine wpAny_execs_cons ?_
      refine wpAny_Return_some ?_
      rw [apL_zero, List.nil_append] at he
      refine Co.use (R := VBytes (apL n).toArray) (h₀ := s₄.heap) ?_ (Grow.refl _) fun v s' r e => ⟨r, (I₄.ext e).done⟩
      have hv' : m (Str.ofString "val") = some (.bytes (apL n).toArray tv) := by rw [hv, ← he, Array.toArray_toList]
      exact co_nameB (sees_local rfl rfl I₄.F.ns hv')
    · rw [if_pos (by simpa using hk0)]
      refine wpAny_execs_cons ?_
      refine Assign_Tuple (Co.use (R := VPair (VInt ((k : Int) / 16)) (VInt ((k : Int) % 16))) (h₀ := s₄.heap) ?_ (Grow.refl _) fun x s₅ r₅ e₅ => ?_)
      · have B₄ := B₀.keeps I₄.F.keep
        refine co_callB (sees_builtin rfl rfl B₄.g gD B₄.b bD) (co_args2 (VInt.mono k) (VInt.mono 16) ?_ co_int) call_divmod
        exact co_nameI (sees_local rfl rfl I₄.F.ns hk)
      have I₅ := I₄.ext e₅
      obtain ⟨T, x1, y1, rfl, hT, ⟨q1, rfl⟩, ⟨q2, rfl⟩⟩ := r₅
      refine kcp_assign (env := envF 5 L a cd) hh hT rfl rfl rfl I₅.F.ns fun h₆ tk₆ hn₆ hk₆ => ?_
      have I₆ : InF s₀ L (fun z => if z = Str.ofString "mod" then some (.int ((k : Int) % 16) q2) else if z = Str.ofString "num" then some (.int ((k : Int) / 16) q1) else m z) { s₅ with heap := h₆, toks := tk₆ } :=
        ⟨⟨hn₆, fun b o e => hk₆ b o (Nat.ne_of_lt (Nat.lt_of_lt_of_le (Heap.lt_size e) I₅.F.above)) (I₅.F.keep b o e), I₅.F.above⟩, I₅.os, I₅.gens⟩
      refine wpAny_execs_cons ?_
      have hm : (k : Int) % 16 = ((k % 16 : Nat) : Int) := by omega
      refine st_local (env := envF 5 L a cd) (R := VBytes (#[letter (k % 16)] ++ v)) I₆ ?_ rfl rfl fun v₇ s₇ I₇ _ r₇ => ?_
      · refine co_bytesAdd (by simp) (by omega) ?_ (co_nameB (sees_local rfl rfl I₆.F.ns hv))
        rw [← pick_tab (k % 16) (by omega), ← hm]
        have sm : Sees w (A.deeper (envF 5 L a cd)) (envF 5 L a cd) h₆ (Str.ofString "mod") (.int ((k : Int) % 16) q2) := sees_local rfl rfl I₆.F.ns rfl
        exact co_bytesSlice (by decide) (co_nameB (sees_local rfl rfl I₆.F.ns hA)) (co_part1 (co_nameI sm)) (co_part1 (co_add (co_nameI sm) co_int))
      obtain ⟨t₇, rfl⟩ := r₇ _ (VBytes.firm _) fun _ r => r
      refine wpAny_execs_nil ?_
      refine ⟨k / 16, by omega, #[letter (k % 16)] ++ v, _, q1, t₇, ta, I₇, ?_, rfl, hA, ?_⟩
      · show some (Value.int ((k : Int) / 16) q1) = some (Value.int ((k / 16 : Nat) : Int) q1)
        rw [show (k : Int) / 16 = ((k / 16 : Nat) : Int) by omega]
      · rw [← he, apL_pos hk0]
        simp
  | [], _, _, p => p.elim
  | _ :: _ :: _, _, _, p => p.2.elim
end
end Mine

namespace Mine

theorem fold_ones (sep : Str) (hs : sep.cps = #[]) : ∀ (l : List Nat) (acc : Array Nat), (l.map fun c => (⟨#[c]⟩ : Str)).foldl (fun acc p => acc ++ sep.cps ++ p.cps) acc = acc ++ l.toArray
  | [], acc => by simp
  | c :: l, acc => by
    rw [List.map_cons, List.foldl_cons, fold_ones sep hs l, hs]
    apply Array.ext'; simp
theorem join_letters (sep : Str) (hs : sep.cps = #[]) (l : List Nat) : Txt.join sep (l.map fun c => (⟨#[c]⟩ : Str)) = ⟨l.toArray⟩ := by
  show Builtin.Str.glued sep _ = _
  cases l with
  | nil => rfl
  | cons c l =>
    show (⟨(l.map fun c => (⟨#[c]⟩ : Str)).foldl (fun acc p => acc ++ sep.cps ++ p.cps) #[c]⟩ : Str) = _
    rw [fold_ones sep hs]
    congr 1
    apply Array.ext'; simp

/-- the ten letters of a number -/
def tenL (n : Nat) : List Nat := (List.range 10).map fun i => 65 + n / 16 ^ (9 - i) % 16
def ten (n : Nat) : Str := ⟨(tenL n).toArray⟩

theorem tab_at (d : Nat) (h : d < 16) : (Str.ofString "ABCDEFGHIJKLMNOP").cps[d]? = some (65 + d) := by
  have : ∀ d : Fin 16, (Str.ofString "ABCDEFGHIJKLMNOP").cps[(d : Nat)]? = some (65 + (d : Nat)) := by decide +kernel
  exact this ⟨d, h⟩

theorem pow16_log (k : Nat) (h : k ≤ 20) : ((16 : Int) ^ k).natAbs.log2 < 100 := by
  have : ∀ k ∈ List.range 21, ((16 : Int) ^ k).natAbs.log2 < 100 := by decide +kernel
  exact this k (List.mem_range.mpr (by omega))
theorem pow16_pos (k : Nat) : (0 : Int) < 16 ^ k := Int.pow_pos (by decide)

abbrev envG (i : Nat) (L a : Addr) (cd : Value) : Env := envOfC (nameOf (fnAt i)) (scopeOf (fnAt i)) L a cd

section
variable {w : World} {A : Around} {env : Env} {h₀ : Heap}

theorem co_neg {e : Expr} {pos : Pos} {x : Int} (a : Co w A (eval e env) h₀ (VInt x)) : Co w A (eval (.UnaryOp .USub e pos) env) h₀ (VInt (-x)) :=
  fun _ g => wpAny_UnaryOp (a.use g fun _ _ ⟨_, r⟩ e1 => by subst r; exact PyProof.Rows.neg_int ⟨⟨_, rfl⟩, e1.trans (Ext.toks _ _)⟩)

theorem co_letters {a : Addr} {n : Nat} {mg mb : Str → Option Value} (f : Fn 7 h₀ a) (B : Bi mg mb h₀) (hroom : A.depth < recursionLimit) (hh : A.handled = none)
    (gR : mg (Str.ofString "range") = none) (bR : mb (Str.ofString "range") = some (.type "range")) :
    ∀ vs h, Grow h₀ h → Pw h [VInt n] vs → Co w A (call (.ref a) vs) h (VStr (ten n))
  | [v], h, g, ⟨⟨t, e⟩, _⟩ => by
    subst e
    obtain ⟨⟨o, pm, cd, doc, ho, hd, hc⟩⟩ := f.keeps g
    refine co_cells (binds := [(Str.ofString "number", .int n t)]) hroom ho hd (B.nolimit.keeps g) hc (by rfl) (fun k => kindsX (by rfl) k) fun s₀ s L gs I => ?_
    have B₀ := ((B.keeps g).keeps gs).keeps I.I.F.keep
    refine wpAny_execs_cons ?_
    refine wpAny_Return_some ?_
    refine Co.use (R := VStr (ten n)) (h₀ := s.heap) ?_ (Grow.refl _) fun v s' r e => ⟨r, (I.ext e).I.done⟩
    have hcell : s.heap.IsCell (L + 1) (some (.int n t)) := I.X.cell (Str.ofString "number") (L + 1) rfl
    refine (co_methS (x := Str.ofString "") (rs := [VStrs ((tenL n).map fun c => ⟨#[c]⟩)]) rfl rfl rfl F.slot_str_join F.type_str_join co_str (co_args1 (VStrs.mono _) ?_) (fun t => call_join ?_)).post fun _ _ _ r => ?_
    · refine Co.post (R := VNew s.heap (((List.range 10).filter fun _ => true).map fun i => VStr ⟨#[65 + n / 16 ^ (9 - i) % 16]⟩)) ?_ fun _ _ _ r => ?_
      · refine co_comp (cl := [(Str.ofString "number", L + 1)]) (RI := fun _ => VRange 9 (-1) (-1)) (P := fun i v _ => ∃ t, v = .int (9 + i * (-1)) t) (B := fun i m => ∃ t, m (Str.ofString "k") = some (.int (9 + i * (-1)) t))
          (by with_unfolding_all rfl) (by decide) rfl (by decide) (by decide) (fun hb gb => ?_) (fun hb x h' _ g' r => iters_range (n := 10) hh (by decide) (by decide) g' r) (fun C => asg_name rfl rfl fun i v h' m ⟨t, e⟩ => ⟨t, by simp [e]⟩)
          (fun _ _ _ _ _ _ _ _ => co_tests0) (fun i C m h' hi _ gh hn ⟨tk, hk⟩ => ?_)
        · have B₁ := B₀.keeps gb
          exact co_callT (sees_builtin rfl rfl B₁.g gR B₁.b bR) (co_args3 (VInt.mono 9) (VInt.mono (-1)) (VInt.mono (-1)) co_int (co_neg co_int) (co_neg co_int)) (call_range3 (by decide) (by decide))
        · have e9 : ((9 : Int) + i * (-1)).toNat = 9 - i := by omega
          refine Co.stb ?_ (imm_str _)
          refine co_strIdx (n := n / 16 ^ (9 - i) % 16) (tab_at _ (Nat.mod_lt _ (by decide))) (by decide) co_str ?_
          have e10 : ((n : Int) / 16 ^ (9 - i)) % 16 = ((n / 16 ^ (9 - i) % 16 : Nat) : Int) := by push_cast; rfl
          rw [← e10]
          refine co_mod (by decide) (co_div (pow16_pos _) (pow16_log (9 - i) (by omega)) (co_nameI (sees_cell rfl rfl rfl (hcell.keeps gh))) ?_) co_int
          rw [← e9]
          exact co_pow (by omega) (by omega) (by decide) co_int (co_nameI (sees_local rfl rfl hn hk))
      · have := r.list
        rw [map_strs] at this
        have e : (tenL n).map (fun c => (⟨#[c]⟩ : Str)) = (List.range 10).map fun i => ⟨#[65 + n / 16 ^ (9 - i) % 16]⟩ := by rw [tenL, List.map_map]; rfl
        rw [e]
        exact this
    · have : ((tenL n).map fun c => (⟨#[c]⟩ : Str)).map (·.length) = List.replicate 10 1 := by simp [tenL, Str.length, List.range, List.range.loop]
      rw [this, show (Str.ofString "").length = 0 by decide]
      simp
    · rw [join_letters _ (by decide +kernel)] at r
      exact r
  | [], _, _, p => p.elim
  | _ :: _ :: _, _, _, p => p.2.elim
end
end Mine

namespace Mine
section
variable {w : World} {A : Around} {env : Env} {h₀ : Heap}

theorem fresh_push {h₀ h : Heap} (g : Grow h₀ h) : h₀.get? h.objs.size = none := none_of_size g (Nat.le_refl _)
theorem co_listAddN {l r : Expr} {pos : Pos} {rs ss : List Rl} (mr : ∀ r ∈ rs, Mono r) (ms : ∀ r ∈ ss, Mono r) (hn : rs.length ≤ 1000) (hm : ss.length ≤ 1000) (a : Co w A (eval l env) h₀ (VList rs)) (b : Co w A (eval r env) h₀ (VList ss)) :
    Co w A (eval (.BinOp l .Add r pos) env) h₀ (VNew h₀ (rs ++ ss)) :=
  co_bin (VList.mono mr) a b fun x y h gh x1 y1 => fun s g => by
    obtain ⟨la, i1, rfl, ⟨n1, l1⟩, p1⟩ := VList.mono mr _ _ _ g x1
    obtain ⟨lb, i2, rfl, ⟨n2, l2⟩, p2⟩ := VList.mono ms _ _ _ g y1
    have s1 : i1.size = rs.length := by rw [← Array.length_toList]; exact Pw.length p1
    have s2 : i2.size = ss.length := by rw [← Array.length_toList]; exact Pw.length p2
    refine concat_meets ⟨_, l1, rfl⟩ ⟨_, l2, rfl⟩ noFill_list_add seq_list_add PySem.F.slot_list_add PySem.F.entry_list_add (PySem.F.args_list_add_2 _ _) (list_addW la lb i1 i2 n1 n2 none none #[] #[] (by rw [s1, s2, sizeLine_eq]; omega)) ⟨l1, l2, ?_⟩
    refine ⟨⟨_, _, rfl, ⟨_, Heap.get?_push_size _ rfl⟩, ?_, fresh_push (gh.trans g)⟩, Ext.heap' (Grow.push _ _)⟩
    rw [Array.toList_append]
    exact (p1.mono (Grow.push _ _) mr).append (p2.mono (Grow.push _ _) ms)

/-- a method of a list -/
theorem co_methL {o : Expr} {name : Str} {apos pos : Pos} {e : Expr} {rest : List Expr} {id : String} {ls : List Rl} {rs : List Rl} {R : Rl}
    (hbase : attributeBase o name env (eval o env) = eval o env)
    (hfew : ((backTo pos (starEach (e :: rest) env)).all (fun x => !x.1) && (backToKw pos (keywordEach [] env)).all (fun x => x.1.isSome)
      && decide ((e :: rest).length + ([] : List Keyword).length + (if ([] : List Keyword).isEmpty then 0 else 1) < 30)) = true)
    (hline : (apos.endLine == pos.line) = true) (slot : Slot "list" name id) (hty : typeOf (.builtin id) = pure (.type "method_descriptor")) (ml : ∀ r ∈ ls, Mono r)
    (ho : Co w A (eval o env) h₀ (VList ls)) (ha : Co w A (spliced (backTo pos (starEach (e :: rest) env))) h₀ (Args rs))
    (k : ∀ v vs h, Grow h₀ h → VList ls v h → Pw h rs vs → Co w A (call (.builtin id) (v :: vs)) h R)
    (hs : starEach (e :: rest) env = (false, eval e env) :: starEach rest env := by rfl)
    (hp : (backTo pos (starEach rest env)).any (·.1) = false := by rfl) : Co w A (eval (.Call (.Attribute o name apos) (e :: rest) [] pos) env) h₀ R :=
  fun _ g => wpAny_Call_method hbase hfew hline F.plainAttrs_list slot hty (ho.use g fun f s1 r1 e1 => by
    have r1' := r1
    obtain ⟨la, its, rfl, ⟨n1, l1⟩, p1⟩ := r1'
    refine ⟨⟨_, l1, rfl⟩, (fun a h => by cases h; exact ⟨_, l1, rfl⟩), ?_⟩
    refine Calls.callWith_builtin (plain_trees hs hp) (evalArgs_trees hs (ha.use (g.trans e1.grow) fun vs s2 r e2 => ?_))
    exact wnd (k _ vs s2.heap ((g.trans e1.grow).trans e2.grow) (VList.mono ml _ _ _ e2.grow r1) r s2 (Grow.refl _)) fun _ _ p => ⟨p.1, (e1.trans e2).trans p.2⟩)
theorem call_index {ns : List Int} {k : Int} (hlay : PyData.layable0 (.list (ns.map .int)) = true) (hk : k ∈ ns) : ∀ v vs h, Grow h₀ h → VInts ns v h → Pw h [VInt k] vs → Co w A (call (.builtin "list.index") (v :: vs)) h (VInt (ns.idxOf k : Nat))
  | v, [u], h, _, r, ⟨⟨t, e⟩, _⟩ => fun s g => by
    subst e
    obtain ⟨la, i1, rfl, hl, p1⟩ := (VInts.mono _ _ _ _ g r).weak
    exact index_list_ints (vs := i1.toList) (by simpa using hl) (pw_ints p1) hlay hk ⟨⟨_, rfl⟩, Ext.toks _ _⟩
  | _, [], _, _, _, p => p.elim
  | _, _ :: _ :: _, _, _, _, p => p.2.elim

theorem cot_and {x y : Expr} {pos : Pos} {whole : Sem Value} {b c : Bool} (hx : Co w A (isTrue x env (eval x env)) h₀ (TBool b)) (hy : b = true → Co w A (isTrue y env (eval y env)) h₀ (TBool c)) : Co w A (isTrue (.BoolOp .And [x, y] pos) env whole) h₀ (TBool (b && c)) :=
  fun _ g => wpAny_isTrue_BoolOp (wpAny_allTrue_And_cons (hx.use g fun v s1 r e1 => by
    cases r
    cases hb : b with
    | false => rw [if_neg Bool.false_ne_true]; exact ⟨rfl, e1⟩
    | true =>
      rw [if_pos rfl]
      refine wpAny_allTrue_And_cons ((hy hb).use (g.trans e1.grow) fun v s2 r e2 => ?_)
      cases r
      cases c with
      | false => rw [if_neg Bool.false_ne_true]; exact ⟨rfl, e1.trans e2⟩
      | true => rw [if_pos rfl]; exact wpAny_allTrue_And_nil ⟨rfl, e1.trans e2⟩))
theorem cot_or {x y : Expr} {pos : Pos} {whole : Sem Value} (hx : Co w A (isTrue x env (eval x env)) h₀ (TBool false)) (hy : Co w A (isTrue y env (eval y env)) h₀ (TBool false)) : Co w A (isTrue (.BoolOp .Or [x, y] pos) env whole) h₀ (TBool false) :=
  fun _ g => wpAny_isTrue_BoolOp (wpAny_allTrue_Or_cons (hx.use g fun v s1 r e1 => by
    cases r
    rw [if_neg Bool.false_ne_true]
    refine wpAny_allTrue_Or_cons (hy.use (g.trans e1.grow) fun v s2 r e2 => ?_)
    cases r
    rw [if_neg Bool.false_ne_true]; exact wpAny_allTrue_Or_nil ⟨rfl, e1.trans e2⟩))

theorem InF.stab {s₀ a b : Shared} {L : Addr} {m : Str → Option Value} {hb : Heap} {X : Addr → Prop} (I : InF s₀ L m a) (hold : Grow s₀.heap hb) (hL : ∃ o, hb.get? L = some o) (hX : ∀ c, X c → hb.get? c = none)
    (hk : ∀ c o, ¬ X c → a.heap.get? c = some o → b.heap.get? c = some o) (ho : b.os = a.os) (hg : b.gens = a.gens) : InF s₀ L m b :=
  ⟨⟨I.F.ns.at' fun o e => hk L o (fun x => by obtain ⟨o, e⟩ := hL; rw [hX L x] at e; cases e) e, fun c o e => hk c o (fun x => by have := hold c o e; rw [hX c x] at this; cases this) (I.F.keep c o e), I.F.above⟩, ho.trans I.os, hg ▸ I.gens⟩

/-- a, b = x, y : two local names, laid down from the right -/
theorem st_pair {x y : Str} {px py tp p pos : Pos} {k k' : Nat} {e f : Expr} {R S : Rl} {s₀ s : Shared} {m : Str → Option Value} {Q : Flow → Shared → Prop} {E : Value → Shared → Prop} (hh : A.handled = none) (I : InF s₀ env.locals m s)
    (mR : Mono R) (mS : Mono S) (c : Co w A (eval e env) s.heap R) (d : Co w A (eval f env) s.heap S)
    (hx : env.kindOf x = some .local) (hy : env.kindOf y = some .local) (hp : (env.scope.kind == .class || (env.scope.kind == .module && env.locals != env.globals)) = false)
    (kk : ∀ v u s', InF s₀ env.locals (fun z => if z = x then some v else if z = y then some u else m z) s' → KeepBut [env.locals] s.heap s'.heap → (∀ R', Firm R' → (∀ h, R v h → R' v h) → R' v s'.heap) → (∀ R', Firm R' → (∀ h, S u h → R' u h) → R' u s'.heap) → Q .next s')
    (hs : swapsWithSole [.Tuple [.Name x px, .Name y py] k tp] (.Tuple [e, f] k' p) pos.line env = pure false := by rfl)
    (hw : swappedStores [.Tuple [.Name x px, .Name y py] k tp] (.Tuple [e, f] k' p) env = pure (some [x, y]) := by rfl)
    (hse : starEach [e, f] env = [(false, eval e env), (false, eval f env)] := by rfl) : wpAny (Md w) A (exec (.Assign [.Tuple [.Name x px, .Name y py] k tp] (.Tuple [e, f] k' p) pos) env) Q E s := by
  refine Assign_Tuple_swapped (wpAny_Tuple (Co.use (co_args2 mR mS c d hse) (Grow.refl _) fun vs s₁ r e₁ => ?_)) hs hw
  match vs, r with
  | [v, u], ⟨r1, r2, _⟩ =>
    refine ⟨by rw [sizeLine_eq]; show 2 ≤ _; omega, ?_⟩
    generalize hH : s₁.heap.push { cls := .type "tuple", data := .seq [v, u].toArray } = H
    have gH : Grow s₁.heap H := hH ▸ Grow.push _ _
    have ht : IsTup H s₁.heap.objs.size #[v, u] := by
      subst hH
      exact ⟨_, Heap.get?_push_size _ rfl, rfl, _, rfl⟩
    have hsz : [x, y].length = (#[v, u] : Array Value).size := rfl
    rw [hsz]
    refine unpackItems_tuple (s := { s₁ with heap := H }) hh ht fun h' he => ?_
    show wpAny _ _ (assignInOrder [(fun v => bindName env y v), (fun v => bindName env x v)] [u, v]) _ _ _
    have gh : Grow H h' := fun b o e => he b o (Nat.ne_of_lt (Heap.lt_size e)) e
    have I₁ : InF s₀ env.locals m { s₁ with heap := h' } := (I.ext e₁).ext (Ext.heap' (gH.trans gh))
    refine wpAny_assignInOrder_more (wpAny_bindName (wpAny_storeName_local hy I₁.F.ns (fun h'' hn hsb => ?_) hp))
    have I₂ : InF s₀ env.locals _ { s₁ with heap := h'' } := ⟨I₁.F.set hn hsb, I₁.os, I₁.gens⟩
    have gs := GrowS.ofNs I₁.F.ns hsb
    refine wpAny_assignInOrder_more (wpAny_bindName (wpAny_storeName_local hx I₂.F.ns (fun h3 hn3 hsb3 => ?_) hp))
    have gs3 := GrowS.ofNs I₂.F.ns hsb3
    have gall : GrowS s₁.heap h3 := ((gH.trans gh).s.trans gs).trans gs3
    refine wpAny_assignInOrder_none (kk v u _ ⟨I₂.F.set hn3 hsb3, I₁.os, I₁.gens⟩ ?_ (fun R' f q => f _ _ _ gall (q _ r1)) (fun R' f q => f _ _ _ gall (q _ r2)))
    refine KeepBut.trans (e₁.grow.but _) (KeepBut.trans ((gH.trans gh).but _) ?_)
    intro b o hb e
    have hb' : b ≠ env.locals := fun h => hb (List.mem_singleton.mpr h)
    exact hsb3.extBut b o hb' (hsb.extBut b o hb' e)
  | [], r => exact r.elim
  | [_], r => exact r.2.elim
  | _ :: _ :: _ :: _, r => exact r.2.2.elim
end
end Mine

namespace Mine

def plainOf (r : List Int) : List Int := if r.any (· == 127) then r.take (r.idxOf 127) else r
def elseO (plain told : List Int) : Option Int := if plain.getLast? == some 0 then told.getLast? else some 10
def sizeO (plain told : List Int) (k : Nat) : Option Int := match plain[k]? with
  | some v => if v != 0 then some v else elseO plain told
  | none => elseO plain told
def toldN (plain : List Int) : Nat → List Int
  | 0 => []
  | k + 1 => toldN plain k ++ (if decide ((toldN plain k).sum < 10) then [min ((sizeO plain (toldN plain k) k).getD 0) (10 - (toldN plain k).sum)] else [])
def RulerOk (r : List Int) : Prop := r.length ≤ 10 ∧ PyData.layable0 (.list (r.map .int)) = true ∧ (plainOf r).getLast?.isSome = true ∧ (∀ k, k < 10 → (sizeO (plainOf r) (toldN (plainOf r) k) k).isSome = true) ∧ ∀ k, k < 11 → (toldN (plainOf r) k).length ≤ 10

section
variable {w : World} {A : Around} {env : Env} {h₀ : Heap}

/-- a list of ints that the iterator does not reach -/
def VFar (hb h₂ : Heap) (l : List Int) : Rl := fun v h => ∃ a its, v = .ref a ∧ h.PlainList a its ∧ Pw h (l.map VInt) its.toList ∧ ((∃ o, hb.get? a = some o) ∨ h₂.get? a = none)
theorem VFar.ints {hb h₂ h : Heap} {l : List Int} {v : Value} (x : VFar hb h₂ l v h) : VInts l v h := let ⟨a, its, e, l, p, _⟩ := x; ⟨a, its, e, l, p⟩
theorem VFar.stab {hb h₂ a b : Heap} {l : List Int} {v : Value} {X : Addr → Prop} (x : VFar hb h₂ l v a) (hX : ∀ c, X c → hb.get? c = none ∧ ∃ o, h₂.get? c = some o) (hk : ∀ c o, ¬ X c → a.get? c = some o → b.get? c = some o) : VFar hb h₂ l v b := by
  obtain ⟨la, its, rfl, hl, p, hf⟩ := x
  refine ⟨la, its, rfl, hl.at fun o e => hk la o (fun x => ?_) e, ints_pw (pw_ints p), hf⟩
  obtain ⟨h1, o, h2⟩ := hX la x
  rcases hf with ⟨o', e'⟩ | e'
  · rw [h1] at e'; cases e'
  · rw [e'] at h2; cases h2
theorem VFar.firm (hb h₂ : Heap) (l : List Int) : Firm (VFar hb h₂ l) := fun _ _ _ g ⟨a, its, e, ⟨n, l'⟩, p, f⟩ => ⟨a, its, e, ⟨n, g _ _ ⟨its, n, rfl⟩ l'⟩, p.firm g (firm_ints l), f⟩

theorem co_sizes {a : Addr} {ns : List Int} {mg mb : Str → Option Value} (f : Fn 8 h₀ a) (B : Bi mg mb h₀) (hroom : A.depth < recursionLimit) (hh : A.handled = none)
    (gR : mg (Str.ofString "range") = none) (bR : mb (Str.ofString "range") = some (.type "range")) (gL : mg (Str.ofString "len") = none) (bL : mb (Str.ofString "len") = some (.builtin "len"))
    (gM : mg (Str.ofString "min") = none) (bM : mb (Str.ofString "min") = some (.builtin "min")) (gS : mg (Str.ofString "sum") = none) (bS : mb (Str.ofString "sum") = some (.builtin "sum")) (ok : RulerOk ns) :
    ∀ vs h, Grow h₀ h → Pw h [VInts ns] vs → Co w A (call (.ref a) vs) h (VInts (toldN (plainOf ns) 10))
  | [v], h, g, ⟨hv, _⟩ => by
    obtain ⟨⟨o, pm, cd, doc, ho, hd, hc⟩⟩ := f.keeps g
    obtain ⟨hlen, hlay, hlast, hsz, htl⟩ := ok
    refine co_plain (binds := [(Str.ofString "ruler", v)]) hroom ho hd (B.nolimit.keeps g) hc (by rfl) (locs (by rfl)) fun s₀ s L gs I => ?_
    have B₀ := (B.keeps g).keeps gs
    have hv' : VInts ns v s.heap := VInts.mono _ _ _ _ (gs.trans I.F.keep) hv
    have hpl : (plainOf ns).length ≤ 10 := by
      unfold plainOf
      split
      · rw [List.length_take]; omega
      · exact hlen
    refine wpAny_execs_cons ?_
    refine st_pair (A := A.deeper (envF 8 L a cd)) (env := envF 8 L a cd) (R := VInts (plainOf ns)) (S := VInts []) hh I (VInts.mono _) (VInts.mono _) ?_ ?_ rfl rfl rfl fun v₁ u₁ s₁ I₁ k₁ r₁ q₁ => ?_
    · have sr : Sees w (A.deeper (envF 8 L a cd)) (envF 8 L a cd) s.heap (Str.ofString "ruler") v := sees_local rfl rfl I.F.ns rfl
      refine co_ifexp (c := ns.any (· == 127)) (cot_cmp (VInt.mono _) co_int (co_nameR sr (VInts.mono _) hv') cmp_in) (fun ht => ?_) (fun hf => ?_)
      · have hmem : (127 : Int) ∈ ns := by
          obtain ⟨y, hy, e⟩ := List.any_eq_true.mp ht
          rw [beq_iff_eq] at e; subst e; exact hy
        refine (co_upto (n := ns.idxOf 127) (mono_ints ns) (by rw [List.length_map]; omega) (co_nameR sr (VInts.mono _) hv') ?_).post fun _ _ _ r => ?_
        · exact co_methL (ls := ns.map VInt) (rs := [VInt 127]) rfl rfl rfl F.slot_list_index F.type_list_index (mono_ints ns) (co_nameR sr (VInts.mono _) hv') (co_args1 (VInt.mono _) co_int) (call_index hlay hmem)
        · rw [plainOf, if_pos ht]
          rw [← List.map_take] at r
          exact r
      · rw [plainOf, if_neg (by rw [hf]; decide)]
        exact co_nameR sr (VInts.mono _) hv'
    · exact co_list (rs := []) (by decide) co_sp0 (by intro r hr; cases hr)
    have p₁ := r₁ _ (VInts.firm _) fun _ r => r
    have t₁ := q₁ _ (VInts.firm _) fun _ r => r
    refine wpAny_execs_cons ?_
    refine st_for (own := [L]) (n := 10) (Co.use (R := VRange 0 10 1) (h₀ := s₁.heap) ?_ (Grow.refl _) fun x s₂ rx e₂ => ?_)
    · have B₁ := B₀.keeps I₁.F.keep
      exact co_callT (sees_builtin rfl rfl B₁.g gR B₁.b bR) (co_args1 (VInt.mono 10) co_int) call_range1
    have I₂ := I₁.ext e₂
    have B₂ := B₀.keeps I₂.F.keep
    refine ⟨s₂.heap, _, fun h₂ k s' => ∃ m pv tv, InF s₀ L m s' ∧ m (Str.ofString "plain") = some pv ∧ m (Str.ofString "told") = some tv ∧ VFar s₂.heap h₂ (plainOf ns) pv s'.heap ∧ VFar s₂.heap h₂ (toldN (plainOf ns) k) tv s'.heap ∧ (k < 10 → Live h₂ s'.heap),
      Grow.refl _, iters_range (n := 10) hh (by decide) (by decide) (Grow.refl _) rx, Soft.ns I₂.F.ns, ?_, ?_, ?_, ?_⟩
    · intro s₃ e₃
      have I₃ := I₂.ext e₃
      have far : ∀ l u, VInts l u s₁.heap → VFar s₂.heap s₃.heap l u s₃.heap := fun l u r => by
        obtain ⟨la, its, rfl, hl, p⟩ := VInts.mono _ _ _ _ e₂.grow r
        refine ⟨la, its, rfl, PlainList.grow hl e₃.grow, p.mono e₃.grow (mono_ints l), .inl ?_⟩
        obtain ⟨n, e⟩ := hl
        exact ⟨_, e⟩
      exact ⟨_, v₁, u₁, I₃, rfl, rfl, far _ _ p₁, far _ _ t₁, fun _ c o e => ⟨o, e⟩⟩
    · rintro h₂ i X c d hX hk hos hgs hlv ⟨m, pv, tv, I', hp, ht, fp, ft, lv⟩
      refine ⟨m, pv, tv, I'.stab I₂.F.keep ?_ (fun c x => (hX c x).1) hk hos hgs, hp, ht, fp.stab hX hk, ft.stab hX hk, fun h => (lv h).trans (hlv h)⟩
      obtain ⟨o, _, _, ho, _⟩ := I₂.F.ns
      exact ⟨o, ho⟩
    · rintro h₂ i v s' hi ⟨m, pv, tv, I', hp, ht, fp, ft, lv⟩ ⟨tk, rfl⟩
      rw [Int.mul_one, Int.zero_add]
      generalize hP : plainOf ns = P at *
      generalize hT : toldN P i = T at *
      have hTl : T.length ≤ 10 := hT ▸ htl i (by omega)
      obtain ⟨z, hz⟩ := Option.isSome_iff_exists.mp (hsz i hi)
      obtain ⟨lp, hlp⟩ := Option.isSome_iff_exists.mp hlast
      rw [hT] at hz
      refine wpAny_assign_Name (wpAny_storeName_local (env := envF 8 L a cd) rfl I'.F.ns (fun h₃ hn₃ hsb₃ => ?_) rfl)
      have gs₃ := GrowS.ofNs I'.F.ns hsb₃
      have k₃ : KeepBut [L] s'.heap h₃ := fun b o hb e => hsb₃.extBut b o (fun h => hb (List.mem_singleton.mpr h)) e
      have I₃ : InF s₀ L _ { s' with heap := h₃, toks := s'.toks + 1 } := ⟨I'.F.set hn₃ hsb₃, I'.os, I'.gens⟩
      have B₃ := B₀.keeps I₃.F.keep
      have fp₃ := VFar.firm _ _ _ _ _ _ gs₃ fp
      have ft₃ := VFar.firm _ _ _ _ _ _ gs₃ ft
      have cp : ∀ {pos : Pos}, Co w (A.deeper (envF 8 L a cd)) (eval (.Name (Str.ofString "plain") pos) (envF 8 L a cd)) h₃ (VInts P) := co_nameR (sees_local rfl rfl I₃.F.ns hp) (VInts.mono _) fp₃.ints
      have ct : ∀ {pos : Pos}, Co w (A.deeper (envF 8 L a cd)) (eval (.Name (Str.ofString "told") pos) (envF 8 L a cd)) h₃ (VInts T) := co_nameR (sees_local rfl rfl I₃.F.ns ht) (VInts.mono _) ft₃.ints
      have ck : ∀ {pos : Pos}, Co w (A.deeper (envF 8 L a cd)) (eval (.Name (Str.ofString "k") pos) (envF 8 L a cd)) h₃ (VInt i) := co_nameI (sees_local rfl rfl I₃.F.ns rfl)
      refine wpAny_execs_cons ?_
      refine st_local (env := envF 8 L a cd) (R := VInt z) I₃ ?_ rfl rfl fun v₄ s₄ I₄ k₄ r₄ => ?_
      · have celse : elseO P T = some z → ∀ {p1 p2 p3 p4 p5 p6 p7 p8 p9 p10 p11 p12 : Pos}, Co w (A.deeper (envF 8 L a cd)) (eval (.IfExp (.Compare (.Subscript (.Name (Str.ofString "plain") p1) (.UnaryOp .USub (.Constant (.int 1) 0 p2) p3) p4) [.Eq] [.Constant (.int 0) 0 p5] p6) (.Subscript (.Name (Str.ofString "told") p7) (.UnaryOp .USub (.Constant (.int 1) 0 p8) p9) p10) (.Constant (.int 10) 0 p11) p12) (envF 8 L a cd)) h₃ (VInt z) := by
          intro he _ _ _ _ _ _ _ _ _ _ _ _
          refine co_ifexp (c := lp == 0) (cot_cmp (VInt.mono lp) (co_listLast (R := VInt lp) (mono_ints P) (by rw [List.length_map]; omega) (by rw [List.getLast?_map, hlp]; rfl) cp (co_neg co_int)) co_int cmpI_eq) (fun h => ?_) (fun h => ?_)
          · rw [beq_iff_eq] at h; subst h
            rw [elseO, hlp] at he
            exact co_listLast (R := VInt z) (mono_ints T) (by rw [List.length_map]; omega) (by rw [List.getLast?_map, show T.getLast? = some z by simpa using he]; rfl) ct (co_neg co_int)
          · rw [elseO, hlp] at he
            have h' : ¬ lp = 0 := by simpa using h
            have : z = 10 := by simpa [h'] using he.symm
            subst this
            exact co_int
        have hbr : (decide ((i : Int) < (P.map VInt).length) && (P.getD i 0 != 0)) = true ∧ P[i]? = some z ∨ (decide ((i : Int) < (P.map VInt).length) && (P.getD i 0 != 0)) = false ∧ elseO P T = some z := by
          rw [List.length_map]
          unfold sizeO at hz
          by_cases hi' : i < P.length
          · rw [List.getElem?_eq_getElem hi'] at hz ⊢
            have e1 : P.getD i 0 = P[i] := by simp [List.getD, hi']
            rw [e1]
            dsimp only at hz
            by_cases h0 : P[i] = 0
            · right; simpa [h0] using hz
            · left
              have e2 : P[i] = z := by simpa [h0] using hz
              refine ⟨?_, by rw [e2]⟩
              simp [hi', h0]
          · rw [List.getElem?_eq_none (by omega)] at hz
            right
            refine ⟨?_, hz⟩
            simp; omega
        refine co_ifexp (c := decide ((i : Int) < (P.map VInt).length) && (P.getD i 0 != 0)) (cot_and (cot_cmp (VInt.mono i) ck ?_ cmpI_lt) fun hlt => cot_cmp (VInt.mono (P.getD i 0)) ?_ co_int cmpI_ne) (fun h => ?_) (fun h => ?_)
        · exact co_callB (sees_builtin rfl rfl B₃.g gL B₃.b bL) (co_args1 (VInts.mono P) cp) (call_len (by rw [List.length_map]; omega) (mono_ints P))
        · have hi' : i < P.length := by simpa using hlt
          exact co_listIdx (R := VInt (P.getD i 0)) (mono_ints P) (by rw [List.length_map]; omega) (by simp [List.getD, hi']) cp ck
        · rcases hbr with ⟨_, e⟩ | ⟨e, _⟩
          · exact co_listIdx (R := VInt z) (mono_ints P) (by rw [List.length_map]; omega) (by rw [List.getElem?_map, e]; rfl) cp ck
          · rw [e] at h; cases h
        · rcases hbr with ⟨e, _⟩ | ⟨_, e⟩
          · rw [e] at h; cases h
          · exact celse e
      obtain ⟨t₄, rfl⟩ := r₄ _ (VInt.firm _) fun _ r => r
      have gs₄ : GrowS h₃ s₄.heap := k₄.s (Soft.ns I₃.F.ns)
      have B₄ := B₀.keeps I₄.F.keep
      have fp₄ := VFar.firm _ _ _ _ _ _ gs₄ fp₃
      have ft₄ := VFar.firm _ _ _ _ _ _ gs₄ ft₃
      have ct₄ : ∀ {pos : Pos}, Co w (A.deeper (envF 8 L a cd)) (eval (.Name (Str.ofString "told") pos) (envF 8 L a cd)) s₄.heap (VInts T) := co_nameR (sees_local rfl rfl I₄.F.ns ht) (VInts.mono _) ft₄.ints
      have cs₄ : ∀ {p1 p2 p3 : Pos}, Co w (A.deeper (envF 8 L a cd)) (eval (.Call (.Name (Str.ofString "sum") p1) [.Name (Str.ofString "told") p2] [] p3) (envF 8 L a cd)) s₄.heap (VInt T.sum) :=
        co_callB (sees_builtin rfl rfl B₄.g gS B₄.b bS) (co_args1 (VInts.mono T) ct₄) (call_sum hh)
      refine wpAny_execs_cons ?_
      refine st_local (env := envF 8 L a cd) (R := VNew s₄.heap (T.map VInt ++ (if decide (T.sum < 10) then [VInt (min z (10 - T.sum))] else []))) I₄ ?_ rfl rfl fun v₅ s₅ I₅ k₅ r₅ => ?_
      · refine co_listAddN (mono_ints T) ?_ (by rw [List.length_map]; omega) ?_ ct₄ ?_
        · intro r hr
          split at hr
          · rw [List.mem_singleton.mp hr]; exact VInt.mono _
          · cases hr
        · split <;> simp
        · refine co_listMulB ?_ (by simp) (co_list (rs := [VInt (min z (10 - T.sum))]) (by simp) (co_args1 (VInt.mono _) ?_) ?_) (co_cmp (VInt.mono _) cs₄ co_int cmpI_lt)
          · intro r hr; rw [List.mem_singleton.mp hr]; exact VInt.mono _
          · refine co_callB (sees_builtin rfl rfl B₄.g gM B₄.b bM) (co_args2 (VInt.mono z) (VInt.mono (10 - T.sum)) (co_nameI (sees_local rfl rfl I₄.F.ns rfl)) (co_sub co_int cs₄)) (call_min hh)
          · intro r hr; rw [List.mem_singleton.mp hr]; exact VInt.mono _
      have gs₅ : GrowS s₄.heap s₅.heap := k₅.s (Soft.ns I₄.F.ns)
      have fp₅ := VFar.firm _ _ _ _ _ _ gs₅ fp₄
      have nsL : ∀ {h : Heap} {m : Str → Option Value}, h.Ns L m → ∀ c ∈ [L], ∃ o, h.get? c = some o := fun hn c hc => by
        rw [List.mem_singleton.mp hc]
        obtain ⟨o, _, _, ho, _⟩ := hn
        exact ⟨o, ho⟩
      have lv₄ : Live h₂ s₄.heap := (lv hi).trans (Live.ofBut (k₃.trans k₄) (nsL I₄.F.ns))
      have lv₅ : Live h₂ s₅.heap := (lv hi).trans (Live.ofBut ((k₃.trans k₄).trans k₅) (nsL I₅.F.ns))
      refine wpAny_execs_nil ⟨rfl, ⟨_, pv, v₅, I₅, hp, rfl, fp₅, ?_, fun _ => lv₅⟩, (k₃.trans k₄).trans k₅⟩
      refine r₅ _ (VFar.firm _ _ _) fun h r => ?_
      obtain ⟨la, its, rfl, hl, p, hn⟩ := r
      refine ⟨la, its, rfl, hl, ?_, .inr ?_⟩
      · have e : (toldN P (i + 1)).map VInt = T.map VInt ++ (if decide (T.sum < 10) then [VInt (min z (10 - T.sum))] else []) := by
          rw [toldN, hT, hz, Option.getD_some, List.map_append]
          split <;> rfl
        rw [e]
        exact p
      · cases e : h₂.get? la with
        | none => rfl
        | some o => obtain ⟨o', e'⟩ := lv₄ la o e; rw [hn] at e'; cases e'
    · rintro h₂ s' ⟨m, pv, tv, I', hp, ht, fp, ft, _⟩
      show wpAny _ _ _ _ _ _
      refine wpAny_execs_cons ?_
      refine wpAny_Return_some ?_
      refine Co.use (R := VInts (toldN (plainOf ns) 10)) (h₀ := s'.heap) ?_ (Grow.refl _) fun v s' r e => ⟨r, (I'.ext e).done⟩
      exact co_nameR (sees_local rfl rfl I'.F.ns ht) (VInts.mono _) ft.ints
  | [], _, _, p => p.elim
  | _ :: _ :: _, _, _, p => p.2.elim
end

def rulers : List (List Int) := [[2, 0], [1, 2, 0], [3, 1, 127, 2], [1, 1, 2], [1, 0]]
theorem ruler_ok : ∀ r ∈ rulers, RulerOk r := by
  have h : ∀ r ∈ rulers, (decide (r.length ≤ 10) && PyData.layable0 (.list (r.map .int)) && (plainOf r).getLast?.isSome && (List.range 10).all (fun k => (sizeO (plainOf r) (toldN (plainOf r) k) k).isSome) && (List.range 11).all (fun k => decide ((toldN (plainOf r) k).length ≤ 10))) = true := by decide +kernel
  intro r hr
  have := h r hr
  simp only [Bool.and_eq_true, List.all_eq_true, List.mem_range, decide_eq_true_eq] at this
  exact ⟨this.1.1.1.1, this.1.1.1.2, this.1.1.2, this.1.2, this.2⟩
end Mine

namespace Mine
open PySem.W.X
section
variable {w : World} {A : Around} {c : Code} {fs : List Frame} {P : End → Shared → Prop} {s : Shared} {env : Env}
  {K : Flow → Sem Fin} {H : Value → Sem Fin} {gd : Bool → Bool} {lv : List Value → List Value}

theorem sx_wrap {α : Type} {m : Sem α} {K : α → Sem Fin} (h : wpAny (Md w) (A.over c fs) m (fun a s' => SegX (Md w) A c (K a) fs s' P) NoE s) : SegX (Md w) A c (m.wrap K H gd lv) fs s P := by
  rintro Γ p rfl hΓ
  obtain ⟨e, s', hr, hq⟩ := runs_wrap_of_wp (Φ := fun e s' => e.quiet = true ∧ P e s') K H gd lv m (h (Γ.over fs) p (hΓ.over fs)) (fun a p' s' h' => h' Γ p' rfl hΓ) (fun x p' s' h' => h'.elim)
  exact ⟨e, s', hr, hq⟩
theorem sx_bind {α β : Type} {m : Sem α} {k : α → Sem β} {K : β → Sem Fin} (h : wpAny (Md w) (A.over c fs) m (fun a s' => SegX (Md w) A c ((k a).wrap K H gd lv) fs s' P) NoE s) : SegX (Md w) A c ((m >>= k).wrap K H gd lv) fs s P := by
  rw [Sem.bind_eq_wrap', Sem.wrap_wrap]
  exact sx_wrap (wnd h fun _ _ x => x)
theorem sx_nil (h : SegX (Md w) A c (K .next) fs s P) : SegX (Md w) A c ((execs [] env).wrap K H gd lv) fs s P := h
theorem sx_cons {st : Stmt} {rest : List Stmt} (h : SegX (Md w) A c ((exec st env).wrap (fun f => match f with | .next => (execs rest env).wrap K H gd lv | f => K f) H gd lv) fs s P) :
    SegX (Md w) A c ((execs (st :: rest) env).wrap K H gd lv) fs s P := by rw [execs_cons_wrap]; exact h
theorem sx_at {p' : Pos} {k : Unit → Sem Fin} (h : SegX (Md w) A c (k ()) fs s P) : SegX (Md w) A c (.at p' k) fs s P :=
  sx_wrap (m := standAt p') (K := k) (H := .raise) (gd := id) (lv := id) (wpAny_standAt h)
theorem sx_If {test : Expr} {body orelse : List Stmt} {pos : Pos} {b : Bool} (h : wpAny (Md w) (A.over c fs) (isTrue test env (eval test env)) (fun x s' => x = b ∧ SegX (Md w) A c ((execs (if b then body else orelse) env).wrap K H gd lv) fs s' P) NoE s) :
    SegX (Md w) A c ((exec (.If test body orelse pos) env).wrap K H gd lv) fs s P := by
  rw [exec_If]
  refine sx_bind (wpAny_standAt (sx_bind (wnd h fun x s' hx => ?_)))
  obtain ⟨rfl, hx⟩ := hx
  cases x <;> exact hx
theorem sx_yield {e : Expr} {ypos pos : Pos} (hfs : splitAtGen fs = none) (hgd : gd false = false) (hfg : fs.any Frame.guarded = false)
    (h : wpAny (Md w) (A.over c fs) (eval e env) (fun v s' => ∀ l k p, (∀ s'' P', SegX (Md w) A c (K .next) fs s'' P' → SegX (Md w) A c (k (.send .none)) fs s'' P') → P (.susp v false l k c p fs) s') NoE s)
    (hco : env.scope.isCoroutine = false := by rfl) (hi : interactive env = false := by rfl) :
    SegX (Md w) A c ((exec (.Expr (.Yield (some e) ypos) pos) env).wrap K H gd lv) fs s P := by
  rw [exec_Expr env _ pos hi rfl]
  show SegX (Md w) A c (.at pos fun _ => ((eval e env >>= fun v => (standAt ypos >>= fun _ => yieldOut env v)) >>= fun x =>
    dropValue (.Yield (some e) ypos) pos x).wrap K H gd lv) fs s P
  have hy : ∀ v, yieldOut env v = yieldValue v := fun v => by simp only [yieldOut, hco, Bool.false_eq_true, if_false]
  simp only [hy]
  refine sx_at ?_
  rw [Sem.bind_eq_wrap', Sem.bind_eq_wrap', Sem.wrap_wrap, Sem.wrap_wrap]
  refine sx_wrap (wnd h fun v s' h' => ?_)
  refine sx_at ?_
  have key : ∀ (g : Bool) (l : List Value) (k : Resume → Sem Fin), g = false → (∀ s'' P', SegX (Md w) A c (K .next) fs s'' P' → SegX (Md w) A c (k (.send .none)) fs s'' P') → SegX (Md w) A c (.yield v g l k) fs s' P := by
    intro g l k hg hk
    subst hg
    exact s_yield Pg w A c fs P s' v l k hfs hfg fun p => h' l k p hk
  exact key _ _ _ hgd fun s'' P' hx => hx

theorem sx_While {test : Expr} {body orelse : List Stmt} {pos : Pos}
    (h : ∀ p k g l, (∀ s' P', SegX (Md w) A c (K .next) fs s' P' → SegX (Md w) A c (k (.ok .next)) fs s' P') → g = gd false → SegX (Md w) A (.whileLoop test body orelse env) ((Md w).den (.whileLoop test body orelse env)) (.ret k none g l c p [] :: fs) s P) :
    SegX (Md w) A c ((exec (.While test body orelse pos) env).wrap K H gd lv) fs s P :=
  sx_at (s_call Pg w A c fs P s _ none (gd false) (lv []) _ fun p => h p _ _ _ (fun _ _ x => x) rfl)
theorem sx_For {target iter : Expr} {body orelse : List Stmt} {pos : Pos}
    (h : wpAny (Md w) (A.over c fs) (eval iter env) (fun x s₁ => wpAny (Md w) (A.over c fs) (pyIter x) (fun it s₂ => ∀ p k g l, (∀ s' P', SegX (Md w) A c (K .next) fs s' P' → SegX (Md w) A c (k (.ok .next)) fs s' P') → (∀ v s' P', SegX (Md w) A c (K (.ret v)) fs s' P' → SegX (Md w) A c (k (.ok (.ret v))) fs s' P') → g = gd false →
      SegX (Md w) A (.forLoop target it body orelse env) ((Md w).den (.forLoop target it body orelse env)) (.ret k none g l c p [] :: fs) s₂ P) NoE s₁) NoE s)
    (hs : ∀ x, foldedSetIterable iter env x = pure x := by intro _; rfl) :
    SegX (Md w) A c ((exec (.For target iter body orelse pos) env).wrap K H gd lv) fs s P := by
  rw [exec_For]
  refine sx_bind (wpAny_standAt (sx_bind (wnd h fun x s₁ h₁ => sx_bind (wpAny_of_eq (hs x) (sx_bind (wpAny_standAt (sx_bind (wpAny_holding (wnd h₁ fun it s₂ h₂ => ?_)))))))))
  exact s_call Pg w A c fs P s₂ _ none (gd false) (lv []) _ fun p => h₂ p _ _ _ (fun _ _ x => x) (fun _ _ _ x => x) rfl

/-- one turn of a for loop -/
theorem sx_forLoop {target : Expr} {it : Value} {body orelse : List Stmt}
    (h : wpAny (Md w) (A.over (.forLoop target it body orelse env) fs) (pyNext it) (fun r s₁ => match r with
      | none => SegX (Md w) A (.forLoop target it body orelse env) (.pure (.again (.block orelse env))) fs s₁ P
      | some v => wpAny (Md w) (A.over (.forLoop target it body orelse env) fs) (letOwnedTupleGo target it v) (fun _ s₂ => wpAny (Md w) (A.over (.forLoop target it body orelse env) fs) (assign target env v) (fun _ s₃ =>
          ∀ (K : Flow → Sem Fin) H, (K .next = .pure (.again (.forLoop target it body orelse env))) → (∀ v, K (.ret v) = .pure (.done (.ret v))) → SegX (Md w) A (.forLoop target it body orelse env) ((execs body env).wrap K H id id) fs s₃ P) NoE s₂) NoE s₁) NoE s) :
    SegX (Md w) A (.forLoop target it body orelse env) ((Md w).den (.forLoop target it body orelse env)) fs s P := by
  show SegX (Md w) A _ ((forTurn target it body orelse env).onRaise (fun x => do noteFrame x env; theTreesLotGoes x)) fs s P
  rw [Sem.onRaise_eq_wrap]
  unfold forTurn
  refine sx_bind (wpAny_standAt (sx_bind (wpAny_onRaise (wnd h fun r s₁ h₁ => ?_))))
  cases r with
  | none => exact h₁
  | some v =>
    refine sx_bind (wnd h₁ fun _ s₂ h₂ => sx_bind (wnd h₂ fun _ s₃ h₃ => ?_))
    rw [Sem.bind_eq_wrap', Sem.wrap_wrap]
    exact h₃ _ _ rfl fun _ => rfl
theorem sx_whileLoop {test : Expr} {body orelse : List Stmt}
    (h : wpAny (Md w) (A.over (.whileLoop test body orelse env) fs) (isTrue test env (eval test env)) (fun b s' => b = true ∧ ∀ (K : Flow → Sem Fin) H, (K .next = .pure (.again (.whileLoop test body orelse env))) →
      SegX (Md w) A (.whileLoop test body orelse env) ((execs body env).wrap K H id id) fs s' P) NoE s) :
    SegX (Md w) A (.whileLoop test body orelse env) ((Md w).den (.whileLoop test body orelse env)) fs s P := by
  show SegX (Md w) A _ ((whileTurn test body orelse env).onRaise (fun x => do noteFrame x env; theTreesLotGoes x)) fs s P
  rw [Sem.onRaise_eq_wrap]
  unfold whileTurn
  refine sx_bind (wnd h fun b s' hb => ?_)
  obtain ⟨rfl, hb⟩ := hb
  rw [if_pos rfl, Sem.bind_eq_wrap', Sem.wrap_wrap]
  exact hb _ _ rfl
theorem sx_func {body : List Stmt} (h : ∀ (K : Flow → Sem Fin) H, (K .next = .pure (.done (.ret .none))) → (∀ v, K (.ret v) = .pure (.done (.ret v))) → SegX (Md w) A (.func body env) ((execs body env).wrap K H id id) fs s P) :
    SegX (Md w) A (.func body env) ((Md w).den (.func body env)) fs s P := by
  show SegX (Md w) A _ (.point [] fun _ => ((execs body env).onRaise (leaving env)) >>= _) fs s P
  refine sx_wrap (m := point) (K := fun _ => _) (H := .raise) (gd := id) (lv := fun _ => []) (wpAny_point ?_)
  rw [Sem.onRaise_eq_wrap, Sem.bind_eq_wrap', Sem.wrap_wrap]
  exact h _ _ rfl fun _ => rfl
theorem sx_block0 (h : SegX (Md w) A (.block [] env) (.pure (.done .next)) fs s P) : SegX (Md w) A (.block [] env) ((Md w).den (.block [] env)) fs s P := by
  exact h
end
end Mine

namespace Mine
open PySem.W.X

def forT : Stmt → Expr
  | .For t _ _ _ _ => t
  | _ => .Name ⟨#[]⟩ ⟨0, 0, 0, 0⟩
def forB : Stmt → List Stmt
  | .For _ _ b _ _ => b
  | _ => []
def gFor : Stmt := (bodyOf (fnAt 3)).getD 1 (.Pass ⟨0, 0, 0, 0⟩)

/-- what the intervals of a ruler are, n at most, and whether they end there -/
def yl (last : Int) : List Int → Nat → List Int × Bool
  | [], _ => ([], true)
  | r :: rest, n => if r = 127 then ([], true) else if r = 0 then (List.replicate n last, false) else match n with
    | 0 => ([], false)
    | n + 1 => (r :: (yl r rest n).1, (yl r rest n).2)

section
variable (w : World) (A : Around) (X : Addr → Prop) (Z : Addr → Prop)

structure KX (h h' : Heap) : Prop where
  keep : ∀ b o, ¬ X b → h.get? b = some o → h'.get? b = some o
  live : Live h h'
/-- what is Z is let alone -/
structure Past (s s' : Shared) : Prop where
  keep : ∀ b o, Z b → s.heap.get? b = some o → s'.heap.get? b = some o
  os : s'.os = s.os
  gens : s'.gens = s.gens
def Nx (gs : GenState) (s : Shared) (P : End → Shared → Prop) : Prop := match gs with
  | .fresh c => SegX (Md w) A c ((Md w).den c) [] s P
  | .suspended k _ c _ fs _ => SegX (Md w) A c (k (.send .none)) fs s P
  | _ => False
def Will : List Int → Bool → GenState → Heap → Prop
  | [], false => fun _ _ => True
  | [], true => fun gs h => ∀ s, KX X h s.heap → Nx w A gs s (fun e s' => e = .ret (.ok (.ret .none)) ∧ Past Z s s')
  | y :: l, f => fun gs h => ∀ s, KX X h s.heap → Nx w A gs s (fun e s' => (∃ t, e.result = .yielded (.int y t)) ∧ e.genState.bare = true ∧ Will l f e.genState s'.heap ∧ Past Z s s')
def Post (l : List Int) (f : Bool) (s : Shared) (e : End) (s' : Shared) : Prop := match l with
  | [] => f = true → e = .ret (.ok (.ret .none)) ∧ Past Z s s'
  | y :: l => (∃ t, e.result = .yielded (.int y t)) ∧ e.genState.bare = true ∧ Will w A X Z l f e.genState s'.heap ∧ Past Z s s'
end
section
variable {w : World} {A : Around} {X : Addr → Prop} {Z : Addr → Prop}
theorem Past.refl (s : Shared) : Past Z s s := ⟨fun _ _ _ e => e, rfl, rfl⟩
theorem Past.trans {a b c : Shared} (x : Past Z a b) (y : Past Z b c) : Past Z a c := ⟨fun p o h e => y.keep p o h (x.keep p o h e), y.os.trans x.os, y.gens.trans x.gens⟩
theorem Past.of {s s' : Shared} (e : Ext s s') (hg : s'.gens = s.gens) : Past Z s s' := ⟨fun b o _ h => e.grow b o h, e.os, hg⟩
theorem Past.but {s : Shared} {h : Heap} {tk : Nat} {a : Addr} (hs : Heap.ExtBut a s.heap h) (ha : ¬ Z a) : Past Z s { s with heap := h, toks := tk } :=
  ⟨fun b o e e' => hs b o (fun hb => ha (hb ▸ e)) e', rfl, rfl⟩
theorem Post.past {l : List Int} {f : Bool} {s s₁ : Shared} (x : Past Z s s₁) {e : End} {s' : Shared} (p : Post w A X Z l f s₁ e s') : Post w A X Z l f s e s' := by
  cases l with
  | nil => exact fun h => ⟨(p h).1, x.trans (p h).2⟩
  | cons y l => exact ⟨p.1, p.2.1, p.2.2.1, x.trans p.2.2.2⟩
theorem will_of {l : List Int} {f : Bool} {gs : GenState} {h : Heap} (x : ∀ s, KX X h s.heap → Nx w A gs s (Post w A X Z l f s)) : Will w A X Z l f gs h := by
  have mono : ∀ {s : Shared} {P P' : End → Shared → Prop}, Nx w A gs s P → (∀ e s', P e s' → P' e s') → Nx w A gs s P' := by
    intro s P P' y k
    cases gs with
    | fresh c => exact SegX.mono y k
    | suspended => exact SegX.mono y k
    | _ => exact y.elim
  match l, f with
  | [], false => exact trivial
  | [], true => exact fun s k => mono (x s k) fun e s' p => p rfl
  | y :: l, f => exact fun s k => mono (x s k) fun e s' p => p

/-- a co that does not touch the generators -/
def CoG (w : World) (A : Around) (t : Sem Value) (h₀ : Heap) (R : Rl) : Prop := ∀ s : Shared, Grow h₀ s.heap → wpAny (Md w) A t (fun v s' => R v s'.heap ∧ Ext s s' ∧ s'.gens = s.gens) NoE s

variable {env : Env}
theorem cmp_names {x y : Str} {p q pos : Pos} {i j : Int} {t u : Tok} {s : Shared} {whole : Sem Value} {Q : Bool → Shared → Prop} (hx : ∀ (Q : Value → Shared → Prop), Q (.int i t) s → wpAny (Md w) A (loadName env x) Q NoE s) (hy : ∀ (Q : Value → Shared → Prop), Q (.int j u) s → wpAny (Md w) A (loadName env y) Q NoE s)
    (h : Q (i == j) s) (h1 : (x == ("__debug__" : Str)) = false := by decide) (h2 : (y == ("__debug__" : Str)) = false := by decide) : wpAny (Md w) A (isTrue (.Compare (.Name x p) [.Eq] [.Name y q] pos) env whole) Q NoE s :=
  wpAny_isTrue_Compare1 (wpAny_Name (hx _ (wpAny_Name (hy _ (eq_int (wpAny_truthy_bool h))) h2)) h1) (by with_unfolding_all rfl)
theorem cmp_zero {x : Str} {p q pos : Pos} {i j : Int} {k : Nat} {t : Tok} {s : Shared} {whole : Sem Value} {Q : Bool → Shared → Prop} (hx : ∀ (Q : Value → Shared → Prop), Q (.int i t) s → wpAny (Md w) A (loadName env x) Q NoE s)
    (h : ∀ tk, Q (i == j) { s with toks := tk }) (h1 : (x == ("__debug__" : Str)) = false := by decide) : wpAny (Md w) A (isTrue (.Compare (.Name x p) [.Eq] [.Constant (.int j) k q] pos) env whole) Q NoE s :=
  wpAny_isTrue_Compare1 (wpAny_Name (hx _ (wpAny_Constant_int (eq_int (wpAny_truthy_bool (h _))))) h1) (by with_unfolding_all rfl)
end
end Mine

namespace Mine
open PySem.W.X

section
variable {w : World} {A : Around} {X : Addr → Prop} {Z : Addr → Prop} {mg : Str → Option Value} {Lg It r a : Addr} {cd : Value} {R : List Int}

theorem ldL {A : Around} {x : Str} {v : Value} {m : Str → Option Value} {s : Shared} (hl : (envF 3 Lg a cd).kindOf x = some .local) (hn : s.heap.Ns Lg m) (hv : m x = some v) (Q : Value → Shared → Prop) (q : Q v s) : wpAny (Md w) A (loadName (envF 3 Lg a cd) x) Q NoE s :=
  wpAny_loadName_local (env := envF 3 Lg a cd) rfl hl hn hv q
theorem Ns.live {h : Heap} {L : Addr} {m : Str → Option Value} (x : h.Ns L m) : ∃ o, h.get? L = some o := let ⟨o, _, _, ho, _⟩ := x; ⟨o, ho⟩

theorem gen_while {test : Expr} {yp ypos pos npos : Pos} {orelse : List Stmt} {fs : List Frame} {last : Int} {t : Tok} (ht : test = .Constant (.bool true) 0 npos) (hfs : splitAtGen fs = none) (hfg : fs.any Frame.guarded = false) (hXL : ¬ X Lg) : ∀ (n : Nat) {m : Str → Option Value} {s : Shared}, s.heap.Ns Lg m → m (Str.ofString "last_interval") = some (.int last t) →
    SegX (Md w) A (.whileLoop test [.Expr (.Yield (some (.Name (Str.ofString "last_interval") yp)) ypos) pos] orelse (envF 3 Lg a cd)) ((Md w).den (.whileLoop test [.Expr (.Yield (some (.Name (Str.ofString "last_interval") yp)) ypos) pos] orelse (envF 3 Lg a cd))) fs s (Post w A X Z (List.replicate n last) false s) := by
  intro n
  induction n with
  | zero =>
    intro m s hn hm
    refine sx_whileLoop ?_
    subst ht
    refine isTrue_plain (wpAny_Constant_bool (wpAny_truthy_bool ⟨rfl, fun K H hK => sx_cons (sx_yield hfs rfl hfg ?_)⟩))
    exact wpAny_Name (ldL rfl hn hm _ fun l k p _ h => by cases h) (by decide)
  | succ n ih =>
    intro m s hn hm
    refine sx_whileLoop ?_
    subst ht
    refine isTrue_plain (wpAny_Constant_bool (wpAny_truthy_bool ⟨rfl, fun K H hK => sx_cons (sx_yield hfs rfl hfg ?_)⟩))
    refine wpAny_Name (ldL rfl hn hm _ fun l k p hk => ?_) (by decide)
    refine ⟨⟨t, rfl⟩, ?_, will_of fun s' kx => ?_, Past.refl _⟩
    · show (!(false || fs.any Frame.guarded)) = true
      rw [hfg]; rfl
    · refine hk _ _ (sx_nil ?_)
      rw [hK]
      exact s_again Pg w A _ fs _ s' _ rfl (ih (hn.at' fun o e => kx.keep Lg o hXL e) hm)

/-- the generator's own things behind i items -/
structure GI (mg : Str → Option Value) (Lg It r : Addr) (R : List Int) (i : Nat) (m : Str → Option Value) (h : Heap) : Prop where
  ns : h.Ns Lg m
  it : h.IsListIter It r i
  ls : ∃ its, h.IsList r its ∧ IntsAre its.toList R
  gl : h.Ns mainGlobals mg
theorem GI.at {i : Nat} {m : Str → Option Value} {h h' : Heap} (x : GI mg Lg It r R i m h) (k : ∀ b, b ∈ [Lg, It, r, mainGlobals] → ∀ o, h.get? b = some o → h'.get? b = some o) : GI mg Lg It r R i m h' :=
  ⟨x.ns.at' (k _ (by simp)), x.it.at (k _ (by simp)), let ⟨its, l, e⟩ := x.ls; ⟨its, l.at (k _ (by simp)), e⟩, x.gl.at' (k _ (by simp))⟩
theorem GI.apart {i : Nat} {m : Str → Option Value} {h : Heap} (x : GI mg Lg It r R i m h) : Lg ≠ It ∧ Lg ≠ r ∧ It ≠ r ∧ It ≠ mainGlobals := by
  obtain ⟨⟨o1, _, _, e1, d1, _⟩, ⟨o2, e2, c2, d2⟩, ⟨its, ⟨o3, e3, c3, n3, d3⟩, _⟩, ⟨o4, _, _, e4, d4, _⟩⟩ := x
  refine ⟨?_, ?_, ?_, ?_⟩
  · rintro rfl; rw [e1] at e2; cases e2; rw [d1] at d2; cases d2
  · rintro rfl; rw [e1] at e3; cases e3; rw [d1] at d3; cases d3
  · rintro rfl; rw [e2] at e3; cases e3; rw [d2] at d3; cases d3
  · rintro rfl; rw [e4] at e2; cases e2; rw [d4] at d2; cases d2
theorem ints_at : ∀ {vs : List Value} {ns : List Int} {i : Nat} {n : Int}, IntsAre vs ns → ns[i]? = some n → ∃ t, vs[i]? = some (.int n t)
  | _ :: _, _ :: _, 0, _, .cons n t _, e => by cases e; exact ⟨t, rfl⟩
  | _ :: vs, _ :: ns, i + 1, _, .cons _ _ r, e => ints_at (vs := vs) (ns := ns) (i := i) r e
  | [], [], _, _, .nil, e => by cases e

theorem gen_loop {k : Result → Sem Fin} {l : List Value} {p : Pos} {cF : Code} (hh : A.handled = none)
    (hk1 : ∀ (s : Shared) (P : End → Shared → Prop), P (.ret (.ok (.ret .none))) s → SegX (Md w) A cF (k (.ok .next)) [] s P)
    (hk2 : ∀ (s : Shared) (P : End → Shared → Prop), P (.ret (.ok (.ret .none))) s → SegX (Md w) A cF (k (.ok (.ret .none))) [] s P)
    (hX : ∀ b ∈ [Lg, It, r, mainGlobals], ¬ X b) (h1L : ¬ Z Lg) (h1I : ¬ Z It) (h1g : Z mainGlobals) {tc : Tok} (hc : mg (Str.ofString "CHAR_MAX") = some (.int 127 tc)) :
    ∀ (rest : List Int) (n i : Nat) (last : Int) (m : Str → Option Value) (s : Shared), R.drop i = rest → GI mg Lg It r R i m s.heap → ((∃ t, m (Str.ofString "last_interval") = some (.int last t)) ∨ rest.head? ≠ some 0) →
    SegX (Md w) A (.forLoop (forT gFor) (.ref It) (forB gFor) [] (envF 3 Lg a cd)) ((Md w).den (.forLoop (forT gFor) (.ref It) (forB gFor) [] (envF 3 Lg a cd))) [.ret k none false l cF p []] s (Post w A X Z (yl last rest n).1 (yl last rest n).2 s) := by
  intro rest
  induction rest with
  | nil =>
    intro n i last m s hd G _
    refine sx_forLoop ?_
    obtain ⟨its, hl, hi⟩ := G.ls
    have hlen : R.length ≤ i := List.drop_eq_nil_iff.mp hd
    have hn : its[i]? = none := by
      rw [← Array.getElem?_toList, List.getElem?_eq_none]
      rw [hi.length]; exact hlen
    refine wpAny_pyNext_list_end hh G.it hl hn fun h' hk => ?_
    refine s_again Pg w A _ _ _ _ _ rfl (sx_block0 ?_)
    refine s_pop Pg w A _ _ _ _ (.ok .next) _ rfl _ _ _ _ _ _ _ (hk1 _ _ ?_)
    exact fun _ => ⟨rfl, Past.but (tk := s.toks) hk h1I⟩
  | cons x rest ih =>
    intro n i last m s hd G hlast
    refine sx_forLoop ?_
    obtain ⟨its, hl, hi⟩ := G.ls
    have hx : R[i]? = some x := by
      have := congrArg (·[0]?) hd
      simpa [List.getElem?_drop] using this
    have hd' : R.drop (i + 1) = rest := by rw [← List.drop_drop, hd]; rfl
    obtain ⟨tx, hv⟩ := ints_at hi hx
    rw [Array.getElem?_toList] at hv
    obtain ⟨d1, d2, d3, d4⟩ := G.apart
    refine wpAny_pyNext_list_item G.it hl hv fun h' hit hsb => ?_
    refine letGo_listiter hit ?_
    have hgL : mainGlobals ≠ Lg := fun e => h1L (e ▸ h1g)
    have ns' : h'.Ns Lg m := G.ns.at' fun o e => hsb.extBut Lg o d1 e
    refine wpAny_assign_Name (wpAny_storeName_local (env := envF 3 Lg a cd) rfl ns' (fun h3 hn3 hsb3 => ?_) rfl)
    intro K H hK1 hK2
    have keep3 : ∀ b o, b ≠ It → b ≠ Lg → s.heap.get? b = some o → h3.get? b = some o := fun b o n1 n2 e => hsb3.extBut b o n2 (hsb.extBut b o n1 e)
    have G3 : GI mg Lg It r R (i + 1) (fun y => if y = Str.ofString "interval" then some (.int x tx) else m y) h3 :=
      ⟨hn3, hit.at fun o e => hsb3.extBut It o (Ne.symm d1) e, ⟨its, hl.at fun o e => keep3 r o (Ne.symm d3) (Ne.symm d2) e, hi⟩, G.gl.at' fun o e => keep3 mainGlobals o (Ne.symm d4) hgL e⟩
    have past3 : ∀ {tk : Nat}, Past Z s { s with heap := h3, toks := tk } := ⟨fun b o e e' => keep3 b o (fun h => h1I (h ▸ e)) (fun h => h1L (h ▸ e)) e', rfl, rfl⟩
    have sI : ∀ {A : Around} {s' : Shared}, s'.heap = h3 → ∀ (Q : Value → Shared → Prop), Q (.int x tx) s' → wpAny (Md w) A (loadName (envF 3 Lg a cd) (Str.ofString "interval")) Q NoE s' := fun e Q q => ldL rfl (by rw [e]; exact hn3) rfl Q q
    -- if interval == CHAR_MAX
    refine sx_cons (sx_If (b := x == 127) ?_)
    refine cmp_names (sI rfl) (fun Q q => loadName_global rfl rfl (Calls.loadGlobal_global (env := envF 3 Lg a cd) G3.gl hc q)) ⟨rfl, ?_⟩
    by_cases h127 : x = 127
    · subst h127
      refine sx_cons (sx_wrap (m := exec (.Return none _) _) (wpAny_Return_none ?_))
      show SegX _ _ _ (K (.ret .none)) _ _ _
      rw [hK2]
      refine s_pop Pg w A _ _ _ _ (.ok (.ret .none)) _ rfl _ _ _ _ _ _ _ (hk2 _ _ ?_)
      have ey : yl last (127 :: rest) n = ([], true) := by simp [yl]
      rw [ey]
      exact fun _ => ⟨rfl, past3⟩
    have e127 : (x == 127) = false := by simpa using h127
    rw [e127]
    refine sx_nil ?_
    refine sx_cons (sx_If (b := x == 0) ?_)
    refine cmp_zero (sI rfl) fun tk => ⟨rfl, ?_⟩
    by_cases h0 : x = 0
    · subst h0
      obtain ⟨tl, hl'⟩ : ∃ t, m (Str.ofString "last_interval") = some (.int last t) := by
        rcases hlast with h | h
        · exact h
        · exact absurd rfl h
      obtain ⟨m3, hn3', hl3⟩ : ∃ m3 : Str → Option Value, h3.Ns Lg m3 ∧ m3 (Str.ofString "last_interval") = some (.int last tl) := ⟨_, hn3, hl'⟩
      refine sx_cons (sx_If (b := false) ?_)
      refine wpAny_isTrue_Compare1 (wpAny_Name (ldL rfl hn3' hl3 _ (wpAny_Constant_none (is_int_none (wpAny_truthy_bool ⟨rfl, ?_⟩)))) (by decide)) (by with_unfolding_all rfl)
      refine sx_nil ?_
      refine sx_cons (sx_While fun pW kW gW lW _ hg => ?_)
      have ey : yl last (0 :: rest) n = (List.replicate n last, false) := by simp [yl]
      rw [ey]
      refine SegX.mono (gen_while rfl rfl (by rw [hg]; rfl) (hX Lg (by simp)) n hn3' hl3) fun e s' p' => Post.past past3 p'
    have e0 : (x == 0) = false := by simpa using h0
    rw [e0]
    refine sx_nil ?_
    refine sx_cons (sx_yield rfl rfl rfl ?_)
    refine wpAny_Name (sI rfl _ fun l' k' p' hk' => ?_) (by decide)
    cases n with
    | zero =>
      have ey : yl last (x :: rest) 0 = ([], false) := by simp [yl, h127, h0]
      rw [ey]
      exact fun h => by cases h
    | succ n =>
      have ey : yl last (x :: rest) (n + 1) = (x :: (yl x rest n).1, (yl x rest n).2) := by simp [yl, h127, h0]
      rw [ey]
      refine ⟨⟨tx, rfl⟩, rfl, will_of fun s4 kx => ?_, past3⟩
      have G4 : GI mg Lg It r R (i + 1) _ s4.heap := G3.at fun b hb o e => kx.keep b o (hX b hb) e
      refine hk' _ _ (sx_cons (sx_wrap (wpAny_Assign_Name (wpAny_Name (ldL rfl G4.ns rfl _ (wpAny_storeName_local (env := envF 3 Lg a cd) rfl G4.ns (fun h5 hn5 hsb5 => ?_) rfl)) (by decide)) rfl)))
      refine sx_nil ?_
      rw [hK1]
      refine s_again Pg w A _ _ _ _ _ rfl ?_
      have G5 : GI mg Lg It r R (i + 1) _ h5 := ⟨hn5, G4.it.at fun o e => hsb5.extBut It o (Ne.symm d1) e, let ⟨its, l, e⟩ := G4.ls; ⟨its, l.at fun o e => hsb5.extBut r o (Ne.symm d2) e, e⟩, G4.gl.at' fun o e => hsb5.extBut mainGlobals o hgL e⟩
      have past5 : ∀ {tk : Nat}, Past Z s4 { s4 with heap := h5, toks := tk } := Past.but hsb5.extBut h1L
      exact SegX.mono (ih n (i + 1) x _ _ hd' G5 (.inl ⟨tx, rfl⟩)) fun e s' p' => Post.past past5 p'
end
end Mine

namespace Mine
open PySem.W.X

section
variable {w : World} {A : Around} {X : Addr → Prop} {Z : Addr → Prop} {mg : Str → Option Value} {Lg r a : Addr} {cd : Value} {R : List Int} {env : Env}

theorem gen_start {h : Heap} {m : Str → Option Value} {n : Nat} {last : Int} {tc : Tok} (hh : A.handled = none) (hXl : ∀ b, X b → ∃ o, h.get? b = some o) (hZl : ∀ b, Z b → ∃ o, h.get? b = some o) (hX : ∀ b ∈ [Lg, r, mainGlobals], ¬ X b) (h1L : ¬ Z Lg) (h1g : Z mainGlobals)
    (hc : mg (Str.ofString "CHAR_MAX") = some (.int 127 tc)) (hn : h.Ns Lg m) (hm : m (Str.ofString "grouping") = some (.ref r)) (ls : ∃ its, h.IsList r its ∧ IntsAre its.toList R) (gl : h.Ns mainGlobals mg) (h0 : R.head? ≠ some 0) :
    Will w A X Z (yl last R n).1 (yl last R n).2 (.fresh (.func (bodyOf (fnAt 3)) (envF 3 Lg a cd))) h := by
  refine will_of fun s kx => ?_
  show SegX _ _ _ _ _ _ _
  refine sx_func fun K H hK1 hK2 => ?_
  have hn' := hn.at' fun o e => kx.keep Lg o (hX _ (by simp)) e
  refine sx_cons (sx_wrap (wpAny_Assign_Name (wpAny_Constant_none (wpAny_storeName_local (env := envF 3 Lg a cd) rfl hn' (fun h2 hn2 hsb2 => ?_) rfl)) rfl))
  obtain ⟨its, hl, hi⟩ := ls
  have hl' := hl.at fun o e => kx.keep r o (hX _ (by simp)) e
  have gl' := gl.at' fun o e => kx.keep mainGlobals o (hX _ (by simp)) e
  have d1 : r ≠ Lg := by
    rintro rfl
    obtain ⟨o1, e1, _, k1, c1⟩ := hl
    obtain ⟨o2, _, _, e2, c2, _⟩ := hn
    rw [e1] at e2; cases e2; rw [c1] at c2; cases c2
  have d2 : mainGlobals ≠ Lg := fun e => h1L (e ▸ h1g)
  have hl2 := hl'.at fun o e => hsb2.extBut r o d1 e
  have gl2 := gl'.at' fun o e => hsb2.extBut mainGlobals o d2 e
  obtain ⟨m2, hn2', hg2⟩ : ∃ m2 : Str → Option Value, h2.Ns Lg m2 ∧ m2 (Str.ofString "grouping") = some (.ref r) := ⟨_, hn2, hm⟩
  refine sx_cons (sx_For (wpAny_Name (ldL rfl hn2' hg2 _ (wpAny_pyIter_list hl2 fun p k g l hk1 hk2 hg => ?_)) (by decide)))
  subst hg
  have hsz : ∀ b, (∃ o, h.get? b = some o) → b ≠ h2.objs.size := fun b ⟨o, e⟩ => by
    obtain ⟨o', e'⟩ := kx.live b o e
    have : ∃ o, h2.get? b = some o := by
      by_cases hb : b = Lg
      · subst hb; exact Ns.live hn2'
      · exact ⟨o', hsb2.extBut b o' hb e'⟩
    obtain ⟨o2, e2⟩ := this
    exact Nat.ne_of_lt (Heap.lt_size e2)
  have up : ∀ b o, h2.get? b = some o → (h2.push { cls := .type "list_iterator", data := .fields #[.ref r, .int 0 0] }).get? b = some o := fun b o e => Heap.get?_push_of_some _ e
  refine SegX.mono (gen_loop (X := X) (Z := Z) (R := R) (mg := mg) (Lg := Lg) (It := h2.objs.size) (r := r) (a := a) (cd := cd) hh ?_ ?_ ?_ h1L ?_ h1g hc R n 0 last m2 _ (by rw [List.drop_zero]) ⟨hn2'.keeps up, ⟨_, Heap.get?_push_size _ rfl, rfl, rfl⟩, ⟨its, IsList.grow hl2 up, hi⟩, gl2.keeps up⟩ (.inr h0)) fun e s' p' => Post.past (s₁ := _) ?_ p'
  · intro s P hP
    refine hk1 _ _ (sx_nil ?_)
    rw [hK1]
    exact s_end Pg w A _ P s (.ok (.ret .none)) _ rfl hP
  · intro s P hP
    refine hk2 _ _ _ ?_
    show SegX _ _ _ (K (.ret .none)) _ _ _
    rw [hK2]
    exact s_end Pg w A _ P s (.ok (.ret .none)) _ rfl hP
  · intro b hb hx
    simp only [List.mem_cons, List.not_mem_nil, or_false] at hb
    rcases hb with rfl | rfl | rfl | rfl
    · exact hX _ (by simp) hx
    · exact hsz _ (hXl _ hx) rfl
    · exact hX _ (by simp) hx
    · exact hX _ (by simp) hx
  · exact fun hz => hsz _ (hZl _ hz) rfl
  · exact ⟨fun b o hz e => up b o (hsb2.extBut b o (fun hb => h1L ((show b = Lg from hb) ▸ hz)) e), rfl, rfl⟩

theorem next_gen {ad : Addr} {g : Nat} {gs : GenState} {s : Shared} {P : End → Shared → Prop} {Q : Option Value → Shared → Prop} {E : Value → Shared → Prop} (hh : A.handled = none) (hl : s.heap.NoLimit) (hroom : A.depth < recursionLimit) (hg : s.heap.IsGen ad g) (hgs : s.gens[g]? = some gs)
    (x : Nx w A.in1 gs (s.setGen g .running) P) (hE : ∀ e s₁, P e s₁ → (∃ v, e.result = .yielded v ∧ Q (some v) (s₁.setGen g e.genState)) ∨ (e = .ret (.ok (.ret .none)) ∧ ∀ h', Grow s₁.heap h' → Q none { s₁.setGen g .finished with heap := h' })) :
    wpAny (Md w) A (pyNext (.ref ad)) Q E s := by
  unfold pyNext
  refine wpAny_bind (wpAny_attempt (wpAny_callSpecial?_slot (name := Str.ofString "__next__") hg.typeIs slot_gen_next
    (wpAny_call_entry slot_gen_next hg.typeIs entry_gen_next ?_ (args_gen_next _))))
  show wpAny _ _ (Builtin.Generator.genWake (.ref ad) (.send .none)) _ _ s
  unfold Builtin.Generator.genWake
  refine wpAny_bind (wpAny_holding (wpAny_genNumber hg (wpAny_bind (wpAny_genState hgs ?_))))
  have key : ∀ {α : Type} {k : GenResult → Sem α} {l : List Value} {Q' : α → Shared → Prop} {E : Value → Shared → Prop}, (∀ e s₁, P e s₁ → wpAny (Md w) A.in1 (k e.result) Q' E (s₁.setGen g e.genState)) → wpAny (Md w) A.in1 (.resume g (.send .none) l k) Q' E s := by
    intro α k l Q' E hk
    cases gs with
    | fresh c => exact wake_any α Pg w hgs (.inl ⟨rfl, rfl, rfl, rfl⟩) (fun Γ => Γ.In A.in1) (fun _ h => h) (SegX.mono x fun e s₁ p Γ q hΓ => hk e s₁ p Γ q hΓ)
    | suspended k₀ l₀ c₀ p₀ fs₀ cl => exact wake_any α Pg w hgs (.inr ⟨k₀, l₀, p₀, cl, rfl, rfl⟩) (fun Γ => Γ.In A.in1) (fun _ h => h) (SegX.mono x fun e s₁ p Γ q hΓ => hk e s₁ p Γ q hΓ)
    | _ => exact x.elim
  cases gs with
  | running => exact x.elim
  | finished => exact x.elim
  | _ =>
    refine wpAny_bind (wpAny_roomToWake hl hroom ?_)
    show wpAny _ _ (.resume g (.send .none) [] _) _ _ s
    refine key fun e s₁ p => ?_
    rcases hE e s₁ p with ⟨v, he, hq⟩ | ⟨rfl, hq⟩
    · rw [he]
      exact wpAny_pure ⟨v, rfl, wpAny_pure hq⟩
    · show wpAny _ _ (newExc (.type "StopIteration") [] >>= _) _ _ _
      refine wpAny_bind ?_
      simp only [newExc, newTuple]
      refine wpAny_bind (wpAny_newObj_type ?_ (by size_fits))
      refine wpAny_bind (m := firstArgMember _ _) (wpAny_of_eq (a := Value.none) (by first | rfl | (simp only [firstArgMember]; rfl)) ?_)
      refine wpAny_newObj_type ?_ (by size_fits)
      simp only [raiseNew]
      refine wpAny_bind (wpAny_bind (wpAny_handled ?_))
      rw [show A.in1.handled = none from hh]
      refine wpAny_throw ?_
      refine wpAny_bind (wpAny_isInstance (T := "StopIteration") (b := true) ⟨_, Heap.get?_push_size _ rfl, rfl⟩ isSubtype_stop ?_)
      exact wpAny_pure (hq _ fun b o hb => Heap.get?_push_of_some _ (Heap.get?_push_of_some _ hb))

theorem call_gen {v : Value} {s : Shared} {Q : Value → Shared → Prop} {E : Value → Shared → Prop} (f : Fn 3 s.heap a) (hl : s.heap.NoLimit) (hroom : A.depth < recursionLimit)
    (k : ∀ (Lg ad : Addr) (cd : Value) (h' : Heap) (m : Str → Option Value) (tk : Nat), s.heap.get? Lg = none → s.heap.get? ad = none → Lg ≠ ad → Grow s.heap h' → h'.Ns Lg m → m (Str.ofString "grouping") = some v → h'.IsGen ad s.gens.size →
      Q (.ref ad) { s with heap := h', toks := tk, gens := s.gens.push (.fresh (.func (bodyOf (fnAt 3)) (envF 3 Lg a cd))) }) : wpAny (Md w) A (call (.ref a) [v]) Q E s := by
  obtain ⟨⟨o, pm, cd, doc, ho, hd, hc⟩⟩ := f
  refine wpAny_call (codeAny_call_generator (body := bodyOf (fnAt 3)) hroom ho hd rfl rfl rfl hc ?_)
  have hbind : bindArgs (Calls.docDef (nameOf (fnAt 3)) (paramsOf (fnAt 3)) (bodyOf (fnAt 3)) (scopeOf (fnAt 3)) pm cd doc) ⟨[v], []⟩ = pure [(Str.ofString "grouping", v)] := by rfl
  rw [hbind]
  refine wpAny_pure (wpAny_newFunctionEnv (show ∀ x ∈ (scopeOf (fnAt 3)).names, x.2 ≠ .cell by decide) (locs (by rfl)) (fun h₁ hns hsb => ⟨hl.fresh _ hsb, ?_⟩) rfl)
  have g1 : Grow s.heap h₁ := fun b o e => hsb.extBut b o (Nat.ne_of_lt (Heap.lt_size e)) (Heap.get?_push_of_some _ e)
  have hlt : s.heap.objs.size < h₁.objs.size := by
    obtain ⟨o, e⟩ := Ns.live hns
    exact Heap.lt_size e
  refine k s.heap.objs.size h₁.objs.size cd _ _ _ (none_of_size (Grow.refl _) (Nat.le_refl _)) (none_of_size (Grow.refl _) (Nat.le_of_lt hlt)) (Nat.ne_of_lt hlt) (g1.trans (Grow.push _ _)) (hns.keeps fun b o e => Heap.get?_push_of_some _ e) rfl ?_
  exact ⟨_, _, _, Heap.get?_push_size _ rfl, rfl, rfl, rfl⟩

theorem wp_callF {x : Str} {p pos : Pos} {e : Expr} {rest : List Expr} {o : Obj} {fd : FuncData} {rs : List Rl} {s : Shared} {Q : Value → Shared → Prop} (hf : Sees w A env s.heap x (.ref a)) (ho : s.heap.get? a = some o) (hd' : o.data = .func fd)
    (ha : Co w A (spliced (backTo pos (starEach (e :: rest) env))) s.heap (Args rs))
    (k : ∀ vs s', Ext s s' → Pw s'.heap rs vs → wpAny (Md w) A (call (.ref a) vs) Q NoE s') (hd : (x == ("__debug__" : Str)) = false := by decide) (hs : starEach (e :: rest) env = (false, eval e env) :: starEach rest env := by rfl) :
    wpAny (Md w) A (eval (.Call (.Name x p) (e :: rest) [] pos) env) Q NoE s :=
  wpAny_Call_Name_kw ((co_name hf hd).use (Grow.refl _) fun f s1 e0 e1 => by
    cases e0
    refine Calls.callWith_function (o := o) (fd := fd) (evalArgs_trees hs (ha.use e1.grow fun vs s2 r e2 => ⟨⟨(e1.grow.trans e2.grow) _ _ ho, hd'⟩, ?_⟩))
    exact k vs s2 (e1.trans e2) r)
end

/-- how a word is cut -/
def cutL : List Int → Str → List Str
  | [], x => if x.length = 0 then [] else [x]
  | y :: l, x => if x.length = 0 then [] else Txt.slice x (some (-y)) none :: cutL l (Txt.slice x none (some (-y)))
def Enough : List Int → Bool → Str → Prop
  | [], f, _ => f = true
  | y :: l, f, x => x.length = 0 ∨ Enough l f (Txt.slice x none (some (-y)))
end Mine

namespace Mine
open PySem.W.X

theorem str_beq_empty (x : Str) : (x == Str.ofString "") = decide (x.length = 0) := by
  have h : (Str.ofString "") = ⟨#[]⟩ := by decide
  rw [h, Bool.eq_iff_iff, beq_iff_eq, decide_eq_true_eq]
  constructor
  · rintro rfl; rfl
  · intro e
    obtain ⟨c⟩ := x
    have : c = #[] := Array.eq_empty_of_size_eq_zero e
    rw [this]

section
variable {w : World} {A : Around} {env : Env} {h₀ : Heap}

theorem co_listN {elts : List Expr} {pos : Pos} {rs : List Rl} (hl : rs.length ≤ 1000) (ha : Co w A (spliced (backTo pos (starEach elts env))) h₀ (Args rs)) (mr : ∀ r ∈ rs, Mono r) : Co w A (eval (.List elts pos) env) h₀ (VNew h₀ rs) :=
  fun _ g => wpAny_List (ha.use g fun vs s1 r e1 => by
    have hn : vs.length = rs.length := Pw.length r
    refine ⟨by rw [hn, sizeLine_eq]; omega, ⟨_, _, rfl, ⟨_, Heap.get?_push_size _ rfl⟩, ?_, fresh_push (g.trans e1.grow)⟩, e1.trans (Ext.heap' (Grow.push _ _))⟩
    rw [List.toList_toArray]
    exact Pw.mono (Grow.push _ _) mr r)

theorem InF.nextG {s₀ s s₁ : Shared} {L : Addr} {m : Str → Option Value} {Z : Addr → Prop} {g : Nat} {gs' : GenState} {h' : Heap} (I : InF s₀ L m s) (P : Past Z (s.setGen g .running) s₁) (hZ : ∀ b o, s₀.heap.get? b = some o → Z b) (hL : Z L)
    (hg : s₀.gens[g]? = none) (hb : gs'.bare = true) (hs : ∃ x, s.gens[g]? = some x) (gr : Grow s₁.heap h') : InF s₀ L m { s₁.setGen g gs' with heap := h' } := by
  have hgens : (s₁.setGen g gs').gens = (s.gens.setIfInBounds g .running).setIfInBounds g gs' := by
    show s₁.gens.setIfInBounds g gs' = _
    rw [P.gens]; rfl
  refine ⟨⟨I.F.ns.at' fun o e => gr L o (P.keep L o hL e), fun b o e => gr b o (P.keep b o (hZ b o e) (I.F.keep b o e)), I.F.above⟩, P.os.trans I.os, ?_⟩
  show GExt s₀.gens (s₁.setGen g gs').gens
  rw [hgens]
  refine ⟨fun i y e => ?_, fun hbare => ?_⟩
  · have hne : g ≠ i := fun h => by subst h; rw [hg] at e; cases e
    rw [Array.getElem?_setIfInBounds_ne hne, Array.getElem?_setIfInBounds_ne hne]
    exact I.gens.old i y e
  · have hb' := I.gens.bare hbare
    intro y hy
    obtain ⟨i, hi⟩ := Array.getElem?_of_mem hy
    by_cases h : g = i
    · subst h
      rw [Array.getElem?_setIfInBounds] at hi
      simp only [if_true] at hi
      split at hi
      · cases hi; exact hb
      · cases hi
    · rw [Array.getElem?_setIfInBounds_ne h, Array.getElem?_setIfInBounds_ne h] at hi
      exact hb' y (Array.mem_of_getElem? hi)
end
end Mine

namespace Mine
open PySem.W.X

section
variable {w : World} {A : Around} {env : Env} {h₀ : Heap}

theorem slice_len (x : Str) (lo hi : Option Int) : (Txt.slice x lo hi).length ≤ x.length := Txt.slice_le x _ _

/-- x = e, and the generators that stand stay -/
theorem st_localG {x : Str} {p pos : Pos} {e : Expr} {R : Rl} {s₀ s : Shared} {m : Str → Option Value} {Q : Flow → Shared → Prop} {E : Value → Shared → Prop} (I : InF s₀ env.locals m s) (c : Co w A (eval e env) s.heap R)
    (hl : env.kindOf x = some .local) (hp : (env.scope.kind == .class || (env.scope.kind == .module && env.locals != env.globals)) = false)
    (k : ∀ v s', InF s₀ env.locals (fun y => if y = x then some v else m y) s' → KeepBut [env.locals] s.heap s'.heap → GExt s.gens s'.gens → (∀ R', Firm R' → (∀ h, R v h → R' v h) → R' v s'.heap) → Q .next s')
    (hs : swapsWith e (some (.Name x p)) pos.line env = pure false := by rfl) : wpAny (Md w) A (exec (.Assign [.Name x p] e pos) env) Q E s :=
  wpAny_Assign_Name (c.use (Grow.refl _) fun v s₁ r e₁ => wpAny_storeName_local hl (I.ext e₁).F.ns (fun h' hn hsb => by
    have gs := GrowS.ofNs (I.ext e₁).F.ns hsb
    exact k v _ ⟨(I.ext e₁).F.set hn hsb, (I.ext e₁).os, (I.ext e₁).gens⟩ ((e₁.grow.but _).trans fun b o hb e => hsb.extBut b o (fun h => hb (List.mem_singleton.mpr h)) e) e₁.gens fun R' f q => f _ _ _ gs (q _ r)) hp) hs

theorem pw_any {h h' : Heap} : ∀ {xs : List Str} {vs : List Value}, Pw h (xs.map VStr) vs → Pw h' (xs.map VStr) vs
  | [], [], _ => trivial
  | _ :: _, _ :: _, p => ⟨p.1, pw_any p.2⟩
  | [], _ :: _, p => p.elim
  | _ :: _, [], p => p.elim
theorem call_lenS {x : Str} (hn : x.length ≤ 1000) : ∀ vs h, Grow h₀ h → Pw h [VStr x] vs → Co w A (call (.builtin "len") vs) h (VInt x.length)
  | [v], h, _, ⟨⟨t, e⟩, _⟩ => fun s g => by
    subst e
    exact PySem.P.len_str (by omega) ⟨⟨_, rfl⟩, Ext.toks _ _⟩
  | [], _, _, p => p.elim
  | _ :: _ :: _, _, _, p => p.2.elim

theorem co_cut {a ag : Addr} {x : Str} {R : List Int} {n : Nat} {mg mb : Str → Option Value} {tc : Tok} (f : Fn 9 h₀ a) (fg : Fn 3 h₀ ag) (B : Bi mg mb h₀) (hroom : A.depth + 1 < recursionLimit) (hh : A.handled = none)
    (gG : mg (Str.ofString "_grouping_intervals") = some (.ref ag)) (gC : mg (Str.ofString "CHAR_MAX") = some (.int 127 tc)) (gL : mg (Str.ofString "len") = none) (bL : mb (Str.ofString "len") = some (.builtin "len"))
    (hx : x.length ≤ 100) (hR : R.head? ≠ some 0) (hn : (yl 0 R n).1.length ≤ 100) (en : Enough (yl 0 R n).1 (yl 0 R n).2 x) :
    ∀ vs h, Grow h₀ h → Pw h [VStr x, VInts R] vs → Co w A (call (.ref a) vs) h (VNew h ((cutL (yl 0 R n).1 x).map VStr))
  | [v, u], h, g, ⟨⟨t, e⟩, hu, _⟩ => by
    subst e
    obtain ⟨⟨o, pm, cd, doc, ho, hd, hc⟩⟩ := f.keeps g
    refine co_plain (binds := [(Str.ofString "word", .str x t), (Str.ofString "ruler", u)]) (by omega) ho hd (B.nolimit.keeps g) hc (by rfl) (locs (by rfl)) fun s₀ s L gs I => ?_
    have B₀ := (B.keeps g).keeps gs
    have hu' : VInts R u s.heap := VInts.mono _ _ _ _ (gs.trans I.F.keep) hu
    have fg₀ := (fg.keeps g).keeps gs
    generalize hAc : A.deeper (envF 9 L a cd) = Ac
    have hhc : Ac.handled = none := by rw [← hAc]; exact hh
    have hrc : Ac.depth < recursionLimit := by rw [← hAc]; exact hroom
    refine wpAny_execs_cons ?_
    refine st_local (env := envF 9 L a cd) (R := VNew s.heap []) I (co_listN (rs := []) (by decide) co_sp0 (by intro r hr; cases hr)) rfl rfl fun v₁ s₁ I₁ k₁ r₁ => ?_
    obtain ⟨Pc, hP1, hPn, hv1⟩ : ∃ Pc, s₁.heap.PlainList Pc #[] ∧ s.heap.get? Pc = none ∧ v₁ = .ref Pc := by
      have fm : Firm (VNew s.heap []) := fun _ _ _ g ⟨a, its, e, ⟨n, l⟩, p, q⟩ => ⟨a, its, e, ⟨n, g _ _ ⟨its, n, rfl⟩ l⟩, p.firm g (fun r hr => by cases hr), q⟩
      obtain ⟨Pc, its, e, hl, p, q⟩ := r₁ _ fm fun _ r => r
      refine ⟨Pc, ?_, q, e⟩
      have h0 := Pw.length p
      have : its = #[] := Array.eq_empty_of_size_eq_zero (by rw [← Array.length_toList]; exact h0)
      rw [← this]; exact hl
    subst hv1
    refine wpAny_execs_cons ?_
    obtain ⟨og, pmg, cdg, docg, hog, hdg, hcg⟩ := fg₀.at'
    have B₁ := B₀.keeps I₁.F.keep
    have hu₁ : VInts R u s₁.heap := VInts.firm _ _ _ _ (k₁.s (Soft.ns I.F.ns)) hu'
    refine wpAny_For (wp_callF (rs := [fun v h => v = u ∧ VInts R v h]) (sees_global rfl rfl B₁.g gG) (I₁.F.keep _ _ hog) hdg (co_args1 (fun _ _ _ g r => ⟨r.1, VInts.mono _ _ _ _ g r.2⟩) (co_nameR (sees_local rfl rfl I₁.F.ns rfl) (fun _ _ _ g r => ⟨r.1, VInts.mono _ _ _ _ g r.2⟩) ⟨rfl, hu₁⟩)) fun vs s₂ e₂ pv => ?_)
    match vs, pv with
    | [vr], ⟨⟨hvr, hr₂⟩, _⟩ =>
    subst hvr
    have I₂ := I₁.ext e₂
    have B₂ := B₀.keeps I₂.F.keep
    refine call_gen (fg₀.keeps I₂.F.keep) B₂.nolimit hrc fun Lg ad cdG h3 m3 tk3 hLg had hne g3 hns hm hgen => ?_
    refine wpAny_pyIter_gen hgen ?_
    have e₃ : Ext s₂ { s₂ with heap := h3, toks := tk3, gens := s₂.gens.push (.fresh (.func (bodyOf (fnAt 3)) (envF 3 Lg ag cdG))) } := ⟨g3, rfl, ⟨fun i y e => by
        rw [Array.getElem?_push]
        split
        · next h => subst h; rw [Array.getElem?_eq_none (Nat.le_refl _)] at e; cases e
        · exact e, fun hb => AllBare.push hb rfl⟩⟩
    have I₃ := I₂.ext e₃
    have B₃ := B₀.keeps I₃.F.keep
    have hP3 : h3.PlainList Pc #[] := PlainList.grow hP1 (e₂.grow.trans g3)
    obtain ⟨r, itr, rfl, hlr, pr⟩ := hu'
    have hrs : ∃ o, s.heap.get? r = some o := by obtain ⟨n, e⟩ := hlr; exact ⟨_, e⟩
    have hr3 : ∃ its, h3.IsList r its ∧ IntsAre its.toList R := by
      obtain ⟨r', its', e, l, p⟩ := VInts.mono _ _ _ _ g3 hr₂
      cases e
      exact ⟨its', l.isList, pw_ints p⟩
    have lv3 : ∀ b, (∃ o, s.heap.get? b = some o) → ∃ o, h3.get? b = some o := fun b ⟨o, e⟩ => by
      by_cases hb : b = L
      · subst hb; exact Ns.live I₃.F.ns
      · exact ⟨o, g3 _ _ (e₂.grow _ _ (k₁ b o (fun h => hb (List.mem_singleton.mp h)) e))⟩
    have lv2 : ∀ b, (∃ o, s.heap.get? b = some o) → ∃ o, s₂.heap.get? b = some o := fun b ⟨o, e⟩ => by
      by_cases hb : b = L
      · subst hb; exact Ns.live I₂.F.ns
      · exact ⟨o, (e₂.grow _ _ (k₁ b o (fun h => hb (List.mem_singleton.mp h)) e))⟩
    have hLs : ∃ o, s.heap.get? L = some o := Ns.live I.F.ns
    have hmG : ∃ o, s₀.heap.get? mainGlobals = some o := Ns.live B₀.g
    have hmGs : ∃ o, s.heap.get? mainGlobals = some o := by obtain ⟨o, e⟩ := hmG; exact ⟨o, I.F.keep _ _ e⟩
    have noL : ∀ b, (∃ o, s₀.heap.get? b = some o) → b ≠ L := fun b ⟨o, e⟩ => Nat.ne_of_lt (Nat.lt_of_lt_of_le (Heap.lt_size e) I.F.above)
    have noLg : ∀ b, (∃ o, s₂.heap.get? b = some o) → b ≠ Lg := fun b ⟨o, e⟩ h => by rw [h, hLg] at e; cases e
    have noP : ∀ b, (∃ o, s.heap.get? b = some o) → b ≠ Pc := fun b ⟨o, e⟩ h => by rw [h, hPn] at e; cases e
    have hPs2 : ∃ o, s₂.heap.get? Pc = some o := by obtain ⟨n, e⟩ := hP1; exact ⟨_, e₂.grow _ _ e⟩
    have hLP : L ≠ Pc := noP L hLs
    have hrL : r ≠ L := by
      rintro rfl
      obtain ⟨n, e⟩ := hlr
      obtain ⟨o2, _, _, e2, c2, _⟩ := I.F.ns
      rw [e] at e2; cases e2; cases c2
    let X : Addr → Prop := fun b => b = L ∨ b = Pc
    let Z : Addr → Prop := fun b => b ≠ Lg ∧ ∃ o, h3.get? b = some o
    have hZ0 : ∀ b o, s₀.heap.get? b = some o → Z b := fun b o e => ⟨noLg b (lv2 b ⟨o, I.F.keep _ _ e⟩), lv3 b ⟨o, I.F.keep _ _ e⟩⟩
    have hZL : Z L := ⟨noLg L (lv2 L hLs), lv3 L hLs⟩
    have hZP : Z Pc := ⟨noLg Pc hPs2, by obtain ⟨o, e⟩ := hPs2; exact ⟨o, g3 _ _ e⟩⟩
    have hZa : Z ad := ⟨fun h => hne h.symm, by obtain ⟨o, _, _, e, _⟩ := hgen; exact ⟨o, e⟩⟩
    have hg0 : s₀.gens[s₂.gens.size]? = none := by
      cases e : s₀.gens[s₂.gens.size]? with
      | none => rfl
      | some y => have := I₂.gens.old _ _ e; rw [Array.getElem?_eq_none (Nat.le_refl _)] at this; cases this
    have will₃ : Will w Ac.in1 X Z (yl 0 R n).1 (yl 0 R n).2 (.fresh (.func (bodyOf (fnAt 3)) (envF 3 Lg ag cdG))) h3 := by
      refine gen_start (r := r) (mg := mg) (m := m3) (tc := tc) hhc ?_ (fun b hz => hz.2) ?_ (fun hz => hz.1 rfl) (hZ0 _ _ (Classical.choose_spec hmG)) gC hns hm hr3 B₃.g hR
      · rintro b (rfl | rfl)
        · exact lv3 _ hLs
        · exact hZP.2
      · intro b hb
        simp only [List.mem_cons, List.not_mem_nil, or_false] at hb
        rcases hb with hb | hb | hb
        · rintro (h | h)
          · exact noLg L (lv2 L hLs) (h.symm.trans hb)
          · exact noLg Pc hPs2 (h.symm.trans hb)
        · rintro (h | h)
          · exact hrL (hb.symm.trans h)
          · exact noP r hrs (hb.symm.trans h)
        · rintro (h | h)
          · exact noL _ hmG (hb.symm.trans h)
          · exact noP _ hmGs (hb.symm.trans h)
    refine codeAny_forLoop_any (fun k s' => ∃ (l : List Int) (fl : Bool) (xw : Str) (tw : Tok) (m : Str → Option Value) (its : Array Value) (pcs : List Str) (gs : GenState) (hW : Heap), k = l.length ∧ InF s₀ L m s' ∧ m (Str.ofString "word") = some (.str xw tw) ∧ m (Str.ofString "pieces") = some (.ref Pc) ∧ s'.heap.PlainList Pc its ∧ Pw s'.heap (pcs.map VStr) its.toList ∧
        s'.heap.IsGen ad s₂.gens.size ∧ s'.gens[s₂.gens.size]? = some gs ∧ Will w Ac.in1 X Z l fl gs hW ∧ KX X hW s'.heap ∧ Enough l fl xw ∧ pcs ++ cutL l xw = cutL (yl 0 R n).1 x ∧ xw.length ≤ 100 ∧ pcs.length + l.length ≤ 100) ?_ _
      ⟨(yl 0 R n).1, (yl 0 R n).2, x, t, _, #[], [], _, h3, rfl, I₃, rfl, rfl, hP3, trivial, hgen, by simp, will₃, ⟨fun _ _ _ e => e, fun _ o e => ⟨o, e⟩⟩, en, rfl, hx, by simpa using hn⟩
    rintro k s' ⟨l, fl, xw, tw, m, its, pcs, gs', hW, rfl, I', hmw, hmp, hPl, hPw, hGn, hgs', hwill, hkx, hen, hcut, hxl, hpl⟩
    have B' := B₀.keeps I'.F.keep
    cases l with
    | nil =>
      obtain rfl : fl = true := hen
      have kxr : KX X hW (s'.setGen s₂.gens.size .running).heap := hkx
      refine next_gen hhc B'.nolimit hrc hGn hgs' (hwill _ kxr) fun e s₄ ⟨he, hp⟩ => .inr ⟨he, fun h5 g5 => ?_⟩
      have I₅ := I'.nextG (gs' := .finished) hp hZ0 hZL hg0 rfl ⟨_, hgs'⟩ g5
      refine wpAny_execs_nil ?_
      show wpAny _ _ _ _ _ _
      have hPl5 : h5.PlainList Pc its := hPl.at fun o e => g5 _ _ (hp.keep Pc o hZP e)
      have hPw5 : Pw h5 (pcs.map VStr) its.toList := pw_any hPw
      have B5 := B₀.keeps I₅.F.keep
      have cw : ∀ {pos : Pos}, Co w Ac (eval (.Name (Str.ofString "word") pos) (envF 9 L a cd)) h5 (VStr xw) := co_nameS (sees_local rfl rfl I₅.F.ns hmw)
      refine wpAny_execs_cons ?_
      refine wpAny_Return_some ?_
      refine Co.use (R := VNew h5 (pcs.map VStr ++ [VStr xw].take xw.length)) (h₀ := h5) ?_ (Grow.refl _) fun v s6 r e6 => ⟨?_, (I₅.ext e6).done⟩
      · have mw : ∀ r ∈ [VStr xw], Mono r := fun r hr => by rw [List.mem_singleton.mp hr]; exact VStr.mono _
        refine co_listAddN (mono_strs pcs) (fun r hr => mw r (List.mem_of_mem_take hr)) (by rw [List.length_map]; have := hpl; simp only [List.length_nil] at this; omega) (by rw [List.length_take]; simp; omega) (co_nameR (sees_local rfl rfl I₅.F.ns hmp) (VStrs.mono pcs) ⟨Pc, its, rfl, hPl5, hPw5⟩) ?_
        refine co_upto (n := xw.length) mw (by simp) (co_list (rs := [VStr xw]) (by simp) (co_args1 (VStr.mono _) cw) mw) ?_
        exact co_callB (sees_builtin rfl rfl B5.g gL B5.b bL) (co_args1 (VStr.mono xw) cw) (call_lenS (by omega))
      · have ec : pcs.map VStr ++ [VStr xw].take xw.length = (cutL (yl 0 R n).1 x).map VStr := by
          rw [← hcut, List.map_append, cutL]
          by_cases hz : xw.length = 0
          · rw [if_pos hz, hz]; rfl
          · rw [if_neg hz, List.take_of_length_le (by simp; omega)]; rfl
        rw [ec] at r
        obtain ⟨q, iq, e, l1, p1, n1⟩ := r
        refine ⟨q, iq, e, l1, p1, ?_⟩
        cases eq : h.get? q with
        | none => rfl
        | some o => rw [I₅.F.keep _ _ (gs _ _ eq)] at n1; cases n1
    | cons y l =>
      have kxr : KX X hW (s'.setGen s₂.gens.size .running).heap := hkx
      refine next_gen hhc B'.nolimit hrc hGn hgs' (hwill _ kxr) fun e s₄ ⟨⟨ty, he⟩, hb, hwill', hp⟩ => .inl ⟨_, he, ?_⟩
      have I₅ := I'.nextG (gs' := e.genState) hp hZ0 hZL hg0 hb ⟨_, hgs'⟩ (Grow.refl _)
      have hPl5 : s₄.heap.PlainList Pc its := hPl.at fun o e => hp.keep Pc o hZP e
      have hGn5 : s₄.heap.IsGen ad s₂.gens.size := let ⟨o, nm, qn, ho, r⟩ := hGn; ⟨o, nm, qn, hp.keep ad o hZa ho, r⟩
      have hgs5 : (s₄.setGen s₂.gens.size e.genState).gens[s₂.gens.size]? = some e.genState := setGen_self (gs := .running) (by rw [hp.gens]; exact setGen_self hgs')
      generalize e.genState = gsN at *
      refine wpAny_pure ?_
      refine wpAny_assign_Name (wpAny_storeName_local (env := envF 9 L a cd) rfl I₅.F.ns (fun h6 hn6 hsb6 => ?_) rfl)
      have k6 : KeepBut [L] s₄.heap h6 := fun b o hb e => hsb6.extBut b o (fun h => hb (List.mem_singleton.mpr h)) e
      have I₆ : InF s₀ L _ { s₄.setGen s₂.gens.size gsN with heap := h6, toks := s₄.toks + 1 } := ⟨I₅.F.set hn6 hsb6, I₅.os, I₅.gens⟩
      have hPl6 : h6.PlainList Pc its := hPl5.at fun o e => k6 Pc o (fun h => hLP (List.mem_singleton.mp h).symm) e
      have cw : ∀ {pos : Pos}, Co w Ac (eval (.Name (Str.ofString "word") pos) (envF 9 L a cd)) h6 (VStr xw) := co_nameS (sees_local rfl rfl I₆.F.ns hmw)
      refine wpAny_execs_cons ?_
      refine wpAny_If (Co.use (cot_cmp (VStr.mono xw) cw co_str cmpS_eq) (Grow.refl _) fun b s7 r7 e7 => ?_)
      have I₇ := I₆.ext e7
      cases r7
      have hPl7 := PlainList.grow hPl6 e7.grow
      rw [str_beq_empty]
      by_cases hz : xw.length = 0
      · rw [decide_eq_true hz, if_pos rfl]
        refine wpAny_execs_cons ?_
        refine wpAny_Return_some ?_
        refine Co.use (co_name (sees_local rfl rfl I₇.F.ns hmp)) (Grow.refl _) fun v s8 r8 e8 => ?_
        cases r8
        refine ⟨⟨Pc, its, rfl, PlainList.grow hPl7 e8.grow, ?_, ?_⟩, (I₇.ext e8).done⟩
        · rw [← hcut, cutL, if_pos hz, List.append_nil]
          exact pw_any hPw
        · cases eq : h.get? Pc with
          | none => rfl
          | some o => rw [I.F.keep _ _ (gs _ _ eq)] at hPn; cases hPn
      rw [decide_eq_false hz, if_neg Bool.false_ne_true]
      refine wpAny_execs_nil ?_
      show wpAny _ _ _ _ _ _
      refine wpAny_execs_cons ?_
      obtain ⟨m7, hN7, hmw7, hmp7, hms7⟩ : ∃ m7 : Str → Option Value, InF s₀ L m7 s7 ∧ m7 (Str.ofString "word") = some (.str xw tw) ∧ m7 (Str.ofString "pieces") = some (.ref Pc) ∧ m7 (Str.ofString "size") = some (.int y ty) := ⟨_, I₇, hmw, hmp, rfl⟩
      have cneg : ∀ {h : Heap} {pos pos' : Pos}, Grow s7.heap h → Co w Ac (eval (.UnaryOp .USub (.Name (Str.ofString "size") pos) pos') (envF 9 L a cd)) h (VInt (-y)) := fun g => co_neg (co_nameI (sees_local rfl rfl (hN7.F.ns.keeps g) hms7))
      refine wpAny_Expr (wpAny_Call_method rfl rfl rfl F.plainAttrs_list F.slot_list_append F.type_list_append (Co.use (co_name (sees_local rfl rfl hN7.F.ns hmp7)) (Grow.refl _) fun v s8 r8 e8 => ?_))
      cases r8
      obtain ⟨n8, l8⟩ := PlainList.grow hPl7 e8.grow
      refine ⟨⟨_, l8, rfl⟩, (fun b hb => by cases hb; exact ⟨_, l8, rfl⟩), ?_⟩
      refine Calls.callWith_builtin (plain_trees rfl rfl) (evalArgs_trees rfl (Co.use (co_args1 (VStr.mono _) (co_strSlice (by omega) (co_nameS (sees_local rfl rfl (hN7.F.ns.keeps e8.grow) hmw7)) (co_part1 (cneg e8.grow)) co_part0)) (Grow.refl _) fun vs s9 r9 e9 => ?_))
      match vs, r9 with
      | [v9], ⟨⟨t9, hv9⟩, _⟩ =>
      subst hv9
      have hPl9 : s9.heap.PlainList Pc its := PlainList.grow hPl7 (e8.grow.trans e9.grow)
      have I₉ := (hN7.ext e8).ext e9
      have hits : its.size = pcs.length := by rw [← Array.length_toList, Pw.length hPw, List.length_map]
      refine wpAny_list_append_plain hPl9 (fun h10 hl10 hsb10 => ?_) (by rw [hits, sizeLine_eq]; omega)
      have kP : ∀ b o, b ≠ Pc → s9.heap.get? b = some o → h10.get? b = some o := fun b o hb e => hsb10.extBut b o hb e
      have I10 : InF s₀ L m7 { s9 with heap := h10 } := ⟨⟨I₉.F.ns.at' fun o e => kP L o hLP e, fun b o e => kP b o (noP b ⟨o, I.F.keep _ _ e⟩) (I₉.F.keep b o e), I₉.F.above⟩, I₉.os, I₉.gens⟩
      show wpAny _ _ _ _ _ _
      refine wpAny_execs_cons ?_
      refine st_localG (env := envF 9 L a cd) (R := VStr (Txt.slice xw none (some (-y)))) I10 ?_ rfl rfl fun v11 s11 I11 k11 gg11 r11 => ?_
      · exact co_strSlice (by omega) (co_nameS (sees_local rfl rfl I10.F.ns hmw7)) co_part0 (co_part1 (co_neg (co_nameI (sees_local rfl rfl I10.F.ns hms7))))
      obtain ⟨t11, rfl⟩ := r11 _ (VStr.firm _) fun _ r => r
      refine wpAny_execs_nil ?_
      have hge : ∀ b o, b ≠ L → b ≠ Pc → s₄.heap.get? b = some o → s11.heap.get? b = some o := fun b o h1 h2 e =>
        k11 b o (fun h => h1 (List.mem_singleton.mp h)) (kP b o h2 (e9.grow _ _ (e8.grow _ _ (e7.grow _ _ (k6 b o (fun h => h1 (List.mem_singleton.mp h)) e)))))
      have hPl11 : s11.heap.PlainList Pc (its.push (.str (Txt.slice xw (some (-y)) none) t9)) := hl10.at fun o e => k11 Pc o (fun h => hLP (List.mem_singleton.mp h).symm) e
      have hadL : ad ≠ L := fun h => by obtain ⟨o, e⟩ := lv2 L hLs; rw [← h, had] at e; cases e
      have hadP : ad ≠ Pc := fun h => by obtain ⟨o, e⟩ := hPs2; rw [← h, had] at e; cases e
      refine ⟨l.length, Nat.lt_succ_self _, l, fl, Txt.slice xw none (some (-y)), t11, _, _, pcs ++ [Txt.slice xw (some (-y)) none], gsN, s₄.heap, rfl, I11, rfl, hmp7, hPl11, ?_, ?_, ?_, hwill', ⟨?_, ?_⟩, ?_, ?_, ?_, ?_⟩
      · rw [Array.toList_push, List.map_append]
        exact (pw_any hPw).append ⟨⟨t9, rfl⟩, trivial⟩
      · obtain ⟨o, nm, qn, ho, r⟩ := hGn5
        exact ⟨o, nm, qn, hge ad o hadL hadP ho, r⟩
      · exact gg11.old _ _ (e9.gens.old _ _ (e8.gens.old _ _ (e7.gens.old _ _ hgs5)))
      · exact fun b o hb e => hge b o (fun h => hb (.inl h)) (fun h => hb (.inr h)) e
      · intro b o e
        by_cases h1 : b = L
        · subst h1; exact Ns.live I11.F.ns
        · by_cases h2 : b = Pc
          · subst h2; obtain ⟨n, e⟩ := hPl11; exact ⟨_, e⟩
          · exact ⟨o, hge b o h1 h2 e⟩
      · rcases hen with h | h
        · exact absurd h hz
        · exact h
      · rw [← hcut, cutL, if_neg hz, List.append_assoc]; rfl
      · exact Nat.le_trans (slice_len _ _ _) hxl
      · rw [List.length_append, List.length_singleton]; rw [List.length_cons] at hpl; omega
  | [], _, _, p => p.elim
  | [_], _, _, p => p.2.elim
  | _ :: _ :: _ :: _, _, _, p => p.2.2.elim
end
end Mine

namespace Mine

/-- the frame's own objects -/
def ownOf (L : Addr) (cs : List (Str × Addr)) : List Addr := L :: cs.map (·.2)
theorem InC.soft {s₀ s : Shared} {L : Addr} {cs : List (Str × Addr)} {m cm : Str → Option Value} (x : InC s₀ L cs m cm s) (hu : ∀ p ∈ cs, cs.lookup p.1 = some p.2) : Soft (ownOf L cs) s.heap := by
  intro b hb
  rcases List.mem_cons.mp hb with rfl | hb
  · exact Soft.ns x.I.F.ns b (List.mem_singleton.mpr rfl)
  · obtain ⟨p, hp, rfl⟩ := List.mem_map.mp hb
    obtain ⟨o, ho, hd⟩ := x.X.cell p.1 p.2 (hu p hp)
    exact ⟨o, ho, fun its k e => by rw [hd] at e; cases e⟩
theorem InC.setL {s₀ s : Shared} {L : Addr} {cs : List (Str × Addr)} {m m' cm : Str → Option Value} {h' : Heap} {tk : Nat} (x : InC s₀ L cs m cm s) (hn : h'.Ns L m') (hs : Heap.SameBut L s.heap h') : InC s₀ L cs m' cm { s with heap := h', toks := tk } :=
  ⟨⟨x.I.F.set hn hs, x.I.os, x.I.gens⟩, x.X.sameBut hs (Nat.le_refl _)⟩
theorem InC.setC {s₀ s : Shared} {L : Addr} {cs : List (Str × Addr)} {m cm : Str → Option Value} {h' : Heap} {tk : Nat} {y : Str} {c : Addr} {v : Value} (x : InC s₀ L cs m cm s) (hu : ∀ p ∈ cs, cs.lookup p.1 = some p.2) (hc : cs.lookup y = some c) (hn : h'.IsCell c (some v)) (hs : Heap.SameBut c s.heap h') :
    InC s₀ L cs m (fun z => if z = y then some v else cm z) { s with heap := h', toks := tk } := by
  have hm : (y, c) ∈ cs := mem_of_lookup hc
  have hL : L < c := x.X.above y c hm
  refine ⟨⟨⟨x.I.F.ns.at' fun o e => hs.extBut L o (Nat.ne_of_lt hL) e, fun b o e => hs.extBut b o (Nat.ne_of_lt (Nat.lt_trans (Nat.lt_of_lt_of_le (Heap.lt_size e) x.I.F.above) hL)) (x.I.F.keep b o e), x.I.F.above⟩, x.I.os, x.I.gens⟩, ⟨fun n d e => ?_, x.X.apart, x.X.above⟩⟩
  by_cases hn' : n = y
  · subst hn'
    rw [hc] at e; cases e
    rw [if_pos rfl]; exact hn
  · rw [if_neg hn']
    have hne : d ≠ c := by
      intro h
      subst h
      have h1 := mem_of_lookup e
      have : (n, d) ≠ (y, d) := fun h => hn' (congrArg Prod.fst h)
      have hap := x.X.apart
      have hp := List.pairwise_iff_getElem.mp hap
      obtain ⟨i, hi, ei⟩ := List.getElem_of_mem h1
      obtain ⟨j, hj, ej⟩ := List.getElem_of_mem hm
      rcases Nat.lt_trichotomy i j with h | h | h
      · have := hp i j hi hj h; rw [ei, ej] at this; exact this rfl
      · subst h; rw [ei] at ej; exact this ej
      · have := hp j i hj hi h; rw [ei, ej] at this; exact this rfl
    exact (x.X.cell n d e).sameBut hs hne
theorem but_one {own : List Addr} {a : Addr} {h h' : Heap} (ha : a ∈ own) (hs : Heap.SameBut a h h') : KeepBut own h h' := fun b o hb e => hs.extBut b o (fun h => hb (h ▸ ha)) e

section
variable {w : World} {A : Around} {env : Env} {s₀ s : Shared} {cs : List (Str × Addr)} {m cm : Str → Option Value}

theorem sto_loc {E : Value → Shared → Prop} {x : Str} {v : Value} {Q : Unit → Shared → Prop} (I : InC s₀ env.locals cs m cm s) (hl : env.kindOf x = some .local) (hp : (env.scope.kind == .class || (env.scope.kind == .module && env.locals != env.globals)) = false)
    (k : ∀ s', InC s₀ env.locals cs (fun y => if y = x then some v else m y) cm s' → KeepBut (ownOf env.locals cs) s.heap s'.heap → Q () s') : wpAny (Md w) A (storeName env x v) Q E s :=
  wpAny_storeName_local hl I.I.F.ns (fun h' hn hsb => k _ (I.setL hn hsb) (but_one (List.mem_cons_self ..) hsb)) hp
theorem sto_cell {E : Value → Shared → Prop} {x : Str} {c : Addr} {v : Value} {Q : Unit → Shared → Prop} (I : InC s₀ env.locals cs m cm s) (hu : ∀ p ∈ cs, cs.lookup p.1 = some p.2) (hk : env.scope.kind = .function) (hl : env.kindOf x = some .cell) (he : env.cells = cs) (hc : cs.lookup x = some c)
    (k : ∀ s', InC s₀ env.locals cs m (fun y => if y = x then some v else cm y) s' → KeepBut (ownOf env.locals cs) s.heap s'.heap → Q () s') : wpAny (Md w) A (storeName env x v) Q E s :=
  wpAny_storeName_cell hk hl (by rw [he]; exact hc) (I.X.cell x c hc) fun h' hn hsb => k _ (I.setC (tk := s.toks) hu hc hn hsb) (but_one (List.mem_cons_of_mem _ (List.mem_map.mpr ⟨(x, c), mem_of_lookup hc, rfl⟩)) hsb)

theorem st_cellC {x : Str} {c : Addr} {p pos : Pos} {e : Expr} {R : Rl} {Q : Flow → Shared → Prop} {E : Value → Shared → Prop} (I : InC s₀ env.locals cs m cm s) (hu : ∀ p ∈ cs, cs.lookup p.1 = some p.2) (co : Co w A (eval e env) s.heap R)
    (hk : env.scope.kind = .function) (hl : env.kindOf x = some .cell) (he : env.cells = cs) (hc : cs.lookup x = some c)
    (k : ∀ v s', InC s₀ env.locals cs m (fun y => if y = x then some v else cm y) s' → KeepBut (ownOf env.locals cs) s.heap s'.heap → (∀ R', Firm R' → (∀ h, R v h → R' v h) → R' v s'.heap) → Q .next s')
    (hs : swapsWith e (some (.Name x p)) pos.line env = pure false := by rfl) : wpAny (Md w) A (exec (.Assign [.Name x p] e pos) env) Q E s :=
  wpAny_Assign_Name (co.use (Grow.refl _) fun v s₁ r e₁ => sto_cell (I.ext e₁) hu hk hl he hc fun s' I' kb => k v s' I' ((e₁.grow.but _).trans kb) fun R' f q => f _ _ _ (kb.s ((I.ext e₁).soft hu)) (q _ r)) hs

/-- the value of a pair is laid down into its two names -/
theorem asg_tup {x y : Str} {px py tp : Pos} {k : Nat} {T : Addr} {u v : Value} {Q : Unit → Shared → Prop} {E : Value → Shared → Prop} (hh : A.handled = none) (ht : s.heap.IsTuple T #[u, v])
    (h : ∀ s', Ext s s' → wpAny (Md w) A (storeName env x u) (fun _ s₁ => wpAny (Md w) A (storeName env y v) Q E s₁) E s') : wpAny (Md w) A (assign (.Tuple [.Name x px, .Name y py] k tp) env (.ref T)) Q E s := by
  refine wpAny_assign_Tuple hh ht rfl rfl fun h' he => ?_
  have g : Grow s.heap h' := fun b o e => he b o (Nat.ne_of_lt (Heap.lt_size e)) e
  show wpAny _ _ (assignInOrder [assign (.Name x px) env, assign (.Name y py) env] [u, v]) _ _ _
  refine assignInOrder_cons (wpAny_assign_Name (wpAny_mono (h _ (Ext.heap' g)) (fun _ s₁ h₁ => ?_) fun _ _ x => x))
  exact assignInOrder_cons (wpAny_assign_Name (wpAny_mono h₁ (fun _ s₂ h₂ => assignInOrder_nil h₂) fun _ _ x => x))
theorem asg_list {x y : Str} {px py tp : Pos} {k : Nat} {T : Addr} {u v : Value} {Q : Unit → Shared → Prop} {E : Value → Shared → Prop} (hh : A.handled = none) (ht : s.heap.IsList T #[u, v])
    (h : ∀ s', Ext s s' → wpAny (Md w) A (storeName env x u) (fun _ s₁ => wpAny (Md w) A (storeName env y v) Q E s₁) E s') : wpAny (Md w) A (assign (.Tuple [.Name x px, .Name y py] k tp) env (.ref T)) Q E s := by
  rw [assign_Tuple]
  refine wpAny_bind (wpAny_standAt ?_)
  show wpAny _ _ (unpack (.ref T) [(false, assign (.Name x px) env), (false, assign (.Name y py) env)]) _ _ _
  unfold unpack
  show wpAny _ _ (holding _ (unpackItems (.ref T) (#[u, v] : Array Value).size none) >>= _) _ _ _
  refine wpAny_bind (wpAny_holding (kun_itemsOf hh ht fun h' he => ?_))
  have g : Grow s.heap h' := fun b o e => he b o (Nat.ne_of_lt (Heap.lt_size e)) e
  show wpAny _ _ (assignInOrder [assign (.Name x px) env, assign (.Name y py) env] [u, v]) _ _ _
  refine assignInOrder_cons (wpAny_assign_Name (wpAny_mono (h _ (Ext.heap' g)) (fun _ s₁ h₁ => ?_) fun _ _ x => x))
  exact assignInOrder_cons (wpAny_assign_Name (wpAny_mono h₁ (fun _ s₂ h₂ => assignInOrder_nil h₂) fun _ _ x => x))

/-- y = [comprehension], used at once, y a local name -/
theorem st_compU {elt target iter : Expr} {ifs : List Expr} {scope : Scope} {pos spos py : Pos} {y : Str} {cl : List (Str × Addr)} {n : Nat} {RI : Heap → Rl} {P : Nat → Value → Heap → Prop} {B : Nat → (Str → Option Value) → Prop} {p : Nat → Bool} {F : Nat → Rl} {Q : Flow → Shared → Prop} {E : Value → Shared → Prop}
    (I : InC s₀ env.locals cs m cm s) (hsw : swapsWith (.ListComp elt [⟨target, iter, ifs, 0⟩] scope pos) (some (.Name y py)) spos.line env = pure true)
    (hy : env.kindOf y = some .local) (hp : (env.scope.kind == .class || (env.scope.kind == .module && env.locals != env.globals)) = false)
    (hclos : closureFor scope env = pure cl) (hcell : ∀ y ∈ scope.names, y.2 ≠ .cell) (hkind : scope.kind = .function)
    (hnames : ∀ y ∈ scope.names, y.2 = .local → scope.names.lookup y.1 = some .local) (hsz : n ≤ 1000)
    (hit : Co w A (eval iter env) s.heap (RI s.heap)) (hiter : ∀ x h, Grow s.heap h → RI s.heap x h → Iters w A target s.heap x h n P)
    (hasg : ∀ C, Assigns w A target (compEnvC scope cl C env) P B)
    (htest : ∀ i C m h, i < n → Grow s.heap h → h.Ns C m → B i m → Co w A (tests ifs (compEnvC scope cl C env)) h (TBool (p i)))
    (helt : ∀ i C m h, i < n → p i = true → Grow s.heap h → h.Ns C m → B i m → Co w A (eval elt (compEnvC scope cl C env)) h (Stb h (F i)))
    (firm : ∀ r ∈ ((List.range n).filter p).map F, Firm r)
    (k : ∀ v s', InC s₀ env.locals cs (fun z => if z = y then some v else m z) cm s' → KeepBut (ownOf env.locals cs) s.heap s'.heap → VList (((List.range n).filter p).map F) v s'.heap → Q .next s')
    (hs : ∀ x, foldedSetIterable iter env x = pure x := by intro _; rfl) :
    wpAny (Md w) A (exec (.Assign [.Name y py] (.ListComp elt [⟨target, iter, ifs, 0⟩] scope pos) spos) env) Q E s := by
  rw [exec_Assign_Name_used _ _ _ _ hsw]
  refine wpAny_bind (wpAny_standAt (wpAny_bind ?_))
  show wpAny _ A (do let _ ← comprehension (.ListComp elt [⟨target, iter, ifs, 0⟩] scope pos) scope env _ (newList []) false (eval iter env) (some (assign (.Name y py) env))) _ _ s
  refine wpAny_bind (wnd (wpAny_comprehension_free (E := NoE) (use := some (assign (.Name y py) env)) (Q := fun _ s' => Q .next s') rfl hs hclos hkind hnames
    (hit.use (Grow.refl _) fun xv s₁ rx e₁ => wnd (hiter xv s₁.heap e₁.grow rx s₁ (Grow.refl _)) fun it s₂ h₂ => ?_)) fun _ s' hq => wpAny_pure (wpAny_pure hq))
  obtain ⟨⟨J, fp, wr, Mid, St, rfl, W, hst, hfp, hwr, hlive, _, hself⟩, e₂⟩ := h₂
  refine comp_core (s₁ := s) (RR := fun acc C => compPost (Md w) A NoE (some (assign (.Name y py) env)) (fun _ s' => Q .next s') acc C) hcell hkind hsz W hst hfp hwr hlive hself (e₁.trans e₂) hasg htest helt fun D C m' s' hD hC hDC hn e' hv => ?_
  show wpAny _ A (assign (.Name y py) env (.ref D)) _ _ _
  have I' := I.ext e'
  have hCL : C ≠ env.locals := by
    rintro rfl
    obtain ⟨o, _, _, ho, _⟩ := I.I.F.ns
    rw [hC] at ho; cases ho
  refine wpAny_assign_Name (wpAny_storeName_local hy I'.I.F.ns (fun h₂ hn₂ hs₂ => ?_) hp)
  have I₂ : InC s₀ env.locals cs _ cm { s' with heap := h₂, toks := s'.toks + 1 } := I'.setL hn₂ hs₂
  have hnC : h₂.Ns C m' := hn.at' fun o e => hs₂.extBut C o hCL e
  refine ⟨m', hnC, fun h₃ hs₃ => ?_⟩
  have noC : ∀ b o, s.heap.get? b = some o → b ≠ C := fun b o e h => by rw [h, hC] at e; cases e
  have keep3 : ∀ b o, b ≠ C → h₂.get? b = some o → h₃.get? b = some o := fun b o hb e => hs₃.extBut b o hb e
  have I₃ : InC s₀ env.locals cs (fun z => if z = y then some (Value.ref D) else m z) cm { s' with heap := h₃, toks := s'.toks + 1 } := by
    refine ⟨⟨⟨I₂.I.F.ns.at' fun o e => keep3 _ o (Ne.symm hCL) e, fun b o e => keep3 b o (noC b o (I.I.F.keep b o e)) (I₂.I.F.keep b o e), I₂.I.F.above⟩, I₂.I.os, I₂.I.gens⟩, ⟨fun z d e => ?_, I₂.X.apart, I₂.X.above⟩⟩
    obtain ⟨o, ho, hd⟩ := I₂.X.cell z d e
    obtain ⟨o1, ho1, _⟩ := I.X.cell z d e
    exact ⟨o, keep3 d o (noC d o1 ho1) ho, hd⟩
  refine k (.ref D) _ I₃ ?_ ?_
  · intro b o hb e
    have hbL : b ≠ env.locals := fun h => hb (h ▸ List.mem_cons_self ..)
    exact keep3 b o (noC b o e) (hs₂.extBut b o hbL (e'.grow b o e))
  · exact VList.firm firm _ _ _ ((GrowS.ofNs I'.I.F.ns hs₂).trans (GrowS.ofNs hnC hs₃)) (hv _ fun b o _ e => e)
end
end Mine

namespace Mine

def btab : List (String × Value) := [("int", .type "int"), ("abs", .builtin "abs"), ("divmod", .builtin "divmod"), ("range", .type "range"), ("len", .builtin "len"), ("min", .builtin "min"), ("sum", .builtin "sum"), ("str", .type "str"), ("zip", .type "zip"), ("type", .type "type")]
structure Gl (mg mb : Str → Option Value) (h : Heap) : Prop where
  B : Bi mg mb h
  f : ∀ i ∈ [1, 3, 5, 7, 8, 9], ∃ a, mg (nameOf (fnAt i)) = some (.ref a) ∧ Fn i h a
  c : ∃ t, mg (Str.ofString "CHAR_MAX") = some (.int 127 t)
  b : ∀ p ∈ btab, mg (Str.ofString p.1) = none ∧ mb (Str.ofString p.1) = some p.2
theorem Gl.keeps {mg mb : Str → Option Value} {h h' : Heap} (x : Gl mg mb h) (g : Grow h h') : Gl mg mb h' := ⟨x.B.keeps g, fun i hi => let ⟨a, e, f⟩ := x.f i hi; ⟨a, e, f.keeps g⟩, x.c, x.b⟩

/-- the four numbers -/
def bases : List Int := [11259375, 5592405, 65535, 4096]
def padded (ns : List Int) : List Int := ns.take 4 ++ List.replicate (4 - (ns.take 4).length) 0
def numbersOf (ns : List Int) : List Int := (List.range 4).map fun i => (bases.getD i 0 + (padded ns).getD i 0) % 16 ^ 8

abbrev csL (L : Addr) : List (Str × Addr) := cellsFrom (L + 1) (scopeOf (fnAt 10)).names []
theorem csL_u (L : Addr) : ∀ p ∈ csL L, (csL L).lookup p.1 = some p.2 := by
  intro p hp
  have : csL L = [(Str.ofString "ends", L + 1 + 6), (Str.ofString "sizes", L + 1 + 5), (Str.ofString "ruler", L + 1 + 4), (Str.ofString "words", L + 1 + 3), (Str.ofString "two", L + 1 + 2), (Str.ofString "one", L + 1 + 1), (Str.ofString "x", L + 1)] := by rfl
  rw [this] at hp ⊢
  simp only [List.mem_cons, List.not_mem_nil, or_false] at hp
  rcases hp with rfl | rfl | rfl | rfl | rfl | rfl | rfl <;> rfl

theorem nth_int {l : List Int} {i : Nat} {v : Value} {h : Heap} (x : Nth (l.map VInt) i v h) : ∃ t, v = .int (l.getD i 0) t := by
  obtain ⟨r, hr, rv⟩ := x
  rw [List.getElem?_map] at hr
  cases e : l[i]? with
  | none => rw [e] at hr; cases hr
  | some n =>
    rw [e] at hr; cases hr
    obtain ⟨t, rfl⟩ := rv
    exact ⟨t, by simp [List.getD, e]⟩

section
variable {w : World} {A : Around} {mg mb : Str → Option Value}

theorem co_args4 {env : Env} {h₀ : Heap} {e f d c : Expr} {pos : Pos} {R S T U : Rl} (m : Mono R) (n : Mono S) (o : Mono T) (p : Mono U) (a : Co w A (eval e env) h₀ R) (b : Co w A (eval f env) h₀ S) (x : Co w A (eval d env) h₀ T) (y : Co w A (eval c env) h₀ U) (hs : starEach [e, f, d, c] env = [(false, eval e env), (false, eval f env), (false, eval d env), (false, eval c env)] := by rfl) :
    Co w A (spliced (backTo pos (starEach [e, f, d, c] env))) h₀ (Args [R, S, T, U]) := by
  rw [hs]; exact co_sp1 m a (co_sp1 n b (co_sp1 o x (co_sp1 p y co_sp0)))
theorem co_args5 {env : Env} {h₀ : Heap} {e f d c g : Expr} {pos : Pos} {R S T U V : Rl} (m : Mono R) (n : Mono S) (o : Mono T) (p : Mono U) (q : Mono V) (a : Co w A (eval e env) h₀ R) (b : Co w A (eval f env) h₀ S) (x : Co w A (eval d env) h₀ T) (y : Co w A (eval c env) h₀ U) (z : Co w A (eval g env) h₀ V) (hs : starEach [e, f, d, c, g] env = [(false, eval e env), (false, eval f env), (false, eval d env), (false, eval c env), (false, eval g env)] := by rfl) :
    Co w A (spliced (backTo pos (starEach [e, f, d, c, g] env))) h₀ (Args [R, S, T, U, V]) := by
  rw [hs]; exact co_sp1 m a (co_sp1 n b (co_sp1 o x (co_sp1 p y (co_sp1 q z co_sp0))))

theorem law_numbers {s₀ s : Shared} {L a : Addr} {cd : Value} {m cm : Str → Option Value} {ns : List Int} {v : Value} {Q : Flow → Shared → Prop} {E : Value → Shared → Prop} (hh : A.handled = none) (I : InC s₀ L (csL L) m cm s) (G : Gl mg mb s.heap) (hm : m (Str.ofString "script") = some v) (hv : VListW (ns.map VInt) v s.heap) (hn : ns.length ≤ 100)
    (k : ∀ u s', InC s₀ L (csL L) (fun z => if z = Str.ofString "numbers" then some u else m z) cm s' → KeepBut (ownOf L (csL L)) s.heap s'.heap → VInts (numbersOf ns) u s'.heap → Q .next s') :
    wpAny (Md w) A (exec ((bodyOf (fnAt 10)).getD 0 (.Pass ⟨0, 0, 0, 0⟩)) (envG 10 L a cd)) Q E s := by
  have gZ := G.b ("zip", .type "zip") (by simp [btab])
  have gL := G.b ("len", .builtin "len") (by simp [btab])
  have hlen : (padded ns).length = 4 := by
    simp only [padded, List.length_append, List.length_replicate, List.length_take]; omega
  refine st_compU (env := envG 10 L a cd) (cs := csL L) (n := 4) (cl := []) (RI := fun hb => VZip hb (bases.map VInt) ((padded ns).map VInt)) (P := Pair2 (bases.map VInt) ((padded ns).map VInt)) (p := fun _ => true) (F := fun i => VInt ((bases.getD i 0 + (padded ns).getD i 0) % 16 ^ 8))
    (B := fun i m => ∃ t u, m (Str.ofString "x") = some (.int (bases.getD i 0) t) ∧ m (Str.ofString "y") = some (.int ((padded ns).getD i 0) u)) I (by rfl) rfl rfl (by with_unfolding_all rfl) (by decide) rfl (by decide) (by decide) ?_ (fun x h g r => iters_zip (rs := bases.map VInt) hh (Imm.ints _) (Imm.ints _) (by simp [bases, hlen]) r)
    (fun C => asg_pair hh rfl rfl rfl fun i u v h m hu hv => ?_) (fun _ _ _ _ _ _ _ _ => co_tests0) (fun i C m' h hi _ g hn' ⟨t, u, e1, e2⟩ => ?_) ?_ (fun u s' I' kb r => k u s' I' kb ?_)
  · have sv : ∀ {pos : Pos}, Co w A (eval (.Name (Str.ofString "script") pos) (envG 10 L a cd)) s.heap (VListW (ns.map VInt)) := co_nameR (sees_local rfl rfl I.I.F.ns hm) (VListW.mono (mono_ints ns)) hv
    have sl : ∀ {p1 p2 p3 p4 : Pos}, Co w A (eval (.Subscript (.Name (Str.ofString "script") p1) (.Slice none (some (.Constant (.int 4) 0 p2)) none p3) p4) (envG 10 L a cd)) s.heap (VInts (ns.take 4)) := by
      intro p1 p2 p3 p4
      have := co_uptoW (n := 4) (p := p3) (pos := p4) (mono_ints ns) (by rw [List.length_map]; omega) (sv (pos := p1)) (co_int (k := 0) (pos := p2))
      rw [← List.map_take] at this
      exact this
    refine co_callT (sees_builtin rfl rfl G.B.g gZ.1 G.B.b gZ.2) (co_args2 (VInts.mono bases) (VInts.mono (padded ns)) ?_ ?_) (call_zip (mono_ints _) (mono_ints _))
    · refine co_list (rs := bases.map VInt) (by decide) ?_ (mono_ints _)
      exact co_args4 (VInt.mono _) (VInt.mono _) (VInt.mono _) (VInt.mono _) co_int co_int co_int co_int
    · have hle : (ns.take 4).length ≤ 4 := by rw [List.length_take]; omega
      have key : (padded ns).map VInt = (ns.take 4).map VInt ++ (List.replicate ((4 : Int) - ((ns.take 4).map VInt).length).toNat [VInt 0]).flatten := by
        rw [padded, List.map_append, List.length_map]
        congr 1
        rw [show ((4 : Int) - ((ns.take 4).length : Int)).toNat = 4 - (ns.take 4).length by omega, List.map_replicate]
        generalize 4 - (ns.take 4).length = q
        induction q with
        | zero => rfl
        | succ q ih => rw [List.replicate_succ, List.replicate_succ, List.flatten_cons, ← ih]; rfl
      have m0 : ∀ r ∈ [VInt 0], Mono r := fun r hr => by rw [List.mem_singleton.mp hr]; exact VInt.mono _
      show Co w A _ s.heap (VList ((padded ns).map VInt))
      rw [key]
      refine co_listAdd (mono_ints _) ?_ (by rw [List.length_map]; omega) ?_ sl ?_
      · intro r hr
        obtain ⟨l, hl, hr⟩ := List.mem_flatten.mp hr
        rw [(List.mem_replicate.mp hl).2] at hr
        exact m0 r hr
      · simp; omega
      · refine co_listMulI m0 (by simp) (by rw [List.length_map]; omega) (by rw [List.length_map]; omega) (co_list (rs := [VInt 0]) (by simp) (co_args1 (VInt.mono _) co_int) m0) ?_
        refine co_sub co_int ?_
        exact co_callB (sees_builtin rfl rfl G.B.g gL.1 G.B.b gL.2) (co_args1 (VInts.mono (ns.take 4)) sl) (call_len (by rw [List.length_map]; omega) (mono_ints _))
  · obtain ⟨t, rfl⟩ := nth_int hu
    obtain ⟨t', rfl⟩ := nth_int hv
    exact ⟨t, t', rfl, rfl⟩
  · refine Co.stb ?_ (imm_int _)
    refine co_mod (by decide) (co_add (co_nameI (sees_local rfl rfl hn' e1)) (co_nameI (sees_local rfl rfl hn' e2))) ?_
    exact co_pow (x := 16) (y := 8) (by decide) (by decide) (by decide) co_int co_int
  · intro r hr
    obtain ⟨i, _, rfl⟩ := List.mem_map.mp hr
    exact VInt.firm _
  · rw [map_ints (n := 4) (fun i => (bases.getD i 0 + (padded ns).getD i 0) % 16 ^ 8)] at r
    exact r
end
end Mine

namespace Mine

def PB : List Stmt := forB ((bodyOf (fnAt 10)).getD 1 (.Pass ⟨0, 0, 0, 0⟩))
def RB : List Stmt := forB (PB.getD 2 (.Pass ⟨0, 0, 0, 0⟩))
def sizesOf (r : List Int) : List Int := toldN (plainOf r) 10
def endsOf (S : List Int) : List Int := (List.range S.length).map fun k => (S.take (k + 1)).sum
def cutOf (r : List Int) (x : Str) : List Str := cutL (yl 0 r 11).1 x
def pieceAt (S : List Int) (i : Nat) (x : Str) : Str := Txt.slice x (some (10 - (endsOf S).getD i 0)) (some (10 - (endsOf S).getD i 0 + S.getD i 0))
def tellAt (S : List Int) (i : Nat) (x : Nat) : Str := textOf (apL (x / 16 ^ ((endsOf S).getD i 0 - S.getD i 0).toNat % 16 ^ (S.getD i 0).toNat)).toArray
def collAt (S : List Int) (i : Nat) (x y : Str) : Int := coll (Txt.slice x (some (10 - (endsOf S).getD i 0)) none) (Txt.slice y (some (10 - (endsOf S).getD i 0)) none)
def carryAt (S : List Int) (i : Nat) (x y : Nat) : Int := if 16 ^ ((endsOf S).getD i 0).toNat ≤ x % 16 ^ ((endsOf S).getD i 0).toNat + y % 16 ^ ((endsOf S).getD i 0).toNat then -1 else if y % 16 ^ ((endsOf S).getD i 0).toNat = 0 then 0 else 1
theorem endsOf_len (S : List Int) : (endsOf S).length = S.length := by simp [endsOf]

section
variable {w : World} {A : Around} {mg mb : Str → Option Value}

theorem nth_str {l : List Str} {i : Nat} {v : Value} {h : Heap} (x : Nth (l.map VStr) i v h) : ∃ t, v = .str (l.getD i Str.empty) t := by
  obtain ⟨r, hr, rv⟩ := x
  rw [List.getElem?_map] at hr
  cases e : l[i]? with
  | none => rw [e] at hr; cases hr
  | some n =>
    rw [e] at hr; cases hr
    obtain ⟨t, rfl⟩ := rv
    exact ⟨t, by simp [List.getD, e]⟩
theorem iters_strs {target : Expr} {hb h : Heap} {x : Value} {l : List Str} (hh : A.handled = none) (g : Grow hb h) (r : VStrs l x h) : Iters w A target hb x h l.length (fun i v _ => ∃ t, v = .str (l.getD i Str.empty) t) := by
  have := (iters_list (w := w) (A := A) (target := target) hh (Imm.strs l) g r).imp fun i v h y => nth_str y
  rw [List.length_map] at this; exact this
theorem iters_ints {target : Expr} {hb h : Heap} {x : Value} {l : List Int} (hh : A.handled = none) (g : Grow hb h) (r : VInts l x h) : Iters w A target hb x h l.length (fun i v _ => ∃ t, v = .int (l.getD i 0) t) := by
  have := (iters_list (w := w) (A := A) (target := target) hh (Imm.ints l) g r).imp fun i v h y => nth_int y
  rw [List.length_map] at this; exact this
theorem filt {α : Type} (l : List α) : (l.filter fun _ => true) = l := List.filter_eq_self.mpr fun _ _ => rfl
theorem range_getD {α β : Type} (l : List α) (d : α) (f : α → β) : (List.range l.length).map (fun i => f (l.getD i d)) = l.map f := by
  apply List.ext_getElem?
  intro i
  rw [List.getElem?_map, List.getElem?_map]
  by_cases h : i < l.length
  · rw [List.getElem?_range h]
    simp [List.getD, h]
  · rw [List.getElem?_eq_none (by simp; omega), List.getElem?_eq_none (by omega)]; rfl

/-- sizes, rows = ... -/
theorem ruler0 {s₀ s : Shared} {L a : Addr} {cd : Value} {m cm : Str → Option Value} {W : List Str} {r : List Int} {vw vr : Value} {Q : Flow → Shared → Prop} {E : Value → Shared → Prop} (hh : A.handled = none) (hroom : A.depth + 1 < recursionLimit) (I : InC s₀ L (csL L) m cm s) (G : Gl mg mb s.heap)
    (cw : cm (Str.ofString "words") = some vw) (cr : cm (Str.ofString "ruler") = some vr) (hw : VStrs W vw s.heap) (hr : VInts r vr s.heap) (ok : RulerOk r) (h0 : r.head? ≠ some 0) (hy : (yl 0 r 11).1.length ≤ 100) (hW : W.length ≤ 10) (hWl : ∀ x ∈ W, x.length ≤ 100 ∧ Enough (yl 0 r 11).1 (yl 0 r 11).2 x)
    (k : ∀ vs vo s', InC s₀ L (csL L) (fun z => if z = Str.ofString "rows" then some vo else m z) (fun z => if z = Str.ofString "sizes" then some vs else cm z) s' → KeepBut (ownOf L (csL L)) s.heap s'.heap → VInts (sizesOf r) vs s'.heap → VRows (W.map (cutOf r)) vo s'.heap → Q .next s') :
    wpAny (Md w) A (exec (RB.getD 0 (.Pass ⟨0, 0, 0, 0⟩)) (envG 10 L a cd)) Q E s := by
  have cellW : s.heap.IsCell (L + 1 + 3) (some vw) := cw ▸ I.X.cell (Str.ofString "words") (L + 1 + 3) rfl
  have cellR : s.heap.IsCell (L + 1 + 4) (some vr) := cr ▸ I.X.cell (Str.ofString "ruler") (L + 1 + 4) rfl
  obtain ⟨a8, g8, f8⟩ := G.f 8 (by simp)
  obtain ⟨a9, g9, f9⟩ := G.f 9 (by simp)
  obtain ⟨a3, g3, f3⟩ := G.f 3 (by simp)
  obtain ⟨tc, gC⟩ := G.c
  have gR := G.b ("range", .type "range") (by simp [btab])
  have gL := G.b ("len", .builtin "len") (by simp [btab])
  have gM := G.b ("min", .builtin "min") (by simp [btab])
  have gS := G.b ("sum", .builtin "sum") (by simp [btab])
  refine Assign_Tuple (env := envG 10 L a cd) (wpAny_Tuple (Co.use (co_args2 (VInts.mono (sizesOf r)) (VRows.mono (W.map (cutOf r))) ?_ ?_) (Grow.refl _) fun vs s₁ r₁ e₁ => ?_))
  · obtain ⟨o8, _, _, _, ho8, hd8, _⟩ := f8.at'
    refine co_callF (sees_global rfl rfl G.B.g g8) ho8 hd8 (co_args1 (VInts.mono r) (co_nameR (sees_cell rfl rfl rfl cellR) (VInts.mono r) hr)) ?_
    exact co_sizes f8 G.B (by omega) hh gR.1 gR.2 gL.1 gL.2 gM.1 gM.2 gS.1 gS.2 ok
  · refine Co.post (R := VNew s.heap (((List.range W.length).filter fun _ => true).map fun i => VStrs (cutOf r (W.getD i Str.empty)))) ?_ fun _ _ _ x => ?_
    · refine co_comp (cl := [(Str.ofString "ruler", L + 1 + 4)]) (RI := fun _ => VStrs W) (P := fun i v _ => ∃ t, v = .str (W.getD i Str.empty) t) (B := fun i m => ∃ t, m (Str.ofString "word") = some (.str (W.getD i Str.empty) t))
        (by with_unfolding_all rfl) (by decide) rfl (by decide) (by omega) (fun hb gb => co_nameR (sees_cell rfl rfl rfl (cellW.keeps gb)) (VStrs.mono W) (VStrs.mono _ _ _ _ gb hw)) (fun hb x h _ g r => iters_strs hh g r) (fun C => asg_name rfl rfl fun i v h m ⟨t, x⟩ => ⟨t, by simp [x]⟩)
        (fun _ _ _ _ _ _ _ _ => co_tests0) (fun i C m' h hi _ g hn ⟨t, hm⟩ => ?_)
      have hmem : W.getD i Str.empty ∈ W := by
        have : W.getD i Str.empty = W[i] := by simp [List.getD, hi]
        rw [this]; exact List.getElem_mem hi
      obtain ⟨o9, _, _, _, ho9, hd9, _⟩ := f9.at'
      refine Co.post (R := VNew h ((cutOf r (W.getD i Str.empty)).map VStr)) ?_ fun _ _ _ x => VNew.stb (Imm.strs _) x
      have G' := G.keeps g
      refine co_callF (sees_global rfl rfl G'.B.g g9) (g _ _ ho9) hd9 (co_args2 (VStr.mono (W.getD i Str.empty)) (VInts.mono r) (co_nameS (sees_local rfl rfl hn hm)) (co_nameR (sees_cell rfl rfl rfl (cellR.keeps g)) (VInts.mono r) (VInts.mono _ _ _ _ g hr))) ?_
      intro vs h' g' pv
      refine (co_cut (f9.keeps g) (f3.keeps g) G'.B hroom hh g3 gC gL.1 gL.2 (hWl _ hmem).1 h0 hy (hWl _ hmem).2 vs h' g' pv).post fun v h'' _ x => ?_
      obtain ⟨q, iq, e, l1, p1, n1⟩ := x
      refine ⟨q, iq, e, l1, p1, ?_⟩
      cases eq : h.get? q with
      | none => rfl
      | some o => rw [g' _ _ eq] at n1; cases n1
    · have := x.list
      rw [filt, range_getD W Str.empty (fun y => VStrs (cutOf r y))] at this
      show VList (List.map VStrs (List.map (cutOf r) W)) _ _
      rw [List.map_map]
      exact this
  match vs, r₁ with
  | [v1, v2], ⟨r1, r2, _⟩ =>
    refine ⟨by rw [sizeLine_eq]; show 2 ≤ _; omega, ?_⟩
    have I₁ := I.ext e₁
    generalize hH : s₁.heap.push { cls := .type "tuple", data := .seq [v1, v2].toArray } = H
    have gH : Grow s₁.heap H := hH ▸ Grow.push _ _
    have ht : H.IsTuple s₁.heap.objs.size #[v1, v2] := by
      subst hH
      exact ⟨_, Heap.get?_push_size _ rfl, rfl, _, rfl⟩
    refine asg_tup (s := { s₁ with heap := H }) hh ht fun s₂ e₂ => ?_
    have I₂ := (I₁.ext (Ext.heap' gH)).ext e₂
    refine sto_cell (env := envG 10 L a cd) I₂ (csL_u L) rfl rfl rfl rfl fun s₃ I₃ k₃ => ?_
    refine sto_loc (env := envG 10 L a cd) I₃ rfl rfl fun s₄ I₄ k₄ => ?_
    have gs : GrowS s₂.heap s₄.heap := (k₃.s (I₂.soft (csL_u L))).trans (k₄.s (I₃.soft (csL_u L)))
    have g12 : Grow s₁.heap s₂.heap := gH.trans e₂.grow
    exact k v1 v2 s₄ I₄ ((((e₁.grow.trans g12).but _).trans k₃).trans k₄) (VInts.firm _ _ _ _ gs (VInts.mono _ _ _ _ g12 r1)) (VRows.firm _ _ _ _ gs (VRows.mono _ _ _ _ g12 r2))
  | [], r => exact r.elim
  | [_], r => exact r.2.elim
  | _ :: _ :: _ :: _, r => exact r.2.2.elim
end
end Mine

namespace Mine
section
variable {w : World} {A : Around} {mg mb : Str → Option Value}

/-- ends = ... -/
theorem ruler1 {s₀ s : Shared} {L a : Addr} {cd : Value} {m cm : Str → Option Value} {S : List Int} {vs : Value} {Q : Flow → Shared → Prop} {E : Value → Shared → Prop} (hh : A.handled = none) (I : InC s₀ L (csL L) m cm s) (G : Gl mg mb s.heap)
    (cs : cm (Str.ofString "sizes") = some vs) (hs : VInts S vs s.heap) (hS : S.length ≤ 10)
    (k : ∀ v s', InC s₀ L (csL L) m (fun z => if z = Str.ofString "ends" then some v else cm z) s' → KeepBut (ownOf L (csL L)) s.heap s'.heap → VInts (endsOf S) v s'.heap → Q .next s') :
    wpAny (Md w) A (exec (RB.getD 1 (.Pass ⟨0, 0, 0, 0⟩)) (envG 10 L a cd)) Q E s := by
  have cellS : s.heap.IsCell (L + 1 + 5) (some vs) := cs ▸ I.X.cell (Str.ofString "sizes") (L + 1 + 5) rfl
  have gR := G.b ("range", .type "range") (by simp [btab])
  have gL := G.b ("len", .builtin "len") (by simp [btab])
  have gS := G.b ("sum", .builtin "sum") (by simp [btab])
  refine st_cellC (env := envG 10 L a cd) (R := VInts (endsOf S)) I (csL_u L) ?_ rfl rfl rfl rfl fun v s' I' kb r => k v s' I' kb (r _ (VInts.firm _) fun _ x => x)
  refine Co.post (R := VNew s.heap (((List.range S.length).filter fun _ => true).map fun i => VInt ((S.take (i + 1)).sum))) ?_ fun _ _ _ x => ?_
  · refine co_comp (cl := [(Str.ofString "sizes", L + 1 + 5)]) (RI := fun _ => VRange 0 S.length 1) (P := fun i v _ => ∃ t, v = .int (0 + i * 1) t) (B := fun i m => ∃ t, m (Str.ofString "k") = some (.int (0 + i * 1) t))
      (by with_unfolding_all rfl) (by decide) rfl (by decide) (by omega) (fun hb gb => ?_) (fun hb x h _ g r => iters_range (n := S.length) hh ?_ ?_ g r) (fun C => asg_name rfl rfl fun i v h m ⟨t, x⟩ => ⟨t, by simp [x]⟩)
      (fun _ _ _ _ _ _ _ _ => co_tests0) (fun i C m' h hi _ g hn ⟨t, hm⟩ => ?_)
    · have G' := G.keeps gb
      refine co_callT (sees_builtin rfl rfl G'.B.g gR.1 G'.B.b gR.2) (co_args1 (VInt.mono S.length) ?_) call_range1
      have := call_len (w := w) (A := A) (h₀ := hb) (rs := S.map VInt) (by rw [List.length_map]; omega) (mono_ints S)
      rw [List.length_map] at this
      exact co_callB (sees_builtin rfl rfl G'.B.g gL.1 G'.B.b gL.2) (co_args1 (VInts.mono S) (co_nameR (sees_cell rfl rfl rfl (cellS.keeps gb)) (VInts.mono S) (VInts.mono _ _ _ _ gb hs))) this
    · exact small_one (by omega) (by omega) (by omega) (by omega)
    · unfold Builtin.Range.rangeSize; rw [if_pos (by decide)]; split <;> omega
    · refine Co.stb ?_ (imm_int _)
      have G' := G.keeps g
      refine co_callB (sees_builtin rfl rfl G'.B.g gS.1 G'.B.b gS.2) (co_args1 (VInts.mono (S.take (i + 1))) ?_) (call_sum hh)
      show Co _ _ _ _ (VList ((S.take (i + 1)).map VInt))
      rw [List.map_take]
      refine co_upto (n := i + 1) (mono_ints S) (by rw [List.length_map]; omega) (co_nameR (sees_cell rfl rfl rfl (cellS.keeps g)) (VInts.mono S) (VInts.mono _ _ _ _ g hs)) ?_
      rw [Int.mul_one, Int.zero_add] at hm
      exact co_add (co_nameI (sees_local rfl rfl hn hm)) co_int
  · have := x.list
    rw [map_ints (n := S.length) (fun i => (S.take (i + 1)).sum)] at this
    exact this

/-- a pair of ints out of zip(sizes, ends) -/
def PairI (S E : List Int) : Nat → Value → Heap → Prop := Pair2 (S.map VInt) (E.map VInt)
theorem asg_pairI {env : Env} {x y : Str} {px py tp : Pos} {kk : Nat} {S E : List Int} (hh : A.handled = none) (hx : env.kindOf x = some .local) (hy : env.kindOf y = some .local) (hp : (env.scope.kind == .class || (env.scope.kind == .module && env.locals != env.globals)) = false) (hne : x ≠ y) :
    Assigns w A (.Tuple [.Name x px, .Name y py] kk tp) env (PairI S E) (fun i m => ∃ t u, m x = some (.int (S.getD i 0) t) ∧ m y = some (.int (E.getD i 0) u)) :=
  asg_pair hh hx hy hp fun i u v h m hu hv => by
    obtain ⟨t, rfl⟩ := nth_int hu
    obtain ⟨t', rfl⟩ := nth_int hv
    exact ⟨t, t', by simp [hne], by simp⟩
theorem iters_zipI {elts : List Expr} {k : Nat} {pos : Pos} {hb h : Heap} {v : Value} {S E : List Int} (hh : A.handled = none) (hlen : E.length = S.length) (r : VZip hb (S.map VInt) (E.map VInt) v h) : Iters w A (.Tuple elts k pos) hb v h S.length (PairI S E) := by
  have := iters_zip (w := w) (A := A) (elts := elts) (k := k) (pos := pos) hh (Imm.ints S) (Imm.ints E) (by simp [hlen]) r
  rw [List.length_map] at this; exact this

/-- if rows != ... -/
theorem ruler2 {s₀ s : Shared} {L a : Addr} {cd : Value} {m cm : Str → Option Value} {S : List Int} {W : List Str} {rows : List (List Str)} {vs ve vw vo : Value} {Q : Flow → Shared → Prop} {E : Value → Shared → Prop} (hh : A.handled = none) (hu : A.units + 64 < cLine) (I : InC s₀ L (csL L) m cm s) (G : Gl mg mb s.heap)
    (cs : cm (Str.ofString "sizes") = some vs) (ce : cm (Str.ofString "ends") = some ve) (cw : cm (Str.ofString "words") = some vw) (mo : m (Str.ofString "rows") = some vo) (hs : VInts S vs s.heap) (he : VInts (endsOf S) ve s.heap) (hw : VStrs W vw s.heap) (ho : VRows rows vo s.heap)
    (hS : S.length ≤ 10) (hW : W.length ≤ 10) (hWl : ∀ x ∈ W, x.length ≤ 100) (ok : ∀ r ∈ rows, ∀ x ∈ r, PyData.strOk x = true) (law : rows = W.map fun x => (List.range S.length).map fun i => pieceAt S i x) (k : ∀ s', Ext s s' → Q .next s') :
    wpAny (Md w) A (exec (RB.getD 2 (.Pass ⟨0, 0, 0, 0⟩)) (envG 10 L a cd)) Q E s := by
  have cellS : s.heap.IsCell (L + 1 + 5) (some vs) := cs ▸ I.X.cell (Str.ofString "sizes") (L + 1 + 5) rfl
  have cellE : s.heap.IsCell (L + 1 + 6) (some ve) := ce ▸ I.X.cell (Str.ofString "ends") (L + 1 + 6) rfl
  have cellW : s.heap.IsCell (L + 1 + 3) (some vw) := cw ▸ I.X.cell (Str.ofString "words") (L + 1 + 3) rfl
  have gZ := G.b ("zip", .type "zip") (by simp [btab])
  refine wpAny_If (env := envG 10 L a cd) (Co.use (R := TBool false) (h₀ := s.heap) ?_ (Grow.refl _) fun b s' r e => ?_)
  · refine cot_cmp (R2 := VRows rows) (VRows.mono rows) (co_nameR (sees_local rfl rfl I.I.F.ns mo) (VRows.mono _) ho) ?_ (ne_rows hu ok)
    refine Co.post (R := VNew s.heap (((List.range W.length).filter fun _ => true).map fun j => VStrs ((List.range S.length).map fun i => pieceAt S i (W.getD j Str.empty)))) ?_ fun _ _ _ x => ?_
    · refine co_compX (x := Str.ofString "word") (cl := [(Str.ofString "sizes", L + 1 + 5), (Str.ofString "ends", L + 1 + 6)]) (RI := fun _ => VStrs W) (P := fun i v _ => ∃ t, v = .str (W.getD i Str.empty) t) (PV := fun i v => ∃ t, v = .str (W.getD i Str.empty) t)
        (by with_unfolding_all rfl) (fun k => by with_unfolding_all rfl) (fun h => by with_unfolding_all rfl) rfl (by with_unfolding_all rfl) (by decide) (by omega) (fun hb gb => co_nameR (sees_cell rfl rfl rfl (cellW.keeps gb)) (VStrs.mono W) (VStrs.mono _ _ _ _ gb hw)) (fun hb x h _ g r => iters_strs hh g r) (fun i v h x => x) (fun j C K v h hj g hK ⟨tw, hv⟩ => ?_)
      subst hv
      have hwl : (W.getD j Str.empty).length ≤ 100 := by
        have : W.getD j Str.empty = W[j] := by simp [List.getD, hj]
        rw [this]; exact hWl _ (List.getElem_mem hj)
      refine Co.post (R := VNew h (((List.range S.length).filter fun _ => true).map fun i => VStr (pieceAt S i (W.getD j Str.empty)))) ?_ fun _ _ _ x => ?_
      · refine co_comp (cl := [(Str.ofString "word", K)]) (RI := fun hb => VZip hb (S.map VInt) ((endsOf S).map VInt)) (P := PairI S (endsOf S)) (B := fun i m => ∃ t u, m (Str.ofString "size") = some (.int (S.getD i 0) t) ∧ m (Str.ofString "end") = some (.int ((endsOf S).getD i 0) u))
          (by with_unfolding_all rfl) (by decide) rfl (by decide) (by omega) (fun hb gb => ?_) (fun hb x h' _ g' r => iters_zipI hh (endsOf_len S) r) (fun C' => asg_pairI hh rfl rfl rfl (by decide))
          (fun _ _ _ _ _ _ _ _ => co_tests0) (fun i C' m' h' hi _ g' hn ⟨t, u, e1, e2⟩ => ?_)
        · have G' := (G.keeps g).keeps gb
          refine co_callT (sees_builtin rfl rfl G'.B.g gZ.1 G'.B.b gZ.2) (co_args2 (VInts.mono S) (VInts.mono (endsOf S)) ?_ ?_) (call_zip (mono_ints _) (mono_ints _))
          · exact co_nameR (sees_cell rfl rfl rfl (cellS.keeps (g.trans gb))) (VInts.mono _) (VInts.mono _ _ _ _ (g.trans gb) hs)
          · exact co_nameR (sees_cell rfl rfl rfl (cellE.keeps (g.trans gb))) (VInts.mono _) (VInts.mono _ _ _ _ (g.trans gb) he)
        · refine Co.stb ?_ (imm_str _)
          exact co_strSlice (by omega) (co_nameS (sees_cell rfl rfl rfl (hK.keeps g'))) (co_part1 (co_sub co_int (co_nameI (sees_local rfl rfl hn e2)))) (co_part1 (co_add (co_sub co_int (co_nameI (sees_local rfl rfl hn e2))) (co_nameI (sees_local rfl rfl hn e1))))
      · rw [map_strs (n := S.length) (fun i => pieceAt S i (W.getD j Str.empty))] at x
        exact VNew.stb (Imm.strs _) x
    · have := x.list
      rw [filt, range_getD W Str.empty (fun y => VStrs ((List.range S.length).map fun i => pieceAt S i y))] at this
      show VList (List.map VStrs rows) _ _
      rw [law, List.map_map]
      exact this
  · cases r
    rw [if_neg Bool.false_ne_true]
    exact wpAny_execs_nil (k s' e)
end
end Mine

namespace Mine

theorem InC.stab {s₀ a b : Shared} {L : Addr} {cs : List (Str × Addr)} {m cm : Str → Option Value} {hb : Heap} {X : Addr → Prop} (I : InC s₀ L cs m cm a) (hold : Grow s₀.heap hb) (hL : ∃ o, hb.get? L = some o) (hC : ∀ n c, cs.lookup n = some c → ∃ o, hb.get? c = some o) (hX : ∀ c, X c → hb.get? c = none)
    (hk : ∀ c o, ¬ X c → a.heap.get? c = some o → b.heap.get? c = some o) (ho : b.os = a.os) (hg : b.gens = a.gens) : InC s₀ L cs m cm b :=
  ⟨I.I.stab hold hL hX hk ho hg, ⟨fun n c e => let ⟨o, h1, h2⟩ := I.X.cell n c e; ⟨o, hk c o (fun x => by obtain ⟨o, e⟩ := hC n c e; rw [hX c x] at e; cases e) h1, h2⟩, I.X.apart, I.X.above⟩⟩
theorem InC.lives {s₀ s : Shared} {L : Addr} {cs : List (Str × Addr)} {m cm : Str → Option Value} (I : InC s₀ L cs m cm s) : (∃ o, s.heap.get? L = some o) ∧ ∀ n c, cs.lookup n = some c → ∃ o, s.heap.get? c = some o :=
  ⟨Ns.live I.I.F.ns, fun n c e => let ⟨o, h, _⟩ := I.X.cell n c e; ⟨o, h⟩⟩
theorem pw_is {h : Heap} : ∀ vs : List Value, Pw h (vs.map VIs) vs
  | [] => trivial
  | _ :: vs => ⟨rfl, pw_is vs⟩
theorem Imm.is (l : List Value) : Imm (l.map VIs) := fun r h => by obtain ⟨n, _, rfl⟩ := List.mem_map.mp h; exact fun _ _ _ r => r
theorem nth_is {l : List Value} {i : Nat} {v : Value} {h : Heap} (x : Nth (l.map VIs) i v h) : l[i]? = some v := by
  obtain ⟨r, hr, rv⟩ := x
  rw [List.getElem?_map] at hr
  cases e : l[i]? with
  | none => rw [e] at hr; cases hr
  | some n => rw [e] at hr; cases hr; cases rv; rfl

theorem hexL_lt : ∀ (n : Nat), ∀ d ∈ hexL n, d < 16 := by
  intro n
  induction n using Nat.strongRecOn with
  | ind n ih =>
    intro d hd
    by_cases h : n = 0
    · subst h; rw [hexL_zero] at hd; cases hd
    · rw [hexL_pos h, List.mem_append, List.mem_singleton] at hd
      rcases hd with hd | rfl
      · exact ih (n / 16) (by omega) d hd
      · exact Nat.mod_lt _ (by decide)
theorem letter_nat (d : Nat) (h : d < 16) : (letter d).toNat = 65 + d := by
  have : ∀ d ∈ List.range 16, (letter d).toNat = 65 + d := by decide
  exact this d (List.mem_range.mpr h)
theorem apL_lt {n : Nat} (c : UInt8) (hc : c ∈ (apL n).toArray.toList) : c.toNat < 128 := by
  rw [apL] at hc
  obtain ⟨d, hd, rfl⟩ := List.mem_map.mp hc
  have := hexL_lt n d hd
  rw [letter_nat d this]; omega
theorem nth_nat {l : List Nat} {i : Nat} {v : Value} {h : Heap} (x : Nth (l.map fun n : Nat => VInt n) i v h) : ∃ t, v = .int (l.getD i 0 : Nat) t := by
  obtain ⟨r, hr, rv⟩ := x
  rw [List.getElem?_map] at hr
  cases e : l[i]? with
  | none => rw [e] at hr; cases hr
  | some n =>
    rw [e] at hr; cases hr
    obtain ⟨t, rfl⟩ := rv
    exact ⟨t, by simp [List.getD, e]⟩

section
variable {w : World} {A : Around} {mg mb : Str → Option Value}

/-- for x, row in zip(...) -/
theorem ruler3 {s₀ s : Shared} {L a : Addr} {cd : Value} {m cm : Str → Option Value} {S : List Int} {rows : List (List Str)} {vs ve vo : Value} {x1 x2 : Nat} {t1 t2 : Tok} {Q : Flow → Shared → Prop} {E : Value → Shared → Prop} (hh : A.handled = none) (hu : A.units + 64 < cLine) (hroom : A.depth + 1 < recursionLimit) (I : InC s₀ L (csL L) m cm s) (G : Gl mg mb s₀.heap)
    (c1 : cm (Str.ofString "one") = some (.int x1 t1)) (c2 : cm (Str.ofString "two") = some (.int x2 t2)) (cs : cm (Str.ofString "sizes") = some vs) (ce : cm (Str.ofString "ends") = some ve) (mo : m (Str.ofString "rows") = some vo) (hs : VInts S vs s.heap) (he : VInts (endsOf S) ve s.heap) (ho : VRows rows vo s.heap)
    (hS : S.length ≤ 10) (hSE : ∀ i, i < S.length → 0 ≤ S.getD i 0 ∧ S.getD i 0 ≤ (endsOf S).getD i 0 ∧ (endsOf S).getD i 0 ≤ 10) (h3 : rows.length = 3) (hrl : ∀ r ∈ rows, r.length ≤ 100 ∧ ∀ x ∈ r, x.length ≤ 100)
    (ok : ∀ r ∈ rows, ∀ x ∈ r, PyData.strOk (Txt.lstripChars x (Str.ofString "A")) = true)
    (law : ∀ j r, rows[j]? = some r → (List.range S.length).map (fun i => tellAt S i ([x1, x2, x1 + x2].getD j 0)) = r.map fun x => Txt.lstripChars x (Str.ofString "A"))
    (k : ∀ s' m' cm', InC s₀ L (csL L) m' cm' s' → KeepBut (ownOf L (csL L)) s.heap s'.heap → (∀ n, n ≠ Str.ofString "row" → m' n = m n) → (∀ n, n ≠ Str.ofString "x" → cm' n = cm n) → Q .next s') :
    wpAny (Md w) A (exec (RB.getD 3 (.Pass ⟨0, 0, 0, 0⟩)) (envG 10 L a cd)) Q E s := by
  have cell1 : s.heap.IsCell (L + 1 + 1) (some (.int x1 t1)) := c1 ▸ I.X.cell (Str.ofString "one") (L + 1 + 1) rfl
  have cell2 : s.heap.IsCell (L + 1 + 2) (some (.int x2 t2)) := c2 ▸ I.X.cell (Str.ofString "two") (L + 1 + 2) rfl
  have G₁ := G.keeps I.I.F.keep
  have gZ := G.b ("zip", .type "zip") (by simp [btab])
  obtain ⟨ao, vals, rfl, hlo, po⟩ := ho
  have hvl : vals.toList.length = 3 := by rw [Pw.length po, List.length_map, h3]
  have hs0 := I.soft (csL_u L)
  refine st_for (env := envG 10 L a cd) (own := ownOf L (csL L)) (n := 3) (Co.use (R := VZip s.heap ([x1, x2, x1 + x2].map fun n : Nat => VInt n) (vals.toList.map VIs)) (h₀ := s.heap) ?_ (Grow.refl _) fun xv s₁ rx e₁ => ?_)
  · refine co_callT (sees_builtin rfl rfl G₁.B.g gZ.1 G₁.B.b gZ.2) (co_args2 (R := VList ([x1, x2, x1 + x2].map fun n : Nat => VInt n)) (S := VList (vals.toList.map VIs)) (VList.mono ?_) (VList.mono (Imm.is _).mono) ?_ ?_) (call_zip ?_ (Imm.is _).mono)
    · intro r hr; obtain ⟨n, _, rfl⟩ := List.mem_map.mp hr; exact VInt.mono _
    · refine co_list (rs := [VInt x1, VInt x2, VInt ((x1 + x2 : Nat) : Int)]) (by simp) (co_args3 (VInt.mono _) (VInt.mono _) (VInt.mono _) (co_nameI (sees_cell rfl rfl rfl cell1)) (co_nameI (sees_cell rfl rfl rfl cell2)) ?_) ?_
      · rw [Int.natCast_add]
        exact co_add (co_nameI (sees_cell rfl rfl rfl cell1)) (co_nameI (sees_cell rfl rfl rfl cell2))
      · intro r hr; simp only [List.mem_cons, List.not_mem_nil, or_false] at hr; rcases hr with rfl | rfl | rfl <;> exact VInt.mono _
    · exact co_nameR (sees_local rfl rfl I.I.F.ns mo) (VList.mono (Imm.is _).mono) ⟨ao, vals, rfl, hlo, pw_is _⟩
    · intro r hr; obtain ⟨n, _, rfl⟩ := List.mem_map.mp hr; exact VInt.mono _
  refine ⟨s.heap, Pair2 ([x1, x2, x1 + x2].map fun n : Nat => VInt n) (vals.toList.map VIs), fun _ i s' => ∃ m' cm', InC s₀ L (csL L) m' cm' s' ∧ KeepBut (ownOf L (csL L)) s.heap s'.heap ∧ (∀ n, n ≠ Str.ofString "row" → m' n = m n) ∧ (∀ n, n ≠ Str.ofString "x" → cm' n = cm n), e₁.grow, ?_, hs0, ?_, ?_, ?_, ?_⟩
  · refine iters_zip (rs := [x1, x2, x1 + x2].map fun n : Nat => VInt n) (ss := vals.toList.map VIs) hh ?_ (Imm.is _) (by simp [hvl]) rx
    intro r hr; obtain ⟨n, _, rfl⟩ := List.mem_map.mp hr; exact imm_int _
  · intro s₂ e₂
    exact ⟨m, cm, (I.ext e₁).ext e₂, (e₁.grow.trans e₂.grow).but _, fun _ _ => rfl, fun _ _ => rfl⟩
  · rintro _ i X c d hX hk hos hgs _ ⟨m', cm', I', kb, hm, hc⟩
    refine ⟨m', cm', I'.stab I.I.F.keep I.lives.1 I.lives.2 (fun c x => (hX c x).1) hk hos hgs, fun b o hb e => hk b o (fun x => by rw [(hX b x).1] at e; cases e) (kb b o hb e), hm, hc⟩
  · rintro _ j v s' hj ⟨m', cm', I', kb, hm, hc⟩ ⟨T, u1, u2, rfl, hT, n1, n2⟩
    obtain ⟨tx, rfl⟩ := nth_nat n1
    obtain ⟨R, hR, hrow⟩ := Pw.get' po (nth_is n2)
    rw [List.getElem?_map] at hR
    obtain ⟨row, hrj, rfl⟩ : ∃ row, rows[j]? = some row ∧ R = VStrs row := by
      cases e : rows[j]? with
      | none => rw [e] at hR; cases hR
      | some row => rw [e] at hR; cases hR; exact ⟨row, rfl, rfl⟩
    have hrm : row ∈ rows := List.mem_of_getElem? hrj
    have lawj := law j row hrj
    obtain ⟨x, hx⟩ : ∃ x, [x1, x2, x1 + x2].getD j 0 = x := ⟨_, rfl⟩
    rw [hx] at lawj hT
    refine asg_tup hh hT fun s₂ e₂ => ?_
    refine sto_cell (env := envG 10 L a cd) (I'.ext e₂) (csL_u L) rfl rfl rfl rfl fun s₃ I₃ k₃ => ?_
    refine sto_loc (env := envG 10 L a cd) I₃ rfl rfl fun s₄ I₄ k₄ => ?_
    have kb₄ : KeepBut (ownOf L (csL L)) s'.heap s₄.heap := ((e₂.grow.but _).trans k₃).trans k₄
    have gs : GrowS s.heap s₄.heap := (kb.trans kb₄).s hs0
    have hs₄ := VInts.firm _ _ _ _ gs hs
    have he₄ := VInts.firm _ _ _ _ gs he
    have hrow₄ := VStrs.firm _ _ _ _ gs hrow
    have G₄ := G.keeps I₄.I.F.keep
    have cellX : s₄.heap.IsCell (L + 1) (some (.int x tx)) := I₄.X.cell (Str.ofString "x") (L + 1) rfl
    have cellS : s₄.heap.IsCell (L + 1 + 5) (some vs) := by have := I₄.X.cell (Str.ofString "sizes") (L + 1 + 5) rfl; rw [← cs, ← hc (Str.ofString "sizes") (by decide)]; exact this
    have cellE : s₄.heap.IsCell (L + 1 + 6) (some ve) := by have := I₄.X.cell (Str.ofString "ends") (L + 1 + 6) rfl; rw [← ce, ← hc (Str.ofString "ends") (by decide)]; exact this
    obtain ⟨a5, g5, f5⟩ := G₄.f 5 (by simp)
    obtain ⟨o5, _, _, _, ho5, hd5, _⟩ := f5.at'
    have gI := G.b ("int", .type "int") (by simp [btab])
    have gA := G.b ("abs", .builtin "abs") (by simp [btab])
    have gD := G.b ("divmod", .builtin "divmod") (by simp [btab])
    have gS := G.b ("str", .type "str") (by simp [btab])
    refine wpAny_execs_cons ?_
    refine wpAny_If (env := envG 10 L a cd) (Co.use (R := TBool false) (h₀ := s₄.heap) ?_ (Grow.refl _) fun b s₅ r e₅ => ?_)
    · refine cot_cmp (R1 := VStrs (row.map fun x => Txt.lstripChars x (Str.ofString "A"))) (R2 := VStrs (row.map fun x => Txt.lstripChars x (Str.ofString "A"))) (VStrs.mono _) ?_ ?_ (ne_strs hu fun y hy => ?_)
      · rw [← lawj]
        refine Co.post (R := VNew s₄.heap (((List.range S.length).filter fun _ => true).map fun i => VStr (tellAt S i x))) ?_ fun _ _ _ y => ?_
        · refine co_comp (cl := [(Str.ofString "x", L + 1)]) (RI := fun hb => VZip hb (S.map VInt) ((endsOf S).map VInt)) (P := PairI S (endsOf S)) (B := fun i m => ∃ t u, m (Str.ofString "size") = some (.int (S.getD i 0) t) ∧ m (Str.ofString "end") = some (.int ((endsOf S).getD i 0) u))
            (by with_unfolding_all rfl) (by decide) rfl (by decide) (by omega) (fun hb gb => ?_) (fun hb x h' _ g' r => iters_zipI hh (endsOf_len S) r) (fun C' => asg_pairI hh rfl rfl rfl (by decide))
            (fun _ _ _ _ _ _ _ _ => co_tests0) (fun i C' m' h' hi _ g' hn ⟨t, u, e1, e2⟩ => ?_)
          · have G' := G₄.keeps gb
            refine co_callT (sees_builtin rfl rfl G'.B.g gZ.1 G'.B.b gZ.2) (co_args2 (VInts.mono S) (VInts.mono (endsOf S)) ?_ ?_) (call_zip (mono_ints _) (mono_ints _))
            · exact co_nameR (sees_cell rfl rfl rfl (cellS.keeps gb)) (VInts.mono _) (VInts.mono _ _ _ _ gb hs₄)
            · exact co_nameR (sees_cell rfl rfl rfl (cellE.keeps gb)) (VInts.mono _) (VInts.mono _ _ _ _ gb he₄)
          · refine Co.stb ?_ (imm_str _)
            obtain ⟨q1, q2, q3⟩ := hSE i hi
            have G' := G₄.keeps g'
            generalize hsz : S.getD i 0 = sz at *
            generalize hen : (endsOf S).getD i 0 = en at *
            have et : tellAt S i x = textOf (apL (x / 16 ^ (en - sz).toNat % 16 ^ sz.toNat)).toArray := by rw [tellAt, hsz, hen]
            rw [et]
            have hlt : x / 16 ^ (en - sz).toNat % 16 ^ sz.toNat < 16 ^ 10 := Nat.lt_of_lt_of_le (Nat.mod_lt _ (Nat.pow_pos (by decide))) (Nat.pow_le_pow_right (by decide) (by omega))
            have hal := hexL_len 10 _ hlt
            refine co_callT (sees_builtin rfl rfl G'.B.g gS.1 G'.B.b gS.2) (co_args2 (VBytes.mono (apL (x / 16 ^ (en - sz).toNat % 16 ^ sz.toNat)).toArray) (VStr.mono (Str.ofString "ascii")) ?_ co_str) (call_strA (fun c hc => ?_) ?_)
            · refine co_callF (sees_global rfl rfl G'.B.g g5) (g' _ _ ho5) hd5 (co_args1 (VInt.mono ((x / 16 ^ (en - sz).toNat % 16 ^ sz.toNat : Nat) : Int)) ?_) (co_int2ap (f5.keeps g') G'.B (by omega) hh gI.1 gI.2 gA.1 gA.2 gD.1 gD.2 (Nat.lt_trans hlt (by decide +kernel)))
              have e10 : ((x / 16 ^ (en - sz).toNat % 16 ^ sz.toNat : Nat) : Int) = (x : Int) / 16 ^ (en - sz).toNat % 16 ^ sz.toNat := by push_cast; rfl
              rw [e10]
              refine co_mod (pow16_pos _) (co_div (pow16_pos _) (pow16_log _ (by omega)) (co_nameI (sees_cell rfl rfl rfl (cellX.keeps g'))) ?_) ?_
              · exact co_pow (by omega) (by omega) (by decide) co_int (co_sub (co_nameI (sees_local rfl rfl hn e2)) (co_nameI (sees_local rfl rfl hn e1)))
              · exact co_pow (by omega) (by omega) (by decide) co_int (co_nameI (sees_local rfl rfl hn e1))
            · exact apL_lt c hc
            · show (apL _).length ≤ _
              rw [apL, List.length_map]; omega
        · rw [map_strs (n := S.length) (fun i => tellAt S i x)] at y
          exact y.list
      · refine Co.post (R := VNew s₄.heap (((List.range row.length).filter fun _ => true).map fun i => VStr (Txt.lstripChars (row.getD i Str.empty) (Str.ofString "A")))) ?_ fun _ _ _ y => ?_
        · refine co_comp (cl := []) (RI := fun _ => VStrs row) (P := fun i v _ => ∃ t, v = .str (row.getD i Str.empty) t) (B := fun i m => ∃ t, m (Str.ofString "piece") = some (.str (row.getD i Str.empty) t))
            (by with_unfolding_all rfl) (by decide) rfl (by decide) (by have := (hrl row hrm).1; omega) (fun hb gb => co_nameR (sees_local rfl rfl (I₄.I.F.ns.keeps gb) rfl) (VStrs.mono row) (VStrs.mono _ _ _ _ gb hrow₄)) (fun hb x h _ g r => iters_strs hh g r) (fun C => asg_name rfl rfl fun i v h m ⟨t, x⟩ => ⟨t, by simp [x]⟩)
            (fun _ _ _ _ _ _ _ _ => co_tests0) (fun i C m' h hi _ g hn ⟨t, hmm⟩ => ?_)
          refine Co.stb ?_ (imm_str _)
          have hpl : (row.getD i Str.empty).length ≤ 100 := by
            have : row.getD i Str.empty = row[i] := by simp [List.getD, hi]
            rw [this]; exact (hrl row hrm).2 _ (List.getElem_mem hi)
          exact co_methS (x := row.getD i Str.empty) (rs := [VStr (Str.ofString "A")]) rfl rfl rfl F.slot_str_lstrip F.type_str_lstrip (co_nameS (sees_local rfl rfl hn hmm)) (co_args1 (VStr.mono _) co_str) (fun t => call_lstrip (by omega))
        · have := y.list
          rw [map_strs (n := row.length) (fun i => Txt.lstripChars (row.getD i Str.empty) (Str.ofString "A")), range_getD row Str.empty (fun x => Txt.lstripChars x (Str.ofString "A"))] at this
          exact this
      · obtain ⟨z, hz, rfl⟩ := List.mem_map.mp hy
        exact ok row hrm z hz
    · cases r
      rw [if_neg Bool.false_ne_true]
      refine wpAny_execs_nil ?_
      show wpAny _ _ _ _ _ _
      refine wpAny_execs_nil ⟨rfl, ⟨_, _, I₄.ext e₅, (kb.trans kb₄).trans (e₅.grow.but _), fun n h => ?_, fun n h => ?_⟩, kb₄.trans (e₅.grow.but _)⟩
      · show (if n = Str.ofString "row" then some u2 else m' n) = m n
        rw [if_neg h]; exact hm n h
      · show (if n = Str.ofString "x" then some (Value.int x tx) else cm' n) = cm n
        rw [if_neg h]; exact hc n h
  · rintro _ s' ⟨m', cm', I', kb, hm, hc⟩
    exact k s' m' cm' I' kb hm hc
end
end Mine

namespace Mine
section
variable {w : World} {A : Around} {mg mb : Str → Option Value}

theorem iters_intsN {target : Expr} {hb h : Heap} {x : Value} {l : List Int} {n : Nat} (hh : A.handled = none) (hn : l.length = n) (g : Grow hb h) (r : VInts l x h) : Iters w A target hb x h n (fun i v _ => ∃ t, v = .int (l.getD i 0) t) := by
  subst hn; exact iters_ints hh g r

/-- told = ... -/
theorem ruler4 {s₀ s : Shared} {L a : Addr} {cd : Value} {m cm : Str → Option Value} {S : List Int} {W : List Str} {ve vw : Value} {w0 w2 : Str} {Q : Flow → Shared → Prop} {E : Value → Shared → Prop} (hh : A.handled = none) (hroom : A.depth + 1 < recursionLimit) (I : InC s₀ L (csL L) m cm s) (G : Gl mg mb s.heap)
    (ce : cm (Str.ofString "ends") = some ve) (cw : cm (Str.ofString "words") = some vw) (he : VInts (endsOf S) ve s.heap) (hw : VStrs W vw s.heap) (hS : S.length ≤ 10) (hW : W.length ≤ 10) (h0 : W[0]? = some w0) (h2 : W[2]? = some w2) (l0 : w0.length ≤ 100) (l2 : w2.length ≤ 100)
    (k : ∀ v s', InC s₀ L (csL L) (fun z => if z = Str.ofString "told" then some v else m z) cm s' → KeepBut (ownOf L (csL L)) s.heap s'.heap → VInts ((List.range S.length).map fun i => collAt S i w2 w0) v s'.heap → Q .next s') :
    wpAny (Md w) A (exec (RB.getD 4 (.Pass ⟨0, 0, 0, 0⟩)) (envG 10 L a cd)) Q E s := by
  have cellE : s.heap.IsCell (L + 1 + 6) (some ve) := ce ▸ I.X.cell (Str.ofString "ends") (L + 1 + 6) rfl
  have cellW : s.heap.IsCell (L + 1 + 3) (some vw) := cw ▸ I.X.cell (Str.ofString "words") (L + 1 + 3) rfl
  obtain ⟨a1, g1, f1⟩ := G.f 1 (by simp)
  obtain ⟨o1, _, _, _, ho1, hd1, _⟩ := f1.at'
  refine st_compU (env := envG 10 L a cd) (cs := csL L) (n := S.length) (cl := [(Str.ofString "words", L + 1 + 3)]) (RI := fun _ => VInts (endsOf S)) (P := fun i v _ => ∃ t, v = .int ((endsOf S).getD i 0) t) (p := fun _ => true) (F := fun i => VInt (collAt S i w2 w0))
    (B := fun i m => ∃ t, m (Str.ofString "end") = some (.int ((endsOf S).getD i 0) t)) I (by rfl) rfl rfl (by with_unfolding_all rfl) (by decide) rfl (by decide) (by omega) (co_nameR (sees_cell rfl rfl rfl cellE) (VInts.mono _) he) (fun x h g r => iters_intsN hh (endsOf_len S) g r)
    (fun C => asg_name rfl rfl fun i v h m ⟨t, x⟩ => ⟨t, by simp [x]⟩) (fun _ _ _ _ _ _ _ _ => co_tests0) (fun i C m' h hi _ g hn ⟨t, hm⟩ => ?_) ?_ (fun u s' I' kb r => k u s' I' kb ?_)
  · refine Co.stb ?_ (imm_int _)
    have G' := G.keeps g
    have hw' := VStrs.mono _ _ _ _ g hw
    refine co_callF (sees_global rfl rfl G'.B.g g1) (g _ _ ho1) hd1 (co_args2 (VStr.mono (Txt.slice w2 (some (10 - (endsOf S).getD i 0)) none)) (VStr.mono (Txt.slice w0 (some (10 - (endsOf S).getD i 0)) none)) ?_ ?_) (co_strcoll (f1.keeps g) G'.B.nolimit (by omega))
    · refine co_strSlice (by omega) ?_ (co_part1 (co_sub co_int (co_nameI (sees_local rfl rfl hn hm)))) co_part0
      exact co_listIdx (n := 2) (mono_strs W) (by rw [List.length_map]; omega) (by rw [List.getElem?_map, h2]; rfl) (co_nameR (sees_cell rfl rfl rfl (cellW.keeps g)) (VStrs.mono W) hw') co_int
    · refine co_strSlice (by omega) ?_ (co_part1 (co_sub co_int (co_nameI (sees_local rfl rfl hn hm)))) co_part0
      exact co_listIdx (n := 0) (mono_strs W) (by rw [List.length_map]; omega) (by rw [List.getElem?_map, h0]; rfl) (co_nameR (sees_cell rfl rfl rfl (cellW.keeps g)) (VStrs.mono W) hw') co_int
  · intro r hr
    obtain ⟨i, _, rfl⟩ := List.mem_map.mp hr
    exact VInt.firm _
  · rw [map_ints (n := S.length) (fun i => collAt S i w2 w0)] at r
    exact r

theorem call_type1 {n : Int} {h₀ : Heap} : ∀ vs h, Grow h₀ h → Pw h [VInt n] vs → Co w A (call (.type "type") vs) h (VIs (.type "int"))
  | [v], h, _, ⟨⟨t, e⟩, _⟩ => fun s g => by
    subst e
    exact call_type_of (typeIs_int _ _ _) (by decide) ⟨rfl, Ext.refl _⟩
  | [], _, _, p => p.elim
  | _ :: _ :: _, _, _, p => p.2.elim

/-- if told != ... or ... -/
theorem ruler5 {s₀ s : Shared} {L a : Addr} {cd : Value} {m cm : Str → Option Value} {S : List Int} {T : List Int} {ve vt : Value} {x1 x2 : Nat} {t1 t2 : Tok} {Q : Flow → Shared → Prop} {E : Value → Shared → Prop} (hh : A.handled = none) (hu : A.units + 64 < cLine) (I : InC s₀ L (csL L) m cm s) (G : Gl mg mb s.heap)
    (c1 : cm (Str.ofString "one") = some (.int x1 t1)) (c2 : cm (Str.ofString "two") = some (.int x2 t2)) (ce : cm (Str.ofString "ends") = some ve) (mt : m (Str.ofString "told") = some vt) (he : VInts (endsOf S) ve s.heap) (ht : VInts T vt s.heap) (hS : S.length ≤ 10)
    (hE : ∀ i, i < S.length → 0 ≤ (endsOf S).getD i 0 ∧ (endsOf S).getD i 0 ≤ 10) (law : T = (List.range S.length).map fun i => carryAt S i x1 x2) (k : ∀ s', Ext s s' → Q .next s') :
    wpAny (Md w) A (exec (RB.getD 5 (.Pass ⟨0, 0, 0, 0⟩)) (envG 10 L a cd)) Q E s := by
  have cell1 : s.heap.IsCell (L + 1 + 1) (some (.int x1 t1)) := c1 ▸ I.X.cell (Str.ofString "one") (L + 1 + 1) rfl
  have cell2 : s.heap.IsCell (L + 1 + 2) (some (.int x2 t2)) := c2 ▸ I.X.cell (Str.ofString "two") (L + 1 + 2) rfl
  have cellE : s.heap.IsCell (L + 1 + 6) (some ve) := ce ▸ I.X.cell (Str.ofString "ends") (L + 1 + 6) rfl
  have gT := G.b ("type", .type "type") (by simp [btab])
  have gI := G.b ("int", .type "int") (by simp [btab])
  have hTl : T.length ≤ 10 := by rw [law, List.length_map, List.length_range]; exact hS
  refine wpAny_If (env := envG 10 L a cd) (Co.use (R := TBool false) (h₀ := s.heap) (cot_or ?_ ?_) (Grow.refl _) fun b s' r e => ?_)
  · refine cot_cmp (R2 := VInts T) (VInts.mono T) (co_nameR (sees_local rfl rfl I.I.F.ns mt) (VInts.mono _) ht) ?_ (ne_ints hu)
    refine Co.post (R := VNew s.heap (((List.range S.length).filter fun _ => true).map fun i => VInt (carryAt S i x1 x2))) ?_ fun _ _ _ y => ?_
    · refine co_comp (cl := [(Str.ofString "two", L + 1 + 2), (Str.ofString "one", L + 1 + 1)]) (RI := fun _ => VInts (endsOf S)) (P := fun i v _ => ∃ t, v = .int ((endsOf S).getD i 0) t) (B := fun i m => ∃ t, m (Str.ofString "end") = some (.int ((endsOf S).getD i 0) t))
        (by with_unfolding_all rfl) (by decide) rfl (by decide) (by omega) (fun hb gb => co_nameR (sees_cell rfl rfl rfl (cellE.keeps gb)) (VInts.mono _) (VInts.mono _ _ _ _ gb he)) (fun hb x h _ g r => iters_intsN hh (endsOf_len S) g r) (fun C => asg_name rfl rfl fun i v h m ⟨t, x⟩ => ⟨t, by simp [x]⟩)
        (fun _ _ _ _ _ _ _ _ => co_tests0) (fun i C m' h hi _ g hn ⟨t, hm⟩ => ?_)
      refine Co.stb ?_ (imm_int _)
      obtain ⟨q1, q2⟩ := hE i hi
      rw [carryAt]
      generalize (endsOf S).getD i 0 = en at *
      have hen : 0 < (16 : Nat) ^ en.toNat := Nat.pow_pos (by decide)
      have z1 : ((x1 % 16 ^ en.toNat : Nat) : Int) = (x1 : Int) % 16 ^ en.toNat := by push_cast; rfl
      have z2 : ((x2 % 16 ^ en.toNat : Nat) : Int) = (x2 : Int) % 16 ^ en.toNat := by push_cast; rfl
      have z3 : ((16 ^ en.toNat : Nat) : Int) = (16 : Int) ^ en.toNat := by push_cast; rfl
      refine co_ifexp (c := decide ((16 : Int) ^ en.toNat ≤ (x1 : Int) % 16 ^ en.toNat + (x2 : Int) % 16 ^ en.toNat)) (cot_cmp (VInt.mono _) (co_add (co_mod (pow16_pos en.toNat) (co_nameI (sees_cell rfl rfl rfl (cell1.keeps g))) ?_) (co_mod (pow16_pos en.toNat) (co_nameI (sees_cell rfl rfl rfl (cell2.keeps g))) ?_)) ?_ cmpI_ge) (fun hc => ?_) (fun hc => ?_)
      · exact co_pow q1 (by omega) (by decide) co_int (co_nameI (sees_local rfl rfl hn hm))
      · exact co_pow q1 (by omega) (by decide) co_int (co_nameI (sees_local rfl rfl hn hm))
      · exact co_pow q1 (by omega) (by decide) co_int (co_nameI (sees_local rfl rfl hn hm))
      · have hc' := of_decide_eq_true hc
        rw [← z1, ← z2, ← z3] at hc'
        rw [if_pos (by omega)]
        exact co_neg co_int
      · have hc' := of_decide_eq_false hc
        rw [← z1, ← z2, ← z3] at hc'
        rw [if_neg (by omega)]
        refine co_ifexp (c := (x2 : Int) % 16 ^ en.toNat == 0) (cot_cmp (VInt.mono _) (co_mod (pow16_pos en.toNat) (co_nameI (sees_cell rfl rfl rfl (cell2.keeps g))) ?_) co_int cmpI_eq) (fun hd => ?_) (fun hd => ?_)
        · exact co_pow q1 (by omega) (by decide) co_int (co_nameI (sees_local rfl rfl hn hm))
        · rw [← z2, beq_iff_eq] at hd
          rw [if_pos (by omega)]
          exact co_int
        · rw [← z2, beq_eq_false_iff_ne] at hd
          rw [if_neg (by omega)]
          exact co_int
    · have := y.list
      rw [map_ints (n := S.length) (fun i => carryAt S i x1 x2), ← law] at this
      exact this
  · refine cot_cmp (R1 := VInts []) (R2 := VInts []) (VInts.mono _) ?_ (co_list (rs := []) (by decide) co_sp0 (by intro r hr; cases hr)) (ne_ints hu)
    refine Co.post (R := VNew s.heap (((List.range T.length).filter fun _ => false).map fun _ => VInt 0)) ?_ fun _ _ _ y => ?_
    · refine co_comp (cl := []) (RI := fun _ => VInts T) (P := fun i v _ => ∃ t, v = .int (T.getD i 0) t) (B := fun i m => ∃ t, m (Str.ofString "number") = some (.int (T.getD i 0) t))
        (by with_unfolding_all rfl) (by decide) rfl (by decide) (by omega) (fun hb gb => co_nameR (sees_local rfl rfl (I.I.F.ns.keeps gb) mt) (VInts.mono _) (VInts.mono _ _ _ _ gb ht)) (fun hb x h _ g r => iters_ints hh g r) (fun C => asg_name rfl rfl fun i v h m ⟨t, x⟩ => ⟨t, by simp [x]⟩)
        (fun i C m' h hi g hn ⟨t, hm⟩ => co_tests1 ?_) (fun i C m' h hi hf => by cases hf)
      have G' := G.keeps g
      refine cot_cmp (VIs.mono _) (co_callT (sees_builtin rfl rfl G'.B.g gT.1 G'.B.b gT.2) (co_args1 (VInt.mono (T.getD i 0)) (co_nameI (sees_local rfl rfl hn hm))) call_type1) (co_name (sees_builtin rfl rfl G'.B.g gI.1 G'.B.b gI.2)) fun x y h _ e e' => ?_
      cases e; cases e'
      exact Co.of fun _ _ _ k => isnot_type_same (k _ _ rfl (Ext.refl _))
    · have := y.list
      have e : ((List.range T.length).filter fun _ => false) = [] := by simp
      rw [e] at this
      exact this
  · cases r
    rw [if_neg Bool.false_ne_true]
    exact wpAny_execs_nil (k s' e)
end
end Mine

namespace Mine

/-- the plain laws of a ruler and two numbers -/
structure PL (r : List Int) (x1 x2 : Nat) : Prop where
  ok : RulerOk r
  h0 : r.head? ≠ some 0
  hy : (yl 0 r 11).1.length ≤ 100
  en : ∀ x ∈ [ten x1, ten x2, ten (x1 + x2)], x.length ≤ 100 ∧ Enough (yl 0 r 11).1 (yl 0 r 11).2 x
  hS : (sizesOf r).length ≤ 10
  hSE : ∀ i, i < (sizesOf r).length → 0 ≤ (sizesOf r).getD i 0 ∧ (sizesOf r).getD i 0 ≤ (endsOf (sizesOf r)).getD i 0 ∧ (endsOf (sizesOf r)).getD i 0 ≤ 10
  ok2 : ∀ x ∈ [ten x1, ten x2, ten (x1 + x2)], (cutOf r x).length ≤ 100 ∧ ∀ y ∈ cutOf r x, y.length ≤ 100 ∧ PyData.strOk y = true ∧ PyData.strOk (Txt.lstripChars y (Str.ofString "A")) = true
  law2 : ∀ x ∈ [ten x1, ten x2, ten (x1 + x2)], cutOf r x = (List.range (sizesOf r).length).map fun i => pieceAt (sizesOf r) i x
  law3 : ∀ x ∈ [x1, x2, x1 + x2], (List.range (sizesOf r).length).map (fun i => tellAt (sizesOf r) i x) = (cutOf r (ten x)).map fun y => Txt.lstripChars y (Str.ofString "A")
  law4 : ∀ i, i < (sizesOf r).length → collAt (sizesOf r) i (ten (x1 + x2)) (ten x1) = carryAt (sizesOf r) i x1 x2

section
variable {w : World} {A : Around} {mg mb : Str → Option Value}

theorem ruler_body {s₀ s : Shared} {L a : Addr} {cd : Value} {m cm : Str → Option Value} {r : List Int} {vw vr : Value} {x1 x2 : Nat} {t1 t2 : Tok} (hh : A.handled = none) (hu : A.units + 64 < cLine) (hroom : A.depth + 1 < recursionLimit) (I : InC s₀ L (csL L) m cm s) (G : Gl mg mb s₀.heap)
    (c1 : cm (Str.ofString "one") = some (.int x1 t1)) (c2 : cm (Str.ofString "two") = some (.int x2 t2)) (cw : cm (Str.ofString "words") = some vw) (cr : cm (Str.ofString "ruler") = some vr) (hw : VStrs [ten x1, ten x2, ten (x1 + x2)] vw s.heap) (hr : VInts r vr s.heap) (pl : PL r x1 x2) :
    wpAny (Md w) A (execs RB (envG 10 L a cd)) (fun f s' => f = .next ∧ (∃ m' cm', InC s₀ L (csL L) m' cm' s' ∧ ∀ n, n ≠ Str.ofString "sizes" → n ≠ Str.ofString "ends" → n ≠ Str.ofString "x" → cm' n = cm n) ∧ KeepBut (ownOf L (csL L)) s.heap s'.heap) NoE s := by
  obtain ⟨ok, h0, hy, en, hS, hSE, ok2, law2, law3, law4⟩ := pl
  generalize hW : [ten x1, ten x2, ten (x1 + x2)] = W at *
  have hWl : W.length = 3 := by rw [← hW]; rfl
  have hs0 := I.soft (csL_u L)
  refine wpAny_execs_cons ?_
  refine ruler0 hh hroom I (G.keeps I.I.F.keep) cw cr hw hr ok h0 hy (by omega) en fun vs vo s₁ I₁ k₁ hs₁ ho₁ => ?_
  generalize hSz : sizesOf r = S at *
  refine wpAny_execs_cons ?_
  refine ruler1 hh I₁ (G.keeps I₁.I.F.keep) rfl hs₁ hS fun ve s₂ I₂ k₂ he₂ => ?_
  have gs₂ : GrowS s₁.heap s₂.heap := k₂.s (I₁.soft (csL_u L))
  have hs₂ := VInts.firm _ _ _ _ gs₂ hs₁
  have ho₂ := VRows.firm _ _ _ _ gs₂ ho₁
  have hw₂ := VStrs.firm _ _ _ _ ((k₁.s hs0).trans gs₂) hw
  refine wpAny_execs_cons ?_
  refine ruler2 hh hu I₂ (G.keeps I₂.I.F.keep) rfl rfl cw rfl hs₂ he₂ hw₂ ho₂ hS (by omega) (fun x hx => (en x hx).1) ?_ ?_ fun s₃ e₃ => ?_
  · intro q hq x hx
    obtain ⟨y, hy', rfl⟩ := List.mem_map.mp hq
    exact ((ok2 y hy').2 x hx).2.1
  · exact List.map_congr_left law2
  have I₃ := I₂.ext e₃
  refine wpAny_execs_cons ?_
  refine ruler3 hh hu hroom I₃ G c1 c2 rfl rfl rfl (VInts.mono _ _ _ _ e₃.grow hs₂) (VInts.mono _ _ _ _ e₃.grow he₂) (VRows.mono _ _ _ _ e₃.grow ho₂) hS hSE (by rw [List.length_map]; exact hWl) ?_ ?_ ?_ fun s₄ m₄ cm₄ I₄ k₄ hm₄ hc₄ => ?_
  · intro q hq
    obtain ⟨y, hy', rfl⟩ := List.mem_map.mp hq
    exact ⟨(ok2 y hy').1, fun x hx => ((ok2 y hy').2 x hx).1⟩
  · intro q hq x hx
    obtain ⟨y, hy', rfl⟩ := List.mem_map.mp hq
    exact ((ok2 y hy').2 x hx).2.2
  · intro j q hq
    rw [← hW] at hq
    match j, hq with
    | 0, hq => cases hq; exact law3 x1 (by simp)
    | 1, hq => cases hq; exact law3 x2 (by simp)
    | 2, hq => cases hq; exact law3 (x1 + x2) (by simp)
    | j + 3, hq => simp at hq
  have gs₄ : GrowS s₂.heap s₄.heap := e₃.grow.s.trans (k₄.s (I₃.soft (csL_u L)))
  have he₄ := VInts.firm _ _ _ _ gs₄ he₂
  have hw₄ := VStrs.firm _ _ _ _ gs₄ hw₂
  have ce₄ : cm₄ (Str.ofString "ends") = some ve := hc₄ _ (by decide)
  have cw₄ : cm₄ (Str.ofString "words") = some vw := (hc₄ _ (by decide)).trans cw
  have c1₄ : cm₄ (Str.ofString "one") = some (.int x1 t1) := (hc₄ _ (by decide)).trans c1
  have c2₄ : cm₄ (Str.ofString "two") = some (.int x2 t2) := (hc₄ _ (by decide)).trans c2
  refine wpAny_execs_cons ?_
  refine ruler4 (w0 := ten x1) (w2 := ten (x1 + x2)) hh hroom I₄ (G.keeps I₄.I.F.keep) ce₄ cw₄ he₄ hw₄ hS (by omega) (by rw [← hW]; rfl) (by rw [← hW]; rfl) (en _ (by rw [← hW]; simp)).1 (en _ (by rw [← hW]; simp)).1 fun vt s₅ I₅ k₅ ht₅ => ?_
  refine wpAny_execs_cons ?_
  refine ruler5 hh hu I₅ (G.keeps I₅.I.F.keep) c1₄ c2₄ ce₄ rfl (VInts.firm _ _ _ _ (k₅.s (I₄.soft (csL_u L))) he₄) ht₅ hS (fun i hi => ⟨by have := hSE i hi; omega, (hSE i hi).2.2⟩) (List.map_congr_left fun i hi => law4 i (List.mem_range.mp hi)) fun s₆ e₆ => ?_
  refine wpAny_execs_nil ⟨rfl, ⟨_, _, I₅.ext e₆, fun n n1 n2 n3 => ?_⟩, (((((k₁.trans k₂).trans (e₃.grow.but _)).trans k₄).trans k₅).trans (e₆.grow.but _))⟩
  rw [hc₄ n n3]
  show (if n = Str.ofString "ends" then some ve else if n = Str.ofString "sizes" then some vs else cm n) = cm n
  rw [if_neg n2, if_neg n1]
end
end Mine

namespace Mine
def wordOf (x : Nat) : Str := Txt.slice (textOf (apL (16 ^ 10 + x)).toArray) (some 1) none
structure PW (x1 x2 : Nat) : Prop where
  lt : ∀ x ∈ [x1, x2, x1 + x2], x < 16 ^ 10
  word : ∀ x ∈ [x1, x2, x1 + x2], wordOf x = ten x
  ok : ∀ x ∈ [x1, x2, x1 + x2], PyData.strOk (ten x) = true
  pl : ∀ r ∈ rulers, PL r x1 x2
def forI : Stmt → Expr
  | .For _ i _ _ _ => i
  | _ => .Name ⟨#[]⟩ ⟨0, 0, 0, 0⟩
def forPos : Stmt → Pos
  | .For _ _ _ _ p => p
  | _ => ⟨0, 0, 0, 0⟩
def lawR : Stmt := PB.getD 2 (.Pass ⟨0, 0, 0, 0⟩)
theorem fold_list (elts : List Expr) (pos : Pos) (env : Env) (x : Value) : foldedSetIterable (.List elts pos) env x = pure x := rfl
theorem PB_eq : PB = [PB.getD 0 (.Pass ⟨0, 0, 0, 0⟩), PB.getD 1 (.Pass ⟨0, 0, 0, 0⟩), lawR] := by rfl
theorem starL (elts : List Expr) (pos : Pos) (rest : List Expr) (env : Env) : starEach (.List elts pos :: rest) env = (false, eval (.List elts pos) env) :: starEach rest env := rfl
theorem lawR_eq : lawR = .For (.Name (Str.ofString "ruler") ⟨49, 12, 49, 17⟩) (forI lawR) RB [] (forPos lawR) := by rfl
theorem lawI_shape : ∃ p1 p2 p3 p4 p5 p6 p7 p8 p9 p10 p11 p12 p13 p14 p15 p16 p17 p18 p19 p20 : Pos, forI lawR = .List [.List [.Constant (.int 2) 0 p1, .Constant (.int 0) 0 p2] p3, .List [.Constant (.int 1) 0 p4, .Constant (.int 2) 0 p5, .Constant (.int 0) 0 p6] p7, .List [.Constant (.int 3) 0 p8, .Constant (.int 1) 0 p9, .Constant (.int 127) 0 p10, .Constant (.int 2) 0 p11] p12, .List [.Constant (.int 1) 0 p13, .Constant (.int 1) 0 p14, .Constant (.int 2) 0 p15] p16, .List [.Constant (.int 1) 0 p17, .Constant (.int 0) 0 p18] p19] p20 := ⟨_, _, _, _, _, _, _, _, _, _, _, _, _, _, _, _, _, _, _, _, rfl⟩
theorem fold_lawR {it : Expr} (hit : it = forI lawR) (env : Env) (x : Value) : foldedSetIterable it env x = pure x := by
  rw [hit]
  obtain ⟨p1, p2, p3, p4, p5, p6, p7, p8, p9, p10, p11, p12, p13, p14, p15, p16, p17, p18, p19, p20, e⟩ := lawI_shape
  rw [e]; exact fold_list _ _ _ _
section
variable {w : World} {A : Around} {mg mb : Str → Option Value}

theorem iters_nats {target : Expr} {hb h : Heap} {x : Value} {l : List Nat} (hh : A.handled = none) (g : Grow hb h) (r : VList (l.map fun n : Nat => VInt n) x h) : Iters w A target hb x h l.length (fun i v _ => ∃ t, v = .int (l.getD i 0 : Nat) t) := by
  have := (iters_list (w := w) (A := A) (target := target) hh (fun r hr => by obtain ⟨n, _, rfl⟩ := List.mem_map.mp hr; exact imm_int _) g r).imp fun i v h y => nth_nat y
  rw [List.length_map] at this; exact this

theorem clist {L a : Addr} {cd : Value} {x1 x2 : Nat} {t1 t2 : Tok} {h : Heap} {p1 p2 p3 p4 p5 p6 : Pos} (k1 : h.IsCell (L + 1 + 1) (some (.int x1 t1))) (k2 : h.IsCell (L + 1 + 2) (some (.int x2 t2))) : Co w A (eval (.List [.Name (Str.ofString "one") p1, .Name (Str.ofString "two") p2, .BinOp (.Name (Str.ofString "one") p3) .Add (.Name (Str.ofString "two") p4) p5] p6) (envG 10 L a cd)) h (VList ([x1, x2, x1 + x2].map fun n : Nat => VInt n)) := by
  refine co_list (rs := [VInt x1, VInt x2, VInt ((x1 + x2 : Nat) : Int)]) (by simp) (co_args3 (VInt.mono _) (VInt.mono _) (VInt.mono _) (co_nameI (sees_cell rfl rfl rfl k1)) (co_nameI (sees_cell rfl rfl rfl k2)) ?_) ?_
  · rw [Int.natCast_add]
    exact co_add (co_nameI (sees_cell rfl rfl rfl k1)) (co_nameI (sees_cell rfl rfl rfl k2))
  · intro r hr; simp only [List.mem_cons, List.not_mem_nil, or_false] at hr; rcases hr with rfl | rfl | rfl <;> exact VInt.mono _

theorem getm {x1 x2 : Nat} : ∀ i, i < 3 → [x1, x2, x1 + x2].getD i 0 ∈ [x1, x2, x1 + x2] := by
  intro i hi
  match i, hi with
  | 0, _ => simp
  | 1, _ => simp
  | 2, _ => simp
theorem cast10 (x : Nat) : ((16 ^ 10 + x : Nat) : Int) = (16 : Int) ^ (10 : Int).toNat + (x : Int) := by
  rw [Int.natCast_add, Int.natCast_pow]
  rfl

theorem pair0 {s₀ s : Shared} {L a : Addr} {cd : Value} {m cm : Str → Option Value} {x1 x2 : Nat} {t1 t2 : Tok} {Q : Flow → Shared → Prop} {E : Value → Shared → Prop} (hh : A.handled = none) (hu : A.units + 64 < cLine) (hroom : A.depth + 1 < recursionLimit) (I : InC s₀ L (csL L) m cm s) (G : Gl mg mb s₀.heap)
    (c1 : cm (Str.ofString "one") = some (.int x1 t1)) (c2 : cm (Str.ofString "two") = some (.int x2 t2)) (pw : PW x1 x2)
    (k : ∀ v s', InC s₀ L (csL L) m (fun y => if y = Str.ofString "words" then some v else cm y) s' → KeepBut (ownOf L (csL L)) s.heap s'.heap → VStrs [ten x1, ten x2, ten (x1 + x2)] v s'.heap → Q .next s') :
    wpAny (Md w) A (exec (PB.getD 0 (.Pass ⟨0, 0, 0, 0⟩)) (envG 10 L a cd)) Q E s := by
  have cell1 : s.heap.IsCell (L + 1 + 1) (some (.int x1 t1)) := c1 ▸ I.X.cell (Str.ofString "one") (L + 1 + 1) rfl
  have cell2 : s.heap.IsCell (L + 1 + 2) (some (.int x2 t2)) := c2 ▸ I.X.cell (Str.ofString "two") (L + 1 + 2) rfl
  have G₁ := G.keeps I.I.F.keep
  have gI := G.b ("int", .type "int") (by simp [btab])
  have gA := G.b ("abs", .builtin "abs") (by simp [btab])
  have gD := G.b ("divmod", .builtin "divmod") (by simp [btab])
  have gS := G.b ("str", .type "str") (by simp [btab])
  have gR := G.b ("range", .type "range") (by simp [btab])
  obtain ⟨a5, g5, f5⟩ := G.f 5 (by simp)
  obtain ⟨a7, g7, f7⟩ := G.f 7 (by simp)
  refine st_cellC (env := envG 10 L a cd) (R := VStrs [ten x1, ten x2, ten (x1 + x2)]) I (csL_u L) ?_ rfl rfl rfl rfl fun vw s₁ I₁ k₁ r₁ => k vw s₁ I₁ k₁ (r₁ _ (VStrs.firm _) fun _ x => x)
  · refine Co.post (R := VNew s.heap (((List.range 3).filter fun _ => true).map fun i => VStr (ten ([x1, x2, x1 + x2].getD i 0)))) ?_ fun _ _ _ y => ?_
    · refine co_comp (cl := []) (RI := fun _ => VList ([x1, x2, x1 + x2].map fun n : Nat => VInt n)) (P := fun i v _ => ∃ t, v = .int ([x1, x2, x1 + x2].getD i 0 : Nat) t) (B := fun i m => ∃ t, m (Str.ofString "x") = some (.int ([x1, x2, x1 + x2].getD i 0 : Nat) t))
        (by with_unfolding_all rfl) (by decide) rfl (by decide) (by decide) (fun hb gb => clist (cell1.keeps gb) (cell2.keeps gb)) (fun hb x h _ g r => iters_nats (l := [x1, x2, x1 + x2]) hh g r) (fun C => asg_name rfl rfl fun i v h m ⟨t, x⟩ => ⟨t, by simp only [x, if_pos]⟩)
        (fun _ _ _ _ _ _ _ _ => co_tests0) (fun i C m' h hi _ g hn ⟨t, hm⟩ => ?_)
      have hmem := getm (x1 := x1) (x2 := x2) i hi
      generalize [x1, x2, x1 + x2].getD i 0 = x at *
      refine Co.stb ?_ (imm_str _)
      have G' := G₁.keeps g
      have gg := I.I.F.keep
      have hlt : 16 ^ 10 + x < 16 ^ 11 := by have := pw.lt x hmem; omega
      have hal := hexL_len 11 _ hlt
      have hsize : (apL (16 ^ 10 + x)).toArray.size ≤ 1000 := by
        show (apL _).length ≤ _
        rw [apL, List.length_map]; omega
      obtain ⟨o5, _, _, _, ho5, hd5, _⟩ := ((f5.keeps gg).keeps g).at'
      rw [← pw.word x hmem]
      refine co_strSlice (by rw [textOf_len]; exact hsize) ?_ (co_part1 co_int) co_part0
      refine co_callT (sees_builtin rfl rfl G'.B.g gS.1 G'.B.b gS.2) (co_args2 (VBytes.mono (apL (16 ^ 10 + x)).toArray) (VStr.mono (Str.ofString "ascii")) ?_ co_str) (call_strA (fun c hc => apL_lt c hc) hsize)
      refine co_callF (sees_global rfl rfl G'.B.g g5) ho5 hd5 (co_args1 (VInt.mono ((16 ^ 10 + x : Nat) : Int)) ?_) (co_int2ap ((f5.keeps gg).keeps g) G'.B (by omega) hh gI.1 gI.2 gA.1 gA.2 gD.1 gD.2 (Nat.lt_trans hlt (by decide +kernel)))
      rw [cast10 x]
      exact co_add (co_pow (by decide) (by decide) (by decide) co_int co_int) (co_nameI (sees_local rfl rfl hn hm))
    · exact y.list

theorem pair1 {s₀ s : Shared} {L a : Addr} {cd : Value} {m cm : Str → Option Value} {x1 x2 : Nat} {t1 t2 : Tok} {vw : Value} {Q : Flow → Shared → Prop} {E : Value → Shared → Prop} (hh : A.handled = none) (hu : A.units + 64 < cLine) (hroom : A.depth + 1 < recursionLimit) (I : InC s₀ L (csL L) m cm s) (G : Gl mg mb s₀.heap)
    (c1 : cm (Str.ofString "one") = some (.int x1 t1)) (c2 : cm (Str.ofString "two") = some (.int x2 t2)) (cw : cm (Str.ofString "words") = some vw) (hw : VStrs [ten x1, ten x2, ten (x1 + x2)] vw s.heap) (pw : PW x1 x2) (k : ∀ s', Ext s s' → Q .next s') :
    wpAny (Md w) A (exec (PB.getD 1 (.Pass ⟨0, 0, 0, 0⟩)) (envG 10 L a cd)) Q E s := by
  have cell1 : s.heap.IsCell (L + 1 + 1) (some (.int x1 t1)) := c1 ▸ I.X.cell (Str.ofString "one") (L + 1 + 1) rfl
  have cell2 : s.heap.IsCell (L + 1 + 2) (some (.int x2 t2)) := c2 ▸ I.X.cell (Str.ofString "two") (L + 1 + 2) rfl
  have cellW : s.heap.IsCell (L + 1 + 3) (some vw) := cw ▸ I.X.cell (Str.ofString "words") (L + 1 + 3) rfl
  have G₁ := G.keeps I.I.F.keep
  have gR := G.b ("range", .type "range") (by simp [btab])
  obtain ⟨a7, g7, f7⟩ := G.f 7 (by simp)
  refine wpAny_If (env := envG 10 L a cd) (Co.use (R := TBool false) (h₀ := s.heap) ?_ (Grow.refl _) fun b s' r e => ?_)
  · refine cot_cmp (R2 := VStrs [ten x1, ten x2, ten (x1 + x2)]) (VStrs.mono _) (co_nameR (sees_cell rfl rfl rfl cellW) (VStrs.mono _) hw) ?_ (ne_strs hu ?_)
    · refine Co.post (R := VNew s.heap (((List.range 3).filter fun _ => true).map fun i => VStr (ten ([x1, x2, x1 + x2].getD i 0)))) ?_ fun _ _ _ y => y.list
      refine co_comp (cl := []) (RI := fun _ => VList ([x1, x2, x1 + x2].map fun n : Nat => VInt n)) (P := fun i v _ => ∃ t, v = .int ([x1, x2, x1 + x2].getD i 0 : Nat) t) (B := fun i m => ∃ t, m (Str.ofString "x") = some (.int ([x1, x2, x1 + x2].getD i 0 : Nat) t))
        (by with_unfolding_all rfl) (by decide) rfl (by decide) (by decide) (fun hb gb => clist (cell1.keeps gb) (cell2.keeps gb)) (fun hb x h _ g r => iters_nats (l := [x1, x2, x1 + x2]) hh g r) (fun C => asg_name rfl rfl fun i v h m ⟨t, x⟩ => ⟨t, by simp only [x, if_pos]⟩)
        (fun _ _ _ _ _ _ _ _ => co_tests0) (fun i C m' h hi _ g hn ⟨t, hm⟩ => ?_)
      refine Co.stb ?_ (imm_str _)
      have G' := G₁.keeps g
      have gg := I.I.F.keep
      obtain ⟨o7, _, _, _, ho7, hd7, _⟩ := ((f7.keeps gg).keeps g).at'
      exact co_callF (sees_global rfl rfl G'.B.g g7) ho7 hd7 (co_args1 (VInt.mono (([x1, x2, x1 + x2].getD i 0 : Nat) : Int)) (co_nameI (sees_local rfl rfl hn hm))) (co_letters ((f7.keeps gg).keeps g) G'.B (by omega) hh gR.1 gR.2)
    · intro x hx
      simp only [List.mem_cons, List.not_mem_nil, or_false] at hx
      rcases hx with rfl | rfl | rfl <;> exact pw.ok _ (by simp)

  cases r
  rw [if_neg Bool.false_ne_true]
  exact wpAny_execs_nil (k s' e)

end
end Mine

namespace Mine
section
variable {w : World} {A : Around} {mg mb : Str → Option Value}
theorem star0 (env : Env) : starEach [] env = [] := rfl

theorem list5 {env : Env} {h₀ : Heap} {e f d c g : Expr} {pos : Pos} {R S T U V : Rl} (m : Mono R) (n : Mono S) (o : Mono T) (p : Mono U) (q : Mono V) (a : Co w A (eval e env) h₀ R) (b : Co w A (eval f env) h₀ S) (x : Co w A (eval d env) h₀ T) (y : Co w A (eval c env) h₀ U) (z : Co w A (eval g env) h₀ V) (hs : starEach [e, f, d, c, g] env = [(false, eval e env), (false, eval f env), (false, eval d env), (false, eval c env), (false, eval g env)]) :
    Co w A (eval (.List [e, f, d, c, g] pos) env) h₀ (VList [R, S, T, U, V]) :=
  co_list (by simp) (co_args5 m n o p q a b x y z hs) (by
    intro r hr
    simp only [List.mem_cons, List.not_mem_nil, or_false] at hr
    rcases hr with rfl | rfl | rfl | rfl | rfl <;> assumption)
theorem star5 (env : Env) (a b c d e : List Expr) (p1 p2 p3 p4 p5 : Pos) : starEach [.List a p1, .List b p2, .List c p3, .List d p4, .List e p5] env = [(false, eval (.List a p1) env), (false, eval (.List b p2) env), (false, eval (.List c p3) env), (false, eval (.List d p4) env), (false, eval (.List e p5) env)] := by
  rw [starL, starL, starL, starL, starL, star0]
theorem rulers_map : rulers.map VInts = [VInts [2, 0], VInts [1, 2, 0], VInts [3, 1, 127, 2], VInts [1, 1, 2], VInts [1, 0]] := rfl
theorem co_rulers {it : Expr} (hit : it = forI lawR) {h : Heap} {env : Env} : Co w A (eval it env) h (VList (rulers.map VInts)) := by
  rw [hit]
  obtain ⟨p1, p2, p3, p4, p5, p6, p7, p8, p9, p10, p11, p12, p13, p14, p15, p16, p17, p18, p19, p20, e⟩ := lawI_shape
  rw [e]
  have i1 : Co w A (eval (.List [.Constant (.int 2) 0 p1, .Constant (.int 0) 0 p2] p3) env) h (VInts [2, 0]) := co_list (rs := ([2, 0] : List Int).map VInt) (by decide) (co_args2 (VInt.mono _) (VInt.mono _) co_int co_int) (mono_ints _)
  have i2 : Co w A (eval (.List [.Constant (.int 1) 0 p4, .Constant (.int 2) 0 p5, .Constant (.int 0) 0 p6] p7) env) h (VInts [1, 2, 0]) := co_list (rs := ([1, 2, 0] : List Int).map VInt) (by decide) (co_args3 (VInt.mono _) (VInt.mono _) (VInt.mono _) co_int co_int co_int) (mono_ints _)
  have i3 : Co w A (eval (.List [.Constant (.int 3) 0 p8, .Constant (.int 1) 0 p9, .Constant (.int 127) 0 p10, .Constant (.int 2) 0 p11] p12) env) h (VInts [3, 1, 127, 2]) := co_list (rs := ([3, 1, 127, 2] : List Int).map VInt) (by decide) (co_args4 (VInt.mono _) (VInt.mono _) (VInt.mono _) (VInt.mono _) co_int co_int co_int co_int) (mono_ints _)
  have i4 : Co w A (eval (.List [.Constant (.int 1) 0 p13, .Constant (.int 1) 0 p14, .Constant (.int 2) 0 p15] p16) env) h (VInts [1, 1, 2]) := co_list (rs := ([1, 1, 2] : List Int).map VInt) (by decide) (co_args3 (VInt.mono _) (VInt.mono _) (VInt.mono _) co_int co_int co_int) (mono_ints _)
  have i5 : Co w A (eval (.List [.Constant (.int 1) 0 p17, .Constant (.int 0) 0 p18] p19) env) h (VInts [1, 0]) := co_list (rs := ([1, 0] : List Int).map VInt) (by decide) (co_args2 (VInt.mono _) (VInt.mono _) co_int co_int) (mono_ints _)
  rw [rulers_map]
  refine list5 ?_ ?_ ?_ ?_ ?_ ?_ ?_ ?_ ?_ ?_ ?_
  · exact VInts.mono [2, 0]
  · exact VInts.mono [1, 2, 0]
  · exact VInts.mono [3, 1, 127, 2]
  · exact VInts.mono [1, 1, 2]
  · exact VInts.mono [1, 0]
  · exact i1
  · exact i2
  · exact i3
  · exact i4
  · exact i5
  · exact star5 _ _ _ _ _ _ _ _ _ _ _
end
end Mine

namespace Mine

section
variable {w : World} {A : Around} {mg mb : Str → Option Value}

theorem pair2 {s₀ s : Shared} {L a : Addr} {cd : Value} {m cm : Str → Option Value} {x1 x2 : Nat} {t1 t2 : Tok} {vw : Value} {Q : Flow → Shared → Prop} {E : Value → Shared → Prop} (hh : A.handled = none) (hu : A.units + 64 < cLine) (hroom : A.depth + 1 < recursionLimit) (I : InC s₀ L (csL L) m cm s) (G : Gl mg mb s₀.heap)
    (c1 : cm (Str.ofString "one") = some (.int x1 t1)) (c2 : cm (Str.ofString "two") = some (.int x2 t2)) (cw : cm (Str.ofString "words") = some vw) (hw : VStrs [ten x1, ten x2, ten (x1 + x2)] vw s.heap) (pw : PW x1 x2) (k : ∀ s' m' cm', InC s₀ L (csL L) m' cm' s' → KeepBut (ownOf L (csL L)) s.heap s'.heap → Q .next s') :
    wpAny (Md w) A (exec lawR (envG 10 L a cd)) Q E s := by
  rw [lawR_eq]
  generalize hit0 : forI lawR = it
  replace hit0 := hit0.symm
  refine st_for (env := envG 10 L a cd) (own := ownOf L (csL L)) (n := 5) (Co.use (R := VList (rulers.map VInts)) (h₀ := s.heap) (co_rulers hit0) (Grow.refl _) fun xv s₃ rx e₃ => ?_) (fun x => fold_lawR hit0 _ x)
  have I₃ := I.ext e₃
  obtain ⟨its, pits, hit⟩ := iters_listV (w := w) (A := A) (target := .Name (Str.ofString "ruler") ⟨49, 12, 49, 17⟩) hh (Grow.refl s₃.heap) rx.weak
  have hs3 := I₃.soft (csL_u L)
  refine ⟨s₃.heap, _, fun _ i s' => ∃ m' cm', InC s₀ L (csL L) m' cm' s' ∧ KeepBut (ownOf L (csL L)) s₃.heap s'.heap ∧ cm' (Str.ofString "one") = some (.int x1 t1) ∧ cm' (Str.ofString "two") = some (.int x2 t2) ∧ cm' (Str.ofString "words") = some vw, Grow.refl _, hit, hs3, ?_, ?_, ?_, ?_⟩
  · intro s₄ e₄
    exact ⟨_, _, I₃.ext e₄, e₄.grow.but _, c1, c2, cw⟩
  · rintro _ i X c d hX hk hos hgs _ ⟨m', cm', I', kb, h1, h2, h3⟩
    exact ⟨m', cm', I'.stab I₃.I.F.keep I₃.lives.1 I₃.lives.2 (fun c x => (hX c x).1) hk hos hgs, fun b o hb e => hk b o (fun x => by rw [(hX b x).1] at e; cases e) (kb b o hb e), h1, h2, h3⟩
  · rintro _ j v s' hj ⟨m', cm', I', kb, h1, h2, h3⟩ hv
    obtain ⟨R, hR, hrv⟩ := Pw.get' pits (by rw [Array.getElem?_toList]; exact hv)
    rw [List.getElem?_map] at hR
    obtain ⟨r, hrj, rfl⟩ : ∃ r, rulers[j]? = some r ∧ R = VInts r := by
      cases e : rulers[j]? with
      | none => rw [e] at hR; cases hR
      | some r => rw [e] at hR; cases hR; exact ⟨r, rfl, rfl⟩
    refine wpAny_assign_Name (sto_cell (env := envG 10 L a cd) I' (csL_u L) rfl rfl rfl rfl fun s₅ I₅ k₅ => ?_)
    have gs₅ : GrowS s₃.heap s₅.heap := (kb.trans k₅).s hs3
    refine wnd (ruler_body (x1 := x1) (x2 := x2) (t1 := t1) (t2 := t2) (vw := vw) (vr := v) hh hu hroom I₅ G h1 h2 h3 rfl (VStrs.firm _ _ _ _ (e₃.grow.s.trans gs₅) hw) (VInts.firm _ _ _ _ gs₅ hrv) (pw.pl r (List.mem_of_getElem? hrj))) fun f s₆ ⟨hf, ⟨m₆, cm₆, I₆, hc₆⟩, k₆⟩ => ?_
    refine ⟨hf, ⟨m₆, cm₆, I₆, (kb.trans k₅).trans k₆, ?_, ?_, ?_⟩, k₅.trans k₆⟩
    · exact (hc₆ _ (by decide) (by decide) (by decide)).trans h1
    · exact (hc₆ _ (by decide) (by decide) (by decide)).trans h2
    · exact (hc₆ _ (by decide) (by decide) (by decide)).trans h3
  · rintro _ s' ⟨m', cm', I', kb, h1, h2, h3⟩
    exact k s' m' cm' I' ((e₃.grow.but _).trans kb)

end
end Mine

namespace Mine

section
variable {w : World} {A : Around} {mg mb : Str → Option Value}

theorem pair_body {s₀ s : Shared} {L a : Addr} {cd : Value} {m cm : Str → Option Value} {x1 x2 : Nat} {t1 t2 : Tok} (hh : A.handled = none) (hu : A.units + 64 < cLine) (hroom : A.depth + 1 < recursionLimit) (I : InC s₀ L (csL L) m cm s) (G : Gl mg mb s₀.heap)
    (c1 : cm (Str.ofString "one") = some (.int x1 t1)) (c2 : cm (Str.ofString "two") = some (.int x2 t2)) (pw : PW x1 x2) :
    wpAny (Md w) A (execs PB (envG 10 L a cd)) (fun f s' => f = .next ∧ (∃ m' cm', InC s₀ L (csL L) m' cm' s') ∧ KeepBut (ownOf L (csL L)) s.heap s'.heap) NoE s := by
  have e0 := PB_eq
  have p0 := @pair0 w A mg mb
  have p1 := @pair1 w A mg mb
  have p2 := @pair2 w A mg mb
  generalize PB.getD 0 (.Pass ⟨0, 0, 0, 0⟩) = b0 at *
  generalize PB.getD 1 (.Pass ⟨0, 0, 0, 0⟩) = b1 at *
  generalize lawR = b2 at *
  rw [e0]
  refine wpAny_execs_cons ?_
  refine p0 hh hu hroom I G c1 c2 pw fun vw s₁ I₁ k₁ hw₁ => ?_
  refine wpAny_execs_cons ?_
  refine p1 hh hu hroom I₁ G c1 c2 rfl hw₁ pw fun s₂ e₂ => ?_
  refine wpAny_execs_cons ?_
  refine p2 hh hu hroom (I₁.ext e₂) G c1 c2 rfl (VStrs.mono _ _ _ _ e₂.grow hw₁) pw fun s₃ m₃ cm₃ I₃ k₃ => ?_
  exact wpAny_execs_nil ⟨rfl, ⟨m₃, cm₃, I₃⟩, (k₁.trans (e₂.grow.but _)).trans k₃⟩
end
end Mine

namespace Mine

def numN (ns : List Int) (i : Nat) : Nat := ((bases.getD i 0 + (padded ns).getD i 0) % 16 ^ 8).toNat
theorem numN_lt (ns : List Int) (i : Nat) : numN ns i < 16 ^ 8 := by
  have h1 := Int.emod_lt_of_pos (bases.getD i 0 + (padded ns).getD i 0) (show (0 : Int) < 16 ^ 8 by decide)
  have h2 := Int.emod_nonneg (bases.getD i 0 + (padded ns).getD i 0) (show (16 ^ 8 : Int) ≠ 0 by decide)
  unfold numN
  generalize (bases.getD i 0 + (padded ns).getD i 0) % 16 ^ 8 = z at *
  have : (16 : Int) ^ 8 = ((16 ^ 8 : Nat) : Int) := by decide
  rw [this] at h1
  omega
theorem numN_cast (ns : List Int) (i : Nat) : (numN ns i : Int) = (bases.getD i 0 + (padded ns).getD i 0) % 16 ^ 8 :=
  Int.toNat_of_nonneg (Int.emod_nonneg _ (by decide))
theorem numbers_eq (ns : List Int) : numbersOf ns = [(numN ns 0 : Int), numN ns 1, numN ns 2, numN ns 3] := by
  simp only [numN_cast]
  rfl

def lawF : Stmt := (bodyOf (fnAt 10)).getD 1 (.Pass ⟨0, 0, 0, 0⟩)
theorem lawF_shape : ∃ (p1 p2 p3 : Pos) (k : Nat), lawF = .For (.Tuple [.Name (Str.ofString "one") p1, .Name (Str.ofString "two") p2] k p3) (forI lawF) PB [] (forPos lawF) := ⟨_, _, _, _, rfl⟩
theorem lawFI_shape : ∃ p1 p2 p3 p4 p5 p6 p7 p8 p9 : Pos, forI lawF = .List [.Subscript (.Name (Str.ofString "numbers") p1) (.Slice none (some (.Constant (.int 2) 0 p2)) none p3) p4, .Subscript (.Name (Str.ofString "numbers") p5) (.Slice (some (.Constant (.int 2) 0 p6)) none none p7) p8] p9 := ⟨_, _, _, _, _, _, _, _, _, rfl⟩
theorem law_shape : ∃ (p1 p2 : Pos), bodyOf (fnAt 10) = [(bodyOf (fnAt 10)).getD 0 (.Pass ⟨0, 0, 0, 0⟩), lawF, .Return (some (.Constant (.bool true) 0 p1)) p2] := ⟨_, _, rfl⟩
theorem fold_lawF {it : Expr} (hit : it = forI lawF) (env : Env) (x : Value) : foldedSetIterable it env x = pure x := by
  rw [hit]
  obtain ⟨p1, p2, p3, p4, p5, p6, p7, p8, p9, e⟩ := lawFI_shape
  rw [e]; exact fold_list _ _ _ _

section
variable {w : World} {A : Around} {mg mb : Str → Option Value}

theorem co_pairs {it : Expr} (hit : it = forI lawF) {L a : Addr} {cd : Value} {h : Heap} {v : Value} {n0 n1 n2 n3 : Int} (sv : Sees w A (envG 10 L a cd) h (Str.ofString "numbers") v) (hv : VInts [n0, n1, n2, n3] v h) :
    Co w A (eval it (envG 10 L a cd)) h (VList [VInts [n0, n1], VInts [n2, n3]]) := by
  rw [hit]
  obtain ⟨p1, p2, p3, p4, p5, p6, p7, p8, p9, e⟩ := lawFI_shape
  rw [e]
  have i1 : Co w A (eval (.Subscript (.Name (Str.ofString "numbers") p1) (.Slice none (some (.Constant (.int 2) 0 p2)) none p3) p4) (envG 10 L a cd)) h (VInts [n0, n1]) :=
    co_upto (rs := [n0, n1, n2, n3].map VInt) (n := 2) (mono_ints _) (Nat.le_of_ble_eq_true rfl) (co_nameR sv (VInts.mono [n0, n1, n2, n3]) hv) co_int
  have i2 : Co w A (eval (.Subscript (.Name (Str.ofString "numbers") p5) (.Slice (some (.Constant (.int 2) 0 p6)) none none p7) p8) (envG 10 L a cd)) h (VInts [n2, n3]) :=
    co_from (rs := [n0, n1, n2, n3].map VInt) (n := 2) (mono_ints _) (Nat.le_of_ble_eq_true rfl) (co_nameR sv (VInts.mono [n0, n1, n2, n3]) hv) co_int
  have m1 : Mono (VInts [n0, n1]) := VInts.mono [n0, n1]
  have m2 : Mono (VInts [n2, n3]) := VInts.mono [n2, n3]
  generalize VInts [n0, n1] = r1 at *
  generalize VInts [n2, n3] = r2 at *
  refine co_list (rs := [r1, r2]) (Nat.le_of_ble_eq_true rfl) ?_ ?_
  · exact co_args2 m1 m2 i1 i2
  · intro r hr
    simp only [List.mem_cons, List.not_mem_nil, or_false] at hr
    rcases hr with rfl | rfl <;> assumption

/-- a list of two ints -/
theorem two_ints {x y : Int} {v : Value} {h : Heap} (r : VInts [x, y] v h) : ∃ T t u, v = .ref T ∧ h.IsList T #[.int x t, .int y u] := by
  obtain ⟨a, its, e, hl, p⟩ := r
  have hl' := hl.isList
  obtain ⟨l⟩ := its
  match l, p with
  | [b, c], p =>
    obtain ⟨⟨t, rfl⟩, ⟨u, rfl⟩, _⟩ := p
    exact ⟨a, t, u, e, hl'⟩
  | [], p => exact p.elim
  | [_], p => exact p.2.elim
  | _ :: _ :: _ :: _, p => exact p.2.2.elim

theorem law_for {s₀ s : Shared} {L a : Addr} {cd : Value} {m cm : Str → Option Value} {v : Value} {n0 n1 n2 n3 : Nat} {Q : Flow → Shared → Prop} {E : Value → Shared → Prop} (hh : A.handled = none) (hu : A.units + 64 < cLine) (hroom : A.depth + 1 < recursionLimit) (I : InC s₀ L (csL L) m cm s) (G : Gl mg mb s₀.heap)
    (hm : m (Str.ofString "numbers") = some v) (hv : VInts [(n0 : Int), n1, n2, n3] v s.heap) (pw0 : PW n0 n1) (pw1 : PW n2 n3) (k : ∀ s' m' cm', InC s₀ L (csL L) m' cm' s' → Q .next s') :
    wpAny (Md w) A (exec lawF (envG 10 L a cd)) Q E s := by
  obtain ⟨p1, p2, p3, kk, e⟩ := lawF_shape
  rw [e]
  generalize hit0 : forI lawF = it
  replace hit0 := hit0.symm
  have hco := co_pairs (w := w) (A := A) (n0 := n0) (n1 := n1) (n2 := n2) (n3 := n3) hit0 (L := L) (a := a) (cd := cd) (sees_local rfl rfl I.I.F.ns hm) hv
  refine st_for (env := envG 10 L a cd) (own := ownOf L (csL L)) (n := 2) (Co.use (h₀ := s.heap) hco (Grow.refl _) fun xv s₃ rx e₃ => ?_) (fun x => fold_lawF hit0 _ x)
  have I₃ := I.ext e₃
  obtain ⟨its, pits, hit⟩ := iters_listV (w := w) (A := A) (target := .Tuple [.Name (Str.ofString "one") p1, .Name (Str.ofString "two") p2] kk p3) hh (Grow.refl s₃.heap) rx.weak
  have hs3 := I₃.soft (csL_u L)
  refine ⟨s₃.heap, _, fun _ i s' => ∃ m' cm', InC s₀ L (csL L) m' cm' s' ∧ KeepBut (ownOf L (csL L)) s₃.heap s'.heap, Grow.refl _, hit, hs3, ?_, ?_, ?_, ?_⟩
  · intro s₄ e₄
    exact ⟨_, _, I₃.ext e₄, e₄.grow.but _⟩
  · rintro _ i X c d hX hk hos hgs _ ⟨m', cm', I', kb⟩
    exact ⟨m', cm', I'.stab I₃.I.F.keep I₃.lives.1 I₃.lives.2 (fun c x => (hX c x).1) hk hos hgs, fun b o hb e => hk b o (fun x => by rw [(hX b x).1] at e; cases e) (kb b o hb e)⟩
  · rintro _ j v s' hj ⟨m', cm', I', kb⟩ hv
    obtain ⟨R, hR, hrv⟩ := Pw.get' pits (by rw [Array.getElem?_toList]; exact hv)
    have key : ∃ y1 y2 : Nat, R = VInts [(y1 : Int), y2] ∧ PW y1 y2 := by
      match j, hR with
      | 0, hR => cases hR; exact ⟨n0, n1, rfl, pw0⟩
      | 1, hR => cases hR; exact ⟨n2, n3, rfl, pw1⟩
      | j + 2, hR => cases hR
    obtain ⟨y1, y2, rfl, pw⟩ := key
    have gs' : GrowS s₃.heap s'.heap := kb.s hs3
    obtain ⟨T, t, u, rfl, hl⟩ := two_ints (VInts.firm [(y1 : Int), y2] _ _ _ gs' hrv)
    refine asg_list hh hl fun s₄ e₄ => ?_
    refine sto_cell (env := envG 10 L a cd) (I'.ext e₄) (csL_u L) rfl rfl rfl rfl fun s₅ I₅ k₅ => ?_
    refine sto_cell (env := envG 10 L a cd) I₅ (csL_u L) rfl rfl rfl rfl fun s₆ I₆ k₆ => ?_
    refine wnd (pair_body (x1 := y1) (x2 := y2) (t1 := t) (t2 := u) hh hu hroom I₆ G (by rfl) (by rfl) pw) fun f s₇ ⟨hf, ⟨m₇, cm₇, I₇⟩, k₇⟩ => ?_
    exact ⟨hf, ⟨m₇, cm₇, I₇, (((kb.trans (e₄.grow.but _)).trans k₅).trans k₆).trans k₇⟩, (((e₄.grow.but _).trans k₅).trans k₆).trans k₇⟩
  · rintro _ s' ⟨m', cm', I', kb⟩
    exact k s' m' cm' I'

theorem law_body {s₀ s : Shared} {L a : Addr} {cd : Value} {m cm : Str → Option Value} {ns : List Int} {v : Value} {E : Value → Shared → Prop} {Q : Flow → Shared → Prop} (hh : A.handled = none) (hu : A.units + 64 < cLine) (hroom : A.depth + 1 < recursionLimit) (I : InC s₀ L (csL L) m cm s) (G : Gl mg mb s₀.heap)
    (hm : m (Str.ofString "script") = some v) (hv : VListW (ns.map VInt) v s.heap) (hn : ns.length ≤ 100) (pw : ∀ x y : Nat, x < 16 ^ 8 → y < 16 ^ 8 → PW x y)
    (k : ∀ s' m' cm', InC s₀ L (csL L) m' cm' s' → Q (.ret (.bool true)) s') :
    wpAny (Md w) A (execs (bodyOf (fnAt 10)) (envG 10 L a cd)) Q E s := by
  obtain ⟨p1, p2, e⟩ := law_shape
  have h0 := fun (Q : Flow → Shared → Prop) => @law_numbers w A mg mb s₀ s L a cd m cm ns v Q E hh I (G.keeps I.I.F.keep) hm hv hn
  have h1 := @law_for w A mg mb
  generalize (bodyOf (fnAt 10)).getD 0 (.Pass ⟨0, 0, 0, 0⟩) = b0 at *
  generalize lawF = b1 at *
  rw [e]
  refine wpAny_execs_cons ?_
  refine h0 _ fun vn s₁ I₁ k₁ hn₁ => ?_
  rw [numbers_eq] at hn₁
  refine wpAny_execs_cons ?_
  refine h1 hh hu hroom I₁ G rfl hn₁ (pw _ _ (numN_lt _ _) (numN_lt _ _)) (pw _ _ (numN_lt _ _) (numN_lt _ _)) fun s₂ m₂ cm₂ I₂ => ?_
  refine wpAny_execs_cons ?_
  refine wpAny_Return_some ?_
  refine Co.use (R := VBool true) (h₀ := s₂.heap) co_bool (Grow.refl _) fun v s' r e => ?_
  cases r
  exact k s' _ _ (I₂.ext e)
end
end Mine

namespace Mine

/-- from the top: what the law's walk asks of the globals -/
theorem gl_of_top {p : Program} {loose : List Str} {mean : ExcName → Option Value} {mg mb : Str → Option Value} {h : Heap} (T : Top p loose mean mg mb h)
    (hf : ∀ i ∈ [1, 3, 5, 7, 8, 9], ∃ d ∈ recsOf p, d.name = nameOf (fnAt i) ∧ d.params = paramsOf (fnAt i) ∧ d.body = bodyOf (fnAt i) ∧ d.scope = scopeOf (fnAt i))
    (hc : valOf p (Str.ofString "CHAR_MAX") = some (.int 127))
    (hb : ∀ q ∈ btab, (Str.ofString q.1 ∉ startupNames ∧ Str.ofString q.1 ∉ loose ∧ Str.ofString q.1 ∉ (recsOf p).map (·.name) ∧ Str.ofString q.1 ∉ (litsOf p).map (·.1) ∧ Str.ofString q.1 ∉ (clssOf p loose).map (·.name)) ∧ Str.ofString q.1 ≠ Str.ofString "__name__" ∧ bootBuiltins (Str.ofString q.1) = some q.2) : Gl mg mb h := by
  refine ⟨⟨T.g, T.b, T.nolimit⟩, fun i hi => ?_, ?_, fun q hq => ?_⟩
  · obtain ⟨d, hd, e1, e2, e3, e4⟩ := hf i hi
    obtain ⟨a, o, pm, cd, doc, h1, h2, h3, h4⟩ := T.fn d hd
    rw [e1] at h1
    rw [e1, e2, e3, e4] at h3
    rw [e1] at h4
    exact ⟨a, h1, ⟨o, pm, cd, doc, h2, h3, h4⟩⟩
  · obtain ⟨v, h1, h2⟩ := T.const _ _ hc
    have r := h2 h
    cases r
    exact ⟨_, h1⟩
  · obtain ⟨⟨f1, f2, f3, f4, f5⟩, n1, n2⟩ := hb q hq
    exact ⟨T.free _ f1 f2 f3 f4 f5, (T.builtins _ n1).trans n2⟩

theorem caller_units (e : Env) : (callerA.deeper e).units + 64 < cLine := show 4 + 3 + 64 < 9900 by decide
theorem caller_depth (e : Env) : (callerA.deeper e).depth + 1 < recursionLimit := show 1 + 300 + 1 + 1 < 1000 by decide
theorem caller_handled (e : Env) : (callerA.deeper e).handled = none := rfl

section
variable {w : World} {mg mb : Str → Option Value}
theorem law_entry {name : Str} {params : Arguments} {body : List Stmt} {scope : Scope} {pm cd doc : Value} {a : Addr} {o : Obj} {s : Shared} {ns : List Int} {v : Value} {R : Result → Shared → Prop}
    (e1 : name = nameOf (fnAt 10)) (e2 : params = paramsOf (fnAt 10)) (e3 : body = bodyOf (fnAt 10)) (e4 : scope = scopeOf (fnAt 10))
    (ho : s.heap.get? a = some o) (hdata : o.data = .func (Calls.docDef name params body scope pm cd doc)) (hlim : s.heap.NoLimit) (hcd : s.heap.CodeRec cd name)
    (G : Gl mg mb s.heap) (hv : VListW (ns.map VInt) v s.heap) (hn : ns.length ≤ 100) (pw : ∀ x y : Nat, x < 16 ^ 8 → y < 16 ^ 8 → PW x y)
    (k : ∀ s', Ext s s' → R (.ok (.ret (.bool true))) s') : codeAny (Md w) callerA (.call (.ref a) ⟨[v], []⟩) R s := by
  subst e1 e2 e3 e4
  refine call_cells (by decide) ho hdata hlim hcd (binds := [(Str.ofString "script", v)]) (by rfl) (kinds_of (by kinds_ok)) (fun h₁ tk F X => ?_)
  have I : InC s s.heap.objs.size (csL s.heap.objs.size) _ _ { s with heap := h₁, toks := tk } := ⟨InF.start F, X⟩
  refine wpAny_mono (law_body (E := NoE) (ns := ns) (v := v) (Q := fun f s' => f = .ret (.bool true) ∧ Ext s s') (caller_handled _) (caller_units _) (caller_depth _) I G (by rfl) (VListW.mono (mono_ints ns) _ _ _ F.keep hv) hn pw fun s' m' cm' I' => ⟨rfl, I'.I.done⟩) ?_ fun _ _ x => x.elim
  rintro f s' ⟨rfl, e⟩
  exact k s' e
end
end Mine

namespace Mine

/-- the last k letters of a number -/
def tk : Nat → Nat → List Nat
  | 0, _ => []
  | k + 1, n => tk k (n / 16) ++ [65 + n % 16]
theorem tk_len : ∀ k n, (tk k n).length = k
  | 0, _ => rfl
  | k + 1, n => by rw [tk, List.length_append, tk_len k]; rfl
theorem tk_cons : ∀ k n, tk (k + 1) n = (65 + n / 16 ^ k % 16) :: tk k n
  | 0, n => by simp [tk]
  | k + 1, n => by
    rw [tk, tk_cons k (n / 16), List.cons_append, Nat.div_div_eq_div_mul, show 16 * 16 ^ k = 16 ^ (k + 1) by rw [Nat.pow_succ, Nat.mul_comm]]
    rfl
theorem tk_ten (n : Nat) : tenL n = tk 10 n := by
  rw [tk_cons 9, tk_cons 8, tk_cons 7, tk_cons 6, tk_cons 5, tk_cons 4, tk_cons 3, tk_cons 2, tk_cons 1, tk_cons 0]
  rfl
theorem tk_take : ∀ j s n, (tk (s + j) n).take s = tk s (n / 16 ^ j)
  | 0, s, n => by rw [Nat.add_zero, Nat.pow_zero, Nat.div_one, List.take_of_length_le (Nat.le_of_eq (tk_len s n))]
  | j + 1, s, n => by
    rw [show s + (j + 1) = (s + j) + 1 by omega, tk, List.take_append_of_le_length (by rw [tk_len]; omega), tk_take j s, Nat.div_div_eq_div_mul, show 16 * 16 ^ j = 16 ^ (j + 1) by rw [Nat.pow_succ, Nat.mul_comm]]
theorem tk_drop : ∀ j s n, (tk (j + s) n).drop j = tk s n
  | 0, s, n => by rw [Nat.zero_add, List.drop_zero]
  | j + 1, s, n => by rw [show j + 1 + s = (j + s) + 1 by omega, tk_cons, List.drop_succ_cons, tk_drop j s]
theorem tk_mod : ∀ s n, tk s (n % 16 ^ s) = tk s n
  | 0, _ => rfl
  | s + 1, n => by
    have h : (16 : Nat) ^ (s + 1) = 16 * 16 ^ s := by rw [Nat.pow_succ, Nat.mul_comm]
    rw [tk, tk, h, Nat.mod_mul_right_div_self, Nat.mod_mul_right_mod, tk_mod s (n / 16)]
theorem tk_lt : ∀ k n m, n < 16 ^ k → m < 16 ^ k → (tk k n < tk k m ↔ n < m)
  | 0, n, m, hn, hm => by
    have : n = 0 := by simpa using hn
    have : m = 0 := by simpa using hm
    subst n m
    simp [tk]
  | k + 1, n, m, hn, hm => by
    rw [tk_cons, tk_cons, List.cons_lt_cons_iff, ← tk_mod k n, ← tk_mod k m]
    have hp : 0 < 16 ^ k := Nat.pow_pos (by decide)
    rw [tk_lt k _ _ (Nat.mod_lt _ hp) (Nat.mod_lt _ hp)]
    rw [Nat.pow_succ] at hn hm
    have an : n / 16 ^ k < 16 := Nat.div_lt_of_lt_mul hn
    have am : m / 16 ^ k < 16 := Nat.div_lt_of_lt_mul hm
    have dn := Nat.div_add_mod n (16 ^ k)
    have dm := Nat.div_add_mod m (16 ^ k)
    have ln := Nat.mod_lt n hp
    have lm := Nat.mod_lt m hp
    generalize 16 ^ k = q at *
    rw [Nat.mod_eq_of_lt an, Nat.mod_eq_of_lt am]
    constructor
    · rintro (h | ⟨h, h'⟩)
      · exact Nat.lt_of_div_lt_div (c := q) (by omega)
      · have : n / q = m / q := by omega
        rw [this] at dn
        omega
    · intro h
      have h1 : n / q ≤ m / q := Nat.div_le_div_right (Nat.le_of_lt h)
      rcases Nat.lt_or_eq_of_le h1 with h2 | h2
      · left; omega
      · right
        refine ⟨by omega, ?_⟩
        rw [h2] at dn
        omega

theorem hexL_top : ∀ k n, n < 16 ^ k → (hexL (16 ^ k + n)).map (65 + ·) = 66 :: tk k n
  | 0, n, h => by
    have : n = 0 := by simpa using h
    subst n
    rw [hexL_pos (by decide)]
    simp [hexL_zero, tk]
  | k + 1, n, h => by
    have hp : 0 < 16 ^ k := Nat.pow_pos (by decide)
    rw [Nat.pow_succ] at h ⊢
    have h0 : 16 ^ k * 16 + n ≠ 0 := by omega
    rw [hexL_pos h0, List.map_append, show (16 ^ k * 16 + n) / 16 = 16 ^ k + n / 16 by omega, hexL_top k (n / 16) (by omega), show (16 ^ k * 16 + n) % 16 = n % 16 by omega]
    rfl
theorem dropWhile_all {α : Type} (p : α → Bool) : ∀ (l m : List α), l.dropWhile p = [] → (l ++ m).dropWhile p = m.dropWhile p
  | [], _, _ => rfl
  | a :: l, m, h => by
    rw [List.dropWhile_cons] at h
    rw [List.cons_append, List.dropWhile_cons]
    split at h
    · rename_i hp
      rw [if_pos hp]; exact dropWhile_all p l m h
    · cases h
theorem dropWhile_some {α : Type} (p : α → Bool) : ∀ (l m : List α), l.dropWhile p ≠ [] → (l ++ m).dropWhile p = l.dropWhile p ++ m
  | [], _, h => absurd rfl h
  | a :: l, m, h => by
    rw [List.dropWhile_cons] at h
    rw [List.cons_append, List.dropWhile_cons, List.dropWhile_cons]
    split at h
    · rename_i hp
      rw [if_pos hp, if_pos hp]; exact dropWhile_some p l m h
    · rename_i hp
      rw [if_neg hp, if_neg hp]; rfl
theorem tk_strip : ∀ k n, n < 16 ^ k → (tk k n).dropWhile (· == 65) = (hexL n).map (65 + ·)
  | 0, n, h => by
    have : n = 0 := by simpa using h
    subst n
    simp [tk, hexL_zero]
  | k + 1, n, h => by
    rw [Nat.pow_succ] at h
    have ih := tk_strip k (n / 16) (by omega)
    rw [tk]
    by_cases h0 : n / 16 = 0
    · rw [h0, hexL_zero] at ih
      rw [h0, dropWhile_all _ _ _ ih]
      by_cases h1 : n = 0
      · subst n; simp [hexL_zero]
      · rw [hexL_pos h1, h0, hexL_zero, List.dropWhile_cons]
        have : ¬ ((65 + n % 16 == 65) = true) := by simp; omega
        rw [if_neg this]; rfl
    · have hn : n ≠ 0 := by intro e; subst e; exact h0 rfl
      have : (tk k (n / 16)).dropWhile (· == 65) ≠ [] := by rw [ih, hexL_pos h0]; simp
      rw [dropWhile_some _ _ _ this, ih, hexL_pos hn, List.map_append]
      rfl
theorem tk_ok : ∀ k n, ∀ c ∈ tk k n, 65 ≤ c ∧ c < 81
  | 0, _, c, h => by cases h
  | k + 1, n, c, h => by
    rw [tk, List.mem_append] at h
    rcases h with h | h
    · exact tk_ok k _ c h
    · rw [List.mem_singleton] at h; omega
end Mine

namespace Mine

theorem ten_list {l : List Nat} (h : l.length = 10) : ∃ a b c d e f g i j k, l = [a, b, c, d, e, f, g, i, j, k] := by
  match l, h with
  | [a, b, c, d, e, f, g, i, j, k], _ => exact ⟨a, b, c, d, e, f, g, i, j, k, rfl⟩

def CutOk (r : List Int) : Prop := ∀ l : List Nat, l.length = 10 → cutOf r ⟨l.toArray⟩ = (List.range (sizesOf r).length).map fun i => pieceAt (sizesOf r) i ⟨l.toArray⟩
theorem cut1 : CutOk [2, 0] := fun l h => by obtain ⟨a, b, c, d, e, f, g, i, j, k, rfl⟩ := ten_list h; kernel_rfl
theorem cut2 : CutOk [1, 2, 0] := fun l h => by obtain ⟨a, b, c, d, e, f, g, i, j, k, rfl⟩ := ten_list h; kernel_rfl
theorem cut3 : CutOk [3, 1, 127, 2] := fun l h => by obtain ⟨a, b, c, d, e, f, g, i, j, k, rfl⟩ := ten_list h; kernel_rfl
theorem cut4 : CutOk [1, 1, 2] := fun l h => by obtain ⟨a, b, c, d, e, f, g, i, j, k, rfl⟩ := ten_list h; kernel_rfl
theorem cut5 : CutOk [1, 0] := fun l h => by obtain ⟨a, b, c, d, e, f, g, i, j, k, rfl⟩ := ten_list h; kernel_rfl

def SE (r : List Int) (i : Nat) : Prop := 0 ≤ (sizesOf r).getD i 0 ∧ (sizesOf r).getD i 0 ≤ (endsOf (sizesOf r)).getD i 0 ∧ (endsOf (sizesOf r)).getD i 0 ≤ 10
theorem rulers_se : ∀ r ∈ rulers, r.head? ≠ some 0 ∧ (yl 0 r 11).1.length ≤ 100 ∧ (sizesOf r).length ≤ 10 ∧ ∀ i, i < (sizesOf r).length → SE r i := by
  have h : ∀ r ∈ rulers, r.head? ≠ some 0 ∧ (yl 0 r 11).1.length ≤ 100 ∧ (sizesOf r).length ≤ 10 ∧ (List.range (sizesOf r).length).all (fun i => decide (0 ≤ (sizesOf r).getD i 0) && decide ((sizesOf r).getD i 0 ≤ (endsOf (sizesOf r)).getD i 0) && decide ((endsOf (sizesOf r)).getD i 0 ≤ 10)) = true := by decide +kernel
  intro r hr
  obtain ⟨h1, h2, h3, h4⟩ := h r hr
  refine ⟨h1, h2, h3, fun i hi => ?_⟩
  have := List.all_eq_true.mp h4 i (List.mem_range.mpr hi)
  simp only [Bool.and_eq_true, decide_eq_true_eq] at this
  exact ⟨this.1.1, this.1.2, this.2⟩

def EnOk (r : List Int) : Prop := ∀ l : List Nat, l.length = 10 → Enough (yl 0 r 11).1 (yl 0 r 11).2 ⟨l.toArray⟩
def enB : List Int → Bool → Str → Bool
  | [], f, _ => f
  | y :: l, f, x => x.length == 0 || enB l f (Txt.slice x none (some (-y)))
theorem enB_ok : ∀ (l : List Int) (f : Bool) (x : Str), enB l f x = true → Enough l f x
  | [], _, _, h => h
  | y :: l, f, x, h => by
    rcases Bool.or_eq_true_iff.mp h with h | h
    · exact .inl (beq_iff_eq.mp h)
    · exact .inr (enB_ok l f _ h)
theorem en1 : EnOk [2, 0] := fun l h => enB_ok _ _ _ (by obtain ⟨a, b, c, d, e, f, g, i, j, k, rfl⟩ := ten_list h; kernel_rfl)
theorem en2 : EnOk [1, 2, 0] := fun l h => enB_ok _ _ _ (by obtain ⟨a, b, c, d, e, f, g, i, j, k, rfl⟩ := ten_list h; kernel_rfl)
theorem en3 : EnOk [3, 1, 127, 2] := fun l h => enB_ok _ _ _ (by obtain ⟨a, b, c, d, e, f, g, i, j, k, rfl⟩ := ten_list h; kernel_rfl)
theorem en4 : EnOk [1, 1, 2] := fun l h => enB_ok _ _ _ (by obtain ⟨a, b, c, d, e, f, g, i, j, k, rfl⟩ := ten_list h; kernel_rfl)
theorem en5 : EnOk [1, 0] := fun l h => enB_ok _ _ _ (by obtain ⟨a, b, c, d, e, f, g, i, j, k, rfl⟩ := ten_list h; kernel_rfl)
theorem rulers_cut : ∀ r ∈ rulers, CutOk r ∧ EnOk r := by
  intro r hr
  simp only [rulers, List.mem_cons, List.not_mem_nil, or_false] at hr
  rcases hr with rfl | rfl | rfl | rfl | rfl
  · exact ⟨cut1, en1⟩
  · exact ⟨cut2, en2⟩
  · exact ⟨cut3, en3⟩
  · exact ⟨cut4, en4⟩
  · exact ⟨cut5, en5⟩
end Mine

namespace Mine

theorem ten_tk (n : Nat) : ten n = ⟨(tk 10 n).toArray⟩ := by rw [ten, tk_ten]
theorem tk_strOk {l : List Nat} (h : ∀ c ∈ l, c < 81) : PyData.strOk ⟨l.toArray⟩ = true := by
  show (l.toArray.all (· < 0x110000)) = true
  rw [List.all_toArray, List.all_eq_true]
  intro c hc
  have := h c hc
  simp; omega
theorem textOf_ap (n : Nat) : textOf (apL n).toArray = ⟨((hexL n).map (65 + ·)).toArray⟩ := by
  show (⟨((apL n).map (·.toNat)).toArray⟩ : Str) = _
  rw [apL, List.map_map]
  congr 2
  exact List.map_congr_left fun d hd => letter_nat d (hexL_lt n d hd)
theorem word_ten {x : Nat} (h : x < 16 ^ 10) : wordOf x = ten x := by
  unfold wordOf
  rw [textOf_ap, hexL_top 10 x h, ten_tk]
  have hl : (⟨(66 :: tk 10 x).toArray⟩ : Str).length = 11 := by show (66 :: tk 10 x).length = 11; rw [List.length_cons, tk_len]
  rw [slice_from_eq (b := 11) (by decide) (by rw [hl]; decide) (by rw [hl]; rfl)]
  show (⟨((tk 10 x).take 10).toArray⟩ : Str) = _
  rw [List.take_of_length_le (Nat.le_of_eq (tk_len 10 x))]

theorem drop_take {α : Type} (p : α → Bool) : ∀ l : List α, l.drop (l.takeWhile p).length = l.dropWhile p
  | [] => rfl
  | a :: l => by
    rw [List.takeWhile_cons, List.dropWhile_cons]
    split
    · rw [List.length_cons, List.drop_succ_cons, drop_take p l]
    · rfl
theorem strip_eq (l : List Nat) : Txt.lstripChars ⟨l.toArray⟩ (Str.ofString "A") = ⟨(l.dropWhile (· == 65)).toArray⟩ := by
  have hg : (Str.ofString "A").cps.contains = fun c => c == 65 := by
    funext c
    show (#[65] : Array Nat).contains c = _
    simp
    rfl
  show Txt.stripBy (Str.ofString "A").cps.contains true false ⟨l.toArray⟩ = _
  rw [PyProof.Rows.stripBy_eq, hg]
  show PySem.Builtin.Str.strSub ⟨l.toArray⟩ (l.takeWhile (· == 65)).length l.length = _
  rw [strSub_mk]
  show (⟨((l.drop (l.takeWhile (· == 65)).length).take (l.length - (l.takeWhile (· == 65)).length)).toArray⟩ : Str) = _
  rw [drop_take, List.take_of_length_le]
  rw [← drop_take, List.length_drop]
  exact Nat.le_refl _

theorem slice_ab (x : Nat) {s e : Int} (h0 : 0 ≤ s) (h1 : s ≤ e) (h2 : e ≤ 10) : Txt.slice (ten x) (some (10 - e)) (some (10 - e + s)) = ⟨(tk s.toNat (x / 16 ^ (e - s).toNat)).toArray⟩ := by
  rw [ten_tk]
  rw [beq_iff_eq.mp (slice_closes (x := ⟨(tk 10 x).toArray⟩) (i := 10 - e) (j := 10 - e + s) ⟨by omega, by omega, by show _ ≤ ((tk 10 x).length : Int); rw [tk_len]; omega⟩)]
  show (⟨(((tk 10 x).drop (10 - e).toNat).take (10 - e + s - (10 - e)).toNat).toArray⟩ : Str) = _
  have e1 : tk 10 x = tk ((10 - e).toNat + e.toNat) x := by congr 1; omega
  rw [e1, tk_drop, show (10 - e + s - (10 - e)).toNat = s.toNat by omega]
  have e2 : tk e.toNat x = tk (s.toNat + (e - s).toNat) x := by congr 1; omega
  rw [e2, tk_take]
theorem slice_a (x : Nat) {e : Int} (h0 : 0 ≤ e) (h2 : e ≤ 10) : Txt.slice (ten x) (some (10 - e)) none = ⟨(tk e.toNat x).toArray⟩ := by
  rw [ten_tk]
  have hl : ((⟨(tk 10 x).toArray⟩ : Str).length : Int) = 10 := by show ((tk 10 x).length : Int) = 10; rw [tk_len]; rfl
  rw [slice_from_eq (b := 10) (by omega) (by rw [hl]; omega) hl.symm]
  show (⟨(((tk 10 x).drop (10 - e).toNat).take (10 - (10 - e)).toNat).toArray⟩ : Str) = _
  have e1 : tk 10 x = tk ((10 - e).toNat + e.toNat) x := by congr 1; omega
  rw [e1, tk_drop, List.take_of_length_le (by rw [tk_len]; omega)]

theorem coll_tk (k n m : Nat) : coll ⟨(tk k n).toArray⟩ ⟨(tk k m).toArray⟩ = if m % 16 ^ k < n % 16 ^ k then 1 else if n % 16 ^ k < m % 16 ^ k then -1 else 0 := by
  have hp : 0 < 16 ^ k := Nat.pow_pos (by decide)
  have d1 : decide (tk k m < tk k n) = decide (m % 16 ^ k < n % 16 ^ k) := decide_eq_decide.mpr (by
    rw [← tk_mod k n, ← tk_mod k m]; exact tk_lt k (m % 16 ^ k) (n % 16 ^ k) (Nat.mod_lt _ hp) (Nat.mod_lt _ hp))
  have d2 : decide (tk k n < tk k m) = decide (n % 16 ^ k < m % 16 ^ k) := decide_eq_decide.mpr (by
    rw [← tk_mod k n, ← tk_mod k m]; exact tk_lt k (n % 16 ^ k) (m % 16 ^ k) (Nat.mod_lt _ hp) (Nat.mod_lt _ hp))
  show PyProof.Rows.b2i (decide (tk k m < tk k n)) - PyProof.Rows.b2i (decide (tk k n < tk k m)) = _
  rw [d1, d2]
  by_cases c1 : m % 16 ^ k < n % 16 ^ k
  · have c2 : ¬ n % 16 ^ k < m % 16 ^ k := by omega
    rw [if_pos c1, decide_eq_true c1, decide_eq_false c2]; rfl
  · by_cases c2 : n % 16 ^ k < m % 16 ^ k
    · rw [if_neg c1, if_pos c2, decide_eq_false c1, decide_eq_true c2]; rfl
    · rw [if_neg c1, if_neg c2, decide_eq_false c1, decide_eq_false c2]; rfl
theorem carry_tk (k x y : Nat) : coll ⟨(tk k (x + y)).toArray⟩ ⟨(tk k x).toArray⟩ = if 16 ^ k ≤ x % 16 ^ k + y % 16 ^ k then -1 else if y % 16 ^ k = 0 then 0 else 1 := by
  have hp : 0 < 16 ^ k := Nat.pow_pos (by decide)
  rw [coll_tk, Nat.add_mod]
  have lx := Nat.mod_lt x hp
  have ly := Nat.mod_lt y hp
  generalize x % 16 ^ k = a at *
  generalize y % 16 ^ k = b at *
  generalize 16 ^ k = q at *
  by_cases h : q ≤ a + b
  · have : (a + b) % q = a + b - q := by rw [Nat.mod_eq_sub_mod h, Nat.mod_eq_of_lt (by omega)]
    rw [this, if_pos h, if_neg (by omega), if_pos (by omega)]
  · rw [Nat.mod_eq_of_lt (by omega), if_neg h]
    by_cases h0 : b = 0
    · rw [if_pos h0, if_neg (by omega), if_neg (by omega)]
    · rw [if_neg h0, if_pos (by omega)]

theorem pl_of {r : List Int} {x1 x2 : Nat} (hr : r ∈ rulers) : PL r x1 x2 := by
  obtain ⟨h0, hy, hS, hSE⟩ := rulers_se r hr
  obtain ⟨hc, he⟩ := rulers_cut r hr
  have hcut : ∀ x, cutOf r (ten x) = (List.range (sizesOf r).length).map fun i => pieceAt (sizesOf r) i (ten x) := fun x => by
    rw [ten_tk]; exact hc _ (tk_len 10 x)
  have hpiece : ∀ x i, i < (sizesOf r).length → pieceAt (sizesOf r) i (ten x) = ⟨(tk ((sizesOf r).getD i 0).toNat (x / 16 ^ ((endsOf (sizesOf r)).getD i 0 - (sizesOf r).getD i 0).toNat)).toArray⟩ := fun x i hi => by
    obtain ⟨a, b, c⟩ := hSE i hi
    exact slice_ab x a b c
  have hlen : ∀ x, (ten x).length = 10 := fun x => by rw [ten_tk]; exact tk_len 10 x
  have hlaw3 : ∀ x i, i < (sizesOf r).length → tellAt (sizesOf r) i x = Txt.lstripChars (pieceAt (sizesOf r) i (ten x)) (Str.ofString "A") := fun x i hi => by
    rw [hpiece x i hi, strip_eq, tellAt, textOf_ap, ← tk_mod, tk_strip _ _ (Nat.mod_lt _ (Nat.pow_pos (by decide)))]
  have hlaw4 : ∀ i, i < (sizesOf r).length → collAt (sizesOf r) i (ten (x1 + x2)) (ten x1) = carryAt (sizesOf r) i x1 x2 := fun i hi => by
    obtain ⟨a, b, c⟩ := hSE i hi
    rw [collAt, carryAt, slice_a _ (by omega) c, slice_a _ (by omega) c, carry_tk]
  refine ⟨ruler_ok r hr, h0, hy, ?_, hS, fun i hi => hSE i hi, ?_, ?_, ?_, ?_⟩
  · intro x hx
    have : ∃ n, x = ten n := by
      simp only [List.mem_cons, List.not_mem_nil, or_false] at hx
      rcases hx with rfl | rfl | rfl <;> exact ⟨_, rfl⟩
    obtain ⟨n, rfl⟩ := this
    refine ⟨by rw [hlen]; decide, ?_⟩
    rw [ten_tk]; exact he _ (tk_len 10 n)
  · intro x hx
    have : ∃ n, x = ten n := by
      simp only [List.mem_cons, List.not_mem_nil, or_false] at hx
      rcases hx with rfl | rfl | rfl <;> exact ⟨_, rfl⟩
    obtain ⟨n, rfl⟩ := this
    rw [hcut]
    refine ⟨by rw [List.length_map, List.length_range]; omega, fun y hy => ?_⟩
    obtain ⟨i, hi, rfl⟩ := List.mem_map.mp hy
    have hi := List.mem_range.mp hi
    obtain ⟨a, b, c⟩ := hSE i hi
    rw [hpiece n i hi]
    refine ⟨?_, tk_strOk fun c hc => (tk_ok _ _ c hc).2, ?_⟩
    · show (tk _ _).length ≤ 100
      rw [tk_len]; omega
    · rw [strip_eq]
      exact tk_strOk fun c hc => (tk_ok _ _ c ((List.dropWhile_sublist _).mem hc)).2
  · intro x hx
    have : ∃ n, x = ten n := by
      simp only [List.mem_cons, List.not_mem_nil, or_false] at hx
      rcases hx with rfl | rfl | rfl <;> exact ⟨_, rfl⟩
    obtain ⟨n, rfl⟩ := this
    exact hcut n
  · intro x _
    rw [hcut, List.map_map]
    refine List.map_congr_left fun i hi => ?_
    rw [Function.comp_apply]
    rw [hlaw3 x i (List.mem_range.mp hi)]
  · exact hlaw4

theorem pw_all : ∀ x y : Nat, x < 16 ^ 8 → y < 16 ^ 8 → PW x y := by
  intro x y hx hy
  have lt : ∀ n ∈ [x, y, x + y], n < 16 ^ 10 := by
    intro n hn
    simp only [List.mem_cons, List.not_mem_nil, or_false] at hn
    rcases hn with rfl | rfl | rfl <;> omega
  exact ⟨lt, fun n hn => word_ten (lt n hn), fun n _ => by rw [ten_tk]; exact tk_strOk fun c hc => (tk_ok _ _ c hc).2, fun r hr => pl_of hr⟩
end Mine

set_option maxRecDepth 100000 in
set_option maxHeartbeats 8000000 in
theorem PySem.Challenge.cw_pe0025_01_holds : PySem.Challenge.rw_pe0025_01.Holds := by
  w_on; o_law; k_head; (case hw => w_witness2)
  k_fill
  intro w s₀ s₁ mg mb G Y fa o pm cd doc dV kV ho hd hcd hD hmg hg args vals as hpre hlay hrd hwl hlo
  refine Ground.open G ?_
  intro T B D TE TW
  clear hmg
  wrow_args hpre hlay hrd hwl hlo
  refine enter_call ?_
  have he := Dflts.none hD rfl
  subst he
  have he := Dflts.noKw hD
  subst he
  rename Heap.IsList _ _ _ => hL
  rename IntsAre _ _ => hI
  rename ¬ _ < _ => hlen
  have Gm : Mine.Gl mg mb s₁.heap := by
    refine Mine.gl_of_top T (fun i hi => ?_) ?_ ?_
    · simp only [List.mem_cons, List.not_mem_nil, or_false] at hi
      rcases hi with rfl | rfl | rfl | rfl | rfl | rfl
      · exact ⟨_, List.mem_of_getElem? (i := 0) rfl, rfl, rfl, rfl, rfl⟩
      · exact ⟨_, List.mem_of_getElem? (i := 1) rfl, rfl, rfl, rfl, rfl⟩
      · exact ⟨_, List.mem_of_getElem? (i := 2) rfl, rfl, rfl, rfl, rfl⟩
      · exact ⟨_, List.mem_of_getElem? (i := 3) rfl, rfl, rfl, rfl, rfl⟩
      · exact ⟨_, List.mem_of_getElem? (i := 4) rfl, rfl, rfl, rfl, rfl⟩
      · exact ⟨_, List.mem_of_getElem? (i := 5) rfl, rfl, rfl, rfl, rfl⟩
    · rfl
    · decide +kernel
  refine Mine.law_entry rfl rfl rfl rfl ho hd (Top.nolimit T) hcd Gm ⟨_, _, rfl, hL, Mine.ints_pw hI⟩ (by omega) Mine.pw_all fun s' e => ?_
  exact ⟨.inl ⟨_, _, _, rfl, raisesW_false (fun _ h => nomatch h), .bool true, postW_of (by wrow_shape) (by wtm_val) (by w_fin), unshared_nil⟩, .of_keep e.grow, e.os, e.gens.bare (.of_eq hg)⟩
