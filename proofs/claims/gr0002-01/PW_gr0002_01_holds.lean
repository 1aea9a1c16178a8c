import PyProof.Rows.All
import Wide.All
import OpenK.AllK
import Wide.FinOn
import PyProof.FactsAll.tuple_2
import PyProof.FactsAll.list_3
import PyProof.AutoSeq1
import KE.KListMore
import PyProof.DictItems
import PyProof.DictValues
import PyProof.DictTruth
import PyProof.DictWalks
import PyProof.TupleKey
import PyProof.DictRoadsH
import PyProof.Rows.EqMixed
import PyProof.IsiPairs
import PyProof.AssignAttr
import PyProof.WalksPairs
import PyProof.SliceMore
import PyProof.Rows.SortShell
import KE.KSortTup
import KE.KEqDict
import PyProof.Rows.ZipGen
import PyProof.Rows.TupAssign
import PyProof.Rows.TupDisplay
import PySem.Challenge.RW_gr0002_01
open PySem PySem.W PyProof.Rows PySem.Calls
set_option Elab.async false
set_option linter.all false
set_option maxRecDepth 100000
set_option maxHeartbeats 8000000
namespace Mine
open_top hd for PySem.Challenge.rw_gr0002_01
end Mine

namespace Mine

/-! the surroundings: room for n more calls -/
def AOk (n : Nat) (A : Around) : Prop := A.handled = none ∧ A.depth + n ≤ 900 ∧ A.units + 100 * n ≤ 9000

theorem AOk.hh {n : Nat} {A : Around} (h : AOk n A) : A.handled = none := h.1
theorem AOk.deeper {n : Nat} {A : Around} (h : AOk (n + 1) A) (env : Env) : AOk n (A.deeper env) := by
  obtain ⟨a, b, c⟩ := h
  refine ⟨a, ?_, ?_⟩
  · rw [depth_deeper]; omega
  · rw [units_deeper]; omega
theorem AOk.in1 {n : Nat} {A : Around} (h : AOk (n + 1) A) : AOk n A.in1 := by
  obtain ⟨a, b, c⟩ := h
  refine ⟨a, ?_, ?_⟩
  · rw [depth_in1]; omega
  · rw [units_in1]; omega
theorem AOk.le {n k : Nat} {A : Around} (h : AOk n A) (hk : k ≤ n) : AOk k A := by
  obtain ⟨a, b, c⟩ := h
  refine ⟨a, ?_, ?_⟩ <;> omega
theorem AOk.room {n : Nat} {A : Around} (h : AOk n A) : A.depth < recursionLimit := by
  obtain ⟨a, b, c⟩ := h
  show A.depth < 1000
  omega
theorem AOk.units {n : Nat} {A : Around} (h : AOk n A) : A.units + 65 < cLine := by
  obtain ⟨a, b, c⟩ := h
  rw [cLine_is]; omega
theorem AOk.units0 {n : Nat} {A : Around} (h : AOk n A) : A.units < cLine := by
  obtain ⟨a, b, c⟩ := h
  rw [cLine_is]; omega

/-! the heap only grows -/
def Ext (h h' : Heap) : Prop := ∀ b o, h.get? b = some o → h'.get? b = some o
theorem Ext.rfl {h : Heap} : Ext h h := fun _ _ e => e
theorem Ext.trans {h h' h'' : Heap} (a : Ext h h') (b : Ext h' h'') : Ext h h'' := fun x o e => b x o (a x o e)

theorem K.rfl {s : Shared} : Keeps s s := ⟨s.heap, s.toks, by cases s; rfl, fun _ _ e => e⟩
theorem K.tok {s : Shared} {t : Nat} : Keeps s { s with toks := t } := ⟨s.heap, t, by cases s; rfl, fun _ _ e => e⟩
theorem K.mk {s : Shared} {h : Heap} {t : Nat} (e : Ext s.heap h) : Keeps s { s with heap := h, toks := t } := ⟨h, t, by cases s; rfl, e⟩
theorem K.mkh {s : Shared} {h : Heap} (e : Ext s.heap h) : Keeps s { s with heap := h } := ⟨h, s.toks, by cases s; rfl, e⟩
theorem K.trans {s s' s'' : Shared} (a : Keeps s s') (b : Keeps s' s'') : Keeps s s'' := by
  obtain ⟨h1, t1, rfl, k1⟩ := a
  obtain ⟨h2, t2, rfl, k2⟩ := b
  exact ⟨h2, t2, by cases s; rfl, fun x o e => k2 x o (k1 x o e)⟩
theorem K.ext {s s' : Shared} (a : Keeps s s') : Ext s.heap s'.heap := by
  obtain ⟨h1, t1, rfl, k1⟩ := a
  exact k1

section
variable {prog : Program} {w : World} {A : Around} {env : Env} {s₀ s₁ : Shared} {α β : Type}

/-- a tree that only lets the heap grow, and what it hands on -/
def Em (prog : Program) (w : World) (A : Around) (t : Sem α) (s₀ : Shared) (P : α → Shared → Prop) : Prop :=
  ∀ (s : Shared) (E : Value → Shared → Prop), Keeps s₀ s → wpAny (model prog w) A t (fun v s' => Keeps s s' ∧ P v s') E s

abbrev Ev (prog : Program) (w : World) (A : Around) (env : Env) (e : Expr) (s₀ : Shared) (P : Value → Prop) : Prop :=
  Em prog w A (eval e env) s₀ (fun v _ => P v)
abbrev EvT (prog : Program) (w : World) (A : Around) (env : Env) (e : Expr) (s₀ : Shared) (b : Bool) : Prop :=
  Em prog w A (isTrue e env (eval e env)) s₀ (fun v _ => v = b)

theorem Em.use {t : Sem α} {P : α → Shared → Prop} {s : Shared} {Q : α → Shared → Prop} {E : Value → Shared → Prop} (h : Em prog w A t s₀ P) (k : Keeps s₀ s)
    (hQ : ∀ v s', Keeps s s' → P v s' → Q v s') : wpAny (model prog w) A t Q E s :=
  wpAny_mono (h s E k) (fun v s' x => hQ v s' x.1 x.2) fun _ _ e => e

theorem Em.at {t : Sem α} {P : α → Shared → Prop} (h : Em prog w A t s₀ P) (k : Keeps s₀ s₁) : Em prog w A t s₁ P := fun s E k' => h s E (K.trans k k')

theorem Em.mono {t : Sem α} {P P' : α → Shared → Prop} (h : Em prog w A t s₀ P) (hp : ∀ v s, Keeps s₀ s → P v s → P' v s) : Em prog w A t s₀ P' :=
  fun s E k => wpAny_mono (h s E k) (fun v s' x => ⟨x.1, hp v s' (K.trans k x.1) x.2⟩) fun _ _ e => e

theorem Em.pur {v : α} {P : α → Shared → Prop} (h : ∀ s, Keeps s₀ s → P v s) : Em prog w A (Pure.pure v) s₀ P :=
  fun s _ k => wpAny_pure ⟨K.rfl, h s k⟩

theorem Em.bnd {t : Sem α} {f : α → Sem β} {P : α → Shared → Prop} {R : β → Shared → Prop} (h : Em prog w A t s₀ P)
    (hf : ∀ v s₁, Keeps s₀ s₁ → P v s₁ → Em prog w A (f v) s₁ R) : Em prog w A (t >>= f) s₀ R :=
  fun s E k => wpAny_bind (wpAny_mono (h s E k) (fun v s' x => wpAny_mono (hf v s' (K.trans k x.1) x.2 s' E K.rfl) (fun _ _ y => ⟨K.trans x.1 y.1, y.2⟩) fun _ _ e => e) fun _ _ e => e)

/-- from a rule of the kit: the tree in any state behind s₀ -/
theorem Em.of {t : Sem α} {P : α → Shared → Prop} (h : ∀ (s : Shared) (Q : α → Shared → Prop) (E : Value → Shared → Prop), Keeps s₀ s → (∀ v s', Keeps s s' → P v s' → Q v s') → wpAny (model prog w) A t Q E s) :
    Em prog w A t s₀ P := fun s E k => h s _ E k fun v s' k' p => ⟨k', p⟩

/-- an int -/
def I (i : Int) (v : Value) : Prop := ∃ t, v = .int i t
/-- a bool -/
def Bo (b : Bool) (v : Value) : Prop := v = .bool b
/-- a reference to a -/
def R (a : Addr) (v : Value) : Prop := v = .ref a

/-! names -/
theorem Ev.local {x : Str} {pos : Pos} {m : Str → Option Value} {v : Value} {P : Value → Prop} (hn : s₀.heap.Ns env.locals m) (hv : m x = some v) (hP : P v) (hk : env.scope.kind = .function := by rfl) (hl : env.kindOf x = some .local := by rfl)
    (hd : (x == ("__debug__" : Str)) = false := by decide) : Ev prog w A env (.Name x pos) s₀ P :=
  Em.of fun s Q _ k hQ => wpAny_Name (wpAny_loadName_local hk hl (hn.keeps (K.ext k)) hv (hQ _ _ K.rfl hP)) hd

theorem isCell_ext {h h' : Heap} {c : Addr} {v : Option Value} (x : h.IsCell c v) (e : Ext h h') : h'.IsCell c v := x.keeps e

theorem Ev.cell {x : Str} {pos : Pos} {c : Addr} {v : Value} {P : Value → Prop} (hc : env.cells.lookup x = some c) (hv : s₀.heap.IsCell c (some v)) (hP : P v) (hk : env.scope.kind = .function := by rfl) (hl : env.kindOf x = some .cell := by rfl)
    (hd : (x == ("__debug__" : Str)) = false := by decide) : Ev prog w A env (.Name x pos) s₀ P :=
  Em.of fun s Q _ k hQ => wpAny_Name (wpAny_loadName_cell hk hl hc (hv.keeps (K.ext k)) (hQ _ _ K.rfl hP)) hd

theorem Ev.glob {x : Str} {pos : Pos} {mg : Str → Option Value} {v : Value} {P : Value → Prop} (hn : s₀.heap.Ns env.globals mg) (hv : mg x = some v) (hP : P v) (hk : env.scope.kind = .function := by rfl) (hl : env.kindOf x = some .globalImplicit := by rfl)
    (hd : (x == ("__debug__" : Str)) = false := by decide) : Ev prog w A env (.Name x pos) s₀ P :=
  Em.of fun s Q _ k hQ => Name_function_global hk hl (loadGlobal_global (hn.keeps (K.ext k)) hv (hQ _ _ K.rfl hP)) hd

theorem Ev.built {x : Str} {pos : Pos} {mg mb : Str → Option Value} {v : Value} {P : Value → Prop} (hn : s₀.heap.Ns env.globals mg) (hv : mg x = none) (hb : s₀.heap.Ns env.builtins mb) (hv' : mb x = some v) (hP : P v) (hk : env.scope.kind = .function := by rfl) (hl : env.kindOf x = some .globalImplicit := by rfl)
    (hd : (x == ("__debug__" : Str)) = false := by decide) : Ev prog w A env (.Name x pos) s₀ P :=
  Em.of fun s Q _ k hQ => Name_function_global hk hl (loadGlobal_builtin (hn.keeps (K.ext k)) hv (hb.keeps (K.ext k)) hv' (hQ _ _ K.rfl hP)) hd

/-! constants -/
theorem Ev.int {i : Int} {k : Nat} {pos : Pos} : Ev prog w A env (.Constant (.int i) k pos) s₀ (I i) :=
  Em.of fun s Q _ _ hQ => wpAny_Constant_int (hQ _ _ K.tok ⟨_, rfl⟩)
theorem Ev.cNone {k : Nat} {pos : Pos} : Ev prog w A env (.Constant .none k pos) s₀ (fun v => v = .none) :=
  Em.of fun s Q _ _ hQ => wpAny_Constant_none (hQ _ _ K.rfl rfl)
theorem Ev.str {x : String} {k : Nat} {pos : Pos} (hx : (Str.ofString x).length ≤ sizeLine := by decide) : Ev prog w A env (.Constant (.str (Str.ofString x)) k pos) s₀ (fun v => ∃ t, v = .str (Str.ofString x) t) :=
  Em.of fun s Q _ _ hQ => wpAny_Constant_str (hQ _ _ K.tok ⟨_, rfl⟩)

/-! int operators -/
theorem Ev.bin {l r : Expr} {op : Operator} {pos : Pos} {P P' R : Value → Prop} (h1 : Ev prog w A env l s₀ P) (h2 : Ev prog w A env r s₀ P')
    (h : ∀ a b s, Keeps s₀ s → P a → P' b → Em prog w A (binaryOp op a b) s (fun v _ => R v)) : Ev prog w A env (.BinOp l op r pos) s₀ R :=
  Em.of fun s Q E k hQ => wpAny_BinOp (h1.use k fun a s₁ k₁ p₁ => h2.use (K.trans k k₁) fun b s₂ k₂ p₂ =>
    (h a b s₂ (K.trans k (K.trans k₁ k₂)) p₁ p₂).use K.rfl fun v s₃ k₃ p₃ => hQ v s₃ (K.trans k₁ (K.trans k₂ k₃)) p₃)

theorem Ev.add {l r : Expr} {pos : Pos} {a b : Int} (h1 : Ev prog w A env l s₀ (I a)) (h2 : Ev prog w A env r s₀ (I b)) : Ev prog w A env (.BinOp l .Add r pos) s₀ (I (a + b)) :=
  Ev.bin h1 h2 fun _ _ _ _ ⟨_, e⟩ ⟨_, e'⟩ => by subst e e'; exact Em.of fun s Q _ _ hQ => add_int (hQ _ _ K.tok ⟨_, rfl⟩)
theorem Ev.sub {l r : Expr} {pos : Pos} {a b : Int} (h1 : Ev prog w A env l s₀ (I a)) (h2 : Ev prog w A env r s₀ (I b)) : Ev prog w A env (.BinOp l .Sub r pos) s₀ (I (a - b)) :=
  Ev.bin h1 h2 fun _ _ _ _ ⟨_, e⟩ ⟨_, e'⟩ => by subst e e'; exact Em.of fun s Q _ _ hQ => sub_int (hQ _ _ K.tok ⟨_, rfl⟩)
theorem Ev.mul {l r : Expr} {pos : Pos} {a b : Int} (h1 : Ev prog w A env l s₀ (I a)) (h2 : Ev prog w A env r s₀ (I b)) (h : IntMulOk a b) : Ev prog w A env (.BinOp l .Mult r pos) s₀ (I (a * b)) :=
  Ev.bin h1 h2 fun _ _ _ _ ⟨_, e⟩ ⟨_, e'⟩ => by subst e e'; exact Em.of fun s Q _ _ hQ => mul_int (hQ _ _ K.tok ⟨_, rfl⟩) h
theorem Ev.mod {l r : Expr} {pos : Pos} {a b : Int} (h1 : Ev prog w A env l s₀ (I a)) (h2 : Ev prog w A env r s₀ (I b)) (h : 0 < b) : Ev prog w A env (.BinOp l .Mod r pos) s₀ (I (a % b)) :=
  Ev.bin h1 h2 fun _ _ _ _ ⟨_, e⟩ ⟨_, e'⟩ => by
    subst e e'
    refine Em.of fun s Q _ _ hQ => mod_int' (by omega) (hQ _ _ K.tok ⟨s.toks, ?_⟩)
    rw [Int.fmod_eq_emod_of_nonneg _ (by omega)]
theorem Ev.fdiv {l r : Expr} {pos : Pos} {a b : Int} (h1 : Ev prog w A env l s₀ (I a)) (h2 : Ev prog w A env r s₀ (I b)) (h : 0 < b) (hp : Builtin.divisionGoesByPylong a b = false) : Ev prog w A env (.BinOp l .FloorDiv r pos) s₀ (I (a / b)) :=
  Ev.bin h1 h2 fun _ _ _ _ ⟨_, e⟩ ⟨_, e'⟩ => by
    subst e e'
    refine Em.of fun s Q _ _ hQ => floordiv_int (by omega) (hQ _ _ K.tok ⟨s.toks, ?_⟩) (Or.inl hp)
    rw [Int.fdiv_eq_ediv_of_nonneg _ (by omega)]
theorem Ev.pow {l r : Expr} {pos : Pos} {a b : Int} (h1 : Ev prog w A env l s₀ (I a)) (h2 : Ev prog w A env r s₀ (I b)) (h : 0 ≤ b) (hb : (Builtin.Int.intBits a : Int) * b ≤ 2 ^ 27) : Ev prog w A env (.BinOp l .Pow r pos) s₀ (I (a ^ b.toNat)) :=
  Ev.bin h1 h2 fun _ _ _ _ ⟨_, e⟩ ⟨_, e'⟩ => by subst e e'; exact Em.of fun s Q _ _ hQ => pow_int h hb (hQ _ _ K.tok ⟨_, rfl⟩)

/-! comparisons -/
def Cm (prog : Program) (w : World) (A : Around) (env : Env) (l : Expr) (op : CmpOp) (r : Expr) (s₀ : Shared) (b : Bool) : Prop :=
  behindInMarks op r = false ∧ ∃ P P' : Value → Prop, Ev prog w A env l s₀ P ∧ Ev prog w A env r s₀ P' ∧ ∀ x y s, Keeps s₀ s → P x → P' y → Em prog w A (compareOp op x y) s (fun v _ => v = .bool b)

theorem Ev.cmp {l r : Expr} {op : CmpOp} {pos : Pos} {b : Bool} (h : Cm prog w A env l op r s₀ b) : Ev prog w A env (.Compare l [op] [r] pos) s₀ (Bo b) := by
  obtain ⟨hm, P, P', h1, h2, h⟩ := h
  exact Em.of fun s Q E k hQ => wpAny_Compare1 (h1.use k fun a s₁ k₁ p₁ => h2.use (K.trans k k₁) fun b s₂ k₂ p₂ =>
    (h a b s₂ (K.trans k (K.trans k₁ k₂)) p₁ p₂).use K.rfl fun v s₃ k₃ p₃ => hQ v s₃ (K.trans k₁ (K.trans k₂ k₃)) p₃) hm
theorem EvT.cmp {l r : Expr} {op : CmpOp} {pos : Pos} {b : Bool} (h : Cm prog w A env l op r s₀ b) : EvT prog w A env (.Compare l [op] [r] pos) s₀ b := by
  obtain ⟨hm, P, P', h1, h2, h⟩ := h
  exact Em.of fun s Q E k hQ => wpAny_isTrue_Compare1 (h1.use k fun a s₁ k₁ p₁ => h2.use (K.trans k k₁) fun b s₂ k₂ p₂ =>
    (h a b s₂ (K.trans k (K.trans k₁ k₂)) p₁ p₂).use K.rfl fun v s₃ k₃ p₃ => by subst p₃; exact wpAny_truthy_bool (hQ _ s₃ (K.trans k₁ (K.trans k₂ k₃)) rfl)) hm

theorem Cm.eq {l r : Expr} {a b : Int} (h1 : Ev prog w A env l s₀ (I a)) (h2 : Ev prog w A env r s₀ (I b)) (hm : behindInMarks .Eq r = false := by with_unfolding_all rfl) : Cm prog w A env l .Eq r s₀ (a == b) :=
  ⟨hm, _, _, h1, h2, fun _ _ _ _ ⟨_, e⟩ ⟨_, e'⟩ => by subst e e'; exact Em.of fun s Q _ _ hQ => eq_int (hQ _ _ K.rfl rfl)⟩
theorem Cm.ne {l r : Expr} {a b : Int} (h1 : Ev prog w A env l s₀ (I a)) (h2 : Ev prog w A env r s₀ (I b)) (hm : behindInMarks .NotEq r = false := by with_unfolding_all rfl) : Cm prog w A env l .NotEq r s₀ (a != b) :=
  ⟨hm, _, _, h1, h2, fun _ _ _ _ ⟨_, e⟩ ⟨_, e'⟩ => by subst e e'; exact Em.of fun s Q _ _ hQ => ne_int (hQ _ _ K.rfl rfl)⟩
theorem Cm.lt {l r : Expr} {a b : Int} (h1 : Ev prog w A env l s₀ (I a)) (h2 : Ev prog w A env r s₀ (I b)) (hm : behindInMarks .Lt r = false := by with_unfolding_all rfl) : Cm prog w A env l .Lt r s₀ (decide (a < b)) :=
  ⟨hm, _, _, h1, h2, fun _ _ _ _ ⟨_, e⟩ ⟨_, e'⟩ => by subst e e'; exact Em.of fun s Q _ _ hQ => lt_int (hQ _ _ K.rfl rfl)⟩
theorem Cm.gt {l r : Expr} {a b : Int} (h1 : Ev prog w A env l s₀ (I a)) (h2 : Ev prog w A env r s₀ (I b)) (hm : behindInMarks .Gt r = false := by with_unfolding_all rfl) : Cm prog w A env l .Gt r s₀ (decide (b < a)) :=
  ⟨hm, _, _, h1, h2, fun _ _ _ _ ⟨_, e⟩ ⟨_, e'⟩ => by subst e e'; exact Em.of fun s Q _ _ hQ => gt_int (hQ _ _ K.rfl rfl)⟩
theorem Cm.ge {l r : Expr} {a b : Int} (h1 : Ev prog w A env l s₀ (I a)) (h2 : Ev prog w A env r s₀ (I b)) (hm : behindInMarks .GtE r = false := by with_unfolding_all rfl) : Cm prog w A env l .GtE r s₀ (decide (b ≤ a)) :=
  ⟨hm, _, _, h1, h2, fun _ _ _ _ ⟨_, e⟩ ⟨_, e'⟩ => by subst e e'; exact Em.of fun s Q _ _ hQ => ge_int (hQ _ _ K.rfl rfl)⟩
theorem Cm.le {l r : Expr} {a b : Int} (h1 : Ev prog w A env l s₀ (I a)) (h2 : Ev prog w A env r s₀ (I b)) (hm : behindInMarks .LtE r = false := by with_unfolding_all rfl) : Cm prog w A env l .LtE r s₀ (decide (a ≤ b)) :=
  ⟨hm, _, _, h1, h2, fun _ _ _ _ ⟨_, e⟩ ⟨_, e'⟩ => by subst e e'; exact Em.of fun s Q _ _ hQ => le_int (hQ _ _ K.rfl rfl)⟩
theorem Cm.isNone {l : Expr} {k : Nat} {p : Pos} {x : Value} (h1 : Ev prog w A env l s₀ (fun v => v = x)) : Cm prog w A env l .Is (.Constant .none k p) s₀ (x == .none) :=
  ⟨rfl, _, _, h1, Ev.cNone, fun _ _ _ _ e e' => by subst e e'; exact Em.of fun s Q _ _ hQ => is_none (hQ _ _ K.rfl rfl)⟩

/-! and, or: as a test and as a value -/
theorem EvT.all_nil : Em prog w A (allTrue .And [] env) s₀ (fun v _ => v = true) := Em.of fun s Q _ _ hQ => wpAny_allTrue_And_nil (hQ _ _ K.rfl rfl)
theorem EvT.any_nil : Em prog w A (allTrue .Or [] env) s₀ (fun v _ => v = false) := Em.of fun s Q _ _ hQ => wpAny_allTrue_Or_nil (hQ _ _ K.rfl rfl)
theorem EvT.all_cons {x : Expr} {rest : List Expr} {a b : Bool} (h1 : EvT prog w A env x s₀ a) (h2 : a = true → Em prog w A (allTrue .And rest env) s₀ (fun v _ => v = b)) :
    Em prog w A (allTrue .And (x :: rest) env) s₀ (fun v _ => v = (a && b)) :=
  Em.of fun s Q E k hQ => wpAny_allTrue_And_cons (h1.use k fun v s₁ k₁ e => by
    subst e
    cases v with
    | false => simp only [Bool.false_eq_true, if_false]; exact hQ _ _ k₁ (by simp)
    | true => simp only [if_true]; exact (h2 rfl).use (K.trans k k₁) fun v' s₂ k₂ e' => hQ _ _ (K.trans k₁ k₂) (by simp [e']))
theorem EvT.any_cons {x : Expr} {rest : List Expr} {a b : Bool} (h1 : EvT prog w A env x s₀ a) (h2 : a = false → Em prog w A (allTrue .Or rest env) s₀ (fun v _ => v = b)) :
    Em prog w A (allTrue .Or (x :: rest) env) s₀ (fun v _ => v = (a || b)) :=
  Em.of fun s Q E k hQ => wpAny_allTrue_Or_cons (h1.use k fun v s₁ k₁ e => by
    subst e
    cases v with
    | true => simp only [if_true]; exact hQ _ _ k₁ (by simp)
    | false => simp only [Bool.false_eq_true, if_false]; exact (h2 rfl).use (K.trans k k₁) fun v' s₂ k₂ e' => hQ _ _ (K.trans k₁ k₂) (by simp [e']))
theorem EvT.boolOp {op : BoolOp} {es : List Expr} {pos : Pos} {b : Bool} (h : Em prog w A (allTrue op es env) s₀ (fun v _ => v = b)) : EvT prog w A env (.BoolOp op es pos) s₀ b :=
  Em.of fun s Q E k hQ => wpAny_isTrue_BoolOp (h.use k hQ)
/-- a call, a name: by its value -/
theorem EvT.val {e : Expr} {P : Value → Prop} {b : Bool} (h : Ev prog w A env e s₀ P) (ht : ∀ v s, Keeps s₀ s → P v → Em prog w A (truthy v) s (fun r _ => r = b))
    (he : isTrue e env (eval e env) = (do let v ← eval e env; standAt e.pos; holding [v] (truthy v)) := by rfl) : EvT prog w A env e s₀ b :=
  Em.of fun s Q E k hQ => wpAny_isTrue_value (h.use k fun v s₁ k₁ p => (ht v s₁ (K.trans k k₁) p).use K.rfl fun r s₂ k₂ e' => hQ r s₂ (K.trans k₁ k₂) e') he
theorem EvT.bool {e : Expr} {b : Bool} (h : Ev prog w A env e s₀ (Bo b))
    (he : isTrue e env (eval e env) = (do let v ← eval e env; standAt e.pos; holding [v] (truthy v)) := by rfl) : EvT prog w A env e s₀ b :=
  EvT.val h (fun v s _ p => by cases p; exact Em.of fun s Q E _ hQ => wpAny_truthy_bool (hQ _ _ K.rfl rfl)) he

theorem Em.holding {t : Sem α} {P : α → Shared → Prop} {vs : List Value} (h : Em prog w A t s₀ P) : Em prog w A (PySem.holding vs t) s₀ P :=
  fun s E k => wpAny_holding (h s E k)
theorem Em.stand {t : Unit → Sem α} {P : α → Shared → Prop} {pos : Pos} (h : Em prog w A (t ()) s₀ P) : Em prog w A (standAt pos >>= t) s₀ P :=
  fun s E k => wpAny_bind (wpAny_standAt (h s E k))

theorem Ev.and_last {pos : Pos} {x : Expr} {b : Bool} (h : Ev prog w A env x s₀ (Bo b)) : Em prog w A (PySem.boolOp pos .And (evalEach [x] env)) s₀ (fun v _ => Bo b v) := h
theorem Ev.and_cons {pos : Pos} {x y : Expr} {rest : List Expr} {a b : Bool} (h1 : Ev prog w A env x s₀ (Bo a)) (h2 : a = true → Em prog w A (PySem.boolOp pos .And (evalEach (y :: rest) env)) s₀ (fun v _ => Bo b v)) :
    Em prog w A (PySem.boolOp pos .And (evalEach (x :: y :: rest) env)) s₀ (fun v _ => Bo (a && b) v) := by
  show Em prog w A (do
    let v ← eval x env
    standAt pos
    let t ← PySem.holding [v] (truthy v)
    match BoolOp.And, t with
    | .And, false | .Or, true => Pure.pure v
    | _, _ => PySem.boolOp pos .And (evalEach (y :: rest) env)) s₀ _
  refine Em.bnd h1 fun v s₁ k₁ p => Em.stand ?_
  cases p
  refine Em.bnd (P := fun r _ => r = a) (Em.holding (Em.of fun s Q E _ hQ => wpAny_truthy_bool (hQ _ _ K.rfl rfl))) fun r s₂ k₂ e => ?_
  subst e
  cases r with
  | false => exact Em.pur fun _ _ => by simp [Bo]
  | true => exact ((h2 rfl).at (K.trans k₁ k₂)).mono fun v s _ e' => by simpa [Bo] using e'
theorem Ev.boolOp {op : BoolOp} {es : List Expr} {pos : Pos} {P : Value → Prop} (h : Em prog w A (PySem.boolOp pos op (evalEach es env)) s₀ (fun v _ => P v)) : Ev prog w A env (.BoolOp op es pos) s₀ P := h

/-! items -/
theorem Ev.sub_list {e i : Expr} {pos : Pos} {l : Addr} {items : Array Value} {k : Int} {x : Value} {P : Value → Prop} (h1 : Ev prog w A env e s₀ (R l)) (h2 : Ev prog w A env i s₀ (I k)) (hl : s₀.heap.IsList l items) (h0 : 0 ≤ k) (hk : k < 2 ^ 63)
    (hx : items[k.toNat]? = some x) (hP : P x) (hs : ∀ u, subscripted i false (.ref l) (.int k u) = operate [.ref l, .int k u] (getItem (.ref l) (.int k u)) := by intro _; with_unfolding_all rfl) : Ev prog w A env (.Subscript e i pos) s₀ P :=
  Em.of fun s Q E k₀ hQ => Subscript_ (h1.use k₀ fun a s₁ k₁ p₁ => h2.use (K.trans k₀ k₁) fun b s₂ k₂ p₂ => by
    obtain ⟨u, e'⟩ := p₂
    cases p₁
    subst e'
    have hl' : s₂.heap.IsList l items := hl.at fun o e => (K.ext (K.trans k₀ (K.trans k₁ k₂))) l o e
    exact tail_any hl'.typeIs slot_list_getitem.lookup (wpAny_getItem_list hl' h0 hk hx (hQ x s₂ (K.trans k₁ k₂) hP)) (hs u))
theorem Ev.sub_tup {e i : Expr} {pos : Pos} {P₁ : Value → Prop} {k : Int} {P : Value → Prop} (h1 : Ev prog w A env e s₀ P₁) (h2 : Ev prog w A env i s₀ (I k))
    (hP : ∀ v, P₁ v → ∃ t items x, v = .ref t ∧ IsTup s₀.heap t (List.toArray items) ∧ items[k.toNat]? = some x ∧ P x) (h0 : 0 ≤ k) (hk : k < 2 ^ 63)
    (hs : ∀ l u, subscripted i false (.ref l) (.int k u) = operate [.ref l, .int k u] (getItem (.ref l) (.int k u)) := by intro _ _; with_unfolding_all rfl) : Ev prog w A env (.Subscript e i pos) s₀ P :=
  Em.of fun s Q E k₀ hQ => Subscript_ (h1.use k₀ fun a s₁ k₁ p₁ => h2.use (K.trans k₀ k₁) fun b s₂ k₂ p₂ => by
    obtain ⟨u, e'⟩ := p₂
    obtain ⟨t, items, x, e1, ht, hx, hp⟩ := hP _ p₁
    subst e' e1
    have ht' := ht.keeps (K.ext (K.trans k₀ (K.trans k₁ k₂)))
    refine item_tupleT ht' (by omega) hk (j := k.toNat) ?_ hx (hQ x s₂ (K.trans k₁ k₂) hp) (hs t u)
    have hj : k.toNat < items.length := by
      rcases Nat.lt_or_ge k.toNat items.length with h | h
      · exact h
      · rw [List.getElem?_eq_none h] at hx; cases hx
    have h1 : ¬ k < 0 := by omega
    have h2 : ¬ (items.length : Int) ≤ k := by omega
    simp [seqIndex?, h1, h2])
end
end Mine

namespace Mine
section
variable {prog : Program} {w : World} {A : Around} {env : Env} {s₀ s₁ : Shared} {α β : Type}

/-- a call's arguments -/
abbrev Ea (prog : Program) (w : World) (A : Around) (env : Env) (pos : Pos) (es : List Expr) (s₀ : Shared) (P : List Value → Shared → Prop) : Prop :=
  Em prog w A (spliced (backTo pos (starEach es env))) s₀ P

theorem Ea.nil {pos : Pos} {P : List Value → Shared → Prop} (h : ∀ s, Keeps s₀ s → P [] s) : Ea prog w A env pos [] s₀ P := Em.of fun s Q E k hQ => wpAny_items_nil (hQ _ _ K.rfl (h s k))
theorem Ea.cons {pos : Pos} {e : Expr} {rest : List Expr} {P : Value → Shared → Prop} {R : List Value → Shared → Prop} (h1 : Em prog w A (eval e env) s₀ P)
    (h2 : ∀ v s₁, Keeps s₀ s₁ → P v s₁ → Ea prog w A env pos rest s₁ (fun vs s => R (v :: vs) s))
    (he : starEach (e :: rest) env = (false, eval e env) :: starEach rest env := by rfl) : Ea prog w A env pos (e :: rest) s₀ R :=
  Em.of fun s Q E k hQ => wpAny_items_cons (h1.use k fun v s₁ k₁ p => (h2 v s₁ (K.trans k k₁) p).use K.rfl fun vs s₂ k₂ p₂ => hQ _ _ (K.trans k₁ k₂) p₂) he
theorem Ea.one {pos : Pos} {e : Expr} {P : Value → Prop} (h : Ev prog w A env e s₀ P)
    (he : starEach [e] env = (false, eval e env) :: starEach [] env := by rfl) : Ea prog w A env pos [e] s₀ (fun vs _ => ∃ v, vs = [v] ∧ P v) :=
  Ea.cons h (fun v s₁ _ p => Ea.nil fun s _ => ⟨v, rfl, p⟩) he
theorem Ea.two {pos : Pos} {e e' : Expr} {P P' : Value → Prop} (h : Ev prog w A env e s₀ P) (h' : Ev prog w A env e' s₀ P')
    (he : starEach [e, e'] env = (false, eval e env) :: starEach [e'] env := by rfl) (he' : starEach [e'] env = (false, eval e' env) :: starEach [] env := by rfl) :
    Ea prog w A env pos [e, e'] s₀ (fun vs _ => ∃ v v', vs = [v, v'] ∧ P v ∧ P' v') :=
  Ea.cons h (fun v s₁ k p => (Ea.one (h'.at k) he').mono fun vs s _ ⟨v', e1, p'⟩ => ⟨v, v', by rw [e1], p, p'⟩) he

theorem Em.callB {func e : Expr} {rest : List Expr} {pos : Pos} {id : String} {PA : List Value → Shared → Prop} {P : Value → Shared → Prop} (hf : Ev prog w A env func s₀ (fun v => v = .builtin id))
    (ha : Ea prog w A env pos (e :: rest) s₀ PA) (hc : ∀ vs s, Keeps s₀ s → PA vs s → Em prog w A (call (.builtin id) vs) s P)
    (hE : eval (.Call func (e :: rest) [] pos) env = (do callWith pos (← eval func env) [] (backTo pos (starEach (e :: rest) env)) (backToKw pos (keywordEach [] env))) := by rfl)
    (he : starEach (e :: rest) env = (false, eval e env) :: starEach rest env := by rfl) (hplain : (backTo pos (starEach rest env)).any (·.1) = false := by rfl) :
    Em prog w A (eval (.Call func (e :: rest) [] pos) env) s₀ P :=
  Em.of fun s Q E k hQ => Call_ (hf.use k fun f s₁ k₁ e₁ => by
    subst e₁
    exact callWith_builtin1 (ha.use (K.trans k k₁) fun vs s₂ k₂ p₂ => (hc vs s₂ (K.trans k (K.trans k₁ k₂)) p₂).use K.rfl fun v s₃ k₃ p₃ => hQ v s₃ (K.trans k₁ (K.trans k₂ k₃)) p₃) he hplain) hE

theorem Em.callT {func e : Expr} {rest : List Expr} {pos : Pos} {T : String} {PA : List Value → Shared → Prop} {P : Value → Shared → Prop} (hf : Ev prog w A env func s₀ (fun v => v = .type T))
    (ha : Ea prog w A env pos (e :: rest) s₀ PA) (hc : ∀ vs s, Keeps s₀ s → PA vs s → Em prog w A (call (.type T) vs) s P)
    (hE : eval (.Call func (e :: rest) [] pos) env = (do callWith pos (← eval func env) [] (backTo pos (starEach (e :: rest) env)) (backToKw pos (keywordEach [] env))) := by rfl)
    (he : starEach (e :: rest) env = (false, eval e env) :: starEach rest env := by rfl) (hplain : (backTo pos (starEach rest env)).any (·.1) = false := by rfl) :
    Em prog w A (eval (.Call func (e :: rest) [] pos) env) s₀ P :=
  Em.of fun s Q E k hQ => Call_ (hf.use k fun f s₁ k₁ e₁ => by
    subst e₁
    exact Pv.callWith_type1 (ha.use (K.trans k k₁) fun vs s₂ k₂ p₂ => (hc vs s₂ (K.trans k (K.trans k₁ k₂)) p₂).use K.rfl fun v s₃ k₃ p₃ => hQ v s₃ (K.trans k₁ (K.trans k₂ k₃)) p₃) he hplain) hE

theorem Em.callF {func e : Expr} {rest : List Expr} {pos : Pos} {f : Addr} {o : Obj} {fd : FuncData} {PA : List Value → Shared → Prop} {P : Value → Shared → Prop} (hf : Ev prog w A env func s₀ (fun v => v = .ref f))
    (ho : s₀.heap.get? f = some o) (hd : o.data = .func fd)
    (ha : Ea prog w A env pos (e :: rest) s₀ PA) (hc : ∀ vs s, Keeps s₀ s → PA vs s → Em prog w A (call (.ref f) vs) s P)
    (hE : eval (.Call func (e :: rest) [] pos) env = (do callWith pos (← eval func env) [] (backTo pos (starEach (e :: rest) env)) (backToKw pos (keywordEach [] env))) := by rfl)
    (he : starEach (e :: rest) env = (false, eval e env) :: starEach rest env := by rfl) :
    Em prog w A (eval (.Call func (e :: rest) [] pos) env) s₀ P :=
  Em.of fun s Q E k hQ => Call_ (hf.use k fun g s₁ k₁ e₁ => by
    subst e₁
    exact callWith_def hd (ha.use (K.trans k k₁) fun vs s₂ k₂ p₂ => ⟨(K.ext (K.trans k (K.trans k₁ k₂))) _ _ ho, (hc vs s₂ (K.trans k (K.trans k₁ k₂)) p₂).use K.rfl fun v s₃ k₃ p₃ => hQ v s₃ (K.trans k₁ (K.trans k₂ k₃)) p₃⟩) he) hE

/-- what a def does: called so, in any state behind s₀ -/
theorem Em.ofCode {f : Value} {vs : List Value} {P : Value → Shared → Prop} (h : ∀ s, Keeps s₀ s → codeAny (model prog w) A (.call f ⟨vs, []⟩) (fun r s' => ∃ v, r = .ok (.ret v) ∧ Keeps s s' ∧ P v s') s) :
    Em prog w A (call f vs) s₀ P :=
  Em.of fun s Q E k hQ => wpAny_call (codeAny_mono (h s k) fun r s' ⟨v, e, k', p⟩ => by subst e; exact hQ v s' k' p)

/-! len, range -/
theorem ext_list {h h' : Heap} {l : Addr} {items : Array Value} (x : h.IsList l items) (e : Ext h h') : h'.IsList l items := x.at fun o q => e l o q
theorem Em.len_list {l : Addr} {items : Array Value} (hl : s₀.heap.IsList l items) (hsz : items.size < 2 ^ 62) : Em prog w A (call (.builtin "len") [.ref l]) s₀ (fun v _ => I (items.size : Nat) v) :=
  Em.of fun s Q E k hQ => Calls.call_len_list (ext_list hl (K.ext k)) (by omega) (hQ _ _ K.tok ⟨_, rfl⟩)

theorem Em.range1 {n : Int} {t : Tok} : Em prog w A (call (.type "range") [.int n t]) s₀ (fun v s => ∃ r t u x, v = .ref r ∧ IsRange s.heap r 0 n 1 t u x) :=
  Em.of fun s Q E k hQ => call_range_1 (hQ _ _ (K.mk fun b o e => Heap.get?_push_of_some _ e) ⟨_, _, _, _, rfl, IsRange.new ..⟩)
theorem Em.range2 {a b : Int} {t u : Tok} : Em prog w A (call (.type "range") [.int a t, .int b u]) s₀ (fun v s => ∃ r t u x, v = .ref r ∧ IsRange s.heap r a b 1 t u x) :=
  Em.of fun s Q E k hQ => call_range_2 (hQ _ _ (K.mk fun b o e => Heap.get?_push_of_some _ e) ⟨_, _, _, _, rfl, IsRange.new ..⟩)

/-! displays -/
theorem none_of {s s' : Shared} {a : Addr} (k : Keeps s s') (h : s'.heap.get? a = none) : s.heap.get? a = none := by
  cases e : s.heap.get? a with
  | none => rfl
  | some o => have := K.ext k _ _ e; rw [h] at this; cases this
theorem Em.tuple {es : List Expr} {k : Nat} {pos : Pos} {P : List Value → Shared → Prop} (h : Ea prog w A env pos es s₀ P) (hsz : ∀ vs s, P vs s → vs.length ≤ sizeLine) :
    Em prog w A (eval (.Tuple es k pos) env) s₀ (fun v s => ∃ vs s' a, P vs s' ∧ Keeps s₀ s' ∧ Keeps s' s ∧ v = .ref a ∧ s'.heap.get? a = none ∧ s.heap.get? a = some { cls := .type "tuple", data := .seq vs.toArray }) :=
  Em.of fun s Q E k hQ => PySem.wpAny_Tuple (h.use k fun vs s₁ k₁ p => ⟨hsz _ _ p, hQ _ _ (K.trans k₁ (K.mkh fun b o e => Heap.get?_push_of_some _ e))
    ⟨vs, s₁, _, p, K.trans k k₁, K.mkh fun b o e => Heap.get?_push_of_some _ e, rfl, by
      cases e : s₁.heap.get? s₁.heap.objs.size with
      | none => rfl
      | some o => exact absurd (Heap.lt_size e) (Nat.lt_irrefl _), Heap.get?_push_size _ rfl⟩⟩)
theorem Em.list {es : List Expr} {pos : Pos} {P : List Value → Shared → Prop} (h : Ea prog w A env pos es s₀ P) (hsz : ∀ vs s, P vs s → vs.length ≤ sizeLine) :
    Em prog w A (eval (.List es pos) env) s₀ (fun v s => ∃ vs s' a, P vs s' ∧ Keeps s₀ s' ∧ Keeps s' s ∧ v = .ref a ∧ s'.heap.get? a = none ∧ s.heap.get? a = some { cls := .type "list", data := .seq vs.toArray }) :=
  Em.of fun s Q E k hQ => PySem.wpAny_List (h.use k fun vs s₁ k₁ p => ⟨hsz _ _ p, hQ _ _ (K.trans k₁ (K.mkh fun b o e => Heap.get?_push_of_some _ e))
    ⟨vs, s₁, _, p, K.trans k k₁, K.mkh fun b o e => Heap.get?_push_of_some _ e, rfl, by
      cases e : s₁.heap.get? s₁.heap.objs.size with
      | none => rfl
      | some o => exact absurd (Heap.lt_size e) (Nat.lt_irrefl _), Heap.get?_push_size _ rfl⟩⟩)
end
end Mine

namespace Mine

/-! what stands at the top -/
noncomputable abbrev KF (w : World) : Frag := hd.heap_39 w.params
structure G (w : World) (h : Heap) : Prop where
  kin : (KF w).In h
  lim : h.NoLimit
  glob : ∃ mg, h.Ns mainGlobals mg
  blt : ∃ mb, h.Ns builtinsNs mb ∧ ∀ x : Str, x ≠ "__name__" → mb x = bootBuiltins x
theorem G.ext {w : World} {h h' : Heap} (g : G w h) (e : Ext h h') : G w h' :=
  ⟨g.kin.keeps e, g.lim.keeps e, let ⟨mg, n⟩ := g.glob; ⟨mg, n.keeps e⟩, let ⟨mb, n, r⟩ := g.blt; ⟨mb, n.keeps e, r⟩⟩
theorem G.k {w : World} {s s' : Shared} (g : G w s.heap) (e : Keeps s s') : G w s'.heap := g.ext (K.ext e)

/-! the heap but for some places only grows -/
def KB (W : List Addr) (s s' : Shared) : Prop := ∃ h' tk, s' = { s with heap := h', toks := tk } ∧ ∀ b o, b ∉ W → s.heap.get? b = some o → h'.get? b = some o
theorem KB.rfl {W : List Addr} {s : Shared} : KB W s s := ⟨s.heap, s.toks, by cases s; rfl, fun _ _ _ e => e⟩
theorem KB.of {W : List Addr} {s s' : Shared} (k : Keeps s s') : KB W s s' := by
  obtain ⟨h1, t1, rfl, k1⟩ := k
  exact ⟨h1, t1, by cases s; rfl, fun b o _ e => k1 b o e⟩
theorem KB.trans {W : List Addr} {s s' s'' : Shared} (a : KB W s s') (b : KB W s' s'') : KB W s s'' := by
  obtain ⟨h1, t1, rfl, k1⟩ := a
  obtain ⟨h2, t2, rfl, k2⟩ := b
  exact ⟨h2, t2, by cases s; rfl, fun x o n e => k2 x o n (k1 x o n e)⟩
theorem KB.get {W : List Addr} {s s' : Shared} (a : KB W s s') {b : Addr} {o : Obj} (e : s.heap.get? b = some o) (h : b ∉ W) : s'.heap.get? b = some o := by
  obtain ⟨h1, t1, rfl, k1⟩ := a
  exact k1 b o h e
theorem KB.mono {W W' : List Addr} {s s' : Shared} (a : KB W s s') (h : ∀ b ∈ W, b ∈ W') : KB W' s s' := by
  obtain ⟨h1, t1, rfl, k1⟩ := a
  exact ⟨h1, t1, by cases s; rfl, fun x o n e => k1 x o (fun q => n (h x q)) e⟩
theorem KB.same {W : List Addr} {s : Shared} {h' : Heap} {tk : Nat} {a : Addr} (h : Heap.SameBut a s.heap h') (ha : a ∈ W) : KB W s { s with heap := h', toks := tk } :=
  ⟨h', tk, by cases s; rfl, fun b o n e => h.extBut b o (fun q => n (q ▸ ha)) e⟩
theorem KB.sameh {W : List Addr} {s : Shared} {h' : Heap} {a : Addr} (h : Heap.SameBut a s.heap h') (ha : a ∈ W) : KB W s { s with heap := h' } :=
  ⟨h', s.toks, by cases s; rfl, fun b o n e => h.extBut b o (fun q => n (q ▸ ha)) e⟩
/-- what is new may be written: to the outside it only grows -/
theorem KB.keeps {W : List Addr} {s₀ s s' : Shared} (k : Keeps s₀ s) (a : KB W s s') (h : ∀ b ∈ W, s₀.heap.get? b = none) : Keeps s₀ s' := by
  obtain ⟨h1, t1, rfl, k1⟩ := k
  obtain ⟨h2, t2, rfl, k2⟩ := a
  refine ⟨h2, t2, by cases s₀; rfl, fun x o e => k2 x o (fun q => ?_) (k1 x o e)⟩
  have := h x q
  rw [e] at this; cases this
/-- a snapshot without the places that are written -/
theorem KB.from {W W' : List Addr} {s₀ s s' : Shared} (k : KB W s₀ s) (a : KB W' s s') (h : ∀ b ∈ W', b ∉ W → s₀.heap.get? b = none) : KB W s₀ s' := by
  obtain ⟨h1, t1, rfl, k1⟩ := k
  obtain ⟨h2, t2, rfl, k2⟩ := a
  refine ⟨h2, t2, by cases s₀; rfl, fun x o n e => k2 x o (fun q => ?_) (k1 x o n e)⟩
  have := h x q n
  rw [e] at this; cases this
theorem G.kb {w : World} {W : List Addr} {s₀ s s' : Shared} (g : G w s₀.heap) (k : Keeps s₀ s) (a : KB W s s') (h : ∀ b ∈ W, s₀.heap.get? b = none) : G w s'.heap := g.k (KB.keeps k a h)

section
variable {prog : Program} {w : World} {A : Around} {env : Env} {s₀ s : Shared} {α β : Type}

/-! names of the top -/
theorem Ev.fn {x : Str} {pos : Pos} {v : Value} {P : Value → Prop} (g : G w s₀.heap) (e : nsIn (KF w) mainGlobals x = some (some v)) (hP : P v) (hg : env.globals = mainGlobals := by rfl) (hk : env.scope.kind = .function := by rfl) (hl : env.kindOf x = some .globalImplicit := by rfl)
    (hd : (x == ("__debug__" : Str)) = false := by decide) : Ev prog w A env (.Name x pos) s₀ P := by
  obtain ⟨mg, hn⟩ := g.glob
  exact Ev.glob (mg := mg) (by rw [hg]; exact hn) (mg_of g.kin hn e) hP hk hl hd
theorem Ev.bn {x : Str} {pos : Pos} {v : Value} {P : Value → Prop} (g : G w s₀.heap) (e : nsIn (KF w) mainGlobals x = some none) (hv : bootBuiltins x = some v) (hP : P v) (hn' : x ≠ "__name__" := by decide) (hg : env.globals = mainGlobals := by rfl) (hb' : env.builtins = builtinsNs := by rfl) (hk : env.scope.kind = .function := by rfl)
    (hl : env.kindOf x = some .globalImplicit := by rfl) (hd : (x == ("__debug__" : Str)) = false := by decide) : Ev prog w A env (.Name x pos) s₀ P := by
  obtain ⟨mg, hn⟩ := g.glob
  obtain ⟨mb, hb, hr⟩ := g.blt
  exact Ev.built (mg := mg) (mb := mb) (by rw [hg]; exact hn) (mg_none_of g.kin hn e) (by rw [hb']; exact hb) ((hr x hn').trans hv) hP hk hl hd

/-! statements -/
theorem ex_cons {st : Stmt} {rest : List Stmt} {Q : Flow → Shared → Prop} {E : Value → Shared → Prop} (h : wpAny (model prog w) A (exec st env) (fun f s' => match f with | .next => wpAny (model prog w) A (execs rest env) Q E s' | f => Q f s') E s) :
    wpAny (model prog w) A (execs (st :: rest) env) Q E s := wpAny_execs_cons h

theorem ex_if {test : Expr} {body orelse rest : List Stmt} {pos : Pos} {Q : Flow → Shared → Prop} {E : Value → Shared → Prop} {b : Bool} (h : EvT prog w A env test s b)
    (k : ∀ s', Keeps s s' → if b then wpAny (model prog w) A (execs body env) (fun f s' => match f with | .next => wpAny (model prog w) A (execs rest env) Q E s' | f => Q f s') E s'
      else wpAny (model prog w) A (execs orelse env) (fun f s' => match f with | .next => wpAny (model prog w) A (execs rest env) Q E s' | f => Q f s') E s') :
    wpAny (model prog w) A (execs (.If test body orelse pos :: rest) env) Q E s :=
  ex_cons (wpAny_If (h.use K.rfl fun v s' k' e => by subst e; exact k s' k'))

theorem ex_assign {e : Expr} {x : Str} {p pos : Pos} {rest : List Stmt} {Q : Flow → Shared → Prop} {E : Value → Shared → Prop} {m : Str → Option Value} {P : Value → Shared → Prop} (hn : s.heap.Ns env.locals m) (h : Em prog w A (eval e env) s P)
    (k : ∀ v s₁ s', Keeps s s₁ → P v s₁ → KB [env.locals] s₁ s' → s'.heap.Ns env.locals (fun y => if y = x then some v else m y) → wpAny (model prog w) A (execs rest env) Q E s')
    (hs : swapsWith e (some (.Name x p)) pos.line env = pure false := by rfl) (hl : env.kindOf x = some .local := by rfl) (hk : env.scope.kind = .function := by rfl) :
    wpAny (model prog w) A (execs (.Assign [.Name x p] e pos :: rest) env) Q E s :=
  ex_cons (wpAny_Assign_Name (h.use K.rfl fun v s₁ k₁ p₁ => wpAny_storeName_local hl (hn.keeps (K.ext k₁)) (fun h' hn' hs' =>
    k v s₁ _ k₁ p₁ (KB.same hs' (by simp)) hn') (by rw [hk]; rfl)) hs)

theorem ex_return {e : Expr} {pos : Pos} {rest : List Stmt} {Q : Flow → Shared → Prop} {E : Value → Shared → Prop} {P : Value → Shared → Prop} (h : Em prog w A (eval e env) s P)
    (k : ∀ v s', Keeps s s' → P v s' → Q (.ret v) s') : wpAny (model prog w) A (execs (.Return (some e) pos :: rest) env) Q E s :=
  ex_cons (wpAny_Return_some (h.use K.rfl fun v s' k' p => k v s' k' p))

/-! a def of the top, called: one without captured names -/
theorem Em.defn {s₀ : Shared} {n : Nat} (hA : AOk (n + 1) A) (g : G w s₀.heap) {f : Addr} {oc : Value} {od : Option Addr} {osl : Array (Option Value)} {fd : FuncData} {body : List Stmt} {vs : List Value} {binds : List (Str × Value)} {P : Value → Shared → Prop}
    (ho : (KF w).lookup f = some ⟨oc, od, .func fd, osl⟩) (hbody : fd.body = .stmts body) (hcd : codeIn (KF w) fd.code fd.qualname = true) (hbind : ∀ S, peek (KF w) S (bindArgs fd ⟨vs, []⟩) = some binds)
    (hcell : ∀ x ∈ fd.scope.names, x.2 ≠ .cell) (hloc : ∀ x ∈ binds, fd.scope.names.lookup x.1 = some .local)
    (h : ∀ s s₁ L E, Keeps s₀ s → Keeps s s₁ → G w s₁.heap → AOk n (A.deeper (callEnv fd L f)) → s₁.heap.Ns L (fun x => binds.reverse.lookup x) → s.heap.get? L = none →
      wpAny (model prog w) (A.deeper (callEnv fd L f)) (execs body (callEnv fd L f)) (fun fl s' => KB [L] s₁ s' ∧ P (match fl with | .ret v => v | _ => .none) s') E s₁)
    (hco : fd.scope.isCoroutine = false := by rfl) (hgen : fd.scope.isGenerator = false := by rfl) (hk : fd.scope.kind = .function := by rfl) :
    Em prog w A (call (.ref f) vs) s₀ P := by
  refine Em.ofCode fun s k => ?_
  have g' := g.k k
  refine codeAny_call_def (fd := fd) (body := body) (binds := binds) hA.room (g'.kin _ _ ho) rfl g'.lim (codeRec_of g'.kin hcd) hbody (kp_binds g'.kin hbind) hcell hloc (fun h₁ hns hk₁ => ?_) hco hgen hk
  have hL : s.heap.get? s.heap.objs.size = none := by
    cases e : s.heap.get? s.heap.objs.size with
    | none => rfl
    | some o => exact absurd (Heap.lt_size e) (Nat.lt_irrefl _)
  have k1 : Keeps s { s with heap := h₁, toks := s.toks + binds.length } := K.mk hk₁
  refine wpAny_mono (h s _ s.heap.objs.size _ k k1 (g'.k k1) (hA.deeper _) hns hL) (fun fl s' q => ?_) fun _ _ e => e
  exact ⟨_, rfl, KB.keeps k1 q.1 (fun b hb => by rw [List.mem_singleton.mp hb]; exact hL), q.2⟩
end
end Mine

namespace Mine

abbrev Pt := Int × Int
/-- v is the tuple of p's two ints -/
def IsPt (h : Heap) (v : Value) (p : Pt) : Prop := ∃ a t u, v = .ref a ∧ IsTup h a [Value.int p.1 t, Value.int p.2 u].toArray
theorem IsPt.ext {h h' : Heap} {v : Value} {p : Pt} (x : IsPt h v p) (e : Ext h h') : IsPt h' v p := by
  obtain ⟨a, t, u, r, i⟩ := x
  exact ⟨a, t, u, r, i.keeps e⟩
def ptData (p : Pt) : PyData := .tuple [.int p.1, .int p.2]
theorem IsPt.reads {h : Heap} {v : Value} {p : Pt} (x : IsPt h v p) : Reads h v (ptData p) [] := by
  obtain ⟨a, t, u, rfl, o, ho, hc, n, hd⟩ := x
  exact .tuple ho hc hd (.cons (as := []) (.int _ _) (.cons (as := []) (.int _ _) .nil))
theorem eqv_pt (p q : Pt) : PyData.eqv (ptData p) (ptData q) = decide (p = q) := by
  obtain ⟨a, b⟩ := p
  obtain ⟨c, d⟩ := q
  simp only [ptData, PyData.eqv, PyData.eqvAll, Bool.and_true]
  rw [Bool.eq_iff_iff]
  simp
theorem canLay_pt (p : Pt) : (ptData p).canLay0 = true := by simp [ptData, PyData.canLay0, PyData.canLayAll0]
theorem depth_pt (p : Pt) : (ptData p).depth = 1 := by simp [ptData, PyData.depth, PyData.depthAll]

def ovr (p q : Pt) : Bool := decide (p ≠ q) && (decide (q.1 ≤ p.1) && decide (q.2 ≤ p.2))
/-- the order of tuples -/
def tlt (p q : Pt) : Bool := decide (p.1 < q.1 ∨ (p.1 = q.1 ∧ p.2 < q.2))

section
variable {prog : Program} {w : World} {A : Around} {env : Env} {s₀ s : Shared} {α β : Type}

theorem Em.ne_pt {n : Nat} (hA : AOk n A) {v u : Value} {p q : Pt} (hv : IsPt s₀.heap v p) (hu : IsPt s₀.heap u q) : Em prog w A (compareOp .NotEq v u) s₀ (fun r _ => r = .bool (decide (p ≠ q))) :=
  Em.of fun s Q E k hQ => SeqAt.compareNe_reads (hv.ext (K.ext k)).reads (hu.ext (K.ext k)).reads (canLay_pt p) (canLay_pt q) (by rw [depth_pt, depth_pt]; have := hA.units; omega)
    (by rw [eqv_pt]; exact hQ _ _ K.rfl (by simp))

theorem tup_item0 {h : Heap} {v : Value} {p : Pt} (x : IsPt h v p) : ∃ t items y, v = .ref t ∧ IsTup h t (List.toArray items) ∧ items[(0 : Int).toNat]? = some y ∧ I p.1 y := by
  obtain ⟨a, t, u, rfl, i⟩ := x
  exact ⟨a, _, _, rfl, i, rfl, ⟨_, rfl⟩⟩
theorem tup_item1 {h : Heap} {v : Value} {p : Pt} (x : IsPt h v p) : ∃ t items y, v = .ref t ∧ IsTup h t (List.toArray items) ∧ items[(1 : Int).toNat]? = some y ∧ I p.2 y := by
  obtain ⟨a, t, u, rfl, i⟩ := x
  exact ⟨a, _, _, rfl, i, rfl, ⟨_, rfl⟩⟩
theorem Ev.pt0 {e : Expr} {k : Nat} {pc pos : Pos} {v : Value} {p : Pt} (h : Ev prog w A env e s₀ (fun x => x = v)) (hv : IsPt s₀.heap v p) : Ev prog w A env (.Subscript e (.Constant (.int 0) k pc) pos) s₀ (I p.1) :=
  Ev.sub_tup h Ev.int (fun x e => by subst e; exact tup_item0 hv) (by decide) (by decide)
theorem Ev.pt1 {e : Expr} {k : Nat} {pc pos : Pos} {v : Value} {p : Pt} (h : Ev prog w A env e s₀ (fun x => x = v)) (hv : IsPt s₀.heap v p) : Ev prog w A env (.Subscript e (.Constant (.int 1) k pc) pos) s₀ (I p.2) :=
  Ev.sub_tup h Ev.int (fun x e => by subst e; exact tup_item1 hv) (by decide) (by decide)

theorem over_spec {n : Nat} (hA : AOk (n + 2) A) (g : G w s₀.heap) {v u : Value} {p q : Pt} (hv : IsPt s₀.heap v p) (hu : IsPt s₀.heap u q) :
    Em prog w A (call (.ref 81) [v, u]) s₀ (fun r _ => r = .bool (ovr p q)) := by
  refine Em.defn (n := n + 1) hA g (f := 81) (binds := [(Str.ofString "one", v), (Str.ofString "other", u)]) rfl rfl rfl (fun _ => rfl) (by decide) (locs rfl) ?_
  intro s s₁ L E k k1 g1 hA1 hn hL
  have hv1 := hv.ext (K.ext (K.trans k k1))
  have hu1 := hu.ext (K.ext (K.trans k k1))
  refine ex_return (P := fun r _ => r = .bool (ovr p q)) (Ev.boolOp (Ev.and_cons (Ev.cmp ⟨rfl, _, _, Ev.local hn rfl rfl, Ev.local hn rfl rfl, ?_⟩) (fun _ => Ev.and_cons (Ev.cmp (Cm.ge (Ev.pt0 (Ev.local hn rfl rfl) hv1) (Ev.pt0 (Ev.local hn rfl rfl) hu1))) (fun _ => Ev.and_last (Ev.cmp (Cm.ge (Ev.pt1 (Ev.local hn rfl rfl) hv1) (Ev.pt1 (Ev.local hn rfl rfl) hu1))))))) ?_
  · intro x y s2 k2 e1 e2
    subst e1 e2
    exact Em.ne_pt hA1 (hv1.ext (K.ext k2)) (hu1.ext (K.ext k2))
  · intro r s' k' e
    exact ⟨KB.of k', e⟩
end
end Mine

namespace Mine

theorem upd_ne {m : Str → Option Value} {x y : Str} {v : Value} {r : Option Value} (h : m y = r) (hn : y ≠ x := by decide) : (fun z => if z = x then some v else m z) y = r := by
  show (if y = x then some v else m y) = r
  rw [if_neg hn]; exact h
theorem upd_eq {m : Str → Option Value} {x : Str} {v : Value} : (fun z => if z = x then some v else m z) x = some v := by simp

section
variable {prog : Program} {w : World} {A : Around} {env : Env} {s₀ s : Shared} {α β : Type}

theorem ex_while {test : Expr} {body rest : List Stmt} {pos : Pos} {Q : Flow → Shared → Prop} {E : Value → Shared → Prop} (Inv : Nat → Shared → Prop) (n : Nat) (h0 : Inv n s)
    (turn : ∀ n s, Inv n s → ∃ b, EvT prog w A env test s b ∧ ∀ s', Keeps s s' → if b then ∀ E', wpAny (model prog w) A (execs body env) (fun f s₃ => f = .next ∧ ∃ m, m < n ∧ Inv m s₃) E' s' else wpAny (model prog w) A (execs rest env) Q E s') :
    wpAny (model prog w) A (execs (.While test body [] pos :: rest) env) Q E s := by
  refine ex_cons (wpAny_While (codeAny_whileLoop Inv (fun n s hI => ?_) n h0))
  obtain ⟨b, ht, hb⟩ := turn n s hI
  refine ht.use Mine.K.rfl fun v s' k' e => ?_
  subst e
  have := hb s' k'
  cases v with
  | true =>
    simp only [if_true] at this ⊢
    refine wpAny_mono (this _) (fun f s₃ q => ?_) fun _ _ e => e
    obtain ⟨rfl, q⟩ := q
    exact q
  | false =>
    simp only [Bool.false_eq_true, if_false] at this ⊢
    exact wpAny_execs_nil this

/-- the loop of bisect_left: behind it lo is k -/
theorem bisect_spec {n : Nat} (hA : AOk (n + 1) A) (g : G w s₀.heap) {a : Addr} {items : Array Value} {x : Value} {vs : List Value} {k : Nat} (hl : s₀.heap.IsList a items) (hk : k ≤ items.size) (hsz : items.size < 1000)
    (hcmp : ∀ i (h : i < items.size) A' s', AOk n A' → Keeps s₀ s' → Em prog w A' (compareOp .Lt items[i] x) s' (fun v _ => v = .bool (decide (i < k))))
    (hvs : vs = [.ref a, x] ∨ ∃ t, vs = [.ref a, x, .int 0 t, .none]) :
    Em prog w A (call (.ref 32) vs) s₀ (fun r _ => I (k : Int) r) := by
  rcases hvs with rfl | ⟨lo0, rfl⟩
  case' inl => refine Em.defn (n := n) hA g (f := 32) (binds := [(Str.ofString "a", .ref a), (Str.ofString "x", x), (Str.ofString "lo", .int 0 202), (Str.ofString "hi", .none), (Str.ofString "key", .none)]) rfl rfl rfl (fun _ => rfl) (by decide) (locs rfl) ?_
  case' inr => refine Em.defn (n := n) hA g (f := 32) (binds := [(Str.ofString "a", .ref a), (Str.ofString "x", x), (Str.ofString "lo", .int 0 lo0), (Str.ofString "hi", .none), (Str.ofString "key", .none)]) rfl rfl rfl (fun _ => rfl) (by decide) (locs rfl) ?_
  all_goals
    intro s s₁ L E k0 k1 g1 hA1 hn hL
    have kk := Mine.K.trans k0 k1
    have hL1 : ∀ b ∈ [L], s.heap.get? b = none := fun b hb => by rw [List.mem_singleton.mp hb]; exact hL
    -- if lo < 0
    refine ex_if (EvT.cmp (Cm.lt (Ev.local hn rfl ⟨_, rfl⟩) Ev.int)) fun s2 k2 => ?_
    simp only [show decide ((0:Int) < 0) = false from rfl, Bool.false_eq_true, if_false]
    refine wpAny_execs_nil ?_
    have hn2 := hn.keeps (Mine.K.ext k2)
    -- if hi is None
    refine ex_if (EvT.cmp (Cm.isNone (Ev.local hn2 rfl rfl))) fun s3 k3 => ?_
    simp only [beq_self_eq_true, if_true]
    have hn3 := hn2.keeps (Mine.K.ext k3)
    have g3 : G w s3.heap := g1.k (Mine.K.trans k2 k3)
    have hl3 := ext_list hl (Mine.K.ext (Mine.K.trans kk (Mine.K.trans k2 k3)))
    refine ex_assign hn3 (P := fun v _ => I (items.size : Nat) v) (Em.callB (Ev.bn g3 rfl rfl rfl) (Ea.one (Ev.local hn3 rfl rfl)) fun vs s4 k4 p => ?_) ?_
    · obtain ⟨v, rfl, rfl⟩ := p
      exact Em.len_list (ext_list hl3 (Mine.K.ext k4)) (by omega)
    intro v s4 s5 k4 p kb5 hn5
    obtain ⟨t5, rfl⟩ := p
    refine wpAny_execs_nil ?_
    have kb : KB [L] s₁ s5 := KB.trans (KB.of (Mine.K.trans k2 (Mine.K.trans k3 k4))) kb5
    -- if key is None
    refine ex_if (EvT.cmp (Cm.isNone (Ev.local hn5 rfl rfl))) fun s6 k6 => ?_
    simp only [beq_self_eq_true, if_true]
    have hn6 := hn5.keeps (Mine.K.ext k6)
    refine ex_while (fun n s' => ∃ m lo hi t u, KB [L] s₁ s' ∧ s'.heap.Ns L m ∧ m (Str.ofString "a") = some (.ref a) ∧ m (Str.ofString "x") = some x ∧ m (Str.ofString "lo") = some (.int lo t) ∧ m (Str.ofString "hi") = some (.int hi u) ∧
      0 ≤ lo ∧ lo ≤ k ∧ (k : Int) ≤ hi ∧ hi ≤ items.size ∧ n = (hi - lo).toNat) (items.size - 0 : Int).toNat ?_ ?_
    · exact ⟨_, 0, items.size, _, _, KB.trans kb (KB.of k6), hn6, rfl, rfl, rfl, rfl, by omega, by omega, by omega, by omega, rfl⟩
    · rintro N s' ⟨m, lo, hi, t, u, kb', hn', ha, hx, hlo, hhi, b1, b2, b3, b4, rfl⟩
      refine ⟨decide (lo < hi), EvT.cmp (Cm.lt (Ev.local hn' hlo ⟨_, rfl⟩) (Ev.local hn' hhi ⟨_, rfl⟩)), fun s7 k7 => ?_⟩
      have hn7 := hn'.keeps (Mine.K.ext k7)
      by_cases hlt : lo < hi
      · simp only [hlt, decide_true, if_true]
        intro E'
        have hmid1 : lo ≤ (lo + hi) / 2 := by omega
        have hmid2 : (lo + hi) / 2 < hi := by omega
        refine ex_assign hn7 (Ev.fdiv (Ev.add (Ev.local hn7 hlo ⟨_, rfl⟩) (Ev.local hn7 hhi ⟨_, rfl⟩)) Ev.int (by decide) (PyProof.noPylong_small (by omega))) ?_
        intro v s8 s9 k8 p kb9 hn9
        obtain ⟨t9, rfl⟩ := p
        have kb9' : KB [L] s₁ s9 := KB.trans kb' (KB.trans (KB.of (Mine.K.trans k7 k8)) kb9)
        have k9 : Keeps s₀ s9 := Mine.K.trans k0 (KB.keeps k1 kb9' hL1)
        have hl9 := ext_list hl (Mine.K.ext k9)
        have hi9 : ((lo + hi) / 2).toNat < items.size := by omega
        refine ex_if (b := decide (((lo + hi) / 2).toNat < k)) (EvT.cmp ⟨rfl, fun y => y = items[((lo + hi) / 2).toNat], fun y => y = x,
          Ev.sub_list (Ev.local hn9 (upd_ne ha) rfl) (Ev.local hn9 upd_eq ⟨_, rfl⟩) hl9 (by omega) (by omega) (by rw [Array.getElem?_eq_getElem hi9]) rfl,
          Ev.local hn9 (upd_ne hx) rfl, fun y z s10 k10 e1 e2 => by subst e1 e2; exact hcmp _ hi9 _ _ hA1 (Mine.K.trans k9 k10)⟩) fun s10 k10 => ?_
        have hn10 := hn9.keeps (Mine.K.ext k10)
        by_cases hmk : ((lo + hi) / 2).toNat < k
        · simp only [hmk, decide_true, if_true]
          refine ex_assign hn10 (Ev.add (Ev.local hn10 upd_eq ⟨_, rfl⟩) Ev.int) ?_
          intro v s11 s12 k11 p kb12 hn12
          obtain ⟨t12, rfl⟩ := p
          refine wpAny_execs_nil (wpAny_execs_nil ⟨rfl, (hi - ((lo + hi) / 2 + 1)).toNat, by omega, _, (lo + hi) / 2 + 1, hi, _, _, KB.trans kb9' (KB.trans (KB.of (Mine.K.trans k10 k11)) kb12), hn12, ha, hx, upd_eq, hhi, by omega, by omega, by omega, by omega, rfl⟩)
        · simp only [hmk, decide_false, Bool.false_eq_true, if_false]
          refine ex_assign hn10 (P := fun v _ => I ((lo + hi) / 2) v) (Ev.local hn10 upd_eq ⟨_, rfl⟩) ?_
          intro v s11 s12 k11 p kb12 hn12
          obtain ⟨t12, rfl⟩ := p
          refine wpAny_execs_nil (wpAny_execs_nil ⟨rfl, ((lo + hi) / 2 - lo).toNat, by omega, _, lo, (lo + hi) / 2, _, _, KB.trans kb9' (KB.trans (KB.of (Mine.K.trans k10 k11)) kb12), hn12, ha, hx, hlo, upd_eq, by omega, by omega, by omega, by omega, rfl⟩)
      · simp only [hlt, decide_false, Bool.false_eq_true, if_false]
        refine wpAny_execs_nil ?_
        refine ex_return (P := fun r _ => I (k : Int) r) (Ev.local hn7 hlo ⟨t, by rw [show (k : Int) = lo by omega]⟩) fun r s8 k8 e => ?_
        exact ⟨KB.trans kb' (KB.of (Mine.K.trans k7 k8)), e⟩
end
end Mine

namespace Mine
section
variable {prog : Program} {w : World} {A : Around} {env : Env} {s₀ s : Shared} {α β : Type} {E : Value → Shared → Prop}

theorem tuple_lt_tree {a b : Addr} {x0 x1 y0 y1 : Int} {t0 t1 u0 u1 : Tok} {P : Fin → Shared → Prop} (ha : IsTup s.heap a [Value.int x0 t0, Value.int x1 t1].toArray) (hb : IsTup s.heap b [Value.int y0 u0, Value.int y1 u1].toArray)
    (h : P (.done (.ret (.bool (tlt (x0, x1) (y0, y1))))) s) : wpAny (model prog w) A (Builtin.«tuple.__lt__» ⟨[.ref a, .ref b], []⟩) P E s := by
  show wpAny _ _ (isInstance (.ref b) (.type "tuple") >>= _) _ _ s
  refine wpAny_bind (wpAny_isInstance hb.typeIs isSubtype_tuple_tuple ?_)
  simp only [Bool.not_true, Bool.false_eq_true, if_false]
  refine wpAny_bind (tupleItemsOf_ ha ?_)
  refine wpAny_bind (tupleItemsOf_ hb ?_)
  simp only [List.zip_cons_cons, List.forIn_cons, List.forIn_nil, List.zip_nil_left]
  refine wpAny_bind (wpAny_bind (wpAny_bind (wpAny_eqBool_int ?_)))
  have fin : ∀ (u v : Int) (t t' : Tok) (Q : PySem.Fin → Shared → Prop), Q (.done (.ret (.bool (decide (u < v))))) s →
      wpAny (model prog w) A (richCompare .Lt (.int u t) (.int v t')) (fun r s' => wpAny (model prog w) A (ret r) Q E s') E s := fun u v t t' Q hQ => lt_int (s := s) (wpAny_pure hQ)
  by_cases e0 : x0 = y0
  · subst e0
    simp only [beq_self_eq_true, Bool.not_true, Bool.false_eq_true, if_false]
    refine wpAny_pure ?_
    refine wpAny_bind (wpAny_bind (wpAny_eqBool_int ?_))
    by_cases e1 : x1 = y1
    · subst e1
      simp only [beq_self_eq_true, Bool.not_true, Bool.false_eq_true, if_false]
      refine wpAny_pure (wpAny_pure (wpAny_pure ?_))
      have : tlt (x0, x1) (x0, x1) = false := by simp [tlt]
      rw [this] at h
      exact h
    · have e1' : (x1 == y1) = false := by simp [e1]
      simp only [e1', Bool.not_false, if_true]
      refine wpAny_bind (wpAny_rule (wpAny_bind (wpAny_mono (fin x1 y1 t1 u1 _ ?_) (fun r s' hr => wpAny_bind hr) fun _ _ e => e)))
      refine wpAny_pure (wpAny_pure (wpAny_pure ?_))
      have : tlt (x0, x1) (x0, y1) = decide (x1 < y1) := by simp [tlt]
      rw [this] at h
      exact h
  · have e0' : (x0 == y0) = false := by simp [e0]
    simp only [e0', Bool.not_false, if_true]
    refine wpAny_bind (wpAny_rule (wpAny_bind (wpAny_mono (fin x0 y0 t0 u0 _ ?_) (fun r s' hr => wpAny_bind hr) fun _ _ e => e)))
    refine wpAny_pure (wpAny_pure (wpAny_pure ?_))
    have : tlt (x0, x1) (y0, y1) = decide (x0 < y0) := by simp [tlt, e0]
    rw [this] at h
    exact h

theorem lt_pt_rich {n : Nat} (hA : AOk n A) {v u : Value} {p q : Pt} {Q : Value → Shared → Prop} (hv : IsPt s.heap v p) (hu : IsPt s.heap u q) (h : Q (.bool (tlt p q)) s) : wpAny (model prog w) A (richCompare .Lt v u) Q E s := by
  obtain ⟨a, t, t', rfl, ia⟩ := hv
  obtain ⟨b, r, r', rfl, ib⟩ := hu
  exact wpAny_richCompare_same_room (op := .Lt) ia.typeIs ib.typeIs F.slot_tuple_lt
    (wpAny_call_entry F.slot_tuple_lt ia.typeIs F.entry_tuple_lt (tuple_lt_tree ia ib ⟨_, rfl, (fun e => nomatch e), h⟩) (F.args_tuple_lt_2 _ _)) hA.units0

theorem Em.lt_pt {n : Nat} (hA : AOk n A) {v u : Value} {p q : Pt} (hv : IsPt s₀.heap v p) (hu : IsPt s₀.heap u q) : Em prog w A (compareOp .Lt v u) s₀ (fun r _ => r = .bool (tlt p q)) :=
  Em.of fun s Q E k hQ => lt_pt_rich hA (hv.ext (K.ext k)) (hu.ext (K.ext k)) (hQ _ _ K.rfl rfl)
end
end Mine

namespace Mine
section
variable {prog : Program} {w : World} {A : Around} {env : Env} {s₀ s s₁ : Shared} {α β : Type} {E : Value → Shared → Prop}

/-- a tree that writes at W alone -/
def Mu (prog : Program) (w : World) (A : Around) (t : Sem α) (W : List Addr) (s₀ : Shared) (P : α → Shared → Prop) : Prop :=
  ∀ (s : Shared) (E : Value → Shared → Prop), Keeps s₀ s → wpAny (model prog w) A t (fun v s' => KB W s s' ∧ P v s') E s

theorem Em.mu {t : Sem α} {W : List Addr} {P : α → Shared → Prop} (h : Em prog w A t s₀ P) : Mu prog w A t W s₀ P :=
  fun s E k => wpAny_mono (h s E k) (fun v s' x => ⟨KB.of x.1, x.2⟩) fun _ _ e => e
theorem Mu.use {t : Sem α} {W : List Addr} {P : α → Shared → Prop} {Q : α → Shared → Prop} {E : Value → Shared → Prop} (h : Mu prog w A t W s₀ P) (k : Keeps s₀ s)
    (hQ : ∀ v s', KB W s s' → P v s' → Q v s') : wpAny (model prog w) A t Q E s :=
  wpAny_mono (h s E k) (fun v s' x => hQ v s' x.1 x.2) fun _ _ e => e
theorem Mu.of {t : Sem α} {W : List Addr} {P : α → Shared → Prop} (h : ∀ (s : Shared) (Q : α → Shared → Prop) (E : Value → Shared → Prop), Keeps s₀ s → (∀ v s', KB W s s' → P v s' → Q v s') → wpAny (model prog w) A t Q E s) :
    Mu prog w A t W s₀ P := fun s E k => h s _ E k fun v s' k' p => ⟨k', p⟩
theorem Mu.at {t : Sem α} {W : List Addr} {P : α → Shared → Prop} (h : Mu prog w A t W s₀ P) (k : Keeps s₀ s₁) : Mu prog w A t W s₁ P := fun s E k' => h s E (K.trans k k')

/-- a built-in method, called -/
theorem Mu.meth {o e : Expr} {rest : List Expr} {name : Str} {apos pos : Pos} {T id : String} {a : Addr} {ob : Obj} {W : List Addr} {PA : List Value → Shared → Prop} {P : Value → Shared → Prop}
    (ho : Ev prog w A env o s₀ (R a)) (hob : s₀.heap.get? a = some ob) (hcls : ob.cls = .type T) (hdict : ob.dict = none) (pa : PlainAttrs T) (slot : Slot T name id) (hty : typeOf (.builtin id) = pure (.type "method_descriptor"))
    (ha : Ea prog w A env pos (e :: rest) s₀ PA) (hc : ∀ vs s, Keeps s₀ s → PA vs s → Mu prog w A (call (.builtin id) (.ref a :: vs)) W s P)
    (hbase : attributeBase o name env (eval o env) = eval o env := by rfl)
    (hfew : ((backTo pos (starEach (e :: rest) env)).all (fun x => !x.1) && (backToKw pos (keywordEach [] env)).all (fun x => x.1.isSome)
      && decide ((e :: rest).length + ([] : List Keyword).length + (if ([] : List Keyword).isEmpty then 0 else 1) < 30)) = true := by rfl)
    (hline : (apos.endLine == pos.line) = true := by rfl)
    (he : starEach (e :: rest) env = (false, eval e env) :: starEach rest env := by rfl) (hplain : (backTo pos (starEach rest env)).any (·.1) = false := by rfl) :
    Mu prog w A (eval (.Call (.Attribute o name apos) (e :: rest) [] pos) env) W s₀ P :=
  Mu.of fun s Q E k hQ => wpAny_Call_method hbase hfew hline pa slot hty (ho.use k fun v s₁ k₁ e₁ => by
    cases e₁
    have h1 := K.ext (K.trans k k₁) _ _ hob
    refine ⟨⟨ob, h1, hcls⟩, fun b eb => by cases eb; exact ⟨ob, h1, hdict⟩, ?_⟩
    exact callWith_method1 (ha.use (K.trans k k₁) fun vs s₂ k₂ p₂ => (hc vs s₂ (K.trans k (K.trans k₁ k₂)) p₂).use K.rfl fun v s₃ k₃ p₃ => hQ v s₃ (KB.trans (KB.of (K.trans k₁ k₂)) k₃) p₃) he hplain)
theorem Em.meth0 {o : Expr} {name : Str} {apos pos : Pos} {T id : String} {a : Addr} {ob : Obj} {P : Value → Shared → Prop}
    (ho : Ev prog w A env o s₀ (R a)) (hob : s₀.heap.get? a = some ob) (hcls : ob.cls = .type T) (hdict : ob.dict = none) (pa : PlainAttrs T) (slot : Slot T name id) (hty : typeOf (.builtin id) = Pure.pure (Value.type "method_descriptor"))
    (hc : ∀ s, Keeps s₀ s → Em prog w A (call (.builtin id) [.ref a]) s P)
    (hbase : attributeBase o name env (eval o env) = eval o env := by rfl)
    (hfew : ((backTo pos (starEach [] env)).all (fun x => !x.1) && (backToKw pos (keywordEach [] env)).all (fun x => x.1.isSome)
      && decide (([] : List Expr).length + ([] : List Keyword).length + (if ([] : List Keyword).isEmpty then 0 else 1) < 30)) = true := by rfl)
    (hline : (apos.endLine == pos.line) = true := by rfl) :
    Em prog w A (eval (.Call (.Attribute o name apos) [] [] pos) env) s₀ P :=
  Em.of fun s Q E k hQ => wpAny_Call_method hbase hfew hline pa slot hty (ho.use k fun v s₁ k₁ e₁ => by
    cases e₁
    have h1 := K.ext (K.trans k k₁) _ _ hob
    refine ⟨⟨ob, h1, hcls⟩, fun b eb => by cases eb; exact ⟨ob, h1, hdict⟩, ?_⟩
    exact callWith_method0 ((hc s₁ (K.trans k k₁)).use K.rfl fun v s₃ k₃ p₃ => hQ v s₃ (K.trans k₁ k₃) p₃))

theorem ext_plain {h h' : Heap} {l : Addr} {items : Array Value} (x : h.PlainList l items) (e : Ext h h') : h'.PlainList l items := x.at fun o q => e l o q

def insAt (k : Nat) (y : Value) (vs : List Value) : List Value := vs.take k ++ y :: vs.drop k

theorem Mu.insert {a : Addr} {vs : List Value} {k : Nat} {j : Int} {u : Tok} {y : Value} (hl : s₀.heap.PlainList a vs.toArray) (hj : j = (k : Int)) (hk : k ≤ vs.length) (hsz : vs.length < 1000) :
    Mu prog w A (call (.builtin "list.insert") [.ref a, .int j u, y]) [a] s₀ (fun r s => r = .none ∧ s.heap.PlainList a (insAt k y vs).toArray) :=
  Mu.of fun s Q E k₀ hQ => by
    obtain ⟨n, hn⟩ := ext_plain hl (K.ext k₀)
    have hf : Builtin.List.listFitsIndex j = true := by
      simp only [Builtin.List.listFitsIndex]
      have h1 : -(9223372036854775808 : Int) ≤ j := by omega
      have h2 : j < 9223372036854775808 := by omega
      have e1 : (2 : Int) ^ 63 = 9223372036854775808 := by decide
      rw [e1]
      simp [h1, h2]
    have hf' : ¬(!Builtin.List.listFitsIndex j) = true := by rw [hf]; simp
    have hz : vs.toArray.size ≤ sizeLine := by rw [List.size_toArray]; exact Nat.le_trans (Nat.le_of_lt hsz) (by decide)
    have M := PySem.AutoSeq1.list_insert_list_int_val_1 a vs.toArray n j u y hf' hz
    refine call_meets PySem.F.slot_list_insert ⟨_, hn, rfl⟩ PySem.F.entry_list_insert (PySem.F.args_list_insert_3 _ _ _) M ⟨hn, ?_⟩
    have q := PySem.IsL.update hn (fun xs => have k := if j < 0 then (j + (xs.size : Int)).toNat else min j.toNat xs.size; (xs.extract 0 k).push y ++ xs.extract k)
    have e : (fun xs : Array Value => have k := if j < 0 then (j + (xs.size : Int)).toNat else min j.toNat xs.size; (xs.extract 0 k).push y ++ xs.extract k) vs.toArray = (insAt k y vs).toArray := by
      have hmin : min j.toNat vs.length = k := by omega
      simp only [List.size_toArray]
      rw [if_neg (by omega), hmin]
      exact kl_ins_eq vs k y
    have q' : ∃ n', IsL (s.heap.update a (Obj.mapSeq fun xs => have k := if j < 0 then (j + (xs.size : Int)).toNat else min j.toNat xs.size; (xs.extract 0 k).push y ++ xs.extract k)) a (insAt k y vs).toArray n' := by
      rw [← e]; exact ⟨_, q⟩
    exact hQ _ _ (KB.same (Heap.SameBut.update ..) (by simp)) ⟨rfl, q'⟩
end
end Mine

namespace Mine
section
variable {prog : Program} {w : World} {A : Around} {env : Env} {s₀ s s₁ : Shared} {α β : Type} {E : Value → Shared → Prop}

theorem fresh_none (h : Heap) : h.get? h.objs.size = none := by
  cases e : h.get? h.objs.size with
  | none => rfl
  | some o => exact absurd (Heap.lt_size e) (Nat.lt_irrefl _)

theorem Mu.ofCode {f : Value} {vs : List Value} {W : List Addr} {P : Value → Shared → Prop} (h : ∀ s, Keeps s₀ s → codeAny (model prog w) A (.call f ⟨vs, []⟩) (fun r s' => ∃ v, r = .ok (.ret v) ∧ KB W s s' ∧ P v s') s) :
    Mu prog w A (call f vs) W s₀ P :=
  Mu.of fun s Q E k hQ => wpAny_call (codeAny_mono (h s k) fun r s' ⟨v, e, k', p⟩ => by subst e; exact hQ v s' k' p)

/-- a def of the top that writes at W -/
theorem Mu.defn {s₀ : Shared} {n : Nat} {W : List Addr} (hA : AOk (n + 1) A) (g : G w s₀.heap) {f : Addr} {oc : Value} {od : Option Addr} {osl : Array (Option Value)} {fd : FuncData} {body : List Stmt} {vs : List Value} {binds : List (Str × Value)} {P : Value → Shared → Prop}
    (ho : (KF w).lookup f = some ⟨oc, od, .func fd, osl⟩) (hbody : fd.body = .stmts body) (hcd : codeIn (KF w) fd.code fd.qualname = true) (hbind : ∀ S, peek (KF w) S (bindArgs fd ⟨vs, []⟩) = some binds)
    (hcell : ∀ x ∈ fd.scope.names, x.2 ≠ .cell) (hloc : ∀ x ∈ binds, fd.scope.names.lookup x.1 = some .local)
    (h : ∀ s s₁ L E, Keeps s₀ s → Keeps s s₁ → G w s₁.heap → AOk n (A.deeper (callEnv fd L f)) → s₁.heap.Ns L (fun x => binds.reverse.lookup x) → s.heap.get? L = none →
      wpAny (model prog w) (A.deeper (callEnv fd L f)) (execs body (callEnv fd L f)) (fun fl s' => KB (L :: W) s₁ s' ∧ P (match fl with | .ret v => v | _ => .none) s') E s₁)
    (hco : fd.scope.isCoroutine = false := by rfl) (hgen : fd.scope.isGenerator = false := by rfl) (hk : fd.scope.kind = .function := by rfl) :
    Mu prog w A (call (.ref f) vs) W s₀ P := by
  refine Mu.ofCode fun s k => ?_
  have g' := g.k k
  refine codeAny_call_def (fd := fd) (body := body) (binds := binds) hA.room (g'.kin _ _ ho) rfl g'.lim (codeRec_of g'.kin hcd) hbody (kp_binds g'.kin hbind) hcell hloc (fun h₁ hns hk₁ => ?_) hco hgen hk
  have k1 : Keeps s { s with heap := h₁, toks := s.toks + binds.length } := K.mk hk₁
  refine wpAny_mono (h s _ s.heap.objs.size _ k k1 (g'.k k1) (hA.deeper _) hns (fresh_none _)) (fun fl s' q => ?_) fun _ _ e => e
  refine ⟨_, rfl, KB.from (KB.of k1) q.1 (fun b hb hn => ?_), q.2⟩
  rcases List.mem_cons.mp hb with rfl | hb
  · exact fresh_none _
  · exact absurd hb hn

theorem ex_expr {e : Expr} {pos : Pos} {rest : List Stmt} {Q : Flow → Shared → Prop} {W : List Addr} {P : Value → Shared → Prop} (h : Mu prog w A (eval e env) W s P)
    (k : ∀ v s', KB W s s' → P v s' → wpAny (model prog w) A (execs rest env) Q E s') (hi : interactive env = false := by rfl) (hs : swapsWith e none pos.line env = pure false := by rfl) :
    wpAny (model prog w) A (execs (.Expr e pos :: rest) env) Q E s :=
  ex_cons (wpAny_Expr_any (h.use K.rfl k) hi hs)

theorem insort_spec {n : Nat} (hA : AOk (n + 2) A) (g : G w s₀.heap) {a : Addr} {vs : List Value} {x : Value} {k : Nat} (hl : s₀.heap.PlainList a vs.toArray) (hk : k ≤ vs.length) (hsz : vs.length < 900)
    (hcmp : ∀ i (h : i < vs.toArray.size) A' s', AOk n A' → Keeps s₀ s' → Em prog w A' (compareOp .Lt vs.toArray[i] x) s' (fun v _ => v = .bool (decide (i < k)))) :
    Mu prog w A (call (.ref 23) [.ref a, x]) [a] s₀ (fun _ s => s.heap.PlainList a (insAt k x vs).toArray) := by
  refine Mu.defn (n := n + 1) hA g (f := 23) (binds := [(Str.ofString "a", .ref a), (Str.ofString "x", x), (Str.ofString "lo", .int 0 189), (Str.ofString "hi", .none), (Str.ofString "key", .none)]) rfl rfl rfl (fun _ => rfl) (by decide) (locs rfl) ?_
  intro s s₁ L E k0 k1 g1 hA1 hn hL
  have kk := Mine.K.trans k0 k1
  have hl1 := ext_plain hl (Mine.K.ext kk)
  have haL : a ≠ L := by
    rintro rfl
    obtain ⟨m, hm⟩ := ext_plain hl (Mine.K.ext k0)
    rw [hL] at hm; cases hm
  refine ex_if (EvT.cmp (Cm.isNone (Ev.local hn rfl rfl))) fun s2 k2 => ?_
  simp only [beq_self_eq_true, if_true]
  have hn2 := hn.keeps (Mine.K.ext k2)
  have g2 := g1.k k2
  have k02 := Mine.K.trans kk k2
  refine ex_assign hn2 (P := fun v _ => I (k : Int) v) (Em.callF (f := 32) (Ev.fn g2 rfl rfl) (g2.kin _ _ rfl) rfl
    (PA := fun vs' _ => ∃ t, vs' = [.ref a, x, .int 0 t, .none]) (Ea.cons (Ev.local (P := fun v => v = .ref a) hn2 rfl rfl) fun v1 s3 k3 e1 => Ea.cons (Ev.local (P := fun v => v = x) (hn2.keeps (Mine.K.ext k3)) rfl rfl) fun v2 s4 k4 e2 =>
      Ea.cons (Ev.local (P := fun v => v = .int 0 189) (hn2.keeps (Mine.K.ext (Mine.K.trans k3 k4))) rfl rfl) fun v3 s5 k5 e3 => Ea.cons (Ev.local (P := fun v => v = .none) (hn2.keeps (Mine.K.ext (Mine.K.trans k3 (Mine.K.trans k4 k5)))) rfl rfl) fun v4 s6 k6 e4 =>
        Ea.nil fun s7 k7 => ⟨189, by subst e1 e2 e3 e4; rfl⟩) fun vs' s3 k3 p => ?_) ?_
  · obtain ⟨t, rfl⟩ := p
    have k03 := Mine.K.trans k02 k3
    exact bisect_spec hA1 (g2.k k3) (items := vs.toArray) (x := x) (k := k) (ext_plain hl (Mine.K.ext k03)).isList (by simpa using hk) (by simp; omega) (fun i h A' s' hA' k' => hcmp i h A' s' hA' (Mine.K.trans k03 k')) (.inr ⟨t, rfl⟩)
  intro v s3 s4 k3 p kb4 hn4
  obtain ⟨t4, rfl⟩ := p
  refine wpAny_execs_nil ?_
  have kb : KB [L] s₁ s4 := KB.trans (KB.of (Mine.K.trans k2 k3)) kb4
  have hl4 : s4.heap.PlainList a vs.toArray := by
    obtain ⟨m, hm⟩ := hl1
    exact ⟨m, kb.get hm (by simpa using haL)⟩
  obtain ⟨mm, hmm⟩ := hl4
  refine ex_expr (W := [a]) (P := fun _ s' => s'.heap.PlainList a (insAt k x vs).toArray) (Mu.meth (T := "list") (id := "list.insert") (Ev.local hn4 rfl rfl) hmm rfl rfl PySem.F.plainAttrs_list PySem.F.slot_list_insert PySem.F.type_list_insert
    (PA := fun vs' _ => ∃ t, vs' = [.int k t, x]) (Ea.cons (Ev.local (P := fun v => v = .int k t4) hn4 rfl rfl) fun v1 s5 k5 e1 => Ea.cons (Ev.local (P := fun v => v = x) (hn4.keeps (Mine.K.ext k5)) rfl rfl) fun v2 s6 k6 e2 => Ea.nil fun s7 k7 => ⟨t4, by subst e1 e2; rfl⟩)
    fun vs' s5 k5 p => ?_) fun v s5 kb5 p => ?_
  · obtain ⟨t, rfl⟩ := p
    intro s6 E' k6
    refine wpAny_mono (Mu.insert (s₀ := s4) (k := k) ⟨mm, hmm⟩ rfl hk (by omega) s6 E' (Mine.K.trans k5 k6)) (fun v s' q => ⟨q.1, q.2.2⟩) fun _ _ e => e
  refine wpAny_execs_nil ⟨?_, p⟩
  exact KB.trans (kb.mono (by simp)) (kb5.mono (by simp))
end
end Mine

namespace Mine

def idxOf (a : Int) : Value → Nat
  | .int z _ => (z - a).toNat
  | _ => 0
def pOf (a : Int) (p : Nat → Bool) : Value → Bool
  | .int z _ => p (z - a).toNat
  | _ => false
def fOf (a : Int) (F : Nat → Value → Prop) (v y : Value) : Prop := F (idxOf a v) y

theorem paired_map {α β γ : Type} {F : β → γ → Prop} {f : α → β} : ∀ {l : List α} {ys : List γ}, Paired (fun v y => F (f v) y) l ys → Paired F (l.map f) ys
  | _, _, .nil => .nil
  | _, _, .cons h r => .cons h (paired_map r)

theorem range_vals {a : Int} {n : Nat} {vs : List Value} (hlen : vs.length = n) (h : ∀ (j : Nat) v, vs[j]? = some v → ∃ t, v = Value.int (a + (j : Int) * 1) t) : vs.map (idxOf a) = List.range n := by
  apply List.ext_getElem?
  intro j
  rw [List.getElem?_map]
  rcases Nat.lt_or_ge j n with hj | hj
  · have hj' : j < vs.length := by omega
    obtain ⟨t, e⟩ := h j vs[j] (List.getElem?_eq_getElem hj')
    rw [List.getElem?_eq_getElem hj', List.getElem?_range hj]
    simp [e, idxOf]; omega
  · rw [List.getElem?_eq_none (by omega), List.getElem?_eq_none (by simp; omega)]
    rfl

theorem range_filter {a : Int} {n : Nat} {vs : List Value} {p : Nat → Bool} (hlen : vs.length = n) (h : ∀ (j : Nat) v, vs[j]? = some v → ∃ t, v = Value.int (a + (j : Int) * 1) t) : (vs.filter (pOf a p)).map (idxOf a) = (List.range n).filter p := by
  rw [← range_vals hlen h, List.filter_map]
  congr 1
  apply List.filter_congr
  intro v hv
  obtain ⟨j, hj⟩ := List.mem_iff_getElem?.mp hv
  obtain ⟨t, rfl⟩ := h j v hj
  rfl

abbrev rangeIt (a b : Int) : Obj := { cls := .type "range_iterator", data := .fields #[rawInt a, rawInt (Builtin.Range.rangeSize a b 1), rawInt 1] }
theorem walks_lt {prog : Program} {w : World} {A : Around} {I : Addr} {fp wr : List Addr} {n : Nat} {P : Nat → Value → Prop} {St : Nat → Heap → Prop} (W : Walks prog w A I fp wr n P St) :
    Walks prog w A I fp wr n (fun i v => i < n ∧ P i v) St where
  sub := W.sub
  frame := W.frame
  item := fun i s Q E hi st hQ => W.item i s Q E hi st fun v h' tk p => hQ v h' tk ⟨hi, p⟩
  done := W.done
  self := W.self

section
variable {prog : Program} {w : World} {A : Around} {env : Env} {s₀ s s₁ : Shared} {α β : Type} {E : Value → Shared → Prop}

theorem Em.comp {elt iter : Expr} {x : Str} {px : Pos} {ifs : List Expr} {scope : Scope} {cl : List (Str × Addr)} {pos : Pos} {a b : Int} (n : Nat) (p : Nat → Bool) (F : Nat → Value → Prop) (hh : A.handled = none)
    (hit : Em prog w A (eval iter env) s₀ (fun v s => ∃ r t u y, v = .ref r ∧ IsRange s.heap r a b 1 t u y)) (hn : (b - a).toNat = n) (ha : -1000000 ≤ a ∧ a ≤ 1000000 ∧ -1000000 ≤ b ∧ b ≤ 1000000)
    (hclos : closureFor scope env = pure cl) (hcell : ∀ y ∈ scope.names, y.2 ≠ .cell) (hkind : scope.kind = .function)
    (hnames : ∀ y ∈ scope.names, y.2 = .local → scope.names.lookup y.1 = some .local) (hx : scope.names.lookup x = some .local)
    (htest : ∀ i C s m t, i < n → Ext s₀.heap s.heap → s₀.heap.get? C = none → s.heap.Ns C m → m x = some (.int (a + i) t) →
      Em prog w A (forIn ifs true fun c r => if r = true then do let ok ← isTrue c (compEnvC scope cl C env) (eval c (compEnvC scope cl C env)); pure (ForInStep.yield ok) else pure (ForInStep.yield r)) s (fun ok _ => ok = p i))
    (helt : ∀ i C s m t, i < n → p i = true → Ext s₀.heap s.heap → s₀.heap.get? C = none → s.heap.Ns C m → m x = some (.int (a + i) t) → Em prog w A (eval elt (compEnvC scope cl C env)) s (fun y _ => F i y))
    (hs : ∀ x, foldedSetIterable iter env x = pure x := by intro _; rfl) :
    Em prog w A (eval (.ListComp elt [⟨.Name x px, iter, ifs, 0⟩] scope pos) env) s₀ (fun v s => ∃ D ys, v = .ref D ∧ s₀.heap.get? D = none ∧ s.heap.PlainList D (List.toArray ys) ∧ Paired F ((List.range n).filter p) ys) :=
  Em.of fun s Q E k hQ => wpAny_ListComp_free (pOf a p) (fOf a F) hclos hcell hkind hnames hx (hit.use k fun xv s₁ k₁ hr => by
    obtain ⟨r, t, u, y, rfl, hr⟩ := hr
    refine wpAny_pyIter_range hr (small_one (by omega) (by omega) (by omega) (by omega)) ?_
    have kI : Ext s₁.heap (s₁.heap.push (rangeIt a b)) := fun x o e => Heap.get?_push_of_some _ e
    have e1 : Ext s₀.heap s₁.heap := K.ext (K.trans k k₁)
    have hI0 : s₁.heap.get? s₁.heap.objs.size = none := fresh_none _
    have old : ∀ h' : Heap, (∀ x o, x ∉ [s₁.heap.objs.size] → (s₁.heap.push (rangeIt a b)).get? x = some o → h'.get? x = some o) → Ext s₁.heap h' := fun h' hk x o e =>
      hk x o (fun q => by rw [List.mem_singleton.mp q, hI0] at e; cases e) (kI x o e)
    have fresh_of : ∀ C, (s₁.heap.push (rangeIt a b)).objs.size ≤ C → s₀.heap.get? C = none := fun C hC => by
      cases e : s₀.heap.get? C with
      | none => rfl
      | some o => exact absurd (Nat.lt_of_lt_of_le (Heap.lt_size (kI _ _ (e1 _ _ e))) hC) (Nat.lt_irrefl _)
    refine ⟨s₁.heap.objs.size, _, _, n, _, _, rfl, walks_lt (Walks.range (prog := prog) (w := w) hh s₁.heap.objs.size a 1 n), ?_, ?_, ?_, ⟨?_, ?_⟩, ?_⟩
    · exact Nat.le_trans (show n ≤ 2000000 by omega) (by decide)
    · show Heap.get? _ _ = _
      rw [Heap.get?_push_size _ rfl, rangeSize_nat, hn]
      simp
    · intro b hb
      rw [List.mem_singleton.mp hb, Heap.size_push]; exact Nat.lt_succ_self _
    · rintro C i v s₃ m₃ E' hC ⟨hin, t, rfl⟩ hns hm hk htk
      have e3 := old _ hk
      refine wpAny_mono (htest i C s₃ m₃ t hin (e1.trans e3) (fresh_of C hC) hns (by rw [hm, Int.mul_one]) s₃ E' K.rfl) (fun ok s₄ q => ⟨?_, q.1⟩) fun _ _ e => e
      rw [q.2]
      show p i = p (a + (i : Int) * 1 - a).toNat
      congr 1; omega
    · rintro C i v s₃ m₃ E' hC ⟨hin, t, rfl⟩ hpv hns hm hk htk
      have e3 := old _ hk
      have hi : (a + (i : Int) * 1 - a).toNat = i := by omega
      have hp' : p i = true := by
        have : p (a + (i : Int) * 1 - a).toNat = true := hpv
        rwa [hi] at this
      refine wpAny_mono (helt i C s₃ m₃ t hin hp' (e1.trans e3) (fresh_of C hC) hns (by rw [hm, Int.mul_one]) s₃ E' K.rfl) (fun y s₄ q => ⟨?_, q.1⟩) fun _ _ e => e
      show F (a + (i : Int) * 1 - a).toNat y
      rw [hi]; exact q.2
    · intro D h' tk ys vs hD hl hpl hlen hP hF hk
      have e3 := old _ hk
      have hP := fun j v e => (hP j v e).2
      refine hQ _ _ (K.trans k₁ (K.mk e3)) ⟨D, ys.toList, rfl, ?_, by simpa using hpl, ?_⟩
      · cases e : s₀.heap.get? D with
        | none => rfl
        | some o => have := kI _ _ (e1 _ _ e); rw [hD] at this; cases this
      · rw [← range_filter hlen hP]
        exact paired_map hF) hs
end
end Mine

namespace Mine
section
variable {prog : Program} {w : World} {A : Around} {env : Env} {s₀ s s₁ : Shared} {α β : Type} {E : Value → Shared → Prop}

theorem for_walk {target : Expr} {body : List Stmt} {J : Addr} {fp wr : List Addr} {n : Nat} {P : Nat → Value → Prop} {St : Nat → Heap → Prop} {X : Value → Shared → Prop} (Wk : Walks prog w A J fp wr n P St) (W : List Addr) (hdis : ∀ b ∈ W, b ∉ fp)
    (Inv : Nat → Shared → Prop) {Q : Flow → Shared → Prop} (h0 : Inv 0 s) (hS0 : St 0 s.heap) (hst : ∀ i s s', St i s.heap → Inv i s → KB wr s s' → Inv i s')
    (hlet : ∀ i v s, P i v → St (i + 1) s.heap → ∀ (Q : Unit → Shared → Prop) E, Q () s → wpAny (model prog w) A (letOwnedTupleGo target (.ref J) v) Q E s)
    (turn : ∀ i v s, i < n → P i v → Inv i s → ∀ E', wpAny (model prog w) A (assign target env v) (fun _ s' => wpAny (model prog w) A (execs body env)
      (fun f s'' => KB W s s'' ∧ (match f with | .next => Inv (i + 1) s'' | .ret v => Q (.ret v) s'' | _ => False)) E' s') E' s)
    (done : ∀ s', Inv n s' → Q .next s') :
    codeAny (model prog w) A (.forLoop target (.ref J) body [] env) (fun r s' => match r with | .ok f => Q f s' | .error e => X e s') s := by
  refine codeAny_forLoop_any (fun k s' => ∃ i, i ≤ n ∧ k = n + 1 - i ∧ Inv i s' ∧ St i s'.heap) ?_ (n + 1) ⟨0, Nat.zero_le _, rfl, h0, hS0⟩
  rintro k s' ⟨i, hi, rfl, hI, hS⟩
  rcases Nat.lt_or_ge i n with hlt | hge
  · refine Wk.item i s' _ _ hlt hS fun v h' tk p hS' hk => ?_
    have hkb : KB wr s' { s' with heap := h', toks := tk } := ⟨h', tk, rfl, hk⟩
    have hI' := hst i _ _ hS hI hkb
    refine hlet i v _ p hS' _ _ ?_
    refine wpAny_mono (turn i v _ hlt p hI' _) (fun _ s₂ h₂ => wpAny_mono h₂ (fun f s₃ h₃ => ?_) fun _ _ e => e) fun _ _ e => e
    obtain ⟨kb, h₃⟩ := h₃
    cases f with
    | next =>
      refine ⟨n + 1 - (i + 1), by omega, i + 1, hlt, rfl, h₃, Wk.frame _ _ _ hS' fun b hb o e => kb.get e fun hW => hdis b hW hb⟩
    | ret v => exact h₃
    | brk => exact h₃.elim
    | cont => exact h₃.elim
  · have hin : i = n := by omega
    subst hin
    refine Wk.done s' _ _ hS fun h' tk hk => ?_
    exact wpAny_execs_nil (done _ (hst i _ _ hS hI ⟨h', tk, rfl, hk⟩))

/-- the statement: its iterator made by iter -/
theorem ex_for {target iter : Expr} {body rest : List Stmt} {pos : Pos} {Q : Flow → Shared → Prop}
    (h : ∀ E', wpAny (model prog w) A (eval iter env) (fun x s₁ => wpAny (model prog w) A (pyIter x) (fun it s₂ => ∀ X : Value → Shared → Prop, codeAny (model prog w) A (.forLoop target it body [] env)
      (fun r s' => match r with | .ok f => (match f with | .next => wpAny (model prog w) A (execs rest env) Q E s' | f => Q f s') | .error e => X e s') s₂) E' s₁) E' s)
    (hs : ∀ x, foldedSetIterable iter env x = pure x := by intro _; rfl) :
    wpAny (model prog w) A (execs (.For target iter body [] pos :: rest) env) Q E s :=
  ex_cons (wpAny_For (wpAny_mono (h _) (fun x s₁ h₁ => wpAny_mono h₁ (fun it s₂ h₂ => codeAny_mono (h₂ (cameBackBy (model prog w) A env E)) fun r s' q => by cases r with | ok f => exact q | error e => exact q) fun _ _ e => e) fun _ _ e => e) hs)

/-- over a range by ones -/
theorem for_range {target iter : Expr} {body rest : List Stmt} {pos : Pos} {Q : Flow → Shared → Prop} {a b : Int} (n : Nat) (W : List Addr) (hh : A.handled = none)
    (hit : Em prog w A (eval iter env) s (fun v s => ∃ r t u y, v = .ref r ∧ IsRange s.heap r a b 1 t u y)) (hn : (b - a).toNat = n) (ha : -1000000 ≤ a ∧ a ≤ 1000000 ∧ -1000000 ≤ b ∧ b ≤ 1000000)
    (hW : ∀ b ∈ W, ∃ o, s.heap.get? b = some o)
    (Inv : Nat → Shared → Prop) (h0 : ∀ s', Keeps s s' → Inv 0 s') (hst : ∀ i s₁ s' J, s.heap.get? J = none → Inv i s₁ → KB [J] s₁ s' → Inv i s')
    (turn : ∀ i t s, i < n → Inv i s → ∀ E', wpAny (model prog w) A (assign target env (.int (a + i) t)) (fun _ s' => wpAny (model prog w) A (execs body env)
      (fun f s'' => KB W s s'' ∧ (match f with | .next => Inv (i + 1) s'' | .ret v => Q (.ret v) s'' | _ => False)) E' s') E' s)
    (done : ∀ s', Inv n s' → wpAny (model prog w) A (execs rest env) Q E s')
    (hlet : ∀ it v, letOwnedTupleGo target it v = pure () := by intro _ _; rfl)
    (hs : ∀ x, foldedSetIterable iter env x = pure x := by intro _; rfl) :
    wpAny (model prog w) A (execs (.For target iter body [] pos :: rest) env) Q E s := by
  refine ex_for (fun E' => ?_) hs
  refine hit.use K.rfl fun x s₁ k₁ hr => ?_
  obtain ⟨r, t, u, y, rfl, hr⟩ := hr
  refine wpAny_pyIter_range hr (small_one (by omega) (by omega) (by omega) (by omega)) fun X => ?_
  have kI : Ext s₁.heap (s₁.heap.push (rangeIt a b)) := fun x o e => Heap.get?_push_of_some _ e
  have hJ : s.heap.get? s₁.heap.objs.size = none := by
    cases e : s.heap.get? s₁.heap.objs.size with
    | none => rfl
    | some o => have := K.ext k₁ _ _ e; rw [fresh_none] at this; cases this
  refine for_walk (walks_lt (Walks.range (prog := prog) (w := w) hh s₁.heap.objs.size a 1 n)) W (fun b hb hm => ?_) Inv (h0 _ (K.trans k₁ (K.mkh kI))) ?_ (fun i s₂ s' _ hI kb => hst i s₂ s' _ hJ hI kb) (fun i v s₂ _ _ Q' E'' hq => by rw [hlet]; exact wpAny_pure hq) ?_ done
  · obtain ⟨o, e⟩ := hW b hb
    rw [List.mem_singleton.mp hm, hJ] at e; cases e
  · show Heap.get? _ _ = _
    rw [Heap.get?_push_size _ rfl, rangeSize_nat, hn]
    simp
  · rintro i v s₂ hi ⟨_, t, rfl⟩ hI E''
    have := turn i t s₂ hi hI E''
    rw [Int.mul_one]
    refine wpAny_mono this (fun _ s' h' => wpAny_mono h' (fun f s'' h'' => ⟨h''.1, ?_⟩) fun _ _ e => e) fun _ _ e => e
    have h2 := h''.2
    cases f <;> exact h2
end
end Mine

namespace Mine

theorem ints_of_paired {f : Nat → Int} : ∀ {l : List Nat} {ys : List Value}, Paired (fun i y => I (f i) y) l ys → IntsAre ys (l.map f)
  | _, _, .nil => .nil
  | _, _, .cons ⟨t, e⟩ r => by subst e; exact .cons _ t (ints_of_paired r)

section
variable {prog : Program} {w : World} {A : Around} {env : Env} {s₀ s s₁ : Shared} {α β : Type} {E : Value → Shared → Prop}

theorem Em.max_list {l : Addr} {vs : List Value} {ns : List Int} (hh : A.handled = none) (hl : s₀.heap.IsList l vs.toArray) (hi : IntsAre vs ns) (hne : 0 < ns.length) :
    Em prog w A (call (.builtin "max") [.ref l]) s₀ (fun v _ => ∃ M, I M v ∧ M ∈ ns ∧ ∀ a ∈ ns, a ≤ M) :=
  Em.of fun s Q E k hQ => by
    have hl' := ext_list hl (K.ext k)
    obtain ⟨xs, e⟩ := hi.allInts.items
    have hns : ns = xs.toList.map (·.1) := by rw [← hi.numsOf, ← nums_intItems, ← e]
    have hsz : 0 < xs.size := by
      rw [hns, List.length_map, Array.length_toList] at hne; exact hne
    rw [e] at hl'
    refine max_intList hh hl' hsz fun v h' tk hv hk => ?_
    obtain ⟨t, rfl⟩ := intItems_at hv
    obtain ⟨h1, h2⟩ := argBest_gt (numAt xs) (xs.size - 1)
    refine hQ _ _ (K.mk hk) ⟨_, ⟨t, rfl⟩, ?_, fun a ha => ?_⟩
    · rw [hns, numAt_eq]; exact getD_mem (by rw [List.length_map, Array.length_toList]; omega)
    · rw [hns] at ha
      obtain ⟨j, hj, rfl⟩ := mem_getD ha
      rw [List.length_map, Array.length_toList] at hj
      rw [← numAt_eq]; exact h2 j (by omega)

theorem Em.concat {l b : Addr} {vs ws : List Value} (hl : s₀.heap.PlainList l vs.toArray) (hb : s₀.heap.PlainList b ws.toArray) (hsz : vs.length + ws.length ≤ 1000) :
    Em prog w A (binaryOp .Add (.ref l) (.ref b)) s₀ (fun v s => ∃ D, v = .ref D ∧ s₀.heap.get? D = none ∧ s.heap.PlainList D (vs ++ ws).toArray) :=
  Em.of fun s Q E k hQ => by
    obtain ⟨n, hn⟩ := ext_plain hl (K.ext k)
    obtain ⟨n2, hn2⟩ := ext_plain hb (K.ext k)
    have e : vs.toArray ++ ws.toArray = (vs ++ ws).toArray := by simp
    refine concat_meets ⟨_, hn, rfl⟩ ⟨_, hn2, rfl⟩ noFill_list_add seq_list_add PySem.F.slot_list_add PySem.F.entry_list_add (PySem.F.args_list_add_2 _ _) (list_addW l b vs.toArray ws.toArray n n2 none none #[] #[] (by simpa using Nat.le_trans hsz (by decide))) ⟨hn, hn2, ?_⟩
    rw [e]
    refine hQ _ _ (K.mkh fun b o e => Heap.get?_push_of_some _ e) ⟨_, rfl, ?_, 0, Heap.get?_push_size _ rfl⟩
    cases e : s₀.heap.get? s.heap.objs.size with
    | none => rfl
    | some o => have := K.ext k _ _ e; rw [fresh_none] at this; cases this

theorem Mu.append {l : Addr} {vs : List Value} {x : Value} (hl : s₀.heap.PlainList l vs.toArray) (hsz : vs.length ≤ 1000) :
    Mu prog w A (call (.builtin "list.append") [.ref l, x]) [l] s₀ (fun _ s => s.heap.PlainList l (vs ++ [x]).toArray) :=
  Mu.of fun s Q E k hQ => by
    refine wpAny_list_append_plain (ext_plain hl (K.ext k)) (fun h' hl' hs' => hQ _ _ (KB.sameh hs' (by simp)) ?_) (by simpa using Nat.le_trans hsz (by decide))
    simpa using hl'

/-! captured names -/
theorem ex_assign_cell {e : Expr} {x : Str} {p pos : Pos} {rest : List Stmt} {Q : Flow → Shared → Prop} {c : Addr} {v₀ : Option Value} {P : Value → Shared → Prop} (hc : env.cells.lookup x = some c) (hv : s.heap.IsCell c v₀) (h : Em prog w A (eval e env) s P)
    (k : ∀ v s₁ s', Keeps s s₁ → P v s₁ → KB [c] s₁ s' → s'.heap.IsCell c (some v) → wpAny (model prog w) A (execs rest env) Q E s')
    (hs : swapsWith e (some (.Name x p)) pos.line env = pure false := by rfl) (hl : env.kindOf x = some .cell := by rfl) (hk : env.scope.kind = .function := by rfl) :
    wpAny (model prog w) A (execs (.Assign [.Name x p] e pos :: rest) env) Q E s :=
  ex_cons (wpAny_Assign_Name (h.use K.rfl fun v s₁ k₁ p₁ => wpAny_storeName_cell hk hl hc (hv.keeps (K.ext k₁)) (fun h' hn' hs' =>
    k v s₁ _ k₁ p₁ (KB.sameh hs' (by simp)) hn')) hs)

theorem as_cell {x : Str} {p : Pos} {v : Value} {Q : Unit → Shared → Prop} {c : Addr} {v₀ : Option Value} (hc : env.cells.lookup x = some c) (hv : s.heap.IsCell c v₀) (k : ∀ s', KB [c] s s' → s'.heap.IsCell c (some v) → Q () s')
    (hl : env.kindOf x = some .cell := by rfl) (hk : env.scope.kind = .function := by rfl) : wpAny (model prog w) A (assign (.Name x p) env v) Q E s :=
  wpAny_assign_Name (wpAny_storeName_cell hk hl hc hv fun h' hn' hs' => k _ (KB.sameh hs' (by simp)) hn')
theorem as_local {x : Str} {p : Pos} {v : Value} {Q : Unit → Shared → Prop} {m : Str → Option Value} (hn : s.heap.Ns env.locals m) (k : ∀ s', KB [env.locals] s s' → s'.heap.Ns env.locals (fun y => if y = x then some v else m y) → Q () s')
    (hl : env.kindOf x = some .local := by rfl) (hk : env.scope.kind = .function := by rfl) : wpAny (model prog w) A (assign (.Name x p) env v) Q E s :=
  wpAny_assign_Name (wpAny_storeName_local hl hn (fun h' hn' hs' => k _ (KB.same hs' (by simp)) hn') (by rw [hk]; rfl))

/-- a def with captured names -/
theorem Em.defnC {s₀ : Shared} {n : Nat} (hA : AOk (n + 1) A) (g : G w s₀.heap) {f : Addr} {oc : Value} {od : Option Addr} {osl : Array (Option Value)} {fd : FuncData} {body : List Stmt} {vs : List Value} {binds : List (Str × Value)} {P : Value → Shared → Prop}
    (ho : (KF w).lookup f = some ⟨oc, od, .func fd, osl⟩) (hbody : fd.body = .stmts body) (hcd : codeIn (KF w) fd.code fd.qualname = true) (hbind : bindArgs fd ⟨vs, []⟩ = pure binds) (hclo : fd.closure = [])
    (hkind : (binds.all fun y => fd.scope.names.lookup y.1 == some .local || fd.scope.names.lookup y.1 == some .cell) = true)
    (h : ∀ s s₁ L E, Keeps s₀ s → Keeps s s₁ → G w s₁.heap → AOk n (A.deeper (callEnvC fd L f)) → InCallC s (callEnvC fd L f).locals (bindL (callEnvC fd L f).kindOf binds fun _ => none) (callEnvC fd L f).cells (bindC (callEnvC fd L f).kindOf binds fun _ => none) s₁ →
      (∀ b ∈ L :: (callEnvC fd L f).cells.map (·.2), s.heap.get? b = none) →
      wpAny (model prog w) (A.deeper (callEnvC fd L f)) (execs body (callEnvC fd L f)) (fun fl s' => KB (L :: (callEnvC fd L f).cells.map (·.2)) s₁ s' ∧ P (match fl with | .ret v => v | _ => .none) s') E s₁)
    (hco : fd.scope.isCoroutine = false := by rfl) (hgen : fd.scope.isGenerator = false := by rfl) (hk : fd.scope.kind = .function := by rfl) :
    Em prog w A (call (.ref f) vs) s₀ P := by
  refine Em.ofCode fun s k => ?_
  have g' := g.k k
  refine codeAny_call_cells (fd := fd) (body := body) (binds := binds) hA.room (g'.kin _ _ ho) rfl g'.lim (codeRec_of g'.kin hcd) hbody hbind hclo (kindsX hkind _) (fun s₁ x => ?_) hco hgen hk
  have k1 : Keeps s s₁ := by
    obtain ⟨h', tk, e, kk⟩ := x.done
    exact ⟨h', tk, e, kk⟩
  have fr : ∀ b ∈ s.heap.objs.size :: (callEnvC fd s.heap.objs.size f).cells.map (·.2), s.heap.get? b = none := fun b hb => by
    rcases List.mem_cons.mp hb with rfl | hb
    · exact fresh_none _
    · obtain ⟨⟨n, c⟩, hp, rfl⟩ := List.mem_map.mp hb
      have hlt : s.heap.objs.size < c := x.above n c hp
      cases e : s.heap.get? c with
      | none => rfl
      | some o => exact absurd (Nat.lt_trans hlt (Heap.lt_size e)) (Nat.lt_irrefl _)
  refine wpAny_mono (h s _ s.heap.objs.size _ k k1 (g'.k k1) (hA.deeper _) x fr) (fun fl s' q => ?_) fun _ _ e => e
  exact ⟨_, rfl, KB.keeps k1 q.1 fr, q.2⟩
end
end Mine

namespace Mine

def Pts (h : Heap) (vs : List Value) (ps : List Pt) : Prop := vs.length = ps.length ∧ ∀ (i : Nat) v p, vs[i]? = some v → ps[i]? = some p → IsPt h v p
theorem Pts.ext {h h' : Heap} {vs : List Value} {ps : List Pt} (x : Pts h vs ps) (e : Ext h h') : Pts h' vs ps := ⟨x.1, fun i v p a b => (x.2 i v p a b).ext e⟩
theorem Pts.at {h : Heap} {vs : List Value} {ps : List Pt} (x : Pts h vs ps) {i : Nat} (hi : i < ps.length) : ∃ v, vs[i]? = some v ∧ IsPt h v (ps.getD i (0, 0)) := by
  have hv : i < vs.length := by rw [x.1]; exact hi
  refine ⟨vs[i], List.getElem?_eq_getElem hv, ?_⟩
  refine x.2 i _ _ (List.getElem?_eq_getElem hv) ?_
  rw [List.getD_eq_getElem?_getD, List.getElem?_eq_getElem hi]
  rfl

/-- the level of the k-th: one more than the greatest level of those that it is over -/
def LevAt (ps : List Pt) (ls : List Int) (k : Nat) : Prop :=
  ∃ M, ls[k]? = some (1 + M) ∧ 0 ≤ M ∧ (M = 0 ∨ ∃ j, j < k ∧ ovr (ps.getD k (0, 0)) (ps.getD j (0, 0)) = true ∧ ls[j]? = some M) ∧
    ∀ j x, j < k → ovr (ps.getD k (0, 0)) (ps.getD j (0, 0)) = true → ls[j]? = some x → x ≤ M

theorem LevAt.snoc {ps : List Pt} {ls : List Int} {k : Nat} {x : Int} (h : LevAt ps ls k) (hk : k < ls.length) : LevAt ps (ls ++ [x]) k := by
  obtain ⟨M, h1, h2, h3, h4⟩ := h
  refine ⟨M, by rw [List.getElem?_append_left hk]; exact h1, h2, ?_, fun j y hj ho hy => ?_⟩
  · rcases h3 with h3 | ⟨j, hj, ho, e⟩
    · exact .inl h3
    · exact .inr ⟨j, hj, ho, by rw [List.getElem?_append_left (by omega)]; exact e⟩
  · rw [List.getElem?_append_left (by omega)] at hy
    exact h4 j y hj ho hy

section
variable {prog : Program} {w : World} {A : Around} {env : Env} {s₀ s s₁ s' : Shared} {α β : Type} {E : Value → Shared → Prop}

theorem cell_kb {W : List Addr} {c : Addr} {v : Option Value} (x : s.heap.IsCell c v) (k : KB W s s') (h : c ∉ W) : s'.heap.IsCell c v := by
  obtain ⟨o, ho, r⟩ := x
  exact ⟨o, k.get ho h, r⟩
theorem plain_kb {W : List Addr} {l : Addr} {items : Array Value} (x : s.heap.PlainList l items) (k : KB W s s') (h : l ∉ W) : s'.heap.PlainList l items := by
  obtain ⟨n, ho⟩ := x
  exact ⟨n, k.get ho h⟩

theorem Em.binH {l r : Expr} {op : Operator} {pos : Pos} {P : Value → Shared → Prop} {P' : Value → Value → Shared → Prop} {R : Value → Shared → Prop} (h1 : Em prog w A (eval l env) s₀ P)
    (h2 : ∀ a s₁, Keeps s₀ s₁ → P a s₁ → Em prog w A (eval r env) s₁ (P' a)) (h : ∀ a b s₂, Keeps s₀ s₂ → P' a b s₂ → Em prog w A (binaryOp op a b) s₂ R) : Em prog w A (eval (.BinOp l op r pos) env) s₀ R :=
  Em.of fun s Q E k hQ => wpAny_BinOp (h1.use k fun a s₁ k₁ p₁ => (h2 a s₁ (Mine.K.trans k k₁) p₁).use Mine.K.rfl fun b s₂ k₂ p₂ =>
    (h a b s₂ (Mine.K.trans k (Mine.K.trans k₁ k₂)) p₂).use Mine.K.rfl fun v s₃ k₃ p₃ => hQ v s₃ (Mine.K.trans k₁ (Mine.K.trans k₂ k₃)) p₃)

theorem Em.len_of {l : Addr} {items : Array Value} {n : Nat} (hl : s₀.heap.IsList l items) (hn : items.size = n) (hsz : n < 1000000) : Em prog w A (call (.builtin "len") [.ref l]) s₀ (fun v _ => I (n : Int) v) := by
  subst hn; exact Em.len_list hl (by omega)

theorem Em.tests1 {c : Expr} {b : Bool} (h : EvT prog w A env c s₀ b) :
    Em prog w A (forIn [c] true fun c r => if r = true then do let ok ← isTrue c env (eval c env); pure (ForInStep.yield ok) else pure (ForInStep.yield r)) s₀ (fun ok _ => ok = b) :=
  Em.of fun s Q E k hQ => wpAny_tests_one (h.use k hQ)
theorem Em.tests0 : Em prog w A (forIn ([] : List Expr) true fun c r => if r = true then do let ok ← isTrue c env (eval c env); pure (ForInStep.yield ok) else pure (ForInStep.yield r)) s₀ (fun ok _ => ok = true) :=
  Em.of fun s Q E k hQ => wpAny_tests_nil (hQ _ _ Mine.K.rfl rfl)

theorem levels_spec {n : Nat} (hA : AOk (n + 4) A) (g : G w s₀.heap) {a : Addr} {vs : List Value} {ps : List Pt} (hl : s₀.heap.PlainList a vs.toArray) (hp : Pts s₀.heap vs ps) (hsz : ps.length ≤ 100) :
    Em prog w A (call (.ref 86) [.ref a]) s₀ (fun r s => ∃ D ys ls, r = .ref D ∧ s₀.heap.get? D = none ∧ s.heap.PlainList D (List.toArray ys) ∧ IntsAre ys ls ∧ ls.length = ps.length ∧ ∀ k, k < ps.length → LevAt ps ls k) := by
  refine Em.defnC (n := n + 3) hA g (f := 86) (binds := [(Str.ofString "points", .ref a)]) rfl rfl rfl rfl rfl rfl ?_
  intro s s₁ L E k0 k1 g1 hA1 x hfr
  have cP : s₁.heap.IsCell (L + 1) (some (.ref a)) := x.cell (Str.ofString "points") (L + 1) rfl
  have cF : s₁.heap.IsCell (L + 1 + 1) none := x.cell (Str.ofString "found") (L + 1 + 1) rfl
  have cK : s₁.heap.IsCell (L + 1 + 1 + 1) none := x.cell (Str.ofString "k") (L + 1 + 1 + 1) rfl
  have e01 := Mine.K.ext (Mine.K.trans k0 k1)
  -- found = []
  refine ex_assign_cell (c := L + 1 + 1) rfl cF (Em.list (P := fun vs _ => vs = []) (Ea.nil fun _ _ => rfl) (fun vs s e => by subst e; decide)) ?_
  rintro v s2 s3 k2 ⟨_, s2', F, rfl, k2', k2'', rfl, hF0, hF⟩ kb3 cF3
  have hF1 : s₁.heap.get? F = none := none_of k2' hF0
  have hFc : F ≠ L + 1 + 1 := by
    rintro rfl
    obtain ⟨o, ho, _⟩ := cF
    rw [hF1] at ho; cases ho
  have kb13 : KB [L, L + 1, L + 1 + 1, L + 1 + 1 + 1] s₁ s3 := KB.trans (KB.of k2) (kb3.mono (by simp))
  have cP3 : s3.heap.IsCell (L + 1) (some (.ref a)) := cell_kb (cP.keeps (Mine.K.ext k2)) kb3 (by simp)
  have cK3 : s3.heap.IsCell (L + 1 + 1 + 1) none := cell_kb (cK.keeps (Mine.K.ext k2)) kb3 (by simp)
  have hF3 : s3.heap.PlainList F ([] : List Value).toArray := plain_kb ⟨0, hF⟩ kb3 (by simpa using hFc)
  have frW : ∀ b ∈ [L, L + 1, L + 1 + 1, L + 1 + 1 + 1], s.heap.get? b = none := fun b hb => hfr b (by
    show b ∈ L :: [L + 1 + 1 + 1, L + 1 + 1, L + 1]
    simp only [List.mem_cons, List.not_mem_nil, or_false] at hb ⊢; rcases hb with h | h | h | h <;> simp [h])
  have hFne : ∀ c v, s₁.heap.IsCell c v → c ∉ [F] := fun c v ⟨o, ho, _⟩ q => by rw [List.mem_singleton.mp q, hF1] at ho; cases ho
  have toS : ∀ s', KB [L, L + 1, L + 1 + 1, L + 1 + 1 + 1] s₁ s' → Keeps s s' := fun s' kb => KB.keeps k1 kb frW
  -- the loop
  refine for_range (n := ps.length) (a := 0) (b := ps.length) (W := [F, L, L + 1, L + 1 + 1, L + 1 + 1 + 1]) hA1.hh ?it (by omega) (by omega) ?hW
    (fun k s' => ∃ ys ls v, KB [L, L + 1, L + 1 + 1, L + 1 + 1 + 1] s₁ s' ∧ s'.heap.IsCell (L + 1) (some (.ref a)) ∧ s'.heap.IsCell (L + 1 + 1) (some (.ref F)) ∧ s'.heap.IsCell (L + 1 + 1 + 1) v ∧
      s'.heap.PlainList F (List.toArray ys) ∧ IntsAre ys ls ∧ ls.length = k ∧ ∀ j, j < k → LevAt ps ls j) ?h0 ?hst ?turn ?done
  case it =>
    have g3 : G w s3.heap := g.k (Mine.K.trans k0 (toS _ kb13))
    refine Em.callT (T := "range") (Ev.bn g3 rfl rfl rfl) (Ea.one (P := I ps.length) (Em.callB (Ev.bn g3 rfl rfl rfl) (Ea.one (Ev.cell (c := L + 1) rfl cP3 rfl)) fun vs' s4 k4 p => ?_)) fun vs' s4 k4 p => ?_
    · obtain ⟨v, rfl, rfl⟩ := p
      exact Em.len_of (ext_plain hl (Mine.K.ext (Mine.K.trans (Mine.K.trans k0 (toS _ kb13)) k4))).isList (by simpa using hp.1) (by omega)
    · obtain ⟨v, rfl, t, rfl⟩ := p
      exact Em.range1
  case hW =>
    intro b hb
    have hL1 : ∀ c v, s₁.heap.IsCell c v → c ≠ L + 1 + 1 → ∃ o, s3.heap.get? c = some o := fun c v ⟨o, ho, _⟩ hc => ⟨o, kb3.get (Mine.K.ext k2 _ _ ho) (by simpa using hc)⟩
    simp only [List.mem_cons, List.not_mem_nil, or_false] at hb
    rcases hb with rfl | rfl | rfl | rfl | rfl
    · obtain ⟨n, hn⟩ := hF3; exact ⟨_, hn⟩
    · obtain ⟨o, es, ep, ho, _⟩ := x.toInCall.ns
      exact ⟨o, kb3.get (Mine.K.ext k2 _ _ ho) (fun q => Nat.ne_of_lt (Nat.lt_succ_of_lt (Nat.lt_succ_self _)) (List.mem_singleton.mp q))⟩
    · exact hL1 _ _ cP (Nat.ne_of_lt (Nat.lt_succ_self _))
    · obtain ⟨o, ho, _⟩ := cF3; exact ⟨o, ho⟩
    · exact hL1 _ _ cK (Nat.ne_of_gt (Nat.lt_succ_self _))
  case h0 =>
    intro s' k'
    exact ⟨[], [], none, KB.trans kb13 (KB.of k'), cP3.keeps (Mine.K.ext k'), cF3.keeps (Mine.K.ext k'), cK3.keeps (Mine.K.ext k'), ext_plain hF3 (Mine.K.ext k'), .nil, rfl, fun j hj => absurd hj (Nat.not_lt_zero _)⟩
  case hst =>
    rintro i s4 s5 J hJ ⟨ys, ls, v, kb, cP4, cF4, cK4, hF4, hI4, hlen, hlev⟩ kb5
    have ne : ∀ c o, s3.heap.get? c = some o → c ∉ [J] := fun c o e q => by rw [List.mem_singleton.mp q, hJ] at e; cases e
    have hJ1 : s₁.heap.get? J = none := by
      cases e : s₁.heap.get? J with
      | none => rfl
      | some o =>
        exfalso
        by_cases hc : J = L + 1 + 1
        · obtain ⟨o, ho, _⟩ := cF3; rw [← hc, hJ] at ho; cases ho
        · have := kb3.get (Mine.K.ext k2 _ _ e) (by simpa using hc)
          rw [hJ] at this; cases this
    obtain ⟨oP, hoP, _⟩ := id cP3
    obtain ⟨oF, hoF, _⟩ := id cF3
    obtain ⟨oK, hoK, _⟩ := id cK3
    obtain ⟨nF, hnF⟩ := id hF3
    exact ⟨ys, ls, v, KB.from kb kb5 (fun b hb _ => by rw [List.mem_singleton.mp hb]; exact hJ1), cell_kb cP4 kb5 (ne _ _ hoP), cell_kb cF4 kb5 (ne _ _ hoF), cell_kb cK4 kb5 (ne _ _ hoK), plain_kb hF4 kb5 (ne _ _ hnF), hI4, hlen, hlev⟩
  case turn =>
    rintro i t s4 hi ⟨ys, ls, v, kb, cP4, cF4, cK4, hF4, hI4, hlen, hlev⟩ E'
    have hFK : F ≠ L + 1 + 1 + 1 := by
      rintro rfl
      obtain ⟨o, ho, _⟩ := cK
      rw [hF1] at ho; cases ho
    refine as_cell (c := L + 1 + 1 + 1) rfl cK4 fun s5 kb5 cK5 => ?_
    have cP5 := cell_kb cP4 kb5 (by simp)
    have cF5 := cell_kb cF4 kb5 (by simp)
    have hF5 := plain_kb hF4 kb5 (by simpa using hFK)
    have kb15 : KB [L, L + 1, L + 1 + 1, L + 1 + 1 + 1] s₁ s5 := KB.trans kb (kb5.mono (by simp))
    have k05 : Keeps s₀ s5 := Mine.K.trans k0 (toS _ kb15)
    have g5 : G w s5.heap := g.k k05
    have hl5 := ext_plain hl (Mine.K.ext k05)
    have hp5 := hp.ext (Mine.K.ext k05)
    obtain ⟨vi, hvi, hpi⟩ := hp5.at hi
    obtain ⟨nF, hnF⟩ := id hF5
    refine ex_expr (W := [F]) (P := fun _ s' => ∃ y M, s'.heap.PlainList F (ys ++ [y]).toArray ∧ I (1 + M) y ∧ M ∈ (0 :: ((List.range i).filter (fun j => ovr (ps.getD i (0, 0)) (ps.getD j (0, 0)))).map fun j => ls.getD j 0) ∧
        ∀ z ∈ (0 :: ((List.range i).filter (fun j => ovr (ps.getD i (0, 0)) (ps.getD j (0, 0)))).map fun j => ls.getD j 0), z ≤ M)
      (Mu.meth (T := "list") (id := "list.append") (Ev.cell (c := L + 1 + 1) rfl cF5 rfl) hnF rfl rfl PySem.F.plainAttrs_list PySem.F.slot_list_append PySem.F.type_list_append
        (PA := fun vs' _ => ∃ y M, vs' = [y] ∧ I (1 + M) y ∧ M ∈ (0 :: ((List.range i).filter (fun j => ovr (ps.getD i (0, 0)) (ps.getD j (0, 0)))).map fun j => ls.getD j 0) ∧
          ∀ z ∈ (0 :: ((List.range i).filter (fun j => ovr (ps.getD i (0, 0)) (ps.getD j (0, 0)))).map fun j => ls.getD j 0), z ≤ M) ?args ?app) ?rest
    case args =>
      refine (Ea.one (P := fun y => ∃ M, I (1 + M) y ∧ M ∈ (0 :: ((List.range i).filter (fun j => ovr (ps.getD i (0, 0)) (ps.getD j (0, 0)))).map fun j => ls.getD j 0) ∧
          ∀ z ∈ (0 :: ((List.range i).filter (fun j => ovr (ps.getD i (0, 0)) (ps.getD j (0, 0)))).map fun j => ls.getD j 0), z ≤ M) (Ev.bin Ev.int (P' := fun y => ∃ M, I M y ∧ M ∈ (0 :: ((List.range i).filter (fun j => ovr (ps.getD i (0, 0)) (ps.getD j (0, 0)))).map fun j => ls.getD j 0) ∧
          ∀ z ∈ (0 :: ((List.range i).filter (fun j => ovr (ps.getD i (0, 0)) (ps.getD j (0, 0)))).map fun j => ls.getD j 0), z ≤ M) ?mx ?ad)).mono fun vs' s' _ ⟨y, e, M, p⟩ => ⟨y, M, e, p⟩
      case ad =>
        rintro _ _ s6 k6 ⟨t1, rfl⟩ ⟨M, ⟨t2, rfl⟩, mp⟩
        exact Em.of fun s Q _ _ hQ => add_int (hQ _ _ Mine.K.tok ⟨M, ⟨_, rfl⟩, mp⟩)
      case mx =>
        refine Em.callB (Ev.bn g5 rfl rfl rfl) (PA := fun vs' s' => ∃ D zs, vs' = [.ref D] ∧ s'.heap.PlainList D (List.toArray zs) ∧ IntsAre zs (0 :: ((List.range i).filter (fun j => ovr (ps.getD i (0, 0)) (ps.getD j (0, 0)))).map fun j => ls.getD j 0))
          (Ea.cons (P := fun v s' => ∃ D zs, v = .ref D ∧ s'.heap.PlainList D (List.toArray zs) ∧ IntsAre zs (0 :: ((List.range i).filter (fun j => ovr (ps.getD i (0, 0)) (ps.getD j (0, 0)))).map fun j => ls.getD j 0)) ?cat
            fun v s6 k6 ⟨D, zs, e, pl, ia⟩ => Ea.nil fun s7 k7 => ⟨D, zs, by rw [e], ext_plain pl (Mine.K.ext k7), ia⟩) fun vs' s6 k6 ⟨D, zs, e, pl, ia⟩ => ?mm
        case mm =>
          subst e
          exact Em.max_list hA1.hh pl.isList ia (by simp)
        case cat =>
          refine Em.binH (P := fun v s' => ∃ B zs, v = .ref B ∧ s'.heap.PlainList B (List.toArray zs) ∧ IntsAre zs [0])
            (P' := fun v v' s' => ∃ B zs D zs', v = .ref B ∧ s'.heap.PlainList B (List.toArray zs) ∧ IntsAre zs [0] ∧ v' = .ref D ∧ s'.heap.PlainList D (List.toArray zs') ∧ IntsAre zs' (((List.range i).filter (fun j => ovr (ps.getD i (0, 0)) (ps.getD j (0, 0)))).map fun j => ls.getD j 0))
            ((Em.list (Ea.one Ev.int) fun vs' s' ⟨v, e, _⟩ => by subst e; show 1 ≤ sizeLine; decide).mono ?lz) ?cmp ?add
          case lz =>
            rintro v s6 k6 ⟨vs', s7, B, ⟨z, rfl, t1, rfl⟩, _, _, rfl, _, hB⟩
            exact ⟨B, _, rfl, ⟨0, hB⟩, .cons _ _ .nil⟩
          case add =>
            rintro v v' s6 k6 ⟨B, zs, D, zs', rfl, plB, iB, rfl, plD, iD⟩
            have l1 := iB.length
            have l2 := iD.length
            have l3 : (((List.range i).filter (fun j => ovr (ps.getD i (0, 0)) (ps.getD j (0, 0)))).map fun j => ls.getD j 0).length ≤ i := by
              rw [List.length_map]
              exact Nat.le_trans (List.length_filter_le ..) (by simp)
            refine (Em.concat plB plD (by simp at l1; omega)).mono ?_
            rintro v s7 k7 ⟨D', rfl, _, pl⟩
            exact ⟨D', _, rfl, pl, iB.append iD⟩
          case cmp =>
            rintro v s6 k6 ⟨B, zs, rfl, plB, iB⟩
            refine (Em.comp (a := 0) (b := 0 + (i : Int)) i (fun j => ovr (ps.getD i (0, 0)) (ps.getD j (0, 0))) (fun j y => I (ls.getD j 0) y) hA1.hh ?cit (by omega) (by omega) rfl (by decide) rfl (by decide) rfl ?ctest ?celt).mono ?cres
            case cit =>
              refine Em.callT (T := "range") (Ev.bn (g5.k k6) rfl rfl rfl) (Ea.one (P := I (0 + (i : Int))) (Ev.cell (c := L + 1 + 1 + 1) rfl (cK5.keeps (Mine.K.ext k6)) ⟨_, rfl⟩)) fun vs' s7 k7 p => ?_
              obtain ⟨v, rfl, t, rfl⟩ := p
              exact Em.range1
            case ctest =>
              intro j C s7 m t7 hj e7 hC0 hns hm
              have g7 : G w s7.heap := (g5.k k6).ext e7
              have e57 : Ext s5.heap s7.heap := (Mine.K.ext k6).trans e7
              obtain ⟨vj, hvj, hpj⟩ := hp5.at (Nat.lt_trans hj hi)
              refine Em.tests1 (EvT.bool (Em.callF (f := 81) (Ev.fn g7 rfl rfl) (g7.kin _ _ rfl) rfl (Ea.two (P := fun v => v = vi) (P' := fun v => v = vj)
                (Ev.sub_list (Ev.cell (c := L + 1) rfl (cP5.keeps e57) rfl) (Ev.cell (c := L + 1 + 1 + 1) rfl (cK5.keeps e57) ⟨_, rfl⟩) (ext_plain hl5 e57).isList (by omega) (by omega) (by simpa using hvi) rfl)
                (Ev.sub_list (Ev.cell (c := L + 1) rfl (cP5.keeps e57) rfl) (Ev.local hns hm ⟨_, rfl⟩) (ext_plain hl5 e57).isList (by omega) (by omega) (by simpa using hvj) rfl)) fun vs' s8 k8 p => ?_))
              obtain ⟨v, v', rfl, rfl, rfl⟩ := p
              exact over_spec (n := n) (hA1.le (by omega)) (g7.k k8) (hpi.ext (e57.trans (Mine.K.ext k8))) (hpj.ext (e57.trans (Mine.K.ext k8)))
            case celt =>
              intro j C s7 m t7 hj hpj e7 hC0 hns hm
              have e57 : Ext s5.heap s7.heap := (Mine.K.ext k6).trans e7
              have hj' : j < ls.length := by omega
              obtain ⟨tj, htj⟩ := hI4.get j _ (List.getElem?_eq_getElem hj')
              refine Ev.sub_list (P := fun y => I (ls.getD j 0) y) (Ev.cell (c := L + 1 + 1) rfl (cF5.keeps e57) rfl) (Ev.local hns hm ⟨_, rfl⟩) (ext_plain hF5 e57).isList (by omega) (by omega) (by simpa using htj) ⟨tj, ?_⟩
              rw [List.getD_eq_getElem?_getD, List.getElem?_eq_getElem hj']
              rfl
            case cres =>
              rintro v s7 k7 ⟨D, zs', rfl, _, plD, pr⟩
              exact ⟨B, zs, D, zs', rfl, ext_plain plB (Mine.K.ext k7), iB, rfl, plD, ints_of_paired pr⟩
    case app =>
      rintro vs' s6 k6 ⟨y, M, rfl, hy, hM, hm⟩
      intro s7 E'' k7
      exact wpAny_mono (Mu.append (x := y) (ext_plain hF5 (Mine.K.ext (Mine.K.trans k6 k7))) (by rw [hI4.length]; omega) s7 E'' Mine.K.rfl) (fun v s8 q => ⟨q.1, y, M, q.2, hy, hM, hm⟩) fun _ _ e => e
    case rest =>
      rintro v' s6 kb6 ⟨y, M, pl, ⟨ty, rfl⟩, hM, hm⟩
      refine wpAny_execs_nil ⟨KB.trans (kb5.mono (by simp)) (kb6.mono (by simp)), ys ++ [.int (1 + M) ty], ls ++ [1 + M], _, ?_, cell_kb cP5 kb6 ?_, cell_kb cF5 kb6 ?_, cell_kb cK5 kb6 ?_, pl, hI4.append (.cons _ _ .nil), by simp [hlen], ?_⟩
      · exact KB.from kb15 kb6 fun b hb _ => by rw [List.mem_singleton.mp hb]; exact hF1
      · exact hFne _ _ cP
      · exact hFne _ _ cF
      · exact hFne _ _ cK
      · intro j hj
        rcases Nat.lt_or_ge j i with h | h
        · exact (hlev j h).snoc (by omega)
        · have hji : j = i := by omega
          subst hji
          refine ⟨M, by rw [List.getElem?_append_right (by omega), hlen, Nat.sub_self]; rfl, hm 0 (by simp), ?_, fun j' x' hj' ho hx => ?_⟩
          · rcases List.mem_cons.mp hM with h0 | h0
            · exact .inl h0
            · obtain ⟨j', hj', rfl⟩ := List.mem_map.mp h0
              obtain ⟨h1, h2⟩ := List.mem_filter.mp hj'
              have h3 := List.mem_range.mp h1
              refine .inr ⟨j', h3, h2, ?_⟩
              rw [List.getElem?_append_left (by omega), List.getD_eq_getElem?_getD, List.getElem?_eq_getElem (by omega)]
              rfl
          · rw [List.getElem?_append_left (by omega)] at hx
            refine hm x' (List.mem_cons_of_mem _ (List.mem_map.mpr ⟨j', List.mem_filter.mpr ⟨List.mem_range.mpr hj', ho⟩, ?_⟩))
            rw [List.getD_eq_getElem?_getD, hx]
            rfl
  case done =>
    rintro s4 ⟨ys, ls, v, kb, cP4, cF4, cK4, hF4, hI4, hlen, hlev⟩
    refine ex_return (P := fun r s => r = .ref F) (Ev.cell (c := L + 1 + 1) rfl cF4 rfl) fun r s5 k5 e => ?_
    subst e
    refine ⟨(KB.trans kb (KB.of k5)).mono ?_, F, ys, ls, rfl, none_of (Mine.K.trans k0 k1) hF1, ext_plain hF4 (Mine.K.ext k5), hI4, hlen, hlev⟩
    intro b hb
    show b ∈ L :: [L + 1 + 1 + 1, L + 1 + 1, L + 1]
    simp only [List.mem_cons, List.not_mem_nil, or_false] at hb ⊢
    rcases hb with h | h | h | h <;> simp [h]
end
end Mine

namespace Mine

/-- a plain dict by its entries, whatever the keys -/
def RD (h : Heap) (d : Addr) (es : List DictEntry) (ep : Nat) : Prop := ∃ o, h.get? d = some o ∧ o.ExactDict ∧ o.data = .dict es.toArray ep
theorem RD.at {h h' : Heap} {d : Addr} {es : List DictEntry} {ep : Nat} (x : RD h d es ep) (e : ∀ o, h.get? d = some o → h'.get? d = some o) : RD h' d es ep := let ⟨o, ho, r⟩ := x; ⟨o, e o ho, r⟩
theorem RD.ext {h h' : Heap} {d : Addr} {es : List DictEntry} {ep : Nat} (x : RD h d es ep) (e : Ext h h') : RD h' d es ep := x.at fun o q => e d o q
theorem RD.kb {s s' : Shared} {W : List Addr} {d : Addr} {es : List DictEntry} {ep : Nat} (x : RD s.heap d es ep) (k : KB W s s') (h : d ∉ W) : RD s'.heap d es ep := x.at fun o q => k.get q h
theorem RD.typeIs {s : Shared} {d : Addr} {es : List DictEntry} {ep : Nat} (x : RD s.heap d es ep) : s.TypeIs (.ref d) "dict" := let ⟨o, ho, hc, _⟩ := x; ⟨o, ho, hc.1⟩

section
variable {prog : Program} {w : World} {A : Around} {E : Value → Shared → Prop} {s s₀ : Shared} {d : Addr} {es : List DictEntry} {ep : Nat} {env : Env}


theorem rd_items {Q : Value → Shared → Prop} (hm : RD s.heap d es ep) (hd : (d == sysModules) = false) (h : Q (.ref s.heap.objs.size) { s with heap := s.heap.push { cls := .type "dict_items", data := .fields #[.ref d] } }) :
    wpAny (model prog w) A (call (.builtin "dict.items") [.ref d]) Q E s := by
  refine wpAny_call_entry F.slot_dict_items hm.typeIs F.entry_dict_items ?_ (F.args_dict_items_1 _)
  unfold Builtin.«dict.items»
  refine wpAny_bind ?_
  unfold Builtin.Dict.noArgs
  refine wpAny_bind (wpAny_notOrdered_dict hm.typeIs ?_)
  show wpAny _ _ (pure d) _ _ s
  refine wpAny_pure ?_
  show wpAny _ _ (Builtin.Dict.showsAll d >>= _) _ _ s
  unfold Builtin.Dict.showsAll
  rw [if_neg (by rw [hd]; exact Bool.false_ne_true)]
  exact wpAny_bind (wpAny_pure (wpAny_bind (wpAny_newObj_type (wpAny_pure ⟨_, rfl, h⟩))))

theorem rd_values {Q : Value → Shared → Prop} (hm : RD s.heap d es ep) (hd : (d == sysModules) = false) (h : Q (.ref s.heap.objs.size) { s with heap := s.heap.push { cls := .type "dict_values", data := .fields #[.ref d] } }) :
    wpAny (model prog w) A (call (.builtin "dict.values") [.ref d]) Q E s := by
  refine wpAny_call_entry F.slot_dict_values hm.typeIs F.entry_dict_values ?_ (F.args_dict_values_1 _)
  unfold Builtin.«dict.values»
  refine wpAny_bind ?_
  unfold Builtin.Dict.noArgs
  refine wpAny_bind (wpAny_notOrdered_dict hm.typeIs ?_)
  show wpAny _ _ (pure d) _ _ s
  refine wpAny_pure ?_
  show wpAny _ _ (Builtin.Dict.showsAll d >>= _) _ _ s
  unfold Builtin.Dict.showsAll
  rw [if_neg (by rw [hd]; exact Bool.false_ne_true)]
  exact wpAny_bind (wpAny_pure (wpAny_bind (wpAny_newObj_type (wpAny_pure ⟨_, rfl, h⟩))))

theorem rd_iter_items {v : Addr} {Q : Value → Shared → Prop} (hv : s.heap.IsItemsView v d) (hm : RD s.heap d es ep)
    (hQ : Q (.ref s.heap.objs.size) { s with heap := s.heap.push { cls := .type "dict_itemiterator", data := .fields #[.none, .bool false, .ref d, .int 0 0, .int es.length 0, .int ep 0, .none, .none] } }) :
    wpAny (model prog w) A (pyIter (.ref v)) Q E s := by
  obtain ⟨ov, hov, hcv, hdv⟩ := id hv
  obtain ⟨o, ho, hc, hdat⟩ := id hm
  refine wpAny_pyIter_slot hv.typeIs F.slot_dict_items_iter (wpAny_call_entry F.slot_dict_items_iter hv.typeIs F.entry_dict_items_iter ?_ (F.args_dict_items_iter_1 _))
  unfold Builtin.«dict_items.__iter__»
  refine wpAny_bind (wpAny_pure (wpAny_bind ?_))
  unfold Builtin.Dict_items.dictOf
  refine wpAny_bind (wpAny_field hov hdv (x := .ref d) rfl (wpAny_pure (wpAny_bind ?_)))
  unfold Builtin.Dict_items.newIterator
  refine wpAny_bind (wpAny_dictEntries ho hdat (wpAny_bind (wpAny_dictEpoch ho hdat ?_)))
  have hown : Builtin.Dict_items.ownsTuple "dict_itemiterator" = true := by decide
  simp only [hown, if_true]
  refine wpAny_newObj_type (wpAny_pure ⟨_, rfl, "dict_itemiterator", _, ⟨_, Heap.get?_push_size _ rfl, rfl⟩, F.slot_dict_itemiterator_next.lookup, ?_⟩)
    (by simp only [sizeOk, Builtin.Dict_items.ownedTupleFields, List.size_toArray, List.length_append, List.length_cons, List.length_nil]; decide)
  simpa [rawInt, Builtin.Dict_items.ownedTupleFields] using hQ

theorem rd_iter_values {v : Addr} {Q : Value → Shared → Prop} (hv : s.heap.IsValuesView v d) (hm : RD s.heap d es ep)
    (hQ : Q (.ref s.heap.objs.size) { s with heap := s.heap.push { cls := .type "dict_valueiterator", data := .fields #[.ref d, .int 0 0, .int es.length 0, .int ep 0] } }) :
    wpAny (model prog w) A (pyIter (.ref v)) Q E s := by
  obtain ⟨ov, hov, hcv, hdv⟩ := id hv
  obtain ⟨o, ho, hc, hdat⟩ := id hm
  refine wpAny_pyIter_slot hv.typeIs F.slot_dict_values_iter (wpAny_call_entry F.slot_dict_values_iter hv.typeIs F.entry_dict_values_iter ?_ (F.args_dict_values_iter_1 _))
  unfold Builtin.«dict_values.__iter__»
  refine wpAny_bind (wpAny_pure (wpAny_bind ?_))
  unfold Builtin.Dict_items.dictOf
  refine wpAny_bind (wpAny_field hov hdv (x := .ref d) rfl (wpAny_pure (wpAny_bind ?_)))
  unfold Builtin.Dict_items.newIterator
  refine wpAny_bind (wpAny_dictEntries ho hdat (wpAny_bind (wpAny_dictEpoch ho hdat ?_)))
  have hown : Builtin.Dict_items.ownsTuple "dict_valueiterator" = false := by decide
  simp only [hown, Bool.false_eq_true, if_false]
  refine wpAny_newObj_type (wpAny_pure ⟨_, rfl, "dict_valueiterator", _, ⟨_, Heap.get?_push_size _ rfl, rfl⟩, F.slot_dict_valueiterator_next.lookup, ?_⟩)
  simpa [rawInt] using hQ

theorem rd_val_item {it : Addr} {i : Nat} {en : DictEntry} {Q : Option Value → Shared → Prop} (hit : s.heap.IsValIter it d i es.length ep) (hm : RD s.heap d es ep) (hx : es[i]? = some en)
    (hQ : ∀ h', h'.IsValIter it d (i + 1) es.length ep → Heap.SameBut it s.heap h' → Q (some en.val) { s with heap := h' }) : wpAny (model prog w) A (pyNext (.ref it)) Q E s := by
  obtain ⟨o, ho, hc, hd⟩ := id hit
  obtain ⟨od, hod, hcd, hdd⟩ := id hm
  unfold pyNext
  refine wpAny_bind (wpAny_attempt (wpAny_callSpecial?_slot (name := Str.ofString "__next__") hit.typeIs F.slot_dict_valueiterator_next
    (wpAny_call_entry F.slot_dict_valueiterator_next hit.typeIs F.entry_dict_valueiterator_next ?_ (F.args_dict_valueiterator_next_1 _))))
  refine wpAny_bind (wpAny_pure (wpAny_bind (wpAny_bind ?_)))
  refine wpAny_bind (wpAny_typeNameOfWhole_valiter hit.typeIs (wpAny_pure ?_))
  refine wpAny_bind (wpAny_fieldsOf ho hd ?_)
  have hown : Builtin.Dict_items.ownsTuple "dict_valueiterator" = false := by decide
  simp only [hown, Bool.false_eq_true, if_false]
  show wpAny _ _ (if (Value.ref d == Value.none) = true then _ else _) _ _ s
  rw [if_neg (show ¬ ((Value.ref d == Value.none) = true) from Bool.false_ne_true)]
  refine wpAny_bind (wpAny_pure (wpAny_bind (wpAny_dictEntries hod hdd ?_)))
  rw [if_neg (by rw [List.size_toArray]; simp)]
  refine wpAny_bind (wpAny_pure (wpAny_bind (wpAny_dictEpoch hod hdd ?_)))
  rw [if_neg (by simp)]
  refine wpAny_pure ?_
  have hx' : es.toArray[i]? = some en := by simpa using hx
  simp only [show ¬ ((i : Int) < 0) from by omega, if_false, Int.toNat_natCast, hx']
  refine wpAny_bind ?_
  refine wpAny_bind (wpAny_typeNameOfWhole_valiter hit.typeIs (wpAny_pure ?_))
  refine wpAny_bind (wpAny_isOneOf_valiter hit.typeIs ?_)
  show wpAny _ _ (setField (.ref it) 1 (rawInt ((i : Int) + 1)) >>= _) _ _ s
  refine wpAny_bind (wpAny_setField ho hd (by simp) ?_)
  have hit' : (s.heap.update it (Obj.mapFields (·.setIfInBounds 1 (rawInt ((i : Int) + 1))))).IsValIter it d (i + 1) es.length ep :=
    ⟨_, Heap.get?_update_self _ ho (Obj.isFreed_of_fields (Obj.data_mapFields hd _)), (Obj.cls_mapFields ..).trans hc, by rw [Obj.data_mapFields hd]; simp [rawInt]⟩
  refine wpAny_bind (wpAny_holding ?_)
  refine wpAny_bind (wpAny_isOneOf_valiter (s := { s with heap := s.heap.update it (Obj.mapFields (·.setIfInBounds 1 (rawInt ((i : Int) + 1)))) }) hit'.typeIs ?_)
  refine wpAny_bind (wpAny_isOneOf_valiter (s := { s with heap := s.heap.update it (Obj.mapFields (·.setIfInBounds 1 (rawInt ((i : Int) + 1)))) }) hit'.typeIs ?_)
  show wpAny _ _ (pure en.val) _ _ _
  exact wpAny_pure (wpAny_pure ⟨_, rfl, wpAny_pure (hQ _ hit' (Heap.SameBut.update ..))⟩)

theorem rd_val_end {it : Addr} {i : Nat} {Q : Option Value → Shared → Prop} (hh : A.handled = none) (hit : s.heap.IsValIter it d i es.length ep) (hm : RD s.heap d es ep) (hx : es[i]? = none)
    (hQ : ∀ h', Heap.ExtBut it s.heap h' → Q none { s with heap := h' }) : wpAny (model prog w) A (pyNext (.ref it)) Q E s := by
  obtain ⟨o, ho, hc, hd⟩ := id hit
  obtain ⟨od, hod, hcd, hdd⟩ := id hm
  unfold pyNext
  refine wpAny_bind (wpAny_attempt (wpAny_callSpecial?_slot (name := Str.ofString "__next__") hit.typeIs F.slot_dict_valueiterator_next
    (wpAny_call_entry F.slot_dict_valueiterator_next hit.typeIs F.entry_dict_valueiterator_next ?_ (F.args_dict_valueiterator_next_1 _))))
  refine wpAny_bind (wpAny_pure (wpAny_bind (wpAny_bind ?_)))
  refine wpAny_bind (wpAny_typeNameOfWhole_valiter hit.typeIs (wpAny_pure ?_))
  refine wpAny_bind (wpAny_fieldsOf ho hd ?_)
  have hown : Builtin.Dict_items.ownsTuple "dict_valueiterator" = false := by decide
  simp only [hown, Bool.false_eq_true, if_false]
  show wpAny _ _ (if (Value.ref d == Value.none) = true then _ else _) _ _ s
  rw [if_neg (show ¬ ((Value.ref d == Value.none) = true) from Bool.false_ne_true)]
  refine wpAny_bind (wpAny_pure (wpAny_bind (wpAny_dictEntries hod hdd ?_)))
  rw [if_neg (by rw [List.size_toArray]; simp)]
  refine wpAny_bind (wpAny_pure (wpAny_bind (wpAny_dictEpoch hod hdd ?_)))
  rw [if_neg (by simp)]
  refine wpAny_pure ?_
  have hx' : es.toArray[i]? = none := by simpa using hx
  simp only [show ¬ ((i : Int) < 0) from by omega, if_false, Int.toNat_natCast, hx']
  refine wpAny_bind ?_
  refine wpAny_bind (wpAny_typeNameOfWhole_valiter hit.typeIs (wpAny_pure ?_))
  show wpAny _ _ (setField (.ref it) 0 .none >>= _) _ _ s
  refine wpAny_bind (wpAny_setField ho hd (by simp) ?_)
  show wpAny _ _ (newExc (.type "StopIteration") [] >>= _) _ _ _
  refine wpAny_bind ?_
  simp only [newExc, newTuple]
  refine wpAny_bind (wpAny_newObj_type ?_ (by size_fits))
  refine wpAny_bind (m := firstArgMember _ _) (wpAny_of_eq (a := Value.none) (by first | rfl | (simp only [firstArgMember]; rfl)) ?_)
  refine wpAny_newObj_type ?_ (by size_fits)
  simp only [raiseNew]
  refine wpAny_bind (wpAny_handled ?_)
  rw [show A.in1.handled = none from hh]
  refine wpAny_bind (wpAny_pure (wpAny_throw ?_))
  refine wpAny_bind (wpAny_isInstance (T := "StopIteration") (b := true) ⟨_, Heap.get?_push_size _ rfl, rfl⟩ isSubtype_stop ?_)
  exact wpAny_pure (hQ _ (((Heap.SameBut.update ..).extBut.push _).push _))
end
end Mine

namespace Mine
section
variable {prog : Program} {w : World} {A : Around} {E : Value → Shared → Prop} {s s₀ : Shared} {d : Addr} {es : List DictEntry} {ep : Nat} {env : Env}

theorem rd_item {it : Addr} {i : Nat} {en : DictEntry} {ok ov : Value} {Q : Option Value → Shared → Prop} (hit : IsItemIter s.heap it d i es.length ep ok ov) (hm : RD s.heap d es ep) (hx : es[i]? = some en)
    (hQ : ∀ h', IsItemIterOut h' it d (i + 1) es.length ep en.key en.val s.heap.objs.size → h'.get? s.heap.objs.size = some { cls := .type "tuple", data := .seq #[en.key, en.val] } → h'.objs.size = s.heap.objs.size + 1 →
      (∀ b o, b ≠ it → s.heap.get? b = some o → h'.get? b = some o) → Q (some (.ref s.heap.objs.size)) { s with heap := h' }) :
    wpAny (model prog w) A (pyNext (.ref it)) Q E s := by
  obtain ⟨hp, g, dr, tk, os⟩ := s
  obtain ⟨od, hod, hcd, hdd⟩ := id hm
  have hT : Shared.TypeIs ⟨hp, g, dr, tk, os⟩ (.ref it) "dict_itemiterator" := ⟨_, hit, rfl⟩
  unfold pyNext
  refine wpAny_bind (wpAny_attempt (wpAny_callSpecial?_slot (name := Str.ofString "__next__") hT F.slot_dict_itemiterator_next
    (wpAny_call_entry F.slot_dict_itemiterator_next hT F.entry_dict_itemiterator_next ?_ (F.args_dict_itemiterator_next_1 _))))
  refine wpAny_bind (wpAny_pure (wpAny_bind (wpAny_bind ?_)))
  refine wpAny_bind (wpAny_typeNameOfWhole_itemiter hT (wpAny_pure ?_))
  refine wpAny_bind (wpAny_fieldsOf hit rfl ?_)
  have hown : Builtin.Dict_items.ownsTuple "dict_itemiterator" = true := by decide
  simp only [hown, if_true]
  show wpAny _ _ (if (Value.ref d == Value.none) = true then _ else _) _ _ _
  rw [if_neg (show ¬ ((Value.ref d == Value.none) = true) from Bool.false_ne_true)]
  refine wpAny_bind (wpAny_pure (wpAny_bind (wpAny_dictEntries hod hdd ?_)))
  rw [if_neg (by rw [List.size_toArray]; simp)]
  refine wpAny_bind (wpAny_pure (wpAny_bind (wpAny_dictEpoch hod hdd ?_)))
  rw [if_neg (by simp)]
  refine wpAny_pure ?_
  have hx' : es.toArray[i]? = some en := by simpa using hx
  simp only [show ¬ ((i : Int) < 0) from by omega, if_false, Int.toNat_natCast, hx']
  refine wpAny_bind ?_
  refine wpAny_bind (wpAny_typeNameOfWhole_itemiter hT (wpAny_pure ?_))
  refine wpAny_bind (wpAny_isOneOf_itemiter hT ?_)
  show wpAny _ _ (setField (.ref it) 3 (rawInt ((i : Int) + 1)) >>= _) _ _ ⟨hp, g, dr, tk, os⟩
  refine wpAny_bind (wpAny_setField_rec hit (by simp) fun h₁ he₁ hs₁ => ?_)
  replace hs₁ : Heap.SameBut it hp h₁ := hs₁
  replace he₁ : IsItemIter h₁ it d (i + 1) es.length ep ok ov := by
    have e : ((i + 1 : Nat) : Int) = (i : Int) + 1 := by omega
    unfold IsItemIter; rw [e]; simpa [rawInt] using he₁
  have hT₁ : Shared.TypeIs ⟨h₁, g, dr, tk, os⟩ (.ref it) "dict_itemiterator" := ⟨_, he₁, rfl⟩
  refine wpAny_bind (wpAny_holding ?_)
  refine wpAny_bind (wpAny_isOneOf_itemiter hT₁ ?_)
  refine wpAny_bind (wpAny_isOneOf_itemiter hT₁ ?_)
  show wpAny _ _ (Builtin.Dict_items.pairFromOwner (.ref it) 6 en.key en.val) _ _ ⟨h₁, g, dr, tk, os⟩
  unfold Builtin.Dict_items.pairFromOwner
  refine wpAny_bind (wpAny_newTuple ?_)
  have he₂ : IsItemIter (h₁.push { cls := .type "tuple", data := .seq #[en.key, en.val] }) it d (i + 1) es.length ep ok ov := Heap.get?_push_of_some _ he₁
  generalize hh₂ : h₁.push { cls := .type "tuple", data := .seq #[en.key, en.val] } = h₂ at he₂
  have hz₁ : h₁.objs.size = hp.objs.size := hs₁.1
  have hil : it < hp.objs.size := Heap.lt_size hit
  have ht₂ : h₂.get? hp.objs.size = some { cls := .type "tuple", data := .seq #[en.key, en.val] } := by rw [← hh₂, ← hz₁]; exact Heap.get?_push_size _ rfl
  have hz₂ : h₂.objs.size = hp.objs.size + 1 := by rw [← hh₂, Heap.size_push, hz₁]
  have hk₂ : ∀ b o, b ≠ it → hp.get? b = some o → h₂.get? b = some o := fun b o hb e => by rw [← hh₂]; exact Heap.get?_push_of_some _ (hs₁.extBut b o hb e)
  show wpAny _ _ (Builtin.Dict_items.ownedTupleIsFree (.ref it) >>= _) _ _ ⟨h₂, g, dr, tk, os⟩
  rw [hz₁]
  clear hh₂ he₁ hs₁ hT₁ hz₁ h₁
  refine wpAny_bind ?_
  unfold Builtin.Dict_items.ownedTupleIsFree
  refine wpAny_bind (wpAny_field he₂ rfl (x := .none) rfl (wpAny_pure ?_))
  simp only [if_true]
  refine wpAny_bind (wpAny_field he₂ rfl (x := ok) rfl ?_)
  refine wpAny_bind (wpAny_field he₂ rfl (x := ov) rfl ?_)
  refine wpAny_bind (wpAny_setField_rec he₂ (by simp) fun h₃ he₃ hs₃ => ?_)
  replace hs₃ : Heap.SameBut it h₂ h₃ := hs₃
  replace he₃ : IsItemIter h₃ it d (i + 1) es.length ep en.key ov := he₃
  refine wpAny_bind (wpAny_setField_rec he₃ (by simp) fun h₄ he₄ hs₄ => ?_)
  replace hs₄ : Heap.SameBut it h₃ h₄ := hs₄
  replace he₄ : IsItemIter h₄ it d (i + 1) es.length ep en.key en.val := he₄
  refine wpAny_bind (wpAny_setField_rec he₄ (by simp) fun h₅ he₅ hs₅ => ?_)
  replace hs₅ : Heap.SameBut it h₄ h₅ := hs₅
  replace he₅ : IsItemIterOut h₅ it d (i + 1) es.length ep en.key en.val hp.objs.size := he₅
  refine wpAny_bind (wpAny_setField_rec he₅ (by simp) fun h₆ he₆ hs₆ => ?_)
  replace hs₆ : Heap.SameBut it h₅ h₆ := hs₆
  replace he₆ : IsItemIterOut h₆ it d (i + 1) es.length ep en.key en.val hp.objs.size := he₆
  refine wpAny_bind (wpAny_letGo (wpAny_pure (wpAny_pure ⟨_, rfl, wpAny_pure (hQ h₆ he₆ ?_ ?_ ?_)⟩)))
  · exact hs₆.extBut _ _ (Nat.ne_of_gt hil) (hs₅.extBut _ _ (Nat.ne_of_gt hil) (hs₄.extBut _ _ (Nat.ne_of_gt hil) (hs₃.extBut _ _ (Nat.ne_of_gt hil) ht₂)))
  · show h₆.objs.size = hp.objs.size + 1
    rw [hs₆.1, hs₅.1, hs₄.1, hs₃.1, hz₂]
  · exact fun b o hb e => hs₆.extBut b o hb (hs₅.extBut b o hb (hs₄.extBut b o hb (hs₃.extBut b o hb (hk₂ b o hb e))))

theorem rd_item_end {it : Addr} {i : Nat} {ok ov : Value} {Q : Option Value → Shared → Prop} (hh : A.handled = none) (hit : IsItemIter s.heap it d i es.length ep ok ov) (hm : RD s.heap d es ep) (hx : es[i]? = none)
    (hQ : ∀ h', Heap.ExtBut it s.heap h' → Q none { s with heap := h' }) : wpAny (model prog w) A (pyNext (.ref it)) Q E s := by
  obtain ⟨od, hod, hcd, hdd⟩ := id hm
  have hT : s.TypeIs (.ref it) "dict_itemiterator" := ⟨_, hit, rfl⟩
  unfold pyNext
  refine wpAny_bind (wpAny_attempt (wpAny_callSpecial?_slot (name := Str.ofString "__next__") hT F.slot_dict_itemiterator_next
    (wpAny_call_entry F.slot_dict_itemiterator_next hT F.entry_dict_itemiterator_next ?_ (F.args_dict_itemiterator_next_1 _))))
  refine wpAny_bind (wpAny_pure (wpAny_bind (wpAny_bind ?_)))
  refine wpAny_bind (wpAny_typeNameOfWhole_itemiter hT (wpAny_pure ?_))
  refine wpAny_bind (wpAny_fieldsOf hit rfl ?_)
  have hown : Builtin.Dict_items.ownsTuple "dict_itemiterator" = true := by decide
  simp only [hown, if_true]
  show wpAny _ _ (if (Value.ref d == Value.none) = true then _ else _) _ _ s
  rw [if_neg (show ¬ ((Value.ref d == Value.none) = true) from Bool.false_ne_true)]
  refine wpAny_bind (wpAny_pure (wpAny_bind (wpAny_dictEntries hod hdd ?_)))
  rw [if_neg (by rw [List.size_toArray]; simp)]
  refine wpAny_bind (wpAny_pure (wpAny_bind (wpAny_dictEpoch hod hdd ?_)))
  rw [if_neg (by simp)]
  refine wpAny_pure ?_
  have hx' : es.toArray[i]? = none := by simpa using hx
  simp only [show ¬ ((i : Int) < 0) from by omega, if_false, Int.toNat_natCast, hx']
  refine wpAny_bind ?_
  refine wpAny_bind (wpAny_typeNameOfWhole_itemiter hT (wpAny_pure ?_))
  show wpAny _ _ (setField (.ref it) 2 .none >>= _) _ _ s
  refine wpAny_bind (wpAny_setField hit rfl (by simp) ?_)
  show wpAny _ _ (newExc (.type "StopIteration") [] >>= _) _ _ _
  refine wpAny_bind ?_
  simp only [newExc, newTuple]
  refine wpAny_bind (wpAny_newObj_type ?_ (by size_fits))
  refine wpAny_bind (m := firstArgMember _ _) (wpAny_of_eq (a := Value.none) (by first | rfl | (simp only [firstArgMember]; rfl)) ?_)
  refine wpAny_newObj_type ?_ (by size_fits)
  simp only [raiseNew]
  refine wpAny_bind (wpAny_handled ?_)
  rw [show A.in1.handled = none from hh]
  refine wpAny_bind (wpAny_pure (wpAny_throw ?_))
  refine wpAny_bind (wpAny_isInstance (T := "StopIteration") (b := true) ⟨_, Heap.get?_push_size _ rfl, rfl⟩ isSubtype_stop ?_)
  exact wpAny_pure (hQ _ (((Heap.SameBut.update ..).extBut.push _).push _))

/-! walks over the values -/
theorem valIter_at {h h' : Heap} {it : Addr} {i n : Nat} (x : h.IsValIter it d i n ep) (e : ∀ o, h.get? it = some o → h'.get? it = some o) : h'.IsValIter it d i n ep := let ⟨o, ho, r⟩ := x; ⟨o, e o ho, r⟩
theorem walks_values (hh : A.handled = none) (it : Addr) (hne : d ≠ it) :
    Walks prog w A it [it, d] [it] es.length (fun i v => ∃ en, es[i]? = some en ∧ v = en.val) (fun i h => h.IsValIter it d i es.length ep ∧ RD h d es ep) where
  sub := fun b hb => by simp at hb; simp [hb]
  frame := fun _ _ _ st hk => ⟨valIter_at st.1 fun o e => hk it (by simp) o e, st.2.at fun o e => hk d (by simp) o e⟩
  item := fun i s Q E hi st hQ => by
    refine rd_val_item (en := es[i]) st.1 st.2 (by simp [hi]) fun h' hit' hs' => ?_
    exact hQ _ h' s.toks ⟨es[i], by simp [hi], rfl⟩ ⟨hit', st.2.at fun o e => hs'.extBut d o hne e⟩ fun b o hb e => hs'.extBut b o (fun h => hb (by simp [h])) e
  done := fun s Q E st hQ => rd_val_end hh st.1 st.2 (by simp) fun h' he' => hQ h' s.toks fun b o hb e => he' b o (fun h => hb (by simp [h])) e
  self := fun i s Q E st hQ => wpAny_pyIter_valiter st.1 hQ
end
end Mine

namespace Mine
section
variable {prog : Program} {w : World} {A : Around} {E : Value → Shared → Prop} {s s₀ : Shared} {env : Env}

theorem eqBool_str_int {x : Str} {t : Tok} {i : Int} {u : Tok} {Q : Bool → Shared → Prop} (hq : Q false s) : wpAny (model prog w) A (eqBool (.str x t) (.int i u)) Q E s := by
  unfold eqBool
  refine wpAny_holding ?_
  rw [if_neg (by simp)]
  exact wpAny_bind (EqMixed.eq_str_int (wpAny_truthy_bool hq))
theorem eqBool_int_str {x : Str} {t : Tok} {i : Int} {u : Tok} {Q : Bool → Shared → Prop} (hq : Q false s) : wpAny (model prog w) A (eqBool (.int i u) (.str x t)) Q E s := by
  unfold eqBool
  refine wpAny_holding ?_
  rw [if_neg (by simp)]
  exact wpAny_bind (EqMixed.eq_int_str (wpAny_truthy_bool hq))

/-- a text or an int -/
def mixIs : Str ⊕ Int → Value → Bool
  | .inl x, v => Value.isStrOf x v
  | .inr i, v => Value.isInt i v
def mixHash (w : World) : Str ⊕ Int → Int
  | .inl x => hashStr w x
  | .inr i => hashInt i

def mixKind (prog : Program) (w : World) : KeyKind prog w (Str ⊕ Int) where
  is := mixIs
  hash := mixHash w
  inj := fun v a b ha hb => by
    cases a with
    | inl x =>
      obtain ⟨t, rfl⟩ := Value.isStrOf_shape ha
      cases b with
      | inl y => rw [Value.isStrOf_inj (.str x t) x y ha hb]
      | inr j => simp [mixIs, Value.isInt] at hb
    | inr i =>
      obtain ⟨t, rfl⟩ := Value.isInt_shape ha
      cases b with
      | inl y => simp [mixIs, Value.isStrOf] at hb
      | inr j => rw [Value.isInt_inj (.int i t) i j ha hb]
  byValue := fun k v h => by
    cases k with
    | inl x => obtain ⟨t, rfl⟩ := Value.isStrOf_shape h; rfl
    | inr i => obtain ⟨t, rfl⟩ := Value.isInt_shape h; rfl
  pyHash := fun {A E s k v Q} hv h => by
    cases k with
    | inl x => obtain ⟨t, rfl⟩ := Value.isStrOf_shape hv; exact wpAny_pyHash_str h
    | inr i => obtain ⟨t, rfl⟩ := Value.isInt_shape hv; exact wpAny_pyHash_int h
  eqBool := fun {A E s a b u v Q} hu hv h => by
    cases a with
    | inl x =>
      obtain ⟨t, rfl⟩ := Value.isStrOf_shape hu
      cases b with
      | inl y =>
        obtain ⟨t', rfl⟩ := Value.isStrOf_shape hv
        refine wpAny_eqBool_str ?_
        have e : decide ((Sum.inl x : Str ⊕ Int) = Sum.inl y) = decide (x = y) := by simp
        rw [← e]; exact h
      | inr j =>
        obtain ⟨t', rfl⟩ := Value.isInt_shape hv
        exact eqBool_str_int (by simpa using h)
    | inr i =>
      obtain ⟨t, rfl⟩ := Value.isInt_shape hu
      cases b with
      | inl y =>
        obtain ⟨t', rfl⟩ := Value.isStrOf_shape hv
        exact eqBool_int_str (by simpa using h)
      | inr j =>
        obtain ⟨t', rfl⟩ := Value.isInt_shape hv
        refine wpAny_eqBool_int ?_
        have e : decide ((Sum.inr i : Str ⊕ Int) = Sum.inr j) = (i == j) := by
          rw [Bool.eq_iff_iff]; simp
        rw [← e]; exact h
  «strs» := fun k x t v h => by
    cases k with
    | inl y =>
      have h' : Value.isStrOf y (Value.str x t) = true := h
      obtain ⟨u, hu⟩ := Value.isStrOf_shape h'
      injection hu with hx
      subst hx
      cases v <;> rfl
    | inr i => simp [mixIs, Value.isInt] at h

/-- the table's keys: tuples of texts and ints -/
def tk (prog : Program) (w : World) : HeapKind prog w (List (Str ⊕ Int)) := tupleKind (mixKind prog w)
def keyOf (l : Int) : List (Str ⊕ Int) := [.inl (Str.ofString "at"), .inr l, .inl (Str.ofString "level")]
theorem keyOf_inj {a b : Int} (h : keyOf a = keyOf b) : a = b := by
  simpa [keyOf] using h

abbrev KV := List (Str ⊕ Int) × Addr × Value
/-- the table: for each level a count, in order -/
def Rows (tb : List (Int × Int)) (xs : List KV) : Prop := Paired (fun p x => x.1 = keyOf p.1 ∧ I p.2 x.2.2) tb xs
def Tab (prog : Program) (w : World) (h : Heap) (d : Addr) (tb : List (Int × Int)) (xs : List KV) : Prop := h.DictOfH (tk prog w) d xs ∧ Rows tb xs ∧ d ≠ sysModules

theorem dictOfH_ext {h h' : Heap} {d : Addr} {xs : List KV} (x : h.DictOfH (tk prog w) d xs) (e : Ext h h') : h'.DictOfH (tk prog w) d xs := by
  obtain ⟨o, es, ep, ho, hc, hd, he, hi, hn⟩ := x
  refine ⟨o, es, ep, e _ _ ho, hc, hd, he, fun y hy => ?_, hn⟩
  obtain ⟨o', items, n, ho', r⟩ := hi y hy
  exact ⟨o', items, n, e _ _ ho', r⟩
theorem dictOfH_rd {h : Heap} {d : Addr} {xs : List KV} (x : h.DictOfH (tk prog w) d xs) : ∃ ep, RD h d (xs.map (entryOfKey (tk prog w))) ep := by
  obtain ⟨o, es, ep, ho, hc, hd, he, hi, hn⟩ := x
  refine ⟨ep, o, ho, hc, ?_⟩
  rw [hd, ← he, Array.toArray_toList]
end
end Mine

namespace Mine

theorem paired_get {α β : Type} {F : α → β → Prop} : ∀ {l : List α} {ys : List β}, Paired F l ys → ∀ (i : Nat) (y : β), ys[i]? = some y → ∃ a, l[i]? = some a ∧ F a y
  | _, _, .nil, i, y, h => by simp at h
  | _, _, .cons (a := a) h r, 0, y, e => by
    simp at e; subst e
    exact ⟨a, rfl, h⟩
  | _, _, .cons h r, i + 1, y, e => by
    simp at e
    obtain ⟨a, h1, h2⟩ := paired_get r i y e
    exact ⟨a, by simpa using h1, h2⟩
theorem paired_length {α β : Type} {F : α → β → Prop} : ∀ {l : List α} {ys : List β}, Paired F l ys → l.length = ys.length
  | _, _, .nil => rfl
  | _, _, .cons _ r => by simp [paired_length r]

section
variable {prog : Program} {w : World} {A : Around} {E : Value → Shared → Prop} {s s₀ : Shared} {d : Addr} {es : List DictEntry} {ep : Nat} {env : Env}

/-- over d.items(), its two names locals -/
theorem items_loop {a b : Str} {pa pb tp : Pos} {kk : Nat} {body : List Stmt} {it : Addr} {X : Value → Shared → Prop} {Q : Flow → Shared → Prop} (hh : A.handled = none) (hk : env.scope.kind = .function) (ha : env.kindOf a = some .local) (hb : env.kindOf b = some .local)
    (hit : IsItemIter s.heap it d 0 es.length ep .none .none) (hm : RD s.heap d es ep) (hiL : it ≠ env.locals) (hdL : d ≠ env.locals) (hdi : d ≠ it)
    (W : List Addr) (hWi : it ∉ W) (hWd : d ∉ W) (Inv : Nat → (Str → Option Value) → Shared → Prop) {m₀ : Str → Option Value} (hn : s.heap.Ns env.locals m₀) (h0 : Inv 0 m₀ s)
    (hst : ∀ i m s s', Inv i m s → KB [it, env.locals] s s' → Inv i m s')
    (turn : ∀ i en m s, es[i]? = some en → Inv i m s → s.heap.Ns env.locals (fun y => if y = b then some en.val else if y = a then some en.key else m y) →
      ∀ E', wpAny (model prog w) A (execs body env) (fun f s'' => f = .next ∧ ∃ m'', KB W s s'' ∧ s''.heap.Ns env.locals m'' ∧ Inv (i + 1) m'' s'') E' s)
    (done : ∀ m s', s'.heap.Ns env.locals m → Inv es.length m s' → Q .next s') :
    codeAny (model prog w) A (.forLoop (.Tuple [.Name a pa, .Name b pb] kk tp) (.ref it) body [] env) (fun r s' => match r with | .ok f => Q f s' | .error e => X e s') s := by
  refine codeAny_forLoop_any (fun k s' => ∃ i m ok ov, i ≤ es.length ∧ k = es.length + 1 - i ∧ IsItemIter s'.heap it d i es.length ep ok ov ∧ RD s'.heap d es ep ∧ s'.heap.Ns env.locals m ∧ Inv i m s') ?_ (es.length + 1)
    ⟨0, m₀, .none, .none, Nat.zero_le _, rfl, hit, hm, hn, h0⟩
  rintro k s' ⟨i, m, ok, ov, hi, rfl, hit', hm', hn', hI⟩
  cases hv : es[i]? with
  | none =>
    have hsz : i = es.length := Nat.le_antisymm hi (by simpa using hv)
    refine rd_item_end hh hit' hm' hv fun h₁ he₁ => wpAny_execs_nil ?_
    have kb : KB [it, env.locals] s' { s' with heap := h₁ } := ⟨h₁, s'.toks, by cases s'; rfl, fun b o hb e => he₁ b o (fun q => hb (by simp [q])) e⟩
    exact done m _ (hn'.extBut he₁ (Ne.symm hiL)) (hsz ▸ hst i m _ _ hI kb)
  | some en =>
    have hlt : i < es.length := (List.getElem?_eq_some_iff.mp hv).1
    have hiH : it < s'.heap.objs.size := Heap.lt_size hit'
    have hLH : env.locals < s'.heap.objs.size := hn'.lt
    have hdH : d < s'.heap.objs.size := by obtain ⟨o, ho, _⟩ := hm'; exact Heap.lt_size ho
    refine rd_item hit' hm' hv fun h₁ heo ht₁ hz₁ hk₁ => ?_
    refine wpAny_letOwnedTupleGo_items heo fun h₂ he₂ hs₂ => ?_
    replace hs₂ : Heap.SameBut it h₁ h₂ := hs₂
    have ht₂ : h₂.IsTuple s'.heap.objs.size #[en.key, en.val] := ⟨_, (hs₂.2 _ (Nat.ne_of_gt hiH)).trans ht₁, rfl, _, rfl⟩
    have hz₂ : h₂.objs.size = s'.heap.objs.size + 1 := hs₂.1.trans hz₁
    refine wpAny_assign_Tuple hh ht₂ rfl rfl fun h₃ hx₃ => ?_
    replace hx₃ : Heap.ExtBut h₂.objs.size h₂ h₃ := hx₃
    have old₃ : ∀ b o, b < s'.heap.objs.size → h₂.get? b = some o → h₃.get? b = some o := fun b o hb x => hx₃ b o (by rw [hz₂]; exact Nat.ne_of_lt (Nat.lt_succ_of_lt hb)) x
    have hn₃ : h₃.Ns env.locals m := (hn'.at fun o x => hk₁ _ o (Ne.symm hiL) x).sameBut hs₂ (Ne.symm hiL) |>.at fun o x => old₃ _ o hLH x
    have hp : (env.scope.kind == .class || (env.scope.kind == .module && env.locals != env.globals)) = false := by rw [hk]; rfl
    show wpAny _ _ (do holding [en.val] (assign (.Name a pa) env en.key); do holding [] (assign (.Name b pb) env en.val); pure ()) _ _ _
    refine wpAny_bind (wpAny_holding (wpAny_assign_Name (wpAny_storeName_local ha hn₃ (fun h₄ hn₄ hs₄ => ?_) hp)))
    replace hs₄ : Heap.SameBut env.locals h₃ h₄ := hs₄
    refine wpAny_bind (wpAny_holding (wpAny_assign_Name (wpAny_storeName_local hb hn₄ (fun h₅ hn₅ hs₅ => wpAny_pure ?_) hp)))
    replace hs₅ : Heap.SameBut env.locals h₄ h₅ := hs₅
    have up₅ : ∀ b o, b ≠ env.locals → b < s'.heap.objs.size → h₂.get? b = some o → h₅.get? b = some o := fun b o hbL hb x => hs₅.extBut b o hbL (hs₄.extBut b o hbL (old₃ b o hb x))
    have kb5 : KB [it, env.locals] s' { s' with heap := h₅, toks := s'.toks + 1 + 1 } := ⟨h₅, _, rfl, fun b o hb e => by
      have h1 : b ≠ it := fun q => hb (by simp [q])
      have h2 : b ≠ env.locals := fun q => hb (by simp [q])
      exact up₅ b o h2 (Heap.lt_size e) (hs₂.extBut b o h1 (hk₁ b o h1 e))⟩
    have hm₅ : RD h₅ d es ep := hm'.at fun o e => up₅ d o hdL hdH (hs₂.extBut d o hdi (hk₁ d o hdi e))
    have hi₅ : IsItemIter h₅ it d (i + 1) es.length ep en.key en.val := up₅ it _ hiL hiH he₂
    refine wpAny_mono (turn i en m { s' with heap := h₅, toks := s'.toks + 1 + 1 } hv (hst i m _ _ hI kb5) hn₅ _) (fun f s₃ h₆ => ?_) fun _ _ x => x
    obtain ⟨rfl, m₂, kb6, hn₆, hI₆⟩ := h₆
    exact ⟨es.length + 1 - (i + 1), by omega, i + 1, m₂, en.key, en.val, hlt, rfl, kb6.get hi₅ hWi, hm₅.at fun o e => kb6.get e hWd, hn₆, hI₆⟩

theorem sum_take_succ (l : List Int) (i : Nat) (x : Int) (h : l[i]? = some x) : (l.take (i + 1)).sum = (l.take i).sum + x := by
  rw [List.take_add_one, h]; simp

theorem count_spec {n : Nat} (hA : AOk (n + 2) A) (g : G w s₀.heap) {d : Addr} {tb : List (Int × Int)} {xs : List KV} (ht : Tab prog w s₀.heap d tb xs) :
    Em prog w A (call (.ref 74) [.ref d]) s₀ (fun r _ => I (tb.map (·.2)).sum r) := by
  refine Em.defn (n := n + 1) hA g (f := 74) (binds := [(Str.ofString "callers", .ref d)]) rfl rfl rfl (fun _ => rfl) (by decide) (locs rfl) ?_
  intro s s₁ L E k0 k1 g1 hA1 hn hL
  obtain ⟨ep, rd⟩ := dictOfH_rd ht.1
  have kk := Mine.K.trans k0 k1
  have rd1 := rd.ext (Mine.K.ext kk)
  have hdL : d ≠ L := by
    rintro rfl
    obtain ⟨o, ho, _⟩ := rd.ext (Mine.K.ext k0)
    rw [hL] at ho; cases ho
  refine ex_assign hn (P := fun v _ => I 0 v) Ev.int ?_
  rintro v s2 s3 k2 ⟨t3, rfl⟩ kb3 hn3
  have kb13 : KB [L] s₁ s3 := KB.trans (KB.of k2) kb3
  have rd3 : RD s3.heap d _ ep := (rd1.ext (Mine.K.ext k2)).kb kb3 (fun q => hdL (List.mem_singleton.mp q))
  refine ex_for fun E' => ?_
  have hds : (d == sysModules) = false := by simpa using ht.2.2
  obtain ⟨od, hod, hcd, hdd⟩ := id rd3
  refine (Em.meth0 (T := "dict") (id := "dict.values") (P := fun v s => ∃ r, v = .ref r ∧ s.heap.IsValuesView r d) (Ev.local hn3 rfl rfl) hod hcd.1 hcd.2.1 PySem.F.plainAttrs_dict PySem.F.slot_dict_values PySem.F.type_dict_values fun s4 k4 => ?_).use Mine.K.rfl fun v s4 k4 p => ?_
  · exact Em.of fun s5 Q E k5 hQ => rd_values (rd3.ext (Mine.K.ext (Mine.K.trans k4 k5))) hds (hQ _ _ (Mine.K.mkh fun b o e => Heap.get?_push_of_some _ e) ⟨_, rfl, _, Heap.get?_push_size _ rfl, rfl, rfl⟩)
  · obtain ⟨r, rfl, hv⟩ := p
    have rd4 := rd3.ext (Mine.K.ext k4)
    refine rd_iter_values hv rd4 fun X => ?_
    have hdit : d ≠ s4.heap.objs.size := by
      obtain ⟨o, ho, _⟩ := rd4
      exact Nat.ne_of_lt (Heap.lt_size ho)
    have hLit : L ≠ s4.heap.objs.size := Nat.ne_of_lt (hn3.keeps (Mine.K.ext k4)).lt
    have kp : Keeps s4 { s4 with heap := s4.heap.push { cls := .type "dict_valueiterator", data := .fields #[.ref d, .int 0 0, .int (xs.map (entryOfKey (tk prog w))).length 0, .int ep 0] } } := Mine.K.mkh fun b o e => Heap.get?_push_of_some _ e
    have hs1none : s₁.heap.get? s4.heap.objs.size = none := by
      cases e : s₁.heap.get? s4.heap.objs.size with
      | none => rfl
      | some o =>
        have hne : s4.heap.objs.size ∉ [L] := by simpa using Ne.symm hLit
        have := Mine.K.ext k4 _ _ (kb13.get e hne)
        rw [fresh_none] at this; cases this
    refine for_walk (walks_values (prog := prog) (w := w) (es := xs.map (entryOfKey (tk prog w))) (ep := ep) hA1.hh s4.heap.objs.size hdit) [L] ?_
      (fun i s' => ∃ m t, KB [L] s₁ s' ∧ s'.heap.Ns L m ∧ m (Str.ofString "nc") = some (.int ((tb.map (·.2)).take i).sum t)) ?_ ?_ ?_ ?_ ?_ ?_
    · intro b hb; rw [List.mem_singleton.mp hb]; simpa using ⟨hLit, Ne.symm hdL⟩
    · exact ⟨_, t3, KB.trans kb13 (KB.of (Mine.K.trans k4 kp)), (hn3.keeps (Mine.K.ext (Mine.K.trans k4 kp))), rfl⟩
    · exact ⟨⟨_, Heap.get?_push_size _ rfl, rfl, rfl⟩, rd4.ext (Mine.K.ext kp)⟩
    · rintro i s5 s6 - ⟨m, t, kb, hn5, hnc⟩ kb6
      exact ⟨m, t, KB.from kb kb6 (fun b hb _ => by rw [List.mem_singleton.mp hb]; exact hs1none), hn5.at fun o e => kb6.get e (by simpa using hLit), hnc⟩
    · exact fun i v s5 _ _ Q' E'' hq => wpAny_pure hq
    · rintro i v s5 hi ⟨en, hen, rfl⟩ ⟨m, t, kb, hn5, hnc⟩ E''
      rw [List.getElem?_map] at hen
      obtain ⟨x, hx, rfl⟩ := Option.map_eq_some_iff.mp hen
      obtain ⟨p, hp, hpk, tp, hpv⟩ := paired_get ht.2.1 i x hx
      show wpAny _ _ (assign _ _ x.2.2) _ _ _
      rw [hpv]
      refine as_local hn5 fun s6 kb6 hn6 => ?_
      refine ex_cons (wpAny_AugAssign_Name ?_)
      refine wpAny_loadName_local rfl rfl hn6 (v := .int ((tb.map (·.2)).take i).sum t) (upd_ne hnc) ?_
      refine (Ev.local (prog := prog) (w := w) (P := fun v => v = .int p.2 tp) hn6 rfl rfl).use Mine.K.rfl fun v s7 k7 e => ?_
      subst e
      refine wpAny_iadd_int ?_
      refine wpAny_storeName_local rfl (hn6.keeps (h' := s7.heap) (Mine.K.ext k7)) (fun h8 hn8 hs8 => ?_) rfl
      have kb8 : KB [L] s7 { s7 with heap := h8, toks := s7.toks + 1 + 1 } := KB.same hs8 (by simp; rfl)
      refine wpAny_execs_nil ⟨KB.trans kb6 (KB.trans (KB.of k7) kb8), _, s7.toks, KB.trans kb (KB.trans kb6 (KB.trans (KB.of k7) kb8)), hn8, ?_⟩
      rw [sum_take_succ _ i p.2 (by rw [List.getElem?_map, hp]; rfl)]
      rfl
    · rintro s5 ⟨m, t, kb, hn5, hnc⟩
      refine ex_return (P := fun r _ => I (tb.map (·.2)).sum r) (Ev.local hn5 hnc ⟨t, ?_⟩) fun r s6 k6 e => ⟨KB.trans kb (KB.of k6), e⟩
      rw [List.take_of_length_le]
      rw [List.length_map, List.length_map, paired_length ht.2.1]; exact Nat.le_refl _
end
end Mine

namespace Mine

theorem atKey_none {xs : List KV} {k : List (Str ⊕ Int)} (h : k ∉ xs.map (·.1)) : atKey xs k = none := by
  refine atKey_none_of_get fun j p e => h ?_
  exact List.mem_map.mpr ⟨(k, p), List.mem_of_getElem? e, rfl⟩
theorem storedH_take {xs : List KV} {i : Nat} {x : KV} (hn : (xs.map (·.1)).Nodup) (hx : xs[i]? = some x) : storedH (xs.take i) x.1 x.2.1 x.2.2 = xs.take (i + 1) := by
  have hnot : x.1 ∉ (xs.take i).map (·.1) := by
    intro hm
    obtain ⟨y, hy, e⟩ := List.mem_map.mp hm
    obtain ⟨j, hj⟩ := List.mem_iff_getElem?.mp hy
    have hji : j < i := by
      have := (List.getElem?_eq_some_iff.mp hj).1
      rw [List.length_take] at this
      omega
    rw [List.getElem?_take_of_lt hji] at hj
    have := idxH_unique hn (i := j) (j := i) (k := x.1) (p := y.2) (q := x.2) (by rw [hj, ← e]) hx
    omega
  rw [storedH_new (atKey_none hnot), List.take_add_one, hx]
  rfl

def bump (tb : List (Int × Int)) (l c : Int) : List (Int × Int) :=
  if l ∈ tb.map (·.1) then tb.map (fun p => if p.1 = l then (p.1, p.2 + c) else p) else tb ++ [(l, c)]

theorem rows_keys {tb : List (Int × Int)} {xs : List KV} : Rows tb xs → xs.map (·.1) = (tb.map (·.1)).map keyOf
  | .nil => rfl
  | .cons h r => by simp [h.1, rows_keys r]

theorem rows_snoc {tb : List (Int × Int)} {xs : List KV} {p : Int × Int} {x : KV} (h : Rows tb xs) (hx : x.1 = keyOf p.1 ∧ I p.2 x.2.2) : Rows (tb ++ [p]) (xs ++ [x]) := Paired.snoc h hx
theorem rows_put {l c : Int} {v : Value} {old : Int} (hv : I (old + c) v) : ∀ {tb : List (Int × Int)} {xs : List KV}, Rows tb xs → (∀ p ∈ tb, p.1 = l → p.2 = old) →
    Rows (tb.map (fun p => if p.1 = l then (p.1, p.2 + c) else p)) (xs.map (putAt (keyOf l) v))
  | _, _, .nil, _ => .nil
  | _, _, .cons (a := p) (b := x) h r, ho => by
    refine .cons ?_ (rows_put hv r fun q hq => ho q (List.mem_cons_of_mem _ hq))
    by_cases hl : p.1 = l
    · have hk : x.1 = keyOf l := by rw [h.1, hl]
      dsimp only
      rw [if_pos hl]
      unfold putAt
      rw [if_pos hk]
      refine ⟨h.1, ?_⟩
      rw [ho p (List.mem_cons_self ..) hl]
      exact hv
    · have hk : ¬ x.1 = keyOf l := by rw [h.1]; exact fun e => hl (keyOf_inj e)
      dsimp only
      rw [if_neg hl]
      unfold putAt
      rw [if_neg hk]
      exact h

section
variable {prog : Program} {w : World} {A : Around} {E : Value → Shared → Prop} {s s₀ : Shared} {env : Env}

theorem big {h : Heap} (g : G w h) : h.objs.size ≠ sysModules := by
  have h1 := Heap.lt_size (g.kin 91 _ rfl)
  have h2 : sysModules = 1 := rfl
  rw [h2]
  intro e
  rw [e] at h1
  exact absurd h1 (by decide)

theorem Em.dict0 {pos : Pos} (g : G w s₀.heap) : Em prog w A (eval (.Dict [] [] pos) env) s₀ (fun v s => ∃ D, v = .ref D ∧ s₀.heap.get? D = none ∧ D ≠ sysModules ∧ s.heap.get? D = some { cls := .type "dict", data := .dict #[] }) :=
  Em.of fun s Q E k hQ => wpAny_Dict_empty (hQ _ _ (Mine.K.mkh fun b o e => Heap.get?_push_of_some _ e) ⟨_, rfl, none_of k (fresh_none _), big (g.k k), Heap.get?_push_size _ rfl⟩)

theorem dictOfH_new {h : Heap} {D : Addr} (e : h.get? D = some { cls := .type "dict", data := .dict #[] }) : h.DictOfH (tk prog w) D [] :=
  ⟨_, #[], 0, e, ⟨rfl, rfl, rfl⟩, rfl, rfl, fun x hx => by simp at hx, List.nodup_nil⟩

theorem is_ext {h h' : Heap} {k : List (Str ⊕ Int)} {a : Addr} (x : (tk prog w).is h k a) (e : Ext h h') : (tk prog w).is h' k a := by
  obtain ⟨o', items, n, ho', r⟩ := x
  exact ⟨o', items, n, e _ _ ho', r⟩
theorem dictOfH_mk {h : Heap} {d : Addr} {xs : List KV} {ep : Nat} (x : RD h d (xs.map (entryOfKey (tk prog w))) ep) (hn : (xs.map (·.1)).Nodup) (hi : ∀ y ∈ xs, (tk prog w).is h y.1 y.2.1) : h.DictOfH (tk prog w) d xs := by
  obtain ⟨o, ho, hc, hd⟩ := x
  exact ⟨o, _, ep, ho, hc, hd, by simp, hi, hn⟩

theorem for_items {a b : Str} {pa pb tp apos cpos pos : Pos} {kk : Nat} {o : Expr} {body rest : List Stmt} {Q : Flow → Shared → Prop} {d : Addr} {es : List DictEntry} {ep : Nat} {m₀ : Str → Option Value} (hh : A.handled = none) (hk : env.scope.kind = .function) (ha : env.kindOf a = some .local) (hb : env.kindOf b = some .local)
    (hd : Ev prog w A env o s (R d)) (hm : RD s.heap d es ep) (hds : d ≠ sysModules) (hn : s.heap.Ns env.locals m₀) (hdL : d ≠ env.locals)
    (W : List Addr) (hWs : ∀ b ∈ W, ∃ o, s.heap.get? b = some o) (hWd : d ∉ W) (Inv : Nat → (Str → Option Value) → Shared → Prop) (h0 : ∀ s', Keeps s s' → Inv 0 m₀ s')
    (hst : ∀ i m s₁ s' it, s.heap.get? it = none → Inv i m s₁ → KB [it, env.locals] s₁ s' → Inv i m s')
    (turn : ∀ i en m s, es[i]? = some en → Inv i m s → s.heap.Ns env.locals (fun y => if y = b then some en.val else if y = a then some en.key else m y) →
      ∀ E', wpAny (model prog w) A (execs body env) (fun f s'' => f = .next ∧ ∃ m'', KB W s s'' ∧ s''.heap.Ns env.locals m'' ∧ Inv (i + 1) m'' s'') E' s)
    (done : ∀ m s', s'.heap.Ns env.locals m → Inv es.length m s' → wpAny (model prog w) A (execs rest env) Q E s')
    (hbase : attributeBase o (Str.ofString "items") env (eval o env) = eval o env := by rfl) (hline : (apos.endLine == cpos.line) = true := by rfl) :
    wpAny (model prog w) A (execs (.For (.Tuple [.Name a pa, .Name b pb] kk tp) (.Call (.Attribute o (Str.ofString "items") apos) [] [] cpos) body [] pos :: rest) env) Q E s := by
  refine ex_for fun E' => ?_
  have hds' : (d == sysModules) = false := by simpa using hds
  obtain ⟨od, hod, hcd, hdd⟩ := id hm
  refine (Em.meth0 (T := "dict") (id := "dict.items") (P := fun v s => ∃ r, v = .ref r ∧ s.heap.IsItemsView r d) hd hod hcd.1 hcd.2.1 PySem.F.plainAttrs_dict PySem.F.slot_dict_items PySem.F.type_dict_items (fun s4 k4 => ?_) hbase rfl hline).use Mine.K.rfl fun v s4 k4 p => ?_
  · exact Em.of fun s5 Q E k5 hQ => rd_items (hm.ext (Mine.K.ext (Mine.K.trans k4 k5))) hds' (hQ _ _ (Mine.K.mkh fun b o e => Heap.get?_push_of_some _ e) ⟨_, rfl, _, Heap.get?_push_size _ rfl, rfl, rfl⟩)
  · obtain ⟨r, rfl, hv⟩ := p
    have rd4 := hm.ext (Mine.K.ext k4)
    refine rd_iter_items hv rd4 fun X => ?_
    have kp : Keeps s4 { s4 with heap := s4.heap.push { cls := .type "dict_itemiterator", data := .fields #[.none, .bool false, .ref d, .int 0 0, .int es.length 0, .int ep 0, .none, .none] } } := Mine.K.mkh fun b o e => Heap.get?_push_of_some _ e
    have hit0 : s.heap.get? s4.heap.objs.size = none := none_of k4 (fresh_none _)
    have nit : ∀ b o, s.heap.get? b = some o → b ≠ s4.heap.objs.size := fun b o e q => by rw [q, hit0] at e; cases e
    obtain ⟨oL, esL, epL, hoL, _⟩ := id hn
    exact items_loop hh hk ha hb (Heap.get?_push_size _ rfl) (rd4.ext (Mine.K.ext kp)) (Ne.symm (nit _ _ hoL)) hdL (nit _ _ hod) W (fun hm => by obtain ⟨o, e⟩ := hWs _ hm; rw [hit0] at e; cases e) hWd Inv (hn.keeps (Mine.K.ext (Mine.K.trans k4 kp))) (h0 _ (Mine.K.trans k4 kp))
      (fun i m s₁ s' hI kb => hst i m s₁ s' _ hit0 hI kb) turn done
end
end Mine

namespace Mine

theorem sizeLine_ge : 1000000 ≤ sizeLine := by decide

theorem upd2_ne {m : Str → Option Value} {a b y : Str} {u v : Value} {r : Option Value} (h : m y = r) (hb : y ≠ b := by decide) (ha : y ≠ a := by decide) : (fun z => if z = b then some v else if z = a then some u else m z) y = r := by
  show (if y = b then some v else if y = a then some u else m y) = r
  rw [if_neg hb, if_neg ha]; exact h
theorem upd2_b {m : Str → Option Value} {a b : Str} {u v : Value} : (fun z => if z = b then some v else if z = a then some u else m z) b = some v := by simp
theorem upd2_a {m : Str → Option Value} {a b : Str} {u v : Value} (hb : a ≠ b := by decide) : (fun z => if z = b then some v else if z = a then some u else m z) a = some u := by
  show (if a = b then some v else if a = a then some u else m a) = some u
  rw [if_neg hb, if_pos rfl]

theorem nodup_rows {tb : List (Int × Int)} {xs : List KV} (h : Rows tb xs) (hn : (xs.map (·.1)).Nodup) : (tb.map (·.1)).Nodup := by
  rw [rows_keys h] at hn
  exact List.Pairwise.of_map keyOf (fun a b hab e => hab (by rw [e])) hn

theorem lookup_nodup {l : Int} : ∀ {t : List (Int × Int)} {y : Int}, (t.map (·.1)).Nodup → (l, y) ∈ t → t.lookup l = some y := by
  intro t
  induction t with
  | nil => intro y _ h; simp at h
  | cons z t ih =>
    intro y hn h
    simp only [List.map_cons, List.nodup_cons] at hn
    rcases List.mem_cons.mp h with e | h
    · subst e; simp
    · have hne : ¬ (l == z.1) = true := by
        intro e
        exact hn.1 (List.mem_map.mpr ⟨(l, y), h, by simpa using e⟩)
      rw [List.lookup_cons, ih hn.2 h]
      simp [hne]

theorem atKey_val {l x : Int} : ∀ {tb : List (Int × Int)} {xs : List KV}, Rows tb xs → (tb.map (·.1)).Nodup → (l, x) ∈ tb → ∃ p, atKey xs (keyOf l) = some p ∧ I x p.2
  | _, _, .nil, _, h => by simp at h
  | _, _, .cons (a := q) (b := y) h r, hn, hm => by
    simp only [List.map_cons, List.nodup_cons] at hn
    rcases List.mem_cons.mp hm with e | hm
    · subst e
      exact ⟨y.2, by simp [atKey, h.1], h.2⟩
    · obtain ⟨p, hp, hv⟩ := atKey_val r hn.2 hm
      refine ⟨p, ?_, hv⟩
      have hne : ¬ y.1 = keyOf l := by
        rw [h.1]
        intro e
        exact hn.1 (List.mem_map.mpr ⟨(l, x), hm, (keyOf_inj e).symm⟩)
      rw [← hp]
      simp [atKey, hne]

theorem putAt_key {k : List (Str ⊕ Int)} {v : Value} {y z : KV} (h : y = putAt k v z) : y.1 = z.1 ∧ y.2.1 = z.2.1 := by
  subst h
  unfold putAt
  split <;> exact ⟨rfl, rfl⟩

section
variable {prog : Program} {w : World} {A : Around} {E : Value → Shared → Prop} {s s₀ : Shared} {env : Env}

theorem tk_room {n : Nat} (hA : AOk n A) : (tk prog w).room A.in1 := tupleKind_room_in1 (by have := hA.units; omega)

/-- d[k] = v -/
theorem ex_setH {o i value : Expr} {pos' pos : Pos} {rest : List Stmt} {Q : Flow → Shared → Prop} {D a : Addr} {v : Value} {xs : List KV} {k : List (Str ⊕ Int)} {n : Nat} (hA : AOk n A)
    (hv : Ev prog w A env value s (fun y => y = v)) (ho : Ev prog w A env o s (R D)) (hi : Ev prog w A env i s (R a)) (hd : s.heap.DictOfH (tk prog w) D xs) (hk : (tk prog w).is s.heap k a) (hsz : xs.length ≤ 1000)
    (h : ∀ s', KB [D] s s' → s'.heap.DictOfH (tk prog w) D (storedH xs k a v) → wpAny (model prog w) A (execs rest env) Q E s')
    (hs : swapsWith value (some (.Subscript o i pos')) pos.line env = pure false := by rfl) :
    wpAny (model prog w) A (execs (.Assign [.Subscript o i pos'] value pos :: rest) env) Q E s := by
  refine ex_cons (wpAny_Assign_Subscript (hv.use K.rfl fun y s1 k1 e1 => ho.use k1 fun y2 s2 k2 e2 => hi.use (K.trans k1 k2) fun y3 s3 k3 e3 => ?_) hs)
  cases e2; cases e3; subst e1
  have k13 := K.trans k1 (K.trans k2 k3)
  refine wpAny_setItem_heap (tk_room hA) (is_ext hk (K.ext k13)) (dictOfH_ext hd (K.ext k13)) (fun h' hd' hs' => ?_) (Nat.le_trans hsz (Nat.le_trans (by decide) sizeLine_ge))
  exact h _ (KB.trans (KB.of k13) (KB.same hs' (by simp))) hd'

theorem atKey_rows {tb : List (Int × Int)} {xs : List KV} (h : Rows tb xs) (l : Int) : (atKey xs (keyOf l)).isSome = decide (l ∈ tb.map (·.1)) := by
  by_cases hl : l ∈ tb.map (·.1)
  · have : keyOf l ∈ xs.map (·.1) := by rw [rows_keys h]; exact List.mem_map.mpr ⟨l, hl, rfl⟩
    cases e : atKey xs (keyOf l) with
    | some p => simp [hl]
    | none =>
      exfalso
      obtain ⟨x, hx, e1⟩ := List.mem_map.mp this
      unfold atKey at e
      rw [Option.map_eq_none_iff, List.find?_eq_none] at e
      exact e x hx (by simp [e1])
  · have : keyOf l ∉ xs.map (·.1) := by
      rw [rows_keys h]
      intro hm
      obtain ⟨l', hl', e⟩ := List.mem_map.mp hm
      exact hl (keyOf_inj e ▸ hl')
    rw [atKey_none this]
    simp [hl]

theorem add_spec {n : Nat} (hA : AOk (n + 2) A) (g : G w s₀.heap) {d S : Addr} {tb : List (Int × Int)} {xs ys : List KV} {l c : Int} (ht : Tab prog w s₀.heap d tb xs) (hS : Tab prog w s₀.heap S [(l, c)] ys) (hsz : tb.length ≤ 100) :
    Em prog w A (call (.ref 67) [.ref d, .ref S]) s₀ (fun r s => ∃ D zs, r = .ref D ∧ s₀.heap.get? D = none ∧ Tab prog w s.heap D (bump tb l c) zs) := by
  refine Em.defn (n := n + 1) hA g (f := 67) (binds := [(Str.ofString "target", .ref d), (Str.ofString "source", .ref S)]) rfl rfl rfl (fun _ => rfl) (by decide) (locs rfl) ?_
  intro s s₁ L E k0 k1 g1 hA1 hn hL
  obtain ⟨ep, rd⟩ := dictOfH_rd ht.1
  obtain ⟨epS, rdS⟩ := dictOfH_rd hS.1
  have hlen : tb.length = xs.length := paired_length ht.2.1
  obtain ⟨_, _, _, _, _, _, _, hikx, hndx⟩ := id ht.1
  obtain ⟨_, _, _, _, _, _, _, hiky, hndy⟩ := id hS.1
  have kk := Mine.K.trans k0 k1
  have rd1 := rd.ext (Mine.K.ext kk)
  have rdS1 := rdS.ext (Mine.K.ext kk)
  have hdL : d ≠ L := by
    rintro rfl
    obtain ⟨o, ho, _⟩ := rd.ext (Mine.K.ext k0)
    rw [hL] at ho; cases ho
  have hSL : S ≠ L := by
    rintro rfl
    obtain ⟨o, ho, _⟩ := rdS.ext (Mine.K.ext k0)
    rw [hL] at ho; cases ho
  have hL1 : ∀ b ∈ [L], s.heap.get? b = none := fun b hb => by rw [List.mem_singleton.mp hb]; exact hL
  have toS0 : ∀ s', KB [L] s₁ s' → Keeps s₀ s' := fun s' kb => Mine.K.trans k0 (KB.keeps k1 kb hL1)
  -- new_callers = {}
  refine ex_assign hn (Em.dict0 g1) ?_
  rintro v s2 s3 k2 ⟨D, rfl, hD0, hDs, hD⟩ kb3 hn3
  have kb13 : KB [L] s₁ s3 := KB.trans (KB.of k2) kb3
  have hDL : D ≠ L := by
    rintro rfl
    have := hn.lt
    exact absurd this (by
      intro hlt
      obtain ⟨o, es, ep, ho, _⟩ := hn
      rw [hD0] at ho; cases ho)
  have hDd : d ≠ D := by
    rintro rfl
    obtain ⟨o, ho, _⟩ := rd1
    rw [hD0] at ho; cases ho
  have hDS : S ≠ D := by
    rintro rfl
    obtain ⟨o, ho, _⟩ := rdS1
    rw [hD0] at ho; cases ho
  have rdD3 : RD s3.heap D (([] : List KV).map (entryOfKey (tk prog w))) 0 := RD.kb ⟨_, hD, ⟨rfl, rfl, rfl⟩, rfl⟩ kb3 (fun q => hDL (List.mem_singleton.mp q))
  have rd3 := (rd1.ext (Mine.K.ext k2)).kb kb3 (fun q => hdL (List.mem_singleton.mp q))
  have rdS3 := (rdS1.ext (Mine.K.ext k2)).kb kb3 (fun q => hSL (List.mem_singleton.mp q))
  obtain ⟨oL3, esL3, epL3, hoL3, _⟩ := id hn3
  -- for func, caller in target.items()
  refine for_items (d := d) (es := xs.map (entryOfKey (tk prog w))) (ep := ep) hA1.hh rfl rfl rfl (Ev.local hn3 rfl rfl) rd3 ht.2.2 hn3 hdL [D] ?_ (by simpa using hDd)
    (fun i m s' => KB [L] s₁ s' ∧ m (Str.ofString "new_callers") = some (.ref D) ∧ m (Str.ofString "source") = some (.ref S) ∧ ∃ epD, RD s'.heap D ((xs.take i).map (entryOfKey (tk prog w))) epD) ?_ ?_ ?_ ?_
  · intro b hb
    rw [List.mem_singleton.mp hb]
    obtain ⟨o, ho, _⟩ := rdD3
    exact ⟨o, ho⟩
  · intro s' k'
    exact ⟨KB.trans kb13 (KB.of k'), rfl, rfl, 0, rdD3.ext (Mine.K.ext k')⟩
  · rintro i m s4 s5 it hit ⟨kb, h1, h2, epD, hrd⟩ kb5
    refine ⟨KB.from kb kb5 ?_, h1, h2, epD, hrd.kb kb5 ?_⟩
    · intro b hb hbL
      simp only [List.mem_cons, List.not_mem_nil, or_false] at hb hbL
      rcases hb with rfl | rfl
      · cases e : s₁.heap.get? b with
        | none => rfl
        | some o => have := kb13.get e (by simpa using hbL); rw [hit] at this; cases this
      · exact absurd rfl hbL
    · simp only [List.mem_cons, List.not_mem_nil, or_false, not_or]
      refine ⟨?_, hDL⟩
      rintro rfl
      obtain ⟨o, ho, _⟩ := rdD3
      rw [hit] at ho; cases ho
  · rintro i en m s4 hen ⟨kb, h1, h2, epD, hrd⟩ hn4 E'
    rw [List.getElem?_map] at hen
    obtain ⟨x, hx, rfl⟩ := Option.map_eq_some_iff.mp hen
    have hxm : x ∈ xs := List.mem_of_getElem? hx
    have k04 := toS0 _ kb
    have hdD : s4.heap.DictOfH (tk prog w) D (xs.take i) := dictOfH_mk hrd (by rw [List.map_take]; exact List.Sublist.nodup (List.take_sublist ..) hndx) (fun y hy => is_ext (hikx y (List.mem_of_mem_take hy)) (Mine.K.ext k04))
    have hlt : i < xs.length := (List.getElem?_eq_some_iff.mp hx).1
    refine ex_setH (a := x.2.1) (v := x.2.2) (k := x.1) hA1 (Ev.local hn4 upd2_b rfl) (Ev.local hn4 (upd2_ne h1) rfl) (Ev.local hn4 upd2_a rfl) hdD (is_ext (hikx x hxm) (Mine.K.ext k04)) (by rw [List.length_take]; omega) fun s5 kb5 hd5 => ?_
    rw [storedH_take hndx hx] at hd5
    obtain ⟨ep5, rd5⟩ := dictOfH_rd hd5
    refine wpAny_execs_nil ⟨rfl, _, kb5, hn4.at fun o e => kb5.get e (fun q => hDL (List.mem_singleton.mp q).symm), ?_, upd2_ne h1, upd2_ne h2, ep5, rd5⟩
    exact KB.from kb kb5 fun b hb _ => by rw [List.mem_singleton.mp hb]; exact hD0
  · rintro m s4 hn4 ⟨kb, h1, h2, epD, hrd⟩
    rw [List.length_map, List.take_of_length_le (Nat.le_refl _)] at hrd
    have rdS4 := (rdS1.kb kb (fun q => hSL (List.mem_singleton.mp q)))
    -- for func, caller in source.items()
    refine for_items (d := S) (es := ys.map (entryOfKey (tk prog w))) (ep := epS) hA1.hh rfl rfl rfl (Ev.local hn4 h2 rfl) rdS4 hS.2.2 hn4 hSL [D] ?_ (by simpa using hDS)
      (fun i m s' => KB [L] s₁ s' ∧ m (Str.ofString "new_callers") = some (.ref D) ∧ ∃ epD zs, RD s'.heap D (zs.map (entryOfKey (tk prog w))) epD ∧ (zs.map (·.1)).Nodup ∧ (∀ y ∈ zs, (tk prog w).is s₀.heap y.1 y.2.1) ∧ (i = 0 → zs = xs) ∧ (i = 1 → Rows (bump tb l c) zs)) ?_ ?_ ?_ ?_
    · intro b hb
      rw [List.mem_singleton.mp hb]
      obtain ⟨o, ho, _⟩ := hrd
      exact ⟨o, ho⟩
    · intro s' k'
      exact ⟨KB.trans kb (KB.of k'), h1, epD, xs, hrd.ext (Mine.K.ext k'), hndx, hikx, fun _ => rfl, fun e => absurd e (by decide)⟩
    · rintro i m s5 s6 it hit ⟨kb', h1', epD', zs, hrd', hnd', hik', hz0, hz1⟩ kb6
      have hitD : D ≠ it := by
        rintro rfl
        obtain ⟨o, ho, _⟩ := hrd
        rw [hit] at ho; cases ho
      refine ⟨KB.from kb' kb6 ?_, h1', epD', zs, hrd'.kb kb6 ?_, hnd', hik', hz0, hz1⟩
      · intro b hb hbL
        simp only [List.mem_cons, List.not_mem_nil, or_false] at hb hbL
        rcases hb with rfl | rfl
        · cases e : s₁.heap.get? b with
          | none => rfl
          | some o => have := kb.get e (by simpa using hbL); rw [hit] at this; cases this
        · exact absurd rfl hbL
      · simp only [List.mem_cons, List.not_mem_nil, or_false, not_or]
        exact ⟨hitD, hDL⟩
    · rintro i en m s5 hen ⟨kb', h1', epD', zs, hrd', hnd', hik', hz0, hz1⟩ hn5 E'
      rw [List.getElem?_map] at hen
      obtain ⟨x, hx, rfl⟩ := Option.map_eq_some_iff.mp hen
      obtain ⟨p, hp, hpk, hpv⟩ := paired_get hS.2.1 i x hx
      have hi0 : i = 0 := by
        rcases i with _ | i
        · rfl
        · simp at hp
      subst hi0
      simp at hp
      subst hp
      obtain rfl := hz0 rfl
      have hxm : x ∈ ys := List.mem_of_getElem? hx
      obtain ⟨tx, hxv⟩ := hpv
      dsimp only at hpk hxv
      have k05 := toS0 _ kb'
      have hdD : s5.heap.DictOfH (tk prog w) D zs := dictOfH_mk hrd' hnd' (fun y hy => is_ext (hik' y hy) (Mine.K.ext k05))
      have hkx : (tk prog w).is s5.heap (keyOf l) x.2.1 := by rw [← hpk]; exact is_ext (hiky x hxm) (Mine.K.ext k05)
      have hLD : L ∉ [D] := fun q => hDL (List.mem_singleton.mp q).symm
      have hDs' : (D == sysModules) = false := by simpa using hDs
      have g5 : G w s5.heap := g.k k05
      refine ex_if (b := decide (l ∈ tb.map (·.1))) (EvT.cmp ⟨rfl, R x.2.1, R D, Ev.local hn5 upd2_a rfl, Ev.local hn5 (upd2_ne h1') rfl, fun u v s6 k6 e1 e2 => by
        cases e1; cases e2
        rw [← atKey_rows ht.2.1]
        exact Em.of fun s7 Q E k7 hQ => wpAny_in_heap (tk_room hA1) (is_ext hkx (Mine.K.ext (Mine.K.trans k6 k7))) hDs' (dictOfH_ext hdD (Mine.K.ext (Mine.K.trans k6 k7))) (hQ _ _ Mine.K.tok rfl)⟩) fun s6 k6 => ?_
      have hn6 := hn5.keeps (Mine.K.ext k6)
      have kb6 : KB [L] s₁ s6 := KB.trans kb' (KB.of k6)
      have hd6 := dictOfH_ext hdD (Mine.K.ext k6)
      have fin : ∀ s', KB [D] s6 s' → ∀ v a, I ((if l ∈ tb.map (·.1) then (tb.lookup l).getD 0 else 0) + c) v → (a, v) = (x.2.1, v) → s'.heap.DictOfH (tk prog w) D (storedH zs (keyOf l) x.2.1 v) →
          Flow.next = Flow.next ∧ ∃ m'', KB [D] s5 s' ∧ s'.heap.Ns L m'' ∧ KB [L] s₁ s' ∧ m'' (Str.ofString "new_callers") = some (.ref D) ∧ ∃ epD zs', RD s'.heap D (zs'.map (entryOfKey (tk prog w))) epD ∧ (zs'.map (·.1)).Nodup ∧ (∀ y ∈ zs', (tk prog w).is s₀.heap y.1 y.2.1) ∧ (0 + 1 = 0 → zs' = zs) ∧ (0 + 1 = 1 → Rows (bump tb l c) zs') := by
        intro s' kbD v a hv _ hd'
        obtain ⟨ep', rd'⟩ := dictOfH_rd hd'
        obtain ⟨_, _, _, _, _, _, _, _, hnd''⟩ := id hd'
        refine ⟨rfl, _, KB.trans (KB.of k6) kbD, hn6.at fun o e => kbD.get e hLD, KB.from kb6 kbD (fun b hb _ => by rw [List.mem_singleton.mp hb]; exact hD0), upd2_ne h1', ep', _, rd', hnd'', ?_, fun e => absurd e (by decide), fun _ => ?_⟩
        · intro y hy
          unfold storedH at hy
          split at hy
          · obtain ⟨z, hz, e⟩ := List.mem_map.mp hy
            obtain ⟨e1, e2⟩ := putAt_key e.symm
            rw [e1, e2]; exact hik' z hz
          · rcases List.mem_append.mp hy with hy | hy
            · exact hik' y hy
            · rw [List.mem_singleton.mp hy, ← hpk]; exact hiky x hxm
        · have hiff := atKey_rows ht.2.1 l
          unfold storedH bump
          by_cases hm : l ∈ tb.map (·.1)
          · rw [hiff]
            simp only [hm, decide_true, if_true] at hv ⊢
            obtain ⟨q, hq, e⟩ := List.mem_map.mp hm
            refine rows_put hv ht.2.1 fun q' hq' e' => ?_
            have hnd := nodup_rows ht.2.1 hndx
            rw [lookup_nodup hnd (y := q'.2) (by rw [← e']; exact hq')]
            rfl
          · rw [hiff]
            simp only [hm, decide_false, Bool.false_eq_true, if_false, Int.zero_add] at hv ⊢
            exact rows_snoc ht.2.1 ⟨rfl, hv⟩
      by_cases hm : l ∈ tb.map (·.1)
      · rw [if_pos (by simpa using hm)]
        refine ex_if (b := false) (EvT.bool (Em.callB (Ev.bn (g5.k k6) rfl rfl rfl) (Ea.two (P := fun v => v = x.2.2) (P' := fun v => v = .type "tuple") (Ev.local hn6 upd2_b rfl) (Ev.bn (g5.k k6) rfl rfl rfl)) fun vs' s7 k7 p => ?_)) fun s7 k7 => ?_
        · obtain ⟨v, v', rfl, rfl, rfl⟩ := p
          rw [hxv]
          exact Em.of fun s8 Q E k8 hQ => IsiPair.int_tuple (hQ _ _ Mine.K.tok rfl)
        · rw [if_neg (by decide)]
          obtain ⟨⟨l', old⟩, hq, e⟩ := List.mem_map.mp hm
          dsimp only at e; subst e
          obtain ⟨p, hp, told, hold⟩ := atKey_val ht.2.1 (nodup_rows ht.2.1 hndx) hq
          have hn7 := hn6.keeps (Mine.K.ext k7)
          refine ex_cons (wpAny_AugAssign_Subscript ?_)
          refine (Ev.local (P := R D) hn7 (upd2_ne h1') rfl).use Mine.K.rfl fun y8 s8 k8 e8 => ?_
          refine (Ev.local (P := R x.2.1) hn7 upd2_a rfl).use k8 fun y9 s9 k9 e9 => ?_
          cases e8; cases e9
          have k69 := Mine.K.trans k7 (Mine.K.trans k8 k9)
          refine wpAny_getItem_heap (tk_room hA1) (is_ext hkx (Mine.K.ext (Mine.K.trans k6 k69))) (dictOfH_ext hd6 (Mine.K.ext k69)) hp ?_
          rw [hold]
          have hn9 := hn7.keeps (Mine.K.ext (Mine.K.trans k8 (Mine.K.trans k9 (Mine.K.tok (t := s9.toks + (tk prog w).draws (keyOf l'))))))
          refine (Ev.local (P := fun v => v = x.2.2) hn9 upd2_b rfl).use Mine.K.rfl fun y10 s10 k10 e10 => ?_
          subst e10
          rw [hxv]
          refine wpAny_iadd_int ?_
          have k6b : Keeps s6 { s10 with toks := s10.toks + 1 } := Mine.K.trans k69 (Mine.K.trans Mine.K.tok (Mine.K.trans k10 Mine.K.tok))
          refine wpAny_setItem_heap (tk_room hA1) (is_ext hkx (Mine.K.ext (Mine.K.trans k6 k6b))) (dictOfH_ext hd6 (Mine.K.ext k6b)) (fun h' hd' hs' => ?_) (Nat.le_trans (by omega) (Nat.le_trans (by decide : 1000 ≤ 1000000) sizeLine_ge))
          refine wpAny_execs_nil (wpAny_execs_nil (wpAny_execs_nil ?_))
          have hlk : (tb.lookup l').getD 0 = old := by
            rw [lookup_nodup (nodup_rows ht.2.1 hndx) hq]; rfl
          exact fin _ (KB.trans (KB.of k6b) (KB.same hs' (by simp))) _ x.2.1 (by rw [if_pos hm, hlk]; exact ⟨_, rfl⟩) rfl hd'
      · rw [if_neg (by simpa using hm)]
        refine ex_setH (a := x.2.1) (v := x.2.2) (k := keyOf l) hA1 (Ev.local hn6 upd2_b rfl) (Ev.local hn6 (upd2_ne h1') rfl) (Ev.local hn6 upd2_a rfl) hd6 (is_ext hkx (Mine.K.ext k6)) (by omega) fun s7 kb7 hd7 => ?_
        refine wpAny_execs_nil (wpAny_execs_nil ?_)
        exact fin s7 kb7 _ _ (by rw [hxv]; simp only [hm, if_false, Int.zero_add]; exact ⟨_, rfl⟩) rfl hd7
    · rintro m s5 hn5 ⟨kb', h1', epD', zs, hrd', hnd', hik', hz0, hz1⟩
      have hl1 : (ys.map (entryOfKey (tk prog w))).length = 1 := by rw [List.length_map, ← paired_length hS.2.1]; rfl
      refine ex_return (P := fun r _ => R D r) (Ev.local hn5 h1' rfl) fun r s6 k6 e => ?_
      cases e
      have kb6 := KB.trans kb' (KB.of k6)
      exact ⟨kb6, D, zs, rfl, none_of kk hD0, dictOfH_mk (hrd'.ext (Mine.K.ext k6)) hnd' (fun y hy => is_ext (hik' y hy) (Mine.K.ext (toS0 _ kb6))), hz1 hl1, hDs⟩
end
end Mine

namespace Mine

/-- x is an own TupleComp of the list l -/
def Told (w : World) (h : Heap) (x l : Addr) : Prop := ∃ dx n k t, h.get? x = some (instObj 56 dx) ∧ h.get? dx = some (W.dictOf [⟨k, .str (Str.ofString "comp_select_list") t, .ref l⟩] n)
theorem Told.ext {w : World} {h h' : Heap} {x l : Addr} (a : Told w h x l) (e : Ext h h') : Told w h' x l := by
  obtain ⟨dx, n, k, t, h1, h2⟩ := a
  exact ⟨dx, n, k, t, e _ _ h1, e _ _ h2⟩

section
variable {prog : Program} {w : World} {A : Around} {E : Value → Shared → Prop} {s s₀ : Shared} {env : Env}

theorem told_new {n : Nat} (hA : AOk (n + 3) A) (g : G w s₀.heap) {l : Addr} : Em prog w A (call (.ref 56) [.ref l]) s₀ (fun r s => ∃ x, r = .ref x ∧ s₀.heap.get? x = none ∧ Told w s.heap x l) := by
  refine Em.ofCode fun s k => ?_
  have g' := g.k k
  have hb := fresh_none s.heap
  obtain ⟨h, gg, d, t, os⟩ := s
  refine make_core (C := 56) (rest := [.ref l]) (kw := []) (init := .ref 46) (makes_of g'.kin rfl) (looks_findIn g'.kin rfl) (fun self => bind_fn g'.kin self rfl) (.inl rfl) ?_
  have e1 : Ext h (h.push emptyDict) := fun x o e => Heap.get?_push_of_some _ e
  have e2 : Ext (h.push emptyDict) ((h.push emptyDict).push (instObj 56 h.objs.size)) := fun x o e => Heap.get?_push_of_some _ e
  have e12 := e1.trans e2
  have hdx : ((h.push emptyDict).push (instObj 56 h.objs.size)).get? h.objs.size = some emptyDict := e2 _ _ (Heap.get?_push_size _ rfl)
  have hx : ((h.push emptyDict).push (instObj 56 h.objs.size)).get? (h.objs.size + 1) = some (instObj 56 h.objs.size) := by
    have := Heap.get?_push_size (o := instObj 56 h.objs.size) (h.push emptyDict) rfl
    rwa [Heap.size_push] at this
  have hx0 : h.get? (h.objs.size + 1) = none := by
    cases e : h.get? (h.objs.size + 1) with
    | none => rfl
    | some o => exact absurd (Heap.lt_size e) (by simp)
  generalize hh2 : (h.push emptyDict).push (instObj 56 h.objs.size) = h2 at *
  have g2 : G w h2 := g'.ext e12
  have hA' : AOk (n + 2) (A.under (.builtin "type.__call__" ⟨[.ref 56, .ref l], []⟩)) := by
    obtain ⟨a, b, c⟩ := hA
    refine ⟨a, ?_, ?_⟩
    · rw [depth_under_make]; omega
    · rw [units_under_make]; omega
  refine codeAny_call_def (a := 46) (binds := [(Str.ofString "self", .ref (h.objs.size + 1)), (Str.ofString "comp_select_list", .ref l)]) hA'.room (g2.kin _ _ rfl) rfl g2.lim (codeRec_of g2.kin rfl) rfl (kp_binds g2.kin (fun _ => rfl)) (by decide) (locs rfl) (fun h₁ hns hk₁ => ?_) rfl rfl rfl
  have g3 : G w h₁ := g2.ext hk₁
  refine ex_cons (plainObj_wpAny_Assign_Attribute ((Ev.local (P := R l) hns rfl rfl).use Mine.K.rfl fun v s3 k3 e3 => (Ev.local (P := R (h.objs.size + 1)) (hns.keeps (Mine.K.ext k3)) rfl rfl).use Mine.K.rfl fun v' s4 k4 e4 => ?_))
  cases e3; cases e4
  have k34 := Mine.K.trans k3 k4
  have e24 : Ext h2 s4.heap := fun x o e => Mine.K.ext k34 _ _ (hk₁ _ _ e)
  have g4 : G w s4.heap := g3.k k34
  have I : InstAt s4.heap (h.objs.size + 1) (instObj 56 h.objs.size) 56 (some emptyDict) := ⟨e24 _ _ hx, rfl, rfl, e24 _ _ hdx⟩
  have sz2 : h2.objs.size = h.objs.size + 2 := by rw [← hh2, Heap.size_push, Heap.size_push]
  have F : Fr h h2.objs.size s4.heap _ := ⟨hns.keeps (Mine.K.ext k34), fun b o e => e24 _ _ (e12 _ _ e), by omega⟩
  have N : News h h2.objs.size s4.heap ([(h.objs.size + 1, instObj 56 h.objs.size)] ++ (h.objs.size, emptyDict) :: []) := by
    intro p hp
    simp only [List.cons_append, List.nil_append, List.mem_cons, List.not_mem_nil, or_false] at hp
    rcases hp with rfl | rfl
    · exact ⟨e24 _ _ hx, (fun e => by have e' : (h.objs.size + 1 : Nat) = h2.objs.size := e; omega), hx0⟩
    · exact ⟨e24 _ _ hdx, (fun e => by have e' : (h.objs.size : Nat) = h2.objs.size := e; omega), hb⟩
  refine set_plain g4.kin I rfl ?_
  refine osa_dict (od' := W.dictOf [⟨PyData.keyHash w.params (Str.ofString "comp_select_list"), .str (Str.ofString "comp_select_list") (s4.toks + 1), .ref l⟩] 1) (s := { s4 with toks := s4.toks + 1 }) F N g4.kin I rfl rfl rfl rfl rfl ?_ (fun p hp => nomatch hp) rfl rfl (by show 1 ≤ 1000; decide) fun h' F' N' => ?_
  · intro p hp
    rw [List.mem_singleton.mp hp]
    exact Nat.succ_ne_self _
  refine wpAny_execs_nil ?_
  refine ⟨rfl, _, rfl, ?_, h.objs.size + 1, rfl, none_of k hx0, ?_⟩
  · obtain ⟨h5, t5, e, _⟩ := k34
    subst e
    exact ⟨h', _, rfl, F'.keep⟩
  · exact ⟨h.objs.size, 1, _, _, (N' _ (List.mem_cons_self ..)).1, (N' _ (List.mem_cons_of_mem _ (List.mem_cons_self ..))).1⟩

/-- the sign of the order -/
def cmpOf (p q : Pt) : Int := if p.1 < q.1 then -1 else if q.1 < p.1 then 1 else if p.2 < q.2 then -1 else if q.2 < p.2 then 1 else 0

theorem as_tuple2 {a b : Str} {pa pb tp : Pos} {kk : Nat} {T : Addr} {x y : Value} {m : Str → Option Value} {Q : Unit → Shared → Prop} (hh : A.handled = none) (ht : IsTup s.heap T [x, y].toArray) (hn : s.heap.Ns env.locals m)
    (h : ∀ s', KB [env.locals] s s' → s'.heap.Ns env.locals (fun z => if z = b then some y else if z = a then some x else m z) → Q () s')
    (ha : env.kindOf a = some .local := by rfl) (hb : env.kindOf b = some .local := by rfl) (hk : env.scope.kind = .function := by rfl) :
    wpAny (model prog w) A (assign (.Tuple [.Name a pa, .Name b pb] kk tp) env (.ref T)) Q E s := by
  have hLH : env.locals < s.heap.objs.size := hn.lt
  have hT : s.heap.IsTuple T #[x, y] := ht
  refine wpAny_assign_Tuple hh hT rfl rfl fun h₃ hx₃ => ?_
  replace hx₃ : Heap.ExtBut s.heap.objs.size s.heap h₃ := hx₃
  have e3 : Ext s.heap h₃ := fun b o e => hx₃ b o (Nat.ne_of_lt (Heap.lt_size e)) e
  have hp : (env.scope.kind == .class || (env.scope.kind == .module && env.locals != env.globals)) = false := by rw [hk]; rfl
  show wpAny _ _ (do holding [y] (assign (.Name a pa) env x); do holding [] (assign (.Name b pb) env y); pure ()) _ _ _
  refine wpAny_bind (wpAny_holding (as_local (hn.keeps e3) (fun s4 kb4 hn4 => ?_) ha hk))
  refine wpAny_bind (wpAny_holding (as_local hn4 (fun s5 kb5 hn5 => wpAny_pure ?_) hb hk))
  exact h s5 (KB.trans (KB.of (Mine.K.mkh e3)) (KB.trans kb4 kb5)) hn5

/-- over a list that the turn does not change -/
theorem for_list {target iter : Expr} {body rest : List Stmt} {pos : Pos} {Q : Flow → Shared → Prop} {items : List Value} (W : List Addr) (hh : A.handled = none)
    (hit : Em prog w A (eval iter env) s (fun v s => ∃ l, v = .ref l ∧ s.heap.IsList l items.toArray ∧ l ∉ W)) 
    (hW : ∀ b ∈ W, ∃ o, s.heap.get? b = some o)
    (Inv : Nat → Shared → Prop) (h0 : ∀ s', Keeps s s' → Inv 0 s') (hst : ∀ i s₁ s' J, s.heap.get? J = none → (∃ o, s₁.heap.get? J = some o ∧ o.cls = .type "list_iterator") → Inv i s₁ → KB [J] s₁ s' → Inv i s')
    (turn : ∀ i v s, items[i]? = some v → Inv i s → ∀ E', wpAny (model prog w) A (assign target env v) (fun _ s' => wpAny (model prog w) A (execs body env)
      (fun f s'' => KB W s s'' ∧ (match f with | .next => Inv (i + 1) s'' | .ret v => Q (.ret v) s'' | _ => False)) E' s') E' s)
    (done : ∀ s', Inv items.length s' → wpAny (model prog w) A (execs rest env) Q E s')
    (hlet : (∀ it v, letOwnedTupleGo target it v = pure ()) ∨ ((∃ elts k tp, target = .Tuple elts k tp) ∧ ∀ v ∈ items, ∃ a, v = .ref a))
    (hs : ∀ x, foldedSetIterable iter env x = pure x := by intro _; rfl) :
    wpAny (model prog w) A (execs (.For target iter body [] pos :: rest) env) Q E s := by
  refine ex_for (fun E' => ?_) hs
  refine hit.use Mine.K.rfl fun x s₁ k₁ hr => ?_
  obtain ⟨l, rfl, hl, hlW⟩ := hr
  refine wpAny_pyIter_list hl fun X => ?_
  have kI : Ext s₁.heap (s₁.heap.push { cls := .type "list_iterator", data := .fields #[.ref l, .int 0 0] }) := fun x o e => Heap.get?_push_of_some _ e
  have hJ : s.heap.get? s₁.heap.objs.size = none := none_of k₁ (fresh_none _)
  have hlJ : l ≠ s₁.heap.objs.size := by
    obtain ⟨o, ho, _⟩ := id hl
    exact Nat.ne_of_lt (Heap.lt_size ho)
  refine for_walk (Walks.list (prog := prog) (w := w) hh s₁.heap.objs.size l hlJ items.toArray) W (fun b hb hm => ?_) Inv (h0 _ (Mine.K.trans k₁ (Mine.K.mkh kI))) ?_ (fun i s₂ s' hS hI kb => hst i s₂ s' _ hJ (by obtain ⟨⟨o, ho, hc, _⟩, _⟩ := hS; exact ⟨o, ho, hc⟩) hI kb) (fun i v s₂ hv hSt Q' E'' hq => ?_) ?_ (fun s' hI => done s' (by simpa using hI))
  · simp only [List.mem_cons, List.not_mem_nil, or_false] at hm
    rcases hm with rfl | rfl
    · obtain ⟨o, e⟩ := hW _ hb
      rw [hJ] at e; cases e
    · exact hlW hb
  · exact ⟨⟨_, Heap.get?_push_size _ rfl, rfl, rfl⟩, ext_list hl kI⟩
  · rcases hlet with h | ⟨⟨elts, k, tp, rfl⟩, hr⟩
    · rw [h]; exact wpAny_pure hq
    · have hv' : items[i]? = some v := by simpa using hv
      obtain ⟨a, rfl⟩ := hr v (List.mem_of_getElem? hv')
      exact wpAny_letOwnedTupleGo_listiter hSt.1 hq
  · rintro i v s₂ hi hv hI E''
    refine wpAny_mono (turn i v s₂ (by simpa using hv) hI E'') (fun _ s' h' => wpAny_mono h' (fun f s'' h'' => ⟨h''.1, ?_⟩) fun _ _ e => e) fun _ _ e => e
    have h2 := h''.2
    cases f <;> exact h2

theorem compare_spec {n : Nat} (hA : AOk (n + 2) A) (g : G w s₀.heap) {x l c0 c1 : Addr} {v u : Value} {p q : Pt} {t0 t1 t2 t3 : Tok} (hx : Told w s₀.heap x l) (hl : s₀.heap.PlainList l [.ref c0, .ref c1].toArray)
    (h0 : IsTup s₀.heap c0 [.int 0 t0, .int 1 t1].toArray) (h1 : IsTup s₀.heap c1 [.int 1 t2, .int 1 t3].toArray) (hv : IsPt s₀.heap v p) (hu : IsPt s₀.heap u q) :
    Em prog w A (call (.ref 53) [.ref x, v, u]) s₀ (fun r _ => I (cmpOf p q) r) := by
  refine Em.defn (n := n + 1) hA g (f := 53) (binds := [(Str.ofString "self", .ref x), (Str.ofString "left", v), (Str.ofString "right", u)]) rfl rfl rfl (fun _ => rfl) (by decide) (locs rfl) ?_
  intro s s₁ L E k0 k1 g1 hA1 hn hL
  have kk := Mine.K.trans k0 k1
  have hx1 := hx.ext (Mine.K.ext kk)
  have hL1 : ∀ b ∈ [L], s.heap.get? b = none := fun b hb => by rw [List.mem_singleton.mp hb]; exact hL
  have hlL : l ≠ L := by
    rintro rfl
    obtain ⟨m, hm⟩ := ext_plain hl (Mine.K.ext k0)
    rw [hL] at hm; cases hm
  have toS : ∀ s', KB [L] s₁ s' → Keeps s₀ s' := fun s' kb => Mine.K.trans k0 (KB.keeps k1 kb hL1)
  obtain ⟨oL, esL, epL, hoL, _⟩ := id hn
  refine for_list (items := [.ref c0, .ref c1]) [L] hA1.hh (Em.of fun s2 Q E k2 hQ => ?it) ?hW (fun i s' => KB [L] s₁ s' ∧ ∃ m, s'.heap.Ns L m ∧ m (Str.ofString "left") = some v ∧ m (Str.ofString "right") = some u ∧ (1 ≤ i → p.1 = q.1) ∧ (2 ≤ i → p.2 = q.2)) ?h0 ?hst ?turn ?done (.inr ⟨⟨_, _, _, rfl⟩, ?hr⟩)
  case it =>
    refine Attribute_name ((Ev.local (P := R x) (hn.keeps (Mine.K.ext k2)) rfl rfl).use Mine.K.rfl fun v3 s3 k3 e3 => ?_)
    cases e3
    have k13 := Mine.K.trans k2 k3
    obtain ⟨dx, nn, kh, tt, hx3, hd3⟩ := hx1.ext (Mine.K.ext k13)
    refine get_value (g1.k k13).kin ⟨hx3, rfl, rfl, hd3⟩ rfl (findObj_own rfl rfl rfl rfl) rfl (hQ _ _ (Mine.K.trans k3 Mine.K.tok) ⟨l, rfl, ?_, by simpa using hlL⟩)
    exact (ext_plain hl (Mine.K.ext (Mine.K.trans kk k13))).isList
  case hW => intro b hb; rw [List.mem_singleton.mp hb]; exact ⟨_, hoL⟩
  case h0 =>
    intro s' k'
    exact ⟨KB.of k', _, hn.keeps (Mine.K.ext k'), rfl, rfl, fun h => absurd h (by decide), fun h => absurd h (by decide)⟩
  case hst =>
    rintro i s4 s5 J hJ - ⟨kb, m, hm, ha, hb, hc⟩ kb5
    have hLJ : L ∉ [J] := fun h => by rw [← List.mem_singleton.mp h] at hJ; rw [hJ] at hoL; cases hoL
    exact ⟨KB.from kb kb5 (fun b hb _ => by rw [List.mem_singleton.mp hb]; exact hJ), m, hm.at fun o e => kb5.get e hLJ, ha, hb, hc⟩
  case hr => intro y hy; simp only [List.mem_cons, List.not_mem_nil, or_false] at hy; rcases hy with rfl | rfl <;> exact ⟨_, rfl⟩
  case done =>
    rintro s4 ⟨kb, m, hm, ha, hb, h1', h2'⟩
    refine ex_return (P := fun r _ => I (cmpOf p q) r) (Em.mono Ev.int fun r s _ ⟨t, e⟩ => ⟨t, ?_⟩) fun r s5 k5 e => ⟨KB.trans kb (KB.of k5), e⟩
    rw [e]
    have e1 : p.1 = q.1 := h1' (Nat.le_succ 1)
    have e2 : p.2 = q.2 := h2' (Nat.le_refl 2)
    simp [cmpOf, e1, e2]
  case turn =>
    rintro i v' s4 hi ⟨kb, m, hm, hleft, hright, h1', h2'⟩ E'
    obtain ⟨j, a, b, c, tj, t1', rfl, hc, hj0, hj2, hia, hib, hlt, hgt, hnx⟩ : ∃ (j a b : Int) (c : Addr) (tj t1 : Tok), v' = .ref c ∧ IsTup s₀.heap c [.int j tj, .int 1 t1].toArray ∧ 0 ≤ j ∧ j < 2 ∧
        (∀ h x, IsPt h x p → ∃ t items y, x = .ref t ∧ IsTup h t (List.toArray items) ∧ items[j.toNat]? = some y ∧ I a y) ∧
        (∀ h x, IsPt h x q → ∃ t items y, x = .ref t ∧ IsTup h t (List.toArray items) ∧ items[j.toNat]? = some y ∧ I b y) ∧
        (a < b → cmpOf p q = -1) ∧ (b < a → cmpOf p q = 1) ∧ (a = b → (1 ≤ i + 1 → p.1 = q.1) ∧ (2 ≤ i + 1 → p.2 = q.2)) := by
      rcases i with _ | _ | i
      · simp at hi
        refine ⟨0, p.1, q.1, c0, t0, t1, hi.symm, h0, by decide, by decide, fun h x => tup_item0, fun h x => tup_item0, fun h => by simp [cmpOf, h], fun h => ?_, fun h => ⟨fun _ => h, fun h' => absurd h' (by decide)⟩⟩
        have : ¬ p.1 < q.1 := by omega
        simp [cmpOf, this, h]
      · simp at hi
        have e1 := h1' (Nat.le_refl 1)
        refine ⟨1, p.2, q.2, c1, t2, t3, hi.symm, h1, by decide, by decide, fun h x => tup_item1, fun h x => tup_item1, fun h => by simp [cmpOf, e1, h], fun h => ?_, fun h => ⟨fun _ => e1, fun _ => h⟩⟩
        have : ¬ p.2 < q.2 := by omega
        simp [cmpOf, e1, this, h]
      · simp at hi
    have k04 := toS _ kb
    refine as_tuple2 hA1.hh (hc.keeps (Mine.K.ext k04)) hm fun s5 kb5 hm5 => ?_
    obtain ⟨m5, hm5, l5, r5, i5, d5⟩ : ∃ m5, s5.heap.Ns L m5 ∧ m5 (Str.ofString "left") = some v ∧ m5 (Str.ofString "right") = some u ∧ m5 (Str.ofString "index") = some (.int j tj) ∧ m5 (Str.ofString "direction") = some (.int 1 t1') := ⟨_, hm5, upd2_ne hleft, upd2_ne hright, upd2_a, upd2_b⟩
    have kb15 := KB.trans kb kb5
    have k05 := toS _ kb15
    have hv5 := hv.ext (Mine.K.ext k05)
    have hu5 := hu.ext (Mine.K.ext k05)
    refine ex_assign hm5 (P := fun v _ => I a v) (Ev.sub_tup (P₁ := fun y => y = v) (k := j) (Ev.local hm5 l5 rfl) (Ev.local hm5 i5 ⟨_, rfl⟩) (fun y e => by subst e; exact hia _ _ hv5) hj0 (by omega)) ?_
    rintro va s6 s7 k6 ⟨ta, rfl⟩ kb7 hm7
    obtain ⟨m7, hm7, l7, r7, i7, d7, a7⟩ : ∃ m5, s7.heap.Ns L m5 ∧ m5 (Str.ofString "left") = some v ∧ m5 (Str.ofString "right") = some u ∧ m5 (Str.ofString "index") = some (.int j tj) ∧ m5 (Str.ofString "direction") = some (.int 1 t1') ∧ m5 (Str.ofString "l") = some (.int a ta) := ⟨_, hm7, upd_ne l5, upd_ne r5, upd_ne i5, upd_ne d5, upd_eq⟩
    have kb17 := KB.trans kb15 (KB.trans (KB.of k6) kb7)
    have hu7 := hu.ext (Mine.K.ext (toS _ kb17))
    refine ex_assign hm7 (P := fun v _ => I b v) (Ev.sub_tup (P₁ := fun y => y = u) (k := j) (Ev.local hm7 r7 rfl) (Ev.local hm7 i7 ⟨_, rfl⟩) (fun y e => by subst e; exact hib _ _ hu7) hj0 (by omega)) ?_
    rintro vb s8 s9 k8 ⟨tb, rfl⟩ kb9 hm9
    obtain ⟨m9, hm9, l9, r9, d9, a9, b9⟩ : ∃ m5, s9.heap.Ns L m5 ∧ m5 (Str.ofString "left") = some v ∧ m5 (Str.ofString "right") = some u ∧ m5 (Str.ofString "direction") = some (.int 1 t1') ∧ m5 (Str.ofString "l") = some (.int a ta) ∧ m5 (Str.ofString "r") = some (.int b tb) := ⟨_, hm9, upd_ne l7, upd_ne r7, upd_ne d7, upd_ne a7, upd_eq⟩
    have kb59 : KB [L] s4 s9 := KB.trans kb5 (KB.trans (KB.of k6) (KB.trans kb7 (KB.trans (KB.of k8) kb9)))
    refine ex_if (EvT.cmp (Cm.lt (Ev.local hm9 a9 ⟨_, rfl⟩) (Ev.local hm9 b9 ⟨_, rfl⟩))) fun s10 k10 => ?_
    have hm10 := hm9.keeps (Mine.K.ext k10)
    by_cases hab : a < b
    · rw [if_pos (by simpa using hab)]
      refine ex_return (P := fun r _ => I (cmpOf p q) r) (Em.of fun s11 Q E k11 hQ => wpAny_UnaryOp ((Ev.local (P := fun y => y = .int 1 t1') (hm10.keeps (Mine.K.ext k11)) d9 rfl).use Mine.K.rfl fun y s12 k12 e => ?_)) fun r s11 k11 e => ⟨KB.trans kb59 (KB.of (Mine.K.trans k10 k11)), KB.trans kb (KB.trans kb59 (KB.of (Mine.K.trans k10 k11))), e⟩
      subst e
      refine neg_int (hQ _ _ (Mine.K.trans k12 Mine.K.tok) ?_)
      rw [hlt hab]; exact ⟨_, rfl⟩
    · rw [if_neg (by simpa using hab)]
      refine wpAny_execs_nil ?_
      refine ex_if (EvT.cmp (Cm.gt (Ev.local hm10 a9 ⟨_, rfl⟩) (Ev.local hm10 b9 ⟨_, rfl⟩))) fun s11 k11 => ?_
      have hm11 := hm10.keeps (Mine.K.ext k11)
      by_cases hba : b < a
      · rw [if_pos (by simpa using hba)]
        refine ex_return (P := fun r _ => I (cmpOf p q) r) (Ev.local hm11 d9 ⟨t1', by rw [hgt hba]⟩) fun r s12 k12 e => ⟨KB.trans kb59 (KB.of (Mine.K.trans k10 (Mine.K.trans k11 k12))), KB.trans kb (KB.trans kb59 (KB.of (Mine.K.trans k10 (Mine.K.trans k11 k12)))), e⟩
      · rw [if_neg (by simpa using hba)]
        have eab : a = b := by omega
        exact wpAny_execs_nil (wpAny_execs_nil ⟨KB.trans kb59 (KB.of (Mine.K.trans k10 k11)), KB.trans kb (KB.trans kb59 (KB.of (Mine.K.trans k10 k11))), _, hm11, l9, r9, (hnx eab).1, (hnx eab).2⟩)
end
end Mine

namespace Mine

def putOne (k : Nat) (y : Value) (vs : List Value) : List Value := vs.take k ++ y :: vs.drop (k + 1)

section
variable {prog : Program} {w : World} {A : Around} {E : Value → Shared → Prop} {s s₀ : Shared} {env : Env}

theorem set_slice {l sl r : Addr} {vs new : List Value} {vl vu : Value} {lo hi : Option Int} {a b : Nat} {Q : Unit → Shared → Prop} (hl : s.heap.PlainList l vs.toArray) (hr : s.heap.PlainList r new.toArray) (hlr : l ≠ r)
    (hs : s.heap.IsSliceOf sl vl vu .none) (pl : IsPart vl lo) (pu : IsPart vu hi) (hb : sliceBounds lo hi none vs.length = ((a : Int), (b : Int), 1)) (hab : a ≤ b)
    (hsz : vs.length + new.length ≤ 1000)
    (h : ∀ h', Heap.SameBut l s.heap h' → h'.PlainList l (vs.take a ++ new ++ vs.drop b).toArray → Q () { s with heap := h' }) :
    wpAny (model prog w) A (setItem (.ref l) (.ref sl) (.ref r)) Q E s := by
  obtain ⟨nl, hl'⟩ := id hl
  obtain ⟨nr, hr'⟩ := id hr
  obtain ⟨os, hos, hcs, hds⟩ := id hs
  have hTs : s.TypeIs (.ref sl) "slice" := ⟨os, hos, hcs⟩
  have hTl : s.TypeIs (.ref l) "list" := ⟨_, hl', rfl⟩
  have hTr : s.TypeIs (.ref r) "list" := ⟨_, hr', rfl⟩
  unfold setItem
  try with_reducible refine wpAny_holding ?_
  refine wpAny_bind (wpAny_sequenceKey hTl (by decide) ?_)
  refine wpAny_bind (wpAny_callSpecial?_slot (name := Str.ofString "__setitem__") hTl PySem.F.slot_list_setitem
    (wpAny_call_entry PySem.F.slot_list_setitem hTl PySem.F.entry_list_setitem ?_ (PySem.F.args_list_setitem_3 _ _ _)))
  show wpAny _ _ (Builtin.List.listSubscript? (.ref sl) >>= _) _ _ s
  refine wpAny_bind ?_
  unfold Builtin.List.listSubscript?
  refine wpAny_bind (wpAny_specialOf hTs slice_no_index ?_)
  simp only [Option.isNone_none, if_true]
  refine wpAny_pure ?_
  show wpAny _ _ (typeOf (.ref sl) >>= _) _ _ s
  refine wpAny_bind (wpAny_typeOf hTs ?_)
  rw [if_neg (by decide)]
  rw [listSliceParts_eq]
  refine wpAny_bind (wpAny_bind (wpAny_field hos hds (x := .none) rfl (wpAny_bind (wpAny_listPart .none ?_))))
  rw [if_neg (show ¬ (rawPart none == rawInt 0) = true from Bool.false_ne_true)]
  refine wpAny_bind (wpAny_field hos hds (x := vl) rfl (wpAny_bind (wpAny_listPart pl ?_)))
  refine wpAny_bind (wpAny_field hos hds (x := vu) rfl (wpAny_bind (wpAny_listPart pu (wpAny_pure ?_))))
  rw [if_neg (show ¬ (Builtin.List.listSameRef (.ref l) (.ref r) = true) from fun e => hlr (beq_iff_eq.mp e))]
  refine wpAny_bind ?_
  unfold Builtin.List.listAllItems
  refine wpAny_bind (wpAny_typeOf hTr ?_)
  rw [if_pos (by decide)]
  refine listItems_at hr' rfl ?_
  refine wpAny_bind (listItems_at hl' rfl ?_)
  refine wpAny_bind (wpAny_of_eq (sliceIndices_raw lo hi none vs.toArray.size (by simp)) ?_)
  rw [List.size_toArray, hb]
  show wpAny _ _ (if ((1 : Int) == 1) = true then _ else _) _ _ s
  rw [if_pos (by decide)]
  refine wpAny_bind (wpAny_rule ?_)
  rw [List.size_toArray, if_neg (by
    simp only [Builtin.List.listTooLong, decide_eq_true_eq]
    exact Nat.not_lt.mpr (Nat.le_trans hsz (Nat.le_trans (by decide) sizeLine_ge)))]
  refine wpAny_bind (listUpdate_at hl' rfl ?_ ?_ ?_)
  · refine wpAny_bind (wpAny_letGo (wpAny_pure ⟨.none, rfl, wpAny_pure ?_⟩))
    refine h _ (Heap.SameBut.update ..) ?_
    have q := PySem.IsL.update hl' (fun xs => xs.extract 0 (a : Int).toNat ++ new.toArray ++ xs.extract (max (a : Int) (b : Int)).toNat xs.size)
    have e : (fun xs : Array Value => xs.extract 0 (a : Int).toNat ++ new.toArray ++ xs.extract (max (a : Int) (b : Int)).toNat xs.size) vs.toArray = (vs.take a ++ new ++ vs.drop b).toArray := by
      have hm : (max (a : Int) (b : Int)).toNat = b := by omega
      simp only [hm, Int.toNat_natCast]
      apply Array.toList_inj.mp
      simp [List.take_of_length_le]
    rw [← e]
    exact ⟨_, q⟩
  · rw [List.size_toArray]; exact Nat.le_trans (by omega) (Nat.le_trans (by decide : 1000 ≤ 1000000) sizeLine_ge)
  · simp only [Array.size_append, Array.size_extract, List.size_toArray]
    have := sizeLine_ge
    omega
end
end Mine

namespace Mine

section
variable {prog : Program} {w : World} {A : Around} {E : Value → Shared → Prop} {s s₀ : Shared} {env : Env}

/-- the sort of what is in order already -/
theorem asc_id {cmp : Nat → Nat → (Bool → Shared → Prop) → Shared → Prop} {n : Nat} (hc : ∀ i j C, j < i → i < n → C false s → cmp i j C s) {Q : Nat → Shared → Prop} : ∀ (f k : Nat), 1 ≤ k → k + f ≤ n → Q (k + f) s →
    (kas_asc (List.toArray (List.range n)) f k).kasWp cmp Q s
  | 0, k, _, _, h => h
  | f + 1, k, hk, hn, h => by
    have e1 : (List.toArray (List.range n)).getD k 0 = k := by simp [Array.getD]; omega
    have e2 : (List.toArray (List.range n)).getD (k - 1) 0 = k - 1 := by simp [Array.getD]; omega
    show cmp ((List.toArray (List.range n)).getD k 0) ((List.toArray (List.range n)).getD (k - 1) 0) _ s
    rw [e1, e2]
    refine hc _ _ _ (by omega) (by omega) ?_
    show (if false = true then KasT.ret k else kas_asc (List.range n).toArray f (k + 1)).kasWp cmp Q s
    rw [if_neg (by decide)]
    exact asc_id hc f (k + 1) (by omega) (by omega) (by rwa [show k + 1 + f = k + (f + 1) by omega])

theorem sort_id {cmp : Nat → Nat → (Bool → Shared → Prop) → Shared → Prop} {n : Nat} (h1 : 1 ≤ n) (hc : ∀ i j C, j < i → i < n → C false s → cmp i j C s) {Q : Array Nat → Shared → Prop} (h : Q (List.toArray (List.range n)) s) :
    (kas_sort n).kasWp cmp Q s := by
  unfold kas_sort kas_count
  rw [KasT.kasWp_bind, KasT.kasWp_bind]
  refine asc_id hc (n - 1) 1 (Nat.le_refl _) (by omega) ?_
  have e : (1 + (n - 1) == n) = true := by
    have : 1 + (n - 1) = n := by omega
    rw [this]; simp
  rw [if_pos e]
  show ((if 1 + (n - 1) < n then _ else _ : KasT (Array Nat))).kasWp cmp Q s
  rw [if_neg (by omega)]
  exact h

theorem pt_key_lt {v u : Value} {p q : Pt} {C : Bool → Shared → Prop} (hv : IsPt s.heap v p) (hu : IsPt s.heap u q) (h : C (tlt p q) s) : wpAny (model prog w) A (keyLt' (tuples' true) v u) C E s := by
  obtain ⟨a, t, t', rfl, o, ho, hc, n, hd⟩ := hv
  obtain ⟨b, r, r', rfl, o', ho', hc', n', hd'⟩ := hu
  refine kat_lt ho hd ho' hd' ?_
  show KatLex prog w A true (decide (2 < 2)) C [(Value.int p.1 t, Value.int q.1 r), (Value.int p.2 t', Value.int q.2 r')] 0 s
  refine kat_cons (wpAny_eqBool_int ?_)
  by_cases e : p.1 = q.1
  · rw [show (p.1 == q.1) = true by simpa using e]
    refine kat_yes (kat_cons (wpAny_eqBool_int ?_))
    by_cases e2 : p.2 = q.2
    · rw [show (p.2 == q.2) = true by simpa using e2]
      refine kat_yes (kat_nil ?_)
      have : tlt p q = false := by simp [tlt, e, e2]
      rw [this] at h
      exact h
    · rw [show (p.2 == q.2) = false by simpa using e2]
      refine kat_no (kat_one _ _ (lt_int ?_))
      have : tlt p q = decide (p.2 < q.2) := by simp [tlt, e]
      rw [this] at h
      exact h
  · rw [show (p.1 == q.1) = false by simpa using e]
    refine kat_no (oneLt_int ?_)
    have : tlt p q = decide (p.1 < q.1) := by simp [tlt, e]
    rw [this] at h
    exact h

theorem pts_tups {h : Heap} : ∀ {vs : List Value} {ps : List Pt}, Pts h vs ps → ∃ fs, KatTups h vs fs ∧ fs.length = vs.length ∧ ∀ f ∈ fs, ∃ i t, f = Value.int i t
  | [], [], _ => ⟨[], .nil, rfl, by simp⟩
  | [], _ :: _, x => absurd x.1 (by simp)
  | _ :: _, [], x => absurd x.1 (by simp)
  | v :: vs, p :: ps, x => by
    obtain ⟨fs, a, b, c⟩ := pts_tups (vs := vs) (ps := ps) ⟨by simpa using x.1, fun i v p e1 e2 => x.2 (i + 1) v p e1 e2⟩
    obtain ⟨a', t, t', rfl, o, ho, hc, n, hd⟩ := x.2 0 v p rfl rfl
    refine ⟨Value.int p.1 t :: fs, .cons ho hc hd rfl a, by simp [b], fun f hf => ?_⟩
    rcases List.mem_cons.mp hf with rfl | hf
    · exact ⟨_, _, rfl⟩
    · exact c f hf

theorem map_range_getD (vs : List Value) : (List.toArray (List.range vs.length)).toList.map (fun i => vs.getD i Value.none) = vs := by
  apply List.ext_getElem?
  intro i
  rcases Nat.lt_or_ge i vs.length with h | h
  · simp [List.getElem?_map, List.getElem?_range h, List.getD_eq_getElem?_getD, List.getElem?_eq_getElem h]
  · rw [List.getElem?_eq_none (by simpa using h), List.getElem?_eq_none h]

theorem sort_tree {a : Addr} {vs : List Value} {ps : List Pt} {n : Nat} {P : PySem.Fin → Shared → Prop} (ho : s.heap.get? a = some (seqObj "list" vs.toArray n)) (hp : Pts s.heap vs ps) (h64 : vs.length < 64)
    (hasc : ∀ i j, j < i → i < ps.length → tlt (ps.getD i (0, 0)) (ps.getD j (0, 0)) = false)
    (h : P (.done (.ret .none)) { s with heap := sortedHeap s.heap a vs vs.toArray }) :
    wpAny (model prog w) A (Builtin.«list.sort» ⟨[.ref a], []⟩) P E s := by
  rw [list_sort_plain]
  have ha : a < s.heap.objs.size := Heap.lt_size ho
  obtain ⟨e1, ho1⟩ : ∃ e1, (s.heap.update a (Obj.mapSeq fun _ => #[])).get? a = some (seqObj "list" #[] e1) := ⟨_, get?_update_seq ho (fun _ => #[])⟩
  have hx : ∀ b o, b ≠ a → s.heap.get? b = some o → (((s.heap.update a (Obj.mapSeq fun _ => (#[] : Array Value))).push (seqObj "tuple" vs.toArray 0)).push (seqObj "list" #[] 0)).get? b = some o := fun b o hb e =>
    Heap.get?_push_of_some _ (Heap.get?_push_of_some _ ((Heap.SameBut.update s.heap a _).extBut b o hb e))
  have ho6 : (((s.heap.update a (Obj.mapSeq fun _ => (#[] : Array Value))).push (seqObj "tuple" vs.toArray 0)).push (seqObj "list" #[] 0)).get? a = some (seqObj "list" #[] e1) :=
    Heap.get?_push_of_some _ (Heap.get?_push_of_some _ ho1)
  have hp6 : Pts (((s.heap.update a (Obj.mapSeq fun _ => (#[] : Array Value))).push (seqObj "tuple" vs.toArray 0)).push (seqObj "list" #[] 0)) vs ps := by
    refine ⟨hp.1, fun i v p e1 e2 => ?_⟩
    obtain ⟨b, t, u, r, o, hob, hc, k, hd⟩ := hp.2 i v p e1 e2
    refine ⟨b, t, u, r, o, hx b o ?_ hob, hc, k, hd⟩
    rintro rfl
    rw [ho] at hob
    cases hob
    exact absurd hc (by simp [seqObj])
  refine wpAny_bind (listItems_at ho rfl ?_)
  refine wpAny_bind (listUpdate_at ho rfl ?_ (by rw [List.size_toArray, sizeLine_eq]; omega) (Nat.zero_le _))
  refine wpAny_bind (seqEpoch_at ho1 rfl ?_)
  refine wpAny_bind (wpAny_newTuple ?_ (by show vs.length ≤ _; rw [sizeLine_eq]; omega))
  refine wpAny_bind (wpAny_newList ?_ (Nat.zero_le _))
  refine wpAny_holding ?_
  show wpAny (model prog w) A _ P E { s with heap := ((s.heap.update a (Obj.mapSeq fun _ => (#[] : Array Value))).push (seqObj "tuple" vs.toArray 0)).push (seqObj "list" #[] 0) }
  dsimp only
  have fin : ∀ (out : Array Value), out = vs.toArray → ∀ A', wpAny (model prog w) A' (Builtin.List.listUpdate (.ref a) fun _ => out) (fun _ s' => wpAny (model prog w) A' (ret .none) P E s') E
      { s with heap := ((s.heap.update a (Obj.mapSeq fun _ => (#[] : Array Value))).push (seqObj "tuple" vs.toArray 0)).push (seqObj "list" #[] 0) } := by
    rintro out rfl A'
    exact listUpdate_at ho6 rfl (wpAny_pure h) (Nat.zero_le _) (by rw [List.size_toArray, sizeLine_eq]; omega)
  by_cases h2 : vs.toArray.size < 2
  · rw [if_pos h2, if_pos h2]
    refine wpAny_bind (wpAny_pure ?_)
    rw [StateT.run_pure]
    refine wpAny_bind (wpAny_pure ?_)
    dsimp only
    refine wpAny_bind (seqEpoch_at ho6 rfl ?_)
    refine wpAny_bind (wpAny_mono (fin _ ?_ _) (fun _ s' hs => ?_) fun _ _ e => e)
    · show ((vs.toArray.zip vs.toArray).map (·.2)) = vs.toArray
      apply Array.toList_inj.mp
      simp [List.map_snd_zip]
    · have hf : failedOf (SortSt.mk' general' (vs.toArray.zip vs.toArray) #[] 7 none) = none := rfl
      simp only [hf, bne_self_eq_false, Bool.false_eq_true, if_false]
      exact hs
  · rw [if_neg h2, if_neg h2]
    rw [List.size_toArray] at h2
    obtain ⟨fs, tf, lf, hf⟩ := pts_tups hp6
    refine wpAny_bind (kat_kind (T := .type "int") tf (by omega) (fun v hv => ?_) rfl ?_)
    · obtain ⟨i, t, rfl⟩ := hf v hv
      exact Looks.of_pure rfl
    refine wpAny_bind (wpAny_mono (kat_run (κ := tuples' (Value.type "int" != Value.type "tuple")) (ks := vs) (vs := vs) (Q := fun st' s' => s' = { s with heap := ((s.heap.update a (Obj.mapSeq fun _ => (#[] : Array Value))).push (seqObj "tuple" vs.toArray 0)).push (seqObj "list" #[] 0) } ∧ failedOf st' = none ∧ (arrOf st').map (·.2) = vs.toArray)
      (G := fun p s' => p = List.toArray (List.range vs.length) ∧ s' = { s with heap := ((s.heap.update a (Obj.mapSeq fun _ => (#[] : Array Value))).push (seqObj "tuple" vs.toArray 0)).push (seqObj "list" #[] 0) })
      rfl (by omega) h64 (fun p' st' s' a1 a2 a3 a4 => ?_) (sort_id (by omega) (fun i j C hji hi hC => ?_) ⟨rfl, rfl⟩)) ?_ fun _ _ e => e)
    · refine ⟨a4.2, a3, ?_⟩
      rw [kat_snds rfl a2, a4.1, map_range_getD]
    · have hps : i < ps.length := by rw [← hp.1]; exact hi
      obtain ⟨v, hv, hpv⟩ := hp6.at hps
      obtain ⟨u, hu, hpu⟩ := hp6.at (i := j) (by omega)
      show wpAny _ _ (keyLt' (tuples' true) (vs.getD i Value.none) (vs.getD j Value.none)) C _ _
      rw [List.getD_eq_getElem?_getD, List.getD_eq_getElem?_getD, hv, hu]
      refine pt_key_lt hpv hpu ?_
      rw [hasc i j hji hps]
      exact hC
    · rintro ⟨⟨⟩, st'⟩ s' ⟨rfl, hfl, hout⟩
      dsimp only
      refine wpAny_bind (seqEpoch_at ho6 rfl ?_)
      refine wpAny_bind (wpAny_mono (fin _ hout _) (fun _ s' hs => ?_) fun _ _ e => e)
      dsimp only at hfl
      rw [hfl]
      simp only [bne_self_eq_false, Bool.false_eq_true, if_false]
      exact hs

theorem Em.sorted {l : Addr} {vs : List Value} {ps : List Pt} (hl : s₀.heap.PlainList l vs.toArray) (hp : Pts s₀.heap vs ps) (h64 : vs.length < 64)
    (hasc : ∀ i j, j < i → i < ps.length → tlt (ps.getD i (0, 0)) (ps.getD j (0, 0)) = false) :
    Em prog w A (call (.builtin "sorted") [.ref l]) s₀ (fun v s => ∃ D, v = .ref D ∧ s₀.heap.get? D = none ∧ s.heap.PlainList D vs.toArray) :=
  Em.of fun s Q E k hQ => by
    have hl' := (ext_plain hl (Mine.K.ext k)).isList
    have hp' := hp.ext (Mine.K.ext k)
    refine Calls.call_function_entry kind_sorted plain_sorted entry_sorted (args_sorted1 _) ?_
    unfold Builtin.«sorted»
    refine wpAny_bind (m := checkCount "sorted" 1 1 _) (wpAny_pure ?_)
    refine wpAny_bind (collect_list hl' ?_ (by rw [sizeLine_eq]; omega))
    refine wpAny_bind (wpAny_newList ?_ (by rw [sizeLine_eq]; omega))
    have hsz : ((s.heap.push (seqObj "list" #[] 0)).update s.heap.objs.size (Obj.mapSeq (· ++ vs.toArray))).objs.size = s.heap.objs.size + 1 := by
      rw [Heap.size_update, size_push']
    have hoL : (((s.heap.push (seqObj "list" #[] 0)).update s.heap.objs.size (Obj.mapSeq (· ++ vs.toArray))).push (seqObj "list" vs.toArray 0)).get? (s.heap.objs.size + 1) = some (seqObj "list" vs.toArray 0) := by
      rw [← hsz]; exact Heap.get?_push_size _ rfl
    show wpAny _ _ _ _ _ { s with heap := ((s.heap.push (seqObj "list" #[] 0)).update s.heap.objs.size (Obj.mapSeq (· ++ vs.toArray))).push (seqObj "list" vs.toArray 0) }
    rw [hsz]
    have keep : Ext s.heap (((s.heap.push (seqObj "list" #[] 0)).update s.heap.objs.size (Obj.mapSeq (· ++ vs.toArray))).push (seqObj "list" vs.toArray 0)) := fun b o q => by
      have hlt : b < s.heap.objs.size := Heap.lt_size q
      rw [Heap.get?_push_ne _ _ _ (by rw [hsz]; exact Nat.ne_of_lt (Nat.lt_succ_of_lt hlt)), Heap.get?_update_ne _ _ _ _ (Nat.ne_of_lt hlt), Heap.get?_push_ne _ _ _ (Nat.ne_of_lt hlt)]
      exact q
    refine wpAny_bind (wpAny_holding (wpAny_call_entry slot_list_sort ⟨_, hoL, rfl⟩ entry_list_sort (sort_tree (ps := ps) hoL (hp'.ext keep) h64 hasc ⟨_, rfl, ?_⟩) (args_list_sort _)))
    refine wpAny_pure ⟨_, rfl, ?_⟩
    refine hQ (.ref (s.heap.objs.size + 1)) { s with heap := sortedAll s.heap vs vs.toArray } (Mine.K.mkh fun b o e => sortedAll_old e) ⟨_, rfl, ?_, ?_⟩
    · cases e : s₀.heap.get? (s.heap.objs.size + 1) with
      | none => rfl
      | some o => exact absurd (Heap.lt_size (Mine.K.ext k _ _ e)) (Nat.not_lt.mpr (Nat.le_succ _))
    · obtain ⟨e, he⟩ := sortedAll_at s.heap vs vs.toArray
      exact ⟨e, he⟩
end
end Mine

namespace Mine

theorem canLay_pts : ∀ ps : List Pt, PyData.canLayAll0 (ps.map ptData) = true
  | [] => rfl
  | p :: ps => by
    show (PyData.canLay0 (ptData p) && PyData.canLayAll0 (ps.map ptData)) = true
    rw [canLay_pt, canLay_pts ps]; rfl
theorem depth_pts : ∀ ps : List Pt, PyData.depthAll (ps.map ptData) ≤ 1
  | [] => Nat.zero_le _
  | p :: ps => by
    show max (PyData.depth (ptData p)) (PyData.depthAll (ps.map ptData)) ≤ 1
    rw [depth_pt]; exact Nat.max_le.mpr ⟨Nat.le_refl _, depth_pts ps⟩
theorem canLay_ints : ∀ ns : List Int, PyData.canLayAll0 (ns.map PyData.int) = true
  | [] => rfl
  | n :: ns => by
    show (true && PyData.canLayAll0 (ns.map PyData.int)) = true
    rw [canLay_ints ns]; rfl
theorem depth_ints : ∀ ns : List Int, PyData.depthAll (ns.map PyData.int) = 0
  | [] => rfl
  | n :: ns => by
    show max 0 (PyData.depthAll (ns.map PyData.int)) = 0
    rw [depth_ints ns]; rfl
theorem reads_pts {h : Heap} : ∀ {vs : List Value} {ps : List Pt}, Pts h vs ps → ∃ as, ReadsAll h vs (ps.map ptData) as
  | [], [], _ => ⟨_, .nil⟩
  | [], _ :: _, x => absurd x.1 (by simp)
  | _ :: _, [], x => absurd x.1 (by simp)
  | v :: vs, p :: ps, x => by
    obtain ⟨as, r⟩ := reads_pts (vs := vs) (ps := ps) ⟨by simpa using x.1, fun i v p e1 e2 => x.2 (i + 1) v p e1 e2⟩
    exact ⟨_, .cons (x.2 0 v p rfl rfl).reads r⟩
theorem reads_ints {h : Heap} {vs : List Value} {ns : List Int} (x : IntsAre vs ns) : ∃ as, ReadsAll h vs (ns.map PyData.int) as := by
  induction x with
  | nil => exact ⟨_, .nil⟩
  | cons i t r ih =>
    obtain ⟨as, ih⟩ := ih
    exact ⟨_, .cons (.int i t) ih⟩
theorem reads_list {h : Heap} {l : Addr} {vs : List Value} {xs : List PyData} {as : List Addr} (hl : h.PlainList l vs.toArray) (r : ReadsAll h vs xs as) : ∃ bs, Reads h (.ref l) (.list xs) bs := by
  obtain ⟨n, ho⟩ := hl
  exact ⟨_, .list ho rfl rfl r⟩
theorem eqv_pts : ∀ (ps qs : List Pt), PyData.eqvAll (ps.map ptData) (qs.map ptData) = decide (ps = qs)
  | [], [] => by simp [PyData.eqvAll]
  | [], _ :: _ => by simp [PyData.eqvAll]
  | _ :: _, [] => by simp [PyData.eqvAll]
  | p :: ps, q :: qs => by
    show (PyData.eqv (ptData p) (ptData q) && PyData.eqvAll (ps.map ptData) (qs.map ptData)) = _
    rw [eqv_pt, eqv_pts ps qs, Bool.eq_iff_iff]
    simp
theorem eqv_nil (xs : List PyData) : PyData.eqvAll xs [] = decide (xs = []) := by
  cases xs <;> simp [PyData.eqvAll]
theorem any_pts (ps : List Pt) (p : Pt) : ((ps.map ptData).any fun y => PyData.eqv y (ptData p)) = decide (p ∈ ps) := by
  rw [List.any_map, Bool.eq_iff_iff, List.any_eq_true]
  simp only [Function.comp, eqv_pt, decide_eq_true_eq]
  constructor
  · rintro ⟨x, hx, rfl⟩; exact hx
  · intro h; exact ⟨p, h, rfl⟩

section
variable {prog : Program} {w : World} {A : Around} {E : Value → Shared → Prop} {s s₀ : Shared} {env : Env}

theorem Em.notIn_pts {n : Nat} (hA : AOk n A) {l : Addr} {vs : List Value} {ps : List Pt} {v : Value} {p : Pt} (hl : s₀.heap.PlainList l vs.toArray) (hp : Pts s₀.heap vs ps) (hv : IsPt s₀.heap v p) :
    Em prog w A (compareOp .NotIn v (.ref l)) s₀ (fun r _ => r = .bool (decide (p ∉ ps))) :=
  Em.of fun s Q E k hQ => by
    obtain ⟨as, ra⟩ := reads_pts (hp.ext (Mine.K.ext k))
    obtain ⟨bs, rl⟩ := reads_list (ext_plain hl (Mine.K.ext k)) ra
    refine SeqAt.notIn_list_reads rl (hv.ext (Mine.K.ext k)).reads (canLay_pts ps) (canLay_pt p) ?_ ?_
    · have h1 : min (PyData.depthAll (ps.map ptData)) (ptData p).depth ≤ 1 := Nat.le_trans (Nat.min_le_left _ _) (depth_pts ps)
      have := hA.units
      omega
    · rw [any_pts]
      exact hQ _ _ Mine.K.rfl (by simp)
theorem Em.ne_pts {n : Nat} (hA : AOk n A) {l l' : Addr} {vs vs' : List Value} {ps qs : List Pt} (hl : s₀.heap.PlainList l vs.toArray) (hp : Pts s₀.heap vs ps) (hl' : s₀.heap.PlainList l' vs'.toArray) (hp' : Pts s₀.heap vs' qs) :
    Em prog w A (compareOp .NotEq (.ref l) (.ref l')) s₀ (fun r _ => r = .bool (decide (ps ≠ qs))) :=
  Em.of fun s Q E k hQ => by
    obtain ⟨as, ra⟩ := reads_pts (hp.ext (Mine.K.ext k))
    obtain ⟨bs, rl⟩ := reads_list (ext_plain hl (Mine.K.ext k)) ra
    obtain ⟨as', ra'⟩ := reads_pts (hp'.ext (Mine.K.ext k))
    obtain ⟨bs', rl'⟩ := reads_list (ext_plain hl' (Mine.K.ext k)) ra'
    refine SeqAt.compareNe_reads rl rl' (canLay_pts ps) (canLay_pts qs) ?_ ?_
    · have h1 : min (PyData.depth (.list (ps.map ptData))) (PyData.depth (.list (qs.map ptData))) ≤ 2 := Nat.le_trans (Nat.min_le_left _ _) (Nat.succ_le_succ (depth_pts ps))
      have := hA.units
      omega
    · show Q (.bool (!PyData.eqvAll (ps.map ptData) (qs.map ptData))) s
      rw [eqv_pts]
      exact hQ _ _ Mine.K.rfl (by simp)

theorem nil_room {n : Nat} (hA : AOk n A) (xs : List PyData) : A.units + min (PyData.depth (.list xs)) (PyData.depth (.list [])) < cLine := by
  have h1 : min (PyData.depth (.list xs)) (PyData.depth (.list [])) ≤ 1 := Nat.min_le_right _ _
  have := hA.units
  omega
theorem Em.eq_nil {n : Nat} (hA : AOk n A) {l l' : Addr} {vs : List Value} {xs : List PyData} {as : List Addr} (hl : s₀.heap.PlainList l vs.toArray) (hr : ReadsAll s₀.heap vs xs as) (hc : PyData.canLayAll0 xs = true) (hl' : s₀.heap.PlainList l' ([] : List Value).toArray) :
    Em prog w A (compareOp .Eq (.ref l) (.ref l')) s₀ (fun r _ => r = .bool (decide (xs = []))) :=
  Em.of fun s Q E k hQ => by
    obtain ⟨bs, rl⟩ := reads_list (ext_plain hl (Mine.K.ext k)) (ReadsAll.keeps (Mine.K.ext k) hr)
    obtain ⟨bs', rl'⟩ := reads_list (ext_plain hl' (Mine.K.ext k)) .nil
    refine SeqAt.compareEq_reads rl rl' hc rfl (nil_room hA xs) ?_
    show Q (.bool (PyData.eqvAll xs [])) s
    rw [eqv_nil]
    exact hQ _ _ Mine.K.rfl rfl
theorem Em.ne_nil {n : Nat} (hA : AOk n A) {l l' : Addr} {vs : List Value} {xs : List PyData} {as : List Addr} (hl : s₀.heap.PlainList l vs.toArray) (hr : ReadsAll s₀.heap vs xs as) (hc : PyData.canLayAll0 xs = true) (hl' : s₀.heap.PlainList l' ([] : List Value).toArray) :
    Em prog w A (compareOp .NotEq (.ref l) (.ref l')) s₀ (fun r _ => r = .bool (decide (xs ≠ []))) :=
  Em.of fun s Q E k hQ => by
    obtain ⟨bs, rl⟩ := reads_list (ext_plain hl (Mine.K.ext k)) (ReadsAll.keeps (Mine.K.ext k) hr)
    obtain ⟨bs', rl'⟩ := reads_list (ext_plain hl' (Mine.K.ext k)) .nil
    refine SeqAt.compareNe_reads rl rl' hc rfl (nil_room hA xs) ?_
    show Q (.bool (!PyData.eqvAll xs [])) s
    rw [eqv_nil]
    exact hQ _ _ Mine.K.rfl (by simp)

/-- {} == {} -/
theorem rd_dictOf {h : Heap} {d : Addr} {ep : Nat} (x : RD h d [] ep) : h.DictOf (strKind prog w) d [] := by
  obtain ⟨o, ho, hc, hd⟩ := x
  exact ⟨o, _, ep, ho, hc, hd, fun i hi => by simp at hi, .nil, List.nodup_nil⟩
theorem Em.eq_dict0 {n : Nat} (hA : AOk n A) {d d' : Addr} {ep ep' : Nat} (h1 : RD s₀.heap d [] ep) (h2 : RD s₀.heap d' [] ep') (hd : d ≠ sysModules) (hd' : d' ≠ sysModules) :
    Em prog w A (compareOp .Eq (.ref d) (.ref d')) s₀ (fun r _ => r = .bool true) :=
  Em.of fun s Q E k hQ => keq_eq (knd := strKind prog w) (ka := []) (kb := []) (r := true) (by simpa using hd) (by simpa using hd') (rd_dictOf (h1.ext (Mine.K.ext k))) (rd_dictOf (h2.ext (Mine.K.ext k))) hA.units0 (fun _ => .nil) (hQ _ _ Mine.K.rfl rfl)

/-- len of a raw dict -/
theorem rd_len {d : Addr} {es : List DictEntry} {ep : Nat} (hd : d ≠ sysModules) (hm : RD s₀.heap d es ep) (hsz : es.length ≤ 1000) : Em prog w A (call (.builtin "len") [.ref d]) s₀ (fun r _ => I (es.length : Nat) r) :=
  Em.of fun s Q E k hQ => by
    have hm' := hm.ext (Mine.K.ext k)
    obtain ⟨o, ho, hc, hdat⟩ := id hm'
    refine Calls.call_function_entry kind_len plain_len entry_len (args_len1 _) ?_
    unfold Builtin.«len»
    refine wpAny_bind (m := oneArg "len" _) (wpAny_pure ?_)
    refine wpAny_bind (m := callSpecial? (.ref d) (Str.ofString "__len__")) (wpAny_callSpecial?_slot (name := Str.ofString "__len__") hm'.typeIs F.slot_dict_len
      (wpAny_call_entry F.slot_dict_len hm'.typeIs F.entry_dict_len ?_ (F.args_dict_len_1 _)))
    show wpAny _ _ (dictSize d >>= _) _ _ s
    unfold dictSize
    refine wpAny_bind (wpAny_bind (wpAny_dictEntries ho hdat (wpAny_pure ?_)))
    show wpAny _ _ (Builtin.Dict.pendingCount d >>= _) _ _ s
    refine wpAny_bind (wpAny_pendingCount_other (by simpa using hd) ?_)
    refine wpAny_ret_mkInt ?_
    rw [Nat.add_zero, List.size_toArray]
    show wpAny _ _ (holding [Value.int (es.length : Nat) s.toks] (asIndex (Value.int (es.length : Nat) s.toks)) >>= _) _ _ _
    refine wpAny_bind (wpAny_holding (wpAny_pure ?_))
    refine wpAny_bind (wpAny_letGo ?_)
    show wpAny _ _ (if ((es.length : Nat) : Int) < 0 then _ else _) _ _ _
    rw [if_neg (by omega)]
    show wpAny _ _ (if ((es.length : Nat) : Int) ≥ 2 ^ 63 then _ else _) _ _ _
    rw [if_neg (by omega)]
    exact wpAny_bind (wpAny_mkInt (wpAny_pure ⟨_, rfl, hQ _ _ (Mine.K.trans Mine.K.tok Mine.K.tok) ⟨_, rfl⟩⟩))

/-- max of a raw dict's values -/
theorem rd_max {d r : Addr} {es : List DictEntry} {ep : Nat} {ns : List Int} (hh : A.handled = none) (hv : s₀.heap.IsValuesView r d) (hm : RD s₀.heap d es ep) (hi : IntsAre (es.map (·.val)) ns) (hne : 0 < ns.length) :
    Em prog w A (call (.builtin "max") [.ref r]) s₀ (fun v _ => ∃ M, I M v ∧ M ∈ ns ∧ ∀ a ∈ ns, a ≤ M) :=
  Em.of fun s Q E k hQ => by
    have hm' := hm.ext (Mine.K.ext k)
    have hv' : s.heap.IsValuesView r d := let ⟨o, ho, x⟩ := hv; ⟨o, Mine.K.ext k _ _ ho, x⟩
    have hlen : es.length = ns.length := by rw [← hi.length, List.length_map]
    refine call_max_walk (rd_iter_values hv' hm' ?_)
    have hdit : d ≠ s.heap.objs.size := by
      obtain ⟨o, ho, _⟩ := hm'
      exact Nat.ne_of_lt (Heap.lt_size ho)
    have kI : Ext s.heap (s.heap.push { cls := .type "dict_valueiterator", data := .fields #[.ref d, .int 0 0, .int es.length 0, .int ep 0] }) := fun x o e => Heap.get?_push_of_some _ e
    refine ⟨s.heap.objs.size, _, _, es.length, _, _, _, rfl, walks_values (prog := prog) (w := w) (A := A.in1) (es := es) (ep := ep) hh s.heap.objs.size hdit, ⟨⟨_, Heap.get?_push_size _ rfl, rfl, rfl⟩, hm'.ext kI⟩, ?_, by omega,
      CmpOf.ints_gt (fun j => ns.getD j 0) (fun j v hP => ?_), fun v h' tk hP hk => ?_⟩
    · intro b hb
      show b < (s.heap.push _).objs.size
      rw [Heap.size_push]
      simp only [List.mem_cons, List.not_mem_nil, or_false] at hb
      rcases hb with rfl | rfl
      · exact Nat.lt_succ_self _
      · obtain ⟨o, ho, _⟩ := hm'
        exact Nat.lt_succ_of_lt (Heap.lt_size ho)
    · obtain ⟨en, hen, rfl⟩ := hP
      have hj : (es.map (·.val))[j]? = some en.val := by rw [List.getElem?_map, hen]; rfl
      have hjl : j < ns.length := by rw [← hlen]; exact (List.getElem?_eq_some_iff.mp hen).1
      obtain ⟨t, ht⟩ := hi.get j _ (List.getElem?_eq_getElem hjl)
      rw [hj] at ht
      refine ⟨t, ?_⟩
      rw [List.getD_eq_getElem?_getD, List.getElem?_eq_getElem hjl]
      simpa using ht
    · obtain ⟨en, hen, rfl⟩ := hP
      obtain ⟨h1, h2⟩ := argBest_gt (fun j => ns.getD j 0) (es.length - 1)
      generalize hB : argBest (fun i j => decide (ns.getD i 0 > ns.getD j 0)) (es.length - 1) = B at *
      have hj : (es.map (·.val))[B]? = some en.val := by rw [List.getElem?_map, hen]; rfl
      have hjl : B < ns.length := by rw [← hlen]; exact (List.getElem?_eq_some_iff.mp hen).1
      obtain ⟨t, ht⟩ := hi.get B _ (List.getElem?_eq_getElem hjl)
      rw [hj] at ht
      refine hQ _ _ (Mine.K.mk fun b o e => ?_) ⟨ns.getD B 0, ⟨t, ?_⟩, ?_, fun a ha => ?_⟩
      · refine hk b o (fun hm => ?_) (kI _ _ e)
        rw [List.mem_singleton.mp hm, fresh_none] at e; cases e
      · rw [List.getD_eq_getElem?_getD, List.getElem?_eq_getElem hjl]
        simpa using ht
      · exact getD_mem hjl
      · obtain ⟨j, hj, rfl⟩ := mem_getD ha
        exact h2 j (by omega)

/-- l[:k] -/
theorem Em.slice_upto {value hi : Expr} {p pos : Pos} {l : Addr} {vs : List Value} {k : Nat} (hv : Ev prog w A env value s₀ (R l)) (hk : Ev prog w A env hi s₀ (I k)) (hl : s₀.heap.IsList l vs.toArray) (hsz : vs.length ≤ 1000)
    (ht : ∀ o r, letTemporaryGo value o r = pure () := by intro _ _; rfl) :
    Em prog w A (eval (.Subscript value (.Slice none (some hi) none p) pos) env) s₀ (fun v s => ∃ D, v = .ref D ∧ s₀.heap.get? D = none ∧ s.heap.PlainList D (vs.take k).toArray) :=
  Em.of fun s Q E k0 hQ => by
    refine wpAny_Subscript_list_slice (hv.use k0 fun o s1 k1 e1 => wpAny_evalPart_none (wpAny_evalPart_some (hk.use (Mine.K.trans k0 k1) fun u s2 k2 e2 => ?_))) ht
    cases e1
    obtain ⟨t, rfl⟩ := e2
    have k02 := Mine.K.trans k0 (Mine.K.trans k1 k2)
    refine ⟨l, vs.toArray, none, some (k : Int), rfl, ext_list hl (Mine.K.ext k02), by rw [List.size_toArray, sizeLine_eq]; omega, .none, .int _ _, ?_⟩
    rw [slicePick_upto']
    have e1 := Heap.get?_push_size (s2.heap.push { cls := .type "slice", data := .fields #[.none, .int (k : Int) t, .none] }) (o := { cls := .type "list", data := .seq (vs.toArray.toList.take k).toArray }) rfl
    rw [Heap.size_push] at e1
    refine hQ _ _ (Mine.K.trans (Mine.K.trans k1 k2) (Mine.K.mkh fun b o e => Heap.get?_push_of_some _ (Heap.get?_push_of_some _ e))) ⟨_, rfl, ?_, 0, by simpa using e1⟩
    cases e : s₀.heap.get? (s2.heap.objs.size + 1) with
    | none => rfl
    | some o => exact absurd (Heap.lt_size (Mine.K.ext k02 _ _ e)) (Nat.not_lt.mpr (Nat.le_succ _))

/-- l[a:a+1] = [y] -/
theorem ex_slice1 {o ea eb : Expr} {p pos' pos lp : Pos} {e : Expr} {rest : List Stmt} {Q : Flow → Shared → Prop} {l : Addr} {vs : List Value} {a : Nat} {P : Value → Prop} (hv : Ev prog w A env e s P) (ho : Ev prog w A env o s (R l)) (ha : Ev prog w A env ea s (I a)) (hb : Ev prog w A env eb s (I (a + 1)))
    (hl : s.heap.PlainList l vs.toArray) (hal : a ≤ vs.length) (hsz : vs.length ≤ 900)
    (h : ∀ y s', P y → KB [l] s s' → s'.heap.PlainList l (putOne a y vs).toArray → wpAny (model prog w) A (execs rest env) Q E s')
    (he : starEach [e] env = (false, eval e env) :: starEach [] env := by rfl)
    (hs : swapsWith (.List [e] lp) (some (.Subscript o (.Slice (some ea) (some eb) none p) pos')) pos.line env = pure false := by rfl) :
    wpAny (model prog w) A (execs (.Assign [.Subscript o (.Slice (some ea) (some eb) none p) pos'] (.List [e] lp) pos :: rest) env) Q E s := by
  refine ex_cons (wpAny_Assign_Subscript ((Em.list (Ea.one hv he) (fun vs s ⟨v, e, _⟩ => by subst e; exact Nat.le_trans (by decide : 1 ≤ 1000000) sizeLine_ge)).use Mine.K.rfl fun v s1 k1 hv => ?_) hs)
  obtain ⟨_, s1', r, ⟨y, rfl, hy⟩, k1', k1'', rfl, hr0, hr⟩ := hv
  refine ho.use k1 fun y2 s2 k2 e2 => ?_
  cases e2
  refine wpAny_Slice (wpAny_evalPart_some (ha.use (Mine.K.trans k1 k2) fun y3 s3 k3 e3 => wpAny_evalPart_some (hb.use (Mine.K.trans k1 (Mine.K.trans k2 k3)) fun y4 s4 k4 e4 => wpAny_evalPart_none ?_)))
  obtain ⟨t3, rfl⟩ := e3
  obtain ⟨t4, rfl⟩ := e4
  have k14 := Mine.K.trans k2 (Mine.K.trans k3 k4)
  have kp : Keeps s4 { s4 with heap := s4.heap.push { cls := .type "slice", data := .fields #[.int (a : Int) t3, .int ((a : Int) + 1) t4, .none] } } := Mine.K.mkh fun b o e => Heap.get?_push_of_some _ e
  have hlr : l ≠ r := by
    rintro rfl
    obtain ⟨n, hn⟩ := ext_plain hl (Mine.K.ext k1')
    rw [hr0] at hn; cases hn
  have kall := Mine.K.trans k1 (Mine.K.trans k14 kp)
  refine set_slice (new := [y]) (lo := some (a : Int)) (hi := some ((a : Int) + 1)) (a := a) (b := min (a + 1) vs.length) (ext_plain hl (Mine.K.ext kall)) (ext_plain ⟨0, hr⟩ (Mine.K.ext (Mine.K.trans k14 kp))) hlr (Heap.IsSliceOf.new ..) (.int _ _) (.int _ _) ?_ (by omega) (by show vs.length + 1 ≤ 1000; omega) fun h' hs' hl' => ?_
  · simp only [sliceBounds, Option.getD_none, show (1 : Int) > 0 by decide, if_true, if_neg (show ¬ ((a : Int) < 0) by omega), if_neg (show ¬ ((a : Int) + 1 < 0) by omega)]
    congr 1
    · omega
    · congr 1; omega
  · refine h y _ hy (KB.trans (KB.of kall) (KB.sameh hs' (by simp))) ?_
    have e : vs.drop (min (a + 1) vs.length) = vs.drop (a + 1) := by
      rcases Nat.lt_or_ge a vs.length with h | h
      · rw [Nat.min_eq_left h]
      · rw [Nat.min_eq_right (by omega), List.drop_of_length_le (Nat.le_refl _), List.drop_of_length_le (by omega)]
    rw [e, List.append_assoc] at hl'
    exact hl'
end
end Mine

namespace Mine

theorem rangeIt_eq (n : Nat) : some (rangeIt 0 (n : Int)) = some { cls := Value.type "range_iterator", data := Data.fields #[rawInt (0 + ((0 : Nat) : Int) * 1), rawInt ((n : Int) - ((0 : Nat) : Int)), rawInt 1] } := by
  unfold rangeIt
  rw [rangeSize_nat]
  simp

section
variable {prog : Program} {w : World} {A : Around} {E : Value → Shared → Prop} {s s₀ : Shared} {env : Env} {R : Result → Shared → Prop}

abbrev comp2 (elt iter iter2 c : Expr) (x y : Str) (px py : Pos) (scope : Scope) (pos : Pos) : Expr := .ListComp elt [⟨.Name x px, iter, [], 0⟩, ⟨.Name y py, iter2, [c], 0⟩] scope pos

theorem compTurn2_1 (elt iter iter2 c : Expr) (x y : Str) (px py : Pos) (scope : Scope) (pos : Pos) (it acc : Value) (env : Env) :
    compTurn (comp2 elt iter iter2 c x y px py scope pos) 1 it acc env = (do
      standAt iter2.pos
      match ← pyNext it with
      | none => pure (.done .next)
      | some v =>
        letOwnedTupleGo (.Name y py) it v
        assign (.Name y py) env v
        let mut ok := true
        for c in [c] do
          if ok then ok ← isTrue c env (eval c env)
        if ok then
          (do let _ ← call (.builtin "list.append") [acc, ← eval elt env])
        again (.compLoop (comp2 elt iter iter2 c x y px py scope pos) 1 it acc env)) := by rfl
theorem compTurn2_0 (elt iter iter2 c : Expr) (x y : Str) (px py : Pos) (scope : Scope) (pos : Pos) (it acc : Value) (env : Env) :
    compTurn (comp2 elt iter iter2 c x y px py scope pos) 0 it acc env = (do
      standAt iter.pos
      match ← pyNext it with
      | none => pure (.done .next)
      | some v =>
        letOwnedTupleGo (.Name x px) it v
        assign (.Name x px) env v
        let u ← eval iter2 env
        standAt iter2.pos
        let u ← foldedSetIterable iter2 env u
        let _ ← runOwn (.compStart (comp2 elt iter iter2 c x y px py scope pos) 1 (← holding [u] (pyIter u)) acc env) env
        again (.compLoop (comp2 elt iter iter2 c x y px py scope pos) 0 it acc env)) := by rfl

theorem compStart2 {elt iter iter2 c : Expr} {x y : Str} {px py : Pos} {scope : Scope} {pos : Pos} {it acc : Value}
    (h0 : codeAny (model prog w) A (.compLoop (comp2 elt iter iter2 c x y px py scope pos) 1 it acc env) R s)
    (h : wpAny (model prog w) A (pyIter it) (fun it' s' => codeAny (model prog w) A (.compLoop (comp2 elt iter iter2 c x y px py scope pos) 1 it' acc env) R s')
      (notedBy (model prog w) A env fun x s' => R (.error x) s') s) :
    codeAny (model prog w) A (.compStart (comp2 elt iter iter2 c x y px py scope pos) 1 it acc env) R s := by
  refine codeAny_of_tree ?_
  show wpAny _ _ ((compStart (comp2 elt iter iter2 c x y px py scope pos) 1 it acc env).onRaise (fun x => do noteFrame x env; standAt theWindowsPlace)) _ _ s
  refine wpAny_notedAt ?_
  unfold compStart
  show wpAny _ _ (ask >>= _) _ _ s
  refine wpAny_bind (wpAny_askSetting (wpAny_ite ?_))
  split
  · first
      | exact wpAny_bind (wpAny_pure (wpAny_pure (And.intro rfl h0)))
      | exact wpAny_pure (And.intro rfl h0)
  · first
      | exact wpAny_bind (wpAny_rule (wpAny_bind (wpAny_standAt (wpAny_bind (wpAny_mono h (fun it' s' h' => wpAny_pure (And.intro rfl h')) fun _ _ x => x)))))
      | (refine wpAny_bind (wpAny_rule ?_); show wpAny _ _ (standAt iter2.pos >>= _) _ _ s; exact wpAny_bind (wpAny_standAt (wpAny_bind (wpAny_mono h (fun it' s' h' => wpAny_pure (And.intro rfl h')) fun _ _ x => x))))

/-- the inner loop: no test holds -/
theorem inner_none {elt iter iter2 c : Expr} {x y : Str} {px py : Pos} {scope : Scope} {pos : Pos} {acc : Value} {J : Addr} {n : Nat} {St : Nat → Heap → Prop} (hk : env.scope.kind = .function)
    (W : Walks prog w A J [J] [J] n (fun i v => i < n ∧ ∃ t, v = Value.int (0 + (i : Int) * 1) t) St) (hS : St 0 s.heap) (hJL : J ≠ env.locals)
    (hy : env.kindOf y = some .local) {m : Str → Option Value} (hn : s.heap.Ns env.locals m)
    (htest : ∀ k t m' s', k < n → KB [env.locals, J] s s' → s'.heap.Ns env.locals m' → m' y = some (.int (0 + (k : Int) * 1) t) → (∀ z, z ≠ y → m' z = m z) → EvT prog w A env c s' false)
    (hR : ∀ s' m', KB [env.locals, J] s s' → s'.heap.Ns env.locals m' → R (.ok .next) s') :
    codeAny (model prog w) A (.compLoop (comp2 elt iter iter2 c x y px py scope pos) 1 (.ref J) acc env) R s := by
  refine codeAny_loop rfl (fun k s' => ∃ i m', i ≤ n ∧ k = n + 1 - i ∧ KB [env.locals, J] s s' ∧ s'.heap.Ns env.locals m' ∧ (∀ z, z ≠ y → m' z = m z) ∧ St i s'.heap) (fun k s' hI => ?_) (n + 1) ⟨0, m, Nat.zero_le _, rfl, KB.rfl, hn, fun _ _ => rfl, hS⟩
  obtain ⟨i, m', hi, rfl, kb, hn', hm', hSi⟩ := hI
  show wpAny _ A ((compTurn (comp2 elt iter iter2 c x y px py scope pos) 1 (.ref J) acc env).onRaise (fun x => do noteFrame x env; theTreesLotGoes x)) _ _ s'
  refine wpAny_noted ?_
  rw [compTurn2_1]
  refine wpAny_bind (wpAny_standAt (wpAny_bind ?_))
  rcases Nat.lt_or_ge i n with hlt | hge
  · refine W.item i s' _ _ hlt hSi fun v h' tk hv hS' hkp => ?_
    obtain ⟨_, t, rfl⟩ := hv
    have kb1 : KB [env.locals, J] s { s' with heap := h', toks := tk } := KB.trans kb ⟨h', tk, rfl, fun b o hb e => hkp b o (fun q => hb (List.mem_cons_of_mem _ q)) e⟩
    have hn1 : h'.Ns env.locals m' := hn'.at fun o e => hkp _ o (fun q => hJL (List.mem_singleton.mp q).symm) e
    refine wpAny_bind (wpAny_of_eq (show letOwnedTupleGo (.Name y py) (.ref J) _ = pure () from rfl) ?_)
    refine wpAny_bind (as_local (s := { s' with heap := h', toks := tk }) hn1 (fun s2 kb2 hn2 => ?_) hy hk)
    have kb12 : KB [env.locals, J] s s2 := KB.trans kb1 (kb2.mono (by simp))
    refine wpAny_bind (wpAny_tests_one ((htest i t _ s2 hlt kb12 hn2 (by simp) (fun z hz => by show (if z = y then _ else m' z) = m z; rw [if_neg hz]; exact hm' z hz)).use Mine.K.rfl fun b s3 k3 eb => ?_))
    subst eb
    rw [if_neg (by decide)]
    refine wpAny_pure ⟨rfl, n + 1 - (i + 1), by omega, i + 1, _, hlt, rfl, KB.trans kb12 (KB.of k3), hn2.keeps (Mine.K.ext k3), (fun z hz => by show (if z = y then _ else m' z) = m z; rw [if_neg hz]; exact hm' z hz), ?_⟩
    refine W.frame _ _ _ hS' fun b hb o e => ?_
    have hbJ := List.mem_singleton.mp hb
    refine Mine.K.ext k3 _ _ (kb2.get (s := { s' with heap := h', toks := tk }) e (fun q => hJL ?_))
    rw [← hbJ]; exact List.mem_singleton.mp q
  · have hin : i = n := by omega
    subst hin
    refine W.done s' _ _ hSi fun h' tk hkp => wpAny_pure ?_
    exact hR _ m' (KB.trans kb ⟨h', tk, rfl, fun b o hb e => hkp b o (fun q => hb (List.mem_cons_of_mem _ q)) e⟩) (hn'.at fun o e => hkp _ o (fun q => hJL (List.mem_singleton.mp q).symm) e)

/-- the outer loop -/
theorem outer_none {elt iter iter2 c : Expr} {x y : Str} {px py : Pos} {scope : Scope} {pos : Pos} {acc : Value} {I : Addr} {n : Nat} {St : Nat → Heap → Prop} (hh : A.handled = none) (hk : env.scope.kind = .function)
    (W : Walks prog w A I [I] [I] n (fun i v => i < n ∧ ∃ t, v = Value.int (0 + (i : Int) * 1) t) St) (hS : St 0 s.heap) (hIL : I ≠ env.locals) (hsz : n ≤ 1000)
    (hx : env.kindOf x = some .local) (hy : env.kindOf y = some .local) (hxy : x ≠ y) {m : Str → Option Value} (hn : s.heap.Ns env.locals m)
    (hit2 : ∀ j t m' s', j < n → KB [env.locals, I] s s' → s'.heap.Ns env.locals m' → m' x = some (.int (0 + (j : Int) * 1) t) → Em prog w A (eval iter2 env) s' (fun v s => ∃ r t u y, v = .ref r ∧ IsRange s.heap r 0 j 1 t u y))
    (htest : ∀ j k t t' m' s', k < j → j < n → KB [env.locals, I] s s' → s'.heap.Ns env.locals m' → m' x = some (.int (0 + (j : Int) * 1) t) → m' y = some (.int (0 + (k : Int) * 1) t') → EvT prog w A env c s' false)
    (hR : ∀ s' m', KB [env.locals, I] s s' → s'.heap.Ns env.locals m' → R (.ok .next) s')
    (hs : ∀ x, foldedSetIterable iter2 env x = pure x := by intro _; rfl) :
    codeAny (model prog w) A (.compLoop (comp2 elt iter iter2 c x y px py scope pos) 0 (.ref I) acc env) R s := by
  refine codeAny_loop rfl (fun k s' => ∃ i m', i ≤ n ∧ k = n + 1 - i ∧ KB [env.locals, I] s s' ∧ s'.heap.Ns env.locals m' ∧ St i s'.heap) (fun k s' hI => ?_) (n + 1) ⟨0, m, Nat.zero_le _, rfl, KB.rfl, hn, hS⟩
  obtain ⟨i, m', hi, rfl, kb, hn', hSi⟩ := hI
  have hI0 : ∃ o, s.heap.get? env.locals = some o := by obtain ⟨o, _, _, ho, _⟩ := hn; exact ⟨o, ho⟩
  show wpAny _ A ((compTurn (comp2 elt iter iter2 c x y px py scope pos) 0 (.ref I) acc env).onRaise (fun x => do noteFrame x env; theTreesLotGoes x)) _ _ s'
  refine wpAny_noted ?_
  rw [compTurn2_0]
  refine wpAny_bind (wpAny_standAt (wpAny_bind ?_))
  rcases Nat.lt_or_ge i n with hlt | hge
  · refine W.item i s' _ _ hlt hSi fun v h' tk hv hS' hkp => ?_
    obtain ⟨_, t, rfl⟩ := hv
    have kb1 : KB [env.locals, I] s { s' with heap := h', toks := tk } := KB.trans kb ⟨h', tk, rfl, fun b o hb e => hkp b o (fun q => hb (List.mem_cons_of_mem _ q)) e⟩
    have hn1 : h'.Ns env.locals m' := hn'.at fun o e => hkp _ o (fun q => hIL (List.mem_singleton.mp q).symm) e
    refine wpAny_bind (wpAny_of_eq (show letOwnedTupleGo (.Name x px) (.ref I) _ = pure () from rfl) ?_)
    refine wpAny_bind (as_local (s := { s' with heap := h', toks := tk }) hn1 (fun s2 kb2 hn2 => ?_) hx hk)
    have kb12 : KB [env.locals, I] s s2 := KB.trans kb1 (kb2.mono (by simp))
    obtain ⟨m2, hn2, hm2⟩ : ∃ m2, s2.heap.Ns env.locals m2 ∧ m2 x = some (.int (0 + (i : Int) * 1) t) := ⟨_, hn2, by simp⟩
    have hS2 : St (i + 1) s2.heap := W.frame _ _ _ hS' fun b hb o e => by
      have hbJ := List.mem_singleton.mp hb
      refine kb2.get (s := { s' with heap := h', toks := tk }) e (fun q => hIL ?_)
      rw [← hbJ]; exact List.mem_singleton.mp q
    refine wpAny_bind ((hit2 i t m2 s2 hlt kb12 hn2 hm2).use Mine.K.rfl fun r s3 k3 hr => ?_)
    obtain ⟨r, t3, u3, y3, rfl, hr⟩ := hr
    refine wpAny_bind (wpAny_standAt (wpAny_bind (wpAny_of_eq (hs _) ?_)))
    refine wpAny_bind (wpAny_holding (wpAny_pyIter_range hr (small_one (by omega) (by omega) (by omega) (by omega)) ?_))
    have kI : Keeps s3 { s3 with heap := s3.heap.push (rangeIt 0 i) } := Mine.K.mkh fun x o e => Heap.get?_push_of_some _ e
    have k23 := Mine.K.trans k3 kI
    have hJ3 : s2.heap.get? s3.heap.objs.size = none := none_of k3 (fresh_none _)
    have hn4 := hn2.keeps (Mine.K.ext k23)
    have hJL : s3.heap.objs.size ≠ env.locals := by
      rintro e
      obtain ⟨o, _, _, ho, _⟩ := hn2
      rw [← e, hJ3] at ho; cases ho
    have hJI : ∀ o, s2.heap.get? I = some o → I ≠ s3.heap.objs.size := fun o ho e => by rw [e, hJ3] at ho; cases ho
    have kb14 : KB [env.locals, I] s { s3 with heap := s3.heap.push (rangeIt 0 i) } := KB.trans kb12 (KB.of k23)
    have W2 := walks_lt (Walks.range (prog := prog) (w := w) (A := A) hh s3.heap.objs.size 0 1 i)
    have hs0 : s.heap.get? s3.heap.objs.size = none ∨ s3.heap.objs.size ∈ [env.locals, I] := by
      cases e : s.heap.get? s3.heap.objs.size with
      | none => exact .inl rfl
      | some o =>
        right
        by_cases hm : s3.heap.objs.size ∈ [env.locals, I]
        · exact hm
        · have := kb12.get e hm; rw [hJ3] at this; cases this
    have up : ∀ s', KB [env.locals, s3.heap.objs.size] { s3 with heap := s3.heap.push (rangeIt 0 i) } s' → KB [env.locals, I] s s' := fun s' kb' => KB.from kb14 kb' fun b hb hn => by
      simp only [List.mem_cons, List.not_mem_nil, or_false] at hb
      rcases hb with rfl | rfl
      · exact absurd (List.mem_cons_self ..) hn
      · rcases hs0 with h | h
        · exact h
        · exact absurd h hn
    have hS3 : ∀ s', KB [env.locals, s3.heap.objs.size] { s3 with heap := s3.heap.push (rangeIt 0 i) } s' → St (i + 1) s'.heap := fun s' kb' => W.frame _ _ _ hS2 fun b hb o e => by
      have hbI := List.mem_singleton.mp hb
      subst hbI
      refine kb'.get (Mine.K.ext k23 _ _ e) ?_
      simp only [List.mem_cons, List.not_mem_nil, or_false, not_or]
      exact ⟨hIL, hJI o e⟩
    refine wpAny_bind (wpAny_runOwn ?_)
    have goal : codeAny (model prog w) A (.compLoop (comp2 elt iter iter2 c x y px py scope pos) 1 (.ref s3.heap.objs.size) acc env) _ { s3 with heap := s3.heap.push (rangeIt 0 i) } :=
      inner_none (R := fun r s' => match r with | .ok f => (∃ m'', KB [env.locals, I] s s' ∧ s'.heap.Ns env.locals m'' ∧ St (i + 1) s'.heap) | .error e => False) hk W2 (by
        show Heap.get? _ _ = _
        rw [Heap.get?_push_size _ rfl]
        exact rangeIt_eq i) hJL hy hn4 (fun k tk' m5 s5 hk5 kb5 hn5 hm5 hz5 => htest i k t tk' m5 s5 hk5 hlt (up _ kb5) hn5 (by rw [hz5 x hxy]; exact hm2) hm5)
        (fun s5 m5 kb5 hn5 => ⟨m5, up _ kb5, hn5, hS3 _ kb5⟩)
    refine codeAny_mono (compStart2 goal (W2.self 0 _ _ _ (by
        show Heap.get? _ _ = _
        rw [Heap.get?_push_size _ rfl]
        exact rangeIt_eq i) goal)) fun r s5 h5 => ?_
    cases r with
    | error e => exact h5.elim
    | ok f =>
      obtain ⟨m5, kb5, hn5, hS5⟩ := h5
      exact wpAny_pure ⟨rfl, n + 1 - (i + 1), by omega, i + 1, m5, hlt, rfl, kb5, hn5, hS5⟩
  · have hin : i = n := by omega
    subst hin
    refine W.done s' _ _ hSi fun h' tk hkp => wpAny_pure ?_
    exact hR _ m' (KB.trans kb ⟨h', tk, rfl, fun b o hb e => hkp b o (fun q => hb (List.mem_cons_of_mem _ q)) e⟩) (hn'.at fun o e => hkp _ o (fun q => hIL (List.mem_singleton.mp q).symm) e)

/-- the comprehension with two loops whose tests all fail -/
theorem Em.comp2none {elt iter iter2 c : Expr} {x y : Str} {px py : Pos} {scope : Scope} {cl : List (Str × Addr)} {pos : Pos} (n : Nat) (hh : A.handled = none)
    (hit : Em prog w A (eval iter env) s₀ (fun v s => ∃ r t u y, v = .ref r ∧ IsRange s.heap r 0 n 1 t u y)) (hsz : n ≤ 1000)
    (hclos : closureFor scope env = pure cl) (hcell : ∀ y ∈ scope.names, y.2 ≠ .cell) (hkind : scope.kind = .function)
    (hnames : ∀ y ∈ scope.names, y.2 = .local → scope.names.lookup y.1 = some .local) (hx : scope.names.lookup x = some .local) (hy : scope.names.lookup y = some .local) (hxy : x ≠ y)
    (hit2 : ∀ j C s m t, j < n → Ext s₀.heap s.heap → s₀.heap.get? C = none → s.heap.Ns C m → m x = some (.int j t) → Em prog w A (eval iter2 (compEnvC scope cl C env)) s (fun v s => ∃ r t u y, v = .ref r ∧ IsRange s.heap r 0 j 1 t u y))
    (htest : ∀ j k C s m t t', k < j → j < n → Ext s₀.heap s.heap → s₀.heap.get? C = none → s.heap.Ns C m → m x = some (.int j t) → m y = some (.int k t') → EvT prog w A (compEnvC scope cl C env) c s false)
    (hs : ∀ x, foldedSetIterable iter env x = pure x := by intro _; rfl) (hs2 : ∀ C x, foldedSetIterable iter2 (compEnvC scope cl C env) x = pure x := by intro _ _; rfl) :
    Em prog w A (eval (comp2 elt iter iter2 c x y px py scope pos) env) s₀ (fun v s => ∃ D, v = .ref D ∧ s₀.heap.get? D = none ∧ s.heap.PlainList D ([] : List Value).toArray) :=
  Em.of fun s Q E k hQ => by
    rw [eval_ListComp]
    refine wpAny_comprehension_free (use := none) rfl hs hclos hkind hnames (hit.use k fun xv s₁ k₁ hr => ?_)
    obtain ⟨r, t, u, y', rfl, hr⟩ := hr
    refine wpAny_pyIter_range hr (small_one (by omega) (by omega) (by omega) (by omega)) ?_
    have e1 : Ext s₀.heap s₁.heap := Mine.K.ext (Mine.K.trans k k₁)
    have kI : Ext s₁.heap (s₁.heap.push (rangeIt 0 n)) := fun x o e => Heap.get?_push_of_some _ e
    have hgI : (s₁.heap.push (rangeIt 0 n)).get? s₁.heap.objs.size = some (rangeIt 0 n) := Heap.get?_push_size _ rfl
    have hI0 : s₁.heap.get? s₁.heap.objs.size = none := fresh_none _
    generalize hH1 : s₁.heap.push (rangeIt 0 n) = H1 at kI hgI
    have hz1 : H1.objs.size = s₁.heap.objs.size + 1 := by rw [← hH1, Heap.size_push]
    refine wpAny_newObj_type (wpAny_newFunctionEnv hcell (by intro y hy; simp at hy) (fun h₁ hns₁ hsb₁ => ?_) hkind)
    dsimp only at hns₁ hsb₁ ⊢
    generalize hH2 : H1.push { cls := .type "list", dict := none, data := .seq ([] : List Value).toArray } = H2 at hns₁ hsb₁ ⊢
    have hz2 : H2.objs.size = s₁.heap.objs.size + 2 := by rw [← hH2, Heap.size_push, hz1]
    rw [hz1]
    have ne : ∀ {a b : Nat}, a < b → (a : Addr) ≠ b := fun h => Nat.ne_of_lt h
    have old : Ext s₁.heap h₁ := fun b o e => hsb₁.extBut b o (by rw [hz2]; exact Nat.ne_of_lt (Nat.lt_add_right 2 (Heap.lt_size e))) (Heap.get?_push_of_some _ (hH2 ▸ Heap.get?_push_of_some _ (kI _ _ e)))
    have hD : h₁.PlainList (s₁.heap.objs.size + 1) ([] : List Value).toArray := by
      have := Heap.get?_push_size (o := { cls := .type "list", dict := none, data := .seq ([] : List Value).toArray }) H1 rfl
      rw [hz1, hH2] at this
      exact ⟨_, hsb₁.extBut _ _ (by rw [hz2]; exact ne (by omega)) (Heap.get?_push_of_some _ this)⟩
    have hIt : h₁.get? s₁.heap.objs.size = some (rangeIt 0 n) := hsb₁.extBut _ _ (by rw [hz2]; exact ne (by omega)) (Heap.get?_push_of_some _ (hH2 ▸ Heap.get?_push_of_some _ hgI))
    have hf : ∀ a, s₁.heap.objs.size ≤ a → s₀.heap.get? a = none := fun a ha => by
      cases e : s₀.heap.get? a with
      | none => rfl
      | some o => exact absurd (Heap.lt_size (e1 _ _ e)) (Nat.not_lt.mpr ha)
    have hCf : s₀.heap.get? H2.objs.size = none := hf _ (by rw [hz2]; omega)
    have W := walks_lt (Walks.range (prog := prog) (w := w) (A := A) hh s₁.heap.objs.size 0 1 n)
    have toE : ∀ s', KB [H2.objs.size, s₁.heap.objs.size] { s₁ with heap := h₁, toks := s₁.toks + 0 } s' → Keeps s₁ s' := fun s' kb => by
      refine KB.keeps (s := { s₁ with heap := h₁, toks := s₁.toks + 0 }) ⟨h₁, _, rfl, old⟩ kb fun b hb => ?_
      simp only [List.mem_cons, List.not_mem_nil, or_false] at hb
      rcases hb with rfl | rfl
      · exact Heap.get?_none_of_le (by rw [hz2]; omega)
      · exact hI0
    have goal : codeAny (model prog w) A (.compLoop (comp2 elt iter iter2 c x y px py scope pos) 0 (.ref s₁.heap.objs.size) (.ref (s₁.heap.objs.size + 1)) (compEnvC scope cl H2.objs.size env)) (compPost (model prog w) A E none Q (.ref (s₁.heap.objs.size + 1)) H2.objs.size)
        { s₁ with heap := h₁, toks := s₁.toks + 0 } := by
      refine outer_none (env := compEnvC scope cl H2.objs.size env) (m := fun x => ([] : List (Str × Value)).reverse.lookup x) hh (by simp [compEnvC, relabel, hkind]) W (by
          show h₁.get? _ = _
          rw [hIt]
          exact rangeIt_eq n) (by show s₁.heap.objs.size ≠ H2.objs.size; rw [hz2]; exact ne (by omega)) hsz (lookup_relabel_local hx) (lookup_relabel_local hy) hxy hns₁
        (fun j t m' s' hj kb hn hm => hit2 j H2.objs.size s' m' t hj (e1.trans (Mine.K.ext (toE _ kb))) hCf hn (by rw [hm]; congr 2; omega))
        (fun j k' t t' m' s' hk hj kb hn hmx hmy => htest j k' H2.objs.size s' m' t t' hk hj (e1.trans (Mine.K.ext (toE _ kb))) hCf hn (by rw [hmx]; congr 2; omega) (by rw [hmy]; congr 2; omega)) ?_ (hs2 _)
      intro s' m' kb hn
      refine ⟨m', hn, fun h'' hs'' => ?_⟩
      have hDC : s₁.heap.objs.size + 1 ≠ H2.objs.size := by rw [hz2]; exact ne (by omega)
      refine hQ _ _ ?_ ⟨_, rfl, hf _ (Nat.le_succ _), ?_⟩
      · have := toE _ kb
        obtain ⟨h5, t5, rfl, k5⟩ := this
        refine Mine.K.trans k₁ ⟨h'', t5, rfl, fun b o e => hs''.extBut b o ?_ (k5 b o e)⟩
        rintro rfl
        exact absurd (Heap.lt_size e) (Nat.not_lt.mpr (by rw [hz2]; exact Nat.le_add_right _ _))
      · obtain ⟨nD, hnD⟩ := hD
        refine ⟨nD, hs''.extBut _ _ hDC (kb.get hnD ?_)⟩
        simp only [List.mem_cons, List.not_mem_nil, or_false, not_or]
        exact ⟨hDC, fun e => absurd e (Nat.succ_ne_self _)⟩
    exact codeAny_compStart_list goal (W.self 0 _ _ _ (by
          show h₁.get? _ = _
          rw [hIt]
          exact rangeIt_eq n) goal)
end
end Mine

namespace Mine

def ZipOf (h : Heap) (v : Value) (l1 l2 : Addr) (s₀ : Shared) : Prop :=
  ∃ n, v = .ref (n + 4) ∧ IsZip h (n + 4) (n + 2) (n + 3) .none ∧ IsPair h (n + 2) (.ref n) (.ref (n + 1)) ∧ IsPair h (n + 3) .none .none ∧ h.IsListIter n l1 0 ∧ h.IsListIter (n + 1) l2 0 ∧ l1 < n ∧ l2 < n ∧ ∀ a, n ≤ a → s₀.heap.get? a = none

def ZOk (h : Heap) (b : Addr) : Prop := ∀ o, h.get? b = some o → o.cls = .type "zip" ∨ o.cls = .type "list_iterator" ∨ ∃ x y, o = { cls := .type "tuple", data := .seq #[x, y] }

abbrev ZipSt (n : Addr) (l1 l2 : Addr) (vs us : List Value) (i : Nat) (h : Heap) : Prop :=
  IsZip h (n + 4) (n + 2) (n + 3) .none ∧ IsPair h (n + 2) (.ref n) (.ref (n + 1)) ∧ (∃ a b, IsPair h (n + 3) a b) ∧ h.IsListIter n l1 i ∧ h.IsListIter (n + 1) l2 i ∧ h.IsList l1 vs.toArray ∧ h.IsList l2 us.toArray

section
variable {prog : Program} {w : World} {A : Around} {E : Value → Shared → Prop} {s s₀ : Shared} {env : Env}

theorem Em.zip {l1 l2 : Addr} {vs us : Array Value} (h1 : s₀.heap.IsList l1 vs) (h2 : s₀.heap.IsList l2 us) : Em prog w A (call (.type "zip") [.ref l1, .ref l2]) s₀ (fun v s => ZipOf s.heap v l1 l2 s₀) :=
  Em.of fun s Q E k hQ => by
    have h1' := ext_list h1 (Mine.K.ext k)
    have h2' := ext_list h2 (Mine.K.ext k)
    obtain ⟨o1, ho1, _⟩ := id h1'
    obtain ⟨o2, ho2, _⟩ := id h2'
    refine call_zip_2 h1' h2' fun h' a1 a2 a3 a4 a5 a6 a7 => hQ _ _ (Mine.K.mkh a7) ⟨s.heap.objs.size, rfl, a1, a2, a3, a4, a5, Heap.lt_size ho1, Heap.lt_size ho2, fun a ha => ?_⟩
    cases e : s₀.heap.get? a with
    | none => rfl
    | some o => exact absurd (Heap.lt_size (Mine.K.ext k _ _ e)) (Nat.not_lt.mpr ha)

theorem for_zip {a b : Str} {pa pb tp : Pos} {kk : Nat} {iter : Expr} {body rest : List Stmt} {pos : Pos} {Q : Flow → Shared → Prop} {l1 l2 : Addr} {vs us : List Value} {m₀ : Str → Option Value} (hh : A.handled = none) (hk : env.scope.kind = .function) (ha : env.kindOf a = some .local) (hb : env.kindOf b = some .local)
    (hit : Em prog w A (eval iter env) s (fun v s' => ZipOf s'.heap v l1 l2 s)) (hl1 : s.heap.IsList l1 vs.toArray) (hl2 : s.heap.IsList l2 us.toArray) (hlen : vs.length = us.length) (hn : s.heap.Ns env.locals m₀) (hL1 : env.locals ≠ l1) (hL2 : env.locals ≠ l2)
    (W : List Addr) (hW : ∀ b ∈ W, b ≠ l1 ∧ b ≠ l2 ∧ ∃ o, s.heap.get? b = some o) (Inv : Nat → (Str → Option Value) → Shared → Prop) (h0 : ∀ s', Keeps s s' → Inv 0 m₀ s')
    (hst : ∀ i m s₁ s' Z, (∀ b ∈ Z, s.heap.get? b = none) → (∀ b ∈ Z, ZOk s₁.heap b) → s₁.heap.Ns env.locals m → Inv i m s₁ → KB (env.locals :: Z) s₁ s' → Inv i m s')
    (turn : ∀ i x y m s, vs[i]? = some x → us[i]? = some y → Inv i m s → s.heap.Ns env.locals (fun z => if z = b then some y else if z = a then some x else m z) →
      ∀ E', wpAny (model prog w) A (execs body env) (fun f s'' => f = .next ∧ ∃ m'', KB W s s'' ∧ s''.heap.Ns env.locals m'' ∧ Inv (i + 1) m'' s'') E' s)
    (done : ∀ m s', s'.heap.Ns env.locals m → Inv vs.length m s' → wpAny (model prog w) A (execs rest env) Q E s')
    (hs : ∀ x, foldedSetIterable iter env x = pure x := by intro _; rfl) :
    wpAny (model prog w) A (execs (.For (.Tuple [.Name a pa, .Name b pb] kk tp) iter body [] pos :: rest) env) Q E s := by
  refine ex_for (fun E' => ?_) hs
  refine hit.use Mine.K.rfl fun x s₁ k₁ hz => ?_
  obtain ⟨n, rfl, hz1, hz2, hz3, hi1, hi2, hlt1, hlt2, hfr⟩ := hz
  refine wpAny_pyIter_zip hz1 fun X => ?_
  have D := zipApart_new hlt1 hlt2
  have Wk := WalksT.zip2 (prog := prog) (w := w) (A := A) hh (n + 4) (n + 2) (n + 3) n (n + 1) l1 l2 D vs.toArray us.toArray
  have hmin : min vs.toArray.size us.toArray.size = vs.length := by simp [hlen]
  rw [hmin] at Wk
  have hfr5 : ∀ b ∈ [n + 4, n + 3, n, n + 1], s.heap.get? b = none := by
    intro b hb
    simp only [List.mem_cons, List.not_mem_nil, or_false] at hb
    rcases hb with rfl | rfl | rfl | rfl
    · exact hfr _ (Nat.le_add_right _ _)
    · exact hfr _ (Nat.le_add_right _ _)
    · exact hfr _ (Nat.le_refl _)
    · exact hfr _ (Nat.le_add_right _ _)
  have hold : ∀ b o, s.heap.get? b = some o → b ≠ l1 → b ≠ l2 → b ∉ [n + 4, n + 2, n + 3, n, n + 1, l1, l2] := by
    intro b o e h1 h2 hm
    have nn : ∀ k, b ≠ n + k := fun k e' => by rw [e', hfr _ (Nat.le_add_right _ _)] at e; cases e
    simp only [List.mem_cons, List.not_mem_nil, or_false] at hm
    rcases hm with e' | e' | e' | e' | e' | e' | e'
    · exact nn 4 e'
    · exact nn 2 e'
    · exact nn 3 e'
    · exact nn 0 e'
    · exact nn 1 e'
    · exact h1 e'
    · exact h2 e'
  obtain ⟨oL, esL, epL, hoL, _⟩ := id hn
  have hLfp := hold _ _ hoL hL1 hL2
  refine codeAny_forLoop_any (fun k s' => ∃ i m, i ≤ vs.length ∧ k = vs.length + 1 - i ∧ ZipSt n l1 l2 vs us i s'.heap ∧ s'.heap.Ns env.locals m ∧ Inv i m s') ?_ (vs.length + 1)
    ⟨0, m₀, Nat.zero_le _, rfl, ⟨hz1, hz2, ⟨_, _, hz3⟩, hi1, hi2, ext_list hl1 (Mine.K.ext k₁), ext_list hl2 (Mine.K.ext k₁)⟩, hn.keeps (Mine.K.ext k₁), h0 _ k₁⟩
  rintro k s' ⟨i, m, hi, rfl, hS, hn', hI⟩
  have hZO : ∀ b ∈ [n + 4, n + 3, n, n + 1], ZOk s'.heap b := by
    obtain ⟨z1, z2, ⟨a', b', z3⟩, ⟨o4, z4, c4, _⟩, ⟨o5, z5, c5, _⟩, _⟩ := hS
    intro b hb o ho
    simp only [List.mem_cons, List.not_mem_nil, or_false] at hb
    rcases hb with rfl | rfl | rfl | rfl
    · rw [z1] at ho; cases ho; exact .inl rfl
    · rw [z3] at ho; cases ho; exact .inr (.inr ⟨_, _, rfl⟩)
    · rw [z4] at ho; cases ho; exact .inr (.inl c4)
    · rw [z5] at ho; cases ho; exact .inr (.inl c5)
  rcases Nat.lt_or_ge i vs.length with hlt | hge
  · refine Wk.item i s' _ _ hlt hS fun T vals h' tk hvals hTs hT hMid hk1 => ?_
    obtain ⟨x, y, hx, hy, rfl⟩ := hvals
    have hTw := Wk.apart i T h' hMid
    refine Wk.go _ _ _ i T { s' with heap := h', toks := tk } _ _ hMid fun h'' hS'' hk2 => ?_
    have hns : ∀ b o, b ∉ [n + 4, n + 3, n, n + 1] → s'.heap.get? b = some o → h''.get? b = some o := fun b o hb e => hk2 b o hb (hk1 b o hb e)
    have hLwr : env.locals ∉ [n + 4, n + 3, n, n + 1] := fun hm => hLfp (Wk.sub _ hm)
    have hn'' : h''.Ns env.locals m := hn'.at fun o e => hns _ o hLwr e
    have hT'' : IsTup h'' T [x, y].toArray := by
      obtain ⟨o, ho, hc, ne, hd⟩ := hT
      exact ⟨o, hk2 _ _ hTw ho, hc, ne, hd⟩
    refine as_tuple2 (s := { s' with heap := h'', toks := tk }) hh hT'' hn'' (fun s5 kb5 hn5 => ?_) ha hb hk
    have kbZ : KB (env.locals :: [n + 4, n + 3, n, n + 1]) s' s5 := KB.trans (s' := { s' with heap := h'', toks := tk }) ⟨h'', tk, rfl, fun b o hb e => hns b o (fun q => hb (List.mem_cons_of_mem _ q)) e⟩ (kb5.mono (by simp))
    have hI5 := hst i m s' s5 _ hfr5 hZO hn' hI kbZ
    refine wpAny_mono (turn i x y m s5 (by simpa using hx) (by simpa using hy) hI5 hn5 _) (fun f s6 h6 => ?_) fun _ _ e => e
    obtain ⟨rfl, m6, kb6, hn6, hI6⟩ := h6
    refine ⟨vs.length + 1 - (i + 1), by omega, i + 1, m6, hlt, rfl, ?_, hn6, hI6⟩
    refine Wk.frame (i + 1) h'' s6.heap hS'' fun b hb o e => kb6.get (kb5.get (s := { s' with heap := h'', toks := tk }) e (fun q => hLfp ?_)) (fun q => ?_)
    · rw [← List.mem_singleton.mp q]; exact hb
    · obtain ⟨h1, h2, o', ho'⟩ := hW b q
      exact hold b o' ho' h1 h2 hb
  · have hin : i = vs.length := by omega
    subst hin
    refine Wk.done s' _ _ hS fun h' tk hk1 => wpAny_execs_nil ?_
    have hLwr : env.locals ∉ [n + 4, n + 3, n, n + 1] := fun hm => hLfp (Wk.sub _ hm)
    have hn'' : h'.Ns env.locals m := hn'.at fun o e => hk1 _ o hLwr e
    exact done m _ hn'' (hst vs.length m s' _ _ hfr5 hZO hn' hI ⟨h', tk, rfl, fun b o hb e => hk1 b o (fun q => hb (List.mem_cons_of_mem _ q)) e⟩)

/-- a, b, c = v: a captured, b and c locals -/
theorem ex_tup3 {x a b : Str} {px pa pb tp pos : Pos} {kk : Nat} {value : Expr} {rest : List Stmt} {Q : Flow → Shared → Prop} {c : Addr} {v₀ : Option Value} {m : Str → Option Value} {P : Value → Value → Value → Shared → Prop} (hh : A.handled = none) (hk : env.scope.kind = .function)
    (hc : env.cells.lookup x = some c) (hv : s.heap.IsCell c v₀) (hn : s.heap.Ns env.locals m) (hcL : c ≠ env.locals)
    (h : Em prog w A (eval value env) s (fun v s' => ∃ t v1 v2 v3, v = .ref t ∧ IsTup s'.heap t [v1, v2, v3].toArray ∧ P v1 v2 v3 s'))
    (k : ∀ v1 v2 v3 s₁ s', Keeps s s₁ → P v1 v2 v3 s₁ → KB [c, env.locals] s₁ s' → s'.heap.IsCell c (some v1) → s'.heap.Ns env.locals (fun z => if z = b then some v3 else if z = a then some v2 else m z) → wpAny (model prog w) A (execs rest env) Q E s')
    (hx : env.kindOf x = some .cell := by rfl) (ha : env.kindOf a = some .local := by rfl) (hb : env.kindOf b = some .local := by rfl)
    (hs : swapsWithSole [.Tuple [.Name x px, .Name a pa, .Name b pb] kk tp] value pos.line env = pure false := by rfl)
    (hw : swappedStores [.Tuple [.Name x px, .Name a pa, .Name b pb] kk tp] value env = pure none := by rfl) :
    wpAny (model prog w) A (execs (.Assign [.Tuple [.Name x px, .Name a pa, .Name b pb] kk tp] value pos :: rest) env) Q E s := by
  refine ex_cons (Assign_Tuple (h.use Mine.K.rfl fun v s1 k1 hv1 => ?_) hs hw)
  obtain ⟨t, v1, v2, v3, rfl, ht, hP⟩ := hv1
  have hT : s1.heap.IsTuple t #[v1, v2, v3] := ht
  refine wpAny_assign_Tuple hh hT rfl rfl fun h₃ hx₃ => ?_
  replace hx₃ : Heap.ExtBut s1.heap.objs.size s1.heap h₃ := hx₃
  have e3 : Ext s1.heap h₃ := fun b o e => hx₃ b o (Nat.ne_of_lt (Heap.lt_size e)) e
  have k13 : Keeps s { s1 with heap := h₃ } := Mine.K.trans k1 (Mine.K.mkh e3)
  show wpAny _ _ (do holding [v2, v3] (assign (.Name x px) env v1); do holding [v3] (assign (.Name a pa) env v2); do holding [] (assign (.Name b pb) env v3); pure ()) _ _ _
  refine wpAny_bind (wpAny_holding (as_cell (s := { s1 with heap := h₃ }) hc (hv.keeps (Mine.K.ext k13)) (fun s4 kb4 hc4 => ?_) hx hk))
  have hn4 : s4.heap.Ns env.locals m := (hn.keeps (Mine.K.ext k13)).at fun o e => kb4.get (s := { s1 with heap := h₃ }) e (fun q => hcL (List.mem_singleton.mp q).symm)
  refine wpAny_bind (wpAny_holding (as_local hn4 (fun s5 kb5 hn5 => ?_) ha hk))
  refine wpAny_bind (wpAny_holding (as_local hn5 (fun s6 kb6 hn6 => wpAny_pure ?_) hb hk))
  have hcL' : c ∉ [env.locals] := fun q => hcL (List.mem_singleton.mp q)
  exact k v1 v2 v3 s1 s6 k1 hP (KB.trans (KB.of (Mine.K.mkh e3)) (KB.trans (kb4.mono (by simp)) (KB.trans (kb5.mono (by simp)) (kb6.mono (by simp))))) (cell_kb (cell_kb hc4 kb5 hcL') kb6 hcL') hn6

theorem ex_tup2 {a b : Str} {pa pb tp pos : Pos} {kk : Nat} {value : Expr} {rest : List Stmt} {Q : Flow → Shared → Prop} {m : Str → Option Value} {P : Value → Value → Shared → Prop} (hh : A.handled = none) (hk : env.scope.kind = .function)
    (hn : s.heap.Ns env.locals m) (h : Em prog w A (eval value env) s (fun v s' => ∃ t v1 v2, v = .ref t ∧ IsTup s'.heap t [v1, v2].toArray ∧ P v1 v2 s'))
    (k : ∀ v1 v2 s₁ s', Keeps s s₁ → P v1 v2 s₁ → KB [env.locals] s₁ s' → s'.heap.Ns env.locals (fun z => if z = b then some v2 else if z = a then some v1 else m z) → wpAny (model prog w) A (execs rest env) Q E s')
    (ha : env.kindOf a = some .local := by rfl) (hb : env.kindOf b = some .local := by rfl)
    (hs : swapsWithSole [.Tuple [.Name a pa, .Name b pb] kk tp] value pos.line env = pure false := by rfl)
    (hw : swappedStores [.Tuple [.Name a pa, .Name b pb] kk tp] value env = pure none := by rfl) :
    wpAny (model prog w) A (execs (.Assign [.Tuple [.Name a pa, .Name b pb] kk tp] value pos :: rest) env) Q E s := by
  refine ex_cons (Assign_Tuple (h.use Mine.K.rfl fun v s1 k1 hv1 => ?_) hs hw)
  obtain ⟨t, v1, v2, rfl, ht, hP⟩ := hv1
  exact as_tuple2 hh ht (hn.keeps (Mine.K.ext k1)) (fun s4 kb4 hn4 => k v1 v2 s1 s4 k1 hP kb4 hn4) ha hb hk
end
end Mine

namespace Mine

def Asc (ps : List Pt) : Prop := ps.Pairwise fun p q => tlt p q = true
def insPt (k : Nat) (p : Pt) (ps : List Pt) : List Pt := ps.take k ++ p :: ps.drop k

theorem tlt_iff {p q : Pt} : tlt p q = true ↔ (p.1 < q.1 ∨ (p.1 = q.1 ∧ p.2 < q.2)) := by simp [tlt]
theorem tlt_false {p q : Pt} : tlt p q = false ↔ ¬ (p.1 < q.1 ∨ (p.1 = q.1 ∧ p.2 < q.2)) := by simp only [tlt, decide_eq_false_iff_not]
theorem tlt_trans {p q r : Pt} (h : tlt p q = true) (h' : tlt q r = true) : tlt p r = true := by
  rw [tlt_iff] at *; omega
theorem tlt_not {p q : Pt} (h : tlt p q = true) : tlt q p = false := by
  rw [tlt_false]; rw [tlt_iff] at h; omega
theorem tlt_total {p q : Pt} (h : p ≠ q) (h' : tlt p q = false) : tlt q p = true := by
  rw [tlt_iff]; rw [tlt_false] at h'
  have : ¬ (p.1 = q.1 ∧ p.2 = q.2) := fun e => h (Prod.ext e.1 e.2)
  omega

theorem ins_spec {p : Pt} : ∀ {ps : List Pt}, Asc ps → p ∉ ps → ∃ k, k ≤ ps.length ∧ (∀ i, i < ps.length → tlt (ps.getD i (0, 0)) p = decide (i < k)) ∧ Asc (insPt k p ps)
  | [], _, _ => ⟨0, Nat.le_refl _, fun i h => absurd h (Nat.not_lt_zero _), by simp [insPt, Asc]⟩
  | q :: ps, ha, hp => by
    have ha' : (∀ r ∈ ps, tlt q r = true) ∧ Asc ps := List.pairwise_cons.mp ha
    have hq : p ≠ q := fun e => hp (e ▸ List.mem_cons_self ..)
    have hps : p ∉ ps := fun e => hp (List.mem_cons_of_mem _ e)
    cases hqp : tlt q p with
    | true =>
      obtain ⟨k, h1, h2, h3⟩ := ins_spec ha'.2 hps
      refine ⟨k + 1, Nat.succ_le_succ h1, fun i hi => ?_, ?_⟩
      · rcases i with _ | i
        · simp [hqp]
        · have := h2 i (by simpa using hi)
          simpa using this
      · refine List.pairwise_cons.mpr ⟨fun r hr => ?_, h3⟩
        rcases List.mem_append.mp hr with hr | hr
        · exact ha'.1 r (List.mem_of_mem_take hr)
        · rcases List.mem_cons.mp hr with rfl | hr
          · exact hqp
          · exact ha'.1 r (List.mem_of_mem_drop hr)
    | false =>
      have hpq := tlt_total hq.symm hqp
      refine ⟨0, Nat.zero_le _, fun i hi => ?_, ?_⟩
      · rcases i with _ | i
        · simpa using hqp
        · have hi' : i < ps.length := by simpa using hi
          have : tlt q (ps.getD i (0, 0)) = true := ha'.1 _ (by
            rw [List.getD_eq_getElem?_getD, List.getElem?_eq_getElem hi']; exact List.getElem_mem hi')
          have := tlt_not (tlt_trans hpq this)
          simpa using this
      · show Asc (p :: q :: ps)
        refine List.pairwise_cons.mpr ⟨fun r hr => ?_, ha⟩
        rcases List.mem_cons.mp hr with rfl | hr
        · exact hpq
        · exact tlt_trans hpq (ha'.1 r hr)

theorem asc_get {ps : List Pt} (ha : Asc ps) {i j : Nat} (hij : i < j) (hj : j < ps.length) : tlt (ps.getD i (0, 0)) (ps.getD j (0, 0)) = true := by
  have := List.pairwise_iff_getElem.mp ha i j (by omega) hj hij
  rw [List.getD_eq_getElem?_getD, List.getD_eq_getElem?_getD, List.getElem?_eq_getElem (by omega), List.getElem?_eq_getElem hj]
  exact this
end Mine

namespace Mine

/-! the law's own body and scope, as the row has them -/
def lawDef : Option (List Stmt × Scope) := match Challenge.pw_gr0002_01.main.body.getLast? with
  | some (.FunctionDef _ _ body _ _ _ scope _ _ _) => some (body, scope)
  | _ => none
def lawBody : List Stmt := (lawDef.map (·.1)).getD []
def lawScope : Scope := (lawDef.map (·.2)).getD { kind := .function, names := [], isGenerator := false, isCoroutine := false }
abbrev lawEnv (L fa : Addr) (cd : Value) : Env := envOfC (Str.ofString "law") lawScope L fa cd

def NotTup (h : Heap) (b : Addr) : Prop := ∀ o, h.get? b = some o → o.cls ≠ .type "tuple" ∨ ∀ vs n, o.data ≠ .seq vs n
theorem NotTup.ns {h : Heap} {b : Addr} {m : Str → Option Value} (x : h.Ns b m) : NotTup h b := by
  obtain ⟨o, es, ep, ho, hd, _⟩ := x
  intro o' ho'
  rw [ho] at ho'; cases ho'
  exact .inr fun vs n e => by rw [hd] at e; cases e
theorem NotTup.cell {h : Heap} {b : Addr} {v : Option Value} (x : h.IsCell b v) : NotTup h b := by
  obtain ⟨o, ho, hd⟩ := x
  intro o' ho'
  rw [ho] at ho'; cases ho'
  exact .inr fun vs n e => by rw [hd] at e; cases e
theorem NotTup.plain {h : Heap} {b : Addr} {items : Array Value} (x : h.PlainList b items) : NotTup h b := by
  obtain ⟨n, ho⟩ := x
  intro o' ho'
  rw [ho] at ho'; cases ho'
  exact .inl (by simp)
theorem NotTup.none {h : Heap} {b : Addr} (x : h.get? b = none) : NotTup h b := fun o ho => by rw [x] at ho; cases ho
theorem IsPt.kb {s s' : Shared} {W : List Addr} {v : Value} {p : Pt} (x : IsPt s.heap v p) (k : KB W s s') (h : ∀ b ∈ W, NotTup s.heap b) : IsPt s'.heap v p := by
  obtain ⟨a, t, u, r, o, ho, hc, n, hd⟩ := x
  refine ⟨a, t, u, r, o, k.get ho fun hm => ?_, hc, n, hd⟩
  rcases h a hm o ho with h | h
  · exact h hc
  · exact h _ _ hd
theorem Pts.kb {s s' : Shared} {W : List Addr} {vs : List Value} {ps : List Pt} (x : Pts s.heap vs ps) (k : KB W s s') (h : ∀ b ∈ W, NotTup s.heap b) : Pts s'.heap vs ps := ⟨x.1, fun i v p a b => (x.2 i v p a b).kb k h⟩

theorem Pts.ins {h : Heap} {vs : List Value} {ps : List Pt} {v : Value} {p : Pt} {k : Nat} (x : Pts h vs ps) (hv : IsPt h v p) (hk : k ≤ ps.length) : Pts h (insAt k v vs) (insPt k p ps) := by
  refine ⟨by have := x.1; simp [insAt, insPt, this], fun i u q hu hq => ?_⟩
  have hl := x.1
  unfold insAt at hu
  unfold insPt at hq
  rcases Nat.lt_trichotomy i k with h | h | h
  · rw [List.getElem?_append_left (by simp; omega), List.getElem?_take_of_lt h] at hu
    rw [List.getElem?_append_left (by simp; omega), List.getElem?_take_of_lt h] at hq
    exact x.2 i u q hu hq
  · subst h
    rw [List.getElem?_append_right (by simp; omega), List.length_take, Nat.min_eq_left (by omega), Nat.sub_self] at hu
    rw [List.getElem?_append_right (by simp; omega), List.length_take, Nat.min_eq_left (by omega), Nat.sub_self] at hq
    simp at hu hq
    subst hu hq
    exact hv
  · rw [List.getElem?_append_right (by simp; omega), List.length_take, Nat.min_eq_left (by omega)] at hu
    rw [List.getElem?_append_right (by simp; omega), List.length_take, Nat.min_eq_left (by omega)] at hq
    obtain ⟨d, hd⟩ : ∃ d, i - k = d + 1 := ⟨i - k - 1, by omega⟩
    rw [hd] at hu hq
    simp only [List.getElem?_cons_succ, List.getElem?_drop] at hu hq
    exact x.2 _ u q hu hq

section
variable {prog : Program} {w : World} {A : Around} {E : Value → Shared → Prop} {s s₀ : Shared} {env : Env}

theorem Mu.callF {func e : Expr} {rest : List Expr} {pos : Pos} {f : Addr} {o : Obj} {fd : FuncData} {W : List Addr} {PA : List Value → Shared → Prop} {P : Value → Shared → Prop} (hf : Ev prog w A env func s₀ (fun v => v = .ref f))
    (ho : s₀.heap.get? f = some o) (hd : o.data = .func fd)
    (ha : Ea prog w A env pos (e :: rest) s₀ PA) (hc : ∀ vs s, Keeps s₀ s → PA vs s → Mu prog w A (call (.ref f) vs) W s P)
    (hE : eval (.Call func (e :: rest) [] pos) env = (do callWith pos (← eval func env) [] (backTo pos (starEach (e :: rest) env)) (backToKw pos (keywordEach [] env))) := by rfl)
    (he : starEach (e :: rest) env = (false, eval e env) :: starEach rest env := by rfl) :
    Mu prog w A (eval (.Call func (e :: rest) [] pos) env) W s₀ P :=
  Mu.of fun s Q E k hQ => Call_ (hf.use k fun g s₁ k₁ e₁ => by
    subst e₁
    exact callWith_def hd (ha.use (Mine.K.trans k k₁) fun vs s₂ k₂ p₂ => ⟨(Mine.K.ext (Mine.K.trans k (Mine.K.trans k₁ k₂))) _ _ ho, (hc vs s₂ (Mine.K.trans k (Mine.K.trans k₁ k₂)) p₂).use Mine.K.rfl fun v s₃ k₃ p₃ => hQ v s₃ (KB.trans (KB.of (Mine.K.trans k₁ k₂)) k₃) p₃⟩) he) hE

theorem Em.pt {e1 e2 : Expr} {k : Nat} {pos : Pos} {a b : Int} (h1 : Ev prog w A env e1 s₀ (I a)) (h2 : Ev prog w A env e2 s₀ (I b))
    (he : starEach [e1, e2] env = (false, eval e1 env) :: starEach [e2] env := by rfl) (he' : starEach [e2] env = (false, eval e2 env) :: starEach [] env := by rfl) :
    Em prog w A (eval (.Tuple [e1, e2] k pos) env) s₀ (fun v s => IsPt s.heap v (a, b)) :=
  (Em.tuple (Ea.two h1 h2 he he') (fun vs s ⟨v, v', e, _⟩ => by subst e; exact Nat.le_trans (by decide : 2 ≤ 1000000) sizeLine_ge)).mono fun v s _ h => by
    obtain ⟨vs, s', x, ⟨v1, v2, rfl, ⟨t, rfl⟩, ⟨u, rfl⟩⟩, _, _, rfl, _, hx⟩ := h
    exact ⟨x, t, u, rfl, _, hx, rfl, _, rfl⟩

/-- the points -/
theorem law_points {n : Nat} (hA : AOk (n + 6) A) {sb : Shared} (gb : G w sb.heap) (kb0 : Keeps sb s) {L fa : Addr} {cd : Value} {m : Str → Option Value} {sc : Addr} {vs0 : List Value} {ns : List Int} {Q : Flow → Shared → Prop}
    (hn : s.heap.Ns L m) (hm : m (Str.ofString "script") = some (.ref sc)) (hsc : s.heap.IsList sc vs0.toArray) (hI : IntsAre vs0 ns) (hlen : ns.length ≤ 63)
    (hW0 : ∀ b ∈ [L, L + 1, L + 1 + 1], sb.heap.get? b = none) (c1 : s.heap.IsCell (L + 1) none) (c2 : s.heap.IsCell (L + 1 + 1) none)
    (k : ∀ s' P vs ps m', KB [L, L + 1, L + 1 + 1] s s' → s'.heap.Ns L m' → s'.heap.IsCell (L + 1) (some (.ref P)) → (∃ v, s'.heap.IsCell (L + 1 + 1) v) → s.heap.get? P = none → s'.heap.PlainList P (List.toArray vs) → Pts s'.heap vs ps → Asc ps → ps.length ≤ 10 →
      wpAny (model prog w) A (execs (lawBody.drop 2) (lawEnv L fa cd)) Q E s') :
    wpAny (model prog w) A (execs lawBody (lawEnv L fa cd)) Q E s := by
  have hLc1 : L ≠ L + 1 := Nat.ne_of_lt (Nat.lt_succ_self _)
  have hLc2 : L ≠ L + 1 + 1 := Nat.ne_of_lt (Nat.lt_succ_of_lt (Nat.lt_succ_self _))
  have hc12 : L + 1 ≠ L + 1 + 1 := Nat.ne_of_lt (Nat.lt_succ_self _)
  -- points = []
  refine ex_assign_cell (env := lawEnv L fa cd) (c := L + 1) rfl c1 (Em.list (P := fun vs _ => vs = []) (Ea.nil fun _ _ => rfl) (fun vs s e => by subst e; exact Nat.zero_le _)) ?_
  rintro v s2 s3 k2 ⟨_, s2', P, rfl, k2', k2'', rfl, hP0, hP⟩ kb3 c13
  have hPc : P ≠ L + 1 := by
    rintro rfl
    obtain ⟨o, ho, _⟩ := c1
    have := Mine.K.ext k2' _ _ ho
    rw [hP0] at this; cases this
  have hPs : s.heap.get? P = none := none_of k2' hP0
  have hPL : P ≠ L := by
    rintro rfl
    obtain ⟨o, _, _, ho, _⟩ := hn
    rw [hPs] at ho; cases ho
  have hPc2 : P ≠ L + 1 + 1 := by
    rintro rfl
    obtain ⟨o, ho, _⟩ := c2
    rw [hPs] at ho; cases ho
  have kb13 : KB [L, L + 1, L + 1 + 1] s s3 := KB.trans (KB.of k2) (kb3.mono (by simp))
  have hn3 : s3.heap.Ns L m := (hn.keeps (Mine.K.ext k2)).at fun o e => kb3.get e (fun q => hLc1 (List.mem_singleton.mp q))
  have c23 : s3.heap.IsCell (L + 1 + 1) none := cell_kb (c2.keeps (Mine.K.ext k2)) kb3 (fun q => hc12 (List.mem_singleton.mp q).symm)
  have hP3 : s3.heap.PlainList P ([] : List Value).toArray := plain_kb ⟨0, hP⟩ kb3 (fun q => hPc (List.mem_singleton.mp q))
  have hscc : sc ≠ L + 1 := by
    rintro rfl
    obtain ⟨o, ho, hcl, _⟩ := hsc
    obtain ⟨o', ho', hd⟩ := c1
    rw [ho] at ho'; cases ho'
    rename_i ne
    obtain ⟨n', hd'⟩ := ne
    rw [hd'] at hd; cases hd
  have hsc3 : s3.heap.IsList sc vs0.toArray := (ext_list hsc (Mine.K.ext k2)).at fun o e => kb3.get e (fun q => hscc (List.mem_singleton.mp q))
  have toG : ∀ s', KB [L, L + 1, L + 1 + 1] s s' → G w s'.heap := fun s' kb => gb.k (KB.keeps kb0 kb hW0)
  have hin := IntsAre.take hI 10
  refine for_list (env := lawEnv L fa cd) (items := vs0.take 10) [P, L, L + 1 + 1] hA.hh ((Em.slice_upto (k := 10) (Ev.local hn3 hm rfl) Ev.int hsc3 (by rw [hI.length]; omega)).mono fun v s4 k4 ⟨D, e, hD0, hD⟩ => ⟨D, e, hD.isList, ?hDW⟩) ?hW
    (fun i s' => ∃ vs ps m', KB [L, L + 1, L + 1 + 1] s s' ∧ s'.heap.Ns L m' ∧ s'.heap.IsCell (L + 1) (some (.ref P)) ∧ (∃ v, s'.heap.IsCell (L + 1 + 1) v) ∧ s'.heap.PlainList P (List.toArray vs) ∧ Pts s'.heap vs ps ∧ Asc ps ∧ ps.length ≤ i) ?h0 ?hst ?turn ?done (.inl fun _ _ => rfl)
  case hDW =>
    intro hm
    obtain ⟨oL, _, _, hoL, _⟩ := hn3
    obtain ⟨oP, hoP⟩ := hP3
    obtain ⟨oc, hoc, _⟩ := c23
    simp only [List.mem_cons, List.not_mem_nil, or_false] at hm
    rcases hm with rfl | rfl | rfl
    · rw [hD0] at hoP; cases hoP
    · rw [hD0] at hoL; cases hoL
    · rw [hD0] at hoc; cases hoc
  case hW =>
    intro b hb
    obtain ⟨oL, _, _, hoL, _⟩ := hn3
    obtain ⟨oP, hoP⟩ := hP3
    obtain ⟨oc, hoc, _⟩ := c23
    simp only [List.mem_cons, List.not_mem_nil, or_false] at hb
    rcases hb with rfl | rfl | rfl
    · exact ⟨_, hoP⟩
    · exact ⟨_, hoL⟩
    · exact ⟨_, hoc⟩
  case h0 =>
    intro s' k'
    exact ⟨[], [], m, KB.trans kb13 (KB.of k'), hn3.keeps (Mine.K.ext k'), c13.keeps (Mine.K.ext k'), ⟨_, c23.keeps (Mine.K.ext k')⟩, ext_plain hP3 (Mine.K.ext k'), ⟨rfl, fun i v p h => by simp at h⟩, List.Pairwise.nil, Nat.le_refl _⟩
  case hst =>
    rintro i s4 s5 J hJ ⟨oJ, hoJ, hcJ⟩ ⟨vs, ps, m', kb, hn4, c14, ⟨v2, c24⟩, hP4, hpts, hasc, hl⟩ kb5
    have hJs : s.heap.get? J = none := by
      cases e : s.heap.get? J with
      | none => rfl
      | some o =>
        exfalso
        by_cases hc : J = L + 1
        · obtain ⟨o, ho, _⟩ := c13; rw [← hc, hJ] at ho; cases ho
        · have := kb3.get (Mine.K.ext k2 _ _ e) (fun q => hc (List.mem_singleton.mp q))
          rw [hJ] at this; cases this
    have nJ : ∀ b o, s3.heap.get? b = some o → b ∉ [J] := fun b o e q => by rw [List.mem_singleton.mp q, hJ] at e; cases e
    obtain ⟨oL, _, _, hoL, _⟩ := id hn3
    obtain ⟨oP, hoP⟩ := id hP3
    obtain ⟨oc, hoc, _⟩ := id c23
    obtain ⟨oc1, hoc1, _⟩ := id c13
    refine ⟨vs, ps, m', KB.from kb kb5 (fun b hb _ => by rw [List.mem_singleton.mp hb]; exact hJs), hn4.at fun o e => kb5.get e (nJ _ _ hoL), cell_kb c14 kb5 (nJ _ _ hoc1), ⟨v2, cell_kb c24 kb5 (nJ _ _ hoc)⟩, plain_kb hP4 kb5 (nJ _ _ hoP), hpts.kb kb5 (fun b hb => ?_), hasc, hl⟩
    rw [List.mem_singleton.mp hb]
    intro o ho
    rw [hoJ] at ho; cases ho
    exact .inl (by rw [hcJ]; simp)
  case done =>
    rintro s4 ⟨vs, ps, m', kb, hn4, c14, ⟨v2, c24⟩, hP4, hpts, hasc, hl⟩
    refine k s4 P vs ps m' kb hn4 c14 ⟨v2, c24⟩ hPs hP4 hpts hasc (Nat.le_trans hl ?_)
    rw [List.length_take]; exact Nat.min_le_left _ _
  case turn =>
    rintro i v s4 hv ⟨vs, ps, m', kb, hn4, c14, ⟨v2, c24⟩, hP4, hpts, hasc, hl⟩ E'
    have hv0 : vs0[i]? = some v := by
      rw [List.getElem?_take] at hv
      split at hv
      · exact hv
      · cases hv
    have hi10 : i < 10 := by
      rw [List.getElem?_take] at hv
      split at hv
      · assumption
      · cases hv
    have hi0 : i < ns.length := by rw [← hI.length]; exact (List.getElem?_eq_some_iff.mp hv0).1
    obtain ⟨t, ht⟩ := hI.get i _ (List.getElem?_eq_getElem hi0)
    rw [hv0] at ht
    obtain rfl : v = .int ns[i] t := by simpa using ht
    generalize ns[i] = z at *
    refine as_cell (c := L + 1 + 1) rfl c24 fun s5 kb5 c25 => ?_
    have hn5 := hn4.at fun o e => kb5.get e (fun q => hLc2 (List.mem_singleton.mp q))
    have c15 := cell_kb c14 kb5 (fun q => hc12 (List.mem_singleton.mp q))
    have hP5 := plain_kb hP4 kb5 (fun q => hPc2 (List.mem_singleton.mp q))
    have hpts5 := hpts.kb kb5 (fun b hb => by rw [List.mem_singleton.mp hb]; exact NotTup.cell c24)
    have kb15 : KB [L, L + 1, L + 1 + 1] s s5 := KB.trans kb (kb5.mono (by simp))
    refine ex_assign (x := Str.ofString "point") hn5 (Em.pt (Ev.fdiv (Ev.mod (Ev.cell (c := L + 1 + 1) rfl c25 ⟨_, rfl⟩) Ev.int (by decide)) Ev.int (by decide) (PyProof.noPylong_small (by omega))) (Ev.mod (Ev.cell (c := L + 1 + 1) rfl c25 ⟨_, rfl⟩) Ev.int (by decide))) ?_
    intro pv s6 s7 k6 hpv kb7 hn7
    generalize ((z % 25 / 5, z % 5) : Pt) = p at hpv
    have hpv7 : IsPt s7.heap pv p := hpv.kb kb7 (fun b hb => by rw [List.mem_singleton.mp hb]; exact NotTup.ns (hn5.keeps (Mine.K.ext k6)))
    have hpts7 := (hpts5.ext (Mine.K.ext k6)).kb kb7 (fun b hb => by rw [List.mem_singleton.mp hb]; exact NotTup.ns (hn5.keeps (Mine.K.ext k6)))
    have hLs : ∀ {b}, b ≠ L → b ∉ [L] := fun h q => h (List.mem_singleton.mp q)
    have c17 := cell_kb (c15.keeps (Mine.K.ext k6)) kb7 (hLs hLc1.symm)
    have c27 := cell_kb (c25.keeps (Mine.K.ext k6)) kb7 (hLs hLc2.symm)
    have hP7 := plain_kb (ext_plain hP5 (Mine.K.ext k6)) kb7 (hLs hPL)
    have kb17 : KB [L, L + 1, L + 1 + 1] s s7 := KB.trans kb15 (KB.trans (KB.of k6) (kb7.mono (by show ∀ b ∈ [L], _; simp)))
    have kb47 : KB [P, L, L + 1 + 1] s4 s7 := KB.trans (kb5.mono (by simp)) (KB.trans (KB.of k6) (kb7.mono (by show ∀ b ∈ [L], _; simp)))
    refine ex_if (b := decide (p ∉ ps)) (EvT.cmp ⟨rfl, fun y => y = pv, R P, Ev.local hn7 upd_eq rfl, Ev.cell (c := L + 1) rfl c17 rfl, fun u v s8 k8 e1 e2 => ?_⟩) fun s8 k8 => ?_
    · subst e1; cases e2
      exact Em.notIn_pts hA (ext_plain hP7 (Mine.K.ext k8)) (hpts7.ext (Mine.K.ext k8)) (hpv7.ext (Mine.K.ext k8))
    have hn8 := hn7.keeps (Mine.K.ext k8)
    have c18 := c17.keeps (Mine.K.ext k8)
    have c28 := c27.keeps (Mine.K.ext k8)
    have hP8 := ext_plain hP7 (Mine.K.ext k8)
    have hpts8 := hpts7.ext (Mine.K.ext k8)
    have hpv8 := hpv7.ext (Mine.K.ext k8)
    have kb18 := KB.trans kb17 (KB.of k8)
    have kb48 := KB.trans kb47 (KB.of k8)
    have hlv := hpts.1
    by_cases hp : p ∉ ps
    · rw [if_pos (by simpa using hp)]
      obtain ⟨kk, hk1, hk2, hk3⟩ := ins_spec hasc hp
      have g8 := toG _ kb18
      refine ex_expr (W := [P]) (P := fun _ s' => s'.heap.PlainList P (insAt kk pv vs).toArray) (Mu.callF (f := 23) (Ev.fn g8 rfl rfl) (g8.kin _ _ rfl) rfl (Ea.two (P := R P) (P' := fun y => y = pv) (Ev.cell (c := L + 1) rfl c18 rfl) (Ev.local hn8 upd_eq rfl)) fun vs' s9 k9 p9 => ?_) fun v s9 kb9 hP9 => ?_
      · obtain ⟨v1, v2, rfl, rfl, rfl⟩ := p9
        refine insort_spec (n := n + 4) (hA.le (by omega)) (g8.k k9) (ext_plain hP8 (Mine.K.ext k9)) (by omega) (by omega) fun i hi A' s' hA' k' => ?_
        have hi' : i < ps.length := by rw [← hlv]; simpa using hi
        obtain ⟨vi, hvi, hpi⟩ := hpts8.at hi'
        have e : vs.toArray[i] = vi := by
          have : vs.toArray[i]? = some vi := by simpa using hvi
          rw [Array.getElem?_eq_getElem hi] at this
          exact Option.some.inj this
        rw [e, ← hk2 i hi']
        exact Em.lt_pt hA' ((hpi.ext (Mine.K.ext k9)).ext (Mine.K.ext k')) ((hpv8.ext (Mine.K.ext k9)).ext (Mine.K.ext k'))
      have hPs9 : ∀ {b}, b ≠ P → b ∉ [P] := fun h q => h (List.mem_singleton.mp q)
      have nt : ∀ b ∈ [P], NotTup s8.heap b := fun b hb => by rw [List.mem_singleton.mp hb]; exact NotTup.plain hP8
      refine wpAny_execs_nil (wpAny_execs_nil ⟨KB.trans kb48 (kb9.mono (by simp)), insAt kk pv vs, insPt kk p ps, _, KB.from kb18 kb9 (fun b hb _ => by rw [List.mem_singleton.mp hb]; exact hPs), hn8.at fun o e => kb9.get e (hPs9 hPL.symm), cell_kb c18 kb9 (hPs9 hPc.symm), ⟨_, cell_kb c28 kb9 (hPs9 hPc2.symm)⟩, hP9, (hpts8.kb kb9 nt).ins (hpv8.kb kb9 nt) hk1, hk3, ?_⟩)
      simp [insPt]; omega
    · rw [if_neg (by simpa using hp)]
      exact wpAny_execs_nil (wpAny_execs_nil ⟨kb48, vs, ps, _, kb18, hn8, c18, ⟨_, c28⟩, hP8, hpts8, hasc, by omega⟩)
end
end Mine

namespace Mine

def ToldOk (w : World) (h : Heap) (x : Addr) : Prop := ∃ l c0 c1 t0 t1 t2 t3, Told w h x l ∧ h.PlainList l [.ref c0, .ref c1].toArray ∧ IsTup h c0 [.int 0 t0, .int 1 t1].toArray ∧ IsTup h c1 [.int 1 t2, .int 1 t3].toArray
theorem ToldOk.ext {w : World} {h h' : Heap} {x : Addr} (a : ToldOk w h x) (e : Ext h h') : ToldOk w h' x := by
  obtain ⟨l, c0, c1, t0, t1, t2, t3, h1, h2, h3, h4⟩ := a
  exact ⟨l, c0, c1, t0, t1, t2, t3, h1.ext e, ext_plain h2 e, h3.keeps e, h4.keeps e⟩

section
variable {prog : Program} {w : World} {A : Around} {E : Value → Shared → Prop} {s s₀ : Shared} {env : Env}

theorem Em.callC {func e : Expr} {rest : List Expr} {pos : Pos} {f : Addr} {PA : List Value → Shared → Prop} {P : Value → Shared → Prop} (g : G w s₀.heap) (hf : Ev prog w A env func s₀ (fun v => v = .ref f))
    (hk : keepIn (KF w) (.ref f) = true)
    (ha : Ea prog w A env pos (e :: rest) s₀ PA) (hc : ∀ vs s, Keeps s₀ s → PA vs s → Em prog w A (call (.ref f) vs) s P)
    (hE : eval (.Call func (e :: rest) [] pos) env = (do callWith pos (← eval func env) [] (backTo pos (starEach (e :: rest) env)) (backToKw pos (keywordEach [] env))) := by rfl)
    (he : starEach (e :: rest) env = (false, eval e env) :: starEach rest env := by rfl) (hplain : (backTo pos (starEach rest env)).any (·.1) = false := by rfl) :
    Em prog w A (eval (.Call func (e :: rest) [] pos) env) s₀ P :=
  Em.of fun s Q E k hQ => Call_ (hf.use k fun g' s₁ k₁ e₁ => by
    subst e₁
    exact callWith_K (K := KF w) (h₀ := s₁.heap) (first := []) (g.k (Mine.K.trans k k₁)).kin hk (ha.use (Mine.K.trans k k₁) fun vs s₂ k₂ p₂ => ⟨(g.k (Mine.K.trans k (Mine.K.trans k₁ k₂))).kin, (hc vs s₂ (Mine.K.trans k (Mine.K.trans k₁ k₂)) p₂).use Mine.K.rfl fun v s₃ k₃ p₃ => hQ v s₃ (Mine.K.trans k₁ (Mine.K.trans k₂ k₃)) p₃⟩) he hplain) hE

theorem Em.compareCall {o e : Expr} {rest : List Expr} {apos pos : Pos} {x l : Addr} {pl : Sem Bool} {PA : List Value → Shared → Prop} {P : Value → Shared → Prop} (g : G w s₀.heap) (ho : Ev prog w A env o s₀ (R x)) (ht : Told w s₀.heap x l)
    (ha : Ea prog w A env pos (e :: rest) s₀ PA) (hc : ∀ vs s, Keeps s₀ s → PA vs s → Em prog w A (call (.ref 53) (.ref x :: vs)) s P)
    (hE : eval (.Call (.Attribute o (Str.ofString "compare") apos) (e :: rest) [] pos) env = (do
      let ov ← eval o env
      standAt apos.atName
      let (f, first) ← PySem.holding [ov] (getMethod ov (Str.ofString "compare") pl)
      callWith pos f first (backTo pos (starEach (e :: rest) env)) (backToKw pos (keywordEach [] env))) := by rfl)
    (he : starEach (e :: rest) env = (false, eval e env) :: starEach rest env := by rfl) (hplain : (backTo pos (starEach rest env)).any (·.1) = false := by rfl) :
    Em prog w A (eval (.Call (.Attribute o (Str.ofString "compare") apos) (e :: rest) [] pos) env) s₀ P :=
  Em.of fun s Q E k hQ => methodCall_KW (ho.use k fun v s₁ k₁ e₁ => by
    cases e₁
    have g1 := g.k (Mine.K.trans k k₁)
    obtain ⟨dx, nn, kh, tt, hx3, hd3⟩ := ht.ext (Mine.K.ext (Mine.K.trans k k₁))
    refine method_fn (K := KF w) (f := 53) (od := some (W.dictOf [⟨kh, .str (Str.ofString "comp_select_list") tt, .ref l⟩] nn)) g1.kin ⟨hx3, rfl, rfl, hd3⟩ rfl rfl rfl rfl rfl ?_
    exact callWith_K (K := KF w) (h₀ := s₁.heap) (first := [.ref x]) g1.kin rfl (ha.use (Mine.K.trans k k₁) fun vs s₂ k₂ p₂ => ⟨(g.k (Mine.K.trans k (Mine.K.trans k₁ k₂))).kin, (hc vs s₂ (Mine.K.trans k (Mine.K.trans k₁ k₂)) p₂).use Mine.K.rfl fun v s₃ k₃ p₃ => hQ v s₃ (Mine.K.trans k₁ (Mine.K.trans k₂ k₃)) p₃⟩) he hplain) hE

theorem EvT.cmpH {l r : Expr} {op : CmpOp} {pos : Pos} {b : Bool} {P : Value → Shared → Prop} {P' : Value → Value → Shared → Prop} (h1 : Em prog w A (eval l env) s₀ P)
    (h2 : ∀ a s₁, Keeps s₀ s₁ → P a s₁ → Em prog w A (eval r env) s₁ (P' a)) (h : ∀ x y s₂, Keeps s₀ s₂ → P' x y s₂ → Em prog w A (compareOp op x y) s₂ (fun v _ => v = .bool b))
    (hm : behindInMarks op r = false := by with_unfolding_all rfl) : EvT prog w A env (.Compare l [op] [r] pos) s₀ b :=
  Em.of fun s Q E k hQ => wpAny_isTrue_Compare1 (h1.use k fun a s₁ k₁ p₁ => (h2 a s₁ (Mine.K.trans k k₁) p₁).use Mine.K.rfl fun b s₂ k₂ p₂ =>
    (h a b s₂ (Mine.K.trans k (Mine.K.trans k₁ k₂)) p₂).use Mine.K.rfl fun v s₃ k₃ p₃ => by subst p₃; exact wpAny_truthy_bool (hQ _ s₃ (Mine.K.trans k₁ (Mine.K.trans k₂ k₃)) rfl)) hm

/-- [] -/
theorem Em.nil {pos : Pos} : Em prog w A (eval (.List [] pos) env) s₀ (fun v s => ∃ a, v = .ref a ∧ s₀.heap.get? a = none ∧ s.heap.PlainList a ([] : List Value).toArray) :=
  (Em.list (P := fun vs _ => vs = []) (Ea.nil fun _ _ => rfl) (fun vs s e => by subst e; exact Nat.zero_le _)).mono fun v s _ h => by
    obtain ⟨vs, s', a, rfl, k1, k2, rfl, h0, h⟩ := h
    exact ⟨a, rfl, none_of k1 h0, 0, h⟩

/-- a list that reads as xs, against [] -/
theorem EvT.ne_nil {n : Nat} (hA : AOk n A) {l : Expr} {lp pos : Pos} {xs : List PyData} (hc : PyData.canLayAll0 xs = true) (h1 : Em prog w A (eval l env) s₀ (fun v s => ∃ a vs as, v = .ref a ∧ s.heap.PlainList a (List.toArray vs) ∧ ReadsAll s.heap vs xs as)) :
    EvT prog w A env (.Compare l [.NotEq] [.List [] lp] pos) s₀ (decide (xs ≠ [])) :=
  EvT.cmpH (P' := fun x y s => (∃ a vs as, x = .ref a ∧ s.heap.PlainList a (List.toArray vs) ∧ ReadsAll s.heap vs xs as) ∧ ∃ b, y = .ref b ∧ s.heap.PlainList b ([] : List Value).toArray) h1
    (fun a s₁ k₁ ⟨l, vs, as, e, p, r⟩ => Em.nil.mono fun v s₂ k₂ ⟨b, e', _, p'⟩ => ⟨⟨l, vs, as, e, ext_plain p (Mine.K.ext k₂), ReadsAll.keeps (Mine.K.ext k₂) r⟩, b, e', p'⟩)
    (fun x y s₂ k₂ ⟨⟨l, vs, as, e, p, r⟩, b, e', p'⟩ => by subst e e'; exact Em.ne_nil hA p r hc p') rfl
theorem EvT.eq_nil {n : Nat} (hA : AOk n A) {l : Expr} {lp pos : Pos} {xs : List PyData} (hc : PyData.canLayAll0 xs = true) (h1 : Em prog w A (eval l env) s₀ (fun v s => ∃ a vs as, v = .ref a ∧ s.heap.PlainList a (List.toArray vs) ∧ ReadsAll s.heap vs xs as)) :
    EvT prog w A env (.Compare l [.Eq] [.List [] lp] pos) s₀ (decide (xs = [])) :=
  EvT.cmpH (P' := fun x y s => (∃ a vs as, x = .ref a ∧ s.heap.PlainList a (List.toArray vs) ∧ ReadsAll s.heap vs xs as) ∧ ∃ b, y = .ref b ∧ s.heap.PlainList b ([] : List Value).toArray) h1
    (fun a s₁ k₁ ⟨l, vs, as, e, p, r⟩ => Em.nil.mono fun v s₂ k₂ ⟨b, e', _, p'⟩ => ⟨⟨l, vs, as, e, ext_plain p (Mine.K.ext k₂), ReadsAll.keeps (Mine.K.ext k₂) r⟩, b, e', p'⟩)
    (fun x y s₂ k₂ ⟨⟨l, vs, as, e, p, r⟩, b, e', p'⟩ => by subst e e'; exact Em.eq_nil hA p r hc p') rfl
end
end Mine

namespace Mine

/-- what stands from the points on -/
structure LC (w : World) (sb : Shared) (L P : Addr) (vs : List Value) (ps : List Pt) (s : Shared) : Prop where
  gb : G w sb.heap
  kb : Keeps sb s
  c1 : s.heap.IsCell (L + 1) (some (.ref P))
  lst : s.heap.PlainList P (List.toArray vs)
  pts : Pts s.heap vs ps
  asc : Asc ps
  len : ps.length ≤ 10

theorem LC.g {w : World} {sb : Shared} {L P : Addr} {vs : List Value} {ps : List Pt} {s : Shared} (x : LC w sb L P vs ps s) : G w s.heap := x.gb.k x.kb
theorem LC.k {w : World} {sb : Shared} {L P : Addr} {vs : List Value} {ps : List Pt} {s s' : Shared} (x : LC w sb L P vs ps s) (k : Keeps s s') : LC w sb L P vs ps s' :=
  ⟨x.gb, Mine.K.trans x.kb k, x.c1.keeps (Mine.K.ext k), ext_plain x.lst (Mine.K.ext k), x.pts.ext (Mine.K.ext k), x.asc, x.len⟩
theorem LC.step {w : World} {sb : Shared} {L P : Addr} {vs : List Value} {ps : List Pt} {s s' : Shared} {W : List Addr} (x : LC w sb L P vs ps s) (k : KB W s s') (h1 : ∀ b ∈ W, sb.heap.get? b = none) (h2 : L + 1 ∉ W) (h3 : P ∉ W) (h4 : ∀ b ∈ W, NotTup s.heap b) : LC w sb L P vs ps s' :=
  ⟨x.gb, KB.keeps x.kb k h1, cell_kb x.c1 k h2, plain_kb x.lst k h3, x.pts.kb k h4, x.asc, x.len⟩
theorem LC.Pne {w : World} {sb : Shared} {L P : Addr} {vs : List Value} {ps : List Pt} {s : Shared} (x : LC w sb L P vs ps s) {b : Addr} {v : Option Value} (h : s.heap.IsCell b v) : P ≠ b := by
  rintro rfl
  obtain ⟨n, hn⟩ := x.lst
  obtain ⟨o, ho, hd⟩ := h
  rw [hn] at ho; cases ho; cases hd
theorem LC.PneL {w : World} {sb : Shared} {L P : Addr} {vs : List Value} {ps : List Pt} {s : Shared} (x : LC w sb L P vs ps s) {b : Addr} {m : Str → Option Value} (h : s.heap.Ns b m) : P ≠ b := by
  rintro rfl
  obtain ⟨n, hn⟩ := x.lst
  obtain ⟨o, es, ep, ho, hd, _⟩ := h
  rw [hn] at ho; cases ho; cases hd

abbrev W6 (L : Addr) : List Addr := [L, L + 1, L + 1 + 1, L + 1 + 1 + 1, L + 1 + 1 + 1 + 1, L + 1 + 1 + 1 + 1 + 1]

theorem ToldOk.kb {w : World} {s s' : Shared} {W : List Addr} {x : Addr} (a : ToldOk w s.heap x) (k : KB W s s') (h : ∀ b ∈ W, ∃ v, s.heap.IsCell b v) : ToldOk w s'.heap x := by
  obtain ⟨l, c0, c1, t0, t1, t2, t3, ⟨dx, n, kk, t, h1, h2⟩, ⟨n3, h3⟩, ⟨o4, h4, hc4, n4, hd4⟩, ⟨o5, h5, hc5, n5, hd5⟩⟩ := a
  have key : ∀ b o, s.heap.get? b = some o → (∀ v, o.data ≠ .cell v) → s'.heap.get? b = some o := fun b o e hd => k.get e fun hm => by
    obtain ⟨v, o', ho', hd'⟩ := h b hm
    rw [e] at ho'; cases ho'
    exact hd v hd'
  exact ⟨l, c0, c1, t0, t1, t2, t3, ⟨dx, n, kk, t, key _ _ h1 (by simp), key _ _ h2 (by simp)⟩, ⟨n3, key _ _ h3 (by simp)⟩, ⟨o4, key _ _ h4 (by rw [hd4]; simp), hc4, n4, hd4⟩, ⟨o5, key _ _ h5 (by rw [hd5]; simp), hc5, n5, hd5⟩⟩

theorem lt1 (L : Nat) (k : Nat) : L ≠ L + k + 1 := Nat.ne_of_lt (Nat.lt_succ_of_le (Nat.le_add_right L k))
theorem cmp_lt {p q : Pt} (h : tlt p q = true) : cmpOf p q = -1 := by
  rw [tlt_iff] at h
  rcases h with h | ⟨h1, h2⟩
  · simp [cmpOf, h]
  · simp [cmpOf, h1, h2]

section
variable {prog : Program} {w : World} {A : Around} {E : Value → Shared → Prop} {s s₀ : Shared} {env : Env}

theorem law_check {n : Nat} (hA : AOk (n + 6) A) {sb : Shared} {L P fa : Addr} {cd : Value} {vs : List Value} {ps : List Pt} {m : Str → Option Value} {Q : Flow → Shared → Prop} (x : LC w sb L P vs ps s) (hW : ∀ b ∈ W6 L, sb.heap.get? b = none)
    (hn : s.heap.Ns L m) (c3 : s.heap.IsCell (L + 1 + 1 + 1) none)
    (k : ∀ s', KB [L + 1 + 1 + 1] s s' → LC w sb L P vs ps s' → s'.heap.Ns L m → wpAny (model prog w) A (execs (lawBody.drop 4) (lawEnv L fa cd)) Q E s') :
    wpAny (model prog w) A (execs (lawBody.drop 2) (lawEnv L fa cd)) Q E s := by
  have g := x.g
  -- told
  refine ex_assign_cell (env := lawEnv L fa cd) (c := L + 1 + 1 + 1) (P := fun v s => ∃ t, v = .ref t ∧ ToldOk w s.heap t) rfl c3 (Em.callC (f := 56) g (Ev.fn g rfl rfl) rfl
    (PA := fun vs s => ∃ l c0 c1 t0 t1 t2 t3, vs = [.ref l] ∧ s.heap.PlainList l [.ref c0, .ref c1].toArray ∧ IsTup s.heap c0 [.int 0 t0, .int 1 t1].toArray ∧ IsTup s.heap c1 [.int 1 t2, .int 1 t3].toArray)
    (Ea.cons (P := fun v s => ∃ l c0 c1 t0 t1 t2 t3, v = .ref l ∧ s.heap.PlainList l [.ref c0, .ref c1].toArray ∧ IsTup s.heap c0 [.int 0 t0, .int 1 t1].toArray ∧ IsTup s.heap c1 [.int 1 t2, .int 1 t3].toArray)
      ((Em.list (P := fun vs s => ∃ c0 c1 t0 t1 t2 t3, vs = [.ref c0, .ref c1] ∧ IsTup s.heap c0 [.int 0 t0, .int 1 t1].toArray ∧ IsTup s.heap c1 [.int 1 t2, .int 1 t3].toArray)
        (Ea.cons (Em.pt Ev.int Ev.int) fun v1 s1 k1 h1 => Ea.cons (Em.pt Ev.int Ev.int) fun v2 s2 k2 h2 => Ea.nil fun s3 k3 => ?args) ?sz).mono ?lst) fun v s1 k1 h1 => Ea.nil fun s2 k2 => ?one) fun vs' s1 k1 h1 => ?call) ?_
  case args =>
    obtain ⟨c0, t0, t1, rfl, i0⟩ := h1
    obtain ⟨c1, t2, t3, rfl, i1⟩ := h2
    exact ⟨c0, c1, t0, t1, t2, t3, rfl, i0.keeps (Mine.K.ext (Mine.K.trans k2 k3)), i1.keeps (Mine.K.ext k3)⟩
  case sz =>
    rintro vs s ⟨c0, c1, t0, t1, t2, t3, rfl, _⟩
    exact Nat.le_trans (by decide : 2 ≤ 1000000) sizeLine_ge
  case lst =>
    rintro v s1 k1 ⟨_, s', a, ⟨c0, c1, t0, t1, t2, t3, rfl, i0, i1⟩, k2, k3, rfl, _, ha⟩
    exact ⟨a, c0, c1, t0, t1, t2, t3, rfl, ⟨0, ha⟩, i0.keeps (Mine.K.ext k3), i1.keeps (Mine.K.ext k3)⟩
  case one =>
    obtain ⟨l, c0, c1, t0, t1, t2, t3, rfl, hl, i0, i1⟩ := h1
    exact ⟨l, c0, c1, t0, t1, t2, t3, rfl, ext_plain hl (Mine.K.ext k2), i0.keeps (Mine.K.ext k2), i1.keeps (Mine.K.ext k2)⟩
  case call =>
    obtain ⟨l, c0, c1, t0, t1, t2, t3, rfl, hl, i0, i1⟩ := h1
    refine (told_new (n := n + 3) (hA.le (by omega)) (g.k k1)).mono fun v s2 k2 ⟨t, e, _, ht⟩ => ⟨t, e, l, c0, c1, t0, t1, t2, t3, ht, ext_plain hl (Mine.K.ext k2), i0.keeps (Mine.K.ext k2), i1.keeps (Mine.K.ext k2)⟩
  rintro v s1 s2 k1 ⟨t, rfl, ht⟩ kb2 c32
  have x1 := x.k k1
  have c31 := c3.keeps (Mine.K.ext k1)
  have hn1 := hn.keeps (Mine.K.ext k1)
  have hb3 : sb.heap.get? (L + 1 + 1 + 1) = none := hW _ (by simp)
  have x2 : LC w sb L P vs ps s2 := x1.step kb2 (fun b hb => by rw [List.mem_singleton.mp hb]; exact hb3) (fun q => lt1 (L + 1) 1 (List.mem_singleton.mp q)) (fun q => x1.Pne c31 (List.mem_singleton.mp q)) (fun b hb => by rw [List.mem_singleton.mp hb]; exact NotTup.cell c31)
  have hn2 : s2.heap.Ns L m := hn1.at fun o e => kb2.get e (fun q => lt1 L 2 (List.mem_singleton.mp q))
  have g2 := x2.g
  have ht2 : ToldOk w s2.heap t := ht.kb kb2 (fun b hb => by rw [List.mem_singleton.mp hb]; exact ⟨_, c31⟩)
  -- points != sorted(points) or ..
  have hno : ∀ i j, j < i → i < ps.length → tlt (ps.getD i (0, 0)) (ps.getD j (0, 0)) = false := fun i j hji hi => tlt_not (asc_get x.asc hji hi)
  have hl63 : vs.length < 64 := by have := x.pts.1; have := x.len; omega
  have hlen := x.len
  have hvl := x.pts.1
  refine ex_if (b := decide (ps ≠ ps) || (decide (([] : List PyData) ≠ []) || false)) (EvT.boolOp (EvT.any_cons (EvT.cmpH (P := fun v s => v = .ref P) (P' := fun a b s => ∃ D, a = .ref P ∧ b = .ref D ∧ s.heap.PlainList D (List.toArray vs))
    (Ev.cell (c := L + 1) rfl x2.c1 rfl) (fun a s3 k3 e => (Em.callB (P := fun v s => ∃ D, v = .ref D ∧ s.heap.PlainList D (List.toArray vs)) (Ev.bn (g2.k k3) rfl rfl rfl) (Ea.one (P := R P) (Ev.cell (c := L + 1) rfl (x2.k k3).c1 rfl)) fun vs' s4 k4 p => ?srt).mono ?srt2) fun a b s3 k3 h3 => ?ne) fun _ =>
    EvT.any_cons (EvT.ne_nil hA rfl ((Em.comp (a := 1) (b := (ps.length : Int)) (ps.length - 1) (fun _ => false) (fun _ _ => True) hA.hh ?cit (by omega) (by omega) rfl (by decide) rfl (by decide) rfl ?ctest ?celt).mono ?cres)) fun _ => EvT.any_nil)) fun s3 k3 => ?rest
  case srt =>
    obtain ⟨v, rfl, rfl⟩ := p
    exact (Em.sorted (ext_plain x2.lst (Mine.K.ext (Mine.K.trans k3 k4))) (x2.pts.ext (Mine.K.ext (Mine.K.trans k3 k4))) hl63 hno).mono fun v s5 k5 ⟨D, e, _, hD⟩ => ⟨D, e, hD⟩
  case srt2 =>
    rintro v s4 k4 ⟨D, rfl, hD⟩
    exact ⟨D, e, rfl, hD⟩
  case ne =>
    obtain ⟨D, rfl, rfl, hD⟩ := h3
    exact Em.ne_pts hA (x2.k k3).lst (x2.k k3).pts hD (x2.k k3).pts
  case cit =>
    refine Em.callT (T := "range") (Ev.bn g2 rfl rfl rfl) (Ea.two (P := I 1) (P' := I (ps.length : Nat)) Ev.int (Em.callB (Ev.bn g2 rfl rfl rfl) (Ea.one (Ev.cell (c := L + 1) rfl x2.c1 rfl)) fun vs' s4 k4 p => ?_)) fun vs' s4 k4 p => ?_
    · obtain ⟨v, rfl, rfl⟩ := p
      exact Em.len_of (x2.k k4).lst.isList (by simpa using hvl) (by omega)
    · obtain ⟨v, v', rfl, ⟨t1, rfl⟩, ⟨t2, rfl⟩⟩ := p
      exact Em.range2
  case ctest =>
    intro i C s4 m4 t4 hi e4 hC0 hns hm
    have k4 : ∀ {P : Prop}, (Ext s2.heap s4.heap → P) → P := fun f => f e4
    obtain ⟨l, c0, c1, t0, t1, t2, t3, htd, hll, i0, i1⟩ := ht2.ext e4
    have g4 : G w s4.heap := g2.ext e4
    have c14 := x2.c1.keeps e4
    have hl4 := ext_plain x2.lst e4
    have hp4 := x2.pts.ext e4
    obtain ⟨v0, hv0, hp0⟩ := hp4.at (i := i) (by omega)
    obtain ⟨v1, hv1, hp1⟩ := hp4.at (i := i + 1) (by omega)
    refine Em.tests1 ?_
    have hneg : decide ((0 : Int) ≤ cmpOf (ps.getD i (0, 0)) (ps.getD (i + 1) (0, 0))) = false := by
      rw [cmp_lt (asc_get x.asc (Nat.lt_succ_self i) (by omega))]; rfl
    rw [← hneg]
    refine EvT.cmp (Cm.ge (Em.compareCall g4 (Ev.cell (c := L + 1 + 1 + 1) rfl (c32.keeps e4) rfl) htd (Ea.two (P := fun v => v = v0) (P' := fun v => v = v1)
      (Ev.sub_list (k := (i : Int)) (Ev.cell (c := L + 1) rfl c14 rfl) ((Ev.sub (Ev.local hns hm ⟨_, rfl⟩) Ev.int).mono fun v s _ ⟨t, e⟩ => ⟨t, by rw [e]; congr 1; omega⟩) hl4.isList (by omega) (by omega) (by simpa using hv0) rfl)
      (Ev.sub_list (k := 1 + (i : Int)) (Ev.cell (c := L + 1) rfl c14 rfl) (Ev.local hns hm ⟨_, rfl⟩) hl4.isList (by omega) (by omega) (by
        have : (1 + (i : Int)).toNat = i + 1 := by omega
        rw [this]; simpa using hv1) rfl)) fun vs' s5 k5 p => ?_) Ev.int)
    obtain ⟨v, v', rfl, rfl, rfl⟩ := p
    have e5 := Mine.K.ext k5
    obtain ⟨l, c0, c1, t0, t1, t2, t3, htd, hll, i0, i1⟩ := (ht2.ext e4).ext e5
    exact compare_spec (n := n + 4) (hA.le (by omega)) (g4.k k5) htd hll i0 i1 (hp0.ext e5) (hp1.ext e5)
  case celt =>
    intro i C s4 m4 t4 hi hp
    exact absurd hp (by decide)
  case cres =>
    rintro v s4 k4 ⟨D, ys, rfl, _, hD, pr⟩
    have hnil : (List.range (ps.length - 1)).filter (fun _ => false) = [] := by simp
    rw [hnil] at pr
    cases pr
    exact ⟨D, [], [], rfl, hD, .nil⟩
  case rest =>
    have hb : (decide (ps ≠ ps) || (decide (([] : List PyData) ≠ []) || false)) = false := by simp
    rw [if_neg (by rw [hb]; decide)]
    exact wpAny_execs_nil (k s3 (KB.trans (KB.of k1) (KB.trans kb2 (KB.of k3))) (x2.k k3) (hn2.keeps (Mine.K.ext k3)))
end
end Mine

namespace Mine

/-- no key of the table stands at b -/
def NotKey (h : Heap) (b : Addr) : Prop := ∀ o, h.get? b = some o → o.cls ≠ .type "tuple" ∨ ∀ items n, o.data = .seq items n → items.size ≠ 3
theorem NotTup.key {h : Heap} {b : Addr} (x : NotTup h b) : NotKey h b := fun o ho => by
  rcases x o ho with h | h
  · exact .inl h
  · exact .inr fun items n e => absurd e (h _ _)
theorem ZOk.key {h : Heap} {b : Addr} (x : ZOk h b) : NotKey h b := fun o ho => by
  rcases x o ho with h | h | ⟨x, y, rfl⟩
  · exact .inl (by rw [h]; simp)
  · exact .inl (by rw [h]; simp)
  · exact .inr fun items n e => by cases e; simp

section
variable {prog : Program} {w : World} {A : Around} {E : Value → Shared → Prop} {s s' s₀ : Shared} {env : Env}

theorem Tab.kb {d : Addr} {tb : List (Int × Int)} {xs : List KV} {W : List Addr} (x : Tab prog w s.heap d tb xs) (k : KB W s s') (hd : d ∉ W) (h : ∀ b ∈ W, NotKey s.heap b) : Tab prog w s'.heap d tb xs := by
  obtain ⟨⟨o, es, ep, ho, hc, hdat, he, hi, hn⟩, hr, hds⟩ := x
  refine ⟨⟨o, es, ep, k.get ho hd, hc, hdat, he, fun y hy => ?_, hn⟩, hr, hds⟩
  obtain ⟨i, hi'⟩ := List.mem_iff_getElem?.mp hy
  obtain ⟨p, _, hp, _⟩ := paired_get hr i y hi'
  obtain ⟨o', items, n, ho', hc', hd', hI⟩ := hi y hy
  refine ⟨o', items, n, k.get ho' fun hm => ?_, hc', hd', hI⟩
  rcases h _ hm o' ho' with h1 | h1
  · exact h1 hc'
  · have := hI.length
    rw [hp] at this
    refine h1 items n hd' ?_
    rw [← Array.length_toList, ← this]
    rfl
theorem Tab.ext {d : Addr} {tb : List (Int × Int)} {xs : List KV} {h h' : Heap} (x : Tab prog w h d tb xs) (e : Ext h h') : Tab prog w h' d tb xs := ⟨dictOfH_ext x.1 e, x.2⟩

/-- {k: v} -/
theorem Em.dict1 {n : Nat} (hA : AOk n A) (g : G w s₀.heap) {k v : Expr} {pos : Pos} {kk : List (Str ⊕ Int)} {P : Value → Prop} (hk : Em prog w A (eval k env) s₀ (fun y s => ∃ a, y = .ref a ∧ (tk prog w).is s.heap kk a)) (hv : Ev prog w A env v s₀ P) :
    Em prog w A (eval (.Dict [some k] [v] pos) env) s₀ (fun r s => ∃ D a y, r = .ref D ∧ s₀.heap.get? D = none ∧ D ≠ sysModules ∧ s.heap.DictOfH (tk prog w) D [(kk, a, y)] ∧ P y) :=
  Em.of fun s Q E k0 hQ => by
    refine wpAny_Dict_any rfl rfl (by simp) (by simp) ?_
    have kp : Keeps s { s with heap := s.heap.push { cls := .type "dict", data := .dict #[] } } := Mine.K.mkh fun b o e => Heap.get?_push_of_some _ e
    have hD0 : s₀.heap.get? s.heap.objs.size = none := none_of k0 (fresh_none _)
    have hD : (s.heap.push { cls := .type "dict", data := .dict #[] }).DictOfH (tk prog w) s.heap.objs.size [] := dictOfH_new (Heap.get?_push_size _ rfl)
    show wpAny _ _ (evalPairs [(eval k env, do let x ← eval v env; standAt pos; pure x)]) _ _ _
    refine wpAny_bind (hk.use (Mine.K.trans k0 kp) fun y1 s1 k1 h1 => wpAny_bind (wpAny_holding (wpAny_bind (hv.use (Mine.K.trans k0 (Mine.K.trans kp k1)) fun y2 s2 k2 h2 => wpAny_bind (wpAny_standAt (wpAny_pure (wpAny_bind (wpAny_holding (wpAny_pure (wpAny_pure ?_)))))))))) 
    obtain ⟨a, rfl, hka⟩ := h1
    show wpAny _ _ (storeAll s.heap.objs.size [(Value.ref a, y2)]) _ _ _
    unfold storeAll
    simp only [List.forIn_cons, List.forIn_nil]
    refine wpAny_bind (wpAny_bind (wpAny_dictSet_heap (knd := tk prog w) (k := kk) (xs := []) ?_ (is_ext hka (Mine.K.ext k2)) (dictOfH_ext hD (Mine.K.ext (Mine.K.trans k1 k2))) (fun h' hd' hs' => wpAny_pure (wpAny_pure ?_)) (Nat.zero_le _)))
    · exact hA.units0
    · have e : storedH ([] : List KV) kk a y2 = [(kk, a, y2)] := rfl
      rw [e] at hd'
      refine hQ _ _ (KB.keeps (W := [s.heap.objs.size]) (Mine.K.trans kp (Mine.K.trans k1 k2)) (KB.same hs' (by simp)) (fun b hb => by rw [List.mem_singleton.mp hb]; exact fresh_none _)) ⟨_, a, y2, rfl, hD0, big (g.k k0), hd', h2⟩
end
end Mine

namespace Mine

def tabOf (ls : List Int) : List (Int × Int) := ls.foldl (fun tb l => bump tb l 1) []
def cutPos (ts : List Int) (x : Int) : Nat := (ts.takeWhile fun t => decide (t < x)).length
def pileStep (ts : List Int) (x : Int) : List Int := ts.take (cutPos ts x) ++ x :: ts.drop (cutPos ts x + 1)
def pilesOf (ps : List Pt) : List Int := ps.foldl (fun ts p => pileStep ts (0 - p.2)) []
def Up (ts : List Int) : Prop := ts.Pairwise (· < ·)

theorem tabOf_snoc (ls : List Int) (l : Int) : tabOf (ls ++ [l]) = bump (tabOf ls) l 1 := by simp [tabOf, List.foldl_append]
theorem pilesOf_snoc (ps : List Pt) (p : Pt) : pilesOf (ps ++ [p]) = pileStep (pilesOf ps) (0 - p.2) := by simp [pilesOf, List.foldl_append]

theorem cut_le (x : Int) : ∀ ts : List Int, cutPos ts x ≤ ts.length
  | [] => Nat.le_refl _
  | t :: ts => by
    unfold cutPos
    rw [List.takeWhile_cons]
    split
    · have := cut_le x ts
      simpa [cutPos] using this
    · exact Nat.zero_le _

theorem cut_iff {x : Int} : ∀ {ts : List Int}, Up ts → ∀ i, i < ts.length → (ts.getD i 0 < x ↔ i < cutPos ts x)
  | [], _, i, h => absurd h (Nat.not_lt_zero _)
  | t :: ts, hu, i, hi => by
    have hu' : (∀ r ∈ ts, t < r) ∧ Up ts := List.pairwise_cons.mp hu
    unfold cutPos
    rw [List.takeWhile_cons]
    by_cases ht : t < x
    · simp only [ht, decide_true, if_true]
      rcases i with _ | i
      · simp [ht]
      · have := cut_iff (x := x) hu'.2 i (by simpa using hi)
        rw [List.getD_cons_succ, this, List.length_cons]
        simp [cutPos]
    · simp only [ht, decide_false, Bool.false_eq_true, if_false]
      rcases i with _ | i
      · simpa using ht
      · have hi' : i < ts.length := by simpa using hi
        have : t < ts.getD i 0 := hu'.1 _ (by
          rw [List.getD_eq_getElem?_getD, List.getElem?_eq_getElem hi']; exact List.getElem_mem hi')
        rw [List.getD_cons_succ]
        constructor
        · intro h; omega
        · intro h; simp at h
theorem cut_spec {x : Int} {ts : List Int} (hu : Up ts) (i : Nat) (hi : i < ts.length) : decide (ts.getD i 0 < x) = decide (i < cutPos ts x) := decide_eq_decide.mpr (cut_iff hu i hi)

theorem up_get {ts : List Int} (hu : Up ts) {i j : Nat} (hij : i < j) (hj : j < ts.length) : ts.getD i 0 < ts.getD j 0 := by
  have := List.pairwise_iff_getElem.mp hu i j (by omega) hj hij
  rw [List.getD_eq_getElem?_getD, List.getD_eq_getElem?_getD, List.getElem?_eq_getElem (by omega), List.getElem?_eq_getElem hj]
  exact this

theorem step_len {ts : List Int} {x : Int} : (pileStep ts x).length = max ts.length (cutPos ts x + 1) := by
  have := cut_le x ts
  simp [pileStep]; omega

theorem step_get {ts : List Int} {x : Int} (i : Nat) (hi : i < (pileStep ts x).length) : (pileStep ts x).getD i 0 = if i = cutPos ts x then x else ts.getD i 0 := by
  have hc := cut_le x ts
  have hl : (ts.take (cutPos ts x)).length = cutPos ts x := by rw [List.length_take]; omega
  unfold pileStep
  rw [List.getD_eq_getElem?_getD, List.getD_eq_getElem?_getD]
  rcases Nat.lt_trichotomy i (cutPos ts x) with h | h | h
  · rw [List.getElem?_append_left (by omega), List.getElem?_take_of_lt h, if_neg (by omega)]
  · rw [List.getElem?_append_right (by omega), hl, h, Nat.sub_self, if_pos rfl]
    rfl
  · rw [List.getElem?_append_right (by omega), hl, if_neg (by omega)]
    obtain ⟨d, hd⟩ : ∃ d, i - cutPos ts x = d + 1 := ⟨i - cutPos ts x - 1, by omega⟩
    rw [hd, List.getElem?_cons_succ, List.getElem?_drop]
    congr 2
    omega

theorem up_of {ts : List Int} (h : ∀ i j, i < j → j < ts.length → ts.getD i 0 < ts.getD j 0) : Up ts := by
  refine List.pairwise_iff_getElem.mpr fun i j hi hj hij => ?_
  have := h i j hij hj
  rw [List.getD_eq_getElem?_getD, List.getD_eq_getElem?_getD, List.getElem?_eq_getElem hi, List.getElem?_eq_getElem hj] at this
  exact this

theorem step_up {ts : List Int} {x : Int} (hu : Up ts) : Up (pileStep ts x) := by
  refine up_of fun i j hij hj => ?_
  have hl := step_len (ts := ts) (x := x)
  have hc := cut_le x ts
  rw [step_get i (by omega), step_get j hj]
  by_cases h1 : i = cutPos ts x
  · rw [if_pos h1, if_neg (by omega)]
    have hj' : j < ts.length := by omega
    have h3 : ¬ ts.getD i 0 < x := fun h => by
      have := (cut_iff (x := x) hu i (by omega)).mp h
      omega
    have := up_get hu hij hj'
    omega
  · rw [if_neg h1]
    by_cases h2 : j = cutPos ts x
    · rw [if_pos h2]
      exact (cut_iff (x := x) hu i (by omega)).mpr (by omega)
    · rw [if_neg h2]
      exact up_get hu hij (by omega)

theorem piles_up : ∀ (ps : List Pt), Up (pilesOf ps) := by
  have key : ∀ (ps : List Pt) (ts : List Int), Up ts → Up (ps.foldl (fun ts p => pileStep ts (0 - p.2)) ts) := by
    intro ps
    induction ps with
    | nil => exact fun ts h => h
    | cons p ps ih => exact fun ts h => ih _ (step_up h)
  exact fun ps => key ps [] List.Pairwise.nil
theorem piles_len (ps : List Pt) : (pilesOf ps).length ≤ ps.length := by
  have key : ∀ (ps : List Pt) (ts : List Int), (ps.foldl (fun ts p => pileStep ts (0 - p.2)) ts).length ≤ ts.length + ps.length := by
    intro ps
    induction ps with
    | nil => exact fun ts => Nat.le_refl _
    | cons p ps ih =>
      intro ts
      have h1 := ih (pileStep ts (0 - p.2))
      have h2 := step_len (ts := ts) (x := 0 - p.2)
      have h3 := cut_le (0 - p.2) ts
      simp only [List.foldl_cons, List.length_cons]
      omega
  simpa [pilesOf] using key ps []
theorem bump_len (tb : List (Int × Int)) (l c : Int) : (bump tb l c).length ≤ tb.length + 1 := by
  unfold bump
  split <;> simp
theorem tab_len (ls : List Int) : (tabOf ls).length ≤ ls.length := by
  have key : ∀ (ls : List Int) (tb : List (Int × Int)), (ls.foldl (fun tb l => bump tb l 1) tb).length ≤ tb.length + ls.length := by
    intro ls
    induction ls with
    | nil => exact fun tb => Nat.le_refl _
    | cons l ls ih =>
      intro tb
      have h1 := ih (bump tb l 1)
      have h2 := bump_len tb l 1
      simp only [List.foldl_cons, List.length_cons]
      omega
  simpa [tabOf] using key ls []
end Mine

namespace Mine

theorem ints_put {us : List Value} {ts : List Int} (h : IntsAre us ts) (k : Nat) {x : Int} {y : Value} (hy : I x y) : IntsAre (putOne k y us) (ts.take k ++ x :: ts.drop (k + 1)) := by
  obtain ⟨t, rfl⟩ := hy
  exact (h.take k).append (.cons x t (h.drop (k + 1)))

/-- the levels, the table, the piles -/
structure LT (prog : Program) (w : World) (sb : Shared) (L P D d T : Addr) (ps : List Pt) (ls : List Int) (m : Str → Option Value) (s : Shared) : Prop where
  c4 : s.heap.IsCell (L + 1 + 1 + 1 + 1) (some (.ref D))
  lev : ∃ ys, s.heap.PlainList D (List.toArray ys) ∧ IntsAre ys ls
  llen : ls.length = ps.length
  lat : ∀ k, k < ps.length → LevAt ps ls k
  mt : m (Str.ofString "table") = some (.ref d)
  tab : ∃ xs, Tab prog w s.heap d (tabOf ls) xs
  dL : d ≠ L
  mp : m (Str.ofString "tops") = some (.ref T)
  tops : ∃ us, s.heap.PlainList T (List.toArray us) ∧ IntsAre us (pilesOf ps)

section
variable {prog : Program} {w : World} {A : Around} {E : Value → Shared → Prop} {s s' s₀ : Shared} {env : Env}

theorem LT.k {sb : Shared} {L P D d T : Addr} {ps : List Pt} {ls : List Int} {m : Str → Option Value} (x : LT prog w sb L P D d T ps ls m s) (k : Keeps s s') : LT prog w sb L P D d T ps ls m s' :=
  ⟨x.c4.keeps (Mine.K.ext k), let ⟨ys, a, b⟩ := x.lev; ⟨ys, ext_plain a (Mine.K.ext k), b⟩, x.llen, x.lat, x.mt, let ⟨xs, a⟩ := x.tab; ⟨xs, a.ext (Mine.K.ext k)⟩, x.dL, x.mp, let ⟨us, a, b⟩ := x.tops; ⟨us, ext_plain a (Mine.K.ext k), b⟩⟩

theorem key_is {h : Heap} {a : Addr} {t1 t2 t3 : Tok} {l : Int} (e : h.get? a = some { cls := .type "tuple", data := .seq [Value.str (Str.ofString "at") t1, Value.int l t2, Value.str (Str.ofString "level") t3].toArray }) : (tk prog w).is h (keyOf l) a := by
  refine ⟨_, _, _, e, rfl, rfl, ?_⟩
  refine .cons ?_ (.cons ?_ (.cons ?_ .nil))
  · show Value.isStrOf _ (Value.str _ t1) = true; simp [Value.isStrOf]
  · show Value.isInt l (.int l t2) = true; simp [Value.isInt]
  · show Value.isStrOf _ (Value.str _ t3) = true; simp [Value.isStrOf]

theorem law_tabs {n : Nat} (hA : AOk (n + 6) A) {sb : Shared} {L P fa : Addr} {cd : Value} {vs : List Value} {ps : List Pt} {m : Str → Option Value} {Q : Flow → Shared → Prop} (x : LC w sb L P vs ps s) (hW : ∀ b ∈ W6 L, sb.heap.get? b = none)
    (hn : s.heap.Ns L m) (c4 : s.heap.IsCell (L + 1 + 1 + 1 + 1) none)
    (k : ∀ s' m' D d T ls, KB [L, L + 1 + 1 + 1 + 1] s s' → LC w sb L P vs ps s' → s'.heap.Ns L m' → LT prog w sb L P D d T ps ls m' s' → wpAny (model prog w) A (execs (lawBody.drop 6) (lawEnv L fa cd)) Q E s') :
    wpAny (model prog w) A (execs (lawBody.drop 4) (lawEnv L fa cd)) Q E s := by
  have g := x.g
  have hvl := x.pts.1
  have hlen := x.len
  have hb4 : sb.heap.get? (L + 1 + 1 + 1 + 1) = none := hW _ (by simp)
  have hbL : sb.heap.get? L = none := hW _ (by simp)
  have hL4 : L ≠ L + 1 + 1 + 1 + 1 := lt1 L 3
  have h14 : L + 1 ≠ L + 1 + 1 + 1 + 1 := lt1 (L + 1) 2
  -- levels, table, tops
  refine ex_tup3 (env := lawEnv L fa cd) (c := L + 1 + 1 + 1 + 1) (P := fun v1 v2 v3 s1 => (∃ D ys ls, v1 = .ref D ∧ s1.heap.PlainList D (List.toArray ys) ∧ IntsAre ys ls ∧ ls.length = ps.length ∧ (∀ k, k < ps.length → LevAt ps ls k) ∧ v3 ≠ .ref D) ∧ (∃ d, v2 = .ref d ∧ Tab prog w s1.heap d [] [] ∧ d ≠ L) ∧
      (∃ T, v3 = .ref T ∧ s1.heap.PlainList T ([] : List Value).toArray ∧ s.heap.get? T = none))
    hA.hh rfl rfl c4 hn hL4.symm ((Em.tuple (P := fun vs' s1 => ∃ v1 v2 v3, vs' = [v1, v2, v3] ∧ (∃ D ys ls, v1 = .ref D ∧ s1.heap.PlainList D (List.toArray ys) ∧ IntsAre ys ls ∧ ls.length = ps.length ∧ (∀ k, k < ps.length → LevAt ps ls k) ∧ v3 ≠ .ref D) ∧ (∃ d, v2 = .ref d ∧ Tab prog w s1.heap d [] [] ∧ d ≠ L) ∧
      (∃ T, v3 = .ref T ∧ s1.heap.PlainList T ([] : List Value).toArray ∧ s.heap.get? T = none))
      (Ea.cons (Em.callF (f := 86) (P := fun v1 s1 => ∃ D ys ls, v1 = .ref D ∧ s1.heap.PlainList D (List.toArray ys) ∧ IntsAre ys ls ∧ ls.length = ps.length ∧ ∀ k, k < ps.length → LevAt ps ls k) (Ev.fn g rfl rfl) (g.kin _ _ rfl) rfl (Ea.one (P := R P) (Ev.cell (c := L + 1) rfl x.c1 rfl)) fun vs' s1 k1 p1 => ?lev) fun v1 s1 k1 h1 => Ea.cons (Em.dict0 (x.k k1).g) fun v2 s2 k2 h2 => Ea.cons Em.nil fun v3 s3 k3 h3 => Ea.nil fun s4 k4 => ?args) ?sz).mono ?tup) ?_
  case lev =>
    obtain ⟨v, rfl, rfl⟩ := p1
    exact (levels_spec (n := n + 2) hA (x.k k1).g (x.k k1).lst (x.k k1).pts (by omega)).mono fun r s2 k2 ⟨D, ys, ls, e, _, h⟩ => ⟨D, ys, ls, e, h⟩
  case args =>
    obtain ⟨D, ys, ls, rfl, hD, hI, hl, hlat⟩ := h1
    obtain ⟨d, rfl, hd0, hds, hd⟩ := h2
    obtain ⟨T, rfl, hT0, hT⟩ := h3
    refine ⟨_, _, _, rfl, ⟨D, ys, ls, rfl, ext_plain hD (Mine.K.ext (Mine.K.trans k2 (Mine.K.trans k3 k4))), hI, hl, hlat, ?_⟩, ⟨d, rfl, ⟨dictOfH_ext (dictOfH_new hd) (Mine.K.ext (Mine.K.trans k3 k4)), .nil, hds⟩, ?_⟩, T, rfl, ext_plain hT (Mine.K.ext k4), ?_⟩
    · intro e
      cases e
      obtain ⟨nD, hnD⟩ := hD
      have := Mine.K.ext k2 _ _ hnD
      rw [hT0] at this; cases this
    · rintro rfl
      obtain ⟨o, _, _, ho, _⟩ := hn.keeps (Mine.K.ext k1)
      rw [hd0] at ho; cases ho
    · cases e : s.heap.get? T with
      | none => rfl
      | some o => have := Mine.K.ext (Mine.K.trans k1 k2) _ _ e; rw [hT0] at this; cases this
  case sz =>
    rintro vs' s1 ⟨v1, v2, v3, rfl, _⟩
    exact Nat.le_trans (by decide : 3 ≤ 1000000) sizeLine_ge
  case tup =>
    rintro v s1 k1 ⟨vs', s2, t, ⟨v1, v2, v3, rfl, ⟨D, ys, ls, e1, hD, hI, hl, hlat, hne⟩, ⟨d, e2, hd, hdL⟩, T, e3, hT, hT0⟩, k2, k3, rfl, ht0, ht⟩
    exact ⟨t, v1, v2, v3, rfl, ⟨_, ht, rfl, _, rfl⟩, ⟨D, ys, ls, e1, ext_plain hD (Mine.K.ext k3), hI, hl, hlat, hne⟩, ⟨d, e2, hd.ext (Mine.K.ext k3), hdL⟩, T, e3, ext_plain hT (Mine.K.ext k3), hT0⟩
  rintro v1 v2 v3 s1 s2 k1 ⟨⟨D, ys, ls, rfl, hD, hI, hl, hlat, hne⟩, ⟨d, rfl, hd, hdL⟩, T, rfl, hT, hT0⟩ kb2 c42 hn2
  have hDT : T ≠ D := fun e => hne (by rw [e])
  have x1 := x.k k1
  have c41 := c4.keeps (Mine.K.ext k1)
  have hn1 := hn.keeps (Mine.K.ext k1)
  have nt1 : ∀ b ∈ [L + 1 + 1 + 1 + 1, L], NotTup s1.heap b := by
    intro b hb
    simp only [List.mem_cons, List.not_mem_nil, or_false] at hb
    rcases hb with rfl | rfl
    · exact NotTup.cell c41
    · exact NotTup.ns hn1
  have x2 : LC w sb L P vs ps s2 := x1.step kb2 (by
      intro b hb
      simp only [List.mem_cons, List.not_mem_nil, or_false] at hb
      rcases hb with rfl | rfl
      · exact hb4
      · exact hbL) (by
      simp only [List.mem_cons, List.not_mem_nil, or_false, not_or]
      exact ⟨h14, (lt1 L 0).symm⟩) (by
      simp only [List.mem_cons, List.not_mem_nil, or_false, not_or]
      exact ⟨x1.Pne c41, x1.PneL hn1⟩) nt1
  have hTs2 : T ∉ [L + 1 + 1 + 1 + 1, L] := by
    intro hm
    simp only [List.mem_cons, List.not_mem_nil, or_false] at hm
    rcases hm with rfl | rfl
    · obtain ⟨o, ho, _⟩ := c4; rw [hT0] at ho; cases ho
    · obtain ⟨o, _, _, ho, _⟩ := hn; rw [hT0] at ho; cases ho
  have hds2 : d ∉ [L + 1 + 1 + 1 + 1, L] := by
    intro hm
    simp only [List.mem_cons, List.not_mem_nil, or_false] at hm
    rcases hm with rfl | rfl
    · obtain ⟨o, ho, hd1⟩ := c41
      obtain ⟨⟨o', es, ep, ho', _, hd2, _⟩, _⟩ := hd
      rw [ho] at ho'; cases ho'; rw [hd1] at hd2; cases hd2
    · exact hdL rfl
  have hDs2 : D ∉ [L + 1 + 1 + 1 + 1, L] := by
    intro hm
    obtain ⟨nD, hnD⟩ := id hD
    simp only [List.mem_cons, List.not_mem_nil, or_false] at hm
    rcases hm with rfl | rfl
    · obtain ⟨o, ho, hd1⟩ := c41; rw [hnD] at ho; cases ho; cases hd1
    · obtain ⟨o, _, _, ho, hd1, _⟩ := hn1; rw [hnD] at ho; cases ho; cases hd1
  have hD2 := plain_kb hD kb2 hDs2
  have hT2 := plain_kb hT kb2 hTs2
  have hd2 := hd.kb kb2 hds2 (fun b hb => (nt1 b hb).key)
  obtain ⟨m2, hn2, mt2, mp2⟩ : ∃ m2, s2.heap.Ns L m2 ∧ m2 (Str.ofString "table") = some (.ref d) ∧ m2 (Str.ofString "tops") = some (.ref T) := ⟨_, hn2, upd2_a, upd2_b⟩
  have hTP : T ≠ P := by
    rintro rfl
    obtain ⟨nP, hnP⟩ := x.lst
    rw [hT0] at hnP; cases hnP
  have hTL : T ≠ L := fun e => hTs2 (by simp [e])
  have hT1 : T ≠ L + 1 := by
    rintro rfl
    obtain ⟨o, ho, _⟩ := x.c1; rw [hT0] at ho; cases ho
  have hT4 : T ≠ L + 1 + 1 + 1 + 1 := fun e => hTs2 (by simp [e])
  have hTb : sb.heap.get? T = none := none_of x.kb hT0
  have hDL : D ≠ L := fun e => hDs2 (by simp [e])
  have hbW : ∀ b ∈ [L, T], sb.heap.get? b = none := by
    intro b hb
    simp only [List.mem_cons, List.not_mem_nil, or_false] at hb
    rcases hb with rfl | rfl
    · exact hbL
    · exact hTb
  have toX : ∀ s', KB [L, T] s2 s' → LC w sb L P vs ps s' := fun s' kb => x2.step kb hbW (by
      simp only [List.mem_cons, List.not_mem_nil, or_false, not_or]
      exact ⟨(lt1 L 0).symm, hT1.symm⟩) (by
      simp only [List.mem_cons, List.not_mem_nil, or_false, not_or]
      exact ⟨x2.PneL hn2, hTP.symm⟩) (by
      intro b hb
      simp only [List.mem_cons, List.not_mem_nil, or_false] at hb
      rcases hb with rfl | rfl
      · exact NotTup.ns hn2
      · exact NotTup.plain hT2)
  obtain ⟨oL2, _, _, hoL2, _⟩ := id hn2
  obtain ⟨nT2, hnT2⟩ := id hT2
  -- the zip loop
  refine for_zip (env := lawEnv L fa cd) (l1 := P) (l2 := D) (vs := vs) (us := ys) hA.hh rfl rfl rfl (Em.callT (T := "zip") (Ev.bn x2.g rfl rfl rfl) (Ea.two (P := R P) (P' := R D) (Ev.cell (c := L + 1) rfl x2.c1 rfl) (Ev.cell (c := L + 1 + 1 + 1 + 1) rfl c42 rfl)) fun vs' s3 k3 p3 => ?zip) x2.lst.isList hD2.isList (by rw [hI.length, hvl, hl]) hn2 (x2.PneL hn2).symm hDL.symm [L, T] ?hW
    (fun i m s' => KB [L, T] s2 s' ∧ (∃ d xs, d ≠ L ∧ m (Str.ofString "table") = some (.ref d) ∧ Tab prog w s'.heap d (tabOf (ls.take i)) xs) ∧ m (Str.ofString "tops") = some (.ref T) ∧ ∃ us, s'.heap.PlainList T (List.toArray us) ∧ IntsAre us (pilesOf (ps.take i))) ?h0 ?hst ?turn ?done
  case zip =>
    obtain ⟨v, v', rfl, rfl, rfl⟩ := p3
    refine (Em.zip (x2.k k3).lst.isList (ext_plain hD2 (Mine.K.ext k3)).isList).mono fun v s4 k4 ⟨nn, a1, a2, a3, a4, a5, a6, a7, a8, a9⟩ => ⟨nn, a1, a2, a3, a4, a5, a6, a7, a8, fun a ha => none_of k3 (a9 a ha)⟩
  case hW =>
    intro b hb
    simp only [List.mem_cons, List.not_mem_nil, or_false] at hb
    rcases hb with rfl | rfl
    · exact ⟨(x2.PneL hn2).symm, hDL.symm, _, hoL2⟩
    · exact ⟨hTP, hDT, _, hnT2⟩
  case h0 =>
    intro s' k'
    exact ⟨KB.of k', ⟨d, [], hdL, mt2, hd2.ext (Mine.K.ext k')⟩, mp2, [], ext_plain hT2 (Mine.K.ext k'), .nil⟩
  case hst =>
    rintro i m3 s3 s4 Z hZ hZO hn3 ⟨kb3, ⟨d3, xs3, hdL3, mt3, ht3⟩, mp3, us3, hT3, hI3⟩ kb4
    have nL : ∀ b ∈ L :: Z, NotKey s3.heap b := by
      intro b hb
      rcases List.mem_cons.mp hb with rfl | hb
      · exact (NotTup.ns hn3).key
      · exact (hZO b hb).key
    refine ⟨KB.from kb3 kb4 (fun b hb hnb => ?_), ⟨d3, xs3, hdL3, mt3, ht3.kb kb4 ?_ nL⟩, mp3, us3, plain_kb hT3 kb4 ?_, hI3⟩
    · rcases List.mem_cons.mp hb with rfl | hb
      · exact absurd (List.mem_cons_self ..) hnb
      · exact hZ b hb
    · intro hm
      rcases List.mem_cons.mp hm with h | hm
      · exact hdL3 h
      · obtain ⟨⟨o, _, _, ho, hc, _⟩, _⟩ := ht3
        rcases hZO _ hm o ho with h | h | ⟨_, _, rfl⟩
        · rw [hc.1] at h; simp at h
        · rw [hc.1] at h; simp at h
        · have := hc.1; simp at this
    · intro hm
      rcases List.mem_cons.mp hm with h | hm
      · exact hTL h
      · rw [hZ _ hm] at hnT2; cases hnT2
  case done =>
    rintro m3 s3 hn3 ⟨kb3, ⟨d3, xs3, hdL3, mt3, ht3⟩, mp3, us3, hT3, hI3⟩
    rw [List.take_of_length_le (by omega)] at ht3
    rw [List.take_of_length_le (by omega)] at hI3
    have h4 : L + 1 + 1 + 1 + 1 ∉ [L, T] := by
      simp only [List.mem_cons, List.not_mem_nil, or_false, not_or]
      exact ⟨hL4.symm, hT4.symm⟩
    have hDn : D ∉ [L, T] := by
      simp only [List.mem_cons, List.not_mem_nil, or_false, not_or]
      exact ⟨hDL, hDT.symm⟩
    refine k s3 m3 D d3 T ls (KB.from (KB.trans (KB.of k1) (kb2.mono ?_)) kb3 ?_) (toX _ kb3) hn3 ⟨cell_kb c42 kb3 h4, ⟨ys, plain_kb hD2 kb3 hDn, hI⟩, hl, hlat, mt3, ⟨xs3, ht3⟩, hdL3, mp3, us3, hT3, hI3⟩
    · show ∀ b ∈ [L + 1 + 1 + 1 + 1, L], b ∈ [L, L + 1 + 1 + 1 + 1]
      intro b hb
      simp only [List.mem_cons, List.not_mem_nil, or_false] at hb ⊢
      rcases hb with h | h <;> simp [h]
    · intro b hb hnb
      simp only [List.mem_cons, List.not_mem_nil, or_false] at hb hnb
      rcases hb with rfl | rfl
      · exact absurd (.inl rfl) hnb
      · exact hT0
  case turn =>
    rintro i xv yv m3 s3 hxv hyv ⟨kb3, ⟨d3, xs3, hdL3, mt3, ht3⟩, mp3, us3, hT3, hI3⟩ hn3 E'
    have hi : i < ps.length := by rw [← hvl]; exact (List.getElem?_eq_some_iff.mp hxv).1
    obtain ⟨v', hv', hp'⟩ := (toX _ kb3).pts.at hi
    obtain rfl : v' = xv := by rw [hv'] at hxv; exact Option.some.inj hxv
    obtain ⟨ty, hy⟩ := hI.get i _ (List.getElem?_eq_getElem (by rw [hl]; exact hi))
    rw [hyv] at hy
    obtain rfl : yv = .int ls[i] ty := by simpa using hy
    have hls : ls.take (i + 1) = ls.take i ++ [ls[i]] := by rw [List.take_add_one, List.getElem?_eq_getElem (by rw [hl]; exact hi)]; rfl
    have hps : ps.take (i + 1) = ps.take i ++ [ps.getD i (0, 0)] := by
      rw [List.take_add_one, List.getD_eq_getElem?_getD, List.getElem?_eq_getElem hi]; rfl
    generalize ls[i] = lv at *
    generalize ps.getD i (0, 0) = p at *
    obtain ⟨m4, hn4, mpt, mlv, mt4, mp4⟩ : ∃ m4, s3.heap.Ns L m4 ∧ m4 (Str.ofString "point") = some v' ∧ m4 (Str.ofString "level") = some (.int lv ty) ∧ m4 (Str.ofString "table") = some (.ref d3) ∧ m4 (Str.ofString "tops") = some (.ref T) :=
      ⟨_, hn3, upd2_a, upd2_b, upd2_ne mt3, upd2_ne mp3⟩
    have g3 := (toX _ kb3).g
    have hz3 := hT3
    have tlen : (tabOf (ls.take i)).length ≤ 100 := by
      have := tab_len (ls.take i)
      rw [List.length_take] at this
      omega
    -- table = add_callers(..)
    refine ex_assign (x := Str.ofString "table") hn4 (Em.callF (f := 67) (P := fun r s => ∃ D zs, r = .ref D ∧ s3.heap.get? D = none ∧ Tab prog w s.heap D (tabOf (ls.take (i + 1))) zs) (Ev.fn g3 rfl rfl) (g3.kin _ _ rfl) rfl
      (PA := fun vs' s => ∃ S ws, vs' = [.ref d3, .ref S] ∧ Tab prog w s.heap S [(lv, 1)] ws)
      (Ea.cons (Ev.local (P := R d3) hn4 mt4 rfl) fun v1 s5 k5 e5 => Ea.cons (P := fun r s => ∃ D a y, r = .ref D ∧ D ≠ sysModules ∧ s.heap.DictOfH (tk prog w) D [(keyOf lv, a, y)] ∧ I 1 y) ((Em.dict1 hA (g3.k k5) (kk := keyOf lv)
        ((Em.tuple (P := fun vs' _ => ∃ t1 t2 t3, vs' = [Value.str (Str.ofString "at") t1, Value.int lv t2, Value.str (Str.ofString "level") t3])
          (Ea.cons Ev.str fun v6 s6 k6 e6 => Ea.cons (Ev.local (P := fun v => v = .int lv ty) (hn4.keeps (Mine.K.ext (Mine.K.trans k5 k6))) mlv rfl) fun v7 s7 k7 e7 => Ea.cons Ev.str fun v8 s8 k8 e8 => Ea.nil fun s9 k9 => ?keys) ?ksz).mono ?key) Ev.int).mono ?dct) fun v6 s6 k6 e6 => Ea.nil fun s7 k7 => ?dargs) fun vs' s5 k5 p5 => ?add) ?_
    case keys =>
      obtain ⟨t1, rfl⟩ := e6
      obtain ⟨t3, rfl⟩ := e8
      subst e7
      exact ⟨t1, ty, t3, rfl⟩
    case ksz =>
      rintro vs' s ⟨t1, t2, t3, rfl⟩
      exact Nat.le_trans (by decide : 3 ≤ 1000000) sizeLine_ge
    case key =>
      rintro v6 s6 k6 ⟨vs', s7, a, ⟨t1, t2, t3, rfl⟩, _, _, rfl, _, ha⟩
      exact ⟨a, rfl, key_is ha⟩
    case dct =>
      rintro v6 s6 k6 ⟨D', a, y, e, _, hds, hd', hy⟩
      exact ⟨D', a, y, e, hds, hd', hy⟩
    case dargs =>
      cases e5
      obtain ⟨D', a, y, rfl, hds, hd', hy⟩ := e6
      exact ⟨D', _, rfl, dictOfH_ext hd' (Mine.K.ext k7), .cons ⟨rfl, hy⟩ .nil, hds⟩
    case add =>
      obtain ⟨S, ws, rfl, hS⟩ := p5
      refine (add_spec (n := n + 4) hA (g3.k k5) (ht3.ext (Mine.K.ext k5)) hS tlen).mono fun r s6 k6 ⟨D', zs, e, h0, ht⟩ => ⟨D', zs, e, none_of k5 h0, ?_⟩
      rw [hls, tabOf_snoc]
      exact ht
    rintro rv s5 s6 k5 ⟨D', zs, rfl, hD'0, htab⟩ kb6 hn6
    replace kb6 : KB [L] s5 s6 := kb6
    have hD'L : D' ≠ L := by
      rintro rfl
      obtain ⟨o, _, _, ho, _⟩ := hn4; rw [hD'0] at ho; cases ho
    have hD'T : D' ≠ T := by
      rintro rfl
      obtain ⟨nT, hnT⟩ := hT3; rw [hD'0] at hnT; cases hnT
    obtain ⟨m6, hn6, mpt6, mt6, mp6⟩ : ∃ m6, s6.heap.Ns L m6 ∧ m6 (Str.ofString "point") = some v' ∧ m6 (Str.ofString "table") = some (.ref D') ∧ m6 (Str.ofString "tops") = some (.ref T) := ⟨_, hn6, upd_ne mpt, upd_eq, upd_ne mp4⟩
    have ntL5 : ∀ b ∈ [L], NotTup s5.heap b := fun b hb => by rw [List.mem_singleton.mp hb]; exact NotTup.ns (hn4.keeps (Mine.K.ext k5))
    have kb36 : KB [L, T] s3 s6 := KB.trans (KB.of k5) (kb6.mono (by simp))
    have htab6 := htab.kb kb6 (fun q => hD'L (List.mem_singleton.mp q)) (fun b hb => (ntL5 b hb).key)
    have hT6 := plain_kb (ext_plain hT3 (Mine.K.ext k5)) kb6 (fun q => hTL (List.mem_singleton.mp q))
    have kb26 := KB.trans kb3 kb36
    have x6 := toX _ kb26
    have g6 := x6.g
    have hp6 : IsPt s6.heap v' p := (hp'.ext (Mine.K.ext k5)).kb kb6 ntL5
    -- place = bisect_left(..)
    have hup := piles_up (ps.take i)
    have hclen := cut_le (0 - p.2) (pilesOf (ps.take i))
    have hplen := piles_len (ps.take i)
    have hpl10 : (ps.take i).length ≤ 10 := by rw [List.length_take]; omega
    have hul := hI3.length
    generalize hcp : cutPos (pilesOf (ps.take i)) (0 - p.2) = cp at hclen
    have hcut : ∀ j, j < (pilesOf (ps.take i)).length → decide ((pilesOf (ps.take i)).getD j 0 < 0 - p.2) = decide (j < cp) := fun j hj => by rw [cut_spec hup j hj, hcp]
    refine ex_assign (x := Str.ofString "place") hn6 (P := fun v _ => I (cp : Int) v) (Em.callF (f := 32) (Ev.fn g6 rfl rfl) (g6.kin _ _ rfl) rfl (Ea.two (P := R T) (P' := I (0 - p.2)) (Ev.local hn6 mp6 rfl) (Ev.sub Ev.int (Ev.pt1 (Ev.local hn6 mpt6 rfl) hp6))) fun vs' s7 k7 p7 => ?bis) ?_
    case bis =>
      obtain ⟨v1, v2, rfl, rfl, t2, rfl⟩ := p7
      refine bisect_spec (n := n + 5) hA (g6.k k7) (items := us3.toArray) (ext_list hT6.isList (Mine.K.ext k7)) (by simpa using (by omega : cp ≤ us3.length)) (by simp; omega) (fun j hj A' s' hA' k' => ?_) (.inl rfl)
      have hj' : j < (pilesOf (ps.take i)).length := by rw [← hul]; simpa using hj
      obtain ⟨tj, htj⟩ := hI3.get j _ (List.getElem?_eq_getElem hj')
      have e : us3.toArray[j] = .int (pilesOf (ps.take i))[j] tj := by
        have : us3.toArray[j]? = some (.int (pilesOf (ps.take i))[j] tj) := by simpa using htj
        rw [Array.getElem?_eq_getElem hj] at this
        exact Option.some.inj this
      rw [e, ← hcut j hj', List.getD_eq_getElem?_getD, List.getElem?_eq_getElem hj']
      exact Em.of fun s Q E _ hQ => lt_int (hQ _ _ Mine.K.rfl rfl)
    rintro pv s7 s8 k7 ⟨tp, rfl⟩ kb8 hn8
    replace kb8 : KB [L] s7 s8 := kb8
    obtain ⟨m8, hn8, mpt8, mt8, mp8, mpl8⟩ : ∃ m8, s8.heap.Ns L m8 ∧ m8 (Str.ofString "point") = some v' ∧ m8 (Str.ofString "table") = some (.ref D') ∧ m8 (Str.ofString "tops") = some (.ref T) ∧ m8 (Str.ofString "place") = some (.int cp tp) := ⟨_, hn8, upd_ne mpt6, upd_ne mt6, upd_ne mp6, upd_eq⟩
    have ntL7 : ∀ b ∈ [L], NotTup s7.heap b := fun b hb => by rw [List.mem_singleton.mp hb]; exact NotTup.ns (hn6.keeps (Mine.K.ext k7))
    have htab8 := (htab6.ext (Mine.K.ext k7)).kb kb8 (fun q => hD'L (List.mem_singleton.mp q)) (fun b hb => (ntL7 b hb).key)
    have hT8 := plain_kb (ext_plain hT6 (Mine.K.ext k7)) kb8 (fun q => hTL (List.mem_singleton.mp q))
    have hp8 : IsPt s8.heap v' p := (hp6.ext (Mine.K.ext k7)).kb kb8 ntL7
    have kb38 : KB [L, T] s3 s8 := KB.trans kb36 (KB.trans (KB.of k7) (kb8.mono (by simp)))
    -- tops[place:place + 1] = [..]
    refine ex_slice1 (a := cp) (l := T) (vs := us3) (P := I (0 - p.2)) (Ev.sub Ev.int (Ev.pt1 (Ev.local hn8 mpt8 rfl) hp8)) (Ev.local hn8 mp8 rfl) (Ev.local hn8 mpl8 ⟨_, rfl⟩) (Ev.add (Ev.local hn8 mpl8 ⟨_, rfl⟩) Ev.int) hT8 (by omega) (by omega) fun y s9 hy kb9 hT9 => ?_
    have ntT8 : ∀ b ∈ [T], NotTup s8.heap b := fun b hb => by rw [List.mem_singleton.mp hb]; exact NotTup.plain hT8
    have kb39 := KB.trans kb38 (kb9.mono (by simp))
    refine wpAny_execs_nil ⟨rfl, m8, kb39, hn8.at fun o e => kb9.get e (fun q => hTL (List.mem_singleton.mp q).symm), KB.trans kb3 kb39, ⟨D', zs, hD'L, mt8, htab8.kb kb9 (fun q => hD'T (List.mem_singleton.mp q)) (fun b hb => (ntT8 b hb).key)⟩, mp8, _, hT9, ?_⟩
    rw [hps, pilesOf_snoc]
    have := ints_put hI3 cp hy
    rw [← hcp] at this ⊢
    exact this
end
end Mine

namespace Mine

theorem snoc_ind {α : Type} {P : List α → Prop} (h0 : P []) (h1 : ∀ l a, P l → P (l ++ [a])) (l : List α) : P l := by
  rw [← List.reverse_reverse l]
  induction l.reverse with
  | nil => exact h0
  | cons a t ih => rw [List.reverse_cons]; exact h1 _ _ ih

/-! the table -/
theorem bump_keys (tb : List (Int × Int)) (l c : Int) : (bump tb l c).map (·.1) = if l ∈ tb.map (·.1) then tb.map (·.1) else tb.map (·.1) ++ [l] := by
  unfold bump
  split
  · rw [List.map_map]
    apply List.map_congr_left
    intro p _
    simp only [Function.comp]
    split <;> rfl
  · simp

theorem sum_put {l c : Int} : ∀ {tb : List (Int × Int)}, (tb.map (·.1)).Nodup → ((tb.map fun p => if p.1 = l then (p.1, p.2 + c) else p).map (·.2)).sum = (tb.map (·.2)).sum + (if l ∈ tb.map (·.1) then c else 0)
  | [], _ => by simp
  | p :: tb, hn => by
    simp only [List.map_cons, List.nodup_cons] at hn
    have ih := sum_put (l := l) (c := c) hn.2
    simp only [List.map_cons, List.sum_cons, List.mem_cons]
    rw [ih]
    by_cases hp : p.1 = l
    · have hm : l ∉ tb.map (·.1) := by rw [← hp]; exact hn.1
      rw [if_pos hp, if_neg hm, if_pos (.inl hp.symm)]
      simp only []
      omega
    · rw [if_neg hp]
      by_cases hm : l ∈ tb.map (·.1)
      · rw [if_pos hm, if_pos (.inr hm)]; omega
      · rw [if_neg hm, if_neg (by rintro (h | h); exact hp h.symm; exact hm h)]; omega

structure TabOk (tb : List (Int × Int)) (ls : List Int) : Prop where
  nd : (tb.map (·.1)).Nodup
  mem : ∀ l, l ∈ tb.map (·.1) ↔ l ∈ ls
  cnt : ∀ l c, (l, c) ∈ tb → c = (ls.count l : Nat)
  sum : (tb.map (·.2)).sum = ls.length

theorem tab_ok (ls : List Int) : TabOk (tabOf ls) ls := by
  induction ls using snoc_ind with
  | h0 => exact ⟨List.nodup_nil, fun l => by simp [tabOf], fun l c h => by simp [tabOf] at h, by simp [tabOf]⟩
  | h1 ls a ih =>
    rw [tabOf_snoc]
    obtain ⟨nd, mem, cnt, sm⟩ := ih
    have hk := bump_keys (tabOf ls) a 1
    refine ⟨?_, fun l => ?_, fun l c h => ?_, ?_⟩
    · rw [hk]
      split
      · exact nd
      · rename_i h
        rw [List.nodup_append]
        exact ⟨nd, by simp, fun x hx y hy e => h (by rw [List.mem_singleton.mp hy] at e; rw [← e]; exact hx)⟩
    · rw [hk]
      split
      · rename_i h
        rw [mem, List.mem_append, List.mem_singleton]
        constructor
        · exact .inl
        · rintro (h' | rfl)
          · exact h'
          · exact (mem _).mp h
      · rw [List.mem_append, List.mem_append, mem]
    · unfold bump at h
      rw [List.count_append]
      split at h
      · obtain ⟨q, hq, e⟩ := List.mem_map.mp h
        by_cases hl : q.1 = a
        · rw [if_pos hl] at e
          cases e
          have := cnt q.1 q.2 hq
          rw [this, hl]
          simp
        · rw [if_neg hl] at e
          subst e
          have := cnt _ _ hq
          rw [this]
          have : List.count l [a] = 0 := by rw [List.count_eq_zero]; simpa using hl
          rw [this]; rfl
      · rename_i hm
        rcases List.mem_append.mp h with h1 | h1
        · have := cnt _ _ h1
          rw [this]
          have hla : l ≠ a := fun e => hm (List.mem_map.mpr ⟨(l, c), h1, e⟩)
          have : List.count l [a] = 0 := by rw [List.count_eq_zero]; simpa using hla
          rw [this]; rfl
        · simp only [List.mem_singleton] at h1
          cases h1
          have : List.count a ls = 0 := by rw [List.count_eq_zero]; exact fun hm' => hm ((mem _).mpr hm')
          rw [this]; simp
    · unfold bump
      split
      · rename_i hm
        rw [sum_put nd, if_pos hm, sm, List.length_append]; simp
      · rw [List.map_append, List.sum_append, sm, List.length_append]; simp

/-! index lists -/
def Inc (is : List Nat) (n : Nat) : Prop := is.Pairwise (· < ·) ∧ ∀ i ∈ is, i < n
def Adj (R : Nat → Nat → Prop) (is : List Nat) : Prop := ∀ k, k + 1 < is.length → R (is.getD k 0) (is.getD (k + 1) 0)

theorem Inc.le {is : List Nat} {n m : Nat} (h : Inc is n) (hm : n ≤ m) : Inc is m := ⟨h.1, fun i hi => Nat.lt_of_lt_of_le (h.2 i hi) hm⟩
theorem Inc.snoc {is : List Nat} {n j : Nat} (h : Inc is j) (hj : j < n) : Inc (is ++ [j]) n := by
  refine ⟨List.pairwise_append.mpr ⟨h.1, List.pairwise_singleton _ _, fun a ha b hb => by rw [List.mem_singleton.mp hb]; exact h.2 a ha⟩, fun i hi => ?_⟩
  rcases List.mem_append.mp hi with hi | hi
  · exact Nat.lt_trans (h.2 i hi) hj
  · rw [List.mem_singleton.mp hi]; exact hj
theorem Inc.front {is : List Nat} {n j : Nat} (h : Inc (is ++ [j]) n) : Inc is j ∧ j < n := by
  obtain ⟨h1, h2⟩ := h
  rw [List.pairwise_append] at h1
  exact ⟨⟨h1.1, fun i hi => h1.2.2 i hi j (by simp)⟩, h2 j (by simp)⟩
theorem adj_one {R : Nat → Nat → Prop} (j : Nat) : Adj R [j] := fun k hk => absurd hk (by simp)
theorem adj_front {R : Nat → Nat → Prop} {is : List Nat} {j : Nat} (h : Adj R (is ++ [j])) : Adj R is := fun k hk => by
  have := h k (by simp; omega)
  simp only [List.getD_eq_getElem?_getD] at this ⊢
  rwa [List.getElem?_append_left (by omega), List.getElem?_append_left (by omega)] at this
theorem adj_last {R : Nat → Nat → Prop} {is : List Nat} {i j : Nat} (h : Adj R ((is ++ [i]) ++ [j])) : R i j := by
  have := h is.length (by simp)
  simp only [List.getD_eq_getElem?_getD] at this
  rw [List.getElem?_append_left (by simp), List.getElem?_append_right (by simp), List.getElem?_append_right (by simp)] at this
  simpa using this
theorem adj_snoc {R : Nat → Nat → Prop} {is : List Nat} {i j : Nat} (h : Adj R (is ++ [i])) (hr : R i j) : Adj R ((is ++ [i]) ++ [j]) := fun k hk => by
  simp only [List.length_append, List.length_singleton] at hk
  simp only [List.getD_eq_getElem?_getD]
  rcases Nat.lt_or_ge (k + 1) (is ++ [i]).length with h1 | h1
  · rw [List.getElem?_append_left (by omega), List.getElem?_append_left h1]
    have := h k h1
    simpa only [List.getD_eq_getElem?_getD] using this
  · simp only [List.length_append, List.length_singleton] at h1
    have hk' : k = is.length := by omega
    subst hk'
    rw [List.getElem?_append_left (by simp), List.getElem?_append_right (by simp), List.getElem?_append_right (by simp)]
    simpa using hr
theorem adj_of_pairwise {R : Nat → Nat → Prop} {is : List Nat} (h : is.Pairwise R) : Adj R is := fun k hk => by
  have := List.pairwise_iff_getElem.mp h k (k + 1) (by omega) hk (Nat.lt_succ_self k)
  rw [List.getD_eq_getElem?_getD, List.getD_eq_getElem?_getD, List.getElem?_eq_getElem (by omega), List.getElem?_eq_getElem hk]
  exact this

def Rov (ps : List Pt) (a b : Nat) : Prop := ovr (ps.getD b (0, 0)) (ps.getD a (0, 0)) = true
def Ral (ps : List Pt) (a b : Nat) : Prop := (ps.getD a (0, 0)).1 < (ps.getD b (0, 0)).1 ∧ (ps.getD b (0, 0)).2 < (ps.getD a (0, 0)).2

section
variable {ps : List Pt} {ls : List Int}

theorem lev_get {j : Nat} {x : Int} (h : ls[j]? = some x) : ls.getD j 0 = x := by rw [List.getD_eq_getElem?_getD, h]; rfl

theorem lev_bound (hl : ls.length = ps.length) (hlat : ∀ k, k < ps.length → LevAt ps ls k) : ∀ is j, Inc (is ++ [j]) ps.length → Adj (Rov ps) (is ++ [j]) → (is.length : Int) + 1 ≤ ls.getD j 0 := by
  intro is
  induction is using snoc_ind with
  | h0 =>
    intro j hi _
    obtain ⟨M, h1, h2, _⟩ := hlat j (hi.front.2)
    rw [lev_get h1]; simp; omega
  | h1 is i ih =>
    intro j hi ha
    obtain ⟨f1, f2⟩ := hi.front
    have h := ih i (f1.le (Nat.le_of_lt f2)) (adj_front ha)
    have hr := adj_last ha
    obtain ⟨M, h1, h2, h3, h4⟩ := hlat j f2
    have hij : i < j := f1.2 i (by simp)
    have hx := h4 i (ls.getD i 0) hij hr (by rw [List.getD_eq_getElem?_getD, List.getElem?_eq_getElem (by omega)]; rfl)
    rw [lev_get h1, List.length_append, List.length_singleton]
    push_cast
    omega

theorem lev_ex (hlat : ∀ k, k < ps.length → LevAt ps ls k) : ∀ j, j < ps.length → ∃ is, Inc (is ++ [j]) ps.length ∧ Adj (Rov ps) (is ++ [j]) ∧ (is.length : Int) + 1 = ls.getD j 0 := by
  intro j
  induction j using Nat.strongRecOn with
  | ind j ih =>
    intro hj
    obtain ⟨M, h1, h2, h3, h4⟩ := hlat j hj
    rw [lev_get h1]
    rcases h3 with rfl | ⟨i, hij, ho, hM⟩
    · exact ⟨[], ⟨by simp, fun i hi => by simp at hi; omega⟩, adj_one j, by simp⟩
    · obtain ⟨is, a, b, c⟩ := ih i hij (by omega)
      have hf := a.front
      rw [lev_get hM] at c
      have hinc : Inc (is ++ [i]) j := hf.1.snoc hij
      exact ⟨is ++ [i], hinc.snoc hj, adj_snoc b ho, by rw [List.length_append, List.length_singleton]; push_cast; omega⟩

theorem lev_no (hl : ls.length = ps.length) (hlat : ∀ k, k < ps.length → LevAt ps ls k) {j k : Nat} (hk : k < j) (hj : j < ps.length) (he : ls.getD j 0 = ls.getD k 0) : ovr (ps.getD j (0, 0)) (ps.getD k (0, 0)) = false := by
  cases h : ovr (ps.getD j (0, 0)) (ps.getD k (0, 0)) with
  | false => rfl
  | true =>
    exfalso
    obtain ⟨M, h1, h2, h3, h4⟩ := hlat j hj
    have := h4 k (ls.getD k 0) hk h (by rw [List.getD_eq_getElem?_getD, List.getElem?_eq_getElem (by omega)]; rfl)
    rw [lev_get h1] at he
    omega

/-- points in order: not over means a step down -/
theorem ral_of (ha : Asc ps) {a b : Nat} (hab : a < b) (hb : b < ps.length) (h : (ps.getD b (0, 0)).2 < (ps.getD a (0, 0)).2) : Ral ps a b := by
  have := asc_get ha hab hb
  rw [tlt_iff] at this
  refine ⟨?_, h⟩
  omega
theorem ral_not (ha : Asc ps) {a b : Nat} (hab : a < b) (hb : b < ps.length) (h : ovr (ps.getD b (0, 0)) (ps.getD a (0, 0)) = false) : Ral ps a b := by
  have ht := asc_get ha hab hb
  rw [tlt_iff] at ht
  refine ral_of ha hab hb ?_
  have hne : ps.getD b (0, 0) ≠ ps.getD a (0, 0) := by
    intro e
    rw [e] at ht; omega
  unfold ovr at h
  simp only [Bool.and_eq_false_iff, decide_eq_false_iff_not, ne_eq] at h
  rcases h with h | h | h
  · exact absurd hne h
  · omega
  · omega
end
end Mine

namespace Mine

/-- c is the greatest length of an increasing index list whose steps are R's -/
def IsGreat (R : Nat → Nat → Prop) (n : Nat) (c : Nat) : Prop := (∃ is, Inc is n ∧ Adj R is ∧ is.length = c) ∧ ∀ is, Inc is n → Adj R is → is.length ≤ c

theorem inc_one {n : Nat} (h : 0 < n) : Inc [0] n := ⟨List.pairwise_singleton _ _, fun i hi => by rw [List.mem_singleton.mp hi]; exact h⟩
theorem great_pos {R : Nat → Nat → Prop} {n c : Nat} (h : IsGreat R n c) (hn : 0 < n) : 1 ≤ c := h.2 [0] (inc_one hn) (adj_one 0)

section
variable {ps : List Pt} {ls : List Int}

/-- Mirsky: the longest climb is as long as the greatest level -/
theorem climbs_max (hl : ls.length = ps.length) (hlat : ∀ k, k < ps.length → LevAt ps ls k) (hn : 0 < ps.length) {c : Nat} (hc : IsGreat (Rov ps) ps.length c) {M : Int} (hM : M ∈ ls) (hmax : ∀ a ∈ ls, a ≤ M) : (c : Int) = M := by
  obtain ⟨j, hj, e⟩ := mem_getD hM
  obtain ⟨is, a, b, d⟩ := lev_ex hlat j (by omega)
  have h1 := hc.2 _ a b
  rw [List.length_append, List.length_singleton] at h1
  obtain ⟨is', a', b', d'⟩ := hc.1
  have hpos := great_pos hc hn
  rcases List.eq_nil_or_concat is' with h | ⟨t, z, h⟩
  · subst h; simp at d'; omega
  · rw [List.concat_eq_append] at h
    subst h
    have h2 := lev_bound hl hlat t z a' b'
    have h3 := hmax _ (PySem.getD_mem (by have := a'.front.2; omega : z < ls.length))
    rw [List.length_append, List.length_singleton] at d'
    omega

theorem lev_pos (hlat : ∀ k, k < ps.length → LevAt ps ls k) {j : Nat} (hj : j < ps.length) : 1 ≤ ls.getD j 0 := by
  obtain ⟨M, h1, h2, _⟩ := hlat j hj
  rw [lev_get h1]; omega

/-- every level up to the greatest is some point's -/
theorem lev_all (hlat : ∀ k, k < ps.length → LevAt ps ls k) : ∀ j, j < ps.length → ∀ l, 1 ≤ l → l ≤ ls.getD j 0 → l ∈ ls := by
  intro j
  induction j using Nat.strongRecOn with
  | ind j ih =>
    intro hj l h1 h2
    obtain ⟨M, e, hM, h3, h4⟩ := hlat j hj
    rw [lev_get e] at h2
    rcases Int.lt_or_eq_of_le h2 with h | h
    · rcases h3 with rfl | ⟨i, hij, ho, hi⟩
      · omega
      · exact ih i hij (by omega) l h1 (by rw [lev_get hi]; omega)
    · rw [h]; exact List.mem_of_getElem? e

theorem nodup_count : ∀ (c : Nat) (l : List Int), l.Nodup → (∀ x, x ∈ l ↔ 1 ≤ x ∧ x ≤ c) → l.length = c := by
  intro c l hn hm
  have hp : l.Perm ((List.range c).map fun (i : Nat) => (i : Int) + 1) := by
    refine (List.perm_ext_iff_of_nodup hn ?_).mpr fun x => ?_
    · refine List.Pairwise.map _ (fun a b hab => ?_) List.nodup_range
      intro e
      exact hab (by omega)
    · rw [hm, List.mem_map]
      constructor
      · rintro ⟨h1, h2⟩
        exact ⟨(x - 1).toNat, List.mem_range.mpr (by omega), by omega⟩
      · rintro ⟨i, hi, rfl⟩
        have := List.mem_range.mp hi
        omega
  rw [hp.length_eq]; simp

theorem table_len (hl : ls.length = ps.length) (hlat : ∀ k, k < ps.length → LevAt ps ls k) {c : Nat} {M : Int} (hc : (c : Int) = M) (hM : M ∈ ls) (hmax : ∀ a ∈ ls, a ≤ M) : (tabOf ls).length = c := by
  have hk := tab_ok ls
  have := nodup_count c ((tabOf ls).map (·.1)) hk.nd (fun x => by
    rw [hk.mem]
    constructor
    · intro hx
      obtain ⟨j, hj, e⟩ := mem_getD hx
      have h1 := lev_pos hlat (j := j) (by omega)
      rw [e] at h1
      exact ⟨h1, by rw [hc]; exact hmax x hx⟩
    · rintro ⟨h1, h2⟩
      obtain ⟨j, hj, e⟩ := mem_getD hM
      exact lev_all hlat j (by omega) x h1 (by rw [e, ← hc]; exact h2))
  simpa using this

theorem count_filter (l : Int) : ls.count l = ((List.range ls.length).filter fun i => decide (ls.getD i 0 = l)).length := by
  have e : ls = (List.range ls.length).map fun i => ls.getD i 0 := by
    apply List.ext_getElem?
    intro i
    rcases Nat.lt_or_ge i ls.length with h | h
    · rw [List.getElem?_map, List.getElem?_range h, List.getElem?_eq_getElem h]
      simp [List.getD_eq_getElem?_getD, List.getElem?_eq_getElem h]
    · rw [List.getElem?_eq_none h, List.getElem?_eq_none (by simpa using h)]
  have h2 : ls.count l = ((List.range ls.length).map fun i => ls.getD i 0).count l := by rw [← e]
  rw [h2, List.count_eq_countP, List.countP_map, List.countP_eq_length_filter]
  have hf : (List.range ls.length).filter (((fun x => x == l) : Int → Bool) ∘ fun i => ls.getD i 0) = (List.range ls.length).filter fun i => decide (ls.getD i 0 = l) := by
    apply List.filter_congr
    intro i _
    rw [Bool.eq_iff_iff]
    simp
  rw [← hf]

/-- a level's points step down: no level is greater than the greatest pile -/
theorem class_le (ha : Asc ps) (hl : ls.length = ps.length) (hlat : ∀ k, k < ps.length → LevAt ps ls k) {g : Nat} (hg : IsGreat (Ral ps) ps.length g) {l c : Int} (h : (l, c) ∈ tabOf ls) : c ≤ g := by
  rw [(tab_ok ls).cnt l c h, count_filter, hl]
  have hinc : Inc ((List.range ps.length).filter fun i => decide (ls.getD i 0 = l)) ps.length := ⟨List.Pairwise.filter _ List.pairwise_lt_range, fun i hi => List.mem_range.mp (List.mem_filter.mp hi).1⟩
  have := hg.2 _ hinc (adj_of_pairwise (List.Pairwise.imp_of_mem (R := (· < ·)) (fun {a b} hma hmb hab => ?_) hinc.1))
  · exact_mod_cast this
  · have h1 := List.mem_filter.mp hma
    have h2 := List.mem_filter.mp hmb
    have hb := List.mem_range.mp h2.1
    have e1 : ls.getD a 0 = l := by simpa using h1.2
    have e2 : ls.getD b 0 = l := by simpa using h2.2
    exact ral_not ha hab hb (lev_no hl hlat hab hb (by rw [e1, e2]))

theorem sum_le {g : Int} : ∀ {l : List Int}, (∀ x ∈ l, x ≤ g) → l.sum ≤ l.length * g
  | [], _ => by simp
  | x :: l, h => by
    have ih := sum_le (fun y hy => h y (List.mem_cons_of_mem _ hy))
    have hx := h x (List.mem_cons_self ..)
    rw [List.sum_cons, List.length_cons]
    push_cast
    rw [Int.add_mul, Int.one_mul]
    omega

theorem prod_ge (ha : Asc ps) (hl : ls.length = ps.length) (hlat : ∀ k, k < ps.length → LevAt ps ls k) {g c : Nat} (hg : IsGreat (Ral ps) ps.length g) (hc : (tabOf ls).length = c) : (ps.length : Int) ≤ c * g := by
  have h1 := (tab_ok ls).sum
  have h2 : ((tabOf ls).map (·.2)).sum ≤ ((tabOf ls).map (·.2)).length * (g : Int) := sum_le (fun x hx => by
    obtain ⟨⟨l, c⟩, hm, rfl⟩ := List.mem_map.mp hx
    exact class_le ha hl hlat hg hm)
  rw [List.length_map, hc, h1, hl] at h2
  exact h2

/-! the piles -/
structure Piles (ps : List Pt) (i : Nat) (ts : List Int) : Prop where
  ex : ∀ q, q < ts.length → ∃ is j, Inc (is ++ [j]) i ∧ Adj (Ral ps) (is ++ [j]) ∧ is.length = q ∧ 0 - (ps.getD j (0, 0)).2 = ts.getD q 0
  bd : ∀ is j, Inc (is ++ [j]) i → Adj (Ral ps) (is ++ [j]) → is.length < ts.length ∧ ts.getD is.length 0 ≤ 0 - (ps.getD j (0, 0)).2

theorem piles_step (ha : Asc ps) {i : Nat} (hi : i < ps.length) {ts : List Int} (hu : Up ts) (h : Piles ps i ts) : Piles ps (i + 1) (pileStep ts (0 - (ps.getD i (0, 0)).2)) := by
  generalize hx : 0 - (ps.getD i (0, 0)).2 = x
  have hlen := step_len (ts := ts) (x := x)
  have hcl := cut_le x ts
  have hcut : ∀ q, q < ts.length → (ts.getD q 0 < x ↔ q < cutPos ts x) := fun q hq => cut_iff hu q hq
  generalize hk : cutPos ts x = k at *
  have hget : ∀ q, q < (pileStep ts x).length → (pileStep ts x).getD q 0 = if q = k then x else ts.getD q 0 := fun q hq => by rw [step_get q hq, hk]
  refine ⟨fun q hq => ?_, fun is j hinc hadj => ?_⟩
  · rw [hget q hq]
    by_cases hqk : q = k
    · rw [if_pos hqk]
      subst hqk
      rcases q with _ | q
      · exact ⟨[], i, ⟨by simp, fun y hy => by simp at hy; omega⟩, adj_one i, rfl, hx⟩
      · obtain ⟨is, j, a, b, c, d⟩ := h.ex q (by omega)
        have hlt := (hcut q (by omega)).mpr (Nat.lt_succ_self q)
        have hji := a.front.2
        refine ⟨is ++ [j], i, Inc.snoc a (Nat.lt_succ_self i), adj_snoc b (ral_of ha hji hi (by omega)), by simp [c], hx⟩
    · rw [if_neg hqk]
      obtain ⟨is, j, a, b, c, d⟩ := h.ex q (by omega)
      exact ⟨is, j, a.le (Nat.le_succ i), b, c, d⟩
  · obtain ⟨hf1, hf2⟩ := hinc.front
    rcases Nat.lt_or_ge j i with hj | hj
    · obtain ⟨h1, h2⟩ := h.bd is j (hf1.snoc hj) hadj
      have hq : is.length < (pileStep ts x).length := by omega
      refine ⟨hq, ?_⟩
      rw [hget _ hq]
      split
      · rename_i e
        have : ¬ ts.getD is.length 0 < x := fun h' => by have := (hcut _ h1).mp h'; omega
        omega
      · exact h2
    · have hji : j = i := by omega
      subst hji
      rw [hx]
      rcases List.eq_nil_or_concat is with e | ⟨t, z, e⟩
      · subst e
        have hq : ([] : List Nat).length < (pileStep ts x).length := by simp; omega
        refine ⟨hq, ?_⟩
        rw [hget _ hq]
        split
        · exact Int.le_refl _
        · rename_i hne
          have hk0 : ([] : List Nat).length < k := by simp at hne ⊢; omega
          exact Int.le_of_lt ((hcut _ (by simp at hk0 ⊢; omega)).mpr hk0)
      · rw [List.concat_eq_append] at e
        subst e
        have hzi : z < j := hf1.2 z (by simp)
        obtain ⟨h1, h2⟩ := h.bd t z hf1 (adj_front hadj)
        have hr := (adj_last hadj).2
        have hlt : t.length < k := (hcut _ h1).mp (by omega)
        have hq : (t ++ [z]).length < (pileStep ts x).length := by simp; omega
        refine ⟨hq, ?_⟩
        rw [hget _ hq]
        split
        · exact Int.le_refl _
        · rename_i hne
          have hk0 : (t ++ [z]).length < k := by simp at hne ⊢; omega
          exact Int.le_of_lt ((hcut _ (by omega)).mpr hk0)

theorem piles_inv (ha : Asc ps) : ∀ i, i ≤ ps.length → Piles ps i (pilesOf (ps.take i)) := by
  intro i
  induction i with
  | zero =>
    intro _
    refine ⟨fun q hq => absurd hq (by simp [pilesOf]), fun is j hinc _ => absurd (hinc.2 j (by simp)) (Nat.not_lt_zero _)⟩
  | succ i ih =>
    intro hi
    have e : ps.take (i + 1) = ps.take i ++ [ps.getD i (0, 0)] := by
      rw [List.take_add_one, List.getD_eq_getElem?_getD, List.getElem?_eq_getElem hi]; rfl
    rw [e, pilesOf_snoc]
    exact piles_step ha hi (piles_up _) (ih (by omega))

/-- as many piles as the longest walk down -/
theorem piles_great (ha : Asc ps) (hn : 0 < ps.length) {g : Nat} (hg : IsGreat (Ral ps) ps.length g) : (pilesOf ps).length = g := by
  have h := piles_inv ha ps.length (Nat.le_refl _)
  rw [List.take_length] at h
  have hpos := great_pos hg hn
  refine Nat.le_antisymm ?_ ?_
  · rcases Nat.eq_zero_or_pos (pilesOf ps).length with h0 | h0
    · omega
    · obtain ⟨is, j, a, b, c, _⟩ := h.ex ((pilesOf ps).length - 1) (by omega)
      have := hg.2 _ a b
      rw [List.length_append, List.length_singleton] at this
      omega
  · obtain ⟨is, a, b, c⟩ := hg.1
    rcases List.eq_nil_or_concat is with e | ⟨t, z, e⟩
    · subst e; simp at c; omega
    · rw [List.concat_eq_append] at e
      subst e
      have := (h.bd t z a b).1
      rw [List.length_append, List.length_singleton] at c
      omega
end
end Mine

namespace Mine

def lotIdx (n N : Nat) : List Nat := (List.range n).filter fun i => decide (N / 2 ^ i % 2 = 1)

theorem lot_inc (n N : Nat) : Inc (lotIdx n N) n := ⟨List.Pairwise.filter _ List.pairwise_lt_range, fun i hi => List.mem_range.mp (List.mem_filter.mp hi).1⟩

theorem bit_add (n N i : Nat) (hi : i < n) : (N + 2 ^ n) / 2 ^ i % 2 = N / 2 ^ i % 2 := by
  have e : 2 ^ n = 2 ^ i * (2 * 2 ^ (n - i - 1)) := by
    rw [← Nat.mul_assoc, Nat.mul_comm (2 ^ i) 2, ← Nat.pow_succ', ← Nat.pow_add]
    congr 1; omega
  rw [e, Nat.add_mul_div_left _ _ (Nat.two_pow_pos i), Nat.add_mul_mod_self_left]

theorem lot_all : ∀ (n : Nat) (is : List Nat), Inc is n → ∃ N, N < 2 ^ n ∧ lotIdx n N = is
  | 0, is, h => by
    have : is = [] := by
      cases is with
      | nil => rfl
      | cons a t => exact absurd (h.2 a (by simp)) (Nat.not_lt_zero _)
    subst this
    exact ⟨0, by decide, rfl⟩
  | n + 1, is, h => by
    have front : ∀ is, Inc is n → ∃ N, N < 2 ^ (n + 1) ∧ lotIdx (n + 1) N = is ∧ N < 2 ^ n := fun is h => by
      obtain ⟨N, h1, h2⟩ := lot_all n is h
      refine ⟨N, by rw [Nat.pow_succ]; omega, ?_, h1⟩
      unfold lotIdx at h2 ⊢
      rw [List.range_succ, List.filter_append, h2]
      have : N / 2 ^ n = 0 := Nat.div_eq_of_lt h1
      simp [this]
    rcases List.eq_nil_or_concat is with e | ⟨t, z, e⟩
    · subst e
      obtain ⟨N, a, b, _⟩ := front [] ⟨List.Pairwise.nil, fun i hi => by simp at hi⟩
      exact ⟨N, a, b⟩
    · rw [List.concat_eq_append] at e
      subst e
      obtain ⟨f1, f2⟩ := h.front
      rcases Nat.lt_or_ge z n with hz | hz
      · obtain ⟨N, a, b, _⟩ := front _ (f1.snoc hz)
        exact ⟨N, a, b⟩
      · have hzn : z = n := by omega
        subst hzn
        obtain ⟨N, h1, h2⟩ := lot_all z t f1
        refine ⟨N + 2 ^ z, by rw [Nat.pow_succ]; omega, ?_⟩
        unfold lotIdx at h2 ⊢
        rw [List.range_succ, List.filter_append]
        have e1 : (List.range z).filter (fun i => decide ((N + 2 ^ z) / 2 ^ i % 2 = 1)) = t := by
          rw [← h2]
          apply List.filter_congr
          intro i hi
          rw [bit_add z N i (List.mem_range.mp hi)]
        have e2 : (N + 2 ^ z) / 2 ^ z = 1 := by
          rw [Nat.add_div_right _ (Nat.two_pow_pos z), Nat.div_eq_of_lt h1]
        rw [e1]
        simp [e2]

/-- behind i lots, c is the greatest so far -/
structure SoFar (R : Nat → Nat → Prop) (n i c : Nat) : Prop where
  le : ∀ N, N < i → Adj R (lotIdx n N) → (lotIdx n N).length ≤ c
  ex : c = 0 ∨ ∃ N, N < i ∧ Adj R (lotIdx n N) ∧ (lotIdx n N).length = c

theorem SoFar.zero {R : Nat → Nat → Prop} {n : Nat} : SoFar R n 0 0 := ⟨fun N h => absurd h (Nat.not_lt_zero _), .inl rfl⟩
theorem SoFar.step {R : Nat → Nat → Prop} {n i c c' : Nat} (h : SoFar R n i c) (h1 : c < (lotIdx n i).length → Adj R (lotIdx n i) → c' = (lotIdx n i).length) (h2 : ¬ (c < (lotIdx n i).length ∧ Adj R (lotIdx n i)) → c' = c) : SoFar R n (i + 1) c' := by
  by_cases hb : c < (lotIdx n i).length ∧ Adj R (lotIdx n i)
  · obtain rfl := h1 hb.1 hb.2
    refine ⟨fun N hN ha => ?_, .inr ⟨i, Nat.lt_succ_self i, hb.2, rfl⟩⟩
    rcases Nat.lt_or_ge N i with h' | h'
    · exact Nat.le_trans (h.le N h' ha) (Nat.le_of_lt hb.1)
    · have : N = i := by omega
      subst this; exact Nat.le_refl _
  · obtain rfl := h2 hb
    refine ⟨fun N hN ha => ?_, ?_⟩
    · rcases Nat.lt_or_ge N i with h' | h'
      · exact h.le N h' ha
      · have : N = i := by omega
        subst this
        exact Nat.not_lt.mp fun hl => hb ⟨hl, ha⟩
    · rcases h.ex with h0 | ⟨N, a, b, d⟩
      · exact .inl h0
      · exact .inr ⟨N, by omega, b, d⟩
theorem SoFar.great {R : Nat → Nat → Prop} {n c : Nat} (h : SoFar R n (2 ^ n) c) : IsGreat R n c := by
  refine ⟨?_, fun is hi ha => ?_⟩
  · rcases h.ex with h0 | ⟨N, a, b, d⟩
    · exact ⟨[], ⟨List.Pairwise.nil, fun i hi => by simp at hi⟩, fun k hk => absurd hk (by simp), by simp [h0]⟩
    · exact ⟨_, lot_inc n N, b, d⟩
  · obtain ⟨N, h1, h2⟩ := lot_all n is hi
    rw [← h2] at ha ⊢
    exact h.le N h1 ha

theorem lot_len (n N : Nat) : (lotIdx n N).length ≤ n := by
  have := List.length_filter_le (fun i => decide (N / 2 ^ i % 2 = 1)) (List.range n)
  simpa [lotIdx] using this

/-- the test of a lot: no step fails -/
theorem adj_iff {R : Nat → Nat → Prop} {is : List Nat} {f : Nat → Bool} (hf : ∀ k, k + 1 < is.length → (f k = true ↔ ¬ R (is.getD k 0) (is.getD (k + 1) 0))) : (List.range (is.length - 1)).filter f = [] ↔ Adj R is := by
  rw [List.filter_eq_nil_iff]
  constructor
  · intro h k hk
    have := h k (List.mem_range.mpr (by omega))
    rw [hf k hk] at this
    exact Classical.not_not.mp this
  · intro h k hk
    have hk' : k + 1 < is.length := by have := List.mem_range.mp hk; omega
    rw [hf k hk']
    exact fun h' => h' (h k hk')
end Mine

namespace Mine
section
variable {prog : Program} {w : World} {A : Around} {E : Value → Shared → Prop} {s s' s₀ : Shared} {env : Env}

theorem Ev.cmpH {l r : Expr} {op : CmpOp} {pos : Pos} {b : Bool} {P : Value → Shared → Prop} {P' : Value → Value → Shared → Prop} (h1 : Em prog w A (eval l env) s₀ P)
    (h2 : ∀ a s₁, Keeps s₀ s₁ → P a s₁ → Em prog w A (eval r env) s₁ (P' a)) (h : ∀ x y s₂, Keeps s₀ s₂ → P' x y s₂ → Em prog w A (compareOp op x y) s₂ (fun v _ => v = .bool b))
    (hm : behindInMarks op r = false := by with_unfolding_all rfl) : Ev prog w A env (.Compare l [op] [r] pos) s₀ (Bo b) :=
  Em.of fun s Q E k hQ => wpAny_Compare1 (h1.use k fun a s₁ k₁ p₁ => (h2 a s₁ (Mine.K.trans k k₁) p₁).use Mine.K.rfl fun b s₂ k₂ p₂ =>
    (h a b s₂ (Mine.K.trans k (Mine.K.trans k₁ k₂)) p₂).use Mine.K.rfl fun v s₃ k₃ p₃ => hQ v s₃ (Mine.K.trans k₁ (Mine.K.trans k₂ k₃)) p₃) hm

theorem law_mid {n : Nat} (hA : AOk (n + 6) A) {sb : Shared} {L P D d T fa : Addr} {cd : Value} {vs : List Value} {ps : List Pt} {ls : List Int} {m : Str → Option Value} {Q : Flow → Shared → Prop} (x : LC w sb L P vs ps s)
    (hn : s.heap.Ns L m) (y : LT prog w sb L P D d T ps ls m s)
    (hret : ∀ s', Keeps s s' → Q (.ret (.bool true)) s')
    (k : 0 < ps.length → ∀ s', Keeps s s' → wpAny (model prog w) A (execs (lawBody.drop 8) (lawEnv L fa cd)) Q E s') :
    wpAny (model prog w) A (execs (lawBody.drop 6) (lawEnv L fa cd)) Q E s := by
  have g := x.g
  have hvl := x.pts.1
  have hlen := x.len
  obtain ⟨xs, hT⟩ := y.tab
  have hsum := (tab_ok ls).sum
  -- if count_calls(table) != len(points) or points == []
  refine ex_if (env := lawEnv L fa cd) (b := (((tabOf ls).map (·.2)).sum != (ps.length : Int)) || (decide (ps.map ptData = []) || false)) (EvT.boolOp (EvT.any_cons (EvT.cmp (Cm.ne (Em.callF (f := 74) (Ev.fn g rfl rfl) (g.kin _ _ rfl) rfl (Ea.one (P := R d) (Ev.local hn y.mt rfl)) fun vs' s1 k1 p1 => ?cnt)
      (Em.callB (Ev.bn g rfl rfl rfl) (Ea.one (P := R P) (Ev.cell (c := L + 1) rfl x.c1 rfl)) fun vs' s1 k1 p1 => ?len))) fun _ => EvT.any_cons (EvT.eq_nil hA (canLay_pts ps) ((Ev.cell (P := R P) (c := L + 1) rfl x.c1 rfl).mono ?rd)) fun _ => EvT.any_nil)) fun s1 k1 => ?rest
  case cnt =>
    obtain ⟨v, rfl, rfl⟩ := p1
    exact count_spec (n := n + 4) hA (g.k k1) (hT.ext (Mine.K.ext k1))
  case len =>
    obtain ⟨v, rfl, rfl⟩ := p1
    exact Em.len_of (x.k k1).lst.isList (by simpa using hvl) (by omega)
  case rd =>
    rintro v s1 k1 rfl
    obtain ⟨as, ra⟩ := reads_pts (x.k k1).pts
    exact ⟨P, vs, as, rfl, (x.k k1).lst, ra⟩
  case rest =>
    have hs1 : (((tabOf ls).map (·.2)).sum != (ps.length : Int)) = false := by rw [hsum, y.llen]; simp
    by_cases h0 : ps = []
    · subst h0
      rw [if_pos (by simp)]
      have hls : ls = [] := List.length_eq_zero_iff.mp y.llen
      subst hls
      obtain ⟨us, hU, hI⟩ := y.tops
      have hus : us = [] := List.length_eq_zero_iff.mp (by rw [hI.length]; rfl)
      subst hus
      have hxs : xs = [] := by
        have h := hT.2.1
        cases xs with
        | nil => rfl
        | cons a t => cases h
      subst hxs
      obtain ⟨ep, hrd⟩ := dictOfH_rd hT.1
      have x1 := x.k k1
      refine ex_return (env := lawEnv L fa cd) (P := fun r _ => r = .bool (true && true)) (Ev.boolOp (Ev.and_cons (Ev.cmpH (P := fun v s => v = .ref d) (P' := fun a b s => ∃ D', a = .ref d ∧ b = .ref D' ∧ D' ≠ sysModules ∧ RD s.heap D' [] 0) (Ev.local (hn.keeps (Mine.K.ext k1)) y.mt rfl)
        (fun a s2 k2 e => (Em.dict0 (x1.k k2).g).mono fun v s3 k3 ⟨D', e', _, hds, hD'⟩ => ⟨D', e, e', hds, _, hD', ⟨rfl, rfl, rfl⟩, rfl⟩) fun a b s2 k2 h2 => ?eqd) fun _ => Ev.and_last (Ev.cmpH (P := fun v s => v = .ref T) (P' := fun a b s => ∃ D', a = .ref T ∧ b = .ref D' ∧ s.heap.PlainList D' ([] : List Value).toArray) (Ev.local (hn.keeps (Mine.K.ext k1)) y.mp rfl)
        (fun a s2 k2 e => Em.nil.mono fun v s3 k3 ⟨D', e', _, hD'⟩ => ⟨D', e, e', hD'⟩) fun a b s2 k2 h2 => ?eqt))) fun r s2 k2 e => ?fin
      case eqd =>
        obtain ⟨D', rfl, rfl, hds, hD'⟩ := h2
        exact Em.eq_dict0 hA (hrd.ext (Mine.K.ext (Mine.K.trans k1 k2))) hD' hT.2.2 hds
      case eqt =>
        obtain ⟨D', rfl, rfl, hD'⟩ := h2
        refine (Em.eq_nil hA (xs := []) (ext_plain hU (Mine.K.ext (Mine.K.trans k1 k2))) .nil rfl hD').mono fun v s3 k3 e => ?_
        rw [e]; rfl
      case fin =>
        subst e
        exact hret s2 (Mine.K.trans k1 k2)
    · have h0' : decide (ps.map ptData = []) = false := by
        rw [decide_eq_false_iff_not, List.map_eq_nil_iff]; exact h0
      have hpos : 0 < ps.length := List.length_pos_iff.mpr h0
      rw [if_neg (by rw [hs1, h0']; simp)]
      refine wpAny_execs_nil ?_
      have x1 := x.k k1
      have y1 := y.k k1
      obtain ⟨ys, hD, hI⟩ := y1.lev
      have hyl := hI.length
      have hll := y1.llen
      -- the two-loop comprehension
      refine ex_if (env := lawEnv L fa cd) (b := decide (([] : List PyData) ≠ [])) (EvT.ne_nil hA rfl ((Em.comp2none ps.length hA.hh ?it (by omega) rfl (by decide) rfl (by decide) rfl rfl (by decide) ?it2 ?test).mono ?res)) fun s2 k2 => ?go
      case it =>
        refine Em.callT (T := "range") (Ev.bn x1.g rfl rfl rfl) (Ea.one (P := I (ps.length : Nat)) (Em.callB (Ev.bn x1.g rfl rfl rfl) (Ea.one (P := R P) (Ev.cell (c := L + 1) rfl x1.c1 rfl)) fun vs' s2 k2 p2 => ?_)) fun vs' s2 k2 p2 => ?_
        · obtain ⟨v, rfl, rfl⟩ := p2
          exact Em.len_of (x1.k k2).lst.isList (by simpa using hvl) (by omega)
        · obtain ⟨v, rfl, t, rfl⟩ := p2
          exact Em.range1
      case it2 =>
        intro j C s2 m2 t2 hj e2 hC0 hns hm
        have g2 : G w s2.heap := x1.g.ext e2
        refine Em.callT (T := "range") (Ev.bn g2 rfl rfl rfl) (Ea.one (P := I (j : Int)) (Ev.local hns hm ⟨_, rfl⟩)) fun vs' s3 k3 p3 => ?_
        obtain ⟨v, rfl, t, rfl⟩ := p3
        exact Em.range1
      case test =>
        intro j kk C s2 m2 t2 t2' hk hj e2 hC0 hns hmj hmk
        have g2 : G w s2.heap := x1.g.ext e2
        have c12 := x1.c1.keeps e2
        have c42 := y1.c4.keeps e2
        have hl2 := ext_plain x1.lst e2
        have hD2 := ext_plain hD e2
        have hp2 := x1.pts.ext e2
        obtain ⟨vj, hvj, hpj⟩ := hp2.at hj
        obtain ⟨vk, hvk, hpk⟩ := hp2.at (Nat.lt_trans hk hj)
        have hj' : j < ls.length := by omega
        have hk' : kk < ls.length := by omega
        obtain ⟨tj, htj⟩ := hI.get j _ (List.getElem?_eq_getElem hj')
        obtain ⟨tk', htk⟩ := hI.get kk _ (List.getElem?_eq_getElem hk')
        have hgj : ls.getD j 0 = ls[j] := by rw [List.getD_eq_getElem?_getD, List.getElem?_eq_getElem hj']; rfl
        have hgk : ls.getD kk 0 = ls[kk] := by rw [List.getD_eq_getElem?_getD, List.getElem?_eq_getElem hk']; rfl
        have hno : ls.getD j 0 = ls.getD kk 0 → ovr (ps.getD j (0, 0)) (ps.getD kk (0, 0)) = false := fun e => lev_no hll y1.lat hk hj e
        have hb : (ls.getD j 0 == ls.getD kk 0 && (ovr (ps.getD j (0, 0)) (ps.getD kk (0, 0)) && true)) = false := by
          by_cases e : ls.getD j 0 = ls.getD kk 0
          · rw [hno e]; simp
          · have : (ls.getD j 0 == ls.getD kk 0) = false := by simpa using e
            rw [this]; rfl
        rw [← hb]
        refine EvT.boolOp (EvT.all_cons (EvT.cmp (Cm.eq (Ev.sub_list (k := (j : Int)) (P := I (ls.getD j 0)) (Ev.cell (c := L + 1 + 1 + 1 + 1) rfl c42 rfl) (Ev.local hns hmj ⟨_, rfl⟩) hD2.isList (by omega) (by omega) (by simpa using htj) ⟨tj, by rw [hgj]⟩)
          (Ev.sub_list (k := (kk : Int)) (P := I (ls.getD kk 0)) (Ev.cell (c := L + 1 + 1 + 1 + 1) rfl c42 rfl) (Ev.local hns hmk ⟨_, rfl⟩) hD2.isList (by omega) (by omega) (by simpa using htk) ⟨tk', by rw [hgk]⟩))) fun _ => EvT.all_cons (EvT.bool (Em.callF (f := 81) (Ev.fn g2 rfl rfl) (g2.kin _ _ rfl) rfl (Ea.two (P := fun v => v = vj) (P' := fun v => v = vk)
          (Ev.sub_list (k := (j : Int)) (Ev.cell (c := L + 1) rfl c12 rfl) (Ev.local hns hmj ⟨_, rfl⟩) hl2.isList (by omega) (by omega) (by simpa using hvj) rfl)
          (Ev.sub_list (k := (kk : Int)) (Ev.cell (c := L + 1) rfl c12 rfl) (Ev.local hns hmk ⟨_, rfl⟩) hl2.isList (by omega) (by omega) (by simpa using hvk) rfl)) fun vs' s3 k3 p3 => ?_)) fun _ => EvT.all_nil)
        obtain ⟨v, v', rfl, rfl, rfl⟩ := p3
        exact over_spec (n := n + 4) (hA.le (by omega)) (g2.k k3) (hpj.ext (Mine.K.ext k3)) (hpk.ext (Mine.K.ext k3))
      case res =>
        rintro v s2 k2 ⟨D', rfl, _, hD'⟩
        exact ⟨D', [], [], rfl, hD', .nil⟩
      case go =>
        rw [if_neg (by simp)]
        exact wpAny_execs_nil (k hpos s2 (Mine.K.trans k1 k2))
end
end Mine

namespace Mine

theorem bit_eq (N k : Nat) : ((0 + (N : Int)) / (2 : Int) ^ k % 2 == 1) = decide (N / 2 ^ k % 2 = 1) := by
  have h : (N : Int) / (2 : Int) ^ k % 2 = ((N / 2 ^ k % 2 : Nat) : Int) := by push_cast; rfl
  rw [Int.zero_add, h, Bool.eq_iff_iff]
  simp only [beq_iff_eq, decide_eq_true_eq]
  omega

theorem lot_pts {h : Heap} {vs : List Value} {ps : List Pt} (x : Pts h vs ps) : ∀ {is : List Nat} {ys : List Value}, Paired (fun k y => vs[k]? = some y) is ys → (∀ k ∈ is, k < ps.length) → Pts h ys (is.map fun k => ps.getD k (0, 0))
  | _, _, .nil, _ => ⟨rfl, fun i v p e => by simp at e⟩
  | _, _, .cons (a := a) (b := b) e r, hk => by
    have ih := lot_pts x r (fun k hk' => hk k (List.mem_cons_of_mem _ hk'))
    refine ⟨by simp [ih.1], fun i v p e1 e2 => ?_⟩
    rcases i with _ | i
    · simp at e1 e2
      subst e1 e2
      obtain ⟨v', h1, h2⟩ := x.at (hk a (List.mem_cons_self ..))
      rw [e] at h1; cases h1
      simpa using h2
    · exact ih.2 i v p (by simpa using e1) (by simpa using e2)

theorem map_getD {is : List Nat} {ps : List Pt} {q : Nat} (h : q < is.length) : (is.map fun k => ps.getD k (0, 0)).getD q (0, 0) = ps.getD (is.getD q 0) (0, 0) := by
  rw [List.getD_eq_getElem?_getD, List.getElem?_map, List.getD_eq_getElem?_getD (l := is), List.getElem?_eq_getElem h]
  rfl

section
variable {prog : Program} {w : World} {A : Around} {E : Value → Shared → Prop} {s s' s₀ : Shared} {env : Env}

theorem EvT.not {x : Expr} {pos : Pos} {b : Bool} (h : EvT prog w A env x s₀ b) : EvT prog w A env (.UnaryOp .Not x pos) s₀ (!b) :=
  Em.of fun s Q E k hQ => isTrue_not (h.use k fun v s' k' e => hQ _ s' k' (by rw [e]))

theorem LT.step {sb : Shared} {L P D d T : Addr} {ps : List Pt} {ls : List Int} {m m' : Str → Option Value} {W : List Addr} (x : LT prog w sb L P D d T ps ls m s) (k : KB W s s') (hc : L + 1 + 1 + 1 + 1 ∉ W) (hD : D ∉ W) (hd : d ∉ W) (hT : T ∉ W)
    (hk : ∀ b ∈ W, NotKey s.heap b) (mt : m' (Str.ofString "table") = some (.ref d)) (mp : m' (Str.ofString "tops") = some (.ref T)) : LT prog w sb L P D d T ps ls m' s' :=
  ⟨cell_kb x.c4 k hc, let ⟨ys, a, b⟩ := x.lev; ⟨ys, plain_kb a k hD, b⟩, x.llen, x.lat, mt, let ⟨xs, a⟩ := x.tab; ⟨xs, a.kb k hd hk⟩, x.dL, mp, let ⟨us, a, b⟩ := x.tops; ⟨us, plain_kb a k hT, b⟩⟩

/-- the tests of a lot, as the program says them -/
abbrev fC (ps : List Pt) (is : List Nat) : Nat → Bool := fun k => !(ovr (ps.getD (is.getD (k + 1) 0) (0, 0)) (ps.getD (is.getD k 0) (0, 0)))
abbrev fG (ps : List Pt) (is : List Nat) : Nat → Bool := fun k => (decide ((ps.getD (is.getD (k + 1) 0) (0, 0)).1 ≤ (ps.getD (is.getD k 0) (0, 0)).1) || (decide ((ps.getD (is.getD k 0) (0, 0)).2 ≤ (ps.getD (is.getD (k + 1) 0) (0, 0)).2) || false))
abbrev bLot (f : Nat → Bool) (c : Nat) (is : List Nat) : Bool := decide ((c : Int) < (is.length : Int)) && (decide (((((List.range (is.length - 1)).filter f).map fun (k : Nat) => 1 + (k : Int)).map PyData.int) = []) && true)

/-- if test: x = e -/
theorem ex_ifset {test e : Expr} {x : Str} {p pos pos' : Pos} {rest : List Stmt} {Q : Flow → Shared → Prop} {m : Str → Option Value} {b : Bool} {new old : Int} {t : Tok} (hn : s.heap.Ns env.locals m) (h : EvT prog w A env test s b)
    (he : ∀ s', Keeps s s' → Ev prog w A env e s' (I new)) (ho : m x = some (.int old t))
    (k : ∀ s' m' t', KB [env.locals] s s' → s'.heap.Ns env.locals m' → (∀ z, z ≠ x → m' z = m z) → m' x = some (.int (if b = true then new else old) t') → wpAny (model prog w) A (execs rest env) Q E s')
    (hs : swapsWith e (some (.Name x p)) pos'.line env = pure false := by rfl) (hl : env.kindOf x = some .local := by rfl) (hk : env.scope.kind = .function := by rfl) :
    wpAny (model prog w) A (execs (.If test [.Assign [.Name x p] e pos'] [] pos :: rest) env) Q E s := by
  refine ex_if h fun s1 k1 => ?_
  cases b with
  | true =>
    rw [if_pos rfl]
    refine ex_assign (hn.keeps (Mine.K.ext k1)) (P := fun v _ => I new v) (he s1 k1) (fun v s2 s3 k2 hv kb hn3 => ?_) hs hl hk
    obtain ⟨t', rfl⟩ := hv
    exact wpAny_execs_nil (k s3 _ t' (KB.trans (KB.of (Mine.K.trans k1 k2)) kb) hn3 (fun z hz => by show (if z = x then _ else m z) = m z; rw [if_neg hz]) (by simp))
  | false =>
    rw [if_neg (by decide)]
    exact wpAny_execs_nil (k s1 m t (KB.of k1) (hn.keeps (Mine.K.ext k1)) (fun _ _ => rfl) (by simpa using ho))

abbrev W8 (L : Addr) : List Addr := [L, L + 1 + 1, L + 1 + 1 + 1 + 1 + 1]

theorem plain_not {h : Heap} {T : Addr} {items : Array Value} (x : h.PlainList T items) {L a b : Addr} {m : Str → Option Value} {v u : Option Value} (hn : h.Ns L m) (ha : h.IsCell a v) (hb : h.IsCell b u) : T ∉ [L, a, b] := by
  obtain ⟨n, ho⟩ := x
  obtain ⟨o1, _, _, h1, d1, _⟩ := hn
  obtain ⟨o2, h2, d2⟩ := ha
  obtain ⟨o3, h3, d3⟩ := hb
  intro hm
  simp only [List.mem_cons, List.not_mem_nil, or_false] at hm
  rcases hm with rfl | rfl | rfl
  · rw [ho] at h1; cases h1; cases d1
  · rw [ho] at h2; cases h2; cases d2
  · rw [ho] at h3; cases h3; cases d3
theorem tab_not {h : Heap} {d : Addr} {tb : List (Int × Int)} {xs : List KV} (x : Tab prog w h d tb xs) {L a b : Addr} (hL : d ≠ L) {v u : Option Value} (ha : h.IsCell a v) (hb : h.IsCell b u) : d ∉ [L, a, b] := by
  obtain ⟨⟨o, es, ep, ho, hc, hd, _⟩, _⟩ := x
  obtain ⟨o2, h2, d2⟩ := ha
  obtain ⟨o3, h3, d3⟩ := hb
  intro hm
  simp only [List.mem_cons, List.not_mem_nil, or_false] at hm
  rcases hm with rfl | rfl | rfl
  · exact hL rfl
  · rw [ho] at h2; cases h2; rw [hd] at d2; cases d2
  · rw [ho] at h3; cases h3; rw [hd] at d3; cases d3
theorem nt3 {h : Heap} {L a b : Addr} {m : Str → Option Value} {v u : Option Value} (hn : h.Ns L m) (ha : h.IsCell a v) (hb : h.IsCell b u) : ∀ c ∈ [L, a, b], NotTup h c := by
  intro c hc
  simp only [List.mem_cons, List.not_mem_nil, or_false] at hc
  rcases hc with rfl | rfl | rfl
  · exact NotTup.ns hn
  · exact NotTup.cell ha
  · exact NotTup.cell hb

theorem law_lots {n : Nat} (hA : AOk (n + 6) A) {sb : Shared} {L P D d T fa : Addr} {cd : Value} {vs : List Value} {ps : List Pt} {ls : List Int} {m : Str → Option Value} {Q : Flow → Shared → Prop} (x : LC w sb L P vs ps s) (hW : ∀ b ∈ W6 L, sb.heap.get? b = none)
    (hn : s.heap.Ns L m) (y : LT prog w sb L P D d T ps ls m s) {v2 v5 : Option Value} (c2 : s.heap.IsCell (L + 1 + 1) v2) (c5 : s.heap.IsCell (L + 1 + 1 + 1 + 1 + 1) v5)
    (k : ∀ s' m' c g t u, LC w sb L P vs ps s' → s'.heap.Ns L m' → LT prog w sb L P D d T ps ls m' s' → m' (Str.ofString "climbs") = some (.int (c : Nat) t) → m' (Str.ofString "great") = some (.int (g : Nat) u) →
      IsGreat (Rov ps) ps.length c → IsGreat (Ral ps) ps.length g → KB (W8 L) s s' → wpAny (model prog w) A (execs (lawBody.drop 10) (lawEnv L fa cd)) Q E s') :
    wpAny (model prog w) A (execs (lawBody.drop 8) (lawEnv L fa cd)) Q E s := by
  have g := x.g
  have hvl := x.pts.1
  have hlen := x.len
  have l02 : L ≠ L + 1 + 1 := lt1 L 1
  have l05 : L ≠ L + 1 + 1 + 1 + 1 + 1 := lt1 L 4
  have l25 : L + 1 + 1 ≠ L + 1 + 1 + 1 + 1 + 1 := lt1 (L + 1 + 1) 2
  have l12 : L + 1 ≠ L + 1 + 1 := lt1 (L + 1) 0
  have l15 : L + 1 ≠ L + 1 + 1 + 1 + 1 + 1 := lt1 (L + 1) 3
  have l24 : L + 1 + 1 ≠ L + 1 + 1 + 1 + 1 := lt1 (L + 1 + 1) 1
  have l45 : L + 1 + 1 + 1 + 1 ≠ L + 1 + 1 + 1 + 1 + 1 := lt1 (L + 1 + 1 + 1 + 1) 0
  have l04 : L ≠ L + 1 + 1 + 1 + 1 := lt1 L 3
  -- climbs, great = 0, 0
  refine ex_tup2 (env := lawEnv L fa cd) (P := fun v1 v2 _ => I 0 v1 ∧ I 0 v2) hA.hh rfl hn ((Em.pt Ev.int Ev.int).mono fun v s1 k1 ⟨t, t1, t2, e, h⟩ => ⟨t, _, _, e, h, ⟨_, rfl⟩, ⟨_, rfl⟩⟩) ?_
  rintro _ _ s1 s2 k1 ⟨⟨t1, rfl⟩, ⟨t2, rfl⟩⟩ kb2 hn2
  replace kb2 : KB [L] s1 s2 := kb2
  have hb8 : ∀ b ∈ W8 L, sb.heap.get? b = none := fun b hb => hW b (by
    simp only [List.mem_cons, List.not_mem_nil, or_false] at hb ⊢
    rcases hb with h | h | h <;> simp [h])
  have nt8 := nt3 hn c2 c5
  obtain ⟨ys0, hD0, hI0⟩ := id y.lev
  obtain ⟨us0, hT0, hJ0⟩ := id y.tops
  obtain ⟨xs0, htb0⟩ := id y.tab
  have h1n : L + 1 ∉ W8 L := by
    simp only [List.mem_cons, List.not_mem_nil, or_false, not_or]
    exact ⟨(lt1 L 0).symm, l12, l15⟩
  have h4n : L + 1 + 1 + 1 + 1 ∉ W8 L := by
    simp only [List.mem_cons, List.not_mem_nil, or_false, not_or]
    exact ⟨l04.symm, l24.symm, l45⟩
  have toX : ∀ s', KB (W8 L) s s' → LC w sb L P vs ps s' := fun s' kb => x.step kb hb8 h1n (plain_not x.lst hn c2 c5) nt8
  have toY : ∀ s' m', KB (W8 L) s s' → m' (Str.ofString "table") = some (.ref d) → m' (Str.ofString "tops") = some (.ref T) → LT prog w sb L P D d T ps ls m' s' := fun s' m' kb mt mp =>
    y.step kb h4n (plain_not hD0 hn c2 c5) (tab_not htb0 y.dL c2 c5) (plain_not hT0 hn c2 c5) (fun b hb => (nt8 b hb).key) mt mp
  have hLn : ∀ {b}, b ≠ L → b ∉ [L] := fun h q => h (List.mem_singleton.mp q)
  have kbs2 : KB (W8 L) s s2 := KB.trans (KB.of k1) (kb2.mono (by simp))
  obtain ⟨m2, hn2, mt2, mp2, mc2, mg2⟩ : ∃ m2, s2.heap.Ns L m2 ∧ m2 (Str.ofString "table") = some (.ref d) ∧ m2 (Str.ofString "tops") = some (.ref T) ∧ m2 (Str.ofString "climbs") = some (.int (0 : Nat) t1) ∧ m2 (Str.ofString "great") = some (.int (0 : Nat) t2) :=
    ⟨_, hn2, upd2_ne y.mt, upd2_ne y.mp, upd2_a, upd2_b⟩
  have c22 := cell_kb (c2.keeps (Mine.K.ext k1)) kb2 (hLn l02.symm)
  have c52 := cell_kb (c5.keeps (Mine.K.ext k1)) kb2 (hLn l05.symm)
  have x2 := toX _ kbs2
  obtain ⟨oL2, _, _, hoL2, _⟩ := id hn2
  obtain ⟨o22, ho22, _⟩ := id c22
  obtain ⟨o52, ho52, _⟩ := id c52
  have hp1024 : 2 ^ ps.length ≤ 1024 := by
    calc 2 ^ ps.length ≤ 2 ^ 10 := Nat.pow_le_pow_right (by decide) hlen
      _ = 1024 := by decide
  -- for number in range(2 ** len(points))
  obtain ⟨N, hN⟩ : ∃ N, N = 2 ^ ps.length := ⟨_, rfl⟩
  rw [← hN] at hp1024
  have hpow : (2 : Int) ^ ((ps.length : Nat) : Int).toNat = (N : Int) := by
    rw [hN, Int.toNat_natCast]; push_cast; rfl
  refine for_range (env := lawEnv L fa cd) (n := N) (a := 0) (b := (N : Int)) (W := W8 L) hA.hh ?it (by omega) (by omega) ?hWW
    (fun i s' => KB (W8 L) s s' ∧ ∃ m' c g t u, s'.heap.Ns L m' ∧ m' (Str.ofString "table") = some (.ref d) ∧ m' (Str.ofString "tops") = some (.ref T) ∧ m' (Str.ofString "climbs") = some (.int (c : Nat) t) ∧ m' (Str.ofString "great") = some (.int (g : Nat) u) ∧
      (∃ v, s'.heap.IsCell (L + 1 + 1) v) ∧ (∃ v, s'.heap.IsCell (L + 1 + 1 + 1 + 1 + 1) v) ∧ SoFar (Rov ps) ps.length i c ∧ SoFar (Ral ps) ps.length i g) ?h0 ?hst ?turn ?done
  case it =>
    refine Em.callT (T := "range") (Ev.bn x2.g rfl rfl rfl) (Ea.one (P := I (N : Int)) ((Ev.pow (a := 2) (b := ((ps.length : Nat) : Int)) Ev.int (Em.callB (Ev.bn x2.g rfl rfl rfl) (Ea.one (P := R P) (Ev.cell (c := L + 1) rfl x2.c1 rfl)) fun vs' s3 k3 p3 => ?_) (by omega) ?_).mono fun v s _ ⟨t, e⟩ => ⟨t, by rw [e, hpow]⟩)) fun vs' s3 k3 p3 => ?_
    · obtain ⟨v, rfl, rfl⟩ := p3
      exact Em.len_of (x2.k k3).lst.isList (by simpa using hvl) (by omega)
    · have : (Builtin.Int.intBits 2 : Int) = 2 := by decide
      rw [this]; omega
    · obtain ⟨v, rfl, t, rfl⟩ := p3
      exact Em.range1
  case hWW =>
    intro b hb
    simp only [List.mem_cons, List.not_mem_nil, or_false] at hb
    rcases hb with rfl | rfl | rfl
    · exact ⟨_, hoL2⟩
    · exact ⟨_, ho22⟩
    · exact ⟨_, ho52⟩
  case h0 =>
    intro s' k'
    exact ⟨KB.trans kbs2 (KB.of k'), m2, 0, 0, t1, t2, hn2.keeps (Mine.K.ext k'), mt2, mp2, mc2, mg2, ⟨_, c22.keeps (Mine.K.ext k')⟩, ⟨_, c52.keeps (Mine.K.ext k')⟩, .zero, .zero⟩
  case hst =>
    rintro i s3 s4 J hJ ⟨kb3, m3, c, g, t, u, hn3, mt, mp, mc, mg, ⟨v2', c23⟩, ⟨v5', c53⟩, hc, hg⟩ kb4
    have nJ : ∀ b o, s2.heap.get? b = some o → b ∉ [J] := fun b o e q => by rw [List.mem_singleton.mp q, hJ] at e; cases e
    refine ⟨KB.from kb3 kb4 (fun b hb hnb => ?_), m3, c, g, t, u, hn3.at fun o e => kb4.get e (nJ _ _ hoL2), mt, mp, mc, mg, ⟨_, cell_kb c23 kb4 (nJ _ _ ho22)⟩, ⟨_, cell_kb c53 kb4 (nJ _ _ ho52)⟩, hc, hg⟩
    rw [List.mem_singleton.mp hb]
    cases e : s.heap.get? J with
    | none => rfl
    | some o =>
      have := kbs2.get e (by rw [List.mem_singleton.mp hb] at hnb; exact hnb)
      rw [hJ] at this; cases this
  case done =>
    rintro s3 ⟨kb3, m3, c, g, t, u, hn3, mt, mp, mc, mg, _, _, hc, hg⟩
    exact k s3 m3 c g t u (toX _ kb3) hn3 (toY _ _ kb3 mt mp) mc mg (hN ▸ hc).great (hN ▸ hg).great kb3
  case turn =>
    rintro i ti s3 hi ⟨kb3, m3, c, g, t, u, hn3, mt, mp, mc, mg, ⟨v2', c23⟩, ⟨v5', c53⟩, hc, hg⟩ E'
    have hiN : i < 1024 := by omega
    refine as_cell (c := L + 1 + 1) rfl c23 fun s4 kb4 c24 => ?_
    have h2n : ∀ {b}, b ≠ L + 1 + 1 → b ∉ [L + 1 + 1] := fun h q => h (List.mem_singleton.mp q)
    have h5n : ∀ {b}, b ≠ L + 1 + 1 + 1 + 1 + 1 → b ∉ [L + 1 + 1 + 1 + 1 + 1] := fun h q => h (List.mem_singleton.mp q)
    have hn4 := hn3.at fun o e => kb4.get e (h2n l02)
    have c54 := cell_kb c53 kb4 (h2n l25.symm)
    have kb34 : KB (W8 L) s3 s4 := kb4.mono (by simp)
    have kbs4 := KB.trans kb3 kb34
    have x4 := toX _ kbs4
    have g4 := x4.g
    have hlt2 : ∀ k, k < ps.length → 0 < (2 : Int) ^ ((k : Nat) : Int).toNat ∧ ((2 : Int) ^ ((k : Nat) : Int).toNat).natAbs < 1073741824 := fun k hk => by
      have e : (2 : Int) ^ ((k : Nat) : Int).toNat = ((2 ^ k : Nat) : Int) := by rw [Int.toNat_natCast]; push_cast; rfl
      have h1 : 2 ^ k ≤ 2 ^ 10 := Nat.pow_le_pow_right (by decide) (by omega)
      have h2 : 2 ^ 10 = 1024 := by decide
      have h3 := Nat.two_pow_pos k
      rw [e]
      generalize 2 ^ k = z at *
      omega
    -- lot = [..]
    refine ex_assign_cell (env := lawEnv L fa cd) (c := L + 1 + 1 + 1 + 1 + 1) (P := fun v s => ∃ D ys, v = .ref D ∧ s.heap.PlainList D (List.toArray ys) ∧ Paired (fun k y => vs[k]? = some y) (lotIdx ps.length i) ys) rfl c54
      ((Em.comp (a := 0) (b := (ps.length : Int)) ps.length (fun k => decide (i / 2 ^ k % 2 = 1)) (fun k y => vs[k]? = some y) hA.hh ?lit (by omega) (by omega) rfl (by decide) rfl (by decide) rfl ?ltest ?lelt).mono ?lres) ?_
    case lit =>
      refine Em.callT (T := "range") (Ev.bn g4 rfl rfl rfl) (Ea.one (P := I (ps.length : Nat)) (Em.callB (Ev.bn g4 rfl rfl rfl) (Ea.one (P := R P) (Ev.cell (c := L + 1) rfl x4.c1 rfl)) fun vs' s5 k5 p5 => ?_)) fun vs' s5 k5 p5 => ?_
      · obtain ⟨v, rfl, rfl⟩ := p5
        exact Em.len_of (x4.k k5).lst.isList (by simpa using hvl) (by omega)
      · obtain ⟨v, rfl, t, rfl⟩ := p5
        exact Em.range1
    case ltest =>
      intro k C s5 m5 t5 hk e5 hC0 hns hm
      have g5 : G w s5.heap := g4.ext e5
      obtain ⟨hp0, hp1⟩ := hlt2 k hk
      refine Em.tests1 ?_
      have hbit := bit_eq i k
      rw [← hbit]
      have e2 : (2 : Int) ^ ((k : Nat) : Int).toNat = (2 : Int) ^ k := by rw [Int.toNat_natCast]
      rw [← e2]
      refine EvT.cmp (Cm.eq (Ev.mod (Ev.fdiv (a := 0 + (i : Int)) (Ev.cell (c := L + 1 + 1) rfl (c24.keeps e5) ⟨_, rfl⟩) (Ev.pow (a := 2) (b := ((k : Nat) : Int)) Ev.int ((Ev.local (P := I (0 + (k : Int))) hns hm ⟨_, rfl⟩).mono fun v s _ ⟨t, e⟩ => ⟨t, by rw [e]; congr 1; omega⟩) (by omega) ?_) hp0 (PyProof.noPylong_small hp1)) Ev.int (by decide)) Ev.int)
      have : (Builtin.Int.intBits 2 : Int) = 2 := by decide
      rw [this]; omega
    case lelt =>
      intro k C s5 m5 t5 hk hpk e5 hC0 hns hm
      obtain ⟨v, hv, _⟩ := x4.pts.at hk
      refine Ev.sub_list (k := 0 + (k : Int)) (P := fun y => vs[k]? = some y) (Ev.cell (c := L + 1) rfl (x4.c1.keeps e5) rfl) (Ev.local hns hm ⟨_, rfl⟩) (ext_plain x4.lst e5).isList (by omega) (by omega) (by
        have : (0 + (k : Int)).toNat = k := by omega
        rw [this]; simpa using hv) hv
    case lres =>
      rintro v s5 k5 ⟨D', ys, e, _, hD', pr⟩
      exact ⟨D', ys, e, hD', pr⟩
    rintro v s5 s6 k5 ⟨Lo, ys, rfl, hLo, hpr⟩ kb6 c56
    replace kb6 : KB [L + 1 + 1 + 1 + 1 + 1] s5 s6 := kb6
    have kb36 : KB (W8 L) s3 s6 := KB.trans kb34 (KB.trans (KB.of k5) (kb6.mono (by simp)))
    have kbs6 := KB.trans kb3 kb36
    have x6 := toX _ kbs6
    have g6 := x6.g
    have hn6 : s6.heap.Ns L m3 := (hn4.keeps (Mine.K.ext k5)).at fun o e => kb6.get e (h5n l05)
    have c26 := cell_kb (c24.keeps (Mine.K.ext k5)) kb6 (h5n l25)
    have hLo6 : s6.heap.PlainList Lo (List.toArray ys) := plain_kb hLo kb6 (h5n (by
      rintro rfl
      obtain ⟨nl, hl⟩ := hLo
      obtain ⟨o, ho, hd⟩ := c54.keeps (Mine.K.ext k5)
      rw [hl] at ho; cases ho; cases hd))
    have hidx : ∀ k ∈ lotIdx ps.length i, k < ps.length := (lot_inc ps.length i).2
    have hyl : (lotIdx ps.length i).length = ys.length := paired_length hpr
    have hll := lot_len ps.length i
    generalize hIs : lotIdx ps.length i = is at *
    have hlp : ∀ s', Keeps s6 s' → Pts s'.heap ys (is.map fun k => ps.getD k (0, 0)) := fun s' k' => lot_pts ((toX _ (KB.trans kbs6 (KB.of k'))).pts) hpr hidx
    have hqg : ∀ q, q < is.length → (is.map fun k => ps.getD k (0, 0)).getD q (0, 0) = ps.getD (is.getD q 0) (0, 0) := fun q hq => map_getD hq
    have lenlot : ∀ p1 p2 p3 s', KB [L] s6 s' → Ev prog w A (lawEnv L fa cd) (.Call (.Name (Str.ofString "len") p1) [.Name (Str.ofString "lot") p2] [] p3) s' (I (is.length : Nat)) := fun p1 p2 p3 s' kb' => by
      have kk : KB (W8 L) s s' := KB.trans kbs6 (kb'.mono (by simp))
      have hLL : Lo ≠ L := by
        rintro rfl
        obtain ⟨nl, hl⟩ := hLo6
        obtain ⟨o, _, _, ho, hd, _⟩ := hn6
        rw [hl] at ho; cases ho; cases hd
      refine Em.callB (Ev.bn (toX _ kk).g rfl rfl rfl) (Ea.one (P := R Lo) (Ev.cell (c := L + 1 + 1 + 1 + 1 + 1) rfl (cell_kb c56 kb' (hLn l05.symm)) rfl)) fun vs' s7 k7 p7 => ?_
      obtain ⟨v, rfl, rfl⟩ := p7
      exact Em.len_of (ext_plain (plain_kb hLo6 kb' (hLn hLL)) (Mine.K.ext k7)).isList (by simpa using hyl.symm) (by omega)
    have hloL : Lo ≠ L := by
      rintro rfl
      obtain ⟨nl, hl⟩ := hLo6
      obtain ⟨o, _, _, ho, hd, _⟩ := hn6
      rw [hl] at ho; cases ho; cases hd
    -- what stands behind a change of a local
    have lotAt : ∀ s', KB [L] s6 s' → s'.heap.IsCell (L + 1 + 1 + 1 + 1 + 1) (some (.ref Lo)) ∧ s'.heap.PlainList Lo (List.toArray ys) ∧ Pts s'.heap ys (is.map fun k => ps.getD k (0, 0)) ∧ G w s'.heap := fun s' kb' => by
      have kk : KB (W8 L) s s' := KB.trans kbs6 (kb'.mono (by simp))
      exact ⟨cell_kb c56 kb' (hLn l05.symm), plain_kb hLo6 kb' (hLn hloL), lot_pts (toX _ kk).pts hpr hidx, (toX _ kk).g⟩
    -- the iterator of the tests
    have rng : ∀ p1 p2 p3 p4 p5 p6 kk s', KB [L] s6 s' → Em prog w A (eval (.Call (.Name (Str.ofString "range") p1) [.Constant (.int 1) kk p2, .Call (.Name (Str.ofString "len") p3) [.Name (Str.ofString "lot") p4] [] p5] [] p6) (lawEnv L fa cd)) s'
        (fun v s => ∃ r t u y, v = .ref r ∧ IsRange s.heap r 1 (is.length : Nat) 1 t u y) := fun p1 p2 p3 p4 p5 p6 kk s' kb' => by
      refine Em.callT (T := "range") (Ev.bn (lotAt s' kb').2.2.2 rfl rfl rfl) (Ea.two (P := I 1) (P' := I (is.length : Nat)) Ev.int (lenlot _ _ _ s' kb')) fun vs' s7 k7 p7 => ?_
      obtain ⟨v, v', rfl, ⟨t1, rfl⟩, ⟨t2, rfl⟩⟩ := p7
      exact Em.range2
    refine ex_ifset (env := lawEnv L fa cd) (new := (is.length : Nat)) (old := (c : Nat)) (b := bLot (fC ps is) c is) hn6
      (EvT.boolOp (EvT.all_cons (EvT.cmp (Cm.gt (lenlot _ _ _ s6 KB.rfl) (Ev.local hn6 mc ⟨_, rfl⟩))) fun _ => EvT.all_cons (EvT.eq_nil hA (canLay_ints _) ((Em.comp (a := 1) (b := ((is.length : Nat) : Int)) (is.length - 1) (fC ps is) (fun k y => I (1 + (k : Int)) y) hA.hh (rng _ _ _ _ _ _ _ s6 KB.rfl) (by omega) (by omega) rfl (by decide) rfl (by decide) rfl ?ctest ?celt).mono ?cres)) fun _ => EvT.all_nil))
      (fun s' k' => lenlot _ _ _ s' (KB.of k')) mc ?next
    case ctest =>
      intro k C s7 m7 t7 hk e7 hC0 hns hm
      obtain ⟨cl6, hl6, hp6, g6'⟩ := lotAt s6 KB.rfl
      have g7 := g6'.ext e7
      have hl7 := ext_plain hl6 e7
      have hp7 := hp6.ext e7
      obtain ⟨v0, hv0, hq0⟩ := hp7.at (i := k) (by simp; omega)
      obtain ⟨v1, hv1, hq1⟩ := hp7.at (i := k + 1) (by simp; omega)
      rw [hqg k (by omega)] at hq0
      rw [hqg (k + 1) (by omega)] at hq1
      refine Em.tests1 (EvT.not (EvT.bool (Em.callF (f := 81) (Ev.fn g7 rfl rfl) (g7.kin _ _ rfl) rfl (Ea.two (P := fun v => v = v1) (P' := fun v => v = v0)
        (Ev.sub_list (k := 1 + (k : Int)) (Ev.cell (c := L + 1 + 1 + 1 + 1 + 1) rfl (cl6.keeps e7) rfl) (Ev.local hns hm ⟨_, rfl⟩) hl7.isList (by omega) (by omega) (by
          have : (1 + (k : Int)).toNat = k + 1 := by omega
          rw [this]; simpa using hv1) rfl)
        (Ev.sub_list (k := 1 + (k : Int) - 1) (Ev.cell (c := L + 1 + 1 + 1 + 1 + 1) rfl (cl6.keeps e7) rfl) (Ev.sub (Ev.local hns hm ⟨_, rfl⟩) Ev.int) hl7.isList (by omega) (by omega) (by
          have : (1 + (k : Int) - 1).toNat = k := by omega
          rw [this]; simpa using hv0) rfl)) fun vs' s8 k8 p8 => ?_)))
      obtain ⟨v, v', rfl, rfl, rfl⟩ := p8
      exact over_spec (n := n + 4) (hA.le (by omega)) (g7.k k8) (hq1.ext (Mine.K.ext k8)) (hq0.ext (Mine.K.ext k8))
    case celt =>
      intro k C s7 m7 t7 hk hpk e7 hC0 hns hm
      exact Ev.local hns hm ⟨_, rfl⟩
    case cres =>
      rintro v s7 k7 ⟨D', zs, rfl, _, hD', pr⟩
      obtain ⟨as, ra⟩ := reads_ints (h := s7.heap) (ints_of_paired pr)
      exact ⟨D', zs, as, rfl, hD', ra⟩
    case next =>
      intro s7 m7 t7 kb7 hn7 hm7 hc7
      replace kb7 : KB [L] s6 s7 := kb7
      obtain ⟨cl7, hl7, hp7, g7⟩ := lotAt s7 kb7
      refine ex_ifset (env := lawEnv L fa cd) (new := (is.length : Nat)) (old := (g : Nat)) (b := bLot (fG ps is) g is) hn7
        (EvT.boolOp (EvT.all_cons (EvT.cmp (Cm.gt (lenlot _ _ _ s7 kb7) (Ev.local hn7 (by rw [hm7 _ (by decide)]; exact mg) ⟨_, rfl⟩))) fun _ => EvT.all_cons (EvT.eq_nil hA (canLay_ints _) ((Em.comp (a := 1) (b := ((is.length : Nat) : Int)) (is.length - 1) (fG ps is) (fun k y => I (1 + (k : Int)) y) hA.hh (rng _ _ _ _ _ _ _ s7 kb7) (by omega) (by omega) rfl (by decide) rfl (by decide) rfl ?gtest ?gelt).mono ?gres)) fun _ => EvT.all_nil))
        (fun s' k' => lenlot _ _ _ s' (KB.trans kb7 (KB.of k'))) (by rw [hm7 _ (by decide)]; exact mg) ?last
      case gtest =>
        intro k C s8 m8 t8 hk e8 hC0 hns hm
        have g8 := g7.ext e8
        have hl8 := ext_plain hl7 e8
        have hp8 := hp7.ext e8
        obtain ⟨v0, hv0, hq0⟩ := hp8.at (i := k) (by simp; omega)
        obtain ⟨v1, hv1, hq1⟩ := hp8.at (i := k + 1) (by simp; omega)
        rw [hqg k (by omega)] at hq0
        rw [hqg (k + 1) (by omega)] at hq1
        have hx1 : (List.toArray ys)[(1 + (k : Int)).toNat]? = some v1 := by
          have : (1 + (k : Int)).toNat = k + 1 := by omega
          rw [this]; simpa using hv1
        have hx0 : (List.toArray ys)[(1 + (k : Int) - 1).toNat]? = some v0 := by
          have : (1 + (k : Int) - 1).toNat = k := by omega
          rw [this]; simpa using hv0
        refine Em.tests1 (EvT.boolOp (EvT.any_cons (EvT.cmp (Cm.le (Ev.pt0 (Ev.sub_list (k := 1 + (k : Int)) (P := fun v => v = v1) (Ev.cell (c := L + 1 + 1 + 1 + 1 + 1) rfl (cl7.keeps e8) rfl) (Ev.local hns hm ⟨_, rfl⟩) hl8.isList (by omega) (by omega) hx1 rfl) hq1)
          (Ev.pt0 (Ev.sub_list (k := 1 + (k : Int) - 1) (P := fun v => v = v0) (Ev.cell (c := L + 1 + 1 + 1 + 1 + 1) rfl (cl7.keeps e8) rfl) (Ev.sub (Ev.local hns hm ⟨_, rfl⟩) Ev.int) hl8.isList (by omega) (by omega) hx0 rfl) hq0))) fun _ =>
          EvT.any_cons (EvT.cmp (Cm.ge (Ev.pt1 (Ev.sub_list (k := 1 + (k : Int)) (P := fun v => v = v1) (Ev.cell (c := L + 1 + 1 + 1 + 1 + 1) rfl (cl7.keeps e8) rfl) (Ev.local hns hm ⟨_, rfl⟩) hl8.isList (by omega) (by omega) hx1 rfl) hq1)
          (Ev.pt1 (Ev.sub_list (k := 1 + (k : Int) - 1) (P := fun v => v = v0) (Ev.cell (c := L + 1 + 1 + 1 + 1 + 1) rfl (cl7.keeps e8) rfl) (Ev.sub (Ev.local hns hm ⟨_, rfl⟩) Ev.int) hl8.isList (by omega) (by omega) hx0 rfl) hq0))) fun _ => EvT.any_nil))
      case gelt =>
        intro k C s8 m8 t8 hk hpk e8 hC0 hns hm
        exact Ev.local hns hm ⟨_, rfl⟩
      case gres =>
        rintro v s8 k8 ⟨D', zs, rfl, _, hD', pr⟩
        obtain ⟨as, ra⟩ := reads_ints (h := s8.heap) (ints_of_paired pr)
        exact ⟨D', zs, as, rfl, hD', ra⟩
      case last =>
        intro s8 m8 t8 kb8 hn8 hm8 hg8
        replace kb8 : KB [L] s7 s8 := kb8
        have kb68 : KB [L] s6 s8 := KB.trans kb7 kb8
        have kb38 : KB (W8 L) s3 s8 := KB.trans kb36 (kb68.mono (by simp))
        have mtc : m8 (Str.ofString "climbs") = some (.int ((if (bLot (fC ps is) c is) = true then is.length else c : Nat) : Int) t7) := by
          rw [hm8 _ (by decide), hc7]
          congr 2
          split <;> rfl
        have mtg : m8 (Str.ofString "great") = some (.int ((if (bLot (fG ps is) g is) = true then is.length else g : Nat) : Int) t8) := by
          rw [hg8]
          congr 2
          split <;> rfl
        have nilmap : ∀ l : List Nat, (((l.map fun (k : Nat) => 1 + (k : Int)).map PyData.int) = []) ↔ l = [] := fun l => by rw [List.map_eq_nil_iff, List.map_eq_nil_iff]
        have a1 : ∀ {k}, k + 1 < is.length → (fC ps is k = true ↔ ¬ Rov ps (is.getD k 0) (is.getD (k + 1) 0)) := fun {k} hk => by
          unfold Rov
          simp
        have a2 : ∀ {k}, k + 1 < is.length → (fG ps is k = true ↔ ¬ Ral ps (is.getD k 0) (is.getD (k + 1) 0)) := fun {k} hk => by
          unfold Ral
          simp only [Bool.or_false, Bool.or_eq_true, decide_eq_true_eq]
          omega
        refine wpAny_execs_nil ⟨kb38, KB.trans kb3 kb38, m8, _, _, t7, t8, hn8, by rw [hm8 _ (by decide), hm7 _ (by decide)]; exact mt, by rw [hm8 _ (by decide), hm7 _ (by decide)]; exact mp, mtc, mtg, ⟨_, cell_kb c26 kb68 (hLn l02.symm)⟩, ⟨_, cell_kb c56 kb68 (hLn l05.symm)⟩, ?_, ?_⟩
        · refine hc.step (fun h1 h2 => ?_) (fun h1 => ?_)
          · rw [hIs] at h1 h2 ⊢
            rw [if_pos]
            have := (nilmap _).mpr ((adj_iff (fun k hk => a1 hk)).mpr h2)
            simp only [Bool.and_eq_true, decide_eq_true_eq]
            exact ⟨by omega, this, trivial⟩
          · rw [hIs] at h1
            rw [if_neg]
            intro h
            simp only [Bool.and_eq_true, decide_eq_true_eq] at h
            exact h1 ⟨by omega, (adj_iff (fun k hk => a1 hk)).mp ((nilmap _).mp h.2.1)⟩
        · refine hg.step (fun h1 h2 => ?_) (fun h1 => ?_)
          · rw [hIs] at h1 h2 ⊢
            rw [if_pos]
            have := (nilmap _).mpr ((adj_iff (fun k hk => a2 hk)).mpr h2)
            simp only [Bool.and_eq_true, decide_eq_true_eq]
            exact ⟨by omega, this, trivial⟩
          · rw [hIs] at h1
            rw [if_neg]
            intro h
            simp only [Bool.and_eq_true, decide_eq_true_eq] at h
            exact h1 ⟨by omega, (adj_iff (fun k hk => a2 hk)).mp ((nilmap _).mp h.2.1)⟩
end
end Mine

namespace Mine

theorem rows_ints {tb : List (Int × Int)} {xs : List KV} (h : Rows tb xs) : IntsAre (xs.map (·.2.2)) (tb.map (·.2)) := by
  induction h with
  | nil => exact .nil
  | cons h r ih =>
    obtain ⟨t, e⟩ := h.2
    rw [List.map_cons, List.map_cons, e]
    exact .cons _ t ih
theorem great_le {R : Nat → Nat → Prop} {n c : Nat} (h : IsGreat R n c) : c ≤ n := by
  obtain ⟨⟨is, a, b, rfl⟩, _⟩ := h
  obtain ⟨N, _, e⟩ := lot_all n is a
  rw [← e]; exact lot_len n N

section
variable {prog : Program} {w : World} {A : Around} {E : Value → Shared → Prop} {s s' s₀ : Shared} {env : Env}

theorem law_end {n : Nat} (hA : AOk (n + 6) A) {sb : Shared} {L P D d T fa : Addr} {cd : Value} {vs : List Value} {ps : List Pt} {ls : List Int} {m : Str → Option Value} {Q : Flow → Shared → Prop} (x : LC w sb L P vs ps s)
    (hn : s.heap.Ns L m) (y : LT prog w sb L P D d T ps ls m s) {c g : Nat} {t u : Tok} (hpos : 0 < ps.length) (mc : m (Str.ofString "climbs") = some (.int (c : Nat) t)) (mg : m (Str.ofString "great") = some (.int (g : Nat) u))
    (hc : IsGreat (Rov ps) ps.length c) (hg : IsGreat (Ral ps) ps.length g) (hret : ∀ s', Keeps s s' → Q (.ret (.bool true)) s') :
    wpAny (model prog w) A (execs (lawBody.drop 10) (lawEnv L fa cd)) Q E s := by
  have hgx := x.g
  have hvl := x.pts.1
  have hlen := x.len
  obtain ⟨ys, hD, hI⟩ := y.lev
  obtain ⟨us, hT, hJ⟩ := y.tops
  obtain ⟨xs, htb⟩ := y.tab
  obtain ⟨ep, hrd⟩ := dictOfH_rd htb.1
  have hll := y.llen
  have hcl := great_le hc
  have hgl := great_le hg
  have hlpos : 0 < ls.length := by omega
  have hxl := paired_length htb.2.1
  have hM : ∀ M, M ∈ ls → (∀ a ∈ ls, a ≤ M) → (c : Int) = M := fun M h1 h2 => climbs_max hll y.lat hpos hc h1 h2
  have hMM : ∃ M, M ∈ ls ∧ ∀ a ∈ ls, a ≤ M := by
    have : ∀ l : List Int, l ≠ [] → ∃ M, M ∈ l ∧ ∀ a ∈ l, a ≤ M := by
      intro l
      induction l with
      | nil => exact fun h => absurd rfl h
      | cons a l ih =>
        intro _
        by_cases hl : l = []
        · subst hl; exact ⟨a, by simp, fun b hb => by simp at hb; omega⟩
        · obtain ⟨M, h1, h2⟩ := ih hl
          by_cases hMa : a ≤ M
          · exact ⟨M, List.mem_cons_of_mem _ h1, fun b hb => by rcases List.mem_cons.mp hb with rfl | hb; exact hMa; exact h2 b hb⟩
          · exact ⟨a, List.mem_cons_self .., fun b hb => by rcases List.mem_cons.mp hb with rfl | hb; exact Int.le_refl _; have := h2 b hb; omega⟩
    exact this ls (by intro e; rw [e] at hlpos; exact absurd hlpos (by simp))
  have htl : (tabOf ls).length = c := by
    obtain ⟨M, h1, h2⟩ := hMM
    exact table_len hll y.lat (hM M h1 h2) h1 h2
  have hprod := prod_ge x.asc hll y.lat hg htl
  have hpil := piles_great x.asc hpos hg
  have hes : (xs.map (entryOfKey (tk prog w))).length = c := by rw [List.length_map, ← hxl, htl]
  have hvals : IntsAre ((xs.map (entryOfKey (tk prog w))).map (·.val)) ((tabOf ls).map (·.2)) := by
    rw [List.map_map]
    exact rows_ints htb.2.1
  have hcpos := great_pos hc hpos
  refine ex_if (env := lawEnv L fa cd) (b := false || (((c : Nat) : Int) != ((c : Nat) : Int) || (false || (decide (((c : Nat) : Int) * ((g : Nat) : Int) < ((ps.length : Nat) : Int)) || false)))) (EvT.boolOp (EvT.any_cons (EvT.cmp ⟨rfl, I (c : Nat), fun v => ∃ M, I M v ∧ M ∈ ls ∧ ∀ a ∈ ls, a ≤ M, Ev.local hn mc ⟨_, rfl⟩,
      Em.callB (Ev.bn hgx rfl rfl rfl) (Ea.one (P := R D) (Ev.cell (c := L + 1 + 1 + 1 + 1) rfl y.c4 rfl)) (fun vs' s1 k1 p1 => ?mx), fun a b s1 k1 h1 h2 => ?mxc⟩) fun _ =>
    EvT.any_cons (EvT.cmp (Cm.ne (Em.callB (Ev.bn hgx rfl rfl rfl) (Ea.one (P := R d) (Ev.local hn y.mt rfl)) fun vs' s1 k1 p1 => ?ln) (Ev.local hn mc ⟨_, rfl⟩))) fun _ =>
    EvT.any_cons (EvT.cmp ⟨rfl, I (g : Nat), fun v => ∃ M, I M v ∧ M ∈ (tabOf ls).map (·.2) ∧ ∀ a ∈ (tabOf ls).map (·.2), a ≤ M, Ev.local hn mg ⟨_, rfl⟩,
      Em.callB (Ev.bn hgx rfl rfl rfl) (PA := fun vs' s => ∃ r, vs' = [.ref r] ∧ s.heap.IsValuesView r d) (Ea.cons (P := fun v s => ∃ r, v = .ref r ∧ s.heap.IsValuesView r d) ?vw fun v s1 k1 h1 => Ea.nil fun s2 k2 => ?vw2) (fun vs' s1 k1 p1 => ?mv), fun a b s1 k1 h1 h2 => ?mvc⟩) fun _ =>
    EvT.any_cons (EvT.cmp (Cm.lt (Ev.mul (Ev.local hn mc ⟨_, rfl⟩) (Ev.local hn mg ⟨_, rfl⟩) ?mulok) (Em.callB (Ev.bn hgx rfl rfl rfl) (Ea.one (P := R P) (Ev.cell (c := L + 1) rfl x.c1 rfl)) fun vs' s1 k1 p1 => ?lp))) fun _ => EvT.any_nil)) fun s1 k1 => ?rest
  case mx =>
    obtain ⟨v, rfl, rfl⟩ := p1
    exact Em.max_list hA.hh (ext_plain hD (Mine.K.ext k1)).isList hI hlpos
  case mxc =>
    obtain ⟨t1, rfl⟩ := h1
    obtain ⟨M, ⟨t2, rfl⟩, h2, h3⟩ := h2
    have e := hM M h2 h3
    exact Em.of fun s Q E _ hQ => ne_int (hQ _ _ Mine.K.rfl (by rw [e]; simp))
  case ln =>
    obtain ⟨v, rfl, rfl⟩ := p1
    rw [← hes]
    exact rd_len htb.2.2 (hrd.ext (Mine.K.ext k1)) (by omega)
  case vw =>
    obtain ⟨od, hod, hcd, hdd⟩ := id hrd
    refine Em.meth0 (T := "dict") (id := "dict.values") (Ev.local hn y.mt rfl) hod hcd.1 hcd.2.1 PySem.F.plainAttrs_dict PySem.F.slot_dict_values PySem.F.type_dict_values fun s4 k4 => ?_
    exact Em.of fun s5 Q E k5 hQ => rd_values (hrd.ext (Mine.K.ext (Mine.K.trans k4 k5))) (by simpa using htb.2.2) (hQ _ _ (Mine.K.mkh fun b o e => Heap.get?_push_of_some _ e) ⟨_, rfl, _, Heap.get?_push_size _ rfl, rfl, rfl⟩)
  case vw2 =>
    obtain ⟨r, rfl, o, ho, h⟩ := h1
    exact ⟨r, rfl, o, Mine.K.ext k2 _ _ ho, h⟩
  case mv =>
    obtain ⟨r, rfl, hv⟩ := p1
    exact rd_max hA.hh hv (hrd.ext (Mine.K.ext k1)) hvals (by rw [List.length_map]; omega)
  case mvc =>
    obtain ⟨t1, rfl⟩ := h1
    obtain ⟨M, ⟨t2, rfl⟩, h2, h3⟩ := h2
    obtain ⟨⟨l, z⟩, hz, e⟩ := List.mem_map.mp h2
    have hle : z ≤ g := class_le x.asc hll y.lat hg hz
    dsimp only at e
    refine Em.of fun s Q E _ hQ => lt_int (hQ _ _ Mine.K.rfl ?_)
    have : ¬ ((g : Int) < M) := by omega
    simp [this]
  case mulok =>
    refine IntMulOk.of_left ?_
    have : c ≤ 10 := by omega
    have h : ∀ c : Nat, c ≤ 10 → Builtin.Int.intBits (c : Int) ≤ 64 := by decide
    exact h c this
  case lp =>
    obtain ⟨v, rfl, rfl⟩ := p1
    exact Em.len_of (x.k k1).lst.isList (by simpa using hvl) (by omega)
  case rest =>
    have h4 : ¬ (((c : Nat) : Int) * ((g : Nat) : Int) < ((ps.length : Nat) : Int)) := Int.not_lt.mpr hprod
    rw [if_neg (by simp [h4])]
    refine wpAny_execs_nil ?_
    refine ex_return (env := lawEnv L fa cd) (P := fun r _ => r = .bool (((g : Nat) : Int) == ((g : Nat) : Int))) (Ev.cmp (Cm.eq (Em.callB (Ev.bn (x.k k1).g rfl rfl rfl) (Ea.one (P := R T) (Ev.local (hn.keeps (Mine.K.ext k1)) y.mp rfl)) fun vs' s2 k2 p2 => ?_) (Ev.local (hn.keeps (Mine.K.ext k1)) mg ⟨_, rfl⟩))) fun r s2 k2 e => ?_
    · obtain ⟨v, rfl, rfl⟩ := p2
      exact Em.len_of (ext_plain hT (Mine.K.ext (Mine.K.trans k1 k2))).isList (by rw [List.size_toArray, hJ.length, hpil]) (by omega)
    · rw [e, show (((g : Nat) : Int) == ((g : Nat) : Int)) = true by simp]
      exact hret s2 (Mine.K.trans k1 k2)

theorem law_walk {n : Nat} (hA : AOk (n + 6) A) {sb : Shared} (gb : G w sb.heap) (kb0 : Keeps sb s) {L fa : Addr} {cd : Value} {m : Str → Option Value} {sc : Addr} {vs0 : List Value} {ns : List Int} {Q : Flow → Shared → Prop}
    (hn : s.heap.Ns L m) (hm : m (Str.ofString "script") = some (.ref sc)) (hsc : s.heap.IsList sc vs0.toArray) (hI : IntsAre vs0 ns) (hlen : ns.length ≤ 63)
    (hW : ∀ b ∈ W6 L, sb.heap.get? b = none) (c1 : s.heap.IsCell (L + 1) none) (c2 : s.heap.IsCell (L + 1 + 1) none) (c3 : s.heap.IsCell (L + 1 + 1 + 1) none) (c4 : s.heap.IsCell (L + 1 + 1 + 1 + 1) none) (c5 : s.heap.IsCell (L + 1 + 1 + 1 + 1 + 1) none)
    (hret : ∀ s', Keeps sb s' → (∃ m', s'.heap.Ns L m') → Q (.ret (.bool true)) s') :
    wpAny (model prog w) A (execs lawBody (lawEnv L fa cd)) Q E s := by
  have l01 : L ≠ L + 1 := lt1 L 0
  have l02 : L ≠ L + 1 + 1 := lt1 L 1
  have l03 : L ≠ L + 1 + 1 + 1 := lt1 L 2
  have l04 : L ≠ L + 1 + 1 + 1 + 1 := lt1 L 3
  have l05 : L ≠ L + 1 + 1 + 1 + 1 + 1 := lt1 L 4
  have l12 : L + 1 ≠ L + 1 + 1 := lt1 (L + 1) 0
  have l13 : L + 1 ≠ L + 1 + 1 + 1 := lt1 (L + 1) 1
  have l14 : L + 1 ≠ L + 1 + 1 + 1 + 1 := lt1 (L + 1) 2
  have l15 : L + 1 ≠ L + 1 + 1 + 1 + 1 + 1 := lt1 (L + 1) 3
  have l23 : L + 1 + 1 ≠ L + 1 + 1 + 1 := lt1 (L + 1 + 1) 0
  have l24 : L + 1 + 1 ≠ L + 1 + 1 + 1 + 1 := lt1 (L + 1 + 1) 1
  have l25 : L + 1 + 1 ≠ L + 1 + 1 + 1 + 1 + 1 := lt1 (L + 1 + 1) 2
  have l34 : L + 1 + 1 + 1 ≠ L + 1 + 1 + 1 + 1 := lt1 (L + 1 + 1 + 1) 0
  have l35 : L + 1 + 1 + 1 ≠ L + 1 + 1 + 1 + 1 + 1 := lt1 (L + 1 + 1 + 1) 1
  have l45 : L + 1 + 1 + 1 + 1 ≠ L + 1 + 1 + 1 + 1 + 1 := lt1 (L + 1 + 1 + 1 + 1) 0
  refine law_points (n := n) hA gb kb0 hn hm hsc hI hlen (fun b hb => hW b ?_) c1 c2 fun s1 P vs ps m1 kb1 hn1 c11 ⟨v2, c21⟩ hP0 hP hpts hasc hpl => ?_
  · simp only [List.mem_cons, List.not_mem_nil, or_false] at hb ⊢
    rcases hb with h | h | h <;> simp [h]
  have x1 : LC w sb L P vs ps s1 := ⟨gb, KB.keeps kb0 kb1 (fun b hb => hW b (by
    simp only [List.mem_cons, List.not_mem_nil, or_false] at hb ⊢
    rcases hb with h | h | h <;> simp [h])), c11, hP, hpts, hasc, hpl⟩
  have c31 := cell_kb c3 kb1 (by simp only [List.mem_cons, List.not_mem_nil, or_false, not_or]; exact ⟨l03.symm, l13.symm, l23.symm⟩)
  have c41 := cell_kb c4 kb1 (by simp only [List.mem_cons, List.not_mem_nil, or_false, not_or]; exact ⟨l04.symm, l14.symm, l24.symm⟩)
  have c51 := cell_kb c5 kb1 (by simp only [List.mem_cons, List.not_mem_nil, or_false, not_or]; exact ⟨l05.symm, l15.symm, l25.symm⟩)
  refine law_check hA x1 hW hn1 c31 fun s2 kb2 x2 hn2 => ?_
  have c22 := cell_kb c21 kb2 (fun q => l23 (List.mem_singleton.mp q))
  have c42 := cell_kb c41 kb2 (fun q => l34.symm (List.mem_singleton.mp q))
  have c52 := cell_kb c51 kb2 (fun q => l35.symm (List.mem_singleton.mp q))
  refine law_tabs hA x2 hW hn2 c42 fun s3 m3 D d T ls kb3 x3 hn3 y3 => ?_
  have c23 := cell_kb c22 kb3 (by simp only [List.mem_cons, List.not_mem_nil, or_false, not_or]; exact ⟨l02.symm, l24⟩)
  have c53 := cell_kb c52 kb3 (by simp only [List.mem_cons, List.not_mem_nil, or_false, not_or]; exact ⟨l05.symm, l45.symm⟩)
  refine law_mid hA x3 hn3 y3 (fun s4 k4 => hret s4 (x3.k k4).kb ⟨_, hn3.keeps (Mine.K.ext k4)⟩) fun hpos s4 k4 => ?_
  refine law_lots hA (x3.k k4) hW (hn3.keeps (Mine.K.ext k4)) (y3.k k4) (c23.keeps (Mine.K.ext k4)) (c53.keeps (Mine.K.ext k4)) fun s5 m5 c g t u x5 hn5 y5 mc mg hc hg kb5 => ?_
  exact law_end hA x5 hn5 y5 hpos mc mg hc hg fun s6 k6 => hret s6 (x5.k k6).kb ⟨_, hn5.keeps (Mine.K.ext k6)⟩
end
end Mine

namespace Mine

theorem law_join {prog : Program} {w : World} {A : Around} {E : Value → Shared → Prop} {Q : Flow → Shared → Prop} {mg mb : Str → Option Value} {X : List DefItem} {Y : List (Str × PyData)} {Z : List Str} {s₁ : Shared} {L fa sc : Addr} {cd : Value} {m : Str → Option Value} {h₁ : Heap} {tk₁ : Nat} {o1 o2 o3 o4 o5 : Obj} {v1 v2 v3 v4 v5 : Option Value} {vs : List Value} {ns : List Int}
    (hA : AOk 6 A) (KX : (KF w).In s₁.heap) (GL : Glob 0 mg mb X Y [] Z s₁.heap) (F : Fr s₁.heap L h₁ m) (hm : m (Str.ofString "script") = some (.ref sc)) (hL : s₁.heap.IsList sc vs.toArray) (hI : IntsAre vs ns) (hlen : ¬ (63 : Int) < ns.length)
    (N : News s₁.heap L h₁ [(L + 1 + 1 + 1 + 1 + 1, o5), (L + 1 + 1 + 1 + 1, o4), (L + 1 + 1 + 1, o3), (L + 1 + 1, o2), (L + 1, o1)])
    (d5 : o5.data = .cell v5) (d4 : o4.data = .cell v4) (d3 : o3.data = .cell v3) (d2 : o2.data = .cell v2) (d1 : o1.data = .cell v1) (e5 : v5 = none) (e4 : v4 = none) (e3 : v3 = none) (e2 : v2 = none) (e1 : v1 = none)
    (hQ : ∀ s', Keeps s₁ s' → (∃ m', s'.heap.Ns L m') → Q (.ret (.bool true)) s') :
    wpAny (model prog w) A (execs lawBody (lawEnv L fa cd)) Q E { s₁ with heap := h₁, toks := tk₁ } := by
  subst e1 e2 e3 e4 e5
  have n5 := N (L + 1 + 1 + 1 + 1 + 1, o5) (by simp)
  have n4 := N (L + 1 + 1 + 1 + 1, o4) (by simp)
  have n3 := N (L + 1 + 1 + 1, o3) (by simp)
  have n2 := N (L + 1 + 1, o2) (by simp)
  have n1 := N (L + 1, o1) (by simp)
  refine law_walk (n := 0) hA (sb := s₁) ⟨KX, GL.nolimit, ⟨mg, GL.g⟩, mb, GL.b, GL.builtins⟩ ⟨h₁, tk₁, rfl, F.keep⟩ F.ns hm (hL.at fun o e => F.keep _ o e) hI (by omega) ?_ ⟨o1, n1.1, d1⟩ ⟨o2, n2.1, d2⟩ ⟨o3, n3.1, d3⟩ ⟨o4, n4.1, d4⟩ ⟨o5, n5.1, d5⟩ hQ
  intro b hb
  simp only [List.mem_cons, List.not_mem_nil, or_false] at hb
  rcases hb with rfl | rfl | rfl | rfl | rfl | rfl
  · exact Heap.get?_none_of_le F.above
  · exact n1.2.2
  · exact n2.2.2
  · exact n3.2.2
  · exact n4.2.2
  · exact n5.2.2
end Mine

theorem Mine.caller_ok (env : Env) : Mine.AOk 6 (callerA.deeper env) := by
  refine Mine.AOk.deeper (n := 6) ⟨rfl, ?_, ?_⟩ env
  · show 1 + claimMargin + 7 ≤ 900; decide
  · show 4 + 100 * 7 ≤ 9000; decide
theorem PySem.Challenge.cw_gr0002_01_holds : PySem.Challenge.rw_gr0002_01.Holds := by
  exact Mine.hd (by
  w_strict (
    k_go0
    rename Glob _ _ _ _ _ _ _ _ => GL'
    rename Fr _ _ _ _ => F'
    rename News _ _ _ _ => N'
    rename IntsAre _ _ => I'
    refine Mine.law_join (Mine.caller_ok _) (by assumption) GL' F' rfl (by assumption) I' (by assumption) N' (by assumption) (by assumption) (by assumption) (by assumption) (by assumption) rfl rfl rfl rfl rfl ?hQ
    rintro s' ⟨h', tk', rfl, keep⟩ ⟨m', hn'⟩
    refine goodW_bool (m := m') ⟨hn', keep, Nat.le_refl _⟩ (by assumption) (fun _ => rfl) (by first | rfl | with_unfolding_all rfl | decide)))
