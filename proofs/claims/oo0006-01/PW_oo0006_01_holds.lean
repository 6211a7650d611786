import PyProof.Rows.All
import Wide.All
import OpenK.AllK
import Wide.FinOn
import PySem.Challenge.RW_oo0006_01
set_option Elab.async false
set_option linter.unusedVariables false

section
open PySem PySem.Calls PyProof.Rows
namespace Mine

/-! ## heaps that only grow -/
def Up (h h' : Heap) : Prop := ∀ b o, h.get? b = some o → h'.get? b = some o
theorem Up.refl (h : Heap) : Up h h := fun _ _ e => e
theorem Up.trans {a b c : Heap} (x : Up a b) (y : Up b c) : Up a c := fun _ _ e => y _ _ (x _ _ e)
theorem up_push (h : Heap) (o : Obj) : Up h (h.push o) := fun _ _ e => Heap.get?_push_of_some o e

theorem keeps_refl (s : Shared) : Keeps s s := ⟨s.heap, s.toks, rfl, fun _ _ e => e⟩
theorem keeps_trans {a b c : Shared} (x : Keeps a b) (y : Keeps b c) : Keeps a c := by
  obtain ⟨h, tk, rfl, k⟩ := x
  obtain ⟨h', tk', rfl, k'⟩ := y
  exact ⟨h', tk', rfl, fun b o e => k' b o (k b o e)⟩
theorem keeps_toks (s : Shared) (tk : Nat) : Keeps s { s with toks := tk } := ⟨s.heap, tk, rfl, fun _ _ e => e⟩
theorem keeps_heap (s : Shared) {h' : Heap} (tk : Nat) (k : Up s.heap h') : Keeps s { s with heap := h', toks := tk } := ⟨h', tk, rfl, k⟩
theorem keeps_push (s : Shared) (o : Obj) : Keeps s { s with heap := s.heap.push o } := ⟨_, s.toks, rfl, up_push _ _⟩
theorem keeps_up {a b : Shared} (x : Keeps a b) : Up a.heap b.heap := by
  obtain ⟨h, tk, rfl, k⟩ := x; exact k

/-- lists and tuples stay as they are -/
def Quiet (o : Obj) : Prop := (∀ es n, o.data ≠ .dict es n) ∧ (∀ v, o.data ≠ .cell v) ∧ o.cls ≠ .none
def SeqUp (h h' : Heap) : Prop := ∀ b o, h.get? b = some o → Quiet o → h'.get? b = some o
theorem Up.seq {h h' : Heap} (x : Up h h') : SeqUp h h' := fun b o e _ => x b o e
theorem SeqUp.refl (h : Heap) : SeqUp h h := fun _ _ e _ => e
theorem SeqUp.trans {a b c : Heap} (x : SeqUp a b) (y : SeqUp b c) : SeqUp a c := fun q o e d => y q o (x q o e d) d
theorem quiet_seq {o : Obj} {xs : Array Value} {n : Nat} {T : String} (hc : o.cls = .type T) (hd : o.data = .seq xs n) : Quiet o := by
  refine ⟨fun es n e => ?_, fun v e => ?_, fun e => ?_⟩
  · rw [hd] at e; cases e
  · rw [hd] at e; cases e
  · rw [hc] at e; cases e
theorem quiet_fields {o : Obj} {xs : Array Value} {T : String} (hc : o.cls = .type T) (hd : o.data = .fields xs) : Quiet o := by
  refine ⟨fun es n e => ?_, fun v e => ?_, fun e => ?_⟩
  · rw [hd] at e; cases e
  · rw [hd] at e; cases e
  · rw [hc] at e; cases e

def SeqL (h h' : Heap) : Prop := ∀ b o T xs n, h.get? b = some o → o.cls = .type T → o.data = .seq xs n → h'.get? b = some o
theorem SeqUp.l {h h' : Heap} (x : SeqUp h h') : SeqL h h' := fun b o T xs n e hc hd => x b o e (quiet_seq hc hd)
/-! ## data -/
inductive D where
  | none | bool (b : Bool) | int (i : Int) | str (x : Str)
  | il (ns : List Int) | sl (xs : List Str) | ill (nss : List (List Int))
  | res (r : Option (Str × List Int))
  | pl (ns : List Int)
  | at (v : Value) (d : D)
  | any

def DInts (h : Heap) (v : Value) (ns : List Int) : Prop := ∃ (a : Addr) (vs : List Value), v = .ref a ∧ h.IsList a vs.toArray ∧ IntsAre vs ns

def Den (h : Heap) (v : Value) : D → Prop
  | .none => v = .none
  | .bool b => v = .bool b
  | .int i => ∃ t, v = .int i t
  | .str x => ∃ t, v = .str x t
  | .il ns => DInts h v ns
  | .sl xs => ∃ (a : Addr) (vs : List Value), v = .ref a ∧ h.IsList a vs.toArray ∧ StrsAre vs xs
  | .ill nss => ∃ (a : Addr) (vs : List Value), v = .ref a ∧ h.IsList a vs.toArray ∧ vs.length = nss.length ∧ ∀ (j : Nat) (v : Value) (ns : List Int), vs[j]? = some v → nss[j]? = some ns → DInts h v ns
  | .pl ns => ∃ (a : Addr) (vs : List Value), v = .ref a ∧ h.PlainList a vs.toArray ∧ IntsAre vs ns
  | .at u d => v = u ∧ Den h v d
  | .any => True
  | .res Option.none => ∃ a, v = .ref a ∧ IsTup h a #[.none, .none]
  | .res (some (x, ns)) => ∃ a t w, v = .ref a ∧ IsTup h a #[.str x t, w] ∧ DInts h w ns

theorem isList_seq {h h' : Heap} (k : SeqL h h') {a : Addr} {its : Array Value} (x : h.IsList a its) : h'.IsList a its :=
  let ⟨o, ho, hc, n, hd⟩ := x; ⟨o, k a o _ its n ho hc hd, hc, n, hd⟩
theorem isTup_seq {h h' : Heap} (k : SeqL h h') {a : Addr} {its : Array Value} (x : IsTup h a its) : IsTup h' a its :=
  let ⟨o, ho, hc, n, hd⟩ := x; ⟨o, k a o _ its n ho hc hd, hc, n, hd⟩
theorem dints_seq {h h' : Heap} (k : SeqL h h') {v : Value} {ns : List Int} (x : DInts h v ns) : DInts h' v ns :=
  let ⟨a, vs, e, l, i⟩ := x; ⟨a, vs, e, isList_seq k l, i⟩
theorem den_seqL {h h' : Heap} (k : SeqL h h') {v : Value} {d : D} (x : Den h v d) : Den h' v d := by
  induction d with
  | «at» u d ih => exact ⟨x.1, ih x.2⟩
  | any => trivial
  | pl ns => obtain ⟨a, vs, e, ⟨n, l⟩, i⟩ := x; exact ⟨a, vs, e, ⟨n, k a _ _ _ _ l rfl rfl⟩, i⟩
  | none => exact x
  | bool b => exact x
  | int i => exact x
  | str x' => exact x
  | il ns => exact dints_seq k x
  | sl xs => obtain ⟨a, vs, e, l, i⟩ := x; exact ⟨a, vs, e, isList_seq k l, i⟩
  | ill nss => obtain ⟨a, vs, e, l, hl, i⟩ := x; exact ⟨a, vs, e, isList_seq k l, hl, fun j v ns e1 e2 => dints_seq k (i j v ns e1 e2)⟩
  | res r =>
    cases r with
    | none => obtain ⟨a, e, l⟩ := x; exact ⟨a, e, isTup_seq k l⟩
    | some p => obtain ⟨a, t, w, e, l, i⟩ := x; exact ⟨a, t, w, e, isTup_seq k l, dints_seq k i⟩
theorem den_seq {h h' : Heap} (k : SeqUp h h') {v : Value} {d : D} (x : Den h v d) : Den h' v d := den_seqL k.l x
theorem den_up {h h' : Heap} (k : Up h h') {v : Value} {d : D} (x : Den h v d) : Den h' v d := den_seq k.seq x
theorem den_keeps {a b : Shared} (k : Keeps a b) {v : Value} {d : D} (x : Den a.heap v d) : Den b.heap v d := den_up (keeps_up k) x

/-! ## evaluation -/
section
variable {prog : Program} {w : World} {A : Around} {env : Env} {s : Shared}

def EvP (prog : Program) (w : World) (A : Around) (env : Env) (s : Shared) (e : Expr) (Φ : Shared → Value → Prop) : Prop :=
  ∀ s', Keeps s s' → ∀ E, wpAny (model prog w) A (eval e env) (fun v s'' => Keeps s' s'' ∧ Φ s'' v) E s'
def Ev (prog : Program) (w : World) (A : Around) (env : Env) (s : Shared) (e : Expr) (d : D) : Prop :=
  EvP prog w A env s e fun s'' v => Den s''.heap v d
/-- a test -/
def Ts (prog : Program) (w : World) (A : Around) (env : Env) (s : Shared) (e : Expr) (b : Bool) : Prop :=
  ∀ s', Keeps s s' → ∀ E, wpAny (model prog w) A (isTrue e env (eval e env)) (fun c s'' => Keeps s' s'' ∧ c = b) E s'
def Evs (prog : Program) (w : World) (A : Around) (env : Env) (s : Shared) (pos : Pos) (es : List Expr) (ds : List D) : Prop :=
  ∀ s', Keeps s s' → ∀ E, wpAny (model prog w) A (spliced (backTo pos (starEach es env)))
    (fun vs s'' => Keeps s' s'' ∧ vs.length = ds.length ∧ ∀ (j : Nat) (v : Value) (d : D), vs[j]? = some v → ds[j]? = some d → Den s''.heap v d) E s'

theorem EvP.later {e : Expr} {Φ : Shared → Value → Prop} {s₁ : Shared} (x : EvP prog w A env s e Φ) (k : Keeps s s₁) : EvP prog w A env s₁ e Φ :=
  fun s' k' E => x s' (keeps_trans k k') E
theorem Ev.later {e : Expr} {d : D} {s₁ : Shared} (x : Ev prog w A env s e d) (k : Keeps s s₁) : Ev prog w A env s₁ e d := EvP.later x k
theorem Ts.later {e : Expr} {b : Bool} {s₁ : Shared} (x : Ts prog w A env s e b) (k : Keeps s s₁) : Ts prog w A env s₁ e b :=
  fun s' k' E => x s' (keeps_trans k k') E
theorem Evs.later {pos : Pos} {es : List Expr} {ds : List D} {s₁ : Shared} (x : Evs prog w A env s pos es ds) (k : Keeps s s₁) : Evs prog w A env s₁ pos es ds :=
  fun s' k' E => x s' (keeps_trans k k') E

/-- run one piece, then go on -/
theorem ev_then {e : Expr} {Φ : Shared → Value → Prop} {E : Value → Shared → Prop} {Q : Value → Shared → Prop} (x : EvP prog w A env s e Φ) {s' : Shared} (k : Keeps s s')
    (h : ∀ v s'', Keeps s' s'' → Φ s'' v → Q v s'') : wpAny (model prog w) A (eval e env) Q E s' :=
  wpAny_mono (x s' k E) (fun v s'' q => h v s'' q.1 q.2) fun _ _ q => q
theorem ts_then {e : Expr} {b : Bool} {E : Value → Shared → Prop} {Q : Bool → Shared → Prop} (x : Ts prog w A env s e b) {s' : Shared} (k : Keeps s s')
    (h : ∀ s'', Keeps s' s'' → Q b s'') : wpAny (model prog w) A (isTrue e env (eval e env)) Q E s' :=
  wpAny_mono (x s' k E) (fun v s'' q => by rw [q.2]; exact h s'' q.1) fun _ _ q => q

theorem Ev.int {i : Int} {k : Nat} {pos : Pos} : Ev prog w A env s (.Constant (.int i) k pos) (.int i) :=
  fun s' _ _ => wpAny_Constant_int ⟨keeps_toks _ _, _, rfl⟩
theorem Ev.str {x : Str} {k : Nat} {pos : Pos} : Ev prog w A env s (.Constant (.str x) k pos) (.str x) :=
  fun s' _ _ => Constant_str ⟨keeps_toks _ _, _, rfl⟩
theorem Ev.noneC {k : Nat} {pos : Pos} : Ev prog w A env s (.Constant .none k pos) .none :=
  fun s' _ _ => wpAny_Constant_none ⟨keeps_refl _, rfl⟩

def BinOk (prog : Program) (w : World) (A : Around) (op : Operator) (d1 d2 d : D) : Prop :=
  ∀ (s : Shared) (a b : Value) (E : Value → Shared → Prop), Den s.heap a d1 → Den s.heap b d2 → wpAny (model prog w) A (binaryOp op a b) (fun v s'' => Keeps s s'' ∧ Den s''.heap v d) E s
theorem Ev.bin {l r : Expr} {op : Operator} {pos : Pos} {d1 d2 d : D} (hl : Ev prog w A env s l d1) (hr : Ev prog w A env s r d2) (ho : BinOk prog w A op d1 d2 d) :
    Ev prog w A env s (.BinOp l op r pos) d := fun s' k E =>
  wpAny_BinOp (ev_then hl k fun a s₁ k₁ d₁ => ev_then hr (keeps_trans k k₁) fun b s₂ k₂ d₂ =>
    wpAny_mono (ho s₂ a b E (den_keeps k₂ d₁) d₂) (fun v s₃ q => ⟨keeps_trans (keeps_trans k₁ k₂) q.1, q.2⟩) fun _ _ q => q)
def CmpOk (prog : Program) (w : World) (A : Around) (op : CmpOp) (d1 d2 : D) (c : Bool) : Prop :=
  ∀ (s : Shared) (a b : Value) (E : Value → Shared → Prop), Den s.heap a d1 → Den s.heap b d2 → wpAny (model prog w) A (compareOp op a b) (fun v s'' => Keeps s s'' ∧ v = .bool c) E s
theorem Ev.cmp {l r : Expr} {op : CmpOp} {pos : Pos} {d1 d2 : D} {c : Bool} (hl : Ev prog w A env s l d1) (hr : Ev prog w A env s r d2) (ho : CmpOk prog w A op d1 d2 c)
    (hm : behindInMarks op r = false := by with_unfolding_all rfl) :
    Ev prog w A env s (.Compare l [op] [r] pos) (.bool c) := fun s' k E =>
  wpAny_Compare1 (hm := hm) (ev_then hl k fun a s₁ k₁ d₁ => ev_then hr (keeps_trans k k₁) fun b s₂ k₂ d₂ =>
    wpAny_mono (ho s₂ a b E (den_keeps k₂ d₁) d₂) (fun v s₃ q => ⟨keeps_trans (keeps_trans k₁ k₂) q.1, q.2⟩) fun _ _ q => q)
theorem Ts.cmp {l r : Expr} {op : CmpOp} {pos : Pos} {d1 d2 : D} {c : Bool} (hl : Ev prog w A env s l d1) (hr : Ev prog w A env s r d2) (ho : CmpOk prog w A op d1 d2 c)
    (hm : behindInMarks op r = false := by with_unfolding_all rfl) :
    Ts prog w A env s (.Compare l [op] [r] pos) c := fun s' k E =>
  wpAny_isTrue_Compare1 (hm := hm) (ev_then hl k fun a s₁ k₁ d₁ => ev_then hr (keeps_trans k k₁) fun b s₂ k₂ d₂ =>
    wpAny_mono (ho s₂ a b _ (den_keeps k₂ d₁) d₂) (fun v s₃ q => by rw [q.2]; exact wpAny_truthy_bool ⟨keeps_trans (keeps_trans k₁ k₂) q.1, rfl⟩) fun _ _ q => q)

/-! int operators -/
theorem ok_add {a b : Int} : BinOk prog w A .Add (.int a) (.int b) (.int (a + b)) := by
  rintro s _ _ E ⟨t, rfl⟩ ⟨u, rfl⟩; exact add_int ⟨keeps_toks _ _, _, rfl⟩
theorem ok_sub {a b : Int} : BinOk prog w A .Sub (.int a) (.int b) (.int (a - b)) := by
  rintro s _ _ E ⟨t, rfl⟩ ⟨u, rfl⟩; exact sub_int ⟨keeps_toks _ _, _, rfl⟩
theorem ok_mul {a b : Int} (h : IntMulOk a b) : BinOk prog w A .Mult (.int a) (.int b) (.int (a * b)) := by
  rintro s _ _ E ⟨t, rfl⟩ ⟨u, rfl⟩; exact mul_int ⟨keeps_toks _ _, _, rfl⟩ h
theorem ok_mod {a b : Int} (h : b ≠ 0) : BinOk prog w A .Mod (.int a) (.int b) (.int (a.fmod b)) := by
  rintro s _ _ E ⟨t, rfl⟩ ⟨u, rfl⟩; exact mod_int h ⟨keeps_toks _ _, _, rfl⟩
theorem ok_div {a b : Int} (h : b ≠ 0) (hp : Builtin.divisionGoesByPylong a b = false) : BinOk prog w A .FloorDiv (.int a) (.int b) (.int (a.fdiv b)) := by
  rintro s _ _ E ⟨t, rfl⟩ ⟨u, rfl⟩; exact floordiv_int h ⟨keeps_toks _ _, _, rfl⟩ (.inl hp)
theorem ok_and {a b : Int} : BinOk prog w A .BitAnd (.int a) (.int b) (.int (Builtin.bitAnd a b)) := by
  rintro s _ _ E ⟨t, rfl⟩ ⟨u, rfl⟩; exact and_int ⟨keeps_toks _ _, _, rfl⟩
theorem ok_xor {a b : Int} : BinOk prog w A .BitXor (.int a) (.int b) (.int (Builtin.bitXor a b)) := by
  rintro s _ _ E ⟨t, rfl⟩ ⟨u, rfl⟩; exact xor_int ⟨keeps_toks _ _, _, rfl⟩
theorem ok_shl {a n : Int} (h0 : 0 ≤ n) (h1 : n ≤ 1000000) (h2 : a.natAbs < 2 ^ 64) : BinOk prog w A .LShift (.int a) (.int n) (.int (a * 2 ^ n.toNat)) := by
  rintro s _ _ E ⟨t, rfl⟩ ⟨u, rfl⟩; exact lshift_int_small h0 h1 h2 ⟨keeps_toks _ _, _, rfl⟩
theorem ok_shr {a n : Int} (h0 : 0 ≤ n) : BinOk prog w A .RShift (.int a) (.int n) (.int (a.fdiv (2 ^ n.toNat))) := by
  rintro s _ _ E ⟨t, rfl⟩ ⟨u, rfl⟩; exact rshift_int h0 ⟨keeps_toks _ _, _, rfl⟩
theorem ok_cat {x y : Str} (h : x.length + y.length ≤ sizeLine) : BinOk prog w A .Add (.str x) (.str y) (.str (x ++ y)) := by
  rintro s _ _ E ⟨t, rfl⟩ ⟨u, rfl⟩; exact SBL.add (fun _ _ _ => ⟨keeps_toks _ _, _, rfl⟩) h

theorem ok_lt {a b : Int} : CmpOk prog w A .Lt (.int a) (.int b) (decide (a < b)) := by
  rintro s _ _ E ⟨t, rfl⟩ ⟨u, rfl⟩; exact lt_int ⟨keeps_refl _, rfl⟩
theorem ok_gt {a b : Int} : CmpOk prog w A .Gt (.int a) (.int b) (decide (b < a)) := by
  rintro s _ _ E ⟨t, rfl⟩ ⟨u, rfl⟩; exact gt_int ⟨keeps_refl _, rfl⟩
theorem ok_ge {a b : Int} : CmpOk prog w A .GtE (.int a) (.int b) (decide (b ≤ a)) := by
  rintro s _ _ E ⟨t, rfl⟩ ⟨u, rfl⟩; exact ge_int ⟨keeps_refl _, rfl⟩
theorem ok_eq {a b : Int} : CmpOk prog w A .Eq (.int a) (.int b) (a == b) := by
  rintro s _ _ E ⟨t, rfl⟩ ⟨u, rfl⟩; exact eq_int ⟨keeps_refl _, rfl⟩
theorem ok_ne {a b : Int} : CmpOk prog w A .NotEq (.int a) (.int b) (a != b) := by
  rintro s _ _ E ⟨t, rfl⟩ ⟨u, rfl⟩; exact ne_int ⟨keeps_refl _, rfl⟩
theorem ok_eqs {x y : Str} : CmpOk prog w A .Eq (.str x) (.str y) (x == y) := by
  rintro s _ _ E ⟨t, rfl⟩ ⟨u, rfl⟩; exact eq_str ⟨keeps_refl _, rfl⟩
theorem ok_nes {x y : Str} : CmpOk prog w A .NotEq (.str x) (.str y) (x != y) := by
  rintro s _ _ E ⟨t, rfl⟩ ⟨u, rfl⟩; exact ne_str ⟨keeps_refl _, rfl⟩
theorem ok_ins {x y : Str} : CmpOk prog w A .In (.str y) (.str x) (!(Builtin.Str.occurrences x y 0 x.length 1).isEmpty) := by
  rintro s _ _ E ⟨t, rfl⟩ ⟨u, rfl⟩; exact in_str ⟨keeps_refl _, rfl⟩

/-! tests -/
theorem Ts.and_nil {pos : Pos} : ∀ s', Keeps s s' → ∀ E whole, wpAny (model prog w) A (isTrue (.BoolOp .And [] pos) env whole) (fun c s'' => Keeps s' s'' ∧ c = true) E s' :=
  fun s' _ _ _ => isTrue_and_nil ⟨keeps_refl _, rfl⟩

/-- a test whose own tree is left open (the whole BoolOp's tree is not looked at) -/
def TsW (prog : Program) (w : World) (A : Around) (env : Env) (s : Shared) (e : Expr) (b : Bool) : Prop :=
  ∀ s', Keeps s s' → ∀ E whole, wpAny (model prog w) A (isTrue e env whole) (fun c s'' => Keeps s' s'' ∧ c = b) E s'
theorem TsW.ts {e : Expr} {b : Bool} (x : TsW prog w A env s e b) : Ts prog w A env s e b := fun s' k E => x s' k E _
theorem TsW.andNil {pos : Pos} : TsW prog w A env s (.BoolOp .And [] pos) true := fun _ _ _ _ => isTrue_and_nil ⟨keeps_refl _, rfl⟩
theorem TsW.orNil {pos : Pos} : TsW prog w A env s (.BoolOp .Or [] pos) false := fun _ _ _ _ => isTrue_or_nil ⟨keeps_refl _, rfl⟩
theorem TsW.and {x : Expr} {rest : List Expr} {pos : Pos} {a b : Bool} (hx : Ts prog w A env s x a) (hr : a = true → TsW prog w A env s (.BoolOp .And rest pos) b) :
    TsW prog w A env s (.BoolOp .And (x :: rest) pos) (a && b) := fun s' k E whole =>
  isTrue_and (ts_then hx k fun s₁ k₁ => by
    cases a with
    | false => exact ⟨k₁, rfl⟩
    | true => exact wpAny_mono (hr rfl s₁ (keeps_trans k k₁) E whole) (fun c s₂ q => ⟨keeps_trans k₁ q.1, by rw [q.2]; rfl⟩) fun _ _ q => q)
theorem TsW.or {x : Expr} {rest : List Expr} {pos : Pos} {a b : Bool} (hx : Ts prog w A env s x a) (hr : a = false → TsW prog w A env s (.BoolOp .Or rest pos) b) :
    TsW prog w A env s (.BoolOp .Or (x :: rest) pos) (a || b) := fun s' k E whole =>
  isTrue_or (ts_then hx k fun s₁ k₁ => by
    cases a with
    | true => exact ⟨k₁, rfl⟩
    | false => exact wpAny_mono (hr rfl s₁ (keeps_trans k k₁) E whole) (fun c s₂ q => ⟨keeps_trans k₁ q.1, by rw [q.2]; rfl⟩) fun _ _ q => q)
theorem Ts.not {x : Expr} {pos : Pos} {a : Bool} (hx : Ts prog w A env s x a) : Ts prog w A env s (.UnaryOp .Not x pos) (!a) := fun s' k E =>
  isTrue_not (ts_then hx k fun s₁ k₁ => ⟨k₁, rfl⟩)
/-- a test by the value -/
theorem Ts.int {e : Expr} {i : Int} (h : Ev prog w A env s e (.int i))
    (hp : isTrue e env (eval e env) = (do let v ← eval e env; standAt e.pos; holding [v] (truthy v)) := by with_unfolding_all rfl) : Ts prog w A env s e (i != 0) := fun s' k E => by
  refine isTrue_plain (he := hp) (ev_then h k ?_)
  rintro _ s₁ k₁ ⟨t, rfl⟩
  exact truthy_int ⟨k₁, rfl⟩
theorem Ts.bool {e : Expr} {b : Bool} (h : Ev prog w A env s e (.bool b))
    (hp : isTrue e env (eval e env) = (do let v ← eval e env; standAt e.pos; holding [v] (truthy v)) := by with_unfolding_all rfl) : Ts prog w A env s e b := fun s' k E => by
  refine isTrue_plain (he := hp) (ev_then h k ?_)
  rintro _ s₁ k₁ rfl
  exact wpAny_truthy_bool ⟨k₁, rfl⟩

theorem Ev.ite {c : Expr} {a b : Expr} {pos : Pos} {t : Bool} {d : D} (hc : Ts prog w A env s c t) (ha : t = true → Ev prog w A env s a d) (hb : t = false → Ev prog w A env s b d) :
    Ev prog w A env s (.IfExp c a b pos) d := fun s' k E =>
  IfExp_ (ts_then hc k fun s₁ k₁ => by
    cases t with
    | true => exact wpAny_mono (ha rfl s₁ (keeps_trans k k₁) E) (fun v s₂ q => ⟨keeps_trans k₁ q.1, q.2⟩) fun _ _ q => q
    | false => exact wpAny_mono (hb rfl s₁ (keeps_trans k k₁) E) (fun v s₂ q => ⟨keeps_trans k₁ q.1, q.2⟩) fun _ _ q => q)
theorem Ev.as {e : Expr} {d d' : D} (h : Ev prog w A env s e d) (hd : d = d') : Ev prog w A env s e d' := hd ▸ h
theorem Ev.iteInt {c : Expr} {a b : Expr} {pos : Pos} {t : Bool} {x y : Int} (hc : Ts prog w A env s c t) (ha : t = true → Ev prog w A env s a (.int x)) (hb : t = false → Ev prog w A env s b (.int y)) :
    Ev prog w A env s (.IfExp c a b pos) (.int (if t then x else y)) :=
  Ev.ite hc (fun e => by rw [e]; exact ha e) fun e => by rw [e]; exact hb e
end
end Mine
end

section
open PySem PySem.Calls PyProof.Rows
namespace Mine

/-! ## variables -/
structure St (env : Env) (σ : List (Str × D)) (s : Shared) : Prop where
  kind : env.scope.kind = .function
  loc : ∃ m, s.heap.Ns env.locals m ∧ ∀ x d, σ.lookup x = some d → env.kindOf x = some .local → ∃ v, m x = some v ∧ Den s.heap v d
  cel : ∀ x d, σ.lookup x = some d → env.kindOf x = some .cell → ∃ c v, env.cells.lookup x = some c ∧ s.heap.IsCell c (some v) ∧ Den s.heap v d

theorem isCell_up {h h' : Heap} (k : Up h h') {c : Addr} {v : Option Value} (x : h.IsCell c v) : h'.IsCell c v := by
  obtain ⟨o, ho, r⟩ := x; exact ⟨o, k _ _ ho, r⟩
theorem St.up {env : Env} {σ : List (Str × D)} {s s' : Shared} (S : St env σ s) (k : Up s.heap s'.heap) : St env σ s' := by
  obtain ⟨m, hn, hm⟩ := S.loc
  exact ⟨S.kind, ⟨m, hn.keeps k, fun x d e1 e2 => let ⟨v, e, q⟩ := hm x d e1 e2; ⟨v, e, den_up k q⟩⟩,
    fun x d e1 e2 => let ⟨c, v, e, q, r⟩ := S.cel x d e1 e2; ⟨c, v, e, isCell_up k q, den_up k r⟩⟩
theorem St.keeps {env : Env} {σ : List (Str × D)} {s s' : Shared} (S : St env σ s) (k : Keeps s s') : St env σ s' := S.up (keeps_up k)

section
variable {prog : Program} {w : World} {A : Around} {env : Env} {s : Shared} {σ : List (Str × D)}

theorem Ev.name {x : Str} {p : Pos} {d : D} (S : St env σ s) (h : σ.lookup x = some d) (hk : env.kindOf x = some .local ∨ env.kindOf x = some .cell)
    (hd : (x == ("__debug__" : Str)) = false) : Ev prog w A env s (.Name x p) d := fun s' k E => by
  have S' := S.keeps k
  rcases hk with hk | hk
  · obtain ⟨m, hn, hm⟩ := S'.loc
    obtain ⟨v, e, q⟩ := hm x d h hk
    exact wpAny_Name (wpAny_loadName_local S'.kind hk hn e ⟨keeps_refl _, q⟩) hd
  · obtain ⟨c, v, e, q, r⟩ := S'.cel x d h hk
    exact wpAny_Name (wpAny_loadName_cell S'.kind hk e q ⟨keeps_refl _, r⟩) hd
end

/-! ## the globals -/
structure Gx (mg mb : Str → Option Value) (h : Heap) : Prop where
  g : h.Ns mainGlobals mg
  b : h.Ns builtinsNs mb
  nolimit : h.NoLimit
  bi : ∀ x : Str, x ≠ "__name__" → mb x = bootBuiltins x
theorem Gx.up {mg mb : Str → Option Value} {h h' : Heap} (G : Gx mg mb h) (k : Up h h') : Gx mg mb h' := ⟨G.g.keeps k, G.b.keeps k, G.nolimit.keeps k, G.bi⟩

structure EnvG (env : Env) : Prop where
  kind : env.scope.kind = .function
  glob : env.globals = mainGlobals
  bi : env.builtins = builtinsNs

section
variable {prog : Program} {w : World} {A : Around} {env : Env} {s : Shared} {σ : List (Str × D)} {mg mb : Str → Option Value}

theorem name_builtin {x : Str} {p : Pos} {v : Value} {E : Value → Shared → Prop} {Q : Value → Shared → Prop} (N : EnvG env) (G : Gx mg mb s.heap) (hm : mg x = none) (hb : bootBuiltins x = some v)
    (hx : env.kindOf x = some .globalImplicit) (hn : x ≠ "__name__") (hd : (x == ("__debug__" : Str)) = false) (h : Q v s) : wpAny (model prog w) A (eval (.Name x p) env) Q E s :=
  Name_function_global N.kind hx (loadGlobal_builtin (by rw [N.glob]; exact G.g) hm (by rw [N.bi]; exact G.b) ((G.bi x hn).trans hb) h) hd
theorem name_global {x : Str} {p : Pos} {v : Value} {E : Value → Shared → Prop} {Q : Value → Shared → Prop} (N : EnvG env) (G : Gx mg mb s.heap) (hm : mg x = some v)
    (hx : env.kindOf x = some .globalImplicit) (hd : (x == ("__debug__" : Str)) = false) (h : Q v s) : wpAny (model prog w) A (eval (.Name x p) env) Q E s :=
  Name_function_global N.kind hx (loadGlobal_global (by rw [N.glob]; exact G.g) hm h) hd
theorem Ev.globStr {x : Str} {p : Pos} {y : Str} {t : Tok} (N : EnvG env) (G : Gx mg mb s.heap) (hm : mg x = some (.str y t))
    (hx : env.kindOf x = some .globalImplicit) (hd : (x == ("__debug__" : Str)) = false) : Ev prog w A env s (.Name x p) (.str y) := fun s' k E =>
  name_global N (G.up (keeps_up k)) hm hx hd ⟨keeps_refl _, _, rfl⟩

/-! ## lists of arguments -/
theorem Evs.nil {pos : Pos} : Evs prog w A env s pos [] [] := fun s' k E => spliced_none ⟨keeps_refl _, rfl, fun j v d h => by simp at h⟩
theorem Evs.cons {pos : Pos} {e : Expr} {es : List Expr} {d : D} {ds : List D} (h : Ev prog w A env s e d) (hs : Evs prog w A env s pos es ds)
    (hst : starEach (e :: es) env = (false, eval e env) :: starEach es env := by rfl) : Evs prog w A env s pos (e :: es) (d :: ds) := fun s' k E => by
  refine spliced_more (he := hst) (ev_then h k fun v s₁ k₁ d₁ => wpAny_mono (hs s₁ (keeps_trans k k₁) E) (fun vs s₂ q => ?_) fun _ _ q => q)
  obtain ⟨k₂, hl, hd⟩ := q
  refine ⟨keeps_trans k₁ k₂, by simp [hl], fun j v' d' e1 e2 => ?_⟩
  cases j with
  | zero => simp at e1 e2; subst e1 e2; exact den_keeps k₂ d₁
  | succ j => simp at e1 e2; exact hd j v' d' e1 e2

theorem den_one {pos : Pos} {e : Expr} {d : D} {E : Value → Shared → Prop} {Q : List Value → Shared → Prop} (h : Evs prog w A env s pos [e] [d]) {s' : Shared} (k : Keeps s s')
    (hq : ∀ v s'', Keeps s' s'' → Den s''.heap v d → Q [v] s'') : wpAny (model prog w) A (spliced (backTo pos (starEach [e] env))) Q E s' :=
  wpAny_mono (h s' k E) (fun vs s'' q => by
    obtain ⟨k₂, hl, hd⟩ := q
    match vs, hl with
    | [v], _ => exact hq v s'' k₂ (hd 0 v d rfl rfl)) fun _ _ q => q

def PyOk1 (prog : Program) (w : World) (A : Around) (f : Value) (d d' : D) : Prop :=
  ∀ (s : Shared) (v : Value) (E : Value → Shared → Prop), Den s.heap v d → wpAny (model prog w) A (call f [v]) (fun r s'' => Keeps s s'' ∧ Den s''.heap r d') E s

/-- a call of a built-in function of one argument -/
theorem Ev.call1 {x : Str} {id : String} {e : Expr} {p pos : Pos} {d d' : D} (N : EnvG env) (G : Gx mg mb s.heap) (hm : mg x = none) (hb : bootBuiltins x = some (.builtin id))
    (he : Ev prog w A env s e d) (ho : PyOk1 prog w A (.builtin id) d d')
    (hx : env.kindOf x = some .globalImplicit) (hn : x ≠ "__name__") (hd : (x == ("__debug__" : Str)) = false)
    (h2 : starEach [e] env = (false, eval e env) :: starEach [] env) :
    Ev prog w A env s (.Call (.Name x p) [e] [] pos) d' := fun s' k E =>
  Call_ (he := rfl) (name_builtin N (G.up (keeps_up k)) hm hb hx hn hd (PyProof.Rows.callWith_builtin1 (he := h2) (hplain := rfl)
    (den_one (Evs.cons he .nil h2) k fun v s₁ k₁ d₁ => wpAny_mono (ho s₁ v E d₁) (fun r s₂ q => ⟨keeps_trans k₁ q.1, q.2⟩) fun _ _ q => q)))
end
end Mine
end

section
open PySem PySem.Calls PyProof.Rows
namespace Mine

theorem intsAre_len {vs : List Value} {ns : List Int} (h : IntsAre vs ns) : vs.length = ns.length := by
  induction h with
  | nil => rfl
  | cons n t _ ih => simp [ih]
theorem intsAre_get {vs : List Value} {ns : List Int} (h : IntsAre vs ns) : ∀ (j : Nat), j < ns.length → ∃ t, vs[j]? = some (.int (ns.getD j 0) t) := by
  induction h with
  | nil => intro j hj; simp at hj
  | cons n t _ ih =>
    intro j hj
    cases j with
    | zero => exact ⟨t, by simp⟩
    | succ j => simpa using ih j (by simpa using hj)
theorem intsAre_append {vs ws : List Value} {ns ms : List Int} (h : IntsAre vs ns) (h' : IntsAre ws ms) : IntsAre (vs ++ ws) (ns ++ ms) := by
  induction h with
  | nil => exact h'
  | cons n t _ ih => exact .cons n t ih
theorem intsAre_take {vs : List Value} {ns : List Int} (h : IntsAre vs ns) : ∀ k : Nat, IntsAre (vs.take k) (ns.take k) := by
  induction h with
  | nil => intro k; simpa using IntsAre.nil
  | cons n t _ ih =>
    intro k
    cases k with
    | zero => exact .nil
    | succ k => exact .cons n t (ih k)
theorem intsAre_drop {vs : List Value} {ns : List Int} (h : IntsAre vs ns) : ∀ k : Nat, IntsAre (vs.drop k) (ns.drop k) := by
  induction h with
  | nil => intro k; simpa using IntsAre.nil
  | cons n t h' ih =>
    intro k
    cases k with
    | zero => exact .cons n t h'
    | succ k => exact ih k

section
variable {prog : Program} {w : World} {A : Around} {env : Env} {s : Shared} {σ : List (Str × D)} {mg mb : Str → Option Value}

theorem sizeLine_lt : (sizeLine : Int) < 2 ^ 63 := by decide
theorem py_len {ns : List Int} (h : ns.length ≤ sizeLine) : PyOk1 prog w A (.builtin "len") (.il ns) (.int ns.length) := by
  rintro s _ E ⟨a, vs, rfl, hl, hi⟩
  refine len_list hl ?_ ⟨keeps_toks _ _, ?_⟩
  · have := sizeLine_lt; rw [List.size_toArray, intsAre_len hi]; omega
  · exact ⟨_, by rw [List.size_toArray, intsAre_len hi]⟩
theorem py_lenS {x : Str} (h : x.length ≤ sizeLine) : PyOk1 prog w A (.builtin "len") (.str x) (.int x.length) := by
  rintro s _ E ⟨t, rfl⟩
  have := sizeLine_lt
  exact SBL.len (by omega) ⟨keeps_toks _ _, _, rfl⟩
theorem py_abs {i : Int} : PyOk1 prog w A (.builtin "abs") (.int i) (.int (if i < 0 then -i else i)) := by
  rintro s _ E ⟨t, rfl⟩
  exact call_abs_int fun u tk => ⟨keeps_toks _ _, _, rfl⟩
theorem py_chr {i : Int} (h0 : 0 ≤ i) (h1 : i ≤ 1114111) : PyOk1 prog w A (.builtin "chr") (.int i) (.str ⟨#[i.toNat]⟩) := by
  rintro s _ E ⟨t, rfl⟩
  exact chr_of_range h0 h1 ⟨keeps_toks _ _, _, rfl⟩
theorem py_ord {c : Nat} : PyOk1 prog w A (.builtin "ord") (.str ⟨#[c]⟩) (.int c) := by
  rintro s _ E ⟨t, rfl⟩
  exact P.ord_of_char ⟨keeps_toks _ _, _, rfl⟩

/-! ## subscripts -/
theorem subscripted_ops (slice : Expr) (o i : Value) : ∃ ops, subscripted slice false o i = operate ops (getItem o i) := by
  unfold subscripted
  split
  · exact ⟨_, rfl⟩
  · contradiction
  · exact ⟨_, rfl⟩

theorem Ev.itemI {l i : Expr} {pos : Pos} {ns : List Int} {k : Int} (hl : Ev prog w A env s l (.il ns)) (hi : Ev prog w A env s i (.int k)) (h0 : 0 ≤ k) (h1 : k < ns.length) (h2 : k < 2 ^ 63) :
    Ev prog w A env s (.Subscript l i pos) (.int (ns.getD k.toNat 0)) := fun s' kp E => by
  refine Subscript_ (ev_then hl kp fun o s₁ k₁ d₁ => ev_then hi (keeps_trans kp k₁) fun j s₂ k₂ d₂ => ?_)
  obtain ⟨a, vs, rfl, hL, hI⟩ := den_keeps k₂ d₁
  obtain ⟨t, rfl⟩ := d₂
  obtain ⟨ops, hops⟩ := subscripted_ops i (.ref a) (.int k t)
  obtain ⟨u, hu⟩ := intsAre_get hI k.toNat (by omega)
  exact tail_any hL.typeIs list_getitem_lookup (wpAny_getItem_list hL h0 h2 (by simpa using hu) ⟨keeps_trans k₁ k₂, _, rfl⟩) hops

theorem Ev.itemL {l i : Expr} {pos : Pos} {nss : List (List Int)} {k : Int} {ns : List Int} (hl : Ev prog w A env s l (.ill nss)) (hi : Ev prog w A env s i (.int k)) (h0 : 0 ≤ k) (h1 : nss[k.toNat]? = some ns) (h2 : k < 2 ^ 63) :
    Ev prog w A env s (.Subscript l i pos) (.il ns) := fun s' kp E => by
  refine Subscript_ (ev_then hl kp fun o s₁ k₁ d₁ => ev_then hi (keeps_trans kp k₁) fun j s₂ k₂ d₂ => ?_)
  obtain ⟨a, vs, rfl, hL, hlen, hI⟩ := den_keeps k₂ d₁
  obtain ⟨t, rfl⟩ := d₂
  obtain ⟨ops, hops⟩ := subscripted_ops i (.ref a) (.int k t)
  have hlt : k.toNat < vs.length := by
    rw [hlen]; rcases Nat.lt_or_ge k.toNat nss.length with q | q
    · exact q
    · rw [List.getElem?_eq_none q] at h1; cases h1
  have hv : vs[k.toNat]? = some vs[k.toNat] := List.getElem?_eq_getElem hlt
  exact tail_any hL.typeIs list_getitem_lookup (wpAny_getItem_list hL h0 h2 (by simpa using hv) ⟨keeps_trans k₁ k₂, hI _ _ _ hv h1⟩) hops

theorem Ev.itemS {l i : Expr} {pos : Pos} {x : Str} {k : Int} (hl : Ev prog w A env s l (.str x)) (hi : Ev prog w A env s i (.int k)) (h0 : 0 ≤ k) (h1 : k < x.length) (h2 : x.length ≤ sizeLine)
    (ht : ∀ o r, letTemporaryGo l o r = pure ()) :
    Ev prog w A env s (.Subscript l i pos) (.str (Txt.item x k)) := fun s' kp E => by
  refine Subscript_ (ev_then hl kp fun o s₁ k₁ d₁ => ev_then hi (keeps_trans kp k₁) fun j s₂ k₂ d₂ => ?_)
  obtain ⟨t', rfl⟩ := d₁
  obtain ⟨t, rfl⟩ := d₂
  obtain ⟨ops, hops⟩ := subscripted_ops i (.str x t') (.int k t)
  have hs := sizeLine_lt
  exact tail_of_ItemOn (SB.item (fitsSsize_of (N := 2 ^ 62) (by omega) (by have : (sizeLine : Int) < 2 ^ 62 := (by decide); omega) (by decide)) (charAt_isSome (by omega) (by omega)) ⟨keeps_trans (keeps_trans k₁ k₂) (keeps_toks _ _), _, rfl⟩) hops (ht _)

/-! slices -/
def Evo (prog : Program) (w : World) (A : Around) (env : Env) (s : Shared) : Option Expr → Option Int → Prop
  | none, none => True
  | some e, some i => Ev prog w A env s e (.int i)
  | _, _ => False
theorem evo_then {oe : Option Expr} {oi : Option Int} {E : Value → Shared → Prop} {Q : Value → Shared → Prop} (x : Evo prog w A env s oe oi) {s' : Shared} (k : Keeps s s')
    (h : ∀ (p : Option (Int × Tok)) s'', Keeps s' s'' → p.map (·.1) = oi → Q (partValue p) s'') : wpAny (model prog w) A (evalPart oe env) Q E s' := by
  match oe, oi, x with
  | none, none, _ => rw [evalPart_none]; exact wpAny_pure (h none s' (keeps_refl _) rfl)
  | some e, some i, x => rw [evalPart_some]; exact ev_then x k fun v s'' k' ⟨t, e'⟩ => by subst e'; exact h (some (i, t)) s'' k' rfl

theorem isPart_of (p : Option (Int × Tok)) : IsPart (partValue p) (p.map (·.1)) := by
  cases p with
  | none => exact .none
  | some p => exact .int _ _

theorem Ev.sliceI {l : Expr} {lo hi : Option Expr} {p pos : Pos} {ns : List Int} {a b : Option Int} (hl : Ev prog w A env s l (.il ns)) (ha : Evo prog w A env s lo a) (hb : Evo prog w A env s hi b)
    (hsz : ns.length ≤ sizeLine) {ms : List Int} (hp : ∀ vs, IntsAre vs ns → ∃ ws, slicePick vs.toArray a b none = ws.toArray ∧ IntsAre ws ms) :
    Ev prog w A env s (.Subscript l (.Slice lo hi none p) pos) (.il ms) := fun s' kp E => by
  refine Subscript_ (ev_then hl kp fun o s₁ k₁ d₁ => wpAny_Slice (evo_then ha (keeps_trans kp k₁) fun p1 s₂ k₂ e₁ => evo_then hb (keeps_trans kp (keeps_trans k₁ k₂)) fun p2 s₃ k₃ e₂ => ?_))
  rw [evalPart_none]
  refine wpAny_pure ?_
  obtain ⟨c, vs, rfl, hL, hI⟩ := den_keeps (keeps_trans k₂ k₃) d₁
  obtain ⟨ops, hops⟩ := subscripted_ops (.Slice lo hi none p) (.ref c) (.ref s₃.heap.objs.size)
  obtain ⟨ws, hw, hI'⟩ := hp vs hI
  have hL' := hL.push { cls := .type "slice", dict := none, data := .fields #[partValue p1, partValue p2, .none], slots := #[] }
  refine tail_any (s := { s₃ with heap := s₃.heap.push { cls := .type "slice", data := .fields #[partValue p1, partValue p2, .none] } }) hL'.typeIs list_getitem_lookup
    (wpAny_getItem_list_slice hL' (Heap.IsSliceOf.new ..) (e₁ ▸ isPart_of p1) (e₂ ▸ isPart_of p2) .none (by simp) ?_ (by rw [List.size_toArray, intsAre_len hI]; exact hsz)) hops
  refine ⟨keeps_trans (keeps_trans (keeps_trans k₁ (keeps_trans k₂ k₃)) (keeps_push s₃ _)) (keeps_push { s₃ with heap := s₃.heap.push _ } _), _, ws, rfl, ?_, hI'⟩
  exact ⟨_, Heap.get?_push_size _ rfl, rfl, 0, by rw [hw]⟩

theorem Ev.sliceS {l : Expr} {lo hi : Option Expr} {p pos : Pos} {x : Str} {a b : Option Int} (hl : Ev prog w A env s l (.str x)) (ha : Evo prog w A env s lo a) (hb : Evo prog w A env s hi b)
    (hsz : x.length ≤ sizeLine) (ht : ∀ o r, letTemporaryGo l o r = pure ()) :
    Ev prog w A env s (.Subscript l (.Slice lo hi none p) pos) (.str (Txt.slice x a b)) := fun s' kp E => by
  refine Subscript_ (ev_then hl kp fun o s₁ k₁ d₁ => wpAny_Slice (evo_then ha (keeps_trans kp k₁) fun p1 s₂ k₂ e₁ => evo_then hb (keeps_trans kp (keeps_trans k₁ k₂)) fun p2 s₃ k₃ e₂ => ?_))
  rw [evalPart_none]
  refine wpAny_pure ?_
  obtain ⟨t, rfl⟩ := d₁
  subst e₁ e₂
  obtain ⟨ops, hops⟩ := subscripted_ops (.Slice lo hi none p) (.str x t) (.ref s₃.heap.objs.size)
  have hk : KeptH (fun h' => Up s₃.heap h') := fun h ob k => k.trans (up_push _ _)
  have fin : ∀ (h' : Heap) (t' : Tok) (k : Nat) (y : Str), Up s₃.heap h' → Keeps s' { s₃ with heap := h', toks := k } ∧ Den h' (.str y t') (.str y) := fun h' t' k y u =>
    ⟨keeps_trans (keeps_trans k₁ (keeps_trans k₂ k₃)) (keeps_heap _ _ u), _, rfl⟩
  match p1, p2 with
  | none, none => exact tail_of_ItemOn (SBH.sliceItem_nn hk (Up.refl _) (fun h' t' k u => fin h' t' k _ u) hsz) hops (ht _)
  | none, some (j, uj) => exact tail_of_ItemOn (SBH.sliceItem_ns hk (Up.refl _) (fun h' t' k u => fin h' t' k _ u) hsz) hops (ht _)
  | some (i, ui), none => exact tail_of_ItemOn (SBH.sliceItem_sn hk (Up.refl _) (fun h' t' k u => fin h' t' k _ u) hsz) hops (ht _)
  | some (i, ui), some (j, uj) => exact tail_of_ItemOn (SBH.sliceItem_ss hk (Up.refl _) (fun h' t' k u => fin h' t' k _ u) hsz) hops (ht _)
end
end Mine
end

section
open PySem PySem.Calls PyProof.Rows
namespace Mine

theorem foldl_rep (x : Value) : ∀ (k : Nat) (acc : Array Value), List.foldl (fun x1 x2 => x1 ++ x2) acc (List.replicate k #[x]) = (acc.toList ++ List.replicate k x).toArray
  | 0, acc => by simp
  | k + 1, acc => by
    rw [List.replicate_succ, List.foldl_cons, foldl_rep x k]
    simp [List.replicate_succ]
theorem intsAre_rep (c : Int) (t : Tok) : ∀ k : Nat, IntsAre (List.replicate k (.int c t)) (List.replicate k c)
  | 0 => .nil
  | k + 1 => .cons c t (intsAre_rep c t k)

section
variable {prog : Program} {w : World} {A : Around} {env : Env} {s : Shared} {σ : List (Str × D)} {mg mb : Str → Option Value}

/-- a display of ints: a fresh plain list -/
theorem intsAre_of {h : Heap} : ∀ {vs : List Value} {ns : List Int}, vs.length = ns.length → (∀ (j : Nat) (v : Value) (d : D), vs[j]? = some v → (ns.map D.int)[j]? = some d → Den h v d) → IntsAre vs ns
  | [], [], _, _ => .nil
  | v :: vs, n :: ns, hl, hd => by
    obtain ⟨t, rfl⟩ := hd 0 v (.int n) rfl rfl
    exact .cons n t (intsAre_of (h := h) (by simpa using hl) fun j v d e1 e2 => hd (j + 1) v d (by simpa using e1) (by simpa using e2))
  | [], _ :: _, hl, _ => by simp at hl
  | _ :: _, [], hl, _ => by simp at hl

theorem EvP.listI {es : List Expr} {pos : Pos} {ns : List Int} (h : Evs prog w A env s pos es (ns.map D.int)) (hsz : ns.length ≤ sizeLine) :
    EvP prog w A env s (.List es pos) fun s'' v => ∃ a vs, v = .ref a ∧ s''.heap.PlainList a vs.toArray ∧ IntsAre vs ns := fun s' k E => by
  refine List_ (wpAny_mono (h s' k E) (fun vs s₁ q => ?_) fun _ _ q => q)
  obtain ⟨k₁, hl, hd⟩ := q
  have hI := intsAre_of (by simpa using hl) hd
  refine wpAny_newObj_type ⟨keeps_trans k₁ (keeps_push _ _), _, vs, rfl, ⟨0, Heap.get?_push_size _ rfl⟩, hI⟩ ?_
  show vs.toArray.size ≤ sizeLine
  rw [List.size_toArray, intsAre_len hI]; exact hsz
theorem plain_isList {h : Heap} {a : Addr} {its : Array Value} (x : h.PlainList a its) : h.IsList a its := let ⟨n, e⟩ := x; ⟨_, e, rfl, n, rfl⟩
theorem Ev.listI {es : List Expr} {pos : Pos} {ns : List Int} (h : Evs prog w A env s pos es (ns.map D.int)) (hsz : ns.length ≤ sizeLine) :
    Ev prog w A env s (.List es pos) (.il ns) := fun s' k E =>
  wpAny_mono (EvP.listI h hsz s' k E) (fun v s₁ ⟨k₁, a, vs, e, p, i⟩ => ⟨k₁, a, vs, e, plain_isList p, i⟩) fun _ _ q => q

theorem plain_up {h h' : Heap} (k : Up h h') {a : Addr} {its : Array Value} (x : h.PlainList a its) : h'.PlainList a its := let ⟨n, e⟩ := x; ⟨n, k _ _ e⟩

theorem Ev.rep {e r : Expr} {p pos : Pos} {c : Int} {n : Int} (he : Ev prog w A env s e (.int c)) (hr : Ev prog w A env s r (.int n)) (hn : n.toNat ≤ 1000) (hlo : -(2 ^ 63) ≤ n)
    (hst : starEach [e] env = (false, eval e env) :: starEach [] env) :
    Ev prog w A env s (.BinOp (.List [e] p) .Mult r pos) (.il (List.replicate n.toNat c)) := fun s' k E => by
  refine wpAny_BinOp (ev_then (EvP.listI (ns := [c]) (Evs.cons he .nil hst) (show 1 ≤ sizeLine by decide)) k fun v s₁ k₁ d₁ => ev_then hr (keeps_trans k k₁) fun b s₂ k₂ d₂ => ?_)
  obtain ⟨a, vs, rfl, hp, hi⟩ := d₁
  obtain ⟨u, rfl⟩ := d₂
  match hi with
  | .cons _ t .nil =>
    obtain ⟨m, hm⟩ := plain_up (keeps_up k₂) hp
    have hs : (1 : Nat) * n.toNat ≤ sizeLine := by have : 1000 ≤ sizeLine := (by decide); omega
    refine wpAny_binaryOp_repeat_ref (T := "list") (U := "int") (by decide) ⟨_, hm, rfl⟩ (fun s' => typeIs_int s' n u) noFill_list_mul PySem.F.fills_int_mul PySem.F.slot_int_rmul repeat_list PySem.F.slot_int_index.lookup
      (call_meets PySem.F.slot_int_rmul (typeIs_int s₂ n u) PySem.F.entry_int_rmul (PySem.F.args_int_rmul_2 _ _) (int___rmul___int_list n u a _ m)
        ⟨hm, rfl, ⟨_, hm, rfl⟩, call_meets PySem.F.slot_list_mul ⟨_, hm, rfl⟩ PySem.F.entry_list_mul (PySem.F.args_list_mul_2 _ _)
          (AutoListH.list___mul___list_int_3 a _ m n u (by simp [Builtin.List.listFitsIndex]; omega) (by simp; omega) (by simp [Builtin.List.listTooLong]; omega))
          ⟨hm, ?_⟩⟩)
    refine ⟨keeps_trans (keeps_trans k₁ k₂) (keeps_push _ _), _, List.replicate n.toNat (.int c t), rfl, ⟨_, Heap.get?_push_size _ rfl, rfl, 0, ?_⟩, intsAre_rep c t _⟩
    simp [foldl_rep]

theorem ok_addL {ns ms : List Int} (h : ns.length + ms.length ≤ sizeLine) : BinOk prog w A .Add (.il ns) (.il ms) (.il (ns ++ ms)) := by
  rintro s _ _ E ⟨l, vs, rfl, hl, hi⟩ ⟨b, ws, rfl, hb, hj⟩
  obtain ⟨⟨cls, dd, data, sl⟩, ho, hc, n, hd⟩ := id hl
  obtain ⟨⟨cls2, dd2, data2, sl2⟩, ho2, hc2, n2, hd2⟩ := id hb
  simp only at hc hd hc2 hd2
  subst hc hd hc2 hd2
  have hsz : vs.toArray.size + ws.toArray.size ≤ sizeLine := by rw [List.size_toArray, List.size_toArray, intsAre_len hi, intsAre_len hj]; exact h
  exact concat_meets hl.typeIs hb.typeIs noFill_list_add seq_list_add PySem.F.slot_list_add PySem.F.entry_list_add (PySem.F.args_list_add_2 _ _) (list_addW l b vs.toArray ws.toArray n n2 dd dd2 sl sl2 hsz)
    ⟨ho, ho2, keeps_push _ _, _, vs ++ ws, rfl, ⟨_, Heap.get?_push_size _ rfl, rfl, 0, by simp⟩, intsAre_append hi hj⟩

/-! ## calls of the text's own functions -/
def Good (A : Around) (n : Nat) : Prop := A.handled = none ∧ A.depth + n < recursionLimit
def DenAll (h : Heap) (vs : List Value) (ds : List D) : Prop := vs.length = ds.length ∧ ∀ (j : Nat) (v : Value) (d : D), vs[j]? = some v → ds[j]? = some d → Den h v d

/-- the function of that name, called on such data, hands back such a datum -/
def FnOk (prog : Program) (w : World) (mg : Str → Option Value) (h : Heap) (name : Str) (n : Nat) (ds : List D) (d : D) : Prop :=
  ∃ a o fd, mg name = some (.ref a) ∧ h.get? a = some o ∧ o.data = .func fd ∧
    ∀ (A : Around) (s : Shared) (vs : List Value) (E : Value → Shared → Prop), Good A n → Up h s.heap → DenAll s.heap vs ds →
      wpAny (model prog w) A (call (.ref a) vs) (fun v s'' => Keeps s s'' ∧ Den s''.heap v d) E s

theorem Ev.callFn {h : Heap} {x : Str} {n : Nat} {e : Expr} {es : List Expr} {p pos : Pos} {ds : List D} {d : D} (F : FnOk prog w mg h x n ds d) (N : EnvG env) (G : Gx mg mb s.heap) (u : Up h s.heap) (hA : Good A n)
    (he : Evs prog w A env s pos (e :: es) ds) (hx : env.kindOf x = some .globalImplicit) (hd : (x == ("__debug__" : Str)) = false)
    (h2 : starEach (e :: es) env = (false, eval e env) :: starEach es env) : Ev prog w A env s (.Call (.Name x p) (e :: es) [] pos) d := fun s' k E => by
  obtain ⟨a, o, fd, hm, ho, hdat, hcall⟩ := F
  refine Call_ (he := rfl) (name_global N (G.up (keeps_up k)) hm hx hd (callWith_def_at (he := h2) (u.trans (keeps_up k) _ _ ho) hdat ?_))
  refine wpAny_mono (he s' k E) (fun vs s₁ q => ?_) fun _ _ q => q
  obtain ⟨k₁, hl, hden⟩ := q
  refine ⟨keeps_up k₁ _ _ (u.trans (keeps_up k) _ _ ho), wpAny_mono (hcall A s₁ vs E hA (u.trans (keeps_up (keeps_trans k k₁))) ⟨hl, hden⟩) (fun v s₂ q => ⟨keeps_trans k₁ q.1, q.2⟩) fun _ _ q => q⟩
end
end Mine
end

section
open PySem PySem.Calls PyProof.Rows
namespace Mine

/-! ## the frame, statement by statement -/
def BIn (B : Addr → Obj → Prop) (h : Heap) : Prop := ∀ b o, B b o → h.get? b = some o
abbrev OfH (h : Heap) : Addr → Obj → Prop := fun b o => h.get? b = some o
structure Fx (B : Addr → Obj → Prop) (s0 : Shared) (env : Env) (σ : List (Str × D)) (s : Shared) : Prop where
  st : St env σ s
  base : BIn B s.heap
  out : ∀ o, ¬ B env.locals o
  same : ∃ h' tk, s = { s0 with heap := h', toks := tk }
  cells : ∀ x c, env.cells.lookup x = some c → (∃ v0, s.heap.IsCell c v0) ∧ ∀ o, ¬ B c o
  cellIn : ∀ x, env.kindOf x = some .cell → ∃ c, env.cells.lookup x = some c
  apart : ∀ x y c, env.cells.lookup x = some c → env.cells.lookup y = some c → x = y
  plain : (env.scope.kind == .class || (env.scope.kind == .module && env.locals != env.globals)) = false

theorem Fx.keeps {B : Addr → Obj → Prop} {s0 : Shared} {env : Env} {σ : List (Str × D)} {s s' : Shared} (F : Fx B s0 env σ s) (k : Keeps s s') : Fx B s0 env σ s' := by
  refine ⟨F.st.keeps k, fun b o e => keeps_up k b o (F.base b o e), F.out, ?_, fun x c e => ?_, F.cellIn, F.apart, F.plain⟩
  · obtain ⟨h, tk, rfl⟩ := F.same
    obtain ⟨h', tk', rfl, _⟩ := k
    exact ⟨h', tk', rfl⟩
  · obtain ⟨⟨v0, q⟩, r⟩ := F.cells x c e
    exact ⟨⟨v0, isCell_up (keeps_up k) q⟩, r⟩

theorem seqUp_ns {h h' : Heap} {L : Addr} {m : Str → Option Value} (hn : h.Ns L m) (hs : Heap.SameBut L h h') : SeqUp h h' := by
  intro b o e hq
  refine (hs.2 b ?_).trans e
  rintro rfl
  obtain ⟨o', es, ep, ho, hd', _⟩ := hn
  rw [e] at ho; cases ho; exact hq.1 _ _ hd'
theorem seqUp_cell {h h' : Heap} {c : Addr} {v : Option Value} (hn : h.IsCell c v) (hs : Heap.SameBut c h h') : SeqUp h h' := by
  intro b o e hq
  refine (hs.2 b ?_).trans e
  rintro rfl
  obtain ⟨o', ho, hd'⟩ := hn
  rw [e] at ho; cases ho; exact hq.2.1 _ hd'
theorem cell_ne_ns {h : Heap} {L c : Addr} {m : Str → Option Value} {v : Option Value} (hn : h.Ns L m) (hc : h.IsCell c v) : c ≠ L := by
  rintro rfl
  obtain ⟨o', es, ep, ho, hd', _⟩ := hn
  obtain ⟨o, ho', hd⟩ := hc
  rw [ho] at ho'; cases ho'; rw [hd'] at hd; cases hd

section
variable {prog : Program} {w : World} {A : Around} {env : Env} {s s0 : Shared} {σ : List (Str × D)} {mg mb : Str → Option Value} {B : Addr → Obj → Prop}

theorem up_same {c : Addr} {h h' : Heap} (u : BIn B h) (hc : ∀ o, ¬ B c o) (hs : Heap.SameBut c h h') : BIn B h' := fun b o e =>
  (hs.2 b (by rintro rfl; exact hc o e)).trans (u b o e)

/-- a value goes into a name -/
theorem Fx.store {x : Str} {v : Value} {d : D} {E : Value → Shared → Prop} {Q : Unit → Shared → Prop} (F : Fx B s0 env σ s) (hk : env.kindOf x = some .local ∨ env.kindOf x = some .cell) (hd : Den s.heap v d)
    (h : ∀ s', Fx B s0 env ((x, d) :: σ) s' → SeqUp s.heap s'.heap → Den s'.heap v d → Q () s') : wpAny (model prog w) A (storeName env x v) Q E s := by
  obtain ⟨h0, tk0, e0⟩ := F.same
  obtain ⟨m, hn, hm⟩ := F.st.loc
  have look : ∀ y d', ((x, d) :: σ).lookup y = some d' → (y = x ∧ d' = d) ∨ (y ≠ x ∧ σ.lookup y = some d') := fun y d' e => by
    rw [List.lookup_cons] at e
    by_cases hy : y = x
    · subst hy; simp at e; exact .inl ⟨rfl, e.symm⟩
    · have hb' : (y == x) = false := beq_eq_false_iff_ne.mpr hy
      rw [hb'] at e; exact .inr ⟨hy, e⟩
  rcases hk with hk | hk
  · refine wpAny_storeName_local hk hn (fun h' hn' hs => ?_) F.plain
    have sq := seqUp_ns hn hs
    have cellK : ∀ c v0, s.heap.IsCell c v0 → h'.IsCell c v0 := fun c v0 q => by
      have := cell_ne_ns hn q
      obtain ⟨o, ho, r⟩ := q; exact ⟨o, (hs.2 c this).trans ho, r⟩
    refine h _ ⟨⟨F.st.kind, ⟨_, hn', fun y d' e1 e2 => ?_⟩, fun y d' e1 e2 => ?_⟩, up_same F.base F.out hs, F.out, ⟨h', s.toks + 1, by rw [e0]⟩, fun y c e => ?_, F.cellIn, F.apart, F.plain⟩ sq (den_seq sq hd)
    · rcases look y d' e1 with ⟨rfl, rfl⟩ | ⟨hy, e⟩
      · exact ⟨v, by simp, den_seq sq hd⟩
      · obtain ⟨v', ev, q⟩ := hm y d' e e2
        exact ⟨v', by simp [hy, ev], den_seq sq q⟩
    · rcases look y d' e1 with ⟨rfl, rfl⟩ | ⟨hy, e⟩
      · rw [hk] at e2; cases e2
      · obtain ⟨c, v', ec, q, r⟩ := F.st.cel y d' e e2
        exact ⟨c, v', ec, cellK _ _ q, den_seq sq r⟩
    · obtain ⟨⟨v0, q⟩, r⟩ := F.cells y c e
      exact ⟨⟨v0, cellK _ _ q⟩, r⟩
  · obtain ⟨c, hc⟩ := F.cellIn x hk
    obtain ⟨⟨v0, hv0⟩, hcb⟩ := F.cells x c hc
    refine wpAny_storeName_cell F.st.kind hk hc hv0 fun h' hc' hs => ?_
    have sq := seqUp_cell hv0 hs
    have hLc : env.locals ≠ c := fun e => cell_ne_ns hn hv0 e.symm
    have hn' : h'.Ns env.locals m := hn.at fun o e => (hs.2 _ hLc).trans e
    refine h _ ⟨⟨F.st.kind, ⟨m, hn', fun y d' e1 e2 => ?_⟩, fun y d' e1 e2 => ?_⟩, up_same F.base hcb hs, F.out, ⟨h', s.toks, by rw [e0]⟩, fun y c' e => ?_, F.cellIn, F.apart, F.plain⟩ sq (den_seq sq hd)
    · rcases look y d' e1 with ⟨rfl, rfl⟩ | ⟨hy, e⟩
      · rw [hk] at e2; cases e2
      · obtain ⟨v', ev, q⟩ := hm y d' e e2
        exact ⟨v', ev, den_seq sq q⟩
    · rcases look y d' e1 with ⟨rfl, rfl⟩ | ⟨hy, e⟩
      · exact ⟨c, v, hc, hc', den_seq sq hd⟩
      · obtain ⟨c', v', ec, q, r⟩ := F.st.cel y d' e e2
        have hcc : c' ≠ c := fun e' => hy (F.apart y x c' ec (e' ▸ hc))
        obtain ⟨o, ho, r'⟩ := q
        exact ⟨c', v', ec, ⟨o, (hs.2 c' hcc).trans ho, r'⟩, den_seq sq r⟩
    · by_cases hcc : c' = c
      · subst hcc; exact ⟨⟨_, hc'⟩, (F.cells y _ e).2⟩
      · obtain ⟨⟨v0', q⟩, r⟩ := F.cells y c' e
        obtain ⟨o, ho, r'⟩ := q
        exact ⟨⟨v0', ⟨o, (hs.2 c' hcc).trans ho, r'⟩⟩, r⟩

theorem Fx.assign {x : Str} {p p2 : Pos} {e : Expr} {rest : List Stmt} {d : D} {E : Value → Shared → Prop} {Q : Flow → Shared → Prop} (F : Fx B s0 env σ s) (he : Ev prog w A env s e d)
    (hk : env.kindOf x = some .local ∨ env.kindOf x = some .cell) (hs : swapsWith e (some (.Name x p)) p2.line env = pure false)
    (h : ∀ s', Fx B s0 env ((x, d) :: σ) s' → wpAny (model prog w) A (execs rest env) Q E s') :
    wpAny (model prog w) A (execs (.Assign [.Name x p] e p2 :: rest) env) Q E s :=
  wpAny_execs_cons (wpAny_Assign_Name (hs := hs) (ev_then he (keeps_refl _) fun v s₁ k₁ d₁ => (F.keeps k₁).store hk d₁ fun s' F' _ _ => h s' F'))

theorem Fx.ifThen {c : Expr} {b : Bool} {body rest : List Stmt} {p : Pos} {σ' : List (Str × D)} {E : Value → Shared → Prop} {Q : Flow → Shared → Prop} (F : Fx B s0 env σ s) (hc : Ts prog w A env s c b)
    (hbody : b = true → ∀ s', Keeps s s' → Fx B s0 env σ s' → wpAny (model prog w) A (execs body env) (fun f s'' => f = .next ∧ Fx B s0 env σ' s'') E s')
    (hskip : b = false → ∀ s', Keeps s s' → Fx B s0 env σ s' → Fx B s0 env σ' s')
    (h : ∀ s', Fx B s0 env σ' s' → wpAny (model prog w) A (execs rest env) Q E s') :
    wpAny (model prog w) A (execs (.If c body [] p :: rest) env) Q E s :=
  wpAny_execs_cons (wpAny_If (ts_then hc (keeps_refl _) fun s₁ k₁ => by
    cases b with
    | true =>
      rw [if_pos rfl]
      refine wpAny_mono (hbody rfl s₁ k₁ (F.keeps k₁)) (fun f s₂ q => ?_) fun _ _ q => q
      obtain ⟨rfl, F₂⟩ := q
      exact h s₂ F₂
    | false =>
      rw [if_neg (by simp)]
      exact wpAny_execs_nil (h s₁ (hskip rfl s₁ k₁ (F.keeps k₁)))))

def Back (B : Addr → Obj → Prop) (s0 : Shared) (d : D) (f : Flow) (s' : Shared) : Prop := ∃ v, f = .ret v ∧ BIn B s'.heap ∧ (∃ h' tk, s' = { s0 with heap := h', toks := tk }) ∧ Den s'.heap v d

theorem Fx.ret {e : Expr} {rest : List Stmt} {p : Pos} {d : D} {E : Value → Shared → Prop} (F : Fx B s0 env σ s) (he : Ev prog w A env s e d) :
    wpAny (model prog w) A (execs (.Return (some e) p :: rest) env) (Back B s0 d) E s :=
  wpAny_execs_cons (wpAny_Return_some (ev_then he (keeps_refl _) fun v s₁ k₁ d₁ => ⟨v, rfl, (F.keeps k₁).base, (F.keeps k₁).same, d₁⟩))

/-! ## a function of the text -/
def FnAt (mg : Str → Option Value) (h : Heap) (name : Str) (params : Arguments) (body : List Stmt) (scope : Scope) : Prop :=
  ∃ a o pm cd doc, mg name = some (.ref a) ∧ h.get? a = some o ∧ o.data = .func (docDef name params body scope pm cd doc) ∧ h.CodeRec cd name ∧ ∃ c oc, cd = .ref c ∧ h.get? c = some oc ∧ oc.cls ≠ .none
theorem FnAt.up {h h' : Heap} {name : Str} {params : Arguments} {body : List Stmt} {scope : Scope} (F : FnAt mg h name params body scope) (k : Up h h') : FnAt mg h' name params body scope :=
  let ⟨a, o, pm, cd, doc, h1, h2, h3, h4, c, oc, e1, e2, e3⟩ := F; ⟨a, o, pm, cd, doc, h1, k _ _ h2, h3, h4.keeps k, c, oc, e1, k _ _ e2, e3⟩

theorem zip_lookup : ∀ {xs : List Str} {vs : List Value} {ds : List D} {h : Heap}, DenAll h vs ds → ∀ y d, (xs.zip ds).lookup y = some d → ∃ v, (xs.zip vs).lookup y = some v ∧ Den h v d
  | [], _, _, _, _, y, d, e => by simp at e
  | _ :: _, _, [], _, _, y, d, e => by simp at e
  | _ :: _, [], _ :: _, _, hh, y, d, e => by simp [DenAll] at hh
  | x :: xs, v :: vs, d :: ds, h, hh, y, d', e => by
    simp only [List.zip_cons_cons, List.lookup_cons] at e ⊢
    split at e
    · cases e; exact ⟨v, rfl, hh.2 0 v d rfl rfl⟩
    · exact zip_lookup (xs := xs) ⟨by have := hh.1; simpa using this, fun j v d e1 e2 => hh.2 (j + 1) v d (by simpa using e1) (by simpa using e2)⟩ y d' e

theorem lookup_reverse_nodup : ∀ {l : List (Str × Value)}, (l.map (·.1)).Nodup → ∀ y, l.reverse.lookup y = l.lookup y
  | [], _, y => rfl
  | (x, v) :: l, h, y => by
    simp only [List.map_cons, List.nodup_cons] at h
    rw [List.reverse_cons, List.lookup_append, lookup_reverse_nodup h.2, List.lookup_cons]
    by_cases hy : y = x
    · subst hy
      have : l.lookup y = none := by
        rw [List.lookup_eq_none_iff]
        intro p hp
        have : p.1 ≠ y := fun e => h.1 (List.mem_map.mpr ⟨p, hp, e⟩)
        simpa using fun e => this e.symm
      simp [this]
    · have hb' : (y == x) = false := beq_eq_false_iff_ne.mpr hy
      simp only [hb', List.lookup_cons, List.lookup_nil]
      cases l.lookup y <;> rfl

theorem FnOk.mk {h : Heap} {name : Str} {params : Arguments} {body : List Stmt} {scope : Scope} {n : Nat} {ds : List D} {d : D} {xs : List Str} (F : FnAt mg h name params body scope) (G : Gx mg mb h)
    (hlen : xs.length = ds.length) (hnd : xs.Nodup)
    (hbind : ∀ pm cd doc (vs : List Value), vs.length = ds.length → bindArgs (docDef name params body scope pm cd doc) ⟨vs, []⟩ = pure (xs.zip vs))
    (hloc : ∀ x ∈ xs, scope.names.lookup x = some .local)
    (hco : scope.isCoroutine = false) (hgen : scope.isGenerator = false) (hk : scope.kind = .function) (hcell : ∀ x ∈ scope.names, x.2 ≠ .cell)
    (hbody : ∀ (A : Around) (B : Addr → Obj → Prop) (s : Shared) (L a : Addr) (cd : Value), Good A n → (∀ b o, h.get? b = some o → B b o) → Fx B s (envOf name scope L a cd) (xs.zip ds) s →
      wpAny (model prog w) A (execs body (envOf name scope L a cd)) (Back B s d) (fun _ _ => False) s) : FnOk prog w mg h name (n + 1) ds d := by
  obtain ⟨a, o, pm, cd, doc, h1, h2, h3, h4, _⟩ := F
  refine ⟨a, o, _, h1, h2, h3, fun A s vs E hA hu hvs => ?_⟩
  have hvl : vs.length = ds.length := hvs.1
  have hmem : ∀ p ∈ xs.zip vs, scope.names.lookup p.1 = some .local := fun p hp => hloc p.1 (List.of_mem_zip (a := p.1) (b := p.2) hp).1
  refine wpAny_call (call_plain_ret (by have := hA.2; omega) (hu _ _ h2) h3 ((G.up hu).nolimit) (h4.keeps hu) (hbind pm cd doc vs hvl) hmem (fun h₁ F₁ => ?_) hco hgen hk hcell)
  have hmapz : (xs.zip vs).map (·.1) = xs := by
    rw [List.map_fst_zip]; omega
  have FF : Fx (OfH s.heap) { s with heap := h₁, toks := s.toks + (xs.zip vs).length } (envOf name scope s.heap.objs.size a cd) (xs.zip ds) { s with heap := h₁, toks := s.toks + (xs.zip vs).length } := by
    refine ⟨⟨hk, ⟨_, F₁.ns, fun y d' e1 e2 => ?_⟩, fun y d' e1 e2 => ?_⟩, F₁.keep, ?_, ⟨h₁, _, rfl⟩, fun x c e => by simp [envOf] at e, fun x e => ?_, fun x y c e => by simp [envOf] at e, by show (scope.kind == .class || (scope.kind == .module && _)) = false; rw [hk]; rfl⟩
    · obtain ⟨v, ev, q⟩ := zip_lookup hvs y d' e1
      exact ⟨v, by rw [lookup_reverse_nodup (by rw [hmapz]; exact hnd)]; exact ev, den_up F₁.keep q⟩
    · exfalso
      have : (y, NameKind.cell) ∈ scope.names := by
        have : scope.names.lookup y = some .cell := e2
        exact mem_of_lookup this
      exact hcell _ this rfl
    · exact fun o' hq => absurd (Heap.lt_size hq) (Nat.lt_irrefl _)
    · exfalso
      exact hcell _ (mem_of_lookup (show scope.names.lookup x = some .cell from e)) rfl
  refine wpAny_mono (hbody (A.deeper (envOf name scope s.heap.objs.size a cd)) (OfH s.heap) _ s.heap.objs.size a cd ⟨hA.1, by have := hA.2; show A.depth + 1 + n < _; omega⟩ hu FF) (fun f s' q => ?_) fun _ _ q => q
  obtain ⟨v, rfl, up, ⟨h', tk, rfl⟩, hd⟩ := q
  exact ⟨⟨h', tk, rfl, up⟩, hd⟩
theorem Fx.up {h : Heap} (F : Fx B s0 env σ s) (hu : ∀ b o, h.get? b = some o → B b o) : Up h s.heap := fun b o e => F.base b o (hu b o e)
end
end Mine
end

section
open PySem PySem.Calls PyProof.Rows
namespace Mine

/-! ## a heap less one object -/
def del (h : Heap) (a : Addr) : Heap := h.update a fun _ => ⟨.none, none, .freed, #[]⟩
theorem del_other {h : Heap} {a b : Addr} (hb : b ≠ a) : (del h a).get? b = h.get? b := Heap.get?_update_other h _ (Ne.symm hb)
theorem del_self (h : Heap) (a : Addr) : (del h a).get? a = none := by
  cases e : (del h a).get? a with
  | none => rfl
  | some o =>
    obtain ⟨e1, e2⟩ := Heap.get?_some_iff.mp e
    exfalso
    have : (del h a).objs[a]? = (h.objs[a]?).map fun _ => (⟨.none, none, .freed, #[]⟩ : Obj) := by
      cases h; simp [del, Heap.update, Array.getElem?_modify]
    rw [this] at e1
    cases hx : h.objs[a]? with
    | none => rw [hx] at e1; cases e1
    | some o' => rw [hx] at e1; cases e1; cases e2
theorem del_get {h : Heap} {a b : Addr} {o : Obj} (e : (del h a).get? b = some o) : b ≠ a ∧ h.get? b = some o := by
  by_cases hb : b = a
  · subst hb; rw [del_self] at e; cases e
  · exact ⟨hb, (del_other hb).symm.trans e⟩
theorem del_l {h h' : Heap} {a : Addr} (k : ∀ b o T xs n, b ≠ a → h.get? b = some o → o.cls = .type T → o.data = .seq xs n → h'.get? b = some o) : SeqL (del h a) (del h' a) := by
  intro b o T xs n e hc hd
  obtain ⟨hb, e'⟩ := del_get e
  exact (del_other hb).trans (k b o T xs n hb e' hc hd)
theorem del_le (h : Heap) (a : Addr) : SeqL (del h a) h := fun b o T xs n e _ _ => (del_get e).2

def Holds (env : Env) (h : Heap) (y : Str) (v : Value) : Prop :=
  (env.kindOf y = some .local ∧ ∃ m, h.Ns env.locals m ∧ m y = some v) ∨ (env.kindOf y = some .cell ∧ ∃ c, env.cells.lookup y = some c ∧ h.IsCell c (some v))
theorem Holds.up {env : Env} {h h' : Heap} {y : Str} {v : Value} (x : Holds env h y v) (k : Up h h') : Holds env h' y v := by
  rcases x with ⟨a, m, n, e⟩ | ⟨a, c, e, n⟩
  · exact .inl ⟨a, m, n.keeps k, e⟩
  · exact .inr ⟨a, c, e, isCell_up k n⟩
/-- all frames and cells stay -/
theorem Holds.at {env : Env} {h h' : Heap} {y : Str} {v : Value} {I : Addr} {o : Obj} (x : Holds env h y v) (ho : h.get? I = some o) (hd : ∀ es n, o.data ≠ .dict es n) (hc : ∀ v, o.data ≠ .cell v)
    (k : ∀ b o, b ≠ I → h.get? b = some o → h'.get? b = some o) : Holds env h' y v := by
  rcases x with ⟨a, m, n, e⟩ | ⟨a, c, e, n⟩
  · refine .inl ⟨a, m, ?_, e⟩
    obtain ⟨o', es, ep, h1, h2, h3⟩ := n
    have : env.locals ≠ I := by rintro e'; rw [e'] at h1; rw [ho] at h1; cases h1; exact hd _ _ h2
    exact ⟨o', es, ep, k _ _ this h1, h2, h3⟩
  · refine .inr ⟨a, c, e, ?_⟩
    obtain ⟨o', h1, h2⟩ := n
    have : c ≠ I := by rintro e'; rw [e'] at h1; rw [ho] at h1; cases h1; exact hc _ h2
    exact ⟨o', k _ _ this h1, h2⟩

theorem ns_uniq {h : Heap} {a : Addr} {m m' : Str → Option Value} (x : h.Ns a m) (y : h.Ns a m') : m = m' := by
  obtain ⟨o, es, ep, h1, h2, _, h3⟩ := x
  obtain ⟨o', es', ep', h1', h2', _, h3'⟩ := y
  rw [h1] at h1'; cases h1'
  rw [h2] at h2'; cases h2'
  funext n; rw [← h3, ← h3']

def Lk (pf : Bool) (h : Heap) (a : Addr) (vs : List Value) : Prop := if pf then h.PlainList a vs.toArray else h.IsList a vs.toArray
theorem Lk.isList {pf : Bool} {h : Heap} {a : Addr} {vs : List Value} (x : Lk pf h a vs) : h.IsList a vs.toArray := by
  cases pf with
  | true => exact plain_isList x
  | false => exact x
theorem Lk.at {pf : Bool} {h h' : Heap} {a : Addr} {vs : List Value} (x : Lk pf h a vs) (k : ∀ o, h.get? a = some o → h'.get? a = some o) : Lk pf h' a vs := by
  cases pf with
  | true => obtain ⟨n, e⟩ := x; exact ⟨n, k _ e⟩
  | false => obtain ⟨o, ho, r⟩ := x; exact ⟨o, k _ ho, r⟩
theorem Lk.obj {pf : Bool} {h : Heap} {a : Addr} {vs : List Value} (x : Lk pf h a vs) : ∃ o n, h.get? a = some o ∧ o.cls = .type "list" ∧ o.data = .seq vs.toArray n := by
  obtain ⟨o, ho, hc, n, hd⟩ := x.isList; exact ⟨o, n, ho, hc, hd⟩

/-- a frame one of whose names holds a list that is changed in place -/
structure Fm (B : Addr → Obj → Prop) (s0 : Shared) (env : Env) (pf : Bool) (x : Str) (a : Addr) (vs : List Value) (σ : List (Str × D)) (s : Shared) : Prop where
  fx : Fx B s0 env [] s
  others : ∀ y d, σ.lookup y = some d → (env.kindOf y = some .local ∨ env.kindOf y = some .cell) → y ≠ x → ∃ v, Holds env s.heap y v ∧ Den (del s.heap a) v d
  var : Holds env s.heap x (.ref a)
  pl : Lk pf s.heap a vs
  new : ∀ o, ¬ B a o

section
variable {prog : Program} {w : World} {A : Around} {env : Env} {s s0 : Shared} {σ : List (Str × D)} {mg mb : Str → Option Value} {B B' : Addr → Obj → Prop} {pf : Bool} {x : Str} {D0 : Addr} {vs : List Value}

/-- variables as Fx has them, from what the names hold -/
theorem Fx.with (F : Fx B s0 env [] s) (h : ∀ y d, σ.lookup y = some d → (env.kindOf y = some .local ∨ env.kindOf y = some .cell) → ∃ v, Holds env s.heap y v ∧ Den s.heap v d) : Fx B s0 env σ s := by
  obtain ⟨m, hn, _⟩ := F.st.loc
  refine ⟨⟨F.st.kind, ⟨m, hn, fun y d e1 e2 => ?_⟩, fun y d e1 e2 => ?_⟩, F.base, F.out, F.same, F.cells, F.cellIn, F.apart, F.plain⟩
  · obtain ⟨v, hv, q⟩ := h y d e1 (.inl e2)
    rcases hv with ⟨_, m', hn', e⟩ | ⟨a, _⟩
    · rw [ns_uniq hn hn']; exact ⟨v, e, q⟩
    · rw [e2] at a; cases a
  · obtain ⟨v, hv, q⟩ := h y d e1 (.inr e2)
    rcases hv with ⟨a, _⟩ | ⟨_, c, ec, r⟩
    · rw [e2] at a; cases a
    · exact ⟨c, v, ec, r, q⟩
theorem Fx.holds (F : Fx B s0 env σ s) {y : Str} {d : D} (e : σ.lookup y = some d) (hk : env.kindOf y = some .local ∨ env.kindOf y = some .cell) : ∃ v, Holds env s.heap y v ∧ Den s.heap v d := by
  rcases hk with hk | hk
  · obtain ⟨m, hn, hm⟩ := F.st.loc
    obtain ⟨v, e', q⟩ := hm y d e hk
    exact ⟨v, .inl ⟨hk, m, hn, e'⟩, q⟩
  · obtain ⟨c, v, ec, q, r⟩ := F.st.cel y d e hk
    exact ⟨v, .inr ⟨hk, c, ec, q⟩, r⟩
theorem Fx.drop (F : Fx B s0 env σ s) : Fx B s0 env [] s := by
  obtain ⟨m, hn, _⟩ := F.st.loc
  exact ⟨⟨F.st.kind, ⟨m, hn, fun y d e1 e2 => by cases e1⟩, fun y d e1 e2 => by cases e1⟩, F.base, F.out, F.same, F.cells, F.cellIn, F.apart, F.plain⟩

theorem Fx.rebase (F : Fx B s0 env σ s) (h : ∀ b o, B' b o → B b o ∨ (s.heap.get? b = some o ∧ Quiet o)) : Fx B' s0 env σ s := by
  obtain ⟨m, hn, hm⟩ := F.st.loc
  refine ⟨F.st, fun b o e => (h b o e).elim (F.base b o) (·.1), fun o e => ?_, F.same, fun y c e => ⟨(F.cells y c e).1, fun o e' => ?_⟩, F.cellIn, F.apart, F.plain⟩
  · rcases h _ _ e with e | ⟨e, q⟩
    · exact F.out o e
    · obtain ⟨o', es, ep, h1, h2, _⟩ := hn
      rw [e] at h1; cases h1; exact q.1 _ _ h2
  · rcases h _ _ e' with e' | ⟨e', q⟩
    · exact (F.cells y c e).2 o e'
    · obtain ⟨⟨v0, o', h1, h2⟩, _⟩ := F.cells y c e
      rw [e'] at h1; cases h1; exact q.2.1 _ h2

/-- one object, no frame, no cell, no list, moves -/
theorem Fx.iter {I : Addr} {o : Obj} {ws : Array Value} {h' : Heap} {tk : Nat} (F : Fx B s0 env σ s) (ho : s.heap.get? I = some o) (hd : o.data = .fields ws) (hB : ∀ o, ¬ B I o)
    (k : ∀ b o, b ≠ I → s.heap.get? b = some o → h'.get? b = some o) : Fx B s0 env σ { s with heap := h', toks := tk } := by
  have nd : ∀ es n, o.data ≠ .dict es n := fun es n e => by rw [hd] at e; cases e
  have nc : ∀ v, o.data ≠ .cell v := fun v e => by rw [hd] at e; cases e
  have sl : SeqL s.heap h' := fun b o' T xs n e hc hd' => k b o' (by rintro rfl; rw [ho] at e; cases e; rw [hd] at hd'; cases hd') e
  have F0 : Fx B s0 env [] { s with heap := h', toks := tk } := by
    obtain ⟨m, hn, hm⟩ := F.st.loc
    have hn' : h'.Ns env.locals m := by
      obtain ⟨o', es, ep, h1, h2, h3⟩ := hn
      refine ⟨o', es, ep, k _ _ ?_ h1, h2, h3⟩
      rintro e'; rw [e'] at h1; rw [ho] at h1; cases h1; exact nd _ _ h2
    obtain ⟨h0, tk0, e0⟩ := F.same
    refine ⟨⟨F.st.kind, ⟨m, hn', fun y d e1 e2 => by cases e1⟩, fun y d e1 e2 => by cases e1⟩, fun b o' e => k b o' (by rintro rfl; exact hB _ e) (F.base b o' e), F.out, ⟨h', tk, by rw [e0]⟩, fun y c e => ?_, F.cellIn, F.apart, F.plain⟩
    obtain ⟨⟨v0, o', h1, h2⟩, hc⟩ := F.cells y c e
    refine ⟨⟨v0, o', k _ _ ?_ h1, h2⟩, hc⟩
    rintro e'; rw [e'] at h1; rw [ho] at h1; cases h1; exact nc _ h2
  refine F0.with fun y d e hk => ?_
  obtain ⟨v, hv, q⟩ := F.holds e hk
  exact ⟨v, hv.at ho nd nc k, den_seqL sl q⟩

/-- a value goes into a name: what stays -/
theorem Fx.store0 {y : Str} {v : Value} {E : Value → Shared → Prop} {Q : Unit → Shared → Prop} (F : Fx B s0 env [] s) (hk : env.kindOf y = some .local ∨ env.kindOf y = some .cell)
    (h : ∀ s', Fx B s0 env [] s' → SeqUp s.heap s'.heap → (∀ a o, s.heap.get? a = none → s'.heap.get? a = some o → False) → Holds env s'.heap y v → (∀ z v', z ≠ y → Holds env s.heap z v' → Holds env s'.heap z v') → Q () s') : wpAny (model prog w) A (storeName env y v) Q E s := by
  obtain ⟨h0, tk0, e0⟩ := F.same
  obtain ⟨m, hn, hm⟩ := F.st.loc
  rcases hk with hk | hk
  · refine wpAny_storeName_local hk hn (fun h' hn' hs => ?_) F.plain
    have sq := seqUp_ns hn hs
    have cellK : ∀ c v0, s.heap.IsCell c v0 → h'.IsCell c v0 := fun c v0 q => by
      have := cell_ne_ns hn q
      obtain ⟨o, ho, r⟩ := q; exact ⟨o, (hs.2 c this).trans ho, r⟩
    refine h _ ⟨⟨F.st.kind, ⟨_, hn', fun y d' e1 e2 => by cases e1⟩, fun y d' e1 e2 => by cases e1⟩, up_same F.base F.out hs, F.out, ⟨h', s.toks + 1, by rw [e0]⟩, fun z c e => ?_, F.cellIn, F.apart, F.plain⟩ sq ?_ (.inl ⟨hk, _, hn', by simp⟩) fun z v' hz hv => ?_
    · obtain ⟨⟨v0, q⟩, r⟩ := F.cells z c e
      exact ⟨⟨v0, cellK _ _ q⟩, r⟩
    · intro a o e1 e2
      by_cases ha : a = env.locals
      · subst ha; obtain ⟨o', _, _, h1, _⟩ := hn; rw [h1] at e1; cases e1
      · have := (hs.2 a ha).symm.trans e2; rw [e1] at this; cases this
    · rcases hv with ⟨a, m', n, e⟩ | ⟨a, c, e, n⟩
      · rw [ns_uniq n hn] at e; exact .inl ⟨a, _, hn', by simp [hz, e]⟩
      · exact .inr ⟨a, c, e, cellK _ _ n⟩
  · obtain ⟨c, hc⟩ := F.cellIn y hk
    obtain ⟨⟨v0, hv0⟩, hcb⟩ := F.cells y c hc
    refine wpAny_storeName_cell F.st.kind hk hc hv0 fun h' hc' hs => ?_
    have sq := seqUp_cell hv0 hs
    have hLc : env.locals ≠ c := fun e => cell_ne_ns hn hv0 e.symm
    have hn' : h'.Ns env.locals m := hn.at fun o e => (hs.2 _ hLc).trans e
    refine h _ ⟨⟨F.st.kind, ⟨m, hn', fun y d' e1 e2 => by cases e1⟩, fun y d' e1 e2 => by cases e1⟩, up_same F.base hcb hs, F.out, ⟨h', s.toks, by rw [e0]⟩, fun z c' e => ?_, F.cellIn, F.apart, F.plain⟩ sq ?_ (.inr ⟨hk, c, hc, hc'⟩) fun z v' hz hv => ?_
    · by_cases hcc : c' = c
      · subst hcc; exact ⟨⟨_, hc'⟩, (F.cells z _ e).2⟩
      · obtain ⟨⟨v0', q⟩, r⟩ := F.cells z c' e
        obtain ⟨o, ho, r'⟩ := q
        exact ⟨⟨v0', ⟨o, (hs.2 c' hcc).trans ho, r'⟩⟩, r⟩
    · intro a o e1 e2
      by_cases ha : a = c
      · subst ha; obtain ⟨o', h1, _⟩ := hv0; rw [h1] at e1; cases e1
      · have := (hs.2 a ha).symm.trans e2; rw [e1] at this; cases this
    · rcases hv with ⟨a, m', n, e⟩ | ⟨a, c', e, n⟩
      · rw [ns_uniq n hn] at e; exact .inl ⟨a, m, hn', e⟩
      · have hcc : c' ≠ c := fun e' => hz (F.apart z y c' e (e' ▸ hc))
        obtain ⟨o, ho, r'⟩ := n
        exact .inr ⟨a, c', e, ⟨o, (hs.2 c' hcc).trans ho, r'⟩⟩

/-! ## the changed list -/
theorem Fm.toFx {d : D} (M : Fm B s0 env pf x D0 vs σ s) (hd : Den s.heap (.ref D0) d) : Fx B s0 env ((x, d) :: σ) s := M.fx.with fun y d' e hk => by
  rw [List.lookup_cons] at e
  by_cases hy : y = x
  · subst hy; simp at e; subst e; exact ⟨_, M.var, hd⟩
  · have hb' : (y == x) = false := beq_eq_false_iff_ne.mpr hy
    rw [hb'] at e
    obtain ⟨v, hv, q⟩ := M.others y d' e hk hy
    exact ⟨v, hv, den_seqL (del_le _ _) q⟩
theorem Fm.toInts {ns : List Int} (M : Fm B s0 env pf x D0 vs σ s) (hi : IntsAre vs ns) : Fx B s0 env ((x, .il ns) :: σ) s := M.toFx ⟨_, vs, rfl, M.pl.isList, hi⟩
theorem Fm.keeps {s' : Shared} (M : Fm B s0 env pf x D0 vs σ s) (k : Keeps s s') : Fm B s0 env pf x D0 vs σ s' := by
  have u := keeps_up k
  refine ⟨M.fx.keeps k, fun y d e hk hy => ?_, M.var.up u, M.pl.at fun o => u _ o, M.new⟩
  obtain ⟨v, hv, q⟩ := M.others y d e hk hy
  exact ⟨v, hv.up u, den_seqL (del_l fun b o T xs n hb e _ _ => u b o e) q⟩
theorem Fm.rebase (M : Fm B s0 env pf x D0 vs σ s) (h : ∀ b o, B' b o → B b o ∨ (b ≠ D0 ∧ s.heap.get? b = some o ∧ Quiet o)) : Fm B' s0 env pf x D0 vs σ s :=
  ⟨M.fx.rebase fun b o e => (h b o e).imp id (·.2), M.others, M.var, M.pl, fun o e => (h _ o e).elim (M.new o) fun q => q.1 rfl⟩
theorem Fm.iter {I : Addr} {o : Obj} {ws : Array Value} {h' : Heap} {tk : Nat} (M : Fm B s0 env pf x D0 vs σ s) (ho : s.heap.get? I = some o) (hd : o.data = .fields ws) (hB : ∀ o, ¬ B I o)
    (k : ∀ b o, b ≠ I → s.heap.get? b = some o → h'.get? b = some o) : Fm B s0 env pf x D0 vs σ { s with heap := h', toks := tk } := by
  have nd : ∀ es n, o.data ≠ .dict es n := fun es n e => by rw [hd] at e; cases e
  have nc : ∀ v, o.data ≠ .cell v := fun v e => by rw [hd] at e; cases e
  refine ⟨M.fx.iter ho hd hB k, fun y d e hk hy => ?_, M.var.at ho nd nc k, M.pl.at fun o' e => k _ _ ?_ e, M.new⟩
  · obtain ⟨v, hv, q⟩ := M.others y d e hk hy
    exact ⟨v, hv.at ho nd nc k, den_seqL (del_l fun b o' T xs n hb e hc hd' => k b o' (by rintro rfl; rw [ho] at e; cases e; rw [hd] at hd'; cases hd') e) q⟩
  · obtain ⟨o2, n, h1, h2, h3⟩ := M.pl.obj
    rintro rfl; rw [ho] at h1; cases h1; rw [hd] at h3; cases h3

/-- a name takes a value whose datum does not hang on the changed list -/
theorem Fm.store {y : Str} {v : Value} {d : D} {E : Value → Shared → Prop} {Q : Unit → Shared → Prop} (M : Fm B s0 env pf x D0 vs σ s) (hk : env.kindOf y = some .local ∨ env.kindOf y = some .cell) (hyx : y ≠ x)
    (hd : Den (del s.heap D0) v d) (h : ∀ s', Fm B s0 env pf x D0 vs ((y, d) :: σ) s' → SeqUp s.heap s'.heap → Q () s') : wpAny (model prog w) A (storeName env y v) Q E s := by
  refine M.fx.store0 hk fun s' F' sq _ hv ho => ?_
  obtain ⟨o2, n2, h1, h2, h3⟩ := M.pl.obj
  have dl : SeqL (del s.heap D0) (del s'.heap D0) := del_l fun b o T xs n hb e hc hd' => sq b o e (quiet_seq hc hd')
  refine h s' ⟨F', fun z d' e hkz hz => ?_, ho _ _ (Ne.symm hyx) M.var, M.pl.at fun o e => sq _ _ e ?_, M.new⟩ sq
  · rw [List.lookup_cons] at e
    by_cases hzy : z = y
    · subst hzy; simp at e; subst e; exact ⟨v, hv, den_seqL dl hd⟩
    · have hb' : (z == y) = false := beq_eq_false_iff_ne.mpr hzy
      rw [hb'] at e
      obtain ⟨v', hv', q⟩ := M.others z d' e hkz hz
      exact ⟨v', ho _ _ hzy hv', den_seqL dl q⟩
  · rw [h1] at e; cases e; exact quiet_seq h2 h3
end
end Mine
end

section
open PySem PySem.Calls PyProof.Rows
namespace Mine

section
variable {prog : Program} {w : World} {A : Around} {env : Env} {s s0 : Shared} {σ : List (Str × D)} {mg mb : Str → Option Value} {B B' : Addr → Obj → Prop} {pf : Bool} {x : Str} {D0 : Addr} {vs : List Value}

/-- an expression that makes a new list -/
def EvF (prog : Program) (w : World) (A : Around) (env : Env) (s : Shared) (e : Expr) (pf : Bool) (ψ : Heap → List Value → Prop) : Prop :=
  ∀ s', Keeps s s' → ∀ E, wpAny (model prog w) A (eval e env) (fun v s'' => Keeps s' s'' ∧ ∃ a vs, v = .ref a ∧ s'.heap.get? a = none ∧ Lk pf s''.heap a vs ∧ ψ s''.heap vs) E s'
theorem none_size (h : Heap) : h.get? h.objs.size = none := by
  cases hq : h.get? h.objs.size with
  | none => rfl
  | some o' => exact absurd (Heap.lt_size hq) (Nat.lt_irrefl _)
theorem none_before {h h' : Heap} (u : Up h h') {a : Addr} (e : h'.get? a = none) : h.get? a = none := by
  cases hq : h.get? a with
  | none => rfl
  | some o' => rw [u _ _ hq] at e; cases e

theorem EvF.disp {es : List Expr} {pos : Pos} {ds : List D} (h : Evs prog w A env s pos es ds) (hsz : ds.length ≤ sizeLine) :
    EvF prog w A env s (.List es pos) true fun h vs => DenAll h vs ds := fun s' k E => by
  refine List_ (wpAny_mono (h s' k E) (fun vs s₁ q => ?_) fun _ _ q => q)
  obtain ⟨k₁, hl, hd⟩ := q
  refine wpAny_newObj_type ⟨keeps_trans k₁ (keeps_push _ _), _, vs, rfl, none_before (keeps_up k₁) (none_size _), ⟨0, Heap.get?_push_size _ rfl⟩, hl, fun j v d e1 e2 => den_up (up_push _ _) (hd j v d e1 e2)⟩ ?_
  show vs.toArray.size ≤ sizeLine
  rw [List.size_toArray, hl]; exact hsz

/-- the name x takes the new list -/
theorem Fx.assignNew {p p2 : Pos} {e : Expr} {rest : List Stmt} {ψ : Heap → List Value → Prop} {E : Value → Shared → Prop} {Q : Flow → Shared → Prop} (F : Fx B s0 env σ s) (he : EvF prog w A env s e pf ψ)
    (hk : env.kindOf x = some .local ∨ env.kindOf x = some .cell) (hs : swapsWith e (some (.Name x p)) p2.line env = pure false)
    (h : ∀ a vs s₁ s', Keeps s s₁ → ψ s₁.heap vs → SeqUp s₁.heap s'.heap → s.heap.get? a = none → Fm B s0 env pf x a vs σ s' → wpAny (model prog w) A (execs rest env) Q E s') :
    wpAny (model prog w) A (execs (.Assign [.Name x p] e p2 :: rest) env) Q E s := by
  refine wpAny_execs_cons (wpAny_Assign_Name (hs := hs) (wpAny_mono (he s (keeps_refl _) E) (fun v s₁ q => ?_) fun _ _ q => q))
  obtain ⟨k₁, a, vs, rfl, hn, hL, hψ⟩ := q
  refine (F.keeps k₁).drop.store0 hk fun s' F' sq _ hv ho => h a vs s₁ s' k₁ hψ sq hn ⟨F', fun y d e hky hy => ?_, hv, ?_, fun o e => ?_⟩
  · obtain ⟨v', hv', q⟩ := F.holds e hky
    refine ⟨v', ho _ _ hy (hv'.up (keeps_up k₁)), den_seqL (fun b o T xs n e1 e2 e3 => ?_) q⟩
    have hb : b ≠ a := by rintro rfl; rw [hn] at e1; cases e1
    exact (del_other hb).trans (sq b o (keeps_up k₁ _ _ e1) (quiet_seq e2 e3))
  · obtain ⟨o2, n2, h1, h2, h3⟩ := hL.obj
    exact hL.at fun o e => sq _ _ e (by rw [h1] at e; cases e; exact quiet_seq h2 h3)
  · have := F.base _ _ e; rw [hn] at this; cases this

/-- the list changes in its place -/
theorem Fm.change {pf' : Bool} {ws : List Value} {h' : Heap} {tk : Nat} (M : Fm B s0 env pf x D0 vs σ s) (hL : Lk pf' h' D0 ws) (hs : Heap.SameBut D0 s.heap h') : Fm B s0 env pf' x D0 ws σ { s with heap := h', toks := tk } := by
  obtain ⟨o, n, h1, h2, h3⟩ := M.pl.obj
  have nd : ∀ es n, o.data ≠ .dict es n := fun es n e => by rw [h3] at e; cases e
  have nc : ∀ v, o.data ≠ .cell v := fun v e => by rw [h3] at e; cases e
  have k : ∀ b o, b ≠ D0 → s.heap.get? b = some o → h'.get? b = some o := fun b o hb e => (hs.2 b hb).trans e
  have F0 : Fx B s0 env [] { s with heap := h', toks := tk } := by
    obtain ⟨m, hn, hm⟩ := M.fx.st.loc
    obtain ⟨h0, tk0, e0⟩ := M.fx.same
    have hn' : h'.Ns env.locals m := by
      obtain ⟨o', es, ep, h1', h2', h3'⟩ := hn
      refine ⟨o', es, ep, k _ _ ?_ h1', h2', h3'⟩
      rintro e'; rw [e'] at h1'; rw [h1] at h1'; cases h1'; exact nd _ _ h2'
    refine ⟨⟨M.fx.st.kind, ⟨m, hn', fun y d e1 e2 => by cases e1⟩, fun y d e1 e2 => by cases e1⟩, fun b o' e => k b o' (by rintro rfl; exact M.new _ e) (M.fx.base b o' e), M.fx.out, ⟨h', tk, by rw [e0]⟩, fun y c e => ?_, M.fx.cellIn, M.fx.apart, M.fx.plain⟩
    obtain ⟨⟨v0, o', h1', h2'⟩, hc⟩ := M.fx.cells y c e
    refine ⟨⟨v0, o', k _ _ ?_ h1', h2'⟩, hc⟩
    rintro e'; rw [e'] at h1'; rw [h1] at h1'; cases h1'; exact nc _ h2'
  refine ⟨F0, fun y d e hk hy => ?_, M.var.at h1 nd nc k, hL, M.new⟩
  obtain ⟨v, hv, q⟩ := M.others y d e hk hy
  exact ⟨v, hv.at h1 nd nc k, den_seqL (del_l fun b o T xs n hb e _ _ => k b o hb e) q⟩

/-- all but one object stay -/
def SeqBut (a : Addr) (h h' : Heap) : Prop := ∀ b o, b ≠ a → h.get? b = some o → Quiet o → h'.get? b = some o
theorem SeqBut.refl (a : Addr) (h : Heap) : SeqBut a h h := fun _ _ _ e _ => e
theorem SeqBut.trans {a : Addr} {h₁ h₂ h₃ : Heap} (x : SeqBut a h₁ h₂) (y : SeqBut a h₂ h₃) : SeqBut a h₁ h₃ := fun b o hb e q => y b o hb (x b o hb e q) q
theorem SeqUp.but {a : Addr} {h h' : Heap} (x : SeqUp h h') : SeqBut a h h' := fun b o _ e q => x b o e q
theorem sameBut_seq {a : Addr} {h h' : Heap} (x : Heap.SameBut a h h') : SeqBut a h h' := fun b o hb e _ => (x.2 b hb).trans e
theorem SeqBut.l {a : Addr} {h h' : Heap} (x : SeqBut a h h') : SeqL (del h a) (del h' a) := del_l fun b o T xs n hb e hc hd => x b o hb e (quiet_seq hc hd)

/-- a method call reads as its text -/
def MethOk (env : Env) (o : Expr) (name : Str) (apos : Pos) (args : List Expr) (pos : Pos) : Prop :=
  ∃ pl, eval (.Call (.Attribute o name apos) args [] pos) env = (do
      let ov ← eval o env
      standAt apos.atName
      let (f, first) ← holding [ov] (getMethod ov name pl)
      callWith pos f first (backTo pos (starEach args env)) [])

/-- x.append(e) -/
theorem Fm.append {p pa p1 p2 : Pos} {e : Expr} {rest : List Stmt} {Φ : Shared → Value → Prop} {d0 : D} {E : Value → Shared → Prop} {Q : Flow → Shared → Prop} (M : Fm B s0 env true x D0 vs σ s) (hl : vs.length < sizeLine)
    (he : EvP prog w A env s e Φ) (hk : env.kindOf x = some .local ∨ env.kindOf x = some .cell) (hd : (x == ("__debug__" : Str)) = false)
    (h2 : starEach [e] env = (false, eval e env) :: starEach [] env) (hm : MethOk env (.Name x p) (Str.ofString "append") pa [e] p1)
    (hi : interactive env = false) (hsw : swapsWith (.Call (.Attribute (.Name x p) (Str.ofString "append") pa) [e] [] p1) none p2.line env = pure false)
    (h : ∀ v s₁ s', Keeps s s₁ → Φ s₁ v → SeqBut D0 s₁.heap s'.heap → Fm B s0 env true x D0 (vs ++ [v]) σ s' → wpAny (model prog w) A (execs rest env) Q E s') :
    wpAny (model prog w) A (execs (.Expr (.Call (.Attribute (.Name x p) (Str.ofString "append") pa) [e] [] p1) p2 :: rest) env) Q E s := by
  have nm : ∀ s', Keeps s s' → ∀ (E : Value → Shared → Prop) (Q : Value → Shared → Prop), Q (.ref D0) s' → wpAny (model prog w) A (eval (.Name x p) env) Q E s' := fun s' k E Q hq => by
    rcases (M.keeps k).var with ⟨a, m, hn, e⟩ | ⟨a, c, e, hc⟩
    · exact wpAny_Name (wpAny_loadName_local M.fx.st.kind a hn e hq) hd
    · exact wpAny_Name (wpAny_loadName_cell M.fx.st.kind a e hc hq) hd
  obtain ⟨pl, hm⟩ := hm
  refine wpAny_execs_cons (wpAny_Expr_any (hi := hi) (hs := hsw) (MethodCall_ (he := hm) (nm s (keeps_refl _) _ _ ?_)))
  obtain ⟨n, hp⟩ := (show s.heap.PlainList D0 vs.toArray from M.pl)
  refine getMethod_list_append hp rfl rfl (callWith_method1 (he := h2) (hplain := rfl) ?_)
  refine spliced_more (he := h2) (wpAny_mono (he s (keeps_refl _) E) (fun v s₁ q => ?_) fun _ _ q => q)
  obtain ⟨k₁, hv⟩ := q
  refine spliced_none ?_
  show wpAny _ _ (call (.builtin "list.append") [.ref D0, v]) _ _ _
  refine wpAny_list_append_plain (hsz := by rw [List.size_toArray]; omega) ⟨n, keeps_up k₁ _ _ hp⟩ fun h' hp' hs' => ?_
  refine h v s₁ _ k₁ hv (sameBut_seq hs') ((M.keeps k₁).change (tk := s₁.toks) ?_ hs')
  show h'.PlainList D0 (vs ++ [v]).toArray
  simpa using hp'

/-- x[i] = e -/
theorem Fm.setItem {p p1 p2 : Pos} {i e : Expr} {rest : List Stmt} {k : Int} {d : D} {E : Value → Shared → Prop} {Q : Flow → Shared → Prop} (M : Fm B s0 env pf x D0 vs σ s)
    (he : Ev prog w A env s e d) (hi : Ev prog w A env s i (.int k)) (h0 : 0 ≤ k) (h1 : k < vs.length) (hl : vs.length ≤ sizeLine) (hk : env.kindOf x = some .local ∨ env.kindOf x = some .cell) (hd : (x == ("__debug__" : Str)) = false)
    (hsw : swapsWith e (some (.Subscript (.Name x p) i p1)) p2.line env = pure false)
    (h : ∀ v s₁ s', Keeps s s₁ → Den s₁.heap v d → SeqBut D0 s₁.heap s'.heap → Fm B s0 env false x D0 (vs.set k.toNat v) σ s' → wpAny (model prog w) A (execs rest env) Q E s') :
    wpAny (model prog w) A (execs (.Assign [.Subscript (.Name x p) i p1] e p2 :: rest) env) Q E s := by
  refine wpAny_execs_cons (wpAny_Assign_Subscript (hs := hsw) (ev_then he (keeps_refl _) fun v s₁ k₁ d₁ => ?_))
  have nm : ∀ (E : Value → Shared → Prop) (Q : Value → Shared → Prop), Q (.ref D0) s₁ → wpAny (model prog w) A (eval (.Name x p) env) Q E s₁ := fun E Q hq => by
    rcases (M.keeps k₁).var with ⟨a, m, hn, e⟩ | ⟨a, c, e, hc⟩
    · exact wpAny_Name (wpAny_loadName_local M.fx.st.kind a hn e hq) hd
    · exact wpAny_Name (wpAny_loadName_cell M.fx.st.kind a e hc hq) hd
  refine nm _ _ (ev_then hi k₁ fun j s₂ k₂ d₂ => ?_)
  obtain ⟨t, rfl⟩ := d₂
  have M₂ := M.keeps (keeps_trans k₁ k₂)
  have hs := sizeLine_lt
  refine wpAny_setItem_list M₂.pl.isList h0 (by omega) (by rw [List.size_toArray]; exact h1) fun h' hL hs' => ?_
  refine h v s₂ _ (keeps_trans k₁ k₂) (den_keeps k₂ d₁) (sameBut_seq hs') (M₂.change (pf' := false) (tk := s₂.toks) ?_ hs')
  show h'.IsList D0 (vs.set k.toNat v).toArray
  simpa using hL

def Weak (σ' σ : List (Str × D)) : Prop := ∀ y d, σ'.lookup y = some d → σ.lookup y = some d
theorem weak_nil {σ : List (Str × D)} : Weak [] σ := fun y d e => by cases e
theorem weak_cons {σ σ' : List (Str × D)} {y : Str} {d : D} (h : σ.lookup y = some d) (k : Weak σ' σ) : Weak ((y, d) :: σ') σ := fun z d' e => by
  rw [List.lookup_cons] at e
  by_cases hy : z = y
  · subst hy; simp at e; subst e; exact h
  · have hb' : (z == y) = false := beq_eq_false_iff_ne.mpr hy
    rw [hb'] at e; exact k z d' e
theorem Fm.weak {σ' : List (Str × D)} (M : Fm B s0 env pf x D0 vs σ s) (h : Weak σ' σ) : Fm B s0 env pf x D0 vs σ' s :=
  ⟨M.fx, fun y d e hk hy => M.others y d (h y d e) hk hy, M.var, M.pl, M.new⟩
theorem Fx.weak {σ' : List (Str × D)} (F : Fx B s0 env σ s) (h : Weak σ' σ) : Fx B s0 env σ' s := F.drop.with fun y d e hk => F.holds (h y d e) hk

/-! ## while -/
theorem while_rule {test : Expr} {body rest : List Stmt} {p : Pos} {E : Value → Shared → Prop} {Q : Flow → Shared → Prop} (I : Nat → Shared → Prop) (Dn : Shared → Prop) {n : Nat} (h0 : I n s)
    (turn : ∀ n s, I n s → ∃ b, Ts prog w A env s test b ∧ (b = true → ∀ s', Keeps s s' → ∀ E', wpAny (model prog w) A (execs body env) (fun f s₃ => f = .next ∧ ∃ m, m < n ∧ I m s₃) E' s') ∧ (b = false → ∀ s', Keeps s s' → Dn s'))
    (hrest : ∀ s', Dn s' → wpAny (model prog w) A (execs rest env) Q E s') : wpAny (model prog w) A (execs (.While test body [] p :: rest) env) Q E s := by
  refine wpAny_execs_cons (wpAny_While (codeAny_whileLoop (fun n s => I n s) (fun n s hI => ?_) n h0))
  obtain ⟨b, hT, h1, h2⟩ := turn n s hI
  refine ts_then hT (keeps_refl _) fun s' k => ?_
  cases b with
  | true =>
    rw [if_pos rfl]
    refine wpAny_mono (h1 rfl s' k _) (fun f s₃ q => ?_) fun _ _ q => q
    obtain ⟨rfl, q⟩ := q
    exact q
  | false =>
    rw [if_neg (by simp)]
    exact wpAny_execs_nil (hrest s' (h2 rfl s' k))
end
end Mine
end

section
open PySem PySem.Calls PyProof.Rows
namespace Mine

section
variable {prog : Program} {w : World} {A : Around} {env : Env} {s s0 : Shared} {σ : List (Str × D)} {mg mb : Str → Option Value} {B B' : Addr → Obj → Prop} {pf : Bool} {x : Str} {D0 : Addr} {vs : List Value}

theorem for_core {px : Pos} {body : List Stmt} {R : Result → Shared → Prop} {I : Addr} {fp : List Addr} {n : Nat} {Pv : Nat → Value → Prop} {S : Nat → Heap → Prop} (W : Walks prog w A I fp [I] n Pv S)
    (hq : ∀ i h, S i h → ∀ b ∈ fp, ∃ o, h.get? b = some o ∧ Quiet o) (hI : ∀ i h, S i h → ∃ o ws, h.get? I = some o ∧ o.data = .fields ws)
    (inv : (Addr → Obj → Prop) → Nat → Shared → Prop)
    (hbase : ∀ B i s, inv B i s → BIn B s.heap)
    (hadd : ∀ B B' i j s, inv B i s → S j s.heap → (∀ b o, B' b o → B b o ∨ (b ∈ fp ∧ s.heap.get? b = some o ∧ Quiet o)) → inv B' i s)
    (hiter : ∀ B i s h' tk o ws, inv B i s → s.heap.get? I = some o → o.data = .fields ws → (∀ o, ¬ B I o) → (∀ b o, b ≠ I → s.heap.get? b = some o → h'.get? b = some o) → inv B i { s with heap := h', toks := tk })
    (hturn : ∀ B' i v s E', (∀ b o, B b o → B' b o) → i < n → Pv i v → inv B' i s →
      wpAny (model prog w) A (storeName env x v) (fun _ s1 => wpAny (model prog w) A (execs body env) (fun f s2 => f = .next ∧ inv B' (i + 1) s2) E' s1) E' s)
    (hIB : ∀ o, ¬ B I o) (h0 : inv B 0 s) (hst : S 0 s.heap) (hdone : ∀ s', inv B n s' → R (.ok .next) s') :
    codeAny (model prog w) A (.forLoop (.Name x px) (.ref I) body [] env) R s := by
  refine codeAny_forLoop_any (fun m s => ∃ i, i ≤ n ∧ m = n + 1 - i ∧ S i s.heap ∧ inv B i s) ?_ (n + 1) ⟨0, Nat.zero_le _, by omega, hst, h0⟩
  rintro m s ⟨i, hi, rfl, hSt, hinv⟩
  obtain ⟨oI, ws, hoI, hdI⟩ := hI i _ hSt
  by_cases hlt : i < n
  · refine W.item i s _ _ hlt hSt fun v h' tk hPv hSt' hk => ?_
    have hk' : ∀ b o, b ≠ I → s.heap.get? b = some o → h'.get? b = some o := fun b o hb e => hk b o (by simpa using hb) e
    have inv1 := hiter B i s h' tk oI ws hinv hoI hdI hIB hk'
    refine wpAny_of_eq (rfl : letOwnedTupleGo (.Name x px) (.ref I) v = pure ()) (wpAny_assign_Name ?_)
    let B2 : Addr → Obj → Prop := fun b o => B b o ∨ (b ∈ fp ∧ h'.get? b = some o ∧ Quiet o)
    have inv2 : inv B2 i { s with heap := h', toks := tk } := hadd B B2 i (i + 1) _ inv1 hSt' fun b o e => e
    refine wpAny_mono (hturn B2 i v _ _ (fun b o e => .inl e) hlt hPv inv2) (fun _ s1 q => wpAny_mono q (fun f s2 q2 => ?_) fun _ _ e => e) fun _ _ e => e
    obtain ⟨rfl, inv3⟩ := q2
    have hB := hbase B2 (i + 1) s2 inv3
    have hSt2 : S (i + 1) s2.heap := W.frame _ h' _ hSt' fun b hb o e => hB b o (.inr ⟨hb, e, by
      obtain ⟨o', e', q⟩ := hq _ _ hSt' b hb
      rw [e] at e'; cases e'; exact q⟩)
    exact ⟨n + 1 - (i + 1), by omega, i + 1, hlt, rfl, hSt2, hadd B2 B (i + 1) (i + 1) s2 inv3 hSt2 fun b o e => .inl (.inl e)⟩
  · have hin : i = n := by omega
    subst hin
    refine W.done s _ _ hSt fun h' tk hk => ?_
    exact wpAny_execs_nil (hdone _ (hiter B i s h' tk oI ws hinv hoI hdI hIB fun b o hb e => hk b o (by simpa using hb) e))

/-- for x in (a list of ints) -/
theorem for_list {px p : Pos} {iter : Expr} {body rest : List Stmt} {ns : List Int} {ok : Addr → Prop} {E : Value → Shared → Prop} {Q : Flow → Shared → Prop} (hh : A.handled = none)
    (he : EvP prog w A env s iter fun s v => ∃ a vs, v = .ref a ∧ s.heap.IsList a vs.toArray ∧ IntsAre vs ns ∧ ok a)
    (hfs : ∀ v, foldedSetIterable iter env v = pure v)
    (inv : (Addr → Obj → Prop) → Nat → Shared → Prop)
    (hbase : ∀ B i s, inv B i s → BIn B s.heap)
    (hadd : ∀ B B' i s, inv B i s → (∀ b o, B' b o → B b o ∨ (s.heap.get? b = some o ∧ Quiet o ∧ ((∃ ws, o.data = .fields ws) ∨ ok b))) → inv B' i s)
    (hiter : ∀ B i s h' tk I o ws, inv B i s → s.heap.get? I = some o → o.data = .fields ws → (∀ o, ¬ B I o) → (∀ b o, b ≠ I → s.heap.get? b = some o → h'.get? b = some o) → inv B i { s with heap := h', toks := tk })
    (hstart : ∀ s', Keeps s s' → inv B 0 s') (hBs : BIn B s.heap)
    (hturn : ∀ B' i v s t E', (∀ b o, B b o → B' b o) → i < ns.length → v = .int (ns.getD i 0) t → inv B' i s →
      wpAny (model prog w) A (storeName env x v) (fun _ s1 => wpAny (model prog w) A (execs body env) (fun f s2 => f = .next ∧ inv B' (i + 1) s2) E' s1) E' s)
    (hrest : ∀ s', inv B ns.length s' → wpAny (model prog w) A (execs rest env) Q E s') :
    wpAny (model prog w) A (execs (.For (.Name x px) iter body [] p :: rest) env) Q E s := by
  refine wpAny_execs_cons (wpAny_For (hs := hfs) (wpAny_mono (he s (keeps_refl _) E) (fun v s₁ q => ?_) fun _ _ q => q))
  obtain ⟨k₁, a, vs, rfl, hL, hi, hok⟩ := q
  refine wpAny_pyIter_list hL ?_
  have hlen := intsAre_len hi
  obtain ⟨oL, hoL, hcL, nL, hdL⟩ := id hL
  have hlt : a < s₁.heap.objs.size := Heap.lt_size hoL
  have hne : a ≠ s₁.heap.objs.size := Nat.ne_of_lt hlt
  refine for_core (B := B) (I := s₁.heap.objs.size) (Walks.list hh s₁.heap.objs.size a hne vs.toArray) ?_ ?_ inv hbase ?_ (fun B i s h' tk o ws => hiter B i s h' tk s₁.heap.objs.size o ws) ?_ ?_ (hstart _ (keeps_trans k₁ (keeps_push _ _))) ⟨⟨_, Heap.get?_push_size _ rfl, rfl, rfl⟩, hL.push _⟩ fun s' hs' => ?_
  · rintro i h ⟨⟨o, ho, hc, hd⟩, ⟨o', ho', hc', n', hd'⟩⟩ b hb
    rcases List.mem_cons.mp hb with rfl | hb
    · exact ⟨o, ho, quiet_fields hc hd⟩
    · rcases List.mem_cons.mp hb with rfl | hb
      · exact ⟨o', ho', quiet_seq hc' hd'⟩
      · cases hb
  · rintro i h ⟨⟨o, ho, hc, hd⟩, _⟩; exact ⟨o, _, ho, hd⟩
  · rintro B B' i j s hinv ⟨⟨o, ho, hc, hd⟩, _⟩ hB
    refine hadd B B' i s hinv fun b o' e => ?_
    rcases hB b o' e with q | ⟨hb, e', q⟩
    · exact .inl q
    · refine .inr ⟨e', q, ?_⟩
      rcases List.mem_cons.mp hb with rfl | hb
      · rw [ho] at e'; cases e'; exact .inl ⟨_, hd⟩
      · rcases List.mem_cons.mp hb with rfl | hb
        · exact .inr hok
        · cases hb
  · intro B' i v s E' hB hi' hv hinv
    have hi2 : i < ns.length := by rw [← hlen]; simpa using hi'
    obtain ⟨t, ht⟩ := intsAre_get hi i hi2
    have : v = .int (ns.getD i 0) t := by
      have e1 : vs[i]? = some v := by simpa using hv
      rw [ht] at e1; exact (Option.some.inj e1).symm
    exact hturn B' i v s t E' hB hi2 this hinv
  · intro o e
    have := keeps_up k₁ _ _ (hBs _ _ e)
    exact absurd (Heap.lt_size this) (Nat.lt_irrefl _)
  · rw [List.size_toArray, hlen] at hs'; exact hrest s' hs'

/-- an expression that makes a range -/
def EvR (prog : Program) (w : World) (A : Around) (env : Env) (s : Shared) (e : Expr) (a b : Int) : Prop :=
  EvP prog w A env s e fun s'' v => ∃ r t u t', v = .ref r ∧ IsRange s''.heap r a b 1 t u t'

theorem EvR.one {y : Str} {e : Expr} {p pos : Pos} {b : Int} (N : EnvG env) (G : Gx mg mb s.heap) (hm : mg y = none) (hb : bootBuiltins y = some (.type "range"))
    (he : Ev prog w A env s e (.int b)) (hx : env.kindOf y = some .globalImplicit) (hn : y ≠ "__name__") (hd : (y == ("__debug__" : Str)) = false)
    (h2 : starEach [e] env = (false, eval e env) :: starEach [] env) : EvR prog w A env s (.Call (.Name y p) [e] [] pos) 0 b := fun s' k E => by
  refine Call_ (he := rfl) (name_builtin N (G.up (keeps_up k)) hm hb hx hn hd (Pv.callWith_type1 (he := h2) (hplain := rfl) (den_one (Evs.cons he .nil h2) k fun v s₁ k₁ d₁ => ?_)))
  obtain ⟨t, rfl⟩ := d₁
  refine call_range_1 ⟨keeps_trans k₁ (keeps_heap _ _ (up_push _ _)), _, _, _, _, rfl, IsRange.new ..⟩
theorem EvR.two {y : Str} {e1 e2 : Expr} {p pos : Pos} {a b : Int} (N : EnvG env) (G : Gx mg mb s.heap) (hm : mg y = none) (hb : bootBuiltins y = some (.type "range"))
    (he1 : Ev prog w A env s e1 (.int a)) (he2 : Ev prog w A env s e2 (.int b)) (hx : env.kindOf y = some .globalImplicit) (hn : y ≠ "__name__") (hd : (y == ("__debug__" : Str)) = false)
    (h1 : starEach [e1, e2] env = (false, eval e1 env) :: starEach [e2] env) (h2 : starEach [e2] env = (false, eval e2 env) :: starEach [] env) (hpl : (backTo pos (starEach [e2] env)).any (·.1) = false) : EvR prog w A env s (.Call (.Name y p) [e1, e2] [] pos) a b := fun s' k E => by
  refine Call_ (he := rfl) (name_builtin N (G.up (keeps_up k)) hm hb hx hn hd (Pv.callWith_type1 (he := h1) (hplain := hpl) (spliced_more (he := h1) (ev_then he1 k fun v s₁ k₁ d₁ =>
    (den_one (Evs.cons he2 .nil h2) (keeps_trans k k₁) fun v2 s₂ k₂ d₂ => ?_)))))
  obtain ⟨t, rfl⟩ := d₁
  obtain ⟨u, rfl⟩ := d₂
  refine call_range_2 ⟨keeps_trans (keeps_trans k₁ k₂) (keeps_heap _ _ (up_push _ _)), _, _, _, _, rfl, IsRange.new ..⟩

/-- for x in range(..) -/
theorem for_range {px p : Pos} {iter : Expr} {body rest : List Stmt} {a b : Int} {n : Nat} {E : Value → Shared → Prop} {Q : Flow → Shared → Prop} (hh : A.handled = none)
    (he : EvR prog w A env s iter a b) (ha : -(2 ^ 62) ≤ a) (ha' : a < 2 ^ 62) (hb : -(2 ^ 62) ≤ b) (hb' : b < 2 ^ 62) (hn : n = (b - a).toNat)
    (hfs : ∀ v, foldedSetIterable iter env v = pure v)
    (inv : (Addr → Obj → Prop) → Nat → Shared → Prop)
    (hbase : ∀ B i s, inv B i s → BIn B s.heap)
    (hadd : ∀ B B' i s, inv B i s → (∀ b o, B' b o → B b o ∨ (s.heap.get? b = some o ∧ Quiet o ∧ ∃ ws, o.data = .fields ws)) → inv B' i s)
    (hiter : ∀ B i s h' tk I o ws, inv B i s → s.heap.get? I = some o → o.data = .fields ws → (∀ o, ¬ B I o) → (∀ b o, b ≠ I → s.heap.get? b = some o → h'.get? b = some o) → inv B i { s with heap := h', toks := tk })
    (hstart : ∀ s', Keeps s s' → inv B 0 s') (hBs : BIn B s.heap)
    (hturn : ∀ B' i v s t E', (∀ b o, B b o → B' b o) → i < n → v = .int (a + (i : Nat)) t → inv B' i s →
      wpAny (model prog w) A (storeName env x v) (fun _ s1 => wpAny (model prog w) A (execs body env) (fun f s2 => f = .next ∧ inv B' (i + 1) s2) E' s1) E' s)
    (hrest : ∀ s', inv B n s' → wpAny (model prog w) A (execs rest env) Q E s') :
    wpAny (model prog w) A (execs (.For (.Name x px) iter body [] p :: rest) env) Q E s := by
  refine wpAny_execs_cons (wpAny_For (hs := hfs) (wpAny_mono (he s (keeps_refl _) E) (fun v s₁ q => ?_) fun _ _ q => q))
  obtain ⟨k₁, r, t, u, t', rfl, hR⟩ := q
  refine wpAny_pyIter_range hR (small_one ha ha' hb hb') ?_
  have hsz : Builtin.Range.rangeSize a b 1 = (n : Int) := by
    rw [rangeSize_one]; split <;> omega
  rw [hsz]
  refine for_core (B := B) (I := s₁.heap.objs.size) (Walks.range hh s₁.heap.objs.size a 1 n) ?_ ?_ inv hbase ?_ (fun B i s h' tk o ws => hiter B i s h' tk s₁.heap.objs.size o ws) ?_ ?_ (hstart _ (keeps_trans k₁ (keeps_push _ _))) ?_ fun s' hs' => hrest s' hs'
  · rintro i h ho b hb
    rcases List.mem_cons.mp hb with rfl | hb
    · exact ⟨_, ho, quiet_fields rfl rfl⟩
    · cases hb
  · rintro i h ho; exact ⟨_, _, ho, rfl⟩
  · rintro B B' i j s hinv ho hB
    refine hadd B B' i s hinv fun b o' e => ?_
    rcases hB b o' e with q | ⟨hb, e', q⟩
    · exact .inl q
    · refine .inr ⟨e', q, ?_⟩
      rcases List.mem_cons.mp hb with rfl | hb
      · rw [show s.heap.get? _ = some _ from ho] at e'; cases e'; exact ⟨_, rfl⟩
      · cases hb
  · rintro B' i v s E' hB hi' ⟨t, hv⟩ hinv
    exact hturn B' i v s t E' hB hi' (by rw [hv]; simp) hinv
  · intro o e
    have := keeps_up k₁ _ _ (hBs _ _ e)
    exact absurd (Heap.lt_size this) (Nat.lt_irrefl _)
  · show Heap.get? _ _ = some _
    rw [Heap.get?_push_size _ rfl]; simp
end
end Mine
end

section
open PySem PySem.Calls PyProof.Rows
namespace Mine
section
variable {prog : Program} {w : World} {A : Around} {env : Env} {s s0 : Shared} {σ : List (Str × D)} {mg mb : Str → Option Value} {B B' : Addr → Obj → Prop} {pf : Bool} {x : Str} {D0 : Addr} {vs : List Value}

def InOk (prog : Program) (w : World) (A : Around) (op : Operator) (d1 d2 d : D) : Prop :=
  ∀ (s : Shared) (a b : Value) (E : Value → Shared → Prop), Den s.heap a d1 → Den s.heap b d2 → wpAny (model prog w) A (inplaceOp op a b) (fun v s'' => Keeps s s'' ∧ Den s''.heap v d) E s
theorem in_xor {a b : Int} : InOk prog w A .BitXor (.int a) (.int b) (.int (Builtin.bitXor a b)) := by
  rintro s _ _ E ⟨t, rfl⟩ ⟨u, rfl⟩; exact ixor_int ⟨keeps_toks _ _, _, rfl⟩

theorem Fx.aug {p p2 : Pos} {op : Operator} {e : Expr} {rest : List Stmt} {d1 d2 d : D} {E : Value → Shared → Prop} {Q : Flow → Shared → Prop} (F : Fx B s0 env σ s) (hx : σ.lookup x = some d1) (hk : env.kindOf x = some .local)
    (he : Ev prog w A env s e d2) (ho : InOk prog w A op d1 d2 d)
    (h : ∀ s', Fx B s0 env ((x, d) :: σ) s' → wpAny (model prog w) A (execs rest env) Q E s') :
    wpAny (model prog w) A (execs (.AugAssign (.Name x p) op e p2 :: rest) env) Q E s := by
  obtain ⟨m, hn, hm⟩ := F.st.loc
  obtain ⟨v, ev, q⟩ := hm x d1 hx hk
  refine wpAny_execs_cons (wpAny_AugAssign_Name (wpAny_loadName_local F.st.kind hk hn ev (ev_then he (keeps_refl _) fun u s₁ k₁ d₁ =>
    wpAny_mono (ho s₁ v u E (den_keeps k₁ q) d₁) (fun r s₂ q => ?_) fun _ _ q => q)))
  exact (F.keeps (keeps_trans k₁ q.1)).store (.inl hk) q.2 fun s' F' _ _ => h s' F'

/-! invariants that are a frame -/
theorem fx_add {B B' : Addr → Obj → Prop} {ψ : Obj → Addr → Prop} (F : Fx B s0 env σ s) (h : ∀ b o, B' b o → B b o ∨ (s.heap.get? b = some o ∧ Quiet o ∧ ψ o b)) : Fx B' s0 env σ s :=
  F.rebase fun b o e => (h b o e).imp id fun q => ⟨q.1, q.2.1⟩
end
end Mine
namespace Mine
section
variable {prog : Program} {w : World} {A : Around} {env : Env} {s s0 : Shared} {σ : List (Str × D)} {mg mb : Str → Option Value} {B B' : Addr → Obj → Prop} {pf : Bool} {x : Str} {D0 : Addr} {vs : List Value}

theorem denAll_seq {h h' : Heap} (k : SeqUp h h') {vs : List Value} {ds : List D} (x : DenAll h vs ds) : DenAll h' vs ds := ⟨x.1, fun j v d e1 e2 => den_seq k (x.2 j v d e1 e2)⟩
theorem denAll_tail {h : Heap} {v : Value} {vs : List Value} {d : D} {ds : List D} (x : DenAll h (v :: vs) (d :: ds)) : DenAll h vs ds :=
  ⟨by have := x.1; simpa using this, fun j v d e1 e2 => x.2 (j + 1) v d (by simpa using e1) (by simpa using e2)⟩

def binds : List (Str × Pos) → List D → List (Str × D) → List (Str × D)
  | (x, _) :: xs, d :: ds, σ => binds xs ds ((x, d) :: σ)
  | _, _, σ => σ

theorem Fx.storeAll {E : Value → Shared → Prop} {Q : Unit → Shared → Prop} : ∀ (xs : List (Str × Pos)) (vs : List Value) (ds : List D) (σ : List (Str × D)) (s : Shared), Fx B s0 env σ s → (∀ x ∈ xs, env.kindOf x.1 = some .local) → DenAll s.heap vs ds → xs.length = ds.length →
    (∀ s', Fx B s0 env (binds xs ds σ) s' → Q () s') → wpAny (model prog w) A (assignInOrder (xs.map fun p => PySem.assign (Expr.Name p.1 p.2) env) vs) Q E s
  | [], [], [], σ, s, F, _, _, _, h => assignInOrder_nil (h s F)
  | (x, p) :: xs, v :: vs, d :: ds, σ, s, F, hk, hd, hl, h => by
    refine assignInOrder_cons (PyProof.Rows.assign_Name (F.store (d := d) (.inl (hk _ (.head _))) (hd.2 0 v d rfl rfl) fun s' F' sq _ => ?_))
    exact Fx.storeAll xs vs ds ((x, d) :: σ) s' F' (fun y hy => hk y (.tail _ hy)) (denAll_seq sq (denAll_tail hd)) (by simpa using hl) h
  | [], _ :: _, [], _, _, _, _, hd, _, _ => by have := hd.1; simp at this
  | [], _, _ :: _, _, _, _, _, _, hl, _ => by simp at hl
  | _ :: _, _, [], _, _, _, _, _, hl, _ => by simp at hl
  | _ :: _, [], _ :: _, _, _, _, _, hd, _, _ => by have := hd.1; simp at this

theorem extBut_up {s : Shared} {h' : Heap} (e : Heap.ExtBut s.heap.objs.size s.heap h') : Up s.heap h' := fun b o q => e b o (Nat.ne_of_lt (Heap.lt_size q)) q

/-- a, b, .. = (a tuple or a list) -/
theorem Fx.unpack {elts : List Expr} {k : Nat} {tpos p2 : Pos} {e : Expr} {rest : List Stmt} {xs : List (Str × Pos)} {ds : List D} {E : Value → Shared → Prop} {Q : Flow → Shared → Prop} (F : Fx B s0 env σ s) (hh : A.handled = none)
    (he : EvP prog w A env s e fun s v => ∃ a vs, v = .ref a ∧ (IsTup s.heap a vs.toArray ∨ s.heap.IsList a vs.toArray) ∧ DenAll s.heap vs ds)
    (hel : (assignEach elts env).map (·.2) = xs.map fun p => PySem.assign (Expr.Name p.1 p.2) env) (hstar : (assignEach elts env).findIdx? (·.1) = none)
    (hk' : (xs.all fun x => env.scope.names.lookup x.1 == some .local) = true) (hl : xs.length = ds.length)
    (hs : swapsWithSole [.Tuple elts k tpos] e p2.line env = pure false) (hw : swappedStores [.Tuple elts k tpos] e env = pure none)
    (h : ∀ s', Fx B s0 env (binds xs ds σ) s' → wpAny (model prog w) A (execs rest env) Q E s') :
    wpAny (model prog w) A (execs (.Assign [.Tuple elts k tpos] e p2 :: rest) env) Q E s := by
  have hk : ∀ x ∈ xs, env.kindOf x.1 = some .local := fun x hx => by
    have := List.all_eq_true.mp hk' x hx
    exact eq_of_beq this
  refine wpAny_execs_cons (Assign_Tuple (hs := hs) (hw := hw) (ev_then he (keeps_refl _) fun v s₁ k₁ q => ?_))
  obtain ⟨a, vs, rfl, hT, hd⟩ := q
  have hn : (assignEach elts env).length = vs.toArray.size := by
    rw [List.size_toArray, hd.1, ← hl, ← List.length_map (as := assignEach elts env) (f := (·.2)), hel, List.length_map]
  have fin : ∀ h', Heap.ExtBut s₁.heap.objs.size s₁.heap h' → wpAny (model prog w) A (assignInOrder ((assignEach elts env).map (·.2)) vs.toArray.toList) (fun _ s' => wpAny (model prog w) A (execs rest env) Q E s') E { s₁ with heap := h' } := fun h' e => by
    rw [hel]
    have k₂ : Keeps s₁ { s₁ with heap := h' } := ⟨h', s₁.toks, rfl, extBut_up e⟩
    exact Fx.storeAll xs vs ds σ _ (F.keeps (keeps_trans k₁ k₂)) hk ⟨hd.1, fun j v d e1 e2 => den_up (extBut_up e) (hd.2 j v d e1 e2)⟩ hl h
  rcases hT with hT | hL
  · exact assign_Tuple_tuple hh hT hn hstar fin
  · rw [assign_Tuple]
    refine wpAny_bind (wpAny_standAt ?_)
    unfold PySem.unpack
    rw [hn, hstar]
    exact wpAny_bind (wpAny_holding (PySem.W.kun_itemsOf hh hL fin))

/-- a tuple display -/
theorem EvP.tup {es : List Expr} {k : Nat} {pos : Pos} {ds : List D} (h : Evs prog w A env s pos es ds) (hsz : ds.length ≤ sizeLine) :
    EvP prog w A env s (.Tuple es k pos) fun s v => ∃ a vs, v = .ref a ∧ (IsTup s.heap a vs.toArray ∨ s.heap.IsList a vs.toArray) ∧ DenAll s.heap vs ds := fun s' k' E => by
  refine Tuple_ (wpAny_mono (h s' k' E) (fun vs s₁ q => ?_) fun _ _ q => q)
  obtain ⟨k₁, hl, hd⟩ := q
  refine wpAny_newObj_type ⟨keeps_trans k₁ (keeps_push _ _), _, vs, rfl, .inl ⟨_, Heap.get?_push_size _ rfl, rfl, 0, rfl⟩, hl, fun j v d e1 e2 => den_up (up_push _ _) (hd j v d e1 e2)⟩ ?_
  show vs.toArray.size ≤ sizeLine
  rw [List.size_toArray, hl]; exact hsz
theorem Ev.illAll {e : Expr} {nss : List (List Int)} (h : Ev prog w A env s e (.ill nss)) :
    EvP prog w A env s e fun s v => ∃ a vs, v = .ref a ∧ (IsTup s.heap a vs.toArray ∨ s.heap.IsList a vs.toArray) ∧ DenAll s.heap vs (nss.map D.il) := fun s' k E =>
  wpAny_mono (h s' k E) (fun v s'' ⟨k', a, vs, e, l, hl, i⟩ => ⟨k', a, vs, e, .inr l, by simpa using hl, fun j v d e1 e2 => by
    simp only [List.getElem?_map] at e2
    cases hq : nss[j]? with
    | none => rw [hq] at e2; cases e2
    | some ns => rw [hq] at e2; cases e2; exact i j v ns e1 hq⟩) fun _ _ q => q
end
end Mine
end

section
open PySem PySem.Calls PyProof.Rows
namespace Mine
section
variable {prog : Program} {w : World} {A : Around} {env : Env} {s s0 : Shared} {σ : List (Str × D)} {mg mb : Str → Option Value} {B B' : Addr → Obj → Prop} {pf : Bool} {x : Str} {D0 : Addr} {vs : List Value}

/-- [c] * n, a new list -/
theorem EvF.rep {e r : Expr} {p pos : Pos} {c : Int} {n : Int} (he : Ev prog w A env s e (.int c)) (hr : Ev prog w A env s r (.int n)) (hn : n.toNat ≤ 1000) (hlo : -(2 ^ 63) ≤ n)
    (hst : starEach [e] env = (false, eval e env) :: starEach [] env) :
    EvF prog w A env s (.BinOp (.List [e] p) .Mult r pos) true fun h vs => IntsAre vs (List.replicate n.toNat c) := fun s' k E => by
  refine wpAny_BinOp (ev_then (EvP.listI (ns := [c]) (Evs.cons he .nil hst) (show 1 ≤ sizeLine by decide)) k fun v s₁ k₁ d₁ => ev_then hr (keeps_trans k k₁) fun b s₂ k₂ d₂ => ?_)
  obtain ⟨a, vs, rfl, hp, hi⟩ := d₁
  obtain ⟨u, rfl⟩ := d₂
  match hi with
  | .cons _ t .nil =>
    obtain ⟨m, hm⟩ := plain_up (keeps_up k₂) hp
    have hs : (1 : Nat) * n.toNat ≤ sizeLine := by have : 1000 ≤ sizeLine := (by decide); omega
    refine wpAny_binaryOp_repeat_ref (T := "list") (U := "int") (by decide) ⟨_, hm, rfl⟩ (fun s' => typeIs_int s' n u) noFill_list_mul PySem.F.fills_int_mul PySem.F.slot_int_rmul repeat_list PySem.F.slot_int_index.lookup
      (call_meets PySem.F.slot_int_rmul (typeIs_int s₂ n u) PySem.F.entry_int_rmul (PySem.F.args_int_rmul_2 _ _) (int___rmul___int_list n u a _ m)
        ⟨hm, rfl, ⟨_, hm, rfl⟩, call_meets PySem.F.slot_list_mul ⟨_, hm, rfl⟩ PySem.F.entry_list_mul (PySem.F.args_list_mul_2 _ _)
          (AutoListH.list___mul___list_int_3 a _ m n u (by simp [Builtin.List.listFitsIndex]; omega) (by simp; omega) (by simp [Builtin.List.listTooLong]; omega))
          ⟨hm, ?_⟩⟩)
    refine ⟨keeps_trans (keeps_trans k₁ k₂) (keeps_push _ _), _, List.replicate n.toNat (.int c t), rfl, none_before (keeps_up (keeps_trans k₁ k₂)) (none_size _), ⟨0, ?_⟩, intsAre_rep c t _⟩
    rw [Heap.get?_push_size _ rfl]
    simp [foldl_rep]

/-- a + b of two lists, a new list -/
theorem EvF.add {l r : Expr} {pos : Pos} {ns ms : List Int} (hl : Ev prog w A env s l (.il ns)) (hr : Ev prog w A env s r (.il ms)) (hsz : ns.length + ms.length ≤ sizeLine) :
    EvF prog w A env s (.BinOp l .Add r pos) true fun h vs => IntsAre vs (ns ++ ms) := fun s' k E => by
  refine wpAny_BinOp (ev_then hl k fun v s₁ k₁ d₁ => ev_then hr (keeps_trans k k₁) fun b s₂ k₂ d₂ => ?_)
  obtain ⟨l, vs, rfl, hl, hi⟩ := den_keeps k₂ d₁
  obtain ⟨b, ws, rfl, hb, hj⟩ := d₂
  obtain ⟨⟨cls, dd, data, sl⟩, ho, hc, n, hd⟩ := id hl
  obtain ⟨⟨cls2, dd2, data2, sl2⟩, ho2, hc2, n2, hd2⟩ := id hb
  simp only at hc hd hc2 hd2
  subst hc hd hc2 hd2
  have hs' : vs.toArray.size + ws.toArray.size ≤ sizeLine := by rw [List.size_toArray, List.size_toArray, intsAre_len hi, intsAre_len hj]; exact hsz
  exact concat_meets hl.typeIs hb.typeIs noFill_list_add seq_list_add PySem.F.slot_list_add PySem.F.entry_list_add (PySem.F.args_list_add_2 _ _) (list_addW l b vs.toArray ws.toArray n n2 dd dd2 sl sl2 hs')
    ⟨ho, ho2, keeps_trans (keeps_trans k₁ k₂) (keeps_push _ _), _, vs ++ ws, rfl, none_before (keeps_up (keeps_trans k₁ k₂)) (none_size _), ⟨0, by rw [Heap.get?_push_size _ rfl]; simp⟩, intsAre_append hi hj⟩

theorem Ev.neg {e : Expr} {pos : Pos} {i : Int} (h : Ev prog w A env s e (.int i)) : Ev prog w A env s (.UnaryOp .USub e pos) (.int (-i)) := fun s' k E => by
  refine UnaryOp_ (ev_then h k ?_)
  rintro _ s₁ k₁ ⟨t, rfl⟩
  exact neg_int ⟨keeps_trans k₁ (keeps_toks _ _), _, rfl⟩

/-- l[-k] -/
theorem Ev.itemN {l i : Expr} {pos : Pos} {ns : List Int} {k : Int} (hl : Ev prog w A env s l (.il ns)) (hi : Ev prog w A env s i (.int k)) (h0 : k < 0) (h1 : -(ns.length : Int) ≤ k) (h2 : -(2 ^ 63) ≤ k) :
    Ev prog w A env s (.Subscript l i pos) (.int (ns.getD (k + ns.length).toNat 0)) := fun s' kp E => by
  refine Subscript_ (ev_then hl kp fun o s₁ k₁ d₁ => ev_then hi (keeps_trans kp k₁) fun j s₂ k₂ d₂ => ?_)
  obtain ⟨a, vs, rfl, hL, hI⟩ := den_keeps k₂ d₁
  obtain ⟨t, rfl⟩ := d₂
  obtain ⟨ops, hops⟩ := subscripted_ops i (.ref a) (.int k t)
  have hlen := intsAre_len hI
  obtain ⟨u, hu⟩ := intsAre_get hI (k + ns.length).toNat (by omega)
  exact tail_any hL.typeIs list_getitem_lookup (wpAny_getItem_list_neg hL h0 (by rw [List.size_toArray, hlen]; exact h1) h2 (by rw [List.size_toArray, hlen]; simpa using hu) ⟨keeps_trans k₁ k₂, _, rfl⟩) hops

theorem Ev.pl {e : Expr} {ns : List Int} (h : Ev prog w A env s e (.pl ns)) : Ev prog w A env s e (.il ns) := fun s' k E =>
  wpAny_mono (h s' k E) (fun v s'' ⟨k', a, vs, e, l, i⟩ => ⟨k', a, vs, e, plain_isList l, i⟩) fun _ _ q => q
theorem Ev.at {e : Expr} {v : Value} {d : D} (h : Ev prog w A env s e (.at v d)) : Ev prog w A env s e d := fun s' k E =>
  wpAny_mono (h s' k E) (fun v s'' ⟨k', q⟩ => ⟨k', q.2⟩) fun _ _ q => q

/-- l.index(k) -/
theorem Ev.index {l e : Expr} {pa pos : Pos} {ns : List Int} {k : Int} (hl : Ev prog w A env s l (.pl ns)) (he : Ev prog w A env s e (.int k)) (hk : k ∈ ns) (hlay : (PyData.list (ns.map PyData.int)).layable0 = true)
    (h2 : starEach [e] env = (false, eval e env) :: starEach [] env) (hm : MethOk env l (Str.ofString "index") pa [e] pos) :
    Ev prog w A env s (.Call (.Attribute l (Str.ofString "index") pa) [e] [] pos) (.int (ns.idxOf k : Nat)) := fun s' kp E => by
  obtain ⟨pl, hm⟩ := hm
  refine MethodCall_ (he := hm) (ev_then hl kp fun v s₁ k₁ d₁ => ?_)
  obtain ⟨a, vs, rfl, ⟨n, hp⟩, hi⟩ := d₁
  refine getMethod_list_of PySem.F.slot_list_index PySem.F.type_list_index (plain_isList ⟨n, hp⟩) ⟨_, hp, rfl⟩ (callWith_method1 (he := h2) (hplain := rfl) ?_)
  refine den_one (Evs.cons he .nil h2) (keeps_trans kp k₁) fun v2 s₂ k₂ d₂ => ?_
  obtain ⟨t, rfl⟩ := d₂
  exact index_list_ints (plain_isList ⟨n, keeps_up k₂ _ _ hp⟩) hi hlay hk ⟨keeps_trans (keeps_trans k₁ k₂) (keeps_toks _ _), _, rfl⟩

/-- a name that holds such a value -/
theorem ev_holds {y : Str} {p : Pos} {v : Value} {E : Value → Shared → Prop} {Q : Value → Shared → Prop} (hk : env.scope.kind = .function) (h : Holds env s.heap y v) (hd : (y == ("__debug__" : Str)) = false) (hq : Q v s) :
    wpAny (model prog w) A (eval (.Name y p) env) Q E s := by
  rcases h with ⟨a, m, hn, e⟩ | ⟨a, c, e, hc⟩
  · exact wpAny_Name (wpAny_loadName_local hk a hn e hq) hd
  · exact wpAny_Name (wpAny_loadName_cell hk a e hc hq) hd

theorem Fm.loose (M : Fm B s0 env pf x D0 vs σ s) : Fm B s0 env false x D0 vs σ s := ⟨M.fx, M.others, M.var, M.pl.isList, M.new⟩
theorem intsAre_set {vs : List Value} {ns : List Int} (h : IntsAre vs ns) (c : Int) (t : Tok) : ∀ k : Nat, IntsAre (vs.set k (.int c t)) (ns.set k c) := by
  induction h with
  | nil => intro k; exact .nil
  | cons n u h' ih =>
    intro k
    cases k with
    | zero => exact .cons c t h'
    | succ k => exact .cons n u (ih k)
end
end Mine
end

section
open PySem PySem.Calls PyProof.Rows
namespace Mine

/-! ## comprehensions -/
/-- data that need no heap -/
def D.sc : D → Prop
  | .int _ => True
  | .str _ => True
  | .bool _ => True
  | _ => False
theorem den_sc {h h' : Heap} {v : Value} {d : D} (hs : d.sc) (x : Den h v d) : Den h' v d := by
  cases d <;> first | exact x | exact hs.elim

section
variable {prog : Program} {w : World} {A : Around} {env : Env} {s s0 : Shared} {σ τ : List (Str × D)} {mg mb : Str → Option Value} {B B' : Addr → Obj → Prop} {pf : Bool} {x : Str} {D0 : Addr} {vs : List Value} {α : Type}

/-- an iterable: its items, one after the other -/
def Src (prog : Program) (w : World) (A : Around) (env : Env) (s : Shared) (iter : Expr) (V : α → Value → Prop) (as : List α) : Prop :=
  ∀ s', Keeps s s' → ∀ (E : Value → Shared → Prop) (Q : Value → Shared → Prop),
    (∀ I fp Pv S s'', Keeps s' s'' → (∀ A' : Around, A'.handled = none → Walks prog w A' I fp [I] as.length Pv S) → S 0 s''.heap → (∀ b ∈ fp, b < s''.heap.objs.size) → s'.heap.get? I = none → s''.heap.objs.size = I + 1 →
      (∀ b ∈ fp, b = I ∨ ∃ o xs n T, s''.heap.get? b = some o ∧ o.cls = .type T ∧ o.data = .seq xs n) →
      (∀ i v, Pv i v → ∃ a, as[i]? = some a ∧ V a v) → Q (.ref I) s'') →
    wpAny (model prog w) A (eval iter env) (fun xv s₁ => wpAny (model prog w) A (pyIter xv) Q E s₁) E s'

def VI (i : Int) (v : Value) : Prop := ∃ t, v = .int i t
def VC (c : Nat) (v : Value) : Prop := ∃ t, v = .str ⟨#[c]⟩ t

theorem Src.list {iter : Expr} {ns : List Int} (he : Ev prog w A env s iter (.il ns)) : Src prog w A env s iter VI ns := fun s' k E Q h => by
  refine ev_then he k fun v s₁ k₁ q => ?_
  obtain ⟨a, vs, rfl, hL, hi⟩ := q
  refine wpAny_pyIter_list hL ?_
  have hlen := intsAre_len hi
  obtain ⟨oL, hoL, hcL, nL, hdL⟩ := id hL
  have hlt : a < s₁.heap.objs.size := Heap.lt_size hoL
  have e : vs.toArray.size = ns.length := by rw [List.size_toArray, hlen]
  refine h s₁.heap.objs.size _ _ _ _ (keeps_trans k₁ (keeps_push _ _)) (fun A' hA => e ▸ Walks.list hA s₁.heap.objs.size a (Nat.ne_of_lt hlt) vs.toArray) ⟨⟨_, Heap.get?_push_size _ rfl, rfl, rfl⟩, hL.push _⟩ ?_ (none_before (keeps_up k₁) (none_size _)) (Heap.size_push _ _) ?_ ?_
  · intro b hb
    show b < (s₁.heap.push _).objs.size
    rw [Heap.size_push]
    rcases List.mem_cons.mp hb with rfl | hb
    · exact Nat.lt_succ_self _
    · rcases List.mem_cons.mp hb with rfl | hb
      · exact Nat.lt_succ_of_lt hlt
      · cases hb
  · intro b hb
    rcases List.mem_cons.mp hb with rfl | hb
    · exact .inl rfl
    · rcases List.mem_cons.mp hb with rfl | hb
      · exact .inr ⟨oL, _, nL, _, Heap.get?_push_of_some _ hoL, hcL, hdL⟩
      · cases hb
  · intro i v hv
    have hv' : vs[i]? = some v := by simpa using hv
    have hi2 : i < ns.length := by
      rw [← hlen]
      rcases Nat.lt_or_ge i vs.length with q | q
      · exact q
      · rw [List.getElem?_eq_none q] at hv'; cases hv'
    obtain ⟨t, ht⟩ := intsAre_get hi i hi2
    rw [ht] at hv'; cases hv'
    refine ⟨ns.getD i 0, ?_, t, rfl⟩
    rw [List.getD_eq_getElem?_getD, List.getElem?_eq_getElem hi2]; rfl

theorem Src.range {iter : Expr} {a b : Int} {n : Nat} (he : EvR prog w A env s iter a b) (ha : -(2 ^ 62) ≤ a) (ha' : a < 2 ^ 62) (hb : -(2 ^ 62) ≤ b) (hb' : b < 2 ^ 62) (hn : n = (b - a).toNat) :
    Src prog w A env s iter VI ((List.range n).map fun i : Nat => a + i) := fun s' k E Q h => by
  refine wpAny_mono (he s' k E) (fun v s₁ q => ?_) fun _ _ q => q
  obtain ⟨k₁, r, t, u, t', rfl, hR⟩ := q
  refine wpAny_pyIter_range hR (small_one ha ha' hb hb') ?_
  have hsz : Builtin.Range.rangeSize a b 1 = (n : Int) := by
    rw [rangeSize_one]; split <;> omega
  rw [hsz]
  have e : ((List.range n).map fun i : Nat => a + (i : Int)).length = n := by simp
  refine h s₁.heap.objs.size [s₁.heap.objs.size] (fun i v => (∃ t, v = Value.int (a + (i : Nat) * 1) t) ∧ i < n) (fun i h => IsRangeIter h s₁.heap.objs.size (a + (i : Nat) * 1) ((n : Int) - (i : Nat)) 1) _ (keeps_trans k₁ (keeps_push _ _)) (fun A' hA => ?_) ?_ ?_ (none_before (keeps_up k₁) (none_size _)) (Heap.size_push _ _) ?_ ?_
  · have W := Walks.range (prog := prog) (w := w) hA s₁.heap.objs.size a 1 n
    rw [e]
    exact ⟨W.sub, W.frame, fun i s Q E hlt st hQ => W.item i s Q E hlt st fun v h' tk hv => hQ v h' tk ⟨hv, hlt⟩, W.done, W.self⟩
  · show Heap.get? _ _ = some _
    rw [Heap.get?_push_size _ rfl]; simp
  · intro b hb
    rcases List.mem_cons.mp hb with rfl | hb
    · show _ < (s₁.heap.push _).objs.size
      rw [Heap.size_push]; exact Nat.lt_succ_self _
    · cases hb
  · intro b hb
    rcases List.mem_cons.mp hb with rfl | hb
    · exact .inl rfl
    · cases hb
  · rintro i v ⟨⟨t, rfl⟩, hlt⟩
    refine ⟨a + i, by simp [hlt], t, by simp⟩

theorem Src.text {iter : Expr} {y : Str} (he : Ev prog w A env s iter (.str y)) : Src prog w A env s iter VC y.cps.toList := fun s' k E Q h => by
  refine ev_then he k fun v s₁ k₁ q => ?_
  obtain ⟨t, rfl⟩ := q
  refine wpAny_pyIter_str fun o S W hS => ?_
  have e : y.cps.size = y.cps.toList.length := by simp
  refine h s₁.heap.objs.size [s₁.heap.objs.size] (SignAt y) S _ (keeps_trans k₁ (keeps_push _ _)) (fun A' hA => e ▸ W A' hA) hS ?_ (none_before (keeps_up k₁) (none_size _)) (Heap.size_push _ _) ?_ ?_
  · intro b hb
    rcases List.mem_cons.mp hb with rfl | hb
    · show _ < (s₁.heap.push _).objs.size
      rw [Heap.size_push]; exact Nat.lt_succ_self _
    · cases hb
  · intro b hb
    rcases List.mem_cons.mp hb with rfl | hb
    · exact .inl rfl
    · cases hb
  · rintro i v ⟨c, u, hc, rfl⟩
    exact ⟨c, by simpa using hc, u, rfl⟩

/-- what a comprehension's block sees of the frame around it -/
def Cap (env : Env) (scope : Scope) (cl : List (Str × Addr)) (τ : List (Str × D)) : Prop :=
  ∀ y d, τ.lookup y = some d → (relabel scope env).names.lookup y = some .cell ∧ cl.lookup y = env.cells.lookup y ∧ env.kindOf y = some .cell
theorem cap_nil {scope : Scope} {cl : List (Str × Addr)} : Cap env scope cl [] := fun y d e => by cases e
theorem cap_cons {scope : Scope} {cl : List (Str × Addr)} {y : Str} {d : D} (h1 : (relabel scope env).names.lookup y = some .cell) (h2 : cl.lookup y = env.cells.lookup y) (h3 : env.kindOf y = some .cell) (k : Cap env scope cl τ) : Cap env scope cl ((y, d) :: τ) := fun z d' e => by
  rw [List.lookup_cons] at e
  by_cases hy : z = y
  · subst hy; exact ⟨h1, h2, h3⟩
  · have hb' : (z == y) = false := beq_eq_false_iff_ne.mpr hy
    rw [hb'] at e; exact k z d' e

theorem comp_st {scope : Scope} {cl : List (Str × Addr)} {C : Addr} {v : Value} {d : D} {s₃ : Shared} {m : Str → Option Value} (S : St env τ s) (cap : Cap env scope cl τ) (hkind : scope.kind = .function)
    (hx : scope.names.lookup x = some .local) (hn : s₃.heap.Ns C m) (hv : m x = some v) (hd : Den s₃.heap v d) (u : Up s.heap s₃.heap) : St (compEnvC scope cl C env) ((x, d) :: τ) s₃ := by
  have look : ∀ y d', ((x, d) :: τ).lookup y = some d' → (y = x ∧ d' = d) ∨ (y ≠ x ∧ τ.lookup y = some d') := fun y d' e => by
    rw [List.lookup_cons] at e
    by_cases hy : y = x
    · subst hy; simp at e; exact .inl ⟨rfl, e.symm⟩
    · have hb' : (y == x) = false := beq_eq_false_iff_ne.mpr hy
      rw [hb'] at e; exact .inr ⟨hy, e⟩
  refine ⟨hkind, ⟨m, hn, fun y d' e1 e2 => ?_⟩, fun y d' e1 e2 => ?_⟩
  · rcases look y d' e1 with ⟨rfl, rfl⟩ | ⟨hy, e⟩
    · exact ⟨v, hv, hd⟩
    · have := (cap y d' e).1
      have e2' : (relabel scope env).names.lookup y = some .local := e2
      rw [this] at e2'; cases e2'
  · rcases look y d' e1 with ⟨rfl, rfl⟩ | ⟨hy, e⟩
    · have e2' : (relabel scope env).names.lookup y = some .cell := e2
      have : (relabel scope env).names.lookup y = some .local := lookup_relabel_local hx
      rw [this] at e2'; cases e2'
    · obtain ⟨h1, h2, h3⟩ := cap y d' e
      obtain ⟨c, v', ec, q, r⟩ := S.cel y d' e h3
      exact ⟨c, v', h2.trans ec, isCell_up u q, den_up u r⟩

/-- the test of a comprehension -/
def IfOk (prog : Program) (w : World) (A : Around) (cenv : Env) (s : Shared) : List Expr → Bool → Prop
  | [], b => b = true
  | [c], b => Ts prog w A cenv s c b
  | _, _ => False

/-- the block of a comprehension, turn by turn -/
def Elts (prog : Program) (w : World) (A : Around) (env : Env) (s : Shared) (scope : Scope) (cl : List (Str × Addr)) (x : Str) (ifs : List Expr) (elt : Expr) (τ : List (Str × D)) (V : α → D) (as : List α) (q : α → Bool) (g : α → D) : Prop :=
  ∀ C s₃ a, a ∈ as → Up s.heap s₃.heap → St (compEnvC scope cl C env) ((x, V a) :: τ) s₃ →
    IfOk prog w A (compEnvC scope cl C env) s₃ ifs (q a) ∧ (q a = true → Ev prog w A (compEnvC scope cl C env) s₃ elt (g a))

theorem quiet_of {s₂ : Shared} {scope : Scope} {cl : List (Str × Addr)} {ifs : List Expr} {elt : Expr} {V : α → D} {as : List α} {q : α → Bool} {g : α → D} {I : Addr} {Pv : Nat → Value → Prop}
    (E : Elts prog w A env s scope cl x ifs elt τ V as q g) (S : St env τ s) (cap : Cap env scope cl τ) (hkind : scope.kind = .function) (hx : scope.names.lookup x = some .local)
    (hV : ∀ a, (V a).sc) (hg : ∀ a, (g a).sc) (hinj : ∀ a b v, Den s.heap v (V a) → Den s.heap v (V b) → a = b) (hI : s.heap.get? I = none) (u₂ : Up s.heap s₂.heap) (hP : ∀ i v, Pv i v → ∃ a, as[i]? = some a ∧ Den s.heap v (V a))
    (p : Value → Bool) (hp : ∀ a v, a ∈ as → Den s.heap v (V a) → p v = q a) :
    QuietOnC prog w A env scope cl x ifs elt [I] Pv p (fun v y => ∃ a, a ∈ as ∧ Den s.heap v (V a) ∧ ∀ h, Den h y (g a)) s₂ := by
  have up : ∀ s₃ : Shared, (∀ b o, b ∉ [I] → s₂.heap.get? b = some o → s₃.heap.get? b = some o) → Up s.heap s₃.heap := fun s₃ hk b o e =>
    hk b o (by rintro hm; rcases List.mem_cons.mp hm with rfl | hm; · rw [hI] at e; cases e
               · cases hm) (u₂ b o e)
  refine ⟨fun C i v s₃ m₃ E' hC hPv hn hm hk htk => ?_, fun C i v s₃ m₃ E' hC hPv hpv hn hm hk htk => ?_⟩
  · obtain ⟨a, ha, hd⟩ := hP i v hPv
    have hmem := List.mem_of_getElem? ha
    have := (E C s₃ a hmem (up s₃ hk) (comp_st S cap hkind hx hn hm (den_sc (hV a) hd) (up s₃ hk))).1
    rw [hp a v hmem hd]
    match ifs, this with
    | [], this => rw [List.forIn_nil]; exact wpAny_pure ⟨this.symm, keeps_refl _⟩
    | [c], this =>
      rw [List.forIn_cons]
      simp only [if_true]
      refine wpAny_bind (wpAny_bind (ts_then this (keeps_refl _) fun s₄ k₄ => wpAny_pure ?_))
      show wpAny (model prog w) A (pure (q a)) _ _ _
      exact wpAny_pure ⟨rfl, k₄⟩
  · obtain ⟨a, ha, hd⟩ := hP i v hPv
    have hmem := List.mem_of_getElem? ha
    have hq : q a = true := by rw [← hp a v hmem hd]; exact hpv
    have := (E C s₃ a hmem (up s₃ hk) (comp_st S cap hkind hx hn hm (den_sc (hV a) hd) (up s₃ hk))).2 hq
    exact wpAny_mono (this s₃ (keeps_refl _) E') (fun y s₄ r => ⟨⟨a, hmem, hd, fun h => den_sc (hg a) r.2⟩, r.1⟩) fun _ _ r => r

theorem paired_den {h : Heap} {V : α → D} {g : α → D} {p : Value → Bool} {q : α → Bool} {H : Heap} (hinj : ∀ a b v, Den h v (V a) → Den h v (V b) → a = b) :
    ∀ {vs : List Value} {as : List α} {ys : List Value}, vs.length = as.length → (∀ (j : Nat) v a, vs[j]? = some v → as[j]? = some a → Den h v (V a)) → (∀ (j : Nat) v a, vs[j]? = some v → as[j]? = some a → p v = q a) →
      Paired (fun v y => ∃ a, a ∈ as ∧ Den h v (V a) ∧ ∀ h, Den h y (g a)) (vs.filter p) ys → DenAll H ys ((as.filter q).map g) := by
  have aux : ∀ (all : List α) {vs : List Value} {as : List α} {ys : List Value}, vs.length = as.length → (∀ (j : Nat) v a, vs[j]? = some v → as[j]? = some a → Den h v (V a)) → (∀ (j : Nat) v a, vs[j]? = some v → as[j]? = some a → p v = q a) →
      Paired (fun v y => ∃ a, a ∈ all ∧ Den h v (V a) ∧ ∀ h, Den h y (g a)) (vs.filter p) ys → DenAll H ys ((as.filter q).map g) := by
    intro all vs
    induction vs with
    | nil =>
      intro as ys hl _ _ hp
      have : as = [] := List.length_eq_zero_iff.mp (by simpa using hl.symm)
      subst this
      cases hp
      exact ⟨rfl, fun j v d e => by simp at e⟩
    | cons v vs ih =>
      intro as ys hl hd hq hp
      cases as with
      | nil => simp at hl
      | cons a as =>
        have e0 : p v = q a := hq 0 v a rfl rfl
        have tl : ∀ {ys'}, Paired (fun v y => ∃ a, a ∈ all ∧ Den h v (V a) ∧ ∀ h, Den h y (g a)) (vs.filter p) ys' → DenAll H ys' ((as.filter q).map g) := fun {ys'} hp' =>
          ih (by simpa using hl) (fun j v a e1 e2 => hd (j + 1) v a (by simpa using e1) (by simpa using e2)) (fun j v a e1 e2 => hq (j + 1) v a (by simpa using e1) (by simpa using e2)) hp'
        cases hqa : q a with
        | false =>
          rw [List.filter_cons, e0, hqa] at hp
          rw [List.filter_cons, hqa]
          exact tl (by simpa using hp)
        | true =>
          rw [List.filter_cons, e0, hqa] at hp
          simp only [if_true] at hp
          rw [List.filter_cons, hqa]
          simp only [if_true, List.map_cons]
          cases hp with
          | cons h1 h2 =>
            obtain ⟨b, _, hb, hy⟩ := h1
            have : b = a := hinj b a v hb (hd 0 v a rfl rfl)
            subst this
            have t := tl h2
            refine ⟨by simp [t.1], fun j v d e1 e2 => ?_⟩
            cases j with
            | zero => simp at e1 e2; subst e1 e2; exact hy H
            | succ j => exact t.2 j v d (by simpa using e1) (by simpa using e2)
  intro vs as ys hl hd hq hp
  exact aux _ hl hd hq hp

theorem EvF.comp {elt iter : Expr} {px : Pos} {ifs : List Expr} {scope : Scope} {cl : List (Str × Addr)} {pos : Pos} {V : α → D} {as : List α} {q : α → Bool} {g : α → D} (hA : A.handled = none)
    (src : Src prog w A env s iter (fun a v => ∀ h, Den h v (V a)) as) (S : St env σ s) (wk : Weak τ σ) (cap : Cap env scope cl τ) 
    (E : Elts prog w A env s scope cl x ifs elt τ V as q g)
    (hclos : closureFor scope env = pure cl) (hcell : ∀ y ∈ scope.names, y.2 ≠ .cell) (hkind : scope.kind = .function)
    (hnames : ∀ y ∈ scope.names, y.2 = .local → scope.names.lookup y.1 = some .local) (hx : scope.names.lookup x = some .local)
    (hV : ∀ a, (V a).sc) (hg : ∀ a, (g a).sc) (hinj : ∀ (h : Heap) a b v, Den h v (V a) → Den h v (V b) → a = b) (p : Value → Bool) (hp : ∀ h a v, a ∈ as → Den h v (V a) → p v = q a)
    (hsz : as.length ≤ sizeLine) (hs : ∀ x, foldedSetIterable iter env x = pure x) :
    EvF prog w A env s (.ListComp elt [⟨.Name x px, iter, ifs, 0⟩] scope pos) true fun h vs => DenAll h vs ((as.filter q).map g) := fun s' k E' => by
  have S' : St env τ s' := by
    have S1 := S.keeps k
    obtain ⟨m, hn, hm⟩ := S1.loc
    exact ⟨S1.kind, ⟨m, hn, fun y d e1 e2 => hm y d (wk y d e1) e2⟩, fun y d e1 e2 => S1.cel y d (wk y d e1) e2⟩
  have E2 : Elts prog w A env s' scope cl x ifs elt τ V as q g := fun C s₃ a ha u => E C s₃ a ha ((keeps_up k).trans u)
  refine wpAny_ListComp_free (hs := hs) p (fun v y => ∃ a, a ∈ as ∧ Den s'.heap v (V a) ∧ ∀ h, Den h y (g a)) hclos hcell hkind hnames hx (src s' k _ _ fun I fp Pv S s'' k₂ W hS hfp hI _ _ hPv => ?_)
  have hPv' : ∀ i v, Pv i v → ∃ a, as[i]? = some a ∧ Den s'.heap v (V a) := fun i v hv => let ⟨a, h1, h2⟩ := hPv i v hv; ⟨a, h1, h2 _⟩
  refine ⟨I, fp, [I], as.length, Pv, S, rfl, W A hA, hsz, hS, hfp, quiet_of E2 S' cap hkind hx hV hg (hinj _) hI (keeps_up k₂) hPv' p (hp _), fun D0 h' tk ys vs hD hL hPl hlen hP hF hk => ?_⟩
  have up : Up s'.heap h' := fun b o e => hk b o (by rintro hm; rcases List.mem_cons.mp hm with rfl | hm; · rw [hI] at e; cases e
                                                     · cases hm) (keeps_up k₂ b o e)
  refine ⟨?_, D0, ys.toList, rfl, none_before (keeps_up k₂) hD, ?_, ?_⟩
  · obtain ⟨h2, tk2, rfl, _⟩ := k₂
    exact ⟨h', tk, rfl, up⟩
  · show h'.PlainList D0 ys.toList.toArray
    simpa using hPl
  · have hden : ∀ (j : Nat) v a, vs[j]? = some v → as[j]? = some a → Den s'.heap v (V a) := fun j v a e1 e2 => by
      obtain ⟨a', e3, e4⟩ := hPv' j v (hP j v e1)
      rw [e2] at e3; cases e3; exact e4
    exact paired_den (h := s'.heap) (hinj _) hlen hden (fun j v a e1 e2 => hp _ a v (List.mem_of_getElem? e2) (hden j v a e1 e2)) hF
end
end Mine
end

section
open PySem PySem.Calls PyProof.Rows
namespace Mine
section
variable {prog : Program} {w : World} {A : Around} {env : Env} {s s0 : Shared} {σ τ : List (Str × D)} {mg mb : Str → Option Value} {B B' : Addr → Obj → Prop} {pf : Bool} {x : Str} {D0 : Addr} {vs : List Value} {α : Type}

/-- y = [.. for x in ..], y a plain local on the same line -/
theorem Fx.assignComp {y : Str} {py spos : Pos} {rest : List Stmt} {elt iter : Expr} {px : Pos} {ifs : List Expr} {scope : Scope} {cl : List (Str × Addr)} {pos : Pos} {V : α → D} {as : List α} {q : α → Bool} {g : α → D} {E0 : Value → Shared → Prop} {Q : Flow → Shared → Prop}
    (F : Fx B s0 env σ s) (hA : A.handled = none)
    (src : Src prog w A env s iter (fun a v => ∀ h, Den h v (V a)) as) (wk : Weak τ σ) (cap : Cap env scope cl τ) 
    (E : Elts prog w A env s scope cl x ifs elt τ V as q g)
    (hsw : swapsWith (.ListComp elt [⟨.Name x px, iter, ifs, 0⟩] scope pos) (some (.Name y py)) spos.line env = pure true) (hy : env.kindOf y = some .local)
    (hclos : closureFor scope env = pure cl) (hcell : ∀ y ∈ scope.names, y.2 ≠ .cell) (hkind : scope.kind = .function)
    (hnames : ∀ y ∈ scope.names, y.2 = .local → scope.names.lookup y.1 = some .local) (hx : scope.names.lookup x = some .local)
    (hV : ∀ a, (V a).sc) (hg : ∀ a, (g a).sc) (hinj : ∀ (h : Heap) a b v, Den h v (V a) → Den h v (V b) → a = b) (p : Value → Bool) (hp : ∀ h a v, a ∈ as → Den h v (V a) → p v = q a)
    (hsz : as.length ≤ sizeLine) (hs : ∀ x, foldedSetIterable iter env x = pure x)
    (h : ∀ a vs s', DenAll s'.heap vs ((as.filter q).map g) → Fm B s0 env true y a vs σ s' → wpAny (model prog w) A (execs rest env) Q E0 s') :
    wpAny (model prog w) A (execs (.Assign [.Name y py] (.ListComp elt [⟨.Name x px, iter, ifs, 0⟩] scope pos) spos :: rest) env) Q E0 s := by
  have S' : St env τ s := by
    obtain ⟨m, hn, hm⟩ := F.st.loc
    exact ⟨F.st.kind, ⟨m, hn, fun y d e1 e2 => hm y d (wk y d e1) e2⟩, fun y d e1 e2 => F.st.cel y d (wk y d e1) e2⟩
  refine wpAny_execs_cons (wpAny_Assign_ListComp_free (hs := hs) p (fun v y => ∃ a, a ∈ as ∧ Den s.heap v (V a) ∧ ∀ h, Den h y (g a)) hsw hclos hcell hkind hnames hx hy F.plain (src s (keeps_refl _) _ _ fun I fp Pv S s'' k₂ W hS hfp hI _ _ hPv => ?_))
  have hPv' : ∀ i v, Pv i v → ∃ a, as[i]? = some a ∧ Den s.heap v (V a) := fun i v hv => let ⟨a, h1, h2⟩ := hPv i v hv; ⟨a, h1, h2 _⟩
  have F2 := F.keeps k₂
  obtain ⟨m, hn, hm⟩ := F2.st.loc
  obtain ⟨m0, hn0, _⟩ := F.st.loc
  have hLI : env.locals ≠ I := by
    rintro e; rw [← e] at hI; obtain ⟨o, _, _, h1, _⟩ := hn0; rw [h1] at hI; cases hI
  refine ⟨I, fp, [I], as.length, Pv, S, m, rfl, W A hA, hsz, hS, hfp, by simpa using hLI, hn, quiet_of E S' cap hkind hx hV hg (hinj _) hI (keeps_up k₂) hPv' p (hp _), fun D0 h' tk ys vs hD hL hPl hlen hP hF hns hk => ?_⟩
  have hD0 : s.heap.get? D0 = none := none_before (keeps_up k₂) hD
  -- all of the frame's world but the frame itself and the iterator
  have hIn : ∀ b o, s.heap.get? b = some o → b ∉ [I] := fun b o e hm => by
    have hm' : b = I := by simpa using hm
    subst hm'; rw [hI] at e; cases e
  have up : ∀ b o, b ≠ env.locals → s.heap.get? b = some o → h'.get? b = some o := fun b o hb e => hk b o hb (hIn b o e) (keeps_up k₂ b o e)
  have nb : ∀ b o, s.heap.get? b = some o → (∀ es n, o.data ≠ .dict es n) → h'.get? b = some o := fun b o e hd => up b o (by rintro rfl; obtain ⟨o', _, _, h1, h2, _⟩ := hn0; rw [e] at h1; cases h1; exact hd _ _ h2) e
  have cellK : ∀ c v0, s.heap.IsCell c v0 → h'.IsCell c v0 := fun c v0 ⟨o, ho, r⟩ => ⟨o, nb c o ho (fun es n e => by rw [r] at e; cases e), r⟩
  have sl : SeqL s.heap h' := fun b o T xs n e hc hd => nb b o e (fun es n e => by rw [hd] at e; cases e)
  have hden : ∀ (j : Nat) v a, vs[j]? = some v → as[j]? = some a → Den s.heap v (V a) := fun j v a e1 e2 => by
    obtain ⟨a', e3, e4⟩ := hPv' j v (hP j v e1)
    rw [e2] at e3; cases e3; exact e4
  have mm : m = m0 := by
    have : s''.heap.Ns env.locals m0 := hn0.keeps (keeps_up k₂)
    exact ns_uniq hn this
  subst mm
  have F0 : Fx B s0 env [] { s'' with heap := h', toks := tk } := by
    obtain ⟨h0, tk0, e0⟩ := F2.same
    refine ⟨⟨F.st.kind, ⟨_, hns, fun y d e1 e2 => by cases e1⟩, fun y d e1 e2 => by cases e1⟩, fun b o e => up b o (by rintro rfl; exact F.out _ e) (F.base b o e), F.out, ⟨h', tk, by rw [e0]⟩, fun z c e => ?_, F.cellIn, F.apart, F.plain⟩
    obtain ⟨⟨v0, q⟩, r⟩ := F.cells z c e
    exact ⟨⟨v0, cellK _ _ q⟩, r⟩
  refine h D0 ys.toList _ ?_ ⟨F0, fun z d e hkz hz => ?_, .inl ⟨hy, _, hns, by simp⟩, ?_, fun o e => by have := F.base _ _ e; rw [hD0] at this; cases this⟩
  · exact paired_den (h := s.heap) (hinj _) hlen hden (fun j v a e1 e2 => hp _ a v (List.mem_of_getElem? e2) (hden j v a e1 e2)) hF
  · obtain ⟨v, hv, q⟩ := F.holds e hkz
    refine ⟨v, ?_, den_seqL (fun b o T xs n e1 hc hd => ?_) q⟩
    · rcases hv with ⟨a, m', n, e⟩ | ⟨a, c, e, n⟩
      · rw [ns_uniq n hn0] at e; exact .inl ⟨a, _, hns, by simp [hz, e]⟩
      · exact .inr ⟨a, c, e, cellK _ _ n⟩
    · have hb : b ≠ D0 := by rintro rfl; rw [hD0] at e1; cases e1
      exact (del_other hb).trans (sl b o T xs n e1 hc hd)
  · show h'.PlainList D0 ys.toList.toArray
    simpa using hPl

theorem den_ints {h : Heap} {f : α → Int} {l : List α} {vs : List Value} (x : DenAll h vs (l.map fun a => D.int (f a))) : IntsAre vs (l.map f) := by
  refine intsAre_of (h := h) (by simpa using x.1) fun j v d e1 e2 => x.2 j v d e1 ?_
  simpa using e2
theorem strsAre_of {h : Heap} : ∀ {vs : List Value} {ns : List Str}, vs.length = ns.length → (∀ (j : Nat) (v : Value) (d : D), vs[j]? = some v → (ns.map D.str)[j]? = some d → Den h v d) → StrsAre vs ns
  | [], [], _, _ => .nil
  | v :: vs, n :: ns, hl, hd => by
    obtain ⟨t, rfl⟩ := hd 0 v (.str n) rfl rfl
    exact .cons n t (strsAre_of (h := h) (by simpa using hl) fun j v d e1 e2 => hd (j + 1) v d (by simpa using e1) (by simpa using e2))
  | [], _ :: _, hl, _ => by simp at hl
  | _ :: _, [], hl, _ => by simp at hl
theorem den_strs {h : Heap} {f : α → Str} {l : List α} {vs : List Value} (x : DenAll h vs (l.map fun a => D.str (f a))) : StrsAre vs (l.map f) := by
  refine strsAre_of (h := h) (by simpa using x.1) fun j v d e1 e2 => x.2 j v d e1 ?_
  simpa using e2

theorem vi_inj (h : Heap) (a b : Int) (v : Value) (x : Den h v (.int a)) (y : Den h v (.int b)) : a = b := by
  obtain ⟨t, rfl⟩ := x; obtain ⟨u, e⟩ := y; cases e; rfl
theorem vc_inj (h : Heap) (a b : Nat) (v : Value) (x : Den h v (.str ⟨#[a]⟩)) (y : Den h v (.str ⟨#[b]⟩)) : a = b := by
  obtain ⟨t, rfl⟩ := x; obtain ⟨u, e⟩ := y; cases e; rfl

theorem Src.asI {iter : Expr} {ns : List Int} (h : Src prog w A env s iter VI ns) : Src prog w A env s iter (fun a v => ∀ h, Den h v (.int a)) ns := fun s' k E Q hq =>
  h s' k E Q fun I fp Pv S s'' k₂ W hS hfp hI hz hsq hPv => hq I fp Pv S s'' k₂ W hS hfp hI hz hsq fun i v hv => let ⟨a, h1, t, h2⟩ := hPv i v hv; ⟨a, h1, fun _ => ⟨t, h2⟩⟩
theorem Src.asC {iter : Expr} {ns : List Nat} (h : Src prog w A env s iter VC ns) : Src prog w A env s iter (fun a v => ∀ h, Den h v (.str ⟨#[a]⟩)) ns := fun s' k E Q hq =>
  h s' k E Q fun I fp Pv S s'' k₂ W hS hfp hI hz hsq hPv => hq I fp Pv S s'' k₂ W hS hfp hI hz hsq fun i v hv => let ⟨a, h1, t, h2⟩ := hPv i v hv; ⟨a, h1, fun _ => ⟨t, h2⟩⟩

/-- without a test -/
theorem Elts.plain {scope : Scope} {cl : List (Str × Addr)} {elt : Expr} {V : α → D} {as : List α} {g : α → D}
    (h : ∀ C s₃ a, a ∈ as → Up s.heap s₃.heap → St (compEnvC scope cl C env) ((x, V a) :: τ) s₃ → Ev prog w A (compEnvC scope cl C env) s₃ elt (g a)) : Elts prog w A env s scope cl x [] elt τ V as (fun _ => true) g :=
  fun C s₃ a ha u S => ⟨rfl, fun _ => h C s₃ a ha u S⟩

/-- ints out of ints -/
theorem EvF.compII {elt iter : Expr} {px : Pos} {scope : Scope} {cl : List (Str × Addr)} {pos : Pos} {as : List Int} {f : Int → Int} (hA : A.handled = none)
    (src : Src prog w A env s iter VI as) (S : St env σ s) (wk : Weak τ σ) (cap : Cap env scope cl τ) 
    (E : ∀ C s₃ a, a ∈ as → Up s.heap s₃.heap → St (compEnvC scope cl C env) ((x, .int a) :: τ) s₃ → Ev prog w A (compEnvC scope cl C env) s₃ elt (.int (f a)))
    (hclos : closureFor scope env = pure cl) (hcell : ∀ y ∈ scope.names, y.2 ≠ .cell) (hkind : scope.kind = .function)
    (hnames : ∀ y ∈ scope.names, y.2 = .local → scope.names.lookup y.1 = some .local) (hx : scope.names.lookup x = some .local)
    (hsz : as.length ≤ sizeLine) (hs : ∀ x, foldedSetIterable iter env x = pure x) :
    EvF prog w A env s (.ListComp elt [⟨.Name x px, iter, [], 0⟩] scope pos) true fun h vs => IntsAre vs (as.map f) := fun s' k E' =>
  wpAny_mono (EvF.comp (V := D.int) (g := fun a => .int (f a)) (q := fun _ => true) hA src.asI S wk cap (Elts.plain E) hclos hcell hkind hnames hx (fun _ => trivial) (fun _ => trivial) vi_inj (fun _ => true) (fun _ _ _ _ _ => rfl) hsz hs s' k E')
    (fun v s'' ⟨k', a, vs, h1, h2, h3, h4⟩ => ⟨k', a, vs, h1, h2, h3, by have := h4; rw [List.filter_eq_self.mpr (fun _ _ => rfl)] at this; exact den_ints this⟩) fun _ _ q => q
/-- ints out of the signs of a text -/
theorem EvF.compCI {elt iter : Expr} {px : Pos} {scope : Scope} {cl : List (Str × Addr)} {pos : Pos} {as : List Nat} {f : Nat → Int} (hA : A.handled = none)
    (src : Src prog w A env s iter VC as) (S : St env σ s) (wk : Weak τ σ) (cap : Cap env scope cl τ) 
    (E : ∀ C s₃ a, a ∈ as → Up s.heap s₃.heap → St (compEnvC scope cl C env) ((x, .str ⟨#[a]⟩) :: τ) s₃ → Ev prog w A (compEnvC scope cl C env) s₃ elt (.int (f a)))
    (hclos : closureFor scope env = pure cl) (hcell : ∀ y ∈ scope.names, y.2 ≠ .cell) (hkind : scope.kind = .function)
    (hnames : ∀ y ∈ scope.names, y.2 = .local → scope.names.lookup y.1 = some .local) (hx : scope.names.lookup x = some .local)
    (hsz : as.length ≤ sizeLine) (hs : ∀ x, foldedSetIterable iter env x = pure x) :
    EvF prog w A env s (.ListComp elt [⟨.Name x px, iter, [], 0⟩] scope pos) true fun h vs => IntsAre vs (as.map f) := fun s' k E' =>
  wpAny_mono (EvF.comp (V := fun c => D.str ⟨#[c]⟩) (g := fun a => .int (f a)) (q := fun _ => true) hA src.asC S wk cap (Elts.plain E) hclos hcell hkind hnames hx (fun _ => trivial) (fun _ => trivial) vc_inj (fun _ => true) (fun _ _ _ _ _ => rfl) hsz hs s' k E')
    (fun v s'' ⟨k', a, vs, h1, h2, h3, h4⟩ => ⟨k', a, vs, h1, h2, h3, by have := h4; rw [List.filter_eq_self.mpr (fun _ _ => rfl)] at this; exact den_ints this⟩) fun _ _ q => q
/-- texts out of ints -/
theorem EvF.compIS {elt iter : Expr} {px : Pos} {scope : Scope} {cl : List (Str × Addr)} {pos : Pos} {as : List Int} {f : Int → Str} (hA : A.handled = none)
    (src : Src prog w A env s iter VI as) (S : St env σ s) (wk : Weak τ σ) (cap : Cap env scope cl τ) 
    (E : ∀ C s₃ a, a ∈ as → Up s.heap s₃.heap → St (compEnvC scope cl C env) ((x, .int a) :: τ) s₃ → Ev prog w A (compEnvC scope cl C env) s₃ elt (.str (f a)))
    (hclos : closureFor scope env = pure cl) (hcell : ∀ y ∈ scope.names, y.2 ≠ .cell) (hkind : scope.kind = .function)
    (hnames : ∀ y ∈ scope.names, y.2 = .local → scope.names.lookup y.1 = some .local) (hx : scope.names.lookup x = some .local)
    (hsz : as.length ≤ sizeLine) (hs : ∀ x, foldedSetIterable iter env x = pure x) :
    EvF prog w A env s (.ListComp elt [⟨.Name x px, iter, [], 0⟩] scope pos) true fun h vs => StrsAre vs (as.map f) := fun s' k E' =>
  wpAny_mono (EvF.comp (V := D.int) (g := fun a => .str (f a)) (q := fun _ => true) hA src.asI S wk cap (Elts.plain E) hclos hcell hkind hnames hx (fun _ => trivial) (fun _ => trivial) vi_inj (fun _ => true) (fun _ _ _ _ _ => rfl) hsz hs s' k E')
    (fun v s'' ⟨k', a, vs, h1, h2, h3, h4⟩ => ⟨k', a, vs, h1, h2, h3, by have := h4; rw [List.filter_eq_self.mpr (fun _ _ => rfl)] at this; exact den_strs this⟩) fun _ _ q => q

theorem EvF.il {e : Expr} {ns : List Int} (h : EvF prog w A env s e pf fun _ vs => IntsAre vs ns) : Ev prog w A env s e (.il ns) := fun s' k E =>
  wpAny_mono (h s' k E) (fun v s'' ⟨k', a, vs, h1, h2, h3, h4⟩ => ⟨k', a, vs, h1, h3.isList, h4⟩) fun _ _ q => q
theorem EvF.sl {e : Expr} {ns : List Str} (h : EvF prog w A env s e pf fun _ vs => StrsAre vs ns) : Ev prog w A env s e (.sl ns) := fun s' k E =>
  wpAny_mono (h s' k E) (fun v s'' ⟨k', a, vs, h1, h2, h3, h4⟩ => ⟨k', a, vs, h1, h3.isList, h4⟩) fun _ _ q => q
end
end Mine
end

section
open PySem PySem.Calls PyProof.Rows
namespace Mine

/-- all but one object stay -/
def UpBut (P : Addr) (h h' : Heap) : Prop := ∀ b o, b ≠ P → h.get? b = some o → h'.get? b = some o

section
variable {prog : Program} {w : World} {A : Around} {env : Env} {s s0 : Shared} {σ τ : List (Str × D)} {mg mb : Str → Option Value} {B B' : Addr → Obj → Prop} {pf : Bool} {x : Str} {D0 : Addr} {vs : List Value} {α : Type}
variable {hb hc : Heap} {c P L : Addr} {ps : Array Value} {m : Str → Option Value} {bm : Addr} {ob : Obj}

theorem ns_upBut {h h' : Heap} {a : Addr} {m : Str → Option Value} (t : h.TableAt c P ps) (u : UpBut P h h') (n : h.Ns a m) : h'.Ns a m := by
  obtain ⟨o, es, ep, h1, h2, h3⟩ := n
  refine ⟨o, es, ep, u a o ?_ h1, h2, h3⟩
  rintro rfl; rw [t.2] at h1; cases h1; cases h2
theorem Gx.upBut {h h' : Heap} (t : h.TableAt c P ps) (u : UpBut P h h') (G : Gx mg mb h) : Gx mg mb h' := by
  obtain ⟨mc, h1, h2⟩ := G.nolimit
  exact ⟨ns_upBut t u G.g, ns_upBut t u G.b, ⟨mc, ns_upBut t u h1, h2⟩, G.bi⟩
theorem FnAt.upBut {h h' : Heap} {name : Str} {params : Arguments} {body : List Stmt} {scope : Scope} (t : h.TableAt c P ps) (u : UpBut P h h') (F : FnAt mg h name params body scope) : FnAt mg h' name params body scope := by
  obtain ⟨a, o, pm, cd, doc, h1, h2, h3, ⟨c', o', vs', t', e1, e2, e3, e4⟩, c2, oc, e5, e6, e7⟩ := F
  have hc : c2 = c' := by rw [e5] at e1; cases e1; rfl
  subst hc
  have hcP : c2 ≠ P := by rintro rfl; rw [t.2] at e6; cases e6; exact e7 rfl
  refine ⟨a, o, pm, cd, doc, h1, u a o ?_ h2, h3, ⟨c2, o', vs', t', e1, u _ _ hcP e2, e3, e4⟩, c2, oc, e5, u _ _ hcP e6, e7⟩
  rintro rfl; rw [t.2] at h2; cases h2; cases h3

/-- the elements of a generator expression over texts or ints: bools -/
def GenElts (prog : Program) (w : World) (env : Env) (s : Shared) (P : Addr) (scope : Scope) (x : Str) (elt : Expr) (V : α → D) (as : List α) (t : α → Bool) : Prop :=
  ∀ (A' : Around) C code s₃ a, A'.handled = none → a ∈ as → UpBut P s.heap s₃.heap → St (genEnv scope [] C code builtinsNs env) [(x, V a)] s₃ → Ev prog w A' (genEnv scope [] C code builtinsNs env) s₃ elt (.bool (t a))

theorem gen_made {elt iter : Expr} {px : Pos} {scope : Scope} {pos : Pos} {V : α → D} {as : List α} {t : α → Bool} {E : Value → Shared → Prop} {Q : Value → Shared → Prop}
    (Bs : Based hb hc c P ps) (F : Fr hc L s.heap m) (Gb : AllBare s.gens) (M : BMod hc env.globals mg bm ob) (G : Gx mg mb hc) (hcode : env.code = .ref c) (hnf : codeAmong pos ps.toList = none)
    (hA : A.handled = none) (hroom : A.depth < recursionLimit)
    (src : Src prog w A env s iter (fun a v => ∀ h, Den h v (V a)) as) (hV : ∀ a, (V a).sc)
    (El : GenElts prog w env s P scope x elt V as t)
    (hco : scope.isCoroutine = false) (hclos : closureFor scope env = pure []) (hcell : ∀ y ∈ scope.names, y.2 ≠ .cell) (h0 : scope.names.lookup (".0" : Str) = some NameKind.local)
    (hx : scope.names.lookup x = some .local) (hkind : scope.kind = .function) (hs : ∀ x, genFold iter env x = pure x)
    (hQ : ∀ c' a s₅ K, Based hb (regrown hc P (ps ++ #[rawInt pos.line, rawInt pos.col, .ref c'])) c P (ps ++ #[rawInt pos.line, rawInt pos.col, .ref c']) → Fr (regrown hc P (ps ++ #[rawInt pos.line, rawInt pos.col, .ref c'])) L s₅.heap m → AllBare s₅.gens → s₅.os = s.os →
      UpBut P s.heap s₅.heap → (∀ b o, s.heap.get? b = some o → b ≤ K) → Gen prog w A K a as.length (fun j y => ∃ e, as[j]? = some e ∧ y = .bool (t e)) s₅ → Q (.ref a) s₅) :
    wpAny (model prog w) A (eval (.GeneratorExp elt [⟨.Name x px, iter, [], 0⟩] scope pos) env) Q E s := by
  refine GeneratorExp_rowsK (L := L) (m := m) Bs M hcode hnf hA hco hclos hcell h0 hx hkind hroom (src s (keeps_refl _) _ _ fun I fp Pv S s₂ k₂ W hS hfp hI hz hsq hPv => ?_) hs
  have F₂ : Fr hc L s₂.heap m := F.keeps (keeps_up k₂)
  have g₂ : s₂.gens = s.gens := by obtain ⟨h', tk, rfl, _⟩ := k₂; rfl
  have o₂ : s₂.os = s.os := by obtain ⟨h', tk, rfl, _⟩ := k₂; rfl
  have lim : s₂.heap.NoLimit := (G.nolimit.keeps F.keep).keeps (keeps_up k₂)
  have live : ∀ b o, s.heap.get? b = some o → b < I := fun b o e => by
    have h1 := Heap.lt_size (keeps_up k₂ b o e)
    rw [hz] at h1
    have hb : b ≠ I := by rintro rfl; rw [hI] at e; cases e
    exact Nat.lt_of_le_of_ne (Nat.le_of_lt_succ h1) hb
  have hPl := (Bs.tabAt F).2
  have hIpos : P < I := live _ _ hPl
  obtain ⟨mc, hst, _⟩ := (G.nolimit.keeps F.keep)
  have hPI : P ≠ I := Nat.ne_of_lt hIpos
  refine ⟨F₂, by rw [g₂]; exact Gb, lim, I - 1, I, fp, [I], as.length, Pv, S, fun _ => true, fun i y => ∃ e, as[i]? = some e ∧ y = .bool (t e), ?_, rfl, W, hS, hfp, ?_, ?_, ?_, ?_, ?_⟩
  · rw [hz]; omega
  · intro hm
    rcases hsq _ hm with e | ⟨o, xs, n, T, h1, h2, h3⟩
    · exact hPI e
    · have := (Bs.tabAt F₂).2
      rw [this] at h1; cases h1; cases h2
  · intro b hm
    have : b = I := by simpa using hm
    subst this
    have hh : 0 < b := Nat.lt_of_le_of_lt (Nat.zero_le _) hIpos
    show b - 1 < b
    exact Nat.sub_lt hh Nat.one_pos
  · intro hm
    have hm' : cStatics = I := by simpa using hm
    obtain ⟨o, _, _, h1, _⟩ := hst
    have := live _ _ h1
    rw [hm'] at this
    exact Nat.lt_irrefl _ this
  · intro code h₃ href hx₃ hsz₃ hhref
    have up : ∀ s₃ : Shared, (∀ b ∈ List.range h₃.objs.size, b ∉ [I] → ∀ o, href.get? b = some o → s₃.heap.get? b = some o) → UpBut P s.heap s₃.heap := fun s₃ hk b o hbP e => by
      have e2 := hx₃ b o hbP (keeps_up k₂ b o e)
      refine hk b (List.mem_range.mpr (Heap.lt_size e2)) ?_ o (hhref b o e2)
      intro hm
      have hm' : b = I := by simpa using hm
      exact Nat.ne_of_lt (live b o e) hm'
    refine ⟨fun A' E' i v s₃ m₂ hA' hPv' hn hm hk => ?_, fun A' E' i v s₃ m₂ hA' hPv' _ hn hm hk => ?_⟩
    · rw [List.forIn_nil]; exact wpAny_pure ⟨rfl, keeps_refl _⟩
    · obtain ⟨a, ha, hd⟩ := hPv i v hPv'
      have S3 : St (genEnv scope [] h₃.objs.size code builtinsNs env) [(x, V a)] s₃ := by
        refine ⟨hkind, ⟨m₂, hn, fun y d e1 e2 => ?_⟩, fun y d e1 e2 => ?_⟩
        · rw [List.lookup_cons] at e1
          by_cases hy : y = x
          · subst hy; simp at e1; subst e1; exact ⟨v, hm, hd _⟩
          · have hb' : (y == x) = false := beq_eq_false_iff_ne.mpr hy
            rw [hb'] at e1; cases e1
        · rw [List.lookup_cons] at e1
          by_cases hy : y = x
          · subst hy
            have e2' : scope.names.lookup y = some .cell := e2
            rw [hx] at e2'; cases e2'
          · have hb' : (y == x) = false := beq_eq_false_iff_ne.mpr hy
            rw [hb'] at e1; cases e1
      exact wpAny_mono (El A' _ code s₃ a hA' (List.mem_of_getElem? ha) (up s₃ hk) S3 s₃ (keeps_refl _) E') (fun y s₄ r => ⟨⟨a, ha, r.2⟩, r.1⟩) fun _ _ r => r
  · intro c' a s₅ B₅ F₅ G₅ os₅ k₅ X₅
    have pass : passing (fun _ => true) as.length 0 = List.range as.length := by
      unfold passing; rw [List.drop_zero, List.filter_eq_self.mpr fun _ _ => rfl]
    rw [pass, List.length_range] at X₅
    refine hQ c' a s₅ (I - 1) B₅ F₅ G₅ (os₅.trans o₂) (fun b o hbP e => k₅ b o hbP (keeps_up k₂ b o e)) (fun b o e => Nat.le_sub_one_of_lt (live b o e)) ?_
    obtain ⟨fp', wr', g', St', W', h1, h2, h3, h4, h5⟩ := X₅
    refine ⟨fp', wr', g', St', ?_, h1, h2, h3, h4, h5⟩
    have hF : ∀ (j : Nat) (y : Value), (∃ i, (List.range as.length)[j]? = some i ∧ ∃ e, as[i]? = some e ∧ y = Value.bool (t e)) → ∃ e, as[j]? = some e ∧ y = Value.bool (t e) := by
      rintro j y ⟨i, hi, r⟩
      have hlt : j < as.length := by
        rcases Nat.lt_or_ge j as.length with q | q
        · exact q
        · rw [List.getElem?_eq_none (by simpa using q)] at hi; cases hi
      have : i = j := by
        rw [List.getElem?_range hlt] at hi
        exact (Option.some.inj hi).symm
      subst this; exact r
    exact ⟨W'.sub, W'.grefl, W'.gtrans, W'.frame, fun j s Q E hj st hQ => W'.item j s Q E hj st fun v s' hv => hQ v s' (hF j v hv), W'.done, W'.self⟩

theorem any_range (as : List α) (t : α → Bool) : (List.range as.length).any (fun j => (as[j]?).elim false t) = as.any t := by
  rw [Bool.eq_iff_iff, List.any_eq_true, List.any_eq_true]
  constructor
  · rintro ⟨j, hj, h⟩
    cases e : as[j]? with
    | none => rw [e] at h; cases h
    | some a => rw [e] at h; exact ⟨a, List.mem_of_getElem? e, h⟩
  · rintro ⟨a, ha, h⟩
    obtain ⟨j, hj, e⟩ := List.mem_iff_getElem.mp ha
    refine ⟨j, List.mem_range.mpr hj, ?_⟩
    rw [List.getElem?_eq_getElem hj, e]; exact h
theorem all_range (as : List α) (t : α → Bool) : (List.range as.length).all (fun j => (as[j]?).elim true t) = as.all t := by
  rw [Bool.eq_iff_iff, List.all_eq_true, List.all_eq_true]
  constructor
  · intro h a ha
    obtain ⟨j, hj, e⟩ := List.mem_iff_getElem.mp ha
    have := h j (List.mem_range.mpr hj)
    rw [List.getElem?_eq_getElem hj, e] at this; exact this
  · intro h j hj
    have hj' := List.mem_range.mp hj
    rw [List.getElem?_eq_getElem hj']
    exact h _ (List.getElem_mem hj')

/-- any(.. for ..), as a test -/
theorem any_test {y : Str} {p pos2 : Pos} {elt iter : Expr} {px : Pos} {scope : Scope} {pos : Pos} {V : α → D} {as : List α} {t : α → Bool} {E : Value → Shared → Prop} {Q : Bool → Shared → Prop}
    (N : EnvG env) (hm : mg y = none) (hbt : bootBuiltins y = some (.builtin "any")) (hxy : env.kindOf y = some .globalImplicit) (hn : y ≠ "__name__") (hd : (y == ("__debug__" : Str)) = false)
    (Bs : Based hb hc c P ps) (F : Fr hc L s.heap m) (Gb : AllBare s.gens) (M : BMod hc env.globals mg bm ob) (G : Gx mg mb hc) (hcode : env.code = .ref c) (hnf : codeAmong pos ps.toList = none)
    (hA : A.handled = none) (hroom : A.depth < recursionLimit)
    (src : Src prog w A env s iter (fun a v => ∀ h, Den h v (V a)) as) (hV : ∀ a, (V a).sc)
    (El : GenElts prog w env s P scope x elt V as t)
    (hco : scope.isCoroutine = false) (hclos : closureFor scope env = pure []) (hcell : ∀ y ∈ scope.names, y.2 ≠ .cell) (h0 : scope.names.lookup (".0" : Str) = some NameKind.local)
    (hx : scope.names.lookup x = some .local) (hkind : scope.kind = .function) (hs : ∀ x, genFold iter env x = pure x)
    (h2 : starEach [.GeneratorExp elt [⟨.Name x px, iter, [], 0⟩] scope pos] env = (false, eval (.GeneratorExp elt [⟨.Name x px, iter, [], 0⟩] scope pos) env) :: starEach [] env)
    (hp : isTrue (.Call (.Name y p) [.GeneratorExp elt [⟨.Name x px, iter, [], 0⟩] scope pos] [] pos2) env (eval (.Call (.Name y p) [.GeneratorExp elt [⟨.Name x px, iter, [], 0⟩] scope pos] [] pos2) env) =
      (do let v ← eval (.Call (.Name y p) [.GeneratorExp elt [⟨.Name x px, iter, [], 0⟩] scope pos] [] pos2) env; standAt (Expr.pos (.Call (.Name y p) [.GeneratorExp elt [⟨.Name x px, iter, [], 0⟩] scope pos] [] pos2)); holding [v] (truthy v)))
    (hQ : ∀ c' s', Based hb (regrown hc P (ps ++ #[rawInt pos.line, rawInt pos.col, .ref c'])) c P (ps ++ #[rawInt pos.line, rawInt pos.col, .ref c']) → Fr (regrown hc P (ps ++ #[rawInt pos.line, rawInt pos.col, .ref c'])) L s'.heap m → AllBare s'.gens → s'.os = s.os →
      UpBut P s.heap s'.heap → Q (as.any t) s') :
    wpAny (model prog w) A (isTrue (.Call (.Name y p) [.GeneratorExp elt [⟨.Name x px, iter, [], 0⟩] scope pos] [] pos2) env (eval (.Call (.Name y p) [.GeneratorExp elt [⟨.Name x px, iter, [], 0⟩] scope pos] [] pos2) env)) Q E s := by
  refine isTrue_plain (he := hp) (Call_ (he := rfl) (name_builtin N (G.up F.keep) hm hbt hxy hn hd (PyProof.Rows.callWith_builtin1 (he := h2) (hplain := rfl) (spliced_more (he := h2)
    (gen_made Bs F Gb M G hcode hnf hA hroom src hV El hco hclos hcell h0 hx hkind hs fun c' a s₅ K B₅ F₅ G₅ os₅ k₅ hK X₅ => spliced_none ?_)))))
  have hLK : L ≤ K := by
    obtain ⟨o, _, _, h1, _⟩ := F.ns
    exact hK _ _ h1
  refine any_rowsK F₅ G₅ X₅ hLK (fun j => (as[j]?).elim false t) (fun j v s Q E hv hq => ?_) fun s' F' G' os' k' => wpAny_truthy_bool ?_
  · obtain ⟨e, he, rfl⟩ := hv
    have hq' : Q ((as[j]?).elim false t) s := hq
    rw [he] at hq'
    exact wpAny_truthy_bool hq'
  · rw [any_range]
    exact hQ c' s' B₅ F' G' (os'.trans os₅) fun b o hb e => k' b o (hK b o e) (k₅ b o hb e)

/-- all(.. for ..), as a test -/
theorem all_test {y : Str} {p pos2 : Pos} {elt iter : Expr} {px : Pos} {scope : Scope} {pos : Pos} {V : α → D} {as : List α} {t : α → Bool} {E : Value → Shared → Prop} {Q : Bool → Shared → Prop}
    (N : EnvG env) (hm : mg y = none) (hbt : bootBuiltins y = some (.builtin "all")) (hxy : env.kindOf y = some .globalImplicit) (hn : y ≠ "__name__") (hd : (y == ("__debug__" : Str)) = false)
    (Bs : Based hb hc c P ps) (F : Fr hc L s.heap m) (Gb : AllBare s.gens) (M : BMod hc env.globals mg bm ob) (G : Gx mg mb hc) (hcode : env.code = .ref c) (hnf : codeAmong pos ps.toList = none)
    (hA : A.handled = none) (hroom : A.depth < recursionLimit)
    (src : Src prog w A env s iter (fun a v => ∀ h, Den h v (V a)) as) (hV : ∀ a, (V a).sc)
    (El : GenElts prog w env s P scope x elt V as t)
    (hco : scope.isCoroutine = false) (hclos : closureFor scope env = pure []) (hcell : ∀ y ∈ scope.names, y.2 ≠ .cell) (h0 : scope.names.lookup (".0" : Str) = some NameKind.local)
    (hx : scope.names.lookup x = some .local) (hkind : scope.kind = .function) (hs : ∀ x, genFold iter env x = pure x)
    (h2 : starEach [.GeneratorExp elt [⟨.Name x px, iter, [], 0⟩] scope pos] env = (false, eval (.GeneratorExp elt [⟨.Name x px, iter, [], 0⟩] scope pos) env) :: starEach [] env)
    (hp : isTrue (.Call (.Name y p) [.GeneratorExp elt [⟨.Name x px, iter, [], 0⟩] scope pos] [] pos2) env (eval (.Call (.Name y p) [.GeneratorExp elt [⟨.Name x px, iter, [], 0⟩] scope pos] [] pos2) env) =
      (do let v ← eval (.Call (.Name y p) [.GeneratorExp elt [⟨.Name x px, iter, [], 0⟩] scope pos] [] pos2) env; standAt (Expr.pos (.Call (.Name y p) [.GeneratorExp elt [⟨.Name x px, iter, [], 0⟩] scope pos] [] pos2)); holding [v] (truthy v)))
    (hQ : ∀ c' s', Based hb (regrown hc P (ps ++ #[rawInt pos.line, rawInt pos.col, .ref c'])) c P (ps ++ #[rawInt pos.line, rawInt pos.col, .ref c']) → Fr (regrown hc P (ps ++ #[rawInt pos.line, rawInt pos.col, .ref c'])) L s'.heap m → AllBare s'.gens → s'.os = s.os →
      UpBut P s.heap s'.heap → Q (as.all t) s') :
    wpAny (model prog w) A (isTrue (.Call (.Name y p) [.GeneratorExp elt [⟨.Name x px, iter, [], 0⟩] scope pos] [] pos2) env (eval (.Call (.Name y p) [.GeneratorExp elt [⟨.Name x px, iter, [], 0⟩] scope pos] [] pos2) env)) Q E s := by
  refine isTrue_plain (he := hp) (Call_ (he := rfl) (name_builtin N (G.up F.keep) hm hbt hxy hn hd (PyProof.Rows.callWith_builtin1 (he := h2) (hplain := rfl) (spliced_more (he := h2)
    (gen_made Bs F Gb M G hcode hnf hA hroom src hV El hco hclos hcell h0 hx hkind hs fun c' a s₅ K B₅ F₅ G₅ os₅ k₅ hK X₅ => spliced_none ?_)))))
  have hLK : L ≤ K := by
    obtain ⟨o, _, _, h1, _⟩ := F.ns
    exact hK _ _ h1
  refine all_rowsK F₅ G₅ X₅ hLK (fun j => (as[j]?).elim true t) (fun j v s Q E hv hq => ?_) fun s' F' G' os' k' => wpAny_truthy_bool ?_
  · obtain ⟨e, he, rfl⟩ := hv
    have hq' : Q ((as[j]?).elim true t) s := hq
    rw [he] at hq'
    exact wpAny_truthy_bool hq'
  · rw [all_range]
    exact hQ c' s' B₅ F' G' (os'.trans os₅) fun b o hb e => k' b o (hK b o e) (k₅ b o hb e)

/-- a or b, as a value -/
theorem Ev.orB {a b : Expr} {pos : Pos} {p q : Bool} (ha : Ev prog w A env s a (.bool p)) (hb : Ev prog w A env s b (.bool q)) : Ev prog w A env s (.BoolOp .Or [a, b] pos) (.bool (p || q)) := fun s' k E => by
  refine BoolOp_or (ev_then ha k ?_)
  rintro _ s₁ k₁ rfl
  refine wpAny_truthy_bool ?_
  cases p with
  | true => exact ⟨k₁, rfl⟩
  | false => exact BoolOp_one (wpAny_mono (hb s₁ (keeps_trans k k₁) E) (fun v s₂ r => ⟨keeps_trans k₁ r.1, r.2⟩) fun _ _ r => r)
theorem Ev.andB {a b : Expr} {pos : Pos} {p q : Bool} (ha : Ev prog w A env s a (.bool p)) (hb : Ev prog w A env s b (.bool q)) : Ev prog w A env s (.BoolOp .And [a, b] pos) (.bool (p && q)) := fun s' k E => by
  refine BoolOp_and (ev_then ha k ?_)
  rintro _ s₁ k₁ rfl
  refine wpAny_truthy_bool ?_
  cases p with
  | false => exact ⟨k₁, rfl⟩
  | true => exact BoolOp_one (wpAny_mono (hb s₁ (keeps_trans k k₁) E) (fun v s₂ r => ⟨keeps_trans k₁ r.1, r.2⟩) fun _ _ r => r)

/-! text methods -/
theorem Ev.lower {e : Expr} {pa pos : Pos} {y : Str} (he : Ev prog w A env s e (.str y)) (hl : y.length ≤ 5592405) (hm : MethOk env e (Str.ofString "lower") pa [] pos) :
    Ev prog w A env s (.Call (.Attribute e (Str.ofString "lower") pa) [] [] pos) (.str (Txt.lower y)) := fun s' k E => by
  obtain ⟨pl, hm⟩ := hm
  refine MethodCall_ (he := hm) (ev_then he k ?_)
  rintro _ s₁ k₁ ⟨t, rfl⟩
  with_reducible refine GM.lower ?_
  exact callWith_method0 (SCL.lower hl fun _ => ⟨keeps_trans k₁ (keeps_toks _ _), _, rfl⟩)
theorem Ev.upper {e : Expr} {pa pos : Pos} {y : Str} (he : Ev prog w A env s e (.str y)) (hl : y.length ≤ 5592405) (hm : MethOk env e (Str.ofString "upper") pa [] pos) :
    Ev prog w A env s (.Call (.Attribute e (Str.ofString "upper") pa) [] [] pos) (.str (Txt.upper y)) := fun s' k E => by
  obtain ⟨pl, hm⟩ := hm
  refine MethodCall_ (he := hm) (ev_then he k ?_)
  rintro _ s₁ k₁ ⟨t, rfl⟩
  with_reducible refine GM.upper ?_
  exact callWith_method0 (SCL.upper hl fun _ => ⟨keeps_trans k₁ (keeps_toks _ _), _, rfl⟩)
theorem Ev.rfind {e a : Expr} {pa pos : Pos} {y z : Str} (he : Ev prog w A env s e (.str y)) (ha : Ev prog w A env s a (.str z)) (h2 : starEach [a] env = (false, eval a env) :: starEach [] env) (hm : MethOk env e (Str.ofString "rfind") pa [a] pos) :
    Ev prog w A env s (.Call (.Attribute e (Str.ofString "rfind") pa) [a] [] pos) (.int (Txt.rfind y z)) := fun s' k E => by
  obtain ⟨pl, hm⟩ := hm
  refine MethodCall_ (he := hm) (ev_then he k ?_)
  rintro _ s₁ k₁ ⟨t, rfl⟩
  with_reducible refine GM.rfind ?_
  refine callWith_method1 (he := h2) (hplain := rfl) (den_one (Evs.cons ha .nil h2) (keeps_trans k k₁) ?_)
  rintro _ s₂ k₂ ⟨u, rfl⟩
  exact SC.rfind ⟨keeps_trans (keeps_trans k₁ k₂) (keeps_toks _ _), _, rfl⟩
theorem Ev.find {e a : Expr} {pa pos : Pos} {y z : Str} (he : Ev prog w A env s e (.str y)) (ha : Ev prog w A env s a (.str z)) (h2 : starEach [a] env = (false, eval a env) :: starEach [] env) (hm : MethOk env e (Str.ofString "find") pa [a] pos) :
    Ev prog w A env s (.Call (.Attribute e (Str.ofString "find") pa) [a] [] pos) (.int (Txt.find y z)) := fun s' k E => by
  obtain ⟨pl, hm⟩ := hm
  refine MethodCall_ (he := hm) (ev_then he k ?_)
  rintro _ s₁ k₁ ⟨t, rfl⟩
  with_reducible refine GM.find ?_
  refine callWith_method1 (he := h2) (hplain := rfl) (den_one (Evs.cons ha .nil h2) (keeps_trans k k₁) ?_)
  rintro _ s₂ k₂ ⟨u, rfl⟩
  exact SC.find ⟨keeps_trans (keeps_trans k₁ k₂) (keeps_toks _ _), _, rfl⟩
theorem Ev.join {e a : Expr} {pa pos : Pos} {y : Str} {zs : List Str} (he : Ev prog w A env s e (.str y)) (ha : Ev prog w A env s a (.sl zs)) (hy : y.length ≤ 64) (hz : (zs.map (·.length)).sum + zs.length * 64 ≤ 16777216)
    (h2 : starEach [a] env = (false, eval a env) :: starEach [] env) (hm : MethOk env e (Str.ofString "join") pa [a] pos) :
    Ev prog w A env s (.Call (.Attribute e (Str.ofString "join") pa) [a] [] pos) (.str (Txt.join y zs)) := fun s' k E => by
  obtain ⟨pl, hm⟩ := hm
  refine MethodCall_ (he := hm) (ev_then he k ?_)
  rintro _ s₁ k₁ ⟨t, rfl⟩
  with_reducible refine GM.join ?_
  refine callWith_method1 (he := h2) (hplain := rfl) (den_one (Evs.cons ha .nil h2) (keeps_trans k k₁) ?_)
  rintro _ s₂ k₂ ⟨a, vs, rfl, hL, hi⟩
  exact join_listC hL (by simpa using hi) hy hz fun t' k' => ⟨keeps_trans (keeps_trans k₁ k₂) (keeps_toks _ _), _, rfl⟩
/-- list(l) -/
theorem Ev.copy {y : Str} {e : Expr} {p pos : Pos} {ns : List Int} (N : EnvG env) (G : Gx mg mb s.heap) (hm : mg y = none) (hb : bootBuiltins y = some (.type "list"))
    (he : Ev prog w A env s e (.il ns)) (hx : env.kindOf y = some .globalImplicit) (hn : y ≠ "__name__") (hd : (y == ("__debug__" : Str)) = false)
    (h2 : starEach [e] env = (false, eval e env) :: starEach [] env) (hsz : ns.length ≤ sizeLine) : Ev prog w A env s (.Call (.Name y p) [e] [] pos) (.il ns) := fun s' k E => by
  refine Call_ (he := rfl) (name_builtin N (G.up (keeps_up k)) hm hb hx hn hd (Pv.callWith_type1 (he := h2) (hplain := rfl) (den_one (Evs.cons he .nil h2) k fun v s₁ k₁ d₁ => ?_)))
  obtain ⟨a, vs, rfl, ⟨o, ho, hc, n, hd⟩, hi⟩ := d₁
  refine call_list_seq a (.inl rfl) ho hc hd (fun h' c' u e => ⟨keeps_trans k₁ ⟨h', s₁.toks, rfl, u⟩, _, vs, rfl, ⟨_, e, rfl, c', rfl⟩, hi⟩) (by rw [List.size_toArray, intsAre_len hi]; exact hsz)
end
end Mine
end

section
open PySem PySem.Calls PyProof.Rows
namespace Mine

theorem xor_and (a b : Nat) : (a ^^^ b) + 2 * (a &&& b) = a + b := by
  induction a using Nat.strongRecOn generalizing b with
  | ind a ih =>
    by_cases h : a = 0
    · subst h; simp
    · have := ih (a / 2) (by omega) (b / 2)
      have e1 : (a ^^^ b) / 2 = a / 2 ^^^ b / 2 := Nat.xor_div_two
      have e2 : (a &&& b) / 2 = a / 2 &&& b / 2 := Nat.and_div_two
      have e3 : (a ^^^ b) % 2 = (a % 2) ^^^ (b % 2) := by simpa using @Nat.xor_mod_two_pow a b 1
      have e4 : (a &&& b) % 2 = (a % 2) &&& (b % 2) := by simpa using @Nat.and_mod_two_pow a b 1
      rw [← e1, ← e2] at this
      clear e1 e2
      generalize a ^^^ b = x at *
      generalize a &&& b = y at *
      have h1 := Nat.mod_two_eq_zero_or_one a
      have h2 := Nat.mod_two_eq_zero_or_one b
      rcases h1 with h1 | h1 <;> rcases h2 with h2 | h2 <;> rw [h1, h2] at e3 e4
      · have q1 : x % 2 = 0 := e3; have q2 : y % 2 = 0 := e4; clear e3 e4; omega
      · have q1 : x % 2 = 1 := e3; have q2 : y % 2 = 0 := e4; clear e3 e4; omega
      · have q1 : x % 2 = 1 := e3; have q2 : y % 2 = 0 := e4; clear e3 e4; omega
      · have q1 : x % 2 = 0 := e3; have q2 : y % 2 = 1 := e4; clear e3 e4; omega

theorem bitAnd_nat (a b : Nat) : Builtin.bitAnd (a : Int) (b : Int) = ((a &&& b : Nat) : Int) := by
  rw [bitAnd_pp (by omega) (by omega)]; simp
theorem bitXor_nat (a b : Nat) : Builtin.bitXor (a : Int) (b : Int) = ((a ^^^ b : Nat) : Int) := by
  rw [bitXor_and, bitAnd_nat]
  have := xor_and a b
  omega

/-! ## the checksum's polynomial, on naturals -/
def gensN : List Nat := [996825010, 642813549, 513874426, 1027748829, 705979059]
def pin (top c i : Nat) : Nat := c ^^^ (if (top / 2 ^ i) &&& 1 != 0 then gensN.getD i 0 else 0)
def pstep (c v : Nat) : Nat := (List.range 5).foldl (pin (c / 2 ^ 25)) (((c &&& 33554431) * 32) ^^^ v)
def pmod (vs : List Nat) : Nat := vs.foldl pstep 1
end Mine
namespace Mine
/-! ## the law's own remainder -/
structure R6 where
  u : Nat
  v : Nat
  w : Nat
  x : Nat
  y : Nat
  z : Nat
def R6.list (r : R6) : List Nat := [r.u, r.v, r.w, r.x, r.y, r.z]
def R6.ok (r : R6) : Prop := r.u < 32 ∧ r.v < 32 ∧ r.w < 32 ∧ r.x < 32 ∧ r.y < 32 ∧ r.z < 32
def rstep (a b c d e : List Nat) (r : R6) (n : Nat) : R6 := ⟨a.getD r.u 0 ^^^ r.v, b.getD r.u 0 ^^^ r.w, c.getD r.u 0 ^^^ r.x, d.getD r.u 0 ^^^ r.y, a.getD r.u 0 ^^^ r.z, e.getD r.u 0 ^^^ n⟩
def TabOk (t : List Nat) : Prop := t.length = 32 ∧ ∀ v ∈ t, v < 32
theorem TabOk.get {t : List Nat} (h : TabOk t) (i : Nat) : t.getD i 0 < 32 := by
  rw [List.getD_eq_getElem?_getD]
  cases e : t[i]? with
  | none => decide
  | some v => exact h.2 v (List.mem_of_getElem? e)
theorem xor32 {a b : Nat} (ha : a < 32) (hb : b < 32) : a ^^^ b < 32 := Nat.xor_lt_two_pow (n := 5) ha hb
theorem rstep_ok {a b c d e : List Nat} (ha : TabOk a) (hb : TabOk b) (hc : TabOk c) (hd : TabOk d) (he : TabOk e) {r : R6} (hr : r.ok) {n : Nat} (hn : n < 32) : (rstep a b c d e r n).ok :=
  ⟨xor32 (ha.get _) hr.2.1, xor32 (hb.get _) hr.2.2.1, xor32 (hc.get _) hr.2.2.2.1, xor32 (hd.get _) hr.2.2.2.2.1, xor32 (ha.get _) hr.2.2.2.2.2, xor32 (he.get _) hn⟩
theorem rfold_ok {a b c d e : List Nat} (ha : TabOk a) (hb : TabOk b) (hc : TabOk c) (hd : TabOk d) (he : TabOk e) : ∀ (vs : List Nat) (r : R6), r.ok → (∀ v ∈ vs, v < 32) → (vs.foldl (rstep a b c d e) r).ok
  | [], r, hr, _ => hr
  | v :: vs, r, hr, h => rfold_ok ha hb hc hd he vs _ (rstep_ok ha hb hc hd he hr (h v (.head _))) fun v hv => h v (.tail _ hv)
def rest0 : R6 := ⟨0, 0, 0, 0, 0, 0⟩
theorem rest0_ok : rest0.ok := by simp [R6.ok, rest0]
end Mine
namespace Mine
/-! ## the law's tables -/
def pst (p : Nat) : Nat := if 31 < p * 2 then (p * 2) ^^^ 41 else p * 2
def pwr : Nat → Nat
  | 0 => 1
  | j + 1 => pst (pwr j)
theorem pst_lt : ∀ p, p < 32 → pst p < 32 := by decide
theorem pwr_lt : ∀ j, pwr j < 32
  | 0 => by decide
  | j + 1 => pst_lt _ (pwr_lt j)
def POW : List Nat := (List.range 31).map pwr
def tabIn (start k : Nat) (t : List Nat) : List Nat := t.set (POW.getD k 0) (POW.getD ((start + k) % 31) 0)
def tabOf (number : Nat) : List Nat := (List.range 31).foldl (fun t k => tabIn (POW.idxOf number) k t) (List.replicate 32 0)
theorem POW_get {k : Nat} : POW.getD k 0 < 32 := by
  rw [List.getD_eq_getElem?_getD]
  cases e : POW[k]? with
  | none => decide
  | some v =>
    obtain ⟨j, _, rfl⟩ := List.mem_map.mp (List.mem_of_getElem? e)
    exact pwr_lt j
theorem POW_len : POW.length = 31 := by simp [POW]
end Mine
end

section
open PySem PySem.Calls PyProof.Rows
namespace Mine

/-! ## the program's parts, by their places -/
abbrev P : Program := PySem.Challenge.pw_oo0006_01
def stAt (i : Nat) : Stmt := (P.main.body[i]?).getD (.Pass default)
def fnBody (i : Nat) : List Stmt := match stAt i with | .FunctionDef _ _ b .. => b | _ => []
def fnParams (i : Nat) : Arguments := match stAt i with | .FunctionDef _ a .. => a | _ => default
def fnScope (i : Nat) : Scope := match stAt i with | .FunctionDef _ _ _ _ _ _ sc .. => sc | _ => default

def CH : Str := Str.ofString "qpzry9x8gf2tvdw0s3jn54khce6mua7l"

structure Nm (mg : Str → Option Value) : Prop where
  len : mg (Str.ofString "len") = none
  abs : mg (Str.ofString "abs") = none
  chr : mg (Str.ofString "chr") = none
  ord : mg (Str.ofString "ord") = none
  range : mg (Str.ofString "range") = none
  any : mg (Str.ofString "any") = none
  all : mg (Str.ofString "all") = none
  list : mg (Str.ofString "list") = none
  charset : ∃ t, mg (Str.ofString "CHARSET") = some (.str CH t)
  signs : ∃ t, mg (Str.ofString "_law_signs") = some (.str CH t)

section
variable {w : World} {A : Around} {env : Env} {s s0 : Shared} {σ : List (Str × D)} {mg mb : Str → Option Value} {h : Heap} {B : Addr → Obj → Prop}

theorem env_ok {name : Str} {scope : Scope} {L a : Addr} {cd : Value} (hk : scope.kind = .function) : EnvG (envOf name scope L a cd) := ⟨hk, rfl, rfl⟩

theorem nl {x : Str} {p : Pos} {d : D} (S : St env σ s) (h : σ.lookup x = some d := by rfl) (hk : env.kindOf x = some .local := by rfl)
    (hd : (x == ("__debug__" : Str)) = false := by rfl) : Ev P w A env s (.Name x p) d := Ev.name S h (.inl hk) hd
theorem nc {x : Str} {p : Pos} {d : D} (S : St env σ s) (h : σ.lookup x = some d := by rfl) (hk : env.kindOf x = some .cell := by rfl)
    (hd : (x == ("__debug__" : Str)) = false := by rfl) : Ev P w A env s (.Name x p) d := Ev.name S h (.inr hk) hd

def atV (ns : List Int) (k o : Int) : Int := if k < ns.length then ns.getD k.toNat 0 else o

theorem at_body {n : Nat} {L a : Addr} {cd : Value} {ns : List Int} {k o : Int} (hA : Good A n) (G : Gx mg mb h) (hu : ∀ b o, h.get? b = some o → B b o) (M : Nm mg) (hsz : ns.length ≤ sizeLine) (hk : 0 ≤ k) 
    (F : Fx B s (envOf (Str.ofString "_law_at") (fnScope 8) L a cd) [(Str.ofString "script", .il ns), (Str.ofString "k", .int k), (Str.ofString "other", .int o)] s) :
    wpAny (model P w) A (execs (fnBody 8) (envOf (Str.ofString "_law_at") (fnScope 8) L a cd)) (Back B s (.int (atV ns k o))) (fun _ _ => False) s := by
  have S := F.st
  refine F.ret (Ev.as (Ev.iteInt (x := ns.getD k.toNat 0) (y := o) (Ts.cmp (Ev.call1 (env_ok rfl) (G.up (F.up hu)) M.len boot_len (nl S) (py_len hsz) rfl (by decide) rfl rfl) (nl S) ok_gt)
    (fun e => Ev.itemI (nl S) (nl S) hk (by simpa using e) ?_) (fun e => nl S)) ?_)
  · have := sizeLine_lt
    have : k < ns.length := by simpa using e
    omega
  · unfold atV; simp
end
end Mine
end

section
open PySem PySem.Calls PyProof.Rows
namespace Mine

def digs (b : Int) : Nat → Int → List Int
  | 0, _ => []
  | m + 1, n => n.fmod b :: (if b ≤ n then digs b m (n.fdiv b) else [])
theorem digs_len (b : Int) : ∀ (m : Nat) (n : Int), (digs b m n).length ≤ m
  | 0, _ => Nat.le_refl _
  | m + 1, n => by
    unfold digs
    split
    · simpa using digs_len b m (n.fdiv b)
    · simp
theorem digs_pos (b : Int) (m : Nat) (n : Int) : 1 ≤ (digs b (m + 1) n).length := by unfold digs; simp
theorem digs_mem (b : Int) (hb : 0 < b) : ∀ (m : Nat) (n : Int), ∀ v ∈ digs b m n, 0 ≤ v ∧ v < b
  | 0, _, v, h => by simp [digs] at h
  | m + 1, n, v, h => by
    unfold digs at h
    rcases List.mem_cons.mp h with rfl | h
    · exact ⟨Int.fmod_nonneg_of_pos n hb, Int.fmod_lt_of_pos n hb⟩
    · split at h
      · exact digs_mem b hb m _ v h
      · simp at h

def absI (i : Int) : Int := if i < 0 then -i else i
def digV (n b : Int) (m : Int) : List Int := digs b m.toNat (absI n)

theorem pylong_small {a b : Int} (h0 : 0 < b) (h1 : b < 2 ^ 32) : Builtin.divisionGoesByPylong a b = false := by
  refine PyProof.noPylong_of_log2 ?_
  have : b.natAbs < 2 ^ 32 := by omega
  have hb : b.natAbs ≠ 0 := by omega
  have := (Nat.log2_lt hb).mpr this
  omega

section
variable {w : World} {A : Around} {env : Env} {s s0 : Shared} {σ : List (Str × D)} {mg mb : Str → Option Value} {h : Heap} {B : Addr → Obj → Prop}

theorem digits_body {n : Nat} {L a : Addr} {cd : Value} {i b m : Int} (hA : Good A n) (G : Gx mg mb h) (hu : ∀ b o, h.get? b = some o → B b o) (M : Nm mg) (hb0 : 2 ≤ b) (hb1 : b < 2 ^ 32) (hm0 : 1 ≤ m) (hm1 : m ≤ 1000)
    (F : Fx B s (envOf (Str.ofString "_law_digits") (fnScope 9) L a cd) [(Str.ofString "number", .int i), (Str.ofString "base", .int b), (Str.ofString "most", .int m)] s) :
    wpAny (model P w) A (execs (fnBody 9) (envOf (Str.ofString "_law_digits") (fnScope 9) L a cd)) (Back B s (.il (digV i b m))) (fun _ _ => False) s := by
  have N : EnvG (envOf (Str.ofString "_law_digits") (fnScope 9) L a cd) := env_ok rfl
  refine F.assign (d := .int (absI i)) (Ev.call1 N (G.up (F.up hu)) M.abs boot_abs (nl F.st) py_abs rfl (by decide) rfl rfl) (.inl rfl) rfl fun s₁ F₁ => ?_
  refine F₁.assignNew (EvF.disp (ds := [.int ((absI i).fmod b)]) (Evs.cons (Ev.bin (nl F₁.st) (nl F₁.st) (ok_mod (by omega))) .nil rfl) (show 1 ≤ sizeLine by decide)) (.inl rfl) rfl fun a₀ vs s₂ s₃ k₂ hψ sq hn M₃ => ?_
  -- the loop
  have hi0 : IntsAre vs [(absI i).fmod b] := intsAre_of (h := s₂.heap) hψ.1 hψ.2
  let e := envOf (Str.ofString "_law_digits") (fnScope 9) L a cd
  let Inv : Nat → Shared → Prop := fun k s' => ∃ (vs : List Value) (acc : List Int) (c : Int),
    Fm B s e true (Str.ofString "digits") a₀ vs [(Str.ofString "number", .int c), (Str.ofString "base", .int b), (Str.ofString "most", .int m)] s' ∧
    IntsAre vs acc ∧ 1 ≤ acc.length ∧ acc.length ≤ m.toNat ∧ acc ++ (if b ≤ c then digs b (m.toNat - acc.length) (c.fdiv b) else []) = digV i b m ∧ k = m.toNat - acc.length
  have hsz : m.toNat ≤ sizeLine := by have : 1000 ≤ sizeLine := (by decide); omega
  have hsz' : m.toNat < sizeLine := by have : 1000 < sizeLine := (by decide); omega
  refine while_rule Inv (fun s' => ∃ vs, Fm B s e true (Str.ofString "digits") a₀ vs [] s' ∧ IntsAre vs (digV i b m)) (n := m.toNat - 1) ⟨vs, [(absI i).fmod b], absI i, M₃.weak (weak_cons rfl (weak_cons rfl (weak_cons rfl weak_nil))), hi0, by simp, by simp; omega, ?_, by simp⟩ ?_ ?_
  · obtain ⟨k, hk⟩ : ∃ k, m.toNat = k + 1 := ⟨m.toNat - 1, by omega⟩
    unfold digV
    rw [hk]
    simp [digs]
  · rintro k s₄ ⟨vs, acc, c, M₄, hi, h1, h2, h3, hk⟩
    have F₄ := M₄.toInts hi
    refine ⟨decide (b ≤ c) && (decide ((acc.length : Int) < m) && true), TsW.ts (TsW.and (Ts.cmp (nl F₄.st) (nl F₄.st) ok_ge) fun hbc => TsW.and (Ts.cmp (Ev.call1 N (G.up (F₄.up hu)) M.len boot_len (nl F₄.st) (py_len (by omega)) rfl (by decide) rfl rfl) (nl F₄.st) ok_lt) fun _ => TsW.andNil), fun ht s₅ k₅ E' => ?_, fun hf s₅ k₅ => ?_⟩
    · simp only [Bool.and_true, Bool.and_eq_true, decide_eq_true_eq] at ht
      have M₅ := M₄.keeps k₅
      have F₅ := M₅.toInts hi
      refine wpAny_execs_cons (wpAny_Assign_Name (ev_then (Ev.bin (nl F₅.st) (nl F₅.st) (ok_div (by omega) (pylong_small (by omega) hb1))) (keeps_refl _) fun v s₆ k₆ d₆ => (M₅.keeps k₆).store (d := .int (c.fdiv b)) (.inl rfl) (by decide) d₆ fun s₇ M₇ _ => ?_))
      have F₇ := M₇.toInts hi
      refine M₇.append (by rw [intsAre_len hi]; omega) (Φ := fun s v => Den s.heap v (.int ((c.fdiv b).fmod b))) (d0 := .none) (Ev.bin (nl F₇.st) (nl F₇.st) (ok_mod (by omega))) (.inl rfl) rfl rfl ⟨_, rfl⟩ rfl rfl fun v s₈ s₉ k₈ hv sb M₉ => ?_
      obtain ⟨t, rfl⟩ := hv
      refine wpAny_execs_nil ⟨rfl, _, ?_, _, acc ++ [(c.fdiv b).fmod b], c.fdiv b, M₉.weak (weak_cons rfl (weak_cons rfl (weak_cons rfl weak_nil))), intsAre_append hi (.cons _ t .nil), by simp, by simp; omega, ?_, rfl⟩
      · simp; omega
      · rw [← h3, if_pos ht.1]
        obtain ⟨q, hq⟩ : ∃ q, m.toNat - acc.length = q + 1 := ⟨m.toNat - acc.length - 1, by omega⟩
        have hq' : m.toNat - (acc ++ [(c.fdiv b).fmod b]).length = q := by simp; omega
        rw [hq, hq', List.append_assoc]
        rfl
    · simp only [Bool.and_true, Bool.and_eq_false_iff, decide_eq_false_iff_not] at hf
      refine ⟨vs, (M₄.keeps k₅).weak weak_nil, ?_⟩
      rw [← h3]
      rcases hf with hf | hf
      · rw [if_neg hf]; simpa using hi
      · have : m.toNat - acc.length = 0 := by omega
        rw [this]; simp [digs]; exact hi
  · rintro s₄ ⟨vs, M₄, hi⟩
    exact (M₄.toInts hi).ret (nl (M₄.toInts hi).st)
end
end Mine
end

section
open PySem PySem.Calls PyProof.Rows
namespace Mine

theorem shr_nat (c k : Nat) : (c : Int).fdiv (2 ^ ((k : Nat) : Int).toNat) = ((c / 2 ^ k : Nat) : Int) := by
  rw [Int.fdiv_eq_ediv_of_nonneg _ (Int.le_of_lt (Int.pow_pos (by decide)))]
  simp
theorem shl_nat (c k : Nat) : (c : Int) * (2 ^ ((k : Nat) : Int).toNat) = ((c * 2 ^ k : Nat) : Int) := by
  simp
def nI (vs : List Nat) : List Int := vs.map fun v : Nat => (v : Int)
theorem nI_len (vs : List Nat) : (nI vs).length = vs.length := by simp [nI]
theorem nI_get (vs : List Nat) (i : Nat) : (nI vs).getD i 0 = ((vs.getD i 0 : Nat) : Int) := by
  simp [nI, List.getD_eq_getElem?_getD]
  cases vs[i]? <;> rfl

section
variable {prog : Program} {w : World} {A : Around} {env : Env} {s s0 : Shared} {σ : List (Str × D)} {mg mb : Str → Option Value} {h : Heap} {B : Addr → Obj → Prop}

theorem Ev.toList {e : Expr} {ns : List Int} (h : Ev prog w A env s e (.il ns)) : EvP prog w A env s e fun s v => ∃ a vs, v = .ref a ∧ s.heap.IsList a vs.toArray ∧ IntsAre vs ns ∧ (fun _ : Addr => True) a := fun s' k E =>
  wpAny_mono (h s' k E) (fun v s'' ⟨k', a, vs, e, l, i⟩ => ⟨k', a, vs, e, l, i, trivial⟩) fun _ _ q => q

theorem take_succ_fold (f : Nat → Nat → Nat) (c : Nat) (vs : List Nat) (i : Nat) (hi : i < vs.length) : (vs.take (i + 1)).foldl f c = f ((vs.take i).foldl f c) (vs.getD i 0) := by
  rw [List.take_succ, List.foldl_append]
  rw [List.getElem?_eq_getElem hi]
  simp [List.getD_eq_getElem?_getD, List.getElem?_eq_getElem hi]

theorem poly_body {n : Nat} {L a : Addr} {cd : Value} {vs : List Nat} (hA : Good A n) (G : Gx mg mb h) (hu : ∀ b o, h.get? b = some o → B b o) (M : Nm mg) (hl : vs.length ≤ sizeLine)
    (F : Fx B s (envOf (Str.ofString "bech32_polymod") (fnScope 2) L a cd) [(Str.ofString "values", .il (nI vs))] s) :
    wpAny (model P w) A (execs (fnBody 2) (envOf (Str.ofString "bech32_polymod") (fnScope 2) L a cd)) (Back B s (.int (pmod vs : Nat))) (fun _ _ => False) s := by
  have N : EnvG (envOf (Str.ofString "bech32_polymod") (fnScope 2) L a cd) := env_ok rfl
  refine F.assign (d := .il (nI gensN)) (Ev.listI (ns := nI gensN) (Evs.cons Ev.int (Evs.cons Ev.int (Evs.cons Ev.int (Evs.cons Ev.int (Evs.cons Ev.int .nil))))) (by decide)) (.inl rfl) rfl fun s₁ F₁ => ?_
  refine F₁.assign (d := .int ((1 : Nat) : Int)) Ev.int (.inl rfl) rfl fun s₂ F₂ => ?_
  let e := envOf (Str.ofString "bech32_polymod") (fnScope 2) L a cd
  refine for_list (ok := fun _ => True) (B := B) hA.1 (nl F₂.st).toList (fun _ => rfl)
    (fun B i s' => Fx B s e [(Str.ofString "generator", .il (nI gensN)), (Str.ofString "chk", .int (((vs.take i).foldl pstep 1 : Nat) : Int))] s')
    (fun B i s' F => F.base) (fun B B' i s' F h => fx_add (ψ := fun o b => (∃ ws, o.data = .fields ws) ∨ True) F h) (fun B i s' h' tk I o ws F ho hd hB k => F.iter ho hd hB k)
    (fun s' k => (F₂.keeps k).weak (weak_cons rfl (weak_cons rfl weak_nil))) F₂.base (fun B' i v s₃ t E' hB hi hv F₃ => ?_) (fun s' F' => ?_)
  · subst hv
    rw [nI_get]
    rw [nI_len] at hi
    refine F₃.store (d := .int ((vs.getD i 0 : Nat) : Int)) (.inl rfl) ⟨t, rfl⟩ fun s₄ F₄ _ _ => ?_
    have hu' : ∀ b o, h.get? b = some o → B' b o := fun b o q => hB b o (hu b o q)
    generalize hc : (vs.take i).foldl pstep 1 = c at *
    refine F₄.assign (d := .int ((c / 2 ^ 25 : Nat) : Int)) ((Ev.bin (nl F₄.st) Ev.int (ok_shr (by decide))).as (congrArg D.int (shr_nat c 25))) (.inl rfl) rfl fun s₅ F₅ => ?_
    refine F₅.assign (d := .int ((((c &&& 33554431) * 32) ^^^ (vs.getD i 0) : Nat) : Int))
      ((Ev.bin ((Ev.bin ((Ev.bin (nl F₅.st) Ev.int ok_and).as (d' := .int ((c &&& 33554431 : Nat) : Int)) (by rw [← bitAnd_nat]; rfl)) Ev.int (ok_shl (by decide) (by decide) ?_)).as (d' := .int (((c &&& 33554431) * 32 : Nat) : Int)) (congrArg D.int (shl_nat _ 5))) (nl F₅.st) ok_xor).as (by rw [bitXor_nat])) (.inl rfl) rfl fun s₆ F₆ => ?_
    · have : c &&& 33554431 ≤ 33554431 := Nat.and_le_right
      omega
    generalize hc0 : ((c &&& 33554431) * 32) ^^^ (vs.getD i 0) = c0 at *
    refine for_range (n := 5) (B := B') hA.1 (EvR.one N (G.up (F₆.up hu')) M.range boot_range Ev.int rfl (by decide) rfl rfl) (by decide) (by decide) (by decide) (by decide) (by decide) (fun _ => rfl)
      (fun B j s' => Fx B s e [(Str.ofString "generator", .il (nI gensN)), (Str.ofString "top", .int ((c / 2 ^ 25 : Nat) : Int)), (Str.ofString "chk", .int (((List.range j).foldl (pin (c / 2 ^ 25)) c0 : Nat) : Int))] s')
      (fun B i s' F => F.base) (fun B B' i s' F h => fx_add (ψ := fun o b => (∃ ws, o.data = .fields ws)) F h) (fun B i s' h' tk I o ws F ho hd hB k => F.iter ho hd hB k)
      (fun s' k => (F₆.keeps k).weak (weak_cons rfl (weak_cons rfl (weak_cons rfl weak_nil)))) F₆.base (fun B'' j v s₇ t E'' hB' hj hv F₇ => ?_) (fun s' F' => ?_)
    · subst hv
      refine F₇.store (d := .int (j : Int)) (.inl rfl) ⟨t, by simp⟩ fun s₈ F₈ _ _ => ?_
      generalize hcj : (List.range j).foldl (pin (c / 2 ^ 25)) c0 = cj at *
      refine F₈.aug (d1 := .int (cj : Int)) (d := .int ((pin (c / 2 ^ 25) cj j : Nat) : Int)) rfl rfl
        ((Ev.iteInt (Ts.int ((Ev.bin ((Ev.bin (nl F₈.st) (nl F₈.st) (ok_shr (by omega))).as (d' := .int ((c / 2 ^ 25 / 2 ^ j : Nat) : Int)) (by rw [shr_nat])) Ev.int ok_and).as (d' := .int (((c / 2 ^ 25 / 2 ^ j) &&& 1 : Nat) : Int)) (by rw [← bitAnd_nat]; rfl)))
          (fun _ => Ev.itemI (nl F₈.st) (nl F₈.st) (by omega) (by rw [nI_len]; simp [gensN]; omega) (by omega)) (fun _ => Ev.int)).as
          (d' := .int ((if ((c / 2 ^ 25) / 2 ^ j) &&& 1 != 0 then gensN.getD j 0 else 0 : Nat) : Int)) ?_) ?_ fun s₉ F₉ => wpAny_execs_nil ⟨rfl, ?_⟩
      · rw [show ((j : Int)).toNat = j by omega, nI_get]
        generalize (c / 2 ^ 25 / 2 ^ j) &&& 1 = z
        generalize gensN.getD j 0 = g
        congr 1
        by_cases hz : z = 0
        · subst hz; rfl
        · have h1 : ((z : Int) != 0) = true := by rw [bne_iff_ne]; omega
          have h2 : (z != 0) = true := by rw [bne_iff_ne]; omega
          rw [h1, h2]; rfl
      · unfold pin
        rw [← bitXor_nat]
        exact in_xor
      · rw [List.range_succ, List.foldl_append]
        simp only [List.foldl_cons, List.foldl_nil, hcj]
        exact F₉.weak (weak_cons rfl (weak_cons rfl (weak_cons rfl weak_nil)))
    · refine wpAny_execs_nil ⟨rfl, ?_⟩
      rw [take_succ_fold _ _ _ _ hi, hc]
      unfold pstep
      rw [hc0]
      exact F'.weak (weak_cons rfl (weak_cons rfl weak_nil))
  · rw [nI_len, List.take_length] at F'
    exact F'.ret (nl F'.st)
end
end Mine
end

section
open PySem PySem.Calls PyProof.Rows
namespace Mine
section
variable {prog : Program} {w : World} {A : Around} {env : Env} {s s0 : Shared} {σ : List (Str × D)} {mg mb : Str → Option Value} {h : Heap} {B : Addr → Obj → Prop}

def restS (a b c d e : List Nat) (r : R6) : List (Str × D) :=
  [(Str.ofString "by29", .il (nI a)), (Str.ofString "by22", .il (nI b)), (Str.ofString "by20", .il (nI c)), (Str.ofString "by21", .il (nI d)), (Str.ofString "by18", .il (nI e)),
    (Str.ofString "u", .int (r.u : Nat)), (Str.ofString "v", .int (r.v : Nat)), (Str.ofString "w", .int (r.w : Nat)), (Str.ofString "x", .int (r.x : Nat)), (Str.ofString "y", .int (r.y : Nat)), (Str.ofString "z", .int (r.z : Nat))]

theorem take_succ_foldR {α β : Type} (f : β → α → β) (c : β) (vs : List α) (i : Nat) (d : α) (hi : i < vs.length) : (vs.take (i + 1)).foldl f c = f ((vs.take i).foldl f c) (vs.getD i d) := by
  rw [List.take_succ, List.foldl_append]
  rw [List.getElem?_eq_getElem hi]
  simp [List.getD_eq_getElem?_getD, List.getElem?_eq_getElem hi]

/-- t[u] ^ v -/
theorem Ev.tabXor {t u v : Expr} {p q : Pos} {ts : List Nat} {i j : Nat} (ht : Ev prog w A env s t (.il (nI ts))) (hu : Ev prog w A env s u (.int (i : Nat))) (hv : Ev prog w A env s v (.int (j : Nat))) (hi : i < ts.length) (hl : ts.length = 32) :
    Ev prog w A env s (.BinOp (.Subscript t u p) .BitXor v q) (.int ((ts.getD i 0 ^^^ j : Nat) : Int)) :=
  (Ev.bin ((Ev.itemI ht hu (by omega) (by rw [nI_len]; omega) (by omega)).as (d' := .int ((ts.getD i 0 : Nat) : Int)) (by rw [show ((i : Nat) : Int).toNat = i by omega, nI_get])) hv ok_xor).as (by rw [bitXor_nat])

theorem rest_body {n : Nat} {L ad : Addr} {cd : Value} {vs : List Nat} {a b c d e : List Nat} (hA : Good A n) (hl : vs.length ≤ sizeLine) (hv : ∀ v ∈ vs, v < 32)
    (ha : TabOk a) (hb : TabOk b) (hc : TabOk c) (hd : TabOk d) (he : TabOk e)
    (F : Fx B s (envOf (Str.ofString "_law_rest") (fnScope 11) L ad cd) [(Str.ofString "values", .il (nI vs)), (Str.ofString "tables", .ill [nI a, nI b, nI c, nI d, nI e])] s) :
    wpAny (model P w) A (execs (fnBody 11) (envOf (Str.ofString "_law_rest") (fnScope 11) L ad cd)) (Back B s (.il (nI (vs.foldl (rstep a b c d e) rest0).list))) (fun _ _ => False) s := by
  refine F.unpack (xs := [(Str.ofString "by29", _), (Str.ofString "by22", _), (Str.ofString "by20", _), (Str.ofString "by21", _), (Str.ofString "by18", _)]) (ds := [.il (nI a), .il (nI b), .il (nI c), .il (nI d), .il (nI e)]) hA.1 (Ev.illAll (nss := [nI a, nI b, nI c, nI d, nI e]) (nl F.st)) rfl rfl rfl rfl rfl rfl fun s₁ F₁ => ?_
  refine F₁.unpack (xs := [(Str.ofString "u", _), (Str.ofString "v", _), (Str.ofString "w", _), (Str.ofString "x", _), (Str.ofString "y", _), (Str.ofString "z", _)]) (ds := [.int 0, .int 0, .int 0, .int 0, .int 0, .int 0]) hA.1
    (EvP.tup (Evs.cons Ev.int (Evs.cons Ev.int (Evs.cons Ev.int (Evs.cons Ev.int (Evs.cons Ev.int (Evs.cons Ev.int .nil)))))) (by decide)) rfl rfl rfl rfl rfl rfl fun s₂ F₂ => ?_
  let en := envOf (Str.ofString "_law_rest") (fnScope 11) L ad cd
  refine for_list (ok := fun _ => True) (B := B) hA.1 (nl F₂.st).toList (fun _ => rfl)
    (fun B i s' => Fx B s en (restS a b c d e ((vs.take i).foldl (rstep a b c d e) rest0)) s')
    (fun B i s' F => F.base) (fun B B' i s' F h => fx_add (ψ := fun o b => (∃ ws, o.data = .fields ws) ∨ True) F h) (fun B i s' h' tk I o ws F ho hd hB k => F.iter ho hd hB k)
    (fun s' k => (F₂.keeps k).weak (weak_cons rfl (weak_cons rfl (weak_cons rfl (weak_cons rfl (weak_cons rfl (weak_cons rfl (weak_cons rfl (weak_cons rfl (weak_cons rfl (weak_cons rfl (weak_cons rfl weak_nil)))))))))))) F₂.base (fun B' i v s₃ t E' hB hi hvv F₃ => ?_) (fun s' F' => ?_)
  · subst hvv
    rw [nI_get]
    rw [nI_len] at hi
    refine F₃.store (d := .int ((vs.getD i 0 : Nat) : Int)) (.inl rfl) ⟨t, rfl⟩ fun s₄ F₄ _ _ => ?_
    have hr : ((vs.take i).foldl (rstep a b c d e) rest0).ok := rfold_ok ha hb hc hd he _ _ rest0_ok fun v h => hv v (List.mem_of_mem_take h)
    generalize hR : (vs.take i).foldl (rstep a b c d e) rest0 = r at *
    refine F₄.unpack (xs := [(Str.ofString "u", _), (Str.ofString "v", _), (Str.ofString "w", _), (Str.ofString "x", _), (Str.ofString "y", _), (Str.ofString "z", _)])
      (ds := [.int ((rstep a b c d e r (vs.getD i 0)).u : Nat), .int ((rstep a b c d e r (vs.getD i 0)).v : Nat), .int ((rstep a b c d e r (vs.getD i 0)).w : Nat), .int ((rstep a b c d e r (vs.getD i 0)).x : Nat), .int ((rstep a b c d e r (vs.getD i 0)).y : Nat), .int ((rstep a b c d e r (vs.getD i 0)).z : Nat)]) hA.1
      (EvP.tup (Evs.cons (Ev.tabXor (nl F₄.st) (nl F₄.st) (nl F₄.st) (by rw [ha.1]; exact hr.1) ha.1) (Evs.cons (Ev.tabXor (nl F₄.st) (nl F₄.st) (nl F₄.st) (by rw [hb.1]; exact hr.1) hb.1)
        (Evs.cons (Ev.tabXor (nl F₄.st) (nl F₄.st) (nl F₄.st) (by rw [hc.1]; exact hr.1) hc.1) (Evs.cons (Ev.tabXor (nl F₄.st) (nl F₄.st) (nl F₄.st) (by rw [hd.1]; exact hr.1) hd.1)
        (Evs.cons (Ev.tabXor (nl F₄.st) (nl F₄.st) (nl F₄.st) (by rw [ha.1]; exact hr.1) ha.1) (Evs.cons (Ev.tabXor (nl F₄.st) (nl F₄.st) (nl F₄.st) (by rw [he.1]; exact hr.1) he.1) .nil)))))) (show 6 ≤ sizeLine by decide)) rfl rfl rfl rfl rfl rfl fun s₅ F₅ => ?_
    refine wpAny_execs_nil ⟨rfl, ?_⟩
    rw [take_succ_foldR _ _ _ _ 0 hi, hR]
    exact F₅.weak (weak_cons rfl (weak_cons rfl (weak_cons rfl (weak_cons rfl (weak_cons rfl (weak_cons rfl (weak_cons rfl (weak_cons rfl (weak_cons rfl (weak_cons rfl (weak_cons rfl weak_nil)))))))))))
  · rw [nI_len, List.take_length] at F'
    refine F'.ret (Ev.listI (ns := nI (vs.foldl (rstep a b c d e) rest0).list) (Evs.cons (nl F'.st) (Evs.cons (nl F'.st) (Evs.cons (nl F'.st) (Evs.cons (nl F'.st) (Evs.cons (nl F'.st) (Evs.cons (nl F'.st) .nil)))))) ?_)
    show 6 ≤ sizeLine
    decide
end
end Mine
end

section
open PySem PySem.Calls PyProof.Rows
namespace Mine
section
variable {w : World} {A : Around} {env : Env} {s s0 : Shared} {σ : List (Str × D)} {mg mb : Str → Option Value} {h : Heap} {B : Addr → Obj → Prop}

theorem range_get (f : Nat → Nat) (n i : Nat) (h : i < n) : ((List.range n).map f).getD i 0 = f i := by
  simp [List.getD_eq_getElem?_getD, h]

theorem idxOf_nI (l : List Nat) (nn : Nat) : (nI l).idxOf (nn : Int) = l.idxOf nn := by
  unfold nI
  induction l with
  | nil => rfl
  | cons a l ih =>
    rw [List.map_cons, List.idxOf_cons, List.idxOf_cons, ih]
    by_cases hq : a = nn
    · subst hq; simp
    · have h1 : (a == nn) = false := beq_eq_false_iff_ne.mpr hq
      have h2 : ((a : Int) == (nn : Int)) = false := beq_eq_false_iff_ne.mpr (by omega)
      rw [h1, h2]
theorem tabIn_len (st : Nat) : ∀ k : Nat, ((List.range k).foldl (fun t k => tabIn st k t) (List.replicate 32 0)).length = 32
  | 0 => by simp
  | k + 1 => by rw [List.range_succ, List.foldl_append]; simp only [List.foldl_cons, List.foldl_nil]; unfold tabIn; rw [List.length_set]; exact tabIn_len st k
def tabV (n : Nat) : List Int := nI (tabOf n)

set_option maxHeartbeats 1000000 in
theorem tables_body {n : Nat} {L ad : Addr} {cd : Value} {N : List Nat} (hA : Good A n) (G : Gx mg mb h) (hu : ∀ b o, h.get? b = some o → B b o) (M : Nm mg) (hN : ∀ v ∈ N, v ∈ POW) (hl : N.length ≤ 1000)
    (F : Fx B s (envOf (Str.ofString "_law_tables") (fnScope 10) L ad cd) [(Str.ofString "numbers", .il (nI N))] s) :
    wpAny (model P w) A (execs (fnBody 10) (envOf (Str.ofString "_law_tables") (fnScope 10) L ad cd)) (Back B s (.ill (N.map tabV))) (fun _ _ => False) s := by
  have NE : EnvG (envOf (Str.ofString "_law_tables") (fnScope 10) L ad cd) := env_ok rfl
  let e := envOf (Str.ofString "_law_tables") (fnScope 10) L ad cd
  have s1000 : 1000 < sizeLine := by decide
  -- what the argument is
  obtain ⟨vn, hvn, hdn⟩ := F.holds (y := Str.ofString "numbers") (d := .il (nI N)) rfl (.inl rfl)
  have F0 : Fx B s e [(Str.ofString "numbers", .at vn (.il (nI N)))] s := F.drop.with fun y d q hk => by
    rw [List.lookup_cons] at q
    by_cases hy : y = Str.ofString "numbers"
    · subst hy; simp at q; subst q; exact ⟨vn, hvn, rfl, hdn⟩
    · have hb' : (y == Str.ofString "numbers") = false := beq_eq_false_iff_ne.mpr hy
      rw [hb'] at q; cases q
  refine F0.assignNew (EvF.disp (ds := [.int ((1 : Nat) : Int)]) (Evs.cons Ev.int .nil rfl) (show 1 ≤ sizeLine by decide)) (.inl rfl) rfl fun ap vs s₁ s₂ k₁ hψ sq hn M₂ => ?_
  have hi0 : IntsAre vs (nI [1]) := intsAre_of (h := s₁.heap) hψ.1 hψ.2
  refine while_rule (fun k s' => ∃ (vs : List Value) (j : Nat), Fm B s e true (Str.ofString "powers") ap vs [(Str.ofString "numbers", .at vn (.il (nI N)))] s' ∧ IntsAre vs (nI ((List.range (j + 1)).map pwr)) ∧ j ≤ 30 ∧ k = 30 - j)
    (fun s' => ∃ vs, Fm B s e true (Str.ofString "powers") ap vs [(Str.ofString "numbers", .at vn (.il (nI N)))] s' ∧ IntsAre vs (nI POW)) (n := 30) ⟨vs, 0, M₂, hi0, by omega, rfl⟩ ?_ ?_
  · rintro k s₄ ⟨vs, j, M₄, hi, hj, hk⟩
    have F₄ := M₄.toInts hi
    refine ⟨decide (((nI ((List.range (j + 1)).map pwr)).length : Int) < 31), Ts.cmp (Ev.call1 NE (G.up (F₄.up hu)) M.len boot_len (nl F₄.st) (py_len (by simp [nI]; omega)) rfl (by decide) rfl rfl) Ev.int ok_lt, fun ht s₅ k₅ E' => ?_, fun hf s₅ k₅ => ?_⟩
    · simp [nI] at ht
      have M₅ := M₄.keeps k₅
      have F₅ := M₅.toInts hi
      have hlast : (nI ((List.range (j + 1)).map pwr)).getD (-1 + ((nI ((List.range (j + 1)).map pwr)).length : Int)).toNat 0 = ((pwr j : Nat) : Int) := by
        have : (-1 + ((nI ((List.range (j + 1)).map pwr)).length : Int)).toNat = j := by simp [nI]; omega
        rw [this, nI_get, range_get _ _ _ (by omega)]
      refine wpAny_execs_cons (wpAny_Assign_Name (ev_then ((Ev.bin ((Ev.itemN (nl F₅.st) (Ev.neg Ev.int) (by decide) (by simp [nI]; omega) (by decide)).as (congrArg D.int hlast)) Ev.int (ok_mul (IntMulOk.of_right (by decide)))).as (d' := .int ((pwr j * 2 : Nat) : Int)) (by simp)) (keeps_refl _) fun v s₆ k₆ d₆ => (M₅.keeps k₆).store (d := .int ((pwr j * 2 : Nat) : Int)) (.inl rfl) (by decide) d₆ fun s₇ M₇ _ => ?_))
      have F₇ := M₇.toInts hi
      refine M₇.append (by rw [intsAre_len hi]; simp [nI]; omega) (Φ := fun s v => Den s.heap v (.int ((pwr (j + 1) : Nat) : Int))) (d0 := .none)
        ((Ev.iteInt (Ts.cmp (nl F₇.st) Ev.int ok_gt) (fun _ => (Ev.bin (nl F₇.st) Ev.int ok_xor).as (d' := .int ((pwr j * 2 ^^^ 41 : Nat) : Int)) (by rw [← bitXor_nat]; rfl)) (fun _ => nl F₇.st)).as ?_) (.inl rfl) rfl rfl ⟨_, rfl⟩ rfl rfl fun v s₈ s₉ k₈ hv sb M₉ => ?_
      · show D.int _ = D.int ((pst (pwr j) : Nat) : Int)
        unfold pst
        generalize pwr j * 2 = q
        congr 1
        by_cases hq : 31 < q
        · have : (31 : Int) < (q : Int) := by omega
          simp [hq, this]
        · have : ¬ (31 : Int) < (q : Int) := by omega
          simp [hq, this]
      obtain ⟨t, rfl⟩ := hv
      refine wpAny_execs_nil ⟨rfl, _, ?_, _, j + 1, M₉.weak (weak_cons rfl weak_nil), ?_, by omega, rfl⟩
      · omega
      · have : nI ((List.range (j + 1 + 1)).map pwr) = nI ((List.range (j + 1)).map pwr) ++ [((pwr (j + 1) : Nat) : Int)] := by
          rw [List.range_succ (n := j + 1)]; simp [nI]
        rw [this]
        exact intsAre_append hi (.cons _ t .nil)
    · simp [nI] at hf
      have : j = 30 := by omega
      subst this
      exact ⟨vs, M₄.keeps k₅, hi⟩
  rintro s₃ ⟨vp, M₃, hip⟩
  let σ : List (Str × D) := [(Str.ofString "powers", .at (.ref ap) (.pl (nI POW))), (Str.ofString "numbers", .at vn (.il (nI N)))]
  have Fp : Fx B s e σ s₃ := M₃.toFx (d := .at (.ref ap) (.pl (nI POW))) ⟨rfl, ap, vp, rfl, M₃.pl, hip⟩
  refine Fp.assignNew (EvF.disp (ds := []) Evs.nil (show 0 ≤ sizeLine by decide)) (.inl rfl) rfl fun Dt vs0 s₄ s₅ k₄ hψ0 sq0 hn0 M₅ => ?_
  have hvs0 : vs0 = [] := List.length_eq_zero_iff.mp hψ0.1
  subst hvs0
  refine for_list (ns := nI N) (ok := fun a => a ≠ Dt) (B := B) hA.1 (fun s' k E => ?_) (fun _ => rfl)
    (fun B' i s' => ∃ vs, Fm B' s e true (Str.ofString "tables") Dt vs σ s' ∧ vs.length = i ∧ ∀ (j : Nat) v n, vs[j]? = some v → N[j]? = some n → DInts (del s'.heap Dt) v (tabV n))
    (fun B' i s' ⟨vs, M, _⟩ => M.fx.base) ?_ ?_ (fun s' k => ⟨[], M₅.keeps k, rfl, fun j v n q => by simp at q⟩) M₅.fx.base ?_ ?_
  · have M' := M₅.keeps k
    obtain ⟨v, hv, q⟩ := M'.others (Str.ofString "numbers") (.at vn (.il (nI N))) rfl (.inl rfl) (by decide)
    refine ev_holds M'.fx.st.kind hv rfl ⟨keeps_refl _, ?_⟩
    obtain ⟨a, vs, e1, hL, hi⟩ := q.2
    obtain ⟨o, ho, r⟩ := hL
    obtain ⟨ha, ho'⟩ := del_get ho
    exact ⟨a, vs, e1, ⟨o, ho', r⟩, hi, ha⟩
  · rintro B1 B2 i s' ⟨vs, M, hl, hd⟩ hB
    refine ⟨vs, M.rebase fun b o q => ?_, hl, hd⟩
    rcases hB b o q with q | ⟨q1, q2, q3⟩
    · exact .inl q
    · refine .inr ⟨?_, q1, q2⟩
      rcases q3 with ⟨ws, q3⟩ | q3
      · rintro rfl
        obtain ⟨o', n', h1, h2, h3⟩ := M.pl.obj
        rw [q1] at h1; cases h1; rw [q3] at h3; cases h3
      · exact q3
  · rintro B1 i s' h' tk I o ws ⟨vs, M, hl, hd⟩ ho hdo hB k
    refine ⟨vs, M.iter ho hdo hB k, hl, fun j v n q1 q2 => dints_seq (del_l fun b o' T xs n' hb e1 hc hd' => k b o' ?_ e1) (hd j v n q1 q2)⟩
    rintro rfl; rw [ho] at e1; cases e1; rw [hdo] at hd'; cases hd'
  · rintro B1 i v s₆ t E' hB hi hv ⟨vs, M₆, hl6, hd6⟩
    subst hv
    rw [nI_get]
    rw [nI_len] at hi
    have hu1 : ∀ b o, h.get? b = some o → B1 b o := fun b o q => hB b o (hu b o q)
    obtain ⟨nn, hnn⟩ : ∃ nn, N[i]? = some nn := ⟨N[i], List.getElem?_eq_getElem hi⟩
    have hgd : N.getD i 0 = nn := by rw [List.getD_eq_getElem?_getD, hnn]; rfl
    rw [hgd]
    have hmem : nn ∈ POW := hN _ (List.mem_of_getElem? hnn)
    refine M₆.store (d := .int ((nn : Nat) : Int)) (.inl rfl) (by decide) ⟨t, rfl⟩ fun s₇ M₇ sq7 => ?_
    have F₇ := M₇.toFx (d := .at (.ref Dt) .any) ⟨rfl, trivial⟩
    refine wpAny_execs_cons (wpAny_Assign_Name (ev_then (Ev.index (ns := nI POW) (Ev.at (nl F₇.st)) (nl F₇.st) (List.mem_map.mpr ⟨nn, hmem, rfl⟩) (by decide +kernel) rfl ⟨_, rfl⟩) (keeps_refl _) fun v s₈ k₈ d₈ => (M₇.keeps k₈).store (d := .int ((nI POW).idxOf (nn : Int) : Nat)) (.inl rfl) (by decide) d₈ fun s₉ M₉ sq9 => ?_))
    have F₉ := M₉.toFx (d := .at (.ref Dt) .any) ⟨rfl, trivial⟩
    have hidx := idxOf_nI POW nn
    rw [hidx] at M₉ F₉
    generalize hst : POW.idxOf nn = st at *
    refine F₉.assignNew (EvF.rep Ev.int Ev.int (by decide) (by decide) rfl) (.inl rfl) rfl fun Dq zs s₁₀ s₁₁ k₁₀ hz sq11 hn11 M₁₁ => ?_
    have hz0 : IntsAre zs (nI ((List.range 0).foldl (fun t k => tabIn st k t) (List.replicate 32 0))) := by simpa [nI] using hz
    let B3 : Addr → Obj → Prop := fun b o => B1 b o ∨ (s₉.heap.get? b = some o ∧ Quiet o)
    have up11 : SeqUp s₉.heap s₁₁.heap := (keeps_up k₁₀).seq.trans sq11
    let σ3 : List (Str × D) := [(Str.ofString "tables", .at (.ref Dt) .any), (Str.ofString "start", .int ((st : Nat) : Int)), (Str.ofString "powers", .at (.ref ap) (.pl (nI POW))), (Str.ofString "numbers", .at vn (.il (nI N)))]
    have M₁₂ : Fm B3 s e false (Str.ofString "table") Dq zs σ3 s₁₁ := ((M₁₁.loose).rebase fun b o q => by
      rcases q with q | ⟨q1, q2⟩
      · exact .inl q
      · refine .inr ⟨?_, up11 _ _ q1 q2, q2⟩
        rintro rfl; rw [hn11] at q1; cases q1).weak (weak_cons rfl (weak_cons rfl (weak_cons rfl (weak_cons rfl weak_nil))))
    have hu3 : ∀ b o, h.get? b = some o → B3 b o := fun b o q => .inl (hu1 b o q)
    have F12 := M₁₂.toFx (d := .any) trivial
    refine for_range (n := 31) (B := B3) hA.1 (EvR.one NE (G.up (F12.up hu3)) M.range boot_range Ev.int rfl (by decide) rfl rfl) (by decide) (by decide) (by decide) (by decide) (by decide) (fun _ => rfl)
      (fun B' k s' => ∃ ws, Fm B' s e false (Str.ofString "table") Dq ws σ3 s' ∧ IntsAre ws (nI ((List.range k).foldl (fun t k => tabIn st k t) (List.replicate 32 0))))
      (fun B' i s' ⟨vs, M, _⟩ => M.fx.base) ?_ ?_ (fun s' k => ⟨zs, M₁₂.keeps k, hz0⟩) M₁₂.fx.base ?_ ?_
    · rintro B1 B2 i s' ⟨ws, M, hi⟩ hB
      refine ⟨ws, M.rebase fun b o q => ?_, hi⟩
      rcases hB b o q with q | ⟨q1, q2, ws', q3⟩
      · exact .inl q
      · refine .inr ⟨?_, q1, q2⟩
        rintro rfl
        obtain ⟨o', n', h1, h2, h3⟩ := M.pl.obj
        rw [q1] at h1; cases h1; rw [q3] at h3; cases h3
    · rintro B1 i s' h' tk I o ws' ⟨ws, M, hi⟩ ho hdo hB k
      exact ⟨ws, M.iter ho hdo hB k, hi⟩
    · rintro B4 k v s₁₃ t E'' hB4 hk hv ⟨ws, M₁₃, hiw⟩
      subst hv
      refine M₁₃.store (d := .int (k : Int)) (.inl rfl) (by decide) ⟨t, by simp⟩ fun s₁₄ M₁₄ sq14 => ?_
      have F₁₄ := M₁₄.toInts hiw
      generalize hT : (List.range k).foldl (fun t k => tabIn st k t) (List.replicate 32 0) = T at *
      have hTl : T.length = 32 := by
        rw [← hT]; exact tabIn_len st k
      have hPl : (nI POW).length = 31 := by rw [nI_len, POW_len]
      have hPk : POW.getD k 0 < 32 := POW_get
      refine M₁₄.setItem (k := ((POW.getD k 0 : Nat) : Int)) (d := .int ((POW.getD ((st + k) % 31) 0 : Nat) : Int))
        ((Ev.itemI (k := (((st + k) % 31 : Nat) : Int)) (Ev.pl (Ev.at (nl F₁₄.st))) ((Ev.bin (Ev.bin (nl F₁₄.st) (nl F₁₄.st) ok_add) Ev.int (ok_mod (by decide))).as ?_) (by omega) (by rw [hPl]; omega) (by omega)).as ?_)
        ((Ev.itemI (k := (k : Int)) (Ev.pl (Ev.at (nl F₁₄.st))) (nl F₁₄.st) (by omega) (by rw [hPl]; omega) (by omega)).as ?_) (by omega) ?_ ?_ (.inl rfl) rfl rfl fun v s₁₅ s₁₆ k₁₅ hv sb M₁₆ => ?_
      · congr 1
        rw [Int.fmod_eq_emod_of_nonneg _ (by decide)]
        omega
      · rw [show ((((st + k) % 31 : Nat) : Int)).toNat = (st + k) % 31 by omega, nI_get]
      · rw [show ((k : Int)).toNat = k by omega, nI_get]
      · rw [intsAre_len hiw, nI_len, hTl]; omega
      · rw [intsAre_len hiw, nI_len, hTl]; decide
      · obtain ⟨u, rfl⟩ := hv
        refine wpAny_execs_nil ⟨rfl, _, M₁₆.weak (weak_cons rfl (weak_cons rfl (weak_cons rfl (weak_cons rfl weak_nil)))), ?_⟩
        rw [List.range_succ, List.foldl_append]
        simp only [List.foldl_cons, List.foldl_nil, hT]
        have := intsAre_set hiw ((POW.getD ((st + k) % 31) 0 : Nat) : Int) u (POW.getD k 0)
        unfold tabIn
        simpa [nI, List.map_set] using this
    · rintro s₁₇ ⟨ws, M₁₇, hiw⟩
      have hb17 : ∀ b o, s₉.heap.get? b = some o → Quiet o → s₁₇.heap.get? b = some o := fun b o q1 q2 => M₁₇.fx.base b o (.inr ⟨q1, q2⟩)
      have htab : IntsAre ws (tabV nn) := by unfold tabV tabOf; rw [hst]; exact hiw
      have hne : Dt ≠ Dq := by
        rintro rfl
        obtain ⟨o', n', h1, h2, h3⟩ := M₉.pl.obj
        rw [hn11] at h1; cases h1
      have sl17 : SeqL (del s₉.heap Dt) (del s₁₇.heap Dt) := del_l fun b o T xs n hb e1 hc hd => hb17 b o e1 (quiet_seq hc hd)
      obtain ⟨oq, nq, hq1, hq2, hq3⟩ := M₁₇.pl.obj
      have hDq : DInts (del s₁₇.heap Dt) (.ref Dq) (tabV nn) := ⟨Dq, ws, rfl, ⟨oq, (del_other (Ne.symm hne)).trans hq1, hq2, nq, hq3⟩, htab⟩
      have keepsV : ∀ y u d, (y, D.at u d) ∈ σ → σ.lookup y = some (.at u d) → σ3.lookup y = some (.at u d) → y ≠ Str.ofString "table" → y ≠ Str.ofString "tables" → ∃ v, Holds e s₁₇.heap y v ∧ Den (del s₁₇.heap Dt) v (.at u d) := fun y u d hm e1 e2 hy1 hy2 => by
        have hky : e.kindOf y = some .local := by
          simp only [σ, List.mem_cons, List.mem_nil_iff, or_false, Prod.mk.injEq] at hm
          rcases hm with ⟨rfl, _⟩ | ⟨rfl, _⟩ <;> rfl
        have e9 : ((Str.ofString "start", D.int ((st : Nat) : Int)) :: (Str.ofString "number", .int ((nn : Nat) : Int)) :: σ).lookup y = some (.at u d) := by
          simp only [σ, List.mem_cons, List.mem_nil_iff, or_false, Prod.mk.injEq] at hm
          rcases hm with ⟨rfl, _⟩ | ⟨rfl, _⟩ <;> exact e1
        obtain ⟨v1, hv1, q1⟩ := M₉.others y _ e9 (.inl hky) hy2
        obtain ⟨v2, hv2, q2⟩ := M₁₇.others y _ e2 (.inl hky) hy1
        have hvv : v2 = v1 := q2.1.trans q1.1.symm
        subst hvv
        exact ⟨v2, hv2, den_seqL sl17 q1⟩
      have M₁₈ : Fm B1 s e true (Str.ofString "tables") Dt vs ((Str.ofString "table", .il (tabV nn)) :: σ) s₁₇ := by
        refine ⟨M₁₇.fx.rebase fun b o q => .inl (.inl q), fun y d q hky hy => ?_, ?_, ?_, M₉.new⟩
        · rw [List.lookup_cons] at q
          by_cases hyt : y = Str.ofString "table"
          · subst hyt; simp at q; subst q; exact ⟨_, M₁₇.var, hDq⟩
          · have hb' : (y == Str.ofString "table") = false := beq_eq_false_iff_ne.mpr hyt
            rw [hb'] at q
            have q' := q
            simp only [σ, List.lookup_cons] at q
            by_cases hp : y = Str.ofString "powers"
            · subst hp; simp at q; subst q
              exact keepsV _ _ _ (.head _) rfl rfl hyt hy
            · have hb2 : (y == Str.ofString "powers") = false := beq_eq_false_iff_ne.mpr hp
              rw [hb2] at q
              by_cases hnm : y = Str.ofString "numbers"
              · subst hnm; simp at q; subst q
                exact keepsV _ _ _ (.tail _ (.head _)) rfl rfl hyt hy
              · have hb3 : (y == Str.ofString "numbers") = false := beq_eq_false_iff_ne.mpr hnm
                simp [hb3] at q
        · obtain ⟨v2, hv2, q2⟩ := M₁₇.others (Str.ofString "tables") (.at (.ref Dt) .any) rfl (.inl rfl) (by decide)
          have : v2 = .ref Dt := q2.1
          subst this; exact hv2
        · obtain ⟨m9, hp9⟩ := (show s₉.heap.PlainList Dt vs.toArray from M₉.pl)
          exact ⟨m9, hb17 _ _ hp9 (quiet_seq rfl rfl)⟩
      refine M₁₈.append (by omega) (Φ := fun s v => v = .ref Dq) (d0 := .none) (fun s' k' E => ?_) (.inl rfl) rfl rfl ⟨_, rfl⟩ rfl rfl fun v s₁₉ s₂₀ k₁₉ hv sb M₂₀ => ?_
      · exact ev_holds M₁₇.fx.st.kind (M₁₇.var.up (keeps_up k')) rfl ⟨keeps_refl _, rfl⟩
      · subst hv
        have sl20 : SeqL (del s₁₇.heap Dt) (del s₂₀.heap Dt) := del_l fun b o T xs n hb e1 hc hd => sb b o hb (keeps_up k₁₉ _ _ e1) (quiet_seq hc hd)
        refine wpAny_execs_nil ⟨rfl, _, M₂₀.weak (weak_cons rfl (weak_cons rfl weak_nil)), by simp [hl6], fun j v n q1 q2 => ?_⟩
        rcases Nat.lt_or_ge j vs.length with hj | hj
        · rw [List.getElem?_append_left hj] at q1
          have s69 : SeqL (del s₆.heap Dt) (del s₉.heap Dt) := del_l fun b o T xs n hb e1 hc hd => sq9 b o (keeps_up k₈ _ _ (sq7 b o e1 (quiet_seq hc hd))) (quiet_seq hc hd)
          exact dints_seq sl20 (dints_seq sl17 (dints_seq s69 (hd6 j v n q1 q2)))
        · have hj' : j = vs.length := by
            rcases Nat.lt_or_ge vs.length j with q | q
            · rw [List.getElem?_eq_none (by simp; omega)] at q1; cases q1
            · omega
          subst hj'
          simp at q1
          subst q1
          rw [hl6, hnn] at q2; cases q2
          exact dints_seq sl20 hDq
  · rintro s₂₁ ⟨vs, M₂₁, hl, hd⟩
    rw [nI_len] at hl
    have F21 := M₂₁.toFx (d := .ill (N.map tabV)) ⟨Dt, vs, rfl, M₂₁.pl.isList, by simp [hl], fun j v ns q1 q2 => by
      simp only [List.getElem?_map] at q2
      cases hq : N[j]? with
      | none => rw [hq] at q2; cases q2
      | some n =>
        rw [hq] at q2
        have q3 : tabV n = ns := Option.some.inj q2
        rw [← q3]
        exact dints_seq (del_le _ _) (hd j v n q1 hq)⟩
    exact F21.ret (nl F21.st)
end
end Mine
end

section
open PySem PySem.Calls PyProof.Rows
namespace Mine
section
variable {w : World} {A : Around} {env : Env} {s s0 : Shared} {σ : List (Str × D)} {mg mb : Str → Option Value} {h : Heap} {B : Addr → Obj → Prop}

/-! ## the contracts -/
theorem vs1 {vs : List Value} (h : vs.length = 1) : ∃ a, vs = [a] := by
  match vs, h with
  | [a], _ => exact ⟨a, rfl⟩
theorem vs2 {vs : List Value} (h : vs.length = 2) : ∃ a b, vs = [a, b] := by
  match vs, h with
  | [a, b], _ => exact ⟨a, b, rfl⟩
theorem vs3 {vs : List Value} (h : vs.length = 3) : ∃ a b c, vs = [a, b, c] := by
  match vs, h with
  | [a, b, c], _ => exact ⟨a, b, c, rfl⟩

theorem at_ok {n : Nat} {ns : List Int} {k o : Int} (FA : FnAt mg h (Str.ofString "_law_at") (fnParams 8) (fnBody 8) (fnScope 8)) (G : Gx mg mb h) (M : Nm mg) (hsz : ns.length ≤ sizeLine) (hk : 0 ≤ k) :
    FnOk P w mg h (Str.ofString "_law_at") (n + 1) [.il ns, .int k, .int o] (.int (atV ns k o)) :=
  FnOk.mk (xs := [Str.ofString "script", Str.ofString "k", Str.ofString "other"]) FA G rfl (by decide) (fun pm cd doc vs hv => by obtain ⟨a, b, c, rfl⟩ := vs3 hv; rfl) (by decide) rfl rfl rfl (by decide)
    fun A B s L a cd hA hu F => at_body hA G hu M hsz hk F
theorem digits_ok {n : Nat} {i b m : Int} (FA : FnAt mg h (Str.ofString "_law_digits") (fnParams 9) (fnBody 9) (fnScope 9)) (G : Gx mg mb h) (M : Nm mg) (hb0 : 2 ≤ b) (hb1 : b < 2 ^ 32) (hm0 : 1 ≤ m) (hm1 : m ≤ 1000) :
    FnOk P w mg h (Str.ofString "_law_digits") (n + 1) [.int i, .int b, .int m] (.il (digV i b m)) :=
  FnOk.mk (xs := [Str.ofString "number", Str.ofString "base", Str.ofString "most"]) FA G rfl (by decide) (fun pm cd doc vs hv => by obtain ⟨a, b, c, rfl⟩ := vs3 hv; rfl) (by decide) rfl rfl rfl (by decide)
    fun A B s L a cd hA hu F => digits_body hA G hu M hb0 hb1 hm0 hm1 F
theorem tables_ok {n : Nat} {N : List Nat} (FA : FnAt mg h (Str.ofString "_law_tables") (fnParams 10) (fnBody 10) (fnScope 10)) (G : Gx mg mb h) (M : Nm mg) (hN : ∀ v ∈ N, v ∈ POW) (hl : N.length ≤ 1000) :
    FnOk P w mg h (Str.ofString "_law_tables") (n + 1) [.il (nI N)] (.ill (N.map tabV)) :=
  FnOk.mk (xs := [Str.ofString "numbers"]) FA G rfl (by decide) (fun pm cd doc vs hv => by obtain ⟨a, rfl⟩ := vs1 hv; rfl) (by decide) rfl rfl rfl (by decide)
    fun A B s L a cd hA hu F => tables_body hA G hu M hN hl F
theorem rest_ok {n : Nat} {vs a b c d e : List Nat} (FA : FnAt mg h (Str.ofString "_law_rest") (fnParams 11) (fnBody 11) (fnScope 11)) (G : Gx mg mb h) (hl : vs.length ≤ sizeLine) (hv : ∀ v ∈ vs, v < 32)
    (ha : TabOk a) (hb : TabOk b) (hc : TabOk c) (hd : TabOk d) (he : TabOk e) :
    FnOk P w mg h (Str.ofString "_law_rest") (n + 1) [.il (nI vs), .ill [nI a, nI b, nI c, nI d, nI e]] (.il (nI (vs.foldl (rstep a b c d e) rest0).list)) :=
  FnOk.mk (xs := [Str.ofString "values", Str.ofString "tables"]) FA G rfl (by decide) (fun pm cd doc vs hv => by obtain ⟨a, b, rfl⟩ := vs2 hv; rfl) (by decide) rfl rfl rfl (by decide)
    fun A B s L a' cd hA hu F => rest_body hA hl hv ha hb hc hd he F
theorem poly_ok {n : Nat} {vs : List Nat} (FA : FnAt mg h (Str.ofString "bech32_polymod") (fnParams 2) (fnBody 2) (fnScope 2)) (G : Gx mg mb h) (M : Nm mg) (hl : vs.length ≤ sizeLine) :
    FnOk P w mg h (Str.ofString "bech32_polymod") (n + 1) [.il (nI vs)] (.int (pmod vs : Nat)) :=
  FnOk.mk (xs := [Str.ofString "values"]) FA G rfl (by decide) (fun pm cd doc vs hv => by obtain ⟨a, rfl⟩ := vs1 hv; rfl) (by decide) rfl rfl rfl (by decide)
    fun A B s L a cd hA hu F => poly_body hA G hu M hl F

/-! ## hrp_expand -/
def hexp (cs : List Nat) : List Nat := cs.map (· / 32) ++ [0] ++ cs.map (· &&& 31)
theorem hexp_body {n : Nat} {L ad : Addr} {cd : Value} {x : Str} (hA : Good A n) (G : Gx mg mb h) (hu : ∀ b o, h.get? b = some o → B b o) (M : Nm mg) (hl : x.length ≤ 1000)
    (F : Fx B s (envOf (Str.ofString "bech32_hrp_expand") (fnScope 3) L ad cd) [(Str.ofString "hrp", .str x)] s) :
    wpAny (model P w) A (execs (fnBody 3) (envOf (Str.ofString "bech32_hrp_expand") (fnScope 3) L ad cd)) (Back B s (.il (nI (hexp x.cps.toList)))) (fun _ _ => False) s := by
  have hs : x.cps.size ≤ 1000 := hl
  have hl' : x.cps.toList.length ≤ 1000 := by simpa using hs
  have s3 : 3000 ≤ sizeLine := by decide
  refine F.ret (Ev.as (d := .il ((x.cps.toList.map (fun c : Nat => ((c / 2 ^ 5 : Nat) : Int)) ++ [0]) ++ x.cps.toList.map (fun c : Nat => ((c &&& 31 : Nat) : Int))))
    (Ev.bin (Ev.bin (EvF.il (EvF.compCI (τ := []) hA.1 (Src.text (nl F.st)) F.st weak_nil cap_nil (fun C s₃ a ha u S => ?_) rfl (by decide) rfl (by decide) rfl (by omega) (fun _ => rfl))) (Ev.listI (ns := [0]) (Evs.cons Ev.int .nil) (show 1 ≤ sizeLine by decide)) (ok_addL ?_))
      (EvF.il (EvF.compCI (τ := []) hA.1 (Src.text (nl F.st)) F.st weak_nil cap_nil (fun C s₃ a ha u S => ?_) rfl (by decide) rfl (by decide) rfl (by omega) (fun _ => rfl))) (ok_addL ?_)) ?_)
  · exact (Ev.bin (Ev.call1 ⟨rfl, rfl, rfl⟩ (G.up ((F.up hu).trans u)) M.ord boot_ord (nl S) py_ord rfl (by decide) rfl rfl) Ev.int (ok_shr (by decide))).as (congrArg D.int (shr_nat a 5))
  · simp; omega
  · exact (Ev.bin (Ev.call1 ⟨rfl, rfl, rfl⟩ (G.up ((F.up hu).trans u)) M.ord boot_ord (nl S) py_ord rfl (by decide) rfl rfl) Ev.int ok_and).as (by rw [← bitAnd_nat]; rfl)
  · simp; omega
  · unfold hexp nI
    simp [Function.comp_def]

theorem hexp_ok {n : Nat} {x : Str} (FA : FnAt mg h (Str.ofString "bech32_hrp_expand") (fnParams 3) (fnBody 3) (fnScope 3)) (G : Gx mg mb h) (M : Nm mg) (hl : x.length ≤ 1000) :
    FnOk P w mg h (Str.ofString "bech32_hrp_expand") (n + 1) [.str x] (.il (nI (hexp x.cps.toList))) :=
  FnOk.mk (xs := [Str.ofString "hrp"]) FA G rfl (by decide) (fun pm cd doc vs hv => by obtain ⟨a, rfl⟩ := vs1 hv; rfl) (by decide) rfl rfl rfl (by decide)
    fun A B s L a cd hA hu F => hexp_body hA G hu M hl F
end
end Mine
end

section
open PySem PySem.Calls PyProof.Rows
namespace Mine
section
variable {w : World} {A : Around} {env : Env} {s s0 : Shared} {σ : List (Str × D)} {mg mb : Str → Option Value} {h : Heap} {B : Addr → Obj → Prop}

theorem nI_append (a b : List Nat) : nI (a ++ b) = nI a ++ nI b := by simp [nI]
theorem hexp_len (cs : List Nat) : (hexp cs).length = 2 * cs.length + 1 := by simp [hexp]; omega

theorem verify_body {n : Nat} {L ad : Addr} {cd : Value} {x : Str} {ds : List Nat} (hA : Good A (n + 1)) (G : Gx mg mb h) (hu : ∀ b o, h.get? b = some o → B b o) (M : Nm mg) (hl : x.length ≤ 1000) (hd : ds.length ≤ 1000)
    (F2 : FnAt mg h (Str.ofString "bech32_polymod") (fnParams 2) (fnBody 2) (fnScope 2)) (F3 : FnAt mg h (Str.ofString "bech32_hrp_expand") (fnParams 3) (fnBody 3) (fnScope 3))
    (F : Fx B s (envOf (Str.ofString "bech32_verify_checksum") (fnScope 4) L ad cd) [(Str.ofString "hrp", .str x), (Str.ofString "data", .il (nI ds))] s) :
    wpAny (model P w) A (execs (fnBody 4) (envOf (Str.ofString "bech32_verify_checksum") (fnScope 4) L ad cd)) (Back B s (.bool (((pmod (hexp x.cps.toList ++ ds) : Nat) : Int) == 1))) (fun _ _ => False) s := by
  have N : EnvG (envOf (Str.ofString "bech32_verify_checksum") (fnScope 4) L ad cd) := env_ok rfl
  have hs : x.cps.size ≤ 1000 := hl
  have hlen : (hexp x.cps.toList).length ≤ 2001 := by rw [hexp_len]; simp; omega
  have s5 : 5000 ≤ sizeLine := by decide
  refine F.ret (Ev.cmp (Ev.callFn (poly_ok (n := n) (vs := hexp x.cps.toList ++ ds) F2 G M (by simp; omega)) N (G.up (F.up hu)) (F.up hu) hA (Evs.cons
    ((Ev.bin (Ev.callFn (hexp_ok (n := n) F3 G M hl) N (G.up (F.up hu)) (F.up hu) hA (Evs.cons (nl F.st) .nil) rfl rfl rfl)
      (Ev.copy N (G.up (F.up hu)) M.list boot_list (nl F.st) rfl (by decide) rfl rfl (by rw [nI_len]; omega)) (ok_addL (by rw [nI_len, nI_len]; omega))).as (by rw [nI_append])) .nil) rfl rfl rfl) Ev.int ok_eq)

theorem verify_ok {n : Nat} {x : Str} {ds : List Nat} (FA : FnAt mg h (Str.ofString "bech32_verify_checksum") (fnParams 4) (fnBody 4) (fnScope 4)) (F2 : FnAt mg h (Str.ofString "bech32_polymod") (fnParams 2) (fnBody 2) (fnScope 2)) (F3 : FnAt mg h (Str.ofString "bech32_hrp_expand") (fnParams 3) (fnBody 3) (fnScope 3))
    (G : Gx mg mb h) (M : Nm mg) (hl : x.length ≤ 1000) (hd : ds.length ≤ 1000) :
    FnOk P w mg h (Str.ofString "bech32_verify_checksum") (n + 2) [.str x, .il (nI ds)] (.bool (((pmod (hexp x.cps.toList ++ ds) : Nat) : Int) == 1)) :=
  FnOk.mk (xs := [Str.ofString "hrp", Str.ofString "data"]) FA G rfl (by decide) (fun pm cd doc vs hv => by obtain ⟨a, b, rfl⟩ := vs2 hv; rfl) (by decide) rfl rfl rfl (by decide)
    fun A B s L a cd hA hu F => verify_body hA G hu M hl hd F2 F3 F
end
end Mine
end

section
open PySem PySem.Calls PyProof.Rows
namespace Mine

def badC (c : Nat) : Bool := decide ((c : Int) < 33) || decide (126 < (c : Int))
def inCH (c : Nat) : Bool := !(Builtin.Str.occurrences CH ⟨#[c]⟩ 0 CH.length 1).isEmpty
def fiN (c : Nat) : Nat := (Txt.find CH ⟨#[c]⟩).toNat
def ONE : Str := Str.ofString "1"
def mixed (t : Str) : Bool := (Txt.lower t != t) && (Txt.upper t != t)
def tailS (b : Str) (pos : Int) : List Nat := (Txt.slice b (some (pos + 1)) none).cps.toList
def headS (b : Str) (pos : Int) : Str := Txt.slice b none (some pos)
def decV (t : Str) : Option (Str × List Int) :=
  if t.cps.toList.any badC then none
  else if mixed t then none
  else
    let b := Txt.lower t
    let pos := Txt.rfind b ONE
    if decide (pos < 1) || (decide (83 < pos) || decide ((b.length : Int) < pos + 7)) then none
    else if !(tailS b pos).all inCH then none
    else
      let ds := (tailS b pos).map fiN
      if !(((pmod (hexp (headS b pos).cps.toList ++ ds) : Nat) : Int) == 1) then none
      else some (headS b pos, nI (ds.take (ds.length - 6)))

section
variable {prog : Program} {w : World} {A : Around} {env : Env} {s s0 : Shared} {σ : List (Str × D)} {mg mb : Str → Option Value} {h hb hc : Heap} {B : Addr → Obj → Prop} {c Pa L : Addr} {ps : Array Value}

def DecPost (hb : Heap) (c Pa : Addr) (s0 : Shared) (r : Option (Str × List Int)) (f : Flow) (s' : Shared) : Prop :=
  ∃ v, f = .ret v ∧ Den s'.heap v (.res r) ∧ UpBut Pa hb s'.heap ∧ (∃ ps, s'.heap.TableAt c Pa ps) ∧ s'.os = s0.os ∧ AllBare s'.gens
structure Dc (hb : Heap) (c Pa L : Addr) (s0 : Shared) (hc : Heap) (ps : Array Value) (s : Shared) : Prop where
  based : Based hb hc c Pa ps
  ub : UpBut Pa hb hc
  above : hc.objs.size ≤ L
  gens : AllBare s.gens
  os : s.os = s0.os

theorem Dc.same {s s' : Shared} (X : Dc hb c Pa L s0 hc ps s) (h : ∃ h' tk, s' = { s with heap := h', toks := tk }) : Dc hb c Pa L s0 hc ps s' := by
  obtain ⟨h', tk, rfl⟩ := h
  exact ⟨X.based, X.ub, X.above, X.gens, X.os⟩
theorem Dc.fr {s s1 : Shared} (X : Dc hb c Pa L s0 hc ps s1) (F : Fx (OfH hc) s1 env σ s) (hL : env.locals = L) : ∃ m, Fr hc L s.heap m := by
  obtain ⟨m, hn, _⟩ := F.st.loc
  exact ⟨m, hL ▸ hn, F.base, X.above⟩
theorem dc_ret {s s1 : Shared} {e : Expr} {rest : List Stmt} {p : Pos} {r : Option (Str × List Int)} {E : Value → Shared → Prop} (X : Dc hb c Pa L s0 hc ps s1) (F : Fx (OfH hc) s1 env σ s) (hL : env.locals = L) (he : Ev prog w A env s e (.res r)) :
    wpAny (model prog w) A (execs (.Return (some e) p :: rest) env) (DecPost hb c Pa s0 r) E s := by
  refine wpAny_execs_cons (wpAny_Return_some (ev_then he (keeps_refl _) fun v s₂ k₂ d₂ => ?_))
  have F₂ := F.keeps k₂
  have X₂ := X.same F₂.same
  obtain ⟨m, Fr₂⟩ := X.fr F₂ hL
  exact ⟨v, rfl, d₂, fun b o hb' e => F₂.base b o (X.ub b o hb' e), ⟨ps, X.based.tabAt Fr₂⟩, X₂.os, X₂.gens⟩

theorem Ev.resNone {k : Nat} {pos p1 p2 : Pos} {k1 k2 : Nat} : Ev prog w A env s (.Tuple [.Constant .none k1 p1, .Constant .none k2 p2] k pos) (.res none) := fun s' k' E => by
  refine Tuple_ (wpAny_mono ((Evs.cons Ev.noneC (Evs.cons Ev.noneC .nil)) s' k' E) (fun vs s₁ q => ?_) fun _ _ q => q)
  obtain ⟨k₁, hl, hd⟩ := q
  obtain ⟨a, b, rfl⟩ := vs2 hl
  have e1 : a = .none := hd 0 a .none rfl rfl
  have e2 : b = .none := hd 1 b .none rfl rfl
  subst e1 e2
  refine wpAny_newObj_type ⟨keeps_trans k₁ (keeps_push _ _), _, rfl, ⟨_, Heap.get?_push_size _ rfl, rfl, 0, rfl⟩⟩ ?_
  show 2 ≤ sizeLine
  decide
theorem Ev.resSome {e1 e2 : Expr} {k : Nat} {pos : Pos} {x : Str} {ns : List Int} (h1 : Ev prog w A env s e1 (.str x)) (h2 : Ev prog w A env s e2 (.il ns))
    (hs1 : starEach [e1, e2] env = (false, eval e1 env) :: starEach [e2] env) (hs2 : starEach [e2] env = (false, eval e2 env) :: starEach [] env) : Ev prog w A env s (.Tuple [e1, e2] k pos) (.res (some (x, ns))) := fun s' k' E => by
  refine Tuple_ (wpAny_mono ((Evs.cons h1 (Evs.cons h2 .nil hs2) hs1) s' k' E) (fun vs s₁ q => ?_) fun _ _ q => q)
  obtain ⟨k₁, hl, hd⟩ := q
  obtain ⟨a, b, rfl⟩ := vs2 hl
  obtain ⟨t, rfl⟩ := hd 0 a (.str x) rfl rfl
  have e2 : DInts s₁.heap b ns := hd 1 b (.il ns) rfl rfl
  refine wpAny_newObj_type ⟨keeps_trans k₁ (keeps_push _ _), _, t, b, rfl, ⟨_, Heap.get?_push_size _ rfl, rfl, 0, rfl⟩, dints_seq (up_push _ _).seq.l e2⟩ ?_
  show 2 ≤ sizeLine
  decide
end
end Mine
end

section
open PySem PySem.Calls PyProof.Rows
namespace Mine
section
variable {prog : Program} {w : World} {A : Around} {env : Env} {s s0 : Shared} {σ : List (Str × D)} {mg mb : Str → Option Value} {h hb hc hc' : Heap} {B : Addr → Obj → Prop} {c Pa L : Addr} {ps : Array Value} {bm : Addr} {ob : Obj}

theorem evo_some {e : Expr} {i : Int} (h : Ev prog w A env s e (.int i)) : Evo prog w A env s (some e) (some i) := h
theorem evo_none : Evo prog w A env s none none := trivial
theorem tsw_then {e : Expr} {b : Bool} {E : Value → Shared → Prop} {Q : Bool → Shared → Prop} {whole : Sem Value} (x : TsW prog w A env s e b)
    (h : ∀ s'', Keeps s s'' → Q b s'') : wpAny (model prog w) A (isTrue e env whole) Q E s :=
  wpAny_mono (x s (keeps_refl _) E whole) (fun v s'' q => by rw [q.2]; exact h s'' q.1) fun _ _ q => q

/-- the frame behind a generator expression -/
theorem fx_anew {s' : Shared} {m : Str → Option Value} (F : Fx (OfH hc) s0 env σ s) (hn : s.heap.Ns env.locals m) (Fr' : Fr hc' L s'.heap m) (hL : env.locals = L) (hsc : ∀ x d, σ.lookup x = some d → d.sc)
    (hk : ∀ x, env.kindOf x ≠ some .cell) (hcl : env.cells = []) : Fx (OfH hc') s' env σ s' := by
  obtain ⟨m1, hn1, hm⟩ := F.st.loc
  have := ns_uniq hn hn1
  subst this
  refine ⟨⟨F.st.kind, ⟨m, by rw [hL]; exact Fr'.ns, fun x d e1 e2 => ?_⟩, fun x d e1 e2 => absurd e2 (hk x)⟩, Fr'.keep, fun o e => ?_, ⟨s'.heap, s'.toks, rfl⟩, fun x c e => ?_, fun x e => absurd e (hk x), fun x y c e => ?_, F.plain⟩
  · obtain ⟨v, ev, q⟩ := hm x d e1 e2
    exact ⟨v, ev, den_sc (hsc x d e1) q⟩
  · have h1 : env.locals < hc'.objs.size := Heap.lt_size e
    rw [hL] at h1
    exact absurd (Nat.lt_of_lt_of_le h1 Fr'.above) (Nat.lt_irrefl _)
  · rw [hcl] at e; cases e
  · rw [hcl] at e; cases e

theorem ret_next {f : Stmt → Prop} {l : List Stmt} {E : Value → Shared → Prop} {r : Option (Str × List Int)} {X : Shared → Prop} (hw : wpAny (model prog w) A (execs l env) (DecPost hb c Pa s0 r) E s) :
    wpAny (model prog w) A (execs l env) (fun f s' => match f with | .next => X s' | f => DecPost hb c Pa s0 r f s') E s :=
  wpAny_mono hw (fun f s' q => by obtain ⟨v, rfl, r⟩ := q; exact ⟨v, rfl, r⟩) fun _ _ q => q

theorem upBut_regrown (ps' : Array Value) : UpBut Pa hc (regrown hc Pa ps') := fun b o hb' e => (Heap.get?_update_other _ _ (Ne.symm hb')).trans e

theorem sc1 {x : Str} {d : D} (h : d.sc) : ∀ y d', [(x, d)].lookup y = some d' → d'.sc := fun y d' e => by
  rw [List.lookup_cons] at e
  by_cases hy : y = x
  · subst hy; simp at e; subst e; exact h
  · have hb' : (y == x) = false := beq_eq_false_iff_ne.mpr hy
    rw [hb'] at e; cases e
theorem sc2 {x : Str} {d : D} {τ : List (Str × D)} (h : d.sc) (k : ∀ y d', τ.lookup y = some d' → d'.sc) : ∀ y d', ((x, d) :: τ).lookup y = some d' → d'.sc := fun y d' e => by
  rw [List.lookup_cons] at e
  by_cases hy : y = x
  · subst hy; simp at e; subst e; exact h
  · have hb' : (y == x) = false := beq_eq_false_iff_ne.mpr hy
    rw [hb'] at e; exact k y d' e

theorem dec_body {n : Nat} {ad : Addr} {t : Str} (hA : Good A (n + 2)) (Gh : Gx mg mb hb) (M : Nm mg) (BM : BMod hb mainGlobals mg bm ob) (Bs : Based hb hb c Pa #[])
    (F4 : FnAt mg hb (Str.ofString "bech32_verify_checksum") (fnParams 4) (fnBody 4) (fnScope 4)) (F2 : FnAt mg hb (Str.ofString "bech32_polymod") (fnParams 2) (fnBody 2) (fnScope 2)) (F3 : FnAt mg hb (Str.ofString "bech32_hrp_expand") (fnParams 3) (fnBody 3) (fnScope 3))
    (hLsz : hb.objs.size ≤ L) (hlen : t.length ≤ 400) (hlow : (Txt.lower t).length ≤ 400) (Gb : AllBare s.gens)
    (F : Fx (OfH hb) s (envOf (Str.ofString "bech32_decode") (fnScope 5) L ad (.ref c)) [(Str.ofString "bech", .str t)] s) :
    wpAny (model P w) A (execs (fnBody 5) (envOf (Str.ofString "bech32_decode") (fnScope 5) L ad (.ref c))) (DecPost hb c Pa s (decV t)) (fun _ _ => False) s := by
  have N : EnvG (envOf (Str.ofString "bech32_decode") (fnScope 5) L ad (.ref c)) := env_ok rfl
  have noCell : ∀ x, (envOf (Str.ofString "bech32_decode") (fnScope 5) L ad (.ref c)).kindOf x ≠ some .cell := fun x e =>
    (show ∀ y ∈ (fnScope 5).names, y.2 ≠ .cell by decide) _ (mem_of_lookup (show (fnScope 5).names.lookup x = some .cell from e)) rfl
  have s400 : 400 ≤ sizeLine := by decide
  obtain ⟨m, hn, hm⟩ := F.st.loc
  have Fr0 : Fr hb L s.heap m := ⟨hn, F.base, hLsz⟩
  have T0 := Bs.tabAt Fr0
  have G0 : Gx mg mb s.heap := Gh.up F.base
  refine wpAny_execs_cons (wpAny_If (isTrue_or (any_test (V := fun c => D.str ⟨#[c]⟩) (as := t.cps.toList) (t := badC) N M.any boot_any rfl (by decide) rfl Bs Fr0 Gb BM Gh rfl rfl hA.1 (by have := hA.2; omega) (Src.text (nl F.st)).asC (fun _ => trivial)
    (fun A' C code s₃ a hA' ha u S => ?_) rfl rfl (by decide) rfl rfl rfl (fun _ => rfl) rfl rfl fun c' s1 B1 Fr1 G1 os1 u1 => ?_)))
  · have G3 : Gx mg mb s₃.heap := G0.upBut T0 u
    exact Ev.orB (Ev.cmp (Ev.call1 ⟨rfl, rfl, rfl⟩ G3 M.ord boot_ord (nl S) py_ord rfl (by decide) rfl rfl) Ev.int ok_lt) (Ev.cmp (Ev.call1 ⟨rfl, rfl, rfl⟩ G3 M.ord boot_ord (nl S) py_ord rfl (by decide) rfl rfl) Ev.int ok_gt)
  obtain ⟨hc1, ps1, hps1, ub1, B1, Fr1⟩ : ∃ hc1 ps1, ps1.toList = [rawInt 17, rawInt 11, .ref c'] ∧ UpBut Pa hb hc1 ∧ Based hb hc1 c Pa ps1 ∧ Fr hc1 L s1.heap m := ⟨_, _, rfl, upBut_regrown _, B1, Fr1⟩
  have F1 := fx_anew F hn Fr1 rfl (sc1 trivial) noCell rfl
  have X1 : Dc hb c Pa L s hc1 ps1 s1 := ⟨B1, ub1, Fr1.above, G1, os1⟩
  have Gc1 : Gx mg mb hc1 := Gh.upBut Bs.tab ub1
  by_cases hbad : t.cps.toList.any badC = true
  · rw [if_pos hbad]
    show (if true = true then _ else _)
    rw [if_pos rfl]
    have hv : decV t = none := by unfold decV; rw [if_pos hbad]
    rw [hv]; exact ret_next (f := fun _ => True) (dc_ret X1 F1 rfl Ev.resNone)
  rw [if_neg hbad]
  refine tsw_then (TsW.or (TsW.ts (TsW.and (Ts.cmp (Ev.lower (nl F1.st) (by omega) ⟨_, rfl⟩) (nl F1.st) ok_nes) fun _ => TsW.and (Ts.cmp (Ev.upper (nl F1.st) (by omega) ⟨_, rfl⟩) (nl F1.st) ok_nes) fun _ => TsW.andNil)) fun _ => TsW.orNil) fun s2 k2 => ?_
  have hmx : ((Txt.lower t != t) && ((Txt.upper t != t) && true) || false) = mixed t := by unfold mixed; simp
  rw [hmx]
  cases hx : mixed t with
  | true =>
    rw [if_pos rfl]
    have hv : decV t = none := by unfold decV; rw [if_neg hbad, if_pos hx]
    rw [hv]; exact ret_next (f := fun _ => True) (dc_ret X1 (F1.keeps k2) rfl Ev.resNone)
  | false =>
  rw [if_neg (by simp)]
  refine wpAny_execs_nil ?_
  have hv : decV t = (let b := Txt.lower t
    let pos := Txt.rfind b ONE
    if decide (pos < 1) || (decide (83 < pos) || decide ((b.length : Int) < pos + 7)) then none
    else if !(tailS b pos).all inCH then none
    else
      let ds := (tailS b pos).map fiN
      if !(((pmod (hexp (headS b pos).cps.toList ++ ds) : Nat) : Int) == 1) then none
      else some (headS b pos, nI (ds.take (ds.length - 6)))) := by
    unfold decV; rw [if_neg hbad, if_neg (by rw [hx]; simp)]
  rw [hv]
  clear hv hx hmx hbad
  refine (F1.keeps k2).assign (d := .str (Txt.lower t)) (Ev.lower (nl (F1.keeps k2).st) (by omega) ⟨_, rfl⟩) (.inl rfl) rfl fun s3 Fa => ?_
  refine Fa.assign (d := .int (Txt.rfind (Txt.lower t) ONE)) (Ev.rfind (nl Fa.st) Ev.str rfl ⟨_, rfl⟩) (.inl rfl) rfl fun s4 Fb0 => ?_
  have Fb := Fb0.weak (σ' := [(Str.ofString "pos", .int (Txt.rfind (Txt.lower t) ONE)), (Str.ofString "bech", .str (Txt.lower t))]) (weak_cons rfl (weak_cons rfl weak_nil))
  clear Fb0 Fa
  dsimp only
  generalize Txt.lower t = b at *
  generalize Txt.rfind b ONE = pos at *
  refine wpAny_execs_cons (wpAny_If (tsw_then (TsW.or (Ts.cmp (nl Fb.st) Ev.int ok_lt) fun _ => TsW.or (Ts.cmp (nl Fb.st) Ev.int ok_gt) fun _ => TsW.or (Ts.cmp (Ev.bin (nl Fb.st) Ev.int ok_add) (Ev.call1 N (Gc1.up Fb.base) M.len boot_len (nl Fb.st) (py_lenS (by omega)) rfl (by decide) rfl rfl) ok_gt) fun _ => TsW.orNil) fun s5 k5 => ?_))
  rw [Bool.or_false]
  cases hp : (decide (pos < 1) || (decide (83 < pos) || decide ((b.length : Int) < pos + 7))) with
  | true =>
    rw [if_pos rfl, if_pos rfl]
    exact ret_next (f := fun _ => True) (dc_ret X1 (Fb.keeps k5) rfl Ev.resNone)
  | false =>
  rw [if_neg (by simp), if_neg (by simp)]
  simp only [Bool.or_eq_false_iff, decide_eq_false_iff_not] at hp
  refine wpAny_execs_nil ?_
  have F5 := Fb.keeps k5
  have X5 := X1.same F5.same
  obtain ⟨m5, hn5, _⟩ := F5.st.loc
  have Fr5 : Fr hc1 L s5.heap m5 := ⟨hn5, F5.base, X1.above⟩
  have T5 := B1.tabAt Fr5
  have G5 : Gx mg mb s5.heap := Gc1.up F5.base
  have BM1 : BMod hc1 mainGlobals mg bm ob := BM.extBut Bs.tab ub1
  obtain ⟨tch, hch⟩ := M.charset
  refine wpAny_execs_cons (wpAny_If (isTrue_not (all_test (V := fun c => D.str ⟨#[c]⟩) (as := tailS b pos) (t := inCH) N M.all boot_all rfl (by decide) rfl B1 Fr5 X5.gens BM1 Gc1 rfl (by rw [hps1]; rfl) hA.1 (by have := hA.2; omega)
    (Src.text (Ev.sliceS (nl F5.st) (a := some (pos + 1)) (b := none) (evo_some (Ev.bin (nl F5.st) Ev.int ok_add)) evo_none (by omega) (fun _ _ => rfl))).asC (fun _ => trivial)
    (fun A' C code s₃ a hA' ha u S => ?_) rfl rfl (by decide) rfl rfl rfl (fun _ => rfl) rfl rfl fun c2 s6 B2 Fr6 G6 os6 u6 => ?_)))
  · exact Ev.cmp (nl S) (Ev.globStr ⟨rfl, rfl, rfl⟩ (G5.upBut T5 u) hch rfl rfl) ok_ins
  obtain ⟨hc2, ps2, ub12, B2, Fr6⟩ : ∃ hc2 ps2, UpBut Pa hc1 hc2 ∧ Based hb hc2 c Pa ps2 ∧ Fr hc2 L s6.heap m5 := ⟨_, _, upBut_regrown _, B2, Fr6⟩
  have F6 := fx_anew F5 hn5 Fr6 rfl (sc2 trivial (sc1 trivial)) noCell rfl
  have ub2 : UpBut Pa hb hc2 := fun b o hb' e => ub12 b o hb' (ub1 b o hb' e)
  have X6 : Dc hb c Pa L s hc2 ps2 s6 := ⟨B2, ub2, Fr6.above, G6, os6.trans X5.os⟩
  have Gc2 : Gx mg mb hc2 := Gh.upBut Bs.tab ub2
  cases hall : (tailS b pos).all inCH with
  | false =>
    show (if (!false) = true then _ else _)
    rw [if_pos (show (!false) = true from rfl), if_pos (show (!false) = true from rfl)]
    exact ret_next (f := fun _ => True) (dc_ret X6 F6 rfl Ev.resNone)
  | true =>
  show (if (!true) = true then _ else _)
  rw [if_neg (by simp), if_neg (by simp)]
  refine wpAny_execs_nil ?_
  have hb' : b.length ≤ 400 := hlow
  have hts : (tailS b pos).length ≤ 400 := by
    have h1 := Txt.slice_le b (some (pos + 1)) none
    have h2 : (tailS b pos).length = (Txt.slice b (some (pos + 1)) none).length := by simp [tailS, Str.length]
    omega
  have hhs : (headS b pos).length ≤ 400 := by
    have h1 := Txt.slice_le b none (some pos)
    show (Txt.slice b none (some pos)).length ≤ 400
    omega
  refine F6.assign (d := .str (headS b pos)) (Ev.sliceS (nl F6.st) (a := none) (b := some pos) evo_none (evo_some (nl F6.st)) (by omega) (fun _ _ => rfl)) (.inl rfl) rfl fun s7 F7 => ?_
  refine F7.assignComp (V := fun c => D.str ⟨#[c]⟩) (as := tailS b pos) (q := fun _ => true) (g := fun c => D.int (Txt.find CH ⟨#[c]⟩)) (τ := []) hA.1
    (Src.text (Ev.sliceS (nl F7.st) (a := some (pos + 1)) (b := none) (evo_some (Ev.bin (nl F7.st) Ev.int ok_add)) evo_none (by omega) (fun _ _ => rfl))).asC weak_nil cap_nil
    (Elts.plain fun C s₃ a ha u S => Ev.find (Ev.globStr ⟨rfl, rfl, rfl⟩ ((Gc2.up F7.base).up u) hch rfl rfl) (nl S) rfl ⟨_, rfl⟩) rfl rfl rfl (by decide) rfl (by decide) rfl (fun _ => trivial) (fun _ => trivial) vc_inj (fun _ => true) (fun _ _ _ _ _ => rfl) (by omega) (fun _ => rfl) fun a8 vs8 s8 hden M8 => ?_
  have hfind : ((tailS b pos).map fun c => Txt.find CH ⟨#[c]⟩) = nI ((tailS b pos).map fiN) := by
    unfold nI
    rw [List.map_map]
    refine List.map_congr_left fun c hcm => ?_
    have h1 : inCH c = true := List.all_eq_true.mp hall c hcm
    show Txt.find CH ⟨#[c]⟩ = ((Txt.find CH ⟨#[c]⟩).toNat : Int)
    unfold inCH at h1
    unfold Txt.find
    cases ho : Builtin.Str.occurrences CH ⟨#[c]⟩ 0 CH.length 1 with
    | nil => rw [ho] at h1; cases h1
    | cons i l => simp
  have hi8 : IntsAre vs8 (nI ((tailS b pos).map fiN)) := by
    rw [← hfind]
    have := hden
    rw [List.filter_eq_self.mpr (fun _ _ => rfl)] at this
    exact den_ints this
  have F8 := M8.toInts hi8
  have hds : ((tailS b pos).map fiN).length ≤ 400 := by rw [List.length_map]; exact hts
  generalize (tailS b pos).map fiN = ds at *
  refine wpAny_execs_cons (wpAny_If (ts_then (Ts.not (Ts.bool (Ev.callFn (verify_ok (n := n) (x := headS b pos) (ds := ds) (F4.upBut Bs.tab ub2) (F2.upBut Bs.tab ub2) (F3.upBut Bs.tab ub2) Gc2 M (by omega) (by omega)) N (Gc2.up F8.base) F8.base hA (Evs.cons (nl F8.st) (Evs.cons (nl F8.st) .nil)) rfl rfl rfl))) (keeps_refl _) fun s9 k9 => ?_))
  have F9 := F8.keeps k9
  cases hok : (((pmod (hexp (headS b pos).cps.toList ++ ds) : Nat) : Int) == 1) with
  | false =>
    show (if (!false) = true then _ else _)
    rw [if_pos (show (!false) = true from rfl), if_pos (show (!false) = true from rfl)]
    exact ret_next (f := fun _ => True) (dc_ret X6 F9 rfl Ev.resNone)
  | true =>
  show (if (!true) = true then _ else _)
  rw [if_neg (by simp), if_neg (by simp)]
  refine wpAny_execs_nil ?_
  refine dc_ret X6 F9 rfl (Ev.resSome (nl F9.st) (Ev.sliceI (nl F9.st) (a := none) (b := some (-6)) evo_none (evo_some (Ev.neg Ev.int)) (by rw [nI_len]; omega) fun vs hvs => ?_) rfl rfl)
  refine ⟨vs.take (vs.length - 6), ?_, ?_⟩
  · have := slicePick_butLast vs.toArray 6 (by decide)
    simpa using this
  · have := intsAre_take hvs (vs.length - 6)
    rw [intsAre_len hvs, nI_len] at this ⊢
    simpa [nI, List.map_take] using this
end
end Mine
end

section
open PySem PySem.Calls PyProof.Rows
namespace Mine
section
variable {w : World} {A : Around} {env : Env} {s s0 : Shared} {σ : List (Str × D)} {mg mb : Str → Option Value} {h : Heap} {B : Addr → Obj → Prop} {c Pa : Addr} {bm : Addr} {ob : Obj}

def DecAt (mg : Str → Option Value) (h : Heap) (c Pa : Addr) : Prop :=
  ∃ a o pm doc, mg (Str.ofString "bech32_decode") = some (.ref a) ∧ h.get? a = some o ∧ o.data = .func (docDef (Str.ofString "bech32_decode") (fnParams 5) (fnBody 5) (fnScope 5) pm (.ref c) doc) ∧ h.CodeRec (.ref c) (Str.ofString "bech32_decode") ∧ Based h h c Pa #[]

theorem dec_ok {n : Nat} (DA : DecAt mg h c Pa) (G : Gx mg mb h) (M : Nm mg) (BM : BMod h mainGlobals mg bm ob)
    (F4 : FnAt mg h (Str.ofString "bech32_verify_checksum") (fnParams 4) (fnBody 4) (fnScope 4)) (F2 : FnAt mg h (Str.ofString "bech32_polymod") (fnParams 2) (fnBody 2) (fnScope 2)) (F3 : FnAt mg h (Str.ofString "bech32_hrp_expand") (fnParams 3) (fnBody 3) (fnScope 3)) :
    ∃ a o fd, mg (Str.ofString "bech32_decode") = some (.ref a) ∧ h.get? a = some o ∧ o.data = .func fd ∧ ∀ (A : Around) (s : Shared) (t : Str) (tk : Tok) (E : Value → Shared → Prop), Good A (n + 3) → Up h s.heap → t.length ≤ 400 → (Txt.lower t).length ≤ 400 → AllBare s.gens →
      wpAny (model P w) A (call (.ref a) [.str t tk]) (fun v s' => Den s'.heap v (.res (decV t)) ∧ UpBut Pa s.heap s'.heap ∧ (∃ ps, s'.heap.TableAt c Pa ps) ∧ s'.os = s.os ∧ AllBare s'.gens) E s := by
  obtain ⟨a, o, pm, doc, h1, h2, h3, h4, Bs⟩ := DA
  refine ⟨a, o, _, h1, h2, h3, fun A s t tk E hA hu hl hl2 hg => ?_⟩
  have Gs := G.up hu
  have Bs' : Based s.heap s.heap c Pa #[] := Based.start (Bs.code.keeps hu) (Bs.tab.keeps hu) Bs.notStatics
  refine wpAny_call (call_plain_ret (binds := [(Str.ofString "bech", .str t tk)]) (by have := hA.2; omega) (hu _ _ h2) h3 Gs.nolimit (h4.keeps hu) rfl (fun x hx => by
    have : x = (Str.ofString "bech", .str t tk) := by simpa using hx
    subst this; rfl) (fun h₁ F₁ => ?_) rfl rfl rfl (by decide))
  have FF : Fx (OfH s.heap) { s with heap := h₁, toks := s.toks + [(Str.ofString "bech", Value.str t tk)].length } (envOf (Str.ofString "bech32_decode") (fnScope 5) s.heap.objs.size a (.ref c)) [(Str.ofString "bech", .str t)] { s with heap := h₁, toks := s.toks + [(Str.ofString "bech", Value.str t tk)].length } := by
    have noCell : ∀ x, (envOf (Str.ofString "bech32_decode") (fnScope 5) s.heap.objs.size a (.ref c)).kindOf x ≠ some .cell := fun x e =>
      (show ∀ y ∈ (fnScope 5).names, y.2 ≠ .cell by decide) _ (mem_of_lookup (show (fnScope 5).names.lookup x = some .cell from e)) rfl
    refine ⟨⟨rfl, ⟨_, F₁.ns, fun y d' e1 e2 => ?_⟩, fun y d' e1 e2 => absurd e2 (noCell y)⟩, F₁.keep, fun o' hq => absurd (Heap.lt_size hq) (Nat.lt_irrefl _), ⟨h₁, _, rfl⟩, fun x c e => by simp [envOf] at e, fun x e => absurd e (noCell x), fun x y c e => by simp [envOf] at e, rfl⟩
    rw [List.lookup_cons] at e1
    by_cases hy : y = Str.ofString "bech"
    · subst hy; simp at e1; subst e1; exact ⟨.str t tk, rfl, tk, rfl⟩
    · have hb' : (y == Str.ofString "bech") = false := beq_eq_false_iff_ne.mpr hy
      rw [hb'] at e1; cases e1
  refine wpAny_mono (dec_body (n := n) (A := A.deeper _) ⟨hA.1, by have := hA.2; show A.depth + 1 + (n + 2) < _; omega⟩ Gs M (BM.keeps hu) Bs' (F4.up hu) (F2.up hu) (F3.up hu) (Nat.le_refl _) hl hl2 hg FF) (fun f s' q => ?_) fun _ _ q => q
  obtain ⟨v, rfl, hd, hub, htab, hos, hgb⟩ := q
  exact ⟨hd, hub, htab, hos, hgb⟩
end
end Mine
end

section
open PySem PySem.Calls PyProof.Rows
namespace Mine

/-! ## the checksum: the law's remainder over GF(32) is the program's polynomial -/
theorem xor_cat (a b c d : Nat) (hb : b < 32) (hd : d < 32) : (a * 32 + b) ^^^ (c * 32 + d) = (a ^^^ c) * 32 + (b ^^^ d) := by
  have h1 : ((a * 32 + b) ^^^ (c * 32 + d)) / 32 = a ^^^ c := by
    have := @Nat.xor_div_two_pow (a * 32 + b) (c * 32 + d) 5
    rw [show (2 : Nat) ^ 5 = 32 from rfl] at this
    rw [this]
    congr 1 <;> omega
  have h2 : ((a * 32 + b) ^^^ (c * 32 + d)) % 32 = b ^^^ d := by
    have := @Nat.xor_mod_two_pow (a * 32 + b) (c * 32 + d) 5
    rw [show (2 : Nat) ^ 5 = 32 from rfl] at this
    rw [this]
    congr 1 <;> omega
  have := Nat.div_add_mod ((a * 32 + b) ^^^ (c * 32 + d)) 32
  rw [h1, h2] at this
  omega

def pack (r : R6) : Nat := ((((r.u * 32 + r.v) * 32 + r.w) * 32 + r.x) * 32 + r.y) * 32 + r.z
def rxor (r q : R6) : R6 := ⟨r.u ^^^ q.u, r.v ^^^ q.v, r.w ^^^ q.w, r.x ^^^ q.x, r.y ^^^ q.y, r.z ^^^ q.z⟩
theorem pack_xor {r q : R6} (hr : r.ok) (hq : q.ok) : pack r ^^^ pack q = pack (rxor r q) := by
  obtain ⟨h1, h2, h3, h4, h5, h6⟩ := hr
  obtain ⟨g1, g2, g3, g4, g5, g6⟩ := hq
  unfold pack rxor
  rw [xor_cat _ _ _ _ h6 g6, xor_cat _ _ _ _ h5 g5, xor_cat _ _ _ _ h4 g4, xor_cat _ _ _ _ h3 g3, xor_cat _ _ _ _ h2 g2]

def T29 : List Nat := tabOf 29
def T22 : List Nat := tabOf 22
def T20 : List Nat := tabOf 20
def T21 : List Nat := tabOf 21
def T18 : List Nat := tabOf 18
theorem tabOk_of (n : Nat) (h : (decide ((tabOf n).length = 32) && (tabOf n).all (fun v => decide (v < 32))) = true) : TabOk (tabOf n) := by
  simp only [Bool.and_eq_true, decide_eq_true_eq, List.all_eq_true] at h
  exact h
theorem T29_ok : TabOk T29 := tabOk_of 29 (by decide +kernel)
theorem T22_ok : TabOk T22 := tabOk_of 22 (by decide +kernel)
theorem T20_ok : TabOk T20 := tabOk_of 20 (by decide +kernel)
theorem T21_ok : TabOk T21 := tabOk_of 21 (by decide +kernel)
theorem T18_ok : TabOk T18 := tabOk_of 18 (by decide +kernel)

abbrev stepR : R6 → Nat → R6 := rstep T29 T22 T20 T21 T18
theorem stepR_ok {r : R6} (hr : r.ok) {n : Nat} (hn : n < 32) : (stepR r n).ok := rstep_ok T29_ok T22_ok T20_ok T21_ok T18_ok hr hn

def genR (u : Nat) : R6 := ⟨T29.getD u 0, T22.getD u 0, T20.getD u 0, T21.getD u 0, T29.getD u 0, T18.getD u 0⟩
theorem genR_ok (u : Nat) : (genR u).ok := ⟨T29_ok.get _, T22_ok.get _, T20_ok.get _, T21_ok.get _, T29_ok.get _, T18_ok.get _⟩

def genX (u : Nat) : Nat := (List.range 5).foldl (pin u) 0
theorem genX_eq : ∀ u, u < 32 → genX u = pack (genR u) := by decide +kernel

theorem pin_xor (u c d i : Nat) : pin u (c ^^^ d) i = c ^^^ pin u d i := by unfold pin; rw [Nat.xor_assoc]
theorem pin_fold (u c : Nat) : ∀ (l : List Nat) (d : Nat), l.foldl (pin u) (c ^^^ d) = c ^^^ l.foldl (pin u) d
  | [], d => rfl
  | i :: l, d => by rw [List.foldl_cons, List.foldl_cons, pin_xor, pin_fold u c l]

theorem pstep_pack {r : R6} (hr : r.ok) {n : Nat} (hn : n < 32) : pstep (pack r) n = pack (stepR r n) := by
  have hr' := hr
  obtain ⟨h1, h2, h3, h4, h5, h6⟩ := hr
  have e1 : pack r / 2 ^ 25 = r.u := by unfold pack; omega
  have e2 : (pack r &&& 33554431) * 32 ^^^ n = pack ⟨r.v, r.w, r.x, r.y, r.z, n⟩ := by
    have : pack r &&& 33554431 = pack r % 2 ^ 25 := Nat.and_two_pow_sub_one_eq_mod (pack r) 25
    rw [this]
    have e3 : pack r % 2 ^ 25 = (((r.v * 32 + r.w) * 32 + r.x) * 32 + r.y) * 32 + r.z := by unfold pack; omega
    rw [e3]
    have := xor_cat ((((r.v * 32 + r.w) * 32 + r.x) * 32 + r.y) * 32 + r.z) 0 0 n (by decide) hn
    simp only [Nat.add_zero, Nat.zero_mul, Nat.zero_add, Nat.xor_zero, Nat.zero_xor] at this
    rw [this]
    rfl
  unfold pstep
  rw [e1, e2]
  have := pin_fold r.u (pack ⟨r.v, r.w, r.x, r.y, r.z, n⟩) (List.range 5) 0
  rw [Nat.xor_zero] at this
  rw [this]
  have hg := genX_eq r.u h1
  unfold genX at hg
  rw [hg, pack_xor (r := ⟨r.v, r.w, r.x, r.y, r.z, n⟩) ⟨h2, h3, h4, h5, h6, hn⟩ (genR_ok _)]
  unfold rxor genR stepR rstep
  simp only [Nat.xor_comm]

theorem fold_pack : ∀ (vs : List Nat) (r : R6), r.ok → (∀ v ∈ vs, v < 32) → vs.foldl pstep (pack r) = pack (vs.foldl stepR r)
  | [], r, _, _ => rfl
  | v :: vs, r, hr, h => by
    rw [List.foldl_cons, List.foldl_cons, pstep_pack hr (h v (.head _))]
    exact fold_pack vs _ (stepR_ok hr (h v (.head _))) fun v hv => h v (.tail _ hv)

def startR : R6 := ⟨0, 0, 0, 0, 0, 1⟩
theorem start_fold : [0, 0, 0, 0, 0, 1].foldl stepR rest0 = startR := by
  have h : ∀ r : R6, r.u = 0 → r.v = 0 → r.w = 0 → r.x = 0 → r.y = 0 → r.z = 1 → r = startR := by
    rintro ⟨u, v, w, x, y, z⟩ h1 h2 h3 h4 h5 h6
    cases h1; cases h2; cases h3; cases h4; cases h5; cases h6; rfl
  exact h _ (by decide +kernel) (by decide +kernel) (by decide +kernel) (by decide +kernel) (by decide +kernel) (by decide +kernel)
theorem startR_ok : startR.ok := by simp [startR, R6.ok]

/-- six steps: what goes in is added -/
theorem six_in (q : R6) (a b c d e f : Nat) : [a, b, c, d, e, f].foldl stepR q = rxor ([0, 0, 0, 0, 0, 0].foldl stepR q) ⟨a, b, c, d, e, f⟩ := by
  simp only [List.foldl_cons, List.foldl_nil, stepR, rstep, rxor, Nat.xor_zero, Nat.xor_assoc]

/-- the checksum is right -/
theorem checksum {vs : List Nat} (h : ∀ v ∈ vs, v < 32) {r : R6} (hr : (([0, 0, 0, 0, 0, 1] ++ vs) ++ [0, 0, 0, 0, 0, 0]).foldl stepR rest0 = r) :
    pmod (vs ++ [r.u, r.v, r.w, r.x, r.y, r.z ^^^ 1]) = 1 := by
  rw [List.foldl_append, List.foldl_append, start_fold] at hr
  generalize hq : vs.foldl stepR startR = q at hr
  have qok : q.ok := by rw [← hq]; exact rfold_ok T29_ok T22_ok T20_ok T21_ok T18_ok vs _ startR_ok h
  have rok : r.ok := by
    rw [← hr]
    exact rfold_ok T29_ok T22_ok T20_ok T21_ok T18_ok _ _ qok (by decide)
  have h1 : pmod (vs ++ [r.u, r.v, r.w, r.x, r.y, r.z ^^^ 1]) = pack ((vs ++ [r.u, r.v, r.w, r.x, r.y, r.z ^^^ 1]).foldl stepR startR) := by
    unfold pmod
    refine fold_pack _ startR startR_ok fun v hv => ?_
    rcases List.mem_append.mp hv with hv | hv
    · exact h v hv
    · obtain ⟨r1, r2, r3, r4, r5, r6⟩ := rok
      have := xor32 r6 (show 1 < 32 by decide)
      simp only [List.mem_cons, List.not_mem_nil, or_false] at hv
      rcases hv with rfl | rfl | rfl | rfl | rfl | rfl <;> assumption
  rw [h1, List.foldl_append, hq, six_in, hr]
  unfold rxor pack
  simp only [Nat.xor_self, ← Nat.xor_assoc]
  rfl
end Mine
end

section
open PySem PySem.Calls PyProof.Rows
namespace Mine

/-! ## texts by their signs -/
def T (l : List Nat) : Str := ⟨l.toArray⟩
theorem T_list (l : List Nat) : (T l).cps.toList = l := rfl
theorem T_len (l : List Nat) : (T l).length = l.length := rfl
theorem T_inj {a b : List Nat} (h : T a = T b) : a = b := by
  have := congrArg (fun x : Str => x.cps.toList) h
  exact this
theorem T_ne {a b : List Nat} : (T a != T b) = (a != b) := by
  rw [Bool.eq_iff_iff]
  simp only [bne_iff_ne, ne_eq]
  exact not_congr ⟨T_inj, congrArg T⟩
theorem T_cat (a b : List Nat) : T a ++ T b = T (a ++ b) := by
  show (⟨a.toArray ++ b.toArray⟩ : Str) = _
  unfold T
  simp
theorem T_of (x : Str) : x = T x.cps.toList := rfl

theorem T_item {l : List Nat} {k : Nat} (h : k < l.length) : Txt.item (T l) k = T [l.getD k 0] := by
  unfold Txt.item Txt.charAt
  have : seqIndex? (k : Int) (T l).length = some k := by
    unfold seqIndex?
    rw [T_len]
    have h1 : ¬ ((k : Int) < 0) := by omega
    have h2 : ((k : Int) < (l.length : Int)) := by omega
    simp [h1, h]
  rw [this]
  simp [T, List.getD_eq_getElem?_getD, h]
theorem T_to {l : List Nat} {k : Nat} (h : k ≤ l.length) : Txt.slice (T l) none (some (k : Int)) = T (l.take k) := by
  show StrLaws.sliceText _ _ _ = _
  rw [StrLaws.sliceText_to ⟨by omega, by rw [T_list]; omega⟩]
  rfl
theorem T_from {l : List Nat} {k : Nat} (h : k ≤ l.length) : Txt.slice (T l) (some (k : Int)) none = T (l.drop k) := by
  show StrLaws.sliceText _ _ _ = _
  rw [StrLaws.sliceText_from ⟨by omega, by rw [T_list]; omega⟩]
  show T _ = _
  rw [List.take_of_length_le]
  · rfl
  · rw [T_list, List.length_drop]; omega
theorem T_join : ∀ (ls : List (List Nat)), Txt.join (T []) (ls.map T) = T ls.flatten := by
  intro ls
  show Builtin.Str.glued _ _ = _
  rw [StrLaws.glued_eq_join]
  induction ls with
  | nil => rfl
  | cons a ls ih =>
    cases ls with
    | nil => simp [Str.join]
    | cons b ls =>
      rw [List.map_cons, List.map_cons] at *
      unfold Str.join
      rw [ih, T_cat, T_cat]
      simp
end Mine
end

section
open PySem PySem.Calls PyProof.Rows
namespace Mine

/-! ## what the law computes, by its script -/
def digN (i b m : Int) : List Nat := (digV i b m).map Int.toNat
theorem nI_toNat {l : List Int} (h : ∀ v ∈ l, 0 ≤ v) : nI (l.map Int.toNat) = l := by
  unfold nI
  rw [List.map_map]
  have : l.map ((fun v : Nat => (v : Int)) ∘ Int.toNat) = l.map id := List.map_congr_left fun v hv => Int.toNat_of_nonneg (h v hv)
  rw [this, List.map_id]
theorem digN_eq {i b m : Int} (hb : 0 < b) : nI (digN i b m) = digV i b m := nI_toNat fun v hv => (digs_mem b hb _ _ v hv).1
theorem digN_lt {i b m : Int} (hb : 0 < b) : ∀ v ∈ digN i b m, (v : Int) < b := fun v hv => by
  obtain ⟨x, hx, rfl⟩ := List.mem_map.mp hv
  have := digs_mem b hb _ _ x hx
  omega
theorem digN_len (i b m : Int) : (digN i b m).length ≤ m.toNat := by
  unfold digN; rw [List.length_map]; exact digs_len b _ _
theorem digN_pos {i b m : Int} (hm : 1 ≤ m) : 1 ≤ (digN i b m).length := by
  unfold digN digV; rw [List.length_map]
  obtain ⟨k, hk⟩ : ∃ k, m.toNat = k + 1 := ⟨m.toNat - 1, by omega⟩
  rw [hk]; exact digs_pos b k _

section
variable (ns : List Int)
def pickV : Int := atV ns 0 0
def wayV : Int := (pickV ns).fmod 8
def n1V : Int := atV ns 1 2
def mostV : Int := if wayV ns == 5 then 77 else 83
def sizeA : Int := [1 + ((n1V ns).fdiv 8).fmod (mostV ns), 1, 2, mostV ns, 3, mostV ns - 1, 8, 13].getD ((n1V ns).fmod 8).toNat 0
def sizeB : Int := if wayV ns == 3 then 0 else sizeA ns
def sizeV : Int := if wayV ns == 4 then 84 + ((n1V ns).fdiv 8).fmod 7 else sizeB ns
def namesV : List Nat := (digN (atV ns 2 2759) 68 40).map fun k => if k < 32 then 33 + k else 59 + k
def codesA : List Nat := (List.range (sizeV ns).toNat).map fun k => (namesV ns).getD (k % (namesV ns).length) 0
def n3V : Int := atV ns 3 0
def BAD : List Nat := [32, 127, 31, 128, 9, 255, 0, 160]
def codesV : List Nat := if wayV ns == 2 then (codesA ns).set (((n3V ns).fdiv 8).fmod (sizeV ns)).toNat (BAD.getD ((n3V ns).fmod 8).toNat 0) else codesA ns
def shortV : Int := if wayV ns == 5 then (1 + n3V ns).fmod 7 else 0
def givensV : List Int := if decide (4 < (ns.length : Int)) then (ns.take 28).drop 4 else [1, 700]
def rowStep (acc : List Nat) (g : Int) : List Nat := if acc.length < 24 ∧ wayV ns ≠ 5 then acc ++ digN g 32 (24 - (acc.length : Int)) else acc
def rowV : List Nat := (givensV ns).foldl (rowStep ns) []
def wholeA : List Nat := [0, 0, 0, 0, 0, 1] ++ (codesV ns).map (· / 32) ++ List.replicate (shortV ns).toNat 3 ++ [0] ++ (codesV ns).map (· % 32) ++ rowV ns
def strV : Int := if wayV ns == 7 then ((n3V ns).fdiv 2).fmod (rowV ns).length else -1
def lastV : Nat := (7 + 2 * sizeV ns + strV ns).toNat
def flipV : Bool := (wayV ns == 7) && ((n3V ns).fmod 2 == 1)
def xor31 (l : List Nat) (k : Nat) : List Nat := l.set k (l.getD k 0 ^^^ 31)
def wholeV : List Nat := if flipV ns then (List.range 5).foldl (fun l i => xor31 l (lastV ns - 5 + i)) ((wholeA ns).set (lastV ns) 31) else wholeA ns
def sixR : R6 := (wholeV ns ++ List.replicate 6 0).foldl stepR rest0
def sixV : List Nat := [(sixR ns).u, (sixR ns).v, (sixR ns).w, (sixR ns).x, (sixR ns).y, (sixR ns).z ^^^ 1]
def CHN : List Nat := CH.cps.toList
def sgn (v : Nat) : Nat := CHN.getD v 0
def ODD : List Nat := (Str.ofString "bio!-@").cps.toList
def oddV : Nat := ODD.getD (((n3V ns).fdiv 14).fmod 6).toNat 0
def behindV : List Nat := (List.range (rowV ns).length).map fun k : Nat => if (k : Int) == strV ns then oddV ns else sgn ((rowV ns).getD k 0)
def textA : List Nat := codesV ns ++ ((sixV ns).take (shortV ns).toNat).map (96 + ·) ++ [49] ++ behindV ns ++ ((sixV ns).drop (shortV ns).toNat).map sgn
def fineV : Bool := decide (wayV ns < 2) || (wayV ns == 6 || ((wayV ns == 5) && (shortV ns == 0)))
def dueA : Option (Str × List Int) := if fineV ns then some (T (codesV ns), nI (rowV ns)) else none
def capsV : Bool := (wayV ns != 2) && (((pickV ns).fdiv 8).fmod 2 == 1)
def textB : Str := if capsV ns then Txt.upper (T (textA ns)) else T (textA ns)
def letterAt (t : Str) (k : Nat) : Bool := Txt.lower (Txt.item t k) != Txt.upper (Txt.item t k)
def placesV : List Nat := (List.range (textB ns).length).filter (letterAt (textB ns))
def placeV : Nat := (placesV ns).getD ((n3V ns).fmod (placesV ns).length).toNat 0
def turnB : Bool := (wayV ns == 6) && decide (1 < (placesV ns).length)
def textV : Str := if turnB ns then Txt.slice (textB ns) none (some (placeV ns : Int)) ++ (if capsV ns then Txt.lower (Txt.item (textB ns) (placeV ns)) else Txt.upper (Txt.item (textB ns) (placeV ns))) ++ Txt.slice (textB ns) (some ((placeV ns : Int) + 1)) none else textB ns
def dueV : Option (Str × List Int) := if turnB ns then none else dueA ns
end

section
variable {ns : List Int}
theorem way_range : 0 ≤ wayV ns ∧ wayV ns < 8 := ⟨Int.fmod_nonneg_of_pos _ (by decide), Int.fmod_lt_of_pos _ (by decide)⟩
theorem most_range : 77 ≤ mostV ns ∧ mostV ns ≤ 83 := by unfold mostV; split <;> omega
theorem sizeA_range : 1 ≤ sizeA ns ∧ sizeA ns ≤ mostV ns := by
  have h := most_range (ns := ns)
  have h0 : 0 ≤ (n1V ns).fmod 8 := Int.fmod_nonneg_of_pos _ (by decide)
  have h1 : (n1V ns).fmod 8 < 8 := Int.fmod_lt_of_pos _ (by decide)
  have h2 : 0 ≤ ((n1V ns).fdiv 8).fmod (mostV ns) := Int.fmod_nonneg_of_pos _ (by omega)
  have h3 : ((n1V ns).fdiv 8).fmod (mostV ns) < mostV ns := Int.fmod_lt_of_pos _ (by omega)
  unfold sizeA
  generalize (n1V ns).fmod 8 = q at *
  have : q = 0 ∨ q = 1 ∨ q = 2 ∨ q = 3 ∨ q = 4 ∨ q = 5 ∨ q = 6 ∨ q = 7 := by omega
  rcases this with rfl | rfl | rfl | rfl | rfl | rfl | rfl | rfl <;> simp <;> omega
theorem sizeV_range : 0 ≤ sizeV ns ∧ sizeV ns ≤ 90 := by
  have h := sizeA_range (ns := ns)
  have h' := most_range (ns := ns)
  have h2 : 0 ≤ ((n1V ns).fdiv 8).fmod 7 := Int.fmod_nonneg_of_pos _ (by omega)
  have h3 : ((n1V ns).fdiv 8).fmod 7 < 7 := Int.fmod_lt_of_pos _ (by omega)
  unfold sizeV sizeB
  split
  · omega
  · split <;> omega
theorem sizeV_pos (h3 : wayV ns ≠ 3) : 1 ≤ sizeV ns := by
  have h := sizeA_range (ns := ns)
  have h2 : 0 ≤ ((n1V ns).fdiv 8).fmod 7 := Int.fmod_nonneg_of_pos _ (by omega)
  unfold sizeV sizeB
  split
  · omega
  · rw [if_neg (by simpa using h3)]; omega
theorem sizeV_83 (h4 : wayV ns ≠ 4) : sizeV ns ≤ 83 := by
  have h := sizeA_range (ns := ns)
  have h' := most_range (ns := ns)
  unfold sizeV sizeB
  rw [if_neg (by simpa using h4)]
  split <;> omega
theorem sizeV_77 (h5 : wayV ns = 5) : sizeV ns ≤ 77 := by
  have h := sizeA_range (ns := ns)
  have h' : mostV ns = 77 := by unfold mostV; rw [h5]; rfl
  unfold sizeV sizeB
  rw [h5]
  simp
  omega
theorem codesA_len : (codesA ns).length = (sizeV ns).toNat := by simp [codesA]
theorem codesV_len : (codesV ns).length = (sizeV ns).toNat := by
  unfold codesV
  split
  · rw [List.length_set]; exact codesA_len
  · exact codesA_len
theorem names_pos : 1 ≤ (namesV ns).length := by
  unfold namesV; rw [List.length_map]; exact digN_pos (by decide)
theorem names_mem : ∀ c ∈ namesV ns, 33 ≤ c ∧ c ≤ 126 ∧ ¬ (65 ≤ c ∧ c ≤ 90) := fun c hc => by
  obtain ⟨k, hk, rfl⟩ := List.mem_map.mp hc
  have := digN_lt (by decide) k hk
  split <;> omega
theorem codesA_mem : ∀ c ∈ codesA ns, 33 ≤ c ∧ c ≤ 126 ∧ ¬ (65 ≤ c ∧ c ≤ 90) := fun c hc => by
  obtain ⟨k, hk, rfl⟩ := List.mem_map.mp hc
  have hp := names_pos (ns := ns)
  have hlt : k % (namesV ns).length < (namesV ns).length := Nat.mod_lt _ hp
  refine names_mem (ns := ns) _ ?_
  rw [List.getD_eq_getElem?_getD, List.getElem?_eq_getElem hlt]
  exact List.getElem_mem hlt
theorem codesV_eq (h2 : wayV ns ≠ 2) : codesV ns = codesA ns := by
  unfold codesV; rw [if_neg (by simpa using h2)]
theorem bad_lt : ∀ c ∈ BAD, c ≤ 255 := by decide
theorem codesV_255 : ∀ c ∈ codesV ns, c ≤ 255 := fun c hc => by
  unfold codesV at hc
  split at hc
  · rcases List.mem_or_eq_of_mem_set hc with h | rfl
    · have := codesA_mem c h; omega
    · have h0 : 0 ≤ (n3V ns).fmod 8 := Int.fmod_nonneg_of_pos _ (by decide)
      have h1 : (n3V ns).fmod 8 < 8 := Int.fmod_lt_of_pos _ (by decide)
      have hlt : ((n3V ns).fmod 8).toNat < BAD.length := by show _ < 8; omega
      rw [List.getD_eq_getElem?_getD, List.getElem?_eq_getElem hlt]
      exact bad_lt _ (List.getElem_mem hlt)
  · have := codesA_mem c hc; omega
theorem short_range : 0 ≤ shortV ns ∧ shortV ns ≤ 6 := by
  have h2 : 0 ≤ (1 + n3V ns).fmod 7 := Int.fmod_nonneg_of_pos _ (by omega)
  have h3 : (1 + n3V ns).fmod 7 < 7 := Int.fmod_lt_of_pos _ (by omega)
  unfold shortV
  split <;> omega
theorem rowFold_len : ∀ (gs : List Int) (acc : List Nat), acc.length ≤ 24 → (gs.foldl (rowStep ns) acc).length ≤ 24
  | [], acc, h => h
  | g :: gs, acc, h => by
    rw [List.foldl_cons]
    refine rowFold_len gs _ ?_
    unfold rowStep
    split
    · rw [List.length_append]
      have := digN_len g 32 (24 - (acc.length : Int))
      omega
    · exact h
theorem rowV_len : (rowV ns).length ≤ 24 := rowFold_len _ _ (by simp)
theorem rowFold_lt : ∀ (gs : List Int) (acc : List Nat), (∀ v ∈ acc, v < 32) → ∀ v ∈ gs.foldl (rowStep ns) acc, v < 32
  | [], acc, h => h
  | g :: gs, acc, h => by
    rw [List.foldl_cons]
    refine rowFold_lt gs _ ?_
    unfold rowStep
    split
    · intro v hv
      rcases List.mem_append.mp hv with hv | hv
      · exact h v hv
      · have := digN_lt (by decide) v hv; omega
    · exact h
theorem rowV_lt : ∀ v ∈ rowV ns, v < 32 := rowFold_lt _ _ (by simp)
theorem rowFold_pos (h5 : wayV ns ≠ 5) : ∀ (gs : List Int) (acc : List Nat), (1 ≤ acc.length ∨ gs ≠ []) → acc.length ≤ 24 → 1 ≤ (gs.foldl (rowStep ns) acc).length
  | [], acc, h, _ => h.elim id fun h => absurd rfl h
  | g :: gs, acc, h, hl => by
    rw [List.foldl_cons]
    refine rowFold_pos h5 gs _ (.inl ?_) ?_
    · unfold rowStep
      split
      next hc =>
        rw [List.length_append]
        have := digN_pos (i := g) (b := 32) (m := 24 - (acc.length : Int)) (by omega)
        omega
      next hc =>
        have : ¬ acc.length < 24 := fun h => hc ⟨h, h5⟩
        omega
    · unfold rowStep
      split
      · rw [List.length_append]
        have := digN_len g 32 (24 - (acc.length : Int))
        omega
      · exact hl
theorem givens_ne : givensV ns ≠ [] := by
  unfold givensV
  split
  next h =>
    intro e
    have := congrArg List.length e
    simp at this h
    omega
  · simp
theorem rowV_pos (h5 : wayV ns ≠ 5) : 1 ≤ (rowV ns).length := rowFold_pos h5 _ _ (.inr givens_ne) (by simp)
theorem rowV_five (h5 : wayV ns = 5) : rowV ns = [] := by
  have : ∀ gs : List Int, gs.foldl (rowStep ns) [] = [] := fun gs => by
    induction gs with
    | nil => rfl
    | cons g gs ih =>
      rw [List.foldl_cons]
      have : rowStep ns [] g = [] := by unfold rowStep; rw [if_neg (by simp [h5])]
      rw [this]; exact ih
  exact this _
theorem str_range : -1 ≤ strV ns ∧ (strV ns < (rowV ns).length) := by
  unfold strV
  split
  next h =>
    have h7 : wayV ns = 7 := by simpa using h
    have := rowV_pos (ns := ns) (by omega)
    have h2 : 0 ≤ ((n3V ns).fdiv 2).fmod (rowV ns).length := Int.fmod_nonneg_of_pos _ (by omega)
    have h3 : ((n3V ns).fdiv 2).fmod (rowV ns).length < (rowV ns).length := Int.fmod_lt_of_pos _ (by omega)
    omega
  · omega
theorem str_seven (h7 : wayV ns = 7) : 0 ≤ strV ns := by
  unfold strV
  rw [if_pos (by simp [h7])]
  have := rowV_pos (ns := ns) (by omega)
  exact Int.fmod_nonneg_of_pos _ (by omega)
theorem str_not (h7 : wayV ns ≠ 7) : strV ns = -1 := by
  unfold strV
  rw [if_neg (by simpa using h7)]
theorem wholeA_len : (wholeA ns).length = 7 + 2 * (sizeV ns).toNat + (shortV ns).toNat + (rowV ns).length := by
  unfold wholeA
  simp [codesV_len]
  omega
theorem wholeA_lt : ∀ v ∈ wholeA ns, v < 32 := fun v hv => by
  unfold wholeA at hv
  simp only [List.mem_append, List.mem_map, List.mem_replicate] at hv
  rcases hv with ((((h | ⟨c, hc, rfl⟩) | h) | h) | ⟨c, hc, rfl⟩) | h
  · revert h v; decide
  · have := codesV_255 c hc; omega
  · omega
  · simp at h; omega
  · omega
  · exact rowV_lt v h
theorem set_lt {l : List Nat} (h : ∀ v ∈ l, v < 32) {k c : Nat} (hc : c < 32) : ∀ v ∈ l.set k c, v < 32 := fun v hv =>
  (List.mem_or_eq_of_mem_set hv).elim (h v) fun e => e ▸ hc
theorem xor31_lt {l : List Nat} (h : ∀ v ∈ l, v < 32) {k : Nat} : ∀ v ∈ xor31 l k, v < 32 := set_lt h (xor32 (by
  rw [List.getD_eq_getElem?_getD]
  cases e : l[k]? with
  | none => decide
  | some c => exact h c (List.mem_of_getElem? e)) (by decide))
theorem flips_lt (j : Nat) : ∀ (is : List Nat) (l : List Nat), (∀ v ∈ l, v < 32) → ∀ v ∈ is.foldl (fun l i => xor31 l (j + i)) l, v < 32
  | [], l, h => h
  | i :: is, l, h => flips_lt j is _ (xor31_lt h)
theorem flips_len (j : Nat) : ∀ (is : List Nat) (l : List Nat), (is.foldl (fun l i => xor31 l (j + i)) l).length = l.length
  | [], l => rfl
  | i :: is, l => by rw [List.foldl_cons, flips_len j is]; exact List.length_set
theorem wholeV_lt : ∀ v ∈ wholeV ns, v < 32 := by
  unfold wholeV
  split
  · exact flips_lt _ _ _ (set_lt wholeA_lt (by decide))
  · exact wholeA_lt
theorem wholeV_len : (wholeV ns).length = (wholeA ns).length := by
  unfold wholeV
  split
  · rw [flips_len, List.length_set]
  · rfl
theorem sixR_ok : (sixR ns).ok := rfold_ok T29_ok T22_ok T20_ok T21_ok T18_ok _ _ rest0_ok fun v hv =>
  (List.mem_append.mp hv).elim (wholeV_lt v) fun h => by rw [(List.mem_replicate.mp h).2]; decide
theorem sixV_lt : ∀ v ∈ sixV ns, v < 32 := fun v hv => by
  obtain ⟨r1, r2, r3, r4, r5, r6⟩ := sixR_ok (ns := ns)
  have := xor32 r6 (show 1 < 32 by decide)
  simp only [sixV, List.mem_cons, List.not_mem_nil, or_false] at hv
  rcases hv with rfl | rfl | rfl | rfl | rfl | rfl <;> assumption
theorem sixV_len : (sixV ns).length = 6 := rfl
theorem behind_len : (behindV ns).length = (rowV ns).length := by simp [behindV]
theorem textA_len : (textA ns).length = (sizeV ns).toNat + 7 + (rowV ns).length := by
  have h := short_range (ns := ns)
  unfold textA
  simp only [List.length_append, List.length_map, List.length_take, List.length_drop, behind_len, codesV_len, sixV_len, List.length_cons, List.length_nil]
  omega
theorem textA_le : (textA ns).length ≤ 121 := by
  have := sizeV_range (ns := ns); have := rowV_len (ns := ns); rw [textA_len]; omega
end
end Mine
end

section
open PySem PySem.Calls PyProof.Rows
namespace Mine

theorem up_T {l : List Nat} (h : ∀ c ∈ l, c < 128) : Txt.upper (T l) = T (l.map up1) := by
  rw [upper_ascii (x := T l) h]
  unfold T
  simp
theorem lo_T {l : List Nat} (h : ∀ c ∈ l, c < 128) : Txt.lower (T l) = T (l.map lo1) := by
  rw [lower_ascii (x := T l) h]
  unfold T
  simp
theorem up1_lt {c : Nat} (h : c < 128) : up1 c < 128 := by unfold up1; split <;> omega
theorem lo1_lt {c : Nat} (h : c < 128) : lo1 c < 128 := by unfold lo1; split <;> omega

theorem sgn_mem {v : Nat} (h : v < 32) : sgn v ∈ CHN := by
  unfold sgn
  have hl : v < CHN.length := by show v < 32; exact h
  rw [List.getD_eq_getElem?_getD, List.getElem?_eq_getElem hl]
  exact List.getElem_mem hl
theorem CHN_lt : ∀ c ∈ CHN, c < 128 ∧ 33 ≤ c ∧ c ≤ 126 ∧ c ≠ 49 ∧ up1 c ≠ 49 ∧ lo1 (up1 c) = c ∧ lo1 c = c := by decide
theorem ODD_lt : ∀ c ∈ ODD, c < 128 ∧ c ≠ 49 ∧ up1 c ≠ 49 ∧ lo1 c = c ∧ lo1 (up1 c) = c ∧ c ∉ CHN := by decide
theorem odd_mem {ns : List Int} : oddV ns ∈ ODD := by
  have h0 : 0 ≤ ((n3V ns).fdiv 14).fmod 6 := Int.fmod_nonneg_of_pos _ (by decide)
  have h1 : ((n3V ns).fdiv 14).fmod 6 < 6 := Int.fmod_lt_of_pos _ (by decide)
  unfold oddV
  have hl : (((n3V ns).fdiv 14).fmod 6).toNat < ODD.length := by show _ < 6; omega
  rw [List.getD_eq_getElem?_getD, List.getElem?_eq_getElem hl]
  exact List.getElem_mem hl
section
variable {ns : List Int}
theorem row_get (k : Nat) : (rowV ns).getD k 0 < 32 := by
  rw [List.getD_eq_getElem?_getD]
  cases e : (rowV ns)[k]? with
  | none => decide
  | some c => exact rowV_lt c (List.mem_of_getElem? e)
theorem behind_mem {c : Nat} (h : c ∈ behindV ns) : c ∈ ODD ∨ c ∈ CHN := by
  obtain ⟨k, hk, rfl⟩ := List.mem_map.mp h
  split
  · exact .inl odd_mem
  · exact .inr (sgn_mem (row_get k))
theorem six_mem {c : Nat} (h : c ∈ ((sixV ns).drop (shortV ns).toNat).map sgn) : c ∈ CHN := by
  obtain ⟨v, hv, rfl⟩ := List.mem_map.mp h
  exact sgn_mem (sixV_lt v (List.mem_of_mem_drop hv))
theorem textA_ascii (h2 : wayV ns ≠ 2) : ∀ c ∈ textA ns, c < 128 := fun c hc => by
  unfold textA at hc
  rw [codesV_eq h2] at hc
  simp only [List.mem_append] at hc
  rcases hc with (((h | h) | h) | h) | h
  · have := codesA_mem c h; omega
  · obtain ⟨v, hv, rfl⟩ := List.mem_map.mp h
    have := sixV_lt v (List.mem_of_mem_take hv)
    omega
  · simp at h; omega
  · rcases behind_mem h with h | h
    · exact (ODD_lt c h).1
    · exact (CHN_lt c h).1
  · exact (CHN_lt c (six_mem h)).1
theorem caps_not2 (h : capsV ns = true) : wayV ns ≠ 2 := by
  unfold capsV at h
  simp at h
  exact h.1
def textBN (ns : List Int) : List Nat := if capsV ns then (textA ns).map up1 else textA ns
theorem textB_eq : textB ns = T (textBN ns) := by
  unfold textB textBN
  split
  next h => exact up_T (textA_ascii (caps_not2 h))
  · rfl
theorem textBN_len : (textBN ns).length = (textA ns).length := by
  unfold textBN; split
  · exact List.length_map _
  · rfl
theorem textBN_ascii (h2 : wayV ns ≠ 2) : ∀ c ∈ textBN ns, c < 128 := fun c hc => by
  unfold textBN at hc
  split at hc
  · obtain ⟨v, hv, rfl⟩ := List.mem_map.mp hc
    exact up1_lt (textA_ascii h2 v hv)
  · exact textA_ascii h2 c hc
theorem places_lt {k : Nat} (h : k ∈ placesV ns) : k < (textBN ns).length ∧ letterAt (textB ns) k = true := by
  obtain ⟨h1, h2⟩ := List.mem_filter.mp h
  refine ⟨?_, h2⟩
  have := List.mem_range.mp h1
  rw [textB_eq, T_len] at this
  exact this
theorem place_mem (h : 1 < (placesV ns).length) : placeV ns ∈ placesV ns := by
  have h0 : 0 ≤ (n3V ns).fmod (placesV ns).length := Int.fmod_nonneg_of_pos _ (by omega)
  have h1 : (n3V ns).fmod (placesV ns).length < (placesV ns).length := Int.fmod_lt_of_pos _ (by omega)
  unfold placeV
  have hl : ((n3V ns).fmod (placesV ns).length).toNat < (placesV ns).length := by omega
  rw [List.getD_eq_getElem?_getD, List.getElem?_eq_getElem hl]
  exact List.getElem_mem hl
def otherV (ns : List Int) : Nat := if capsV ns then lo1 ((textBN ns).getD (placeV ns) 0) else up1 ((textBN ns).getD (placeV ns) 0)
def textVN (ns : List Int) : List Nat := if turnB ns then (textBN ns).set (placeV ns) (otherV ns) else textBN ns
theorem turn_way (h : turnB ns = true) : wayV ns = 6 ∧ 1 < (placesV ns).length := by
  unfold turnB at h
  simpa using h
theorem get_ascii (h2 : wayV ns ≠ 2) (k : Nat) : (textBN ns).getD k 0 < 128 := by
  rw [List.getD_eq_getElem?_getD]
  cases e : (textBN ns)[k]? with
  | none => decide
  | some c => exact textBN_ascii h2 c (List.mem_of_getElem? e)
theorem textV_eq : textV ns = T (textVN ns) := by
  unfold textV textVN
  split
  next h =>
    obtain ⟨h6, hp⟩ := turn_way h
    obtain ⟨hk, hl⟩ := places_lt (place_mem hp)
    have hc : ∀ c ∈ [(textBN ns).getD (placeV ns) 0], c < 128 := fun c hc => by
      rw [List.mem_singleton.mp hc]; exact get_ascii (by omega) _
    rw [textB_eq, T_item hk, lo_T hc, up_T hc, T_to (by omega)]
    have e1 : (placeV ns : Int) + 1 = ((placeV ns + 1 : Nat) : Int) := by omega
    rw [e1, T_from (by omega)]
    have e2 : (if capsV ns = true then T (List.map lo1 [(textBN ns).getD (placeV ns) 0]) else T (List.map up1 [(textBN ns).getD (placeV ns) 0])) = T [otherV ns] := by
      unfold otherV
      split <;> rfl
    rw [e2, T_cat, T_cat]
    congr 1
    rw [List.set_eq_take_append_cons_drop, if_pos hk]
    simp
  · exact textB_eq
theorem textVN_len : (textVN ns).length = (textA ns).length := by
  unfold textVN
  split
  · rw [List.length_set]; exact textBN_len
  · exact textBN_len
end
end Mine
end

section
open PySem PySem.Calls PyProof.Rows
namespace Mine

theorem rfind_T {H S : List Nat} (h : 49 ∉ S) : Txt.rfind (T (H ++ [49] ++ S)) ONE = (H.length : Int) := by
  have hone : ∀ i, StrLaws.At (T (H ++ [49] ++ S)) ONE (T (H ++ [49] ++ S)).length i ↔ (H ++ [49] ++ S)[i]? = some 49 := fun i => StrLaws.subAt_one (T (H ++ [49] ++ S)) 49 i
  have hat : (H ++ [49] ++ S)[H.length]? = some 49 := by simp
  rcases rfind_whole (T (H ++ [49] ++ S)) ONE with ⟨_, hn⟩ | ⟨i, e, hi, hm⟩
  · exact absurd ((hone _).mpr hat) (hn _)
  · rw [e]
    have h1 := (hone _).mp hi
    by_cases hlt : i < H.length
    · exact absurd ((hone _).mpr hat) (hm _ hlt)
    · by_cases heq : i = H.length
      · rw [heq]
      · exfalso
        rw [List.getElem?_append_right (by simp; omega)] at h1
        exact h (List.mem_of_getElem? h1)

theorem inCH_eq (c : Nat) : inCH c = decide (c ∈ CHN) := StrLaws.found_one CH c
theorem fi_sgn : ∀ v, v < 32 → fiN (sgn v) = v := by decide +kernel

theorem dec_bad {l : List Nat} {c : Nat} (hc : c ∈ l) (hb : badC c = true) : decV (T l) = none := by
  unfold decV
  rw [if_pos]
  rw [T_list, List.any_eq_true]
  exact ⟨c, hc, hb⟩
theorem dec_mixed {l : List Nat} (h : mixed (T l) = true) : decV (T l) = none := by
  unfold decV
  split
  · rfl
  · first | rfl | rw [if_pos h]
theorem dec_none {l H S : List Nat} (ha : ∀ c ∈ l, c < 128) (he : l.map lo1 = H ++ [49] ++ S) (h49 : 49 ∉ S) (hx : H.length < 1 ∨ 83 < H.length ∨ S.length < 6 ∨ ∃ c ∈ S, c ∉ CHN) : decV (T l) = none := by
  unfold decV
  split
  · rfl
  split
  · rfl
  dsimp only
  rw [lo_T ha, he, rfind_T h49]
  split
  · rfl
  next hcnd =>
    simp only [Bool.or_eq_true, decide_eq_true_eq, not_or, T_len, List.length_append, List.length_cons, List.length_nil] at hcnd
    have e1 : tailS (T (H ++ [49] ++ S)) (H.length : Int) = S := by
      unfold tailS
      rw [show ((H.length : Int) + 1) = ((H.length + 1 : Nat) : Int) by omega, T_from (by simp)]
      rw [T_list]
      simp
    rw [e1]
    split
    · rfl
    next hall =>
      exfalso
      simp only [Bool.not_eq_true, Bool.not_eq_false', List.all_eq_true] at hall
      rcases hx with h | h | h | ⟨c, hc, h⟩
      · omega
      · omega
      · omega
      · have := hall c hc
        rw [inCH_eq] at this
        exact h (of_decide_eq_true this)
theorem dec_some {l H S : List Nat} {n : Nat} (hg : ∀ c ∈ l, 33 ≤ c ∧ c ≤ 126) (hm : mixed (T l) = false) (he : l.map lo1 = H ++ [49] ++ S) (h49 : 49 ∉ S) (h1 : 1 ≤ H.length) (h83 : H.length ≤ 83) (h6 : 6 ≤ S.length) (hS : ∀ c ∈ S, c ∈ CHN)
    (hp : pmod (hexp H ++ S.map fiN) = 1) : decV (T l) = some (T H, nI ((S.map fiN).take (S.length - 6))) := by
  unfold decV
  rw [if_neg, if_neg (by rw [hm]; simp)]
  · dsimp only
    rw [lo_T (fun c hc => by have := hg c hc; omega), he, rfind_T h49]
    rw [if_neg]
    · have e1 : tailS (T (H ++ [49] ++ S)) (H.length : Int) = S := by
        unfold tailS
        rw [show ((H.length : Int) + 1) = ((H.length + 1 : Nat) : Int) by omega, T_from (by simp)]
        rw [T_list]
        simp
      have e2 : headS (T (H ++ [49] ++ S)) (H.length : Int) = T H := by
        unfold headS
        rw [T_to (by simp)]
        simp
      rw [e1, e2]
      rw [if_neg]
      · rw [T_list, hp, List.length_map]
        rfl
      · simp only [Bool.not_eq_true', Bool.not_eq_false, List.all_eq_true]
        intro c hc
        rw [inCH_eq]
        exact decide_eq_true (hS c hc)
    · simp only [Bool.or_eq_true, decide_eq_true_eq, not_or, T_len, List.length_append, List.length_cons, List.length_nil]
      omega
  · rw [T_list, List.any_eq_true]
    rintro ⟨c, hc, hb⟩
    have := hg c hc
    unfold badC at hb
    simp at hb
    omega
end Mine
end

section
open PySem PySem.Calls PyProof.Rows
namespace Mine

def noCap (c : Nat) : Prop := ¬ (65 ≤ c ∧ c ≤ 90)
theorem noCap_lo {c : Nat} (h : noCap c) : lo1 c = c := by unfold lo1; rw [if_neg h]
theorem noCap_up {c : Nat} (h : noCap c) : lo1 (up1 c) = c := by
  unfold noCap at h
  unfold lo1 up1
  split <;> (try split) <;> omega
theorem up_up (c : Nat) : up1 (up1 c) = up1 c := by unfold up1; split <;> (try split) <;> omega
theorem map_id_of {l : List Nat} {f : Nat → Nat} (h : ∀ c ∈ l, f c = c) : l.map f = l := by
  have : l.map f = l.map id := List.map_congr_left h
  rw [this, List.map_id]

section
variable {ns : List Int}
def headV (ns : List Int) : List Nat := codesV ns ++ ((sixV ns).take (shortV ns).toNat).map (96 + ·)
def tailV (ns : List Int) : List Nat := behindV ns ++ ((sixV ns).drop (shortV ns).toNat).map sgn
theorem textA_split : textA ns = headV ns ++ [49] ++ tailV ns := by
  unfold textA headV tailV
  simp only [List.append_assoc]
theorem CHN_noCap : ∀ c ∈ CHN, noCap c := by unfold noCap; decide
theorem ODD_noCap : ∀ c ∈ ODD, noCap c := by unfold noCap; decide
theorem textA_noCap (h2 : wayV ns ≠ 2) : ∀ c ∈ textA ns, noCap c := fun c hc => by
  unfold textA at hc
  rw [codesV_eq h2] at hc
  simp only [List.mem_append] at hc
  rcases hc with (((h | h) | h) | h) | h
  · exact (codesA_mem c h).2.2
  · obtain ⟨v, hv, rfl⟩ := List.mem_map.mp h
    unfold noCap; omega
  · simp at h; unfold noCap; omega
  · rcases behind_mem h with h | h
    · exact ODD_noCap c h
    · exact CHN_noCap c h
  · exact CHN_noCap c (six_mem h)
theorem textBN_lo (h2 : wayV ns ≠ 2) : (textBN ns).map lo1 = headV ns ++ [49] ++ tailV ns := by
  rw [← textA_split]
  unfold textBN
  split
  · rw [List.map_map]
    exact map_id_of fun c hc => noCap_up (textA_noCap h2 c hc)
  · exact map_id_of fun c hc => noCap_lo (textA_noCap h2 c hc)
theorem tail_49 : 49 ∉ tailV ns := fun h => by
  unfold tailV at h
  rcases List.mem_append.mp h with h | h
  · rcases behind_mem h with h | h
    · exact (ODD_lt _ h).2.1 rfl
    · exact (CHN_lt _ h).2.2.2.1 rfl
  · exact (CHN_lt _ (six_mem h)).2.2.2.1 rfl
theorem head_len : (headV ns).length = (sizeV ns).toNat + (shortV ns).toNat := by
  have := short_range (ns := ns)
  unfold headV
  rw [List.length_append, List.length_map, List.length_take, sixV_len, codesV_len]
  omega
theorem tail_len : (tailV ns).length = (rowV ns).length + 6 - (shortV ns).toNat := by
  have := short_range (ns := ns)
  unfold tailV
  rw [List.length_append, List.length_map, List.length_drop, sixV_len, behind_len]
  omega

/-- a rule is broken, not by letters -/
theorem law_none (h2 : wayV ns ≠ 2) (hx : (headV ns).length < 1 ∨ 83 < (headV ns).length ∨ (tailV ns).length < 6 ∨ ∃ c ∈ tailV ns, c ∉ CHN) : decV (T (textBN ns)) = none :=
  dec_none (textBN_ascii h2) (textBN_lo h2) tail_49 hx

theorem bad_all : ∀ c ∈ BAD, badC c = true := by decide
theorem law_two (h2 : wayV ns = 2) : decV (T (textBN ns)) = none := by
  have hc : capsV ns = false := by unfold capsV; rw [h2]; rfl
  have ht : textBN ns = textA ns := by unfold textBN; rw [if_neg (by rw [hc]; simp)]
  have hp := sizeV_pos (ns := ns) (by omega)
  have hq0 : 0 ≤ ((n3V ns).fdiv 8).fmod (sizeV ns) := Int.fmod_nonneg_of_pos _ (by omega)
  have hq1 : ((n3V ns).fdiv 8).fmod (sizeV ns) < sizeV ns := Int.fmod_lt_of_pos _ (by omega)
  have h0 : 0 ≤ (n3V ns).fmod 8 := Int.fmod_nonneg_of_pos _ (by decide)
  have h1 : (n3V ns).fmod 8 < 8 := Int.fmod_lt_of_pos _ (by decide)
  have hlt : ((n3V ns).fmod 8).toNat < BAD.length := by show _ < 8; omega
  rw [ht]
  refine dec_bad (c := BAD.getD ((n3V ns).fmod 8).toNat 0) ?_ (bad_all _ ?_)
  · rw [textA_split]
    unfold headV
    refine List.mem_append_left _ (List.mem_append_left _ (List.mem_append_left _ ?_))
    unfold codesV
    rw [if_pos (by rw [h2]; rfl)]
    refine List.mem_of_getElem? (i := (((n3V ns).fdiv 8).fmod (sizeV ns)).toNat) ?_
    rw [List.getElem?_set, if_pos rfl, if_pos (by rw [codesA_len]; omega)]
  · rw [List.getD_eq_getElem?_getD, List.getElem?_eq_getElem hlt]
    exact List.getElem_mem hlt

theorem behind_row (h7 : wayV ns ≠ 7) : behindV ns = (rowV ns).map sgn := by
  unfold behindV
  rw [str_not h7]
  refine List.ext_getElem (by simp) fun i h1 h2 => ?_
  simp only [List.length_map, List.length_range] at h1
  simp only [List.getElem_map, List.getElem_range]
  rw [if_neg (by simp), List.getD_eq_getElem?_getD, List.getElem?_eq_getElem h1]
  rfl
theorem map_fi {l : List Nat} (h : ∀ v ∈ l, v < 32) : (l.map sgn).map fiN = l := by
  rw [List.map_map]
  exact map_id_of fun v hv => fi_sgn v (h v hv)

/-- no rule is broken -/
theorem law_fine (h3 : wayV ns ≠ 3) (h4 : wayV ns ≠ 4) (h2 : wayV ns ≠ 2) (h7 : wayV ns ≠ 7) (hs : shortV ns = 0) : decV (T (textBN ns)) = some (T (codesV ns), nI (rowV ns)) := by
  have hH : headV ns = codesV ns := by unfold headV; rw [hs]; simp
  have hS : tailV ns = (rowV ns ++ sixV ns).map sgn := by
    unfold tailV
    rw [behind_row h7, hs, List.map_append]
    rfl
  have hsp := sizeV_pos h3
  have hs83 := sizeV_83 h4
  have hA : ∀ c ∈ textA ns, 33 ≤ c ∧ c ≤ 126 ∧ noCap c := fun c hc => by
    refine ⟨?_, ?_, textA_noCap h2 c hc⟩ <;>
    · rw [textA_split, hH, hS, codesV_eq h2] at hc
      rcases List.mem_append.mp hc with hc | hc
      · rcases List.mem_append.mp hc with hc | hc
        · have := codesA_mem c hc; omega
        · simp at hc; omega
      · obtain ⟨v, hv, rfl⟩ := List.mem_map.mp hc
        have : v < 32 := (List.mem_append.mp hv).elim (rowV_lt v) (sixV_lt v)
        have := CHN_lt _ (sgn_mem this)
        omega
  have e := dec_some (l := textBN ns) (n := 0) (H := headV ns) (S := tailV ns) ?_ ?_ (textBN_lo h2) tail_49 ?_ ?_ ?_ ?_ ?_
  · rw [e, hH, hS, map_fi]
    · rw [List.length_map, List.length_append, sixV_len, Nat.add_sub_cancel, List.take_left]
    · exact fun v hv => (List.mem_append.mp hv).elim (rowV_lt v) (sixV_lt v)
  · intro c hc
    unfold textBN at hc
    split at hc
    · obtain ⟨v, hv, rfl⟩ := List.mem_map.mp hc
      have := hA v hv
      unfold up1
      split <;> omega
    · exact ⟨(hA c hc).1, (hA c hc).2.1⟩
  · unfold mixed
    unfold textBN
    split
    next h =>
      rw [up_T (fun c hc => by
        obtain ⟨v, hv, rfl⟩ := List.mem_map.mp hc
        have := hA v hv
        exact up1_lt (by omega)), List.map_map]
      have : (textA ns).map (up1 ∘ up1) = (textA ns).map up1 := List.map_congr_left fun c _ => up_up c
      rw [this]
      simp
    · rw [lo_T (fun c hc => by have := hA c hc; omega), map_id_of fun c hc => noCap_lo (hA c hc).2.2]
      simp
  · rw [hH, codesV_len]; omega
  · rw [hH, codesV_len]; omega
  · rw [hS, List.length_map, List.length_append, sixV_len]; omega
  · intro c hc
    rw [hS] at hc
    obtain ⟨v, hv, rfl⟩ := List.mem_map.mp hc
    exact sgn_mem ((List.mem_append.mp hv).elim (rowV_lt v) (sixV_lt v))
  · rw [hH, hS, map_fi (fun v hv => (List.mem_append.mp hv).elim (rowV_lt v) (sixV_lt v))]
    have hw : wholeV ns = [0, 0, 0, 0, 0, 1] ++ (((codesV ns).map (· / 32) ++ [0] ++ (codesV ns).map (· % 32)) ++ rowV ns) := by
      have hf : flipV ns = false := by unfold flipV; rw [show (wayV ns == 7) = false by simpa using h7]; rfl
      unfold wholeV
      rw [if_neg (by rw [hf]; simp)]
      unfold wholeA
      rw [hs]
      simp
    have hx : hexp (codesV ns) = (codesV ns).map (· / 32) ++ [0] ++ (codesV ns).map (· % 32) := by
      unfold hexp
      congr 1
      exact List.map_congr_left fun c _ => Nat.and_two_pow_sub_one_eq_mod c 5
    rw [hx, ← List.append_assoc]
    have hr : (([0, 0, 0, 0, 0, 1] ++ (((codesV ns).map (· / 32) ++ [0] ++ (codesV ns).map (· % 32)) ++ rowV ns)) ++ [0, 0, 0, 0, 0, 0]).foldl stepR rest0 = sixR ns := by
      unfold sixR
      rw [hw]
      rfl
    refine checksum (vs := ((codesV ns).map (· / 32) ++ [0] ++ (codesV ns).map (· % 32)) ++ rowV ns) (fun v hv => ?_) hr
    simp only [List.mem_append, List.mem_map] at hv
    rcases hv with ((⟨c, hc, rfl⟩ | h) | ⟨c, hc, rfl⟩) | h
    · have := codesV_255 c hc; omega
    · simp at h; omega
    · omega
    · exact rowV_lt v h
end
end Mine
end

section
open PySem PySem.Calls PyProof.Rows
namespace Mine

theorem up_small {c : Nat} : ¬ (97 ≤ up1 c ∧ up1 c ≤ 122) := by unfold up1; split <;> omega

theorem cap_up {c : Nat} (h : lo1 c ≠ c) : up1 (lo1 c) ≠ lo1 c := by
  by_cases h1 : 65 ≤ c ∧ c ≤ 90
  · have : lo1 c = c + 32 := by unfold lo1; rw [if_pos h1]
    rw [this]
    unfold up1
    rw [if_pos (by omega)]
    omega
  · exact absurd (by unfold lo1; rw [if_neg h1]) h
theorem mixed_of {l : List Nat} (ha : ∀ c ∈ l, c < 128) {c d : Nat} (hc : c ∈ l) (hd : d ∈ l) (h1 : lo1 c ≠ c) (h2 : up1 d ≠ d) : mixed (T l) = true := by
  unfold mixed
  rw [lo_T ha, up_T ha, T_ne, T_ne]
  have key : ∀ (f : Nat → Nat) (c : Nat), c ∈ l → f c ≠ c → (l.map f != l) = true := fun f c hc hf => by
    rw [bne_iff_ne]
    intro e
    obtain ⟨i, hi⟩ := List.mem_iff_getElem?.mp hc
    have := congrArg (fun l => l[i]?) e
    simp only [List.getElem?_map, hi, Option.map_some] at this
    exact hf (Option.some.inj this)
  rw [key lo1 c hc h1, key up1 d hd h2]
  rfl

section
variable {ns : List Int}
theorem letter_at (h2 : wayV ns ≠ 2) {k : Nat} (h : k ∈ placesV ns) : k < (textBN ns).length ∧ lo1 ((textBN ns).getD k 0) ≠ up1 ((textBN ns).getD k 0) := by
  obtain ⟨h1, h3⟩ := places_lt h
  refine ⟨h1, fun e => ?_⟩
  have hc : ∀ c ∈ [(textBN ns).getD k 0], c < 128 := fun c hc => by
    rw [List.mem_singleton.mp hc]; exact get_ascii h2 _
  unfold letterAt at h3
  rw [textB_eq, T_item h1, lo_T hc, up_T hc, T_ne] at h3
  simp only [List.map_cons, List.map_nil, bne_iff_ne, ne_eq, List.cons.injEq, and_true] at h3
  exact h3 e
theorem other_place (hp : 1 < (placesV ns).length) : ∃ k ∈ placesV ns, k ≠ placeV ns := by
  have hnd : (placesV ns).Nodup := List.Pairwise.filter _ List.nodup_range
  generalize placesV ns = l at *
  match l, hp, hnd with
  | a :: b :: l, _, hnd =>
    have hab : a ≠ b := by
      have := (List.nodup_cons.mp hnd).1
      intro e; exact this (e ▸ .head _)
    by_cases h : a = placeV ns
    · exact ⟨b, .tail _ (.head _), fun e => hab (h.trans e.symm)⟩
    · exact ⟨a, .head _, h⟩
theorem mem_set_self {l : List Nat} {k c : Nat} (h : k < l.length) : c ∈ l.set k c := List.mem_of_getElem? (i := k) (by simp [h])
theorem mem_set_other {l : List Nat} {k j c : Nat} (h : j < l.length) (hne : j ≠ k) : l.getD j 0 ∈ l.set k c := List.mem_of_getElem? (i := j) (by
  rw [List.getElem?_set, if_neg (Ne.symm hne), List.getD_eq_getElem?_getD, List.getElem?_eq_getElem h]; rfl)
theorem law_turn (ht : turnB ns = true) : decV (T (textVN ns)) = none := by
  obtain ⟨h6, hp⟩ := turn_way ht
  have h2 : wayV ns ≠ 2 := by omega
  obtain ⟨hk, hl⟩ := letter_at h2 (place_mem hp)
  obtain ⟨j, hj, hne⟩ := other_place hp
  obtain ⟨hj1, hl2⟩ := letter_at h2 hj
  have htv : textVN ns = (textBN ns).set (placeV ns) (otherV ns) := by unfold textVN; rw [if_pos ht]
  refine dec_mixed ?_
  rw [htv]
  have ha : ∀ c ∈ (textBN ns).set (placeV ns) (otherV ns), c < 128 := fun c hc => by
    rcases List.mem_or_eq_of_mem_set hc with h | rfl
    · exact textBN_ascii h2 c h
    · unfold otherV
      split
      · exact lo1_lt (get_ascii h2 _)
      · exact up1_lt (get_ascii h2 _)
  have m1 : otherV ns ∈ (textBN ns).set (placeV ns) (otherV ns) := mem_set_self hk
  have m2 : (textBN ns).getD j 0 ∈ (textBN ns).set (placeV ns) (otherV ns) := mem_set_other hj1 hne
  have mk : (textBN ns).getD (placeV ns) 0 ∈ textBN ns := by
    rw [List.getD_eq_getElem?_getD, List.getElem?_eq_getElem hk]; exact List.getElem_mem hk
  have mj : (textBN ns).getD j 0 ∈ textBN ns := by
    rw [List.getD_eq_getElem?_getD, List.getElem?_eq_getElem hj1]; exact List.getElem_mem hj1
  generalize hc : (textBN ns).getD (placeV ns) 0 = c at *
  generalize hd : (textBN ns).getD j 0 = d at *
  by_cases hcap : capsV ns = true
  · have hall : ∀ x ∈ textBN ns, ¬ (97 ≤ x ∧ x ≤ 122) := fun x hx => by
      unfold textBN at hx
      rw [if_pos hcap] at hx
      obtain ⟨v, _, rfl⟩ := List.mem_map.mp hx
      exact up_small
    have g1 := hall c mk
    have g2 := hall d mj
    have ho : otherV ns = lo1 c := by unfold otherV; rw [if_pos hcap, hc]
    refine mixed_of ha m2 m1 ?_ ?_
    · intro e
      apply hl2
      rw [e]
      unfold up1; rw [if_neg g2]
    · rw [ho]
      have e : up1 c = c := by unfold up1; rw [if_neg g1]
      rw [e] at hl
      exact cap_up hl
  · have hall : ∀ x ∈ textBN ns, noCap x := fun x hx => by
      unfold textBN at hx
      rw [if_neg hcap] at hx
      exact textA_noCap h2 x hx
    have g1 := hall c mk
    have g2 := hall d mj
    have ho : otherV ns = up1 c := by unfold otherV; rw [if_neg hcap, hc]
    refine mixed_of ha m1 m2 ?_ ?_
    · rw [ho, noCap_up g1]
      rw [noCap_lo g1] at hl
      exact hl
    · rw [noCap_lo g2] at hl2
      exact Ne.symm hl2

theorem law_plain : decV (textV ns) = dueV ns := by
  rw [textV_eq]
  have hw := way_range (ns := ns)
  have hsh := short_range (ns := ns)
  by_cases ht : turnB ns = true
  · rw [law_turn ht]
    unfold dueV; rw [if_pos ht]
  · have e1 : textVN ns = textBN ns := by unfold textVN; rw [if_neg ht]
    have e2 : dueV ns = dueA ns := by unfold dueV; rw [if_neg ht]
    rw [e1, e2]
    by_cases hf : fineV ns = true
    · have e3 : dueA ns = some (T (codesV ns), nI (rowV ns)) := by unfold dueA; rw [if_pos hf]
      rw [e3]
      unfold fineV at hf
      simp only [Bool.or_eq_true, Bool.and_eq_true, decide_eq_true_eq, beq_iff_eq] at hf
      have hs : shortV ns = 0 := by
        by_cases h5 : wayV ns = 5
        · rcases hf with h | h | h
          · omega
          · omega
          · exact h.2
        · unfold shortV; rw [if_neg (by simpa using h5)]
      exact law_fine (by omega) (by omega) (by omega) (by omega) hs
    · have e3 : dueA ns = none := by unfold dueA; rw [if_neg hf]
      rw [e3]
      unfold fineV at hf
      simp only [Bool.or_eq_true, Bool.and_eq_true, decide_eq_true_eq, beq_iff_eq] at hf
      by_cases h2 : wayV ns = 2
      · exact law_two h2
      have hs5 : wayV ns ≠ 5 → shortV ns = 0 := fun h5 => by unfold shortV; rw [if_neg (by simpa using h5)]
      refine law_none h2 ?_
      rw [head_len, tail_len]
      by_cases h3 : wayV ns = 3
      · left
        have e4 : sizeV ns = 0 := by
          unfold sizeV sizeB
          rw [h3]
          rfl
        rw [e4, hs5 (by omega)]
        decide
      by_cases h4 : wayV ns = 4
      · right; left
        have h84 : 0 ≤ ((n1V ns).fdiv 8).fmod 7 := Int.fmod_nonneg_of_pos _ (by decide)
        have e4 : sizeV ns = 84 + ((n1V ns).fdiv 8).fmod 7 := by
          unfold sizeV
          rw [h4]
          rfl
        omega
      by_cases h5 : wayV ns = 5
      · right; right; left
        rw [rowV_five h5]
        have : shortV ns ≠ 0 := fun e => hf (.inr (.inr ⟨h5, e⟩))
        simp only [List.length_nil]
        omega
      · right; right; right
        have h7 : wayV ns = 7 := by omega
        have hs0 := str_seven h7
        have hs1 := str_range (ns := ns)
        refine ⟨oddV ns, ?_, (ODD_lt _ odd_mem).2.2.2.2.2⟩
        unfold tailV
        refine List.mem_append_left _ ?_
        unfold behindV
        refine List.mem_map.mpr ⟨(strV ns).toNat, List.mem_range.mpr (by omega), ?_⟩
        rw [if_pos]
        rw [beq_iff_eq]
        omega
end
end Mine
end

section
open PySem PySem.Calls PyProof.Rows
namespace Mine

structure Fns (mg : Str → Option Value) (h : Heap) : Prop where
  lat : FnAt mg h (Str.ofString "_law_at") (fnParams 8) (fnBody 8) (fnScope 8)
  dig : FnAt mg h (Str.ofString "_law_digits") (fnParams 9) (fnBody 9) (fnScope 9)
  tab : FnAt mg h (Str.ofString "_law_tables") (fnParams 10) (fnBody 10) (fnScope 10)
  rst : FnAt mg h (Str.ofString "_law_rest") (fnParams 11) (fnBody 11) (fnScope 11)
  ver : FnAt mg h (Str.ofString "bech32_verify_checksum") (fnParams 4) (fnBody 4) (fnScope 4)
  pol : FnAt mg h (Str.ofString "bech32_polymod") (fnParams 2) (fnBody 2) (fnScope 2)
  hrp : FnAt mg h (Str.ofString "bech32_hrp_expand") (fnParams 3) (fnBody 3) (fnScope 3)

abbrev LE (L a : Addr) (cd : Value) : Env := envOfC (Str.ofString "law") (fnScope 12) L a cd
abbrev LB (k : Nat) : List Stmt := (fnBody 12).drop k

section
variable {w : World} {A : Around} {s s0 : Shared} {mg mb : Str → Option Value} {h : Heap} {B : Addr → Obj → Prop} {L ad : Addr} {cd : Value} {ns : List Int} {Q : Flow → Shared → Prop} {E : Value → Shared → Prop}

theorem le_g : EnvG (LE L ad cd) := ⟨rfl, rfl, rfl⟩

def σ1 (ns : List Int) : List (Str × D) := [(Str.ofString "names", .il (nI (namesV ns))), (Str.ofString "size", .int (sizeV ns)), (Str.ofString "number", .int (n1V ns)), (Str.ofString "way", .int (wayV ns)), (Str.ofString "pick", .int (pickV ns)), (Str.ofString "script", .il ns)]

theorem small63 (hl : ns.length ≤ 63) : ns.length ≤ sizeLine := by have : 63 ≤ sizeLine := (by decide); omega

theorem seg1a {n : Nat} (hA : Good A (n + 1)) (G : Gx mg mb h) (hu : ∀ b o, h.get? b = some o → B b o) (M : Nm mg) (FS : Fns mg h) (hl : ns.length ≤ 63)
    (F : Fx B s0 (LE L ad cd) [(Str.ofString "script", .il ns)] s)
    (hq : ∀ s', Fx B s0 (LE L ad cd) [(Str.ofString "size", .int (sizeV ns)), (Str.ofString "number", .int (n1V ns)), (Str.ofString "way", .int (wayV ns)), (Str.ofString "pick", .int (pickV ns)), (Str.ofString "script", .il ns)] s' → wpAny (model P w) A (execs (LB 7) (LE L ad cd)) Q E s') :
    wpAny (model P w) A (execs (fnBody 12) (LE L ad cd)) Q E s := by
  have hsz := small63 hl
  refine F.assign (d := .int (pickV ns)) (Ev.callFn (at_ok (n := n) FS.lat G M hsz (by decide)) le_g (G.up (F.up hu)) (F.up hu) hA (Evs.cons (nl F.st) (Evs.cons Ev.int (Evs.cons Ev.int .nil rfl) rfl) rfl) rfl rfl rfl) (.inl rfl) rfl fun s₁ F₁ => ?_
  refine F₁.assign (d := .int (wayV ns)) (Ev.bin (nl F₁.st) Ev.int (ok_mod (by decide))) (.inl rfl) rfl fun s₂ F₂ => ?_
  refine F₂.assign (d := .int (n1V ns)) (Ev.callFn (at_ok (n := n) FS.lat G M hsz (by decide)) le_g (G.up (F₂.up hu)) (F₂.up hu) hA (Evs.cons (nl F₂.st) (Evs.cons Ev.int (Evs.cons Ev.int .nil rfl) rfl) rfl) rfl rfl rfl) (.inr rfl) rfl fun s₃ F₃ => ?_
  refine F₃.assign (d := .int (mostV ns)) (Ev.iteInt (Ts.cmp (nl F₃.st) Ev.int ok_eq) (fun _ => Ev.int) fun _ => Ev.int) (.inl rfl) rfl fun s₄ F₄ => ?_
  have hm := most_range (ns := ns)
  have h0 : 0 ≤ (n1V ns).fmod 8 := Int.fmod_nonneg_of_pos _ (by decide)
  have h1 : (n1V ns).fmod 8 < 8 := Int.fmod_lt_of_pos _ (by decide)
  refine F₄.assign (d := .int (sizeA ns)) (Ev.itemI (ns := [1 + ((n1V ns).fdiv 8).fmod (mostV ns), 1, 2, mostV ns, 3, mostV ns - 1, 8, 13]) (k := (n1V ns).fmod 8) (Ev.listI
    (Evs.cons (Ev.bin Ev.int (Ev.bin (Ev.bin (nc F₄.st) Ev.int (ok_div (by decide) (pylong_small (by decide) (by decide)))) (nl F₄.st) (ok_mod (by omega))) ok_add) (Evs.cons Ev.int (Evs.cons Ev.int (Evs.cons (nl F₄.st) (Evs.cons Ev.int (Evs.cons (Ev.bin (nl F₄.st) Ev.int ok_sub) (Evs.cons Ev.int (Evs.cons Ev.int .nil rfl) rfl) rfl) rfl) rfl) rfl) rfl) rfl) (show 8 ≤ sizeLine by decide))
    (Ev.bin (nc F₄.st) Ev.int (ok_mod (by decide))) h0 h1 (by omega)) (.inl rfl) rfl fun s₅ F₅ => ?_
  refine F₅.ifThen (σ' := [(Str.ofString "size", .int (sizeB ns)), (Str.ofString "number", .int (n1V ns)), (Str.ofString "way", .int (wayV ns)), (Str.ofString "pick", .int (pickV ns)), (Str.ofString "script", .il ns)]) (Ts.cmp (nl F₅.st) Ev.int ok_eq) (fun hb s₆ k₆ F₆ => ?_) (fun hb s₆ k₆ F₆ => ?_) fun s₆ F₆ => ?_
  · refine F₆.assign (d := .int 0) Ev.int (.inl rfl) rfl fun s₇ F₇ => wpAny_execs_nil ⟨rfl, F₇.weak ?_⟩
    have : sizeB ns = 0 := by unfold sizeB; rw [if_pos hb]
    rw [this]
    exact weak_cons rfl (weak_cons rfl (weak_cons rfl (weak_cons rfl (weak_cons rfl weak_nil))))
  · refine F₆.weak ?_
    have : sizeB ns = sizeA ns := by unfold sizeB; rw [if_neg (by rw [hb]; simp)]
    rw [this]
    exact weak_cons rfl (weak_cons rfl (weak_cons rfl (weak_cons rfl (weak_cons rfl weak_nil))))
  refine F₆.ifThen (σ' := [(Str.ofString "size", .int (sizeV ns)), (Str.ofString "number", .int (n1V ns)), (Str.ofString "way", .int (wayV ns)), (Str.ofString "pick", .int (pickV ns)), (Str.ofString "script", .il ns)]) (Ts.cmp (nl F₆.st) Ev.int ok_eq) (fun hb s₇ k₇ F₇ => ?_) (fun hb s₇ k₇ F₇ => ?_) fun s₇ F₇ => hq s₇ F₇
  · refine F₇.assign (Ev.bin Ev.int (Ev.bin (Ev.bin (nc F₇.st) Ev.int (ok_div (by decide) (pylong_small (by decide) (by decide)))) Ev.int (ok_mod (by decide))) ok_add) (.inl rfl) rfl fun s₈ F₈ => wpAny_execs_nil ⟨rfl, F₈.weak ?_⟩
    have : sizeV ns = 84 + ((n1V ns).fdiv 8).fmod 7 := by unfold sizeV; rw [if_pos hb]
    rw [this]
    exact weak_cons rfl (weak_cons rfl (weak_cons rfl (weak_cons rfl (weak_cons rfl weak_nil))))
  · refine F₇.weak ?_
    have : sizeV ns = sizeB ns := by unfold sizeV; rw [if_neg (by rw [hb]; simp)]
    rw [this]
    exact weak_cons rfl (weak_cons rfl (weak_cons rfl (weak_cons rfl (weak_cons rfl weak_nil))))
end
end Mine
end

section
open PySem PySem.Calls PyProof.Rows
namespace Mine
theorem names_int {ns : List Int} : (digV (atV ns 2 2759) 68 40).map (fun k : Int => if decide (k < 32) = true then 33 + k else 59 + k) = nI (namesV ns) := by
  rw [← digN_eq (by decide)]
  unfold namesV nI
  rw [List.map_map, List.map_map]
  refine List.map_congr_left fun k _ => ?_
  simp only [Function.comp_def, decide_eq_true_eq]
  split <;> split <;> omega
theorem codes_int {ns : List Int} {n : Nat} (hn : n = (sizeV ns).toNat) : ((List.range n).map fun i : Nat => (0 : Int) + i).map (fun k : Int => (nI (namesV ns)).getD (k.fmod ((nI (namesV ns)).length : Int)).toNat 0) = nI (codesA ns) := by
  subst hn
  unfold codesA
  rw [show nI ((List.range (sizeV ns).toNat).map fun k => (namesV ns).getD (k % (namesV ns).length) 0) = ((List.range (sizeV ns).toNat).map fun k => (namesV ns).getD (k % (namesV ns).length) 0).map (fun v : Nat => (v : Int)) from rfl, List.map_map, List.map_map]
  refine List.map_congr_left fun k _ => ?_
  simp only [Function.comp_def, Int.zero_add]
  rw [nI_len, ← nI_get]
  congr 1
  rw [Int.fmod_eq_emod_of_nonneg _ (by omega)]
  omega
theorem nI_set (l : List Nat) (k c : Nat) : (nI l).set k (c : Int) = nI (l.set k c) := by
  unfold nI; rw [List.map_set]

section
variable {w : World} {A : Around} {s s0 : Shared} {mg mb : Str → Option Value} {h : Heap} {B : Addr → Obj → Prop} {L ad : Addr} {cd : Value} {ns : List Int} {Q : Flow → Shared → Prop} {E : Value → Shared → Prop}

def σ2 (ns : List Int) : List (Str × D) := [(Str.ofString "short", .int (shortV ns)), (Str.ofString "codes", .il (nI (codesV ns))), (Str.ofString "size", .int (sizeV ns)), (Str.ofString "number", .int (n3V ns)), (Str.ofString "way", .int (wayV ns)), (Str.ofString "pick", .int (pickV ns)), (Str.ofString "script", .il ns)]

set_option maxHeartbeats 1000000 in
theorem seg1b {n : Nat} (hA : Good A (n + 1)) (G : Gx mg mb h) (hu : ∀ b o, h.get? b = some o → B b o) (M : Nm mg) (FS : Fns mg h) (hl : ns.length ≤ 63)
    (F : Fx B s0 (LE L ad cd) [(Str.ofString "size", .int (sizeV ns)), (Str.ofString "number", .int (n1V ns)), (Str.ofString "way", .int (wayV ns)), (Str.ofString "pick", .int (pickV ns)), (Str.ofString "script", .il ns)] s)
    (hq : ∀ s', Fx B s0 (LE L ad cd) (σ2 ns) s' → wpAny (model P w) A (execs (LB 12) (LE L ad cd)) Q E s') :
    wpAny (model P w) A (execs (LB 7) (LE L ad cd)) Q E s := by
  have hsz := small63 hl
  have s1000 : 1000 ≤ sizeLine := by decide
  have hsr := sizeV_range (ns := ns)
  have hnp := names_pos (ns := ns)
  refine F.assign (d := .il (nI (namesV ns))) (Ev.as (EvF.il (EvF.compII (τ := []) (f := fun k : Int => if decide (k < 32) = true then 33 + k else 59 + k) hA.1
    (Src.list (Ev.callFn (digits_ok (n := n) (i := atV ns 2 2759) (b := 68) (m := 40) FS.dig G M (by decide) (by decide) (by decide) (by decide)) le_g (G.up (F.up hu)) (F.up hu) hA (Evs.cons (Ev.callFn (at_ok (n := n) FS.lat G M hsz (by decide)) le_g (G.up (F.up hu)) (F.up hu) hA (Evs.cons (nl F.st) (Evs.cons Ev.int (Evs.cons Ev.int .nil rfl) rfl) rfl) rfl rfl rfl) (Evs.cons Ev.int (Evs.cons Ev.int .nil rfl) rfl) rfl) rfl rfl rfl)) F.st weak_nil cap_nil
    (fun C s₃ a ha u S => Ev.iteInt (Ts.cmp (nl S) Ev.int ok_lt) (fun _ => Ev.bin Ev.int (nl S) ok_add) (fun _ => Ev.bin Ev.int (nl S) ok_add)) rfl (by decide) rfl (by decide) rfl ?_ (fun _ => rfl))) (congrArg D.il names_int)) (.inr rfl) rfl fun s₁ F₁ => ?_
  · have := digs_len 68 (40 : Int).toNat (absI (atV ns 2 2759))
    have h40 : (40 : Int).toNat = 40 := rfl
    unfold digV; omega
  have hlen : ((nI (namesV ns)).length : Int) ≠ 0 := by rw [nI_len]; omega
  have hnl : (namesV ns).length ≤ 40 := by
    unfold namesV; rw [List.length_map]
    exact digN_len _ _ _
  refine F₁.assignComp (cl := [(Str.ofString "names", L + 1 + 1)]) (τ := [(Str.ofString "names", .il (nI (namesV ns)))]) (V := D.int) (q := fun _ => true) (g := fun k : Int => .int ((nI (namesV ns)).getD (k.fmod ((nI (namesV ns)).length : Int)).toNat 0)) hA.1
    (Src.range (n := (sizeV ns).toNat) (EvR.one le_g (G.up (F₁.up hu)) M.range boot_range (nl F₁.st) rfl (by decide) rfl rfl) (by decide) (by decide) (by omega) (by omega) (by omega)).asI
    (weak_cons rfl weak_nil) (cap_cons rfl rfl rfl cap_nil)
    (Elts.plain fun C s₃ a ha u S => Ev.itemI (nc S) (Ev.bin (nl S) (Ev.call1 ⟨rfl, rfl, rfl⟩ (G.up ((F₁.up hu).trans u)) M.len boot_len (nc S) (py_len (by rw [nI_len]; omega)) rfl (by decide) rfl rfl) (ok_mod hlen)) (Int.fmod_nonneg_of_pos _ (by omega)) (Int.fmod_lt_of_pos _ (by omega)) (by have := Int.fmod_lt_of_pos a (b := ((nI (namesV ns)).length : Int)) (by omega); rw [nI_len] at this ⊢; omega))
    rfl rfl rfl (by decide) rfl (by decide) rfl (fun _ => trivial) (fun _ => trivial) vi_inj (fun _ => true) (fun _ _ _ _ _ => rfl) (by simp; omega) (fun _ => rfl) fun a vs s₂ hd M₂ => ?_
  rw [List.filter_eq_self.mpr (fun _ _ => rfl)] at hd
  have hi : IntsAre vs (nI (codesA ns)) := by rw [← codes_int rfl]; exact den_ints hd
  -- number
  have F₂ := M₂.toInts hi
  refine wpAny_execs_cons (wpAny_Assign_Name (ev_then (Ev.callFn (at_ok (n := n) (ns := ns) (k := 3) (o := 0) FS.lat G M hsz (by decide)) le_g (G.up (F₂.up hu)) (F₂.up hu) hA (Evs.cons (nl F₂.st) (Evs.cons Ev.int (Evs.cons Ev.int .nil rfl) rfl) rfl) rfl rfl rfl) (keeps_refl _) fun v s₃ k₃ d₃ => (M₂.keeps k₃).store (d := .int (n3V ns)) (.inr rfl) (by decide) d₃ fun s₄ M₄ _ => ?_))
  have M₅ := M₄.weak (σ' := [(Str.ofString "size", .int (sizeV ns)), (Str.ofString "number", .int (n3V ns)), (Str.ofString "way", .int (wayV ns)), (Str.ofString "pick", .int (pickV ns)), (Str.ofString "script", .il ns)]) (weak_cons rfl (weak_cons rfl (weak_cons rfl (weak_cons rfl (weak_cons rfl weak_nil)))))
  have F₅ := M₅.toInts hi
  have h80 : 0 ≤ (n3V ns).fmod 8 := Int.fmod_nonneg_of_pos _ (by decide)
  have h81 : (n3V ns).fmod 8 < 8 := Int.fmod_lt_of_pos _ (by decide)
  refine F₅.ifThen (σ' := [(Str.ofString "codes", .il (nI (codesV ns))), (Str.ofString "size", .int (sizeV ns)), (Str.ofString "number", .int (n3V ns)), (Str.ofString "way", .int (wayV ns)), (Str.ofString "pick", .int (pickV ns)), (Str.ofString "script", .il ns)]) (Ts.cmp (nl F₅.st) Ev.int ok_eq) (fun hb s₆ k₆ F₆ => ?_) (fun hb s₆ k₆ F₆ => ?_) fun s₆ F₆ => ?_
  · have hw : wayV ns = 2 := by simpa using hb
    have hp := sizeV_pos (ns := ns) (by omega)
    have hq0 : 0 ≤ ((n3V ns).fdiv 8).fmod (sizeV ns) := Int.fmod_nonneg_of_pos _ (by omega)
    have hq1 : ((n3V ns).fdiv 8).fmod (sizeV ns) < sizeV ns := Int.fmod_lt_of_pos _ (by omega)
    have hvl : vs.length = (sizeV ns).toNat := by rw [intsAre_len hi, nI_len, codesA_len]
    refine (M₅.keeps k₆).setItem (d := .int (nI BAD |>.getD ((n3V ns).fmod 8).toNat 0)) (k := ((n3V ns).fdiv 8).fmod (sizeV ns)) (Ev.itemI (ns := nI BAD) (Ev.listI (ns := nI BAD) (Evs.cons Ev.int (Evs.cons Ev.int (Evs.cons Ev.int (Evs.cons Ev.int (Evs.cons Ev.int (Evs.cons Ev.int (Evs.cons Ev.int (Evs.cons Ev.int .nil rfl) rfl) rfl) rfl) rfl) rfl) rfl) rfl) (show 8 ≤ sizeLine by decide)) (Ev.bin (nc F₆.st) Ev.int (ok_mod (by decide))) h80 h81 (by omega))
      (Ev.bin (Ev.bin (nc F₆.st) Ev.int (ok_div (by decide) (pylong_small (by decide) (by decide)))) (nl F₆.st) (ok_mod (by omega))) hq0 (by omega) (by omega) (.inl rfl) rfl rfl fun v s₇ s₈ k₇ hv _ M₈ => wpAny_execs_nil ⟨rfl, ?_⟩
    obtain ⟨t, rfl⟩ := hv
    have hi' : IntsAre (vs.set (((n3V ns).fdiv 8).fmod (sizeV ns)).toNat (.int ((nI BAD).getD ((n3V ns).fmod 8).toNat 0) t)) (nI (codesV ns)) := by
      have : nI (codesV ns) = (nI (codesA ns)).set (((n3V ns).fdiv 8).fmod (sizeV ns)).toNat ((nI BAD).getD ((n3V ns).fmod 8).toNat 0) := by
        unfold codesV
        rw [if_pos hb, nI_get, nI_set]
      rw [this]
      exact intsAre_set hi _ _ _
    exact M₈.toInts hi'
  · have : codesV ns = codesA ns := by unfold codesV; rw [if_neg (by rw [hb]; simp)]
    rw [this]
    exact F₆
  refine F₆.assign (d := .int (shortV ns)) (Ev.iteInt (Ts.cmp (nl F₆.st) Ev.int ok_eq) (fun _ => Ev.bin (Ev.bin Ev.int (nc F₆.st) ok_add) Ev.int (ok_mod (by decide))) fun _ => Ev.int) (.inl rfl) rfl fun s₇ F₇ => hq s₇ F₇
end
end Mine
end

section
open PySem PySem.Calls PyProof.Rows
namespace Mine
theorem pick_4_28 {vs : List Value} {ns : List Int} (hi : IntsAre vs ns) (h : 4 < ns.length) :
    ∃ ws : List Value, slicePick vs.toArray (some 4) (some 28) none = ws.toArray ∧ IntsAre ws ((ns.take 28).drop 4) := by
  have hl := intsAre_len hi
  refine ⟨(vs.take 28).drop 4, ?_, intsAre_drop (intsAre_take hi 28) 4⟩
  rw [slicePick_plain]
  have h4 : clipAt vs.toArray.size (4 : Int) = 4 := by
    have := clipAt_nat vs.toArray.size 4
    rw [show ((4 : Nat) : Int) = 4 from rfl] at this
    rw [this, List.size_toArray]; omega
  have h28 : clipAt vs.toArray.size (28 : Int) = min 28 vs.length := by
    have := clipAt_nat vs.toArray.size 28
    rw [show ((28 : Nat) : Int) = 28 from rfl] at this
    rw [this, List.size_toArray]
  simp only [Option.elim, h4, h28]
  rw [List.drop_take]
  congr 1
  rcases Nat.le_total 28 vs.length with h | h
  · rw [Nat.min_eq_left h]
  · rw [Nat.min_eq_right h, List.take_of_length_le (by simp), List.take_of_length_le (by simp; omega)]

section
variable {w : World} {A : Around} {s s0 : Shared} {mg mb : Str → Option Value} {h : Heap} {B : Addr → Obj → Prop} {L ad : Addr} {cd : Value} {ns : List Int} {Q : Flow → Shared → Prop} {E : Value → Shared → Prop}

def σ3 (ns : List Int) : List (Str × D) := (Str.ofString "row", .il (nI (rowV ns))) :: σ2 ns

theorem takes_step {α β : Type} (f : β → α → β) (b : β) (l : List α) (i : Nat) (d : α) (h : i < l.length) : (l.take (i + 1)).foldl f b = f ((l.take i).foldl f b) (l.getD i d) := by
  rw [List.take_add_one, List.foldl_append]
  simp [List.getD_eq_getElem?_getD, h]

set_option maxHeartbeats 1000000 in
theorem seg2a {n : Nat} (hA : Good A (n + 1)) (G : Gx mg mb h) (hu : ∀ b o, h.get? b = some o → B b o) (M : Nm mg) (FS : Fns mg h) (hl : ns.length ≤ 63)
    (F : Fx B s0 (LE L ad cd) (σ2 ns) s)
    (hq : ∀ s', Fx B s0 (LE L ad cd) (σ3 ns) s' → wpAny (model P w) A (execs (LB 14) (LE L ad cd)) Q E s') :
    wpAny (model P w) A (execs (LB 12) (LE L ad cd)) Q E s := by
  have hsz := small63 hl
  have s1000 : 1000 ≤ sizeLine := by decide
  refine F.assign (d := .il (nI [])) (Ev.listI (ns := []) .nil (show 0 ≤ sizeLine by decide)) (.inr rfl) rfl fun s₁ F₁ => ?_
  refine for_list (ns := givensV ns) (ok := fun _ => True) (B := B) hA.1 (Ev.toList (Ev.ite (Ts.cmp (Ev.call1 le_g (G.up (F₁.up hu)) M.len boot_len (nl F₁.st) (py_len hsz) rfl (by decide) rfl rfl) Ev.int ok_gt)
    (fun hb => (Ev.sliceI (a := some 4) (b := some 28) (nl F₁.st) (evo_some Ev.int) (evo_some Ev.int) hsz (ms := (ns.take 28).drop 4) (fun vs hv => pick_4_28 hv (by have := of_decide_eq_true hb; omega))).as (by unfold givensV; rw [if_pos hb]))
    (fun hb => (Ev.listI (ns := [1, 700]) (Evs.cons Ev.int (Evs.cons Ev.int .nil rfl) rfl) (show 2 ≤ sizeLine by decide)).as (by unfold givensV; rw [if_neg (by rw [hb]; simp)])))) (fun _ => rfl)
    (fun B i s' => Fx B s0 (LE L ad cd) ((Str.ofString "row", .il (nI (((givensV ns).take i).foldl (rowStep ns) []))) :: σ2 ns) s')
    (fun B i s' F => F.base) (fun B B' i s' F h => fx_add (ψ := fun o b => (∃ ws, o.data = .fields ws) ∨ True) F h) (fun B i s' h' tk I o ws F ho hd hB k => F.iter ho hd hB k)
    (fun s' k => F₁.keeps k) F₁.base (fun B' i v s₃ t E' hB hi hvv F₃ => ?_) (fun s' F' => hq s' ?_)
  · subst hvv
    rw [takes_step _ _ _ _ 0 hi]
    have hacc : (((givensV ns).take i).foldl (rowStep ns) []).length ≤ 24 := rowFold_len _ _ (by simp)
    generalize ((givensV ns).take i).foldl (rowStep ns) [] = acc at *
    generalize (givensV ns).getD i 0 = g at *
    refine F₃.store (d := .int g) (.inl rfl) ⟨t, rfl⟩ fun s₄ F₄ _ _ => ?_
    have hul : ∀ b o, h.get? b = some o → B' b o := fun b o q => hB b o (hu b o q)
    have eLen : ∀ {s'}, Fx B' s0 (LE L ad cd) ((Str.ofString "given", .int g) :: (Str.ofString "row", .il (nI acc)) :: σ2 ns) s' → Up h s'.heap := fun F => F.up hul
    refine F₄.ifThen (σ' := (Str.ofString "row", .il (nI (rowStep ns acc g))) :: σ2 ns) (b := decide (((nI acc).length : Int) < 24) && ((wayV ns != 5) && true))
      (TsW.ts (TsW.and (Ts.cmp (Ev.call1 le_g (G.up (F₄.up hul)) M.len boot_len (nc F₄.st) (py_len (by rw [nI_len]; omega)) rfl (by decide) rfl rfl) Ev.int ok_lt) fun _ => TsW.and (Ts.cmp (nl F₄.st) Ev.int ok_ne) fun _ => TsW.andNil))
      (fun hb s₅ k₅ F₅ => ?_) (fun hb s₅ k₅ F₅ => ?_) fun s₅ F₅ => wpAny_execs_nil ⟨rfl, F₅⟩
    · rw [nI_len] at hb
      simp only [Bool.and_true, Bool.and_eq_true, decide_eq_true_eq, bne_iff_ne, ne_eq] at hb
      obtain ⟨hb1, hb2⟩ := hb
      refine F₅.assign (d := .il (nI acc ++ digV g 32 (24 - ((nI acc).length : Int)))) (Ev.bin (nc F₅.st) (Ev.callFn (digits_ok (n := n) (i := g) (b := 32) (m := 24 - ((nI acc).length : Int)) FS.dig G M (by decide) (by decide) (by rw [nI_len]; omega) (by omega)) le_g (G.up (F₅.up hul)) (F₅.up hul) hA
        (Evs.cons (nl F₅.st) (Evs.cons Ev.int (Evs.cons (Ev.bin Ev.int (Ev.call1 le_g (G.up (F₅.up hul)) M.len boot_len (nc F₅.st) (py_len (by rw [nI_len]; omega)) rfl (by decide) rfl rfl) ok_sub) .nil rfl) rfl) rfl) rfl rfl rfl) (ok_addL ?_)) (.inr rfl) rfl fun s₆ F₆ => wpAny_execs_nil ⟨rfl, ?_⟩
      · have := digs_len 32 (24 - ((nI acc).length : Int)).toNat (absI g)
        unfold digV
        rw [nI_len] at *
        omega
      · have e : nI acc ++ digV g 32 (24 - ((nI acc).length : Int)) = nI (rowStep ns acc g) := by
          unfold rowStep
          rw [if_pos ⟨by omega, hb2⟩, nI_len, ← digN_eq (by decide)]
          unfold nI; rw [List.map_append]
        rw [e] at F₆
        exact F₆.weak (weak_cons rfl (weak_cons rfl (weak_cons rfl (weak_cons rfl (weak_cons rfl (weak_cons rfl (weak_cons rfl (weak_cons rfl weak_nil))))))))
    · have e : rowStep ns acc g = acc := by
        unfold rowStep
        rw [if_neg]
        rintro ⟨h1, h2⟩
        rw [nI_len] at hb
        simp [h2] at hb
        omega
      rw [e]
      exact F₅.weak (weak_cons rfl (weak_cons rfl (weak_cons rfl (weak_cons rfl (weak_cons rfl (weak_cons rfl (weak_cons rfl (weak_cons rfl weak_nil))))))))
  · have := F'
    rw [List.take_length] at this
    exact this
end
end Mine
end

section
open PySem PySem.Calls PyProof.Rows
namespace Mine
theorem nI_div (l : List Nat) : (nI l).map (fun c : Int => c.fdiv 32) = nI (l.map (· / 32)) := by
  unfold nI
  rw [List.map_map, List.map_map]
  refine List.map_congr_left fun k _ => ?_
  simp only [Function.comp_def]
  rw [Int.fdiv_eq_ediv_of_nonneg _ (by omega)]
  omega
theorem nI_mod (l : List Nat) : (nI l).map (fun c : Int => c.fmod 32) = nI (l.map (· % 32)) := by
  unfold nI
  rw [List.map_map, List.map_map]
  refine List.map_congr_left fun k _ => ?_
  simp only [Function.comp_def]
  rw [Int.fmod_eq_emod_of_nonneg _ (by omega)]
  omega
theorem nI_rep (n c : Nat) : List.replicate n (c : Int) = nI (List.replicate n c) := by unfold nI; rw [List.map_replicate]
theorem nI_app (a b : List Nat) : nI a ++ nI b = nI (a ++ b) := by unfold nI; rw [List.map_append]
theorem whole_int {ns : List Int} : nI [0, 0, 0, 0, 0, 1] ++ (nI (codesV ns)).map (fun c : Int => c.fdiv 32) ++ List.replicate (shortV ns).toNat ((3 : Nat) : Int) ++ nI [0] ++ (nI (codesV ns)).map (fun c : Int => c.fmod 32) ++ nI (rowV ns) = nI (wholeA ns) := by
  rw [nI_div, nI_mod, nI_rep, nI_app, nI_app, nI_app, nI_app, nI_app]
  rfl

section
variable {w : World} {A : Around} {s s0 : Shared} {mg mb : Str → Option Value} {h : Heap} {B : Addr → Obj → Prop} {L ad : Addr} {cd : Value} {ns : List Int} {Q : Flow → Shared → Prop} {E : Value → Shared → Prop}

def σ4 (ns : List Int) : List (Str × D) := (Str.ofString "whole", .il (nI (wholeV ns))) :: (Str.ofString "strange", .int (strV ns)) :: σ3 ns

theorem weakW {d d' : D} {ns : List Int} {σ : List (Str × D)} (h : Weak ((Str.ofString "strange", d) :: σ3 ns) σ) (hw : σ.lookup (Str.ofString "whole") = some d') : Weak ((Str.ofString "whole", d') :: (Str.ofString "strange", d) :: σ3 ns) σ := weak_cons hw h


theorem cat6 {env : Env} {e1 e2 e3 e4 e5 e6 : Expr} {p1 p2 p3 p4 p5 : Pos} (a1 a2 a3 a4 a5 a6 : List Int) (h1 : Ev P w A env s e1 (.il a1)) (h2 : Ev P w A env s e2 (.il a2)) (h3 : Ev P w A env s e3 (.il a3)) (h4 : Ev P w A env s e4 (.il a4)) (h5 : Ev P w A env s e5 (.il a5)) (h6 : Ev P w A env s e6 (.il a6))
    (hsz : a1.length + a2.length + a3.length + a4.length + a5.length + a6.length ≤ sizeLine) :
    EvF P w A env s (.BinOp (.BinOp (.BinOp (.BinOp (.BinOp e1 .Add e2 p1) .Add e3 p2) .Add e4 p3) .Add e5 p4) .Add e6 p5) true fun h vs => IntsAre vs (a1 ++ a2 ++ a3 ++ a4 ++ a5 ++ a6) :=
  EvF.add (Ev.bin (Ev.bin (Ev.bin (Ev.bin h1 h2 (ok_addL (by omega))) h3 (ok_addL (by simp only [List.length_append]; omega))) h4 (ok_addL (by simp only [List.length_append]; omega))) h5 (ok_addL (by simp only [List.length_append]; omega))) h6 (by simp only [List.length_append]; omega)

theorem seg2b1 (hA : A.handled = none) (F : Fx B s0 (LE L ad cd) (σ3 ns) s)
    (hq : ∀ a vs s', Fm B s0 (LE L ad cd) true (Str.ofString "whole") a vs (σ3 ns) s' → IntsAre vs (nI (wholeA ns)) → wpAny (model P w) A (execs (LB 15) (LE L ad cd)) Q E s') :
    wpAny (model P w) A (execs (LB 14) (LE L ad cd)) Q E s := by
  have s1000 : 1000 ≤ sizeLine := by decide
  have hsr := sizeV_range (ns := ns)
  have hrl := rowV_len (ns := ns)
  have hsh := short_range (ns := ns)
  have hcl : (nI (codesV ns)).length ≤ 90 := by rw [nI_len, codesV_len]; omega
  have hcl' : (nI (codesV ns)).length ≤ sizeLine := by omega
  refine F.assignNew (pf := true) (ψ := fun h vs => IntsAre vs (nI [0, 0, 0, 0, 0, 1] ++ (nI (codesV ns)).map (fun c : Int => c.fdiv 32) ++ List.replicate (shortV ns).toNat ((3 : Nat) : Int) ++ nI [0] ++ (nI (codesV ns)).map (fun c : Int => c.fmod 32) ++ nI (rowV ns))) ?_ ?_ ?_ ?_
  · refine cat6 (nI [0, 0, 0, 0, 0, 1]) ((nI (codesV ns)).map (fun c : Int => c.fdiv 32)) (List.replicate (shortV ns).toNat ((3 : Nat) : Int)) (nI [0]) ((nI (codesV ns)).map (fun c : Int => c.fmod 32)) (nI (rowV ns)) ?_ ?_ ?_ ?_ ?_ ?_ ?_
    · exact (Ev.listI (ns := nI [0, 0, 0, 0, 0, 1]) (Evs.cons Ev.int (Evs.cons Ev.int (Evs.cons Ev.int (Evs.cons Ev.int (Evs.cons Ev.int (Evs.cons Ev.int .nil rfl) rfl) rfl) rfl) rfl) rfl) (show 6 ≤ sizeLine by decide))
    · exact (EvF.il (EvF.compII (τ := []) (as := nI (codesV ns)) (f := fun c : Int => c.fdiv 32) hA (Src.list (nl F.st)) F.st weak_nil cap_nil (fun C s₃ a ha u S => Ev.bin (nl S) Ev.int (ok_div (by decide) (pylong_small (by decide) (by decide)))) rfl (by decide) rfl (by decide) rfl hcl' (fun _ => rfl)))
    · exact (Ev.rep (n := shortV ns) Ev.int (nl F.st) (by omega) (by omega) rfl)
    · exact (Ev.listI (ns := nI [0]) (Evs.cons Ev.int .nil rfl) (show 1 ≤ sizeLine by decide))
    · exact (EvF.il (EvF.compII (τ := []) (as := nI (codesV ns)) (f := fun c : Int => c.fmod 32) hA (Src.list (nl F.st)) F.st weak_nil cap_nil (fun C s₃ a ha u S => Ev.bin (nl S) Ev.int (ok_mod (by decide))) rfl (by decide) rfl (by decide) rfl hcl' (fun _ => rfl)))
    · exact (nc F.st)
    rw [List.length_map, List.length_map, List.length_replicate, nI_len, nI_len, nI_len]
    rw [nI_len] at hcl
    rw [nI_len]
    simp only [List.length_cons, List.length_nil]
    omega
  · exact .inl rfl
  · rfl
  · intro a vs s₁ s₂ k₁ hi0 sq hn M₂
    have hx : IntsAre vs (nI (wholeA ns)) := by rw [← whole_int]; exact hi0
    have := hq a vs s₂ M₂ hx
    exact this

theorem seg2b2 {a : Addr} {vs : List Value} (G : Gx mg mb h) (hu : ∀ b o, h.get? b = some o → B b o) (M : Nm mg) (M₂ : Fm B s0 (LE L ad cd) true (Str.ofString "whole") a vs (σ3 ns) s) (hi : IntsAre vs (nI (wholeA ns)))
    (hq : ∀ s', Fm B s0 (LE L ad cd) true (Str.ofString "whole") a vs ((Str.ofString "strange", .int (strV ns)) :: σ3 ns) s' → wpAny (model P w) A (execs (LB 16) (LE L ad cd)) Q E s') :
    wpAny (model P w) A (execs (LB 15) (LE L ad cd)) Q E s := by
  have s1000 : 1000 ≤ sizeLine := by decide
  have hrl := rowV_len (ns := ns)
  have F₂ := M₂.toInts hi
  refine wpAny_execs_cons (wpAny_Assign_Name (ev_then (Ev.as (d' := .int (strV ns)) (Ev.iteInt (x := ((n3V ns).fdiv 2).fmod ((nI (rowV ns)).length : Int)) (y := -1) (Ts.cmp (nl F₂.st) Ev.int ok_eq) (fun hb => Ev.bin (Ev.bin (nc F₂.st) Ev.int (ok_div (by decide) (pylong_small (by decide) (by decide)))) (Ev.call1 le_g (G.up (F₂.up hu)) M.len boot_len (nc F₂.st) (py_len (by rw [nI_len]; omega)) rfl (by decide) rfl rfl) (ok_mod ?_)) (fun _ => Ev.neg Ev.int)) ?_) (keeps_refl _) fun v s₃ k₃ d₃ => (M₂.keeps k₃).store (d := .int (strV ns)) (.inr rfl) (by decide) d₃ fun s₄ M₄ _ => hq s₄ M₄))
  · have h7 : wayV ns = 7 := by simpa using hb
    have := rowV_pos (ns := ns) (by omega)
    rw [nI_len]; omega
  · rw [nI_len]; rfl

def thenOf (l : List Stmt) : List Stmt := match l with | .If _ b _ _ :: _ => b | _ => []

set_option maxHeartbeats 1000000 in
theorem flip_body {a : Addr} {vs : List Value} {s₄ s₅ : Shared} (hA : A.handled = none) (G : Gx mg mb h) (hu : ∀ b o, h.get? b = some o → B b o) (M : Nm mg) (M₄ : Fm B s0 (LE L ad cd) true (Str.ofString "whole") a vs ((Str.ofString "strange", .int (strV ns)) :: σ3 ns) s₄) (hi : IntsAre vs (nI (wholeA ns)))
    (k₅ : Keeps s₄ s₅) (hb : ((wayV ns == 7) && (((n3V ns).fmod 2 == 1) && true)) = true) :
    wpAny (model P w) A (execs (thenOf (LB 16)) (LE L ad cd)) (fun f s'' => f = .next ∧ Fx B s0 (LE L ad cd) (σ4 ns) s'') E s₅ := by
  have s1000 : 1000 ≤ sizeLine := by decide
  have hsr := sizeV_range (ns := ns)
  have hrl := rowV_len (ns := ns)
  have hst := str_range (ns := ns)
  have F₅ := (M₄.keeps k₅).toInts hi
  have hf : flipV ns = true := by unfold flipV; simpa using hb
  have h7 : wayV ns = 7 := by simp at hb; exact hb.1
  have hs7 := str_seven h7
  have hsh0 : shortV ns = 0 := by unfold shortV; rw [if_neg (by simp [h7])]
  have hlast : ((lastV ns : Nat) : Int) = 7 + 2 * sizeV ns + strV ns := by unfold lastV; omega
  have hwl : (wholeA ns).length = 7 + 2 * (sizeV ns).toNat + (rowV ns).length := by rw [wholeA_len, hsh0]; rfl
  have hlt : lastV ns < (wholeA ns).length := by omega
  have hw1000 : (wholeA ns).length ≤ 1000 := by omega
  have M₅ := M₄.keeps k₅
  refine wpAny_execs_cons (wpAny_Assign_Name (ev_then (Ev.as (d' := .int (lastV ns : Nat)) (Ev.bin (Ev.bin Ev.int (Ev.bin Ev.int (nl F₅.st) (ok_mul (IntMulOk.of_left (by decide)))) ok_add) (nc F₅.st) ok_add) (congrArg D.int hlast.symm)) (keeps_refl _) fun v s₆ k₆ d₆ => (M₅.keeps k₆).store (d := .int (lastV ns : Nat)) (.inl rfl) (by decide) d₆ fun s₇ M₇ _ => ?_))
  have F₇ := M₇.toInts hi
  have hvl : vs.length = (wholeA ns).length := by rw [intsAre_len hi, nI_len]
  refine M₇.setItem (d := .int ((31 : Nat) : Int)) (k := (lastV ns : Nat)) Ev.int (nl F₇.st) (by omega) (by omega) (by omega) (.inl rfl) rfl rfl fun v s₈ s₉ k₈ hv _ M₉ => ?_
  obtain ⟨t, rfl⟩ := hv
  have hi9 : IntsAre (vs.set ((lastV ns : Nat) : Int).toNat (.int ((31 : Nat) : Int) t)) (nI ((wholeA ns).set (lastV ns) 31)) := by
    rw [← nI_set]; exact intsAre_set hi _ _ _
  generalize vs.set ((lastV ns : Nat) : Int).toNat (.int ((31 : Nat) : Int) t) = ws at *
  have F₉ := M₉.toInts hi9
  refine for_range (n := 5) (a := (lastV ns : Nat) - 5) (b := (lastV ns : Nat)) (B := B) hA (EvR.two le_g (G.up (F₉.up hu)) M.range boot_range (Ev.bin (nl F₉.st) Ev.int ok_sub) (nl F₉.st) rfl (by decide) rfl rfl rfl rfl) (by omega) (by omega) (by omega) (by omega) (by omega) (fun _ => rfl)
    (fun B' k s' => ∃ ws, Fm B' s0 (LE L ad cd) false (Str.ofString "whole") a ws ((Str.ofString "last", .int (lastV ns : Nat)) :: (Str.ofString "strange", .int (strV ns)) :: σ3 ns) s' ∧ IntsAre ws (nI ((List.range k).foldl (fun l i => xor31 l (lastV ns - 5 + i)) ((wholeA ns).set (lastV ns) 31))))
    (fun B' i s' ⟨vs, M, _⟩ => M.fx.base) ?_ ?_ (fun s' k => ⟨ws, M₉.keeps k, hi9⟩) M₉.fx.base ?_ ?_
  · rintro B1 B2 i s' ⟨ws, M, hi⟩ hB
    refine ⟨ws, M.rebase fun b o q => ?_, hi⟩
    rcases hB b o q with q | ⟨q1, q2, ws', q3⟩
    · exact .inl q
    · refine .inr ⟨?_, q1, q2⟩
      rintro rfl
      obtain ⟨o', n', h1, h2, h3⟩ := M.pl.obj
      rw [q1] at h1; cases h1; rw [q3] at h3; cases h3
  · rintro B1 i s' h' tk I o ws' ⟨ws, M, hi⟩ ho hdo hB k
    exact ⟨ws, M.iter ho hdo hB k, hi⟩
  · rintro B4 k v s₁₃ t E'' hB4 hk hv ⟨ws, M₁₃, hiw⟩
    subst hv
    have hkk : (((lastV ns : Nat) : Int) - 5 + (k : Nat)) = ((lastV ns - 5 + k : Nat) : Int) := by omega
    rw [hkk]
    refine M₁₃.store (d := .int ((lastV ns - 5 + k : Nat) : Int)) (.inl rfl) (by decide) ⟨t, rfl⟩ fun s₁₄ M₁₄ sq14 => ?_
    have F₁₄ := M₁₄.toInts hiw
    have hTl : ((List.range k).foldl (fun l i => xor31 l (lastV ns - 5 + i)) ((wholeA ns).set (lastV ns) 31)).length = (wholeA ns).length := by rw [flips_len, List.length_set]
    have hstep : (List.range (k + 1)).foldl (fun l i => xor31 l (lastV ns - 5 + i)) ((wholeA ns).set (lastV ns) 31) = xor31 ((List.range k).foldl (fun l i => xor31 l (lastV ns - 5 + i)) ((wholeA ns).set (lastV ns) 31)) (lastV ns - 5 + k) := by
      rw [List.range_succ, List.foldl_append]; rfl
    rw [hstep]
    generalize (List.range k).foldl (fun l i => xor31 l (lastV ns - 5 + i)) ((wholeA ns).set (lastV ns) 31) = T at *
    refine M₁₄.setItem (k := ((lastV ns - 5 + k : Nat) : Int)) (d := .int ((T.getD (lastV ns - 5 + k) 0 ^^^ 31 : Nat) : Int))
      ((Ev.bin (Ev.itemI (k := ((lastV ns - 5 + k : Nat) : Int)) (nl F₁₄.st) (nl F₁₄.st) (by omega) (by rw [nI_len]; omega) (by omega)) Ev.int ok_xor).as ?_)
      (nl F₁₄.st) (by omega) ?_ ?_ (.inl rfl) rfl rfl fun v s₁₅ s₁₆ k₁₅ hv sb M₁₆ => ?_
    · rw [Int.toNat_natCast, nI_get, ← bitXor_nat]; rfl
    · rw [intsAre_len hiw, nI_len]; omega
    · rw [intsAre_len hiw, nI_len]; omega
    · obtain ⟨u, rfl⟩ := hv
      refine wpAny_execs_nil ⟨rfl, _, M₁₆.weak ?_, ?_⟩
      · exact weak_cons rfl (weak_cons rfl (weak_cons rfl (weak_cons rfl (weak_cons rfl (weak_cons rfl (weak_cons rfl (weak_cons rfl (weak_cons rfl (weak_cons rfl weak_nil)))))))))
      · unfold xor31
        rw [← nI_set]; exact intsAre_set hiw _ _ _
  · rintro s₁₇ ⟨ws, M₁₇, hiw⟩
    refine wpAny_execs_nil ⟨rfl, ?_⟩
    have hwv : wholeV ns = (List.range 5).foldl (fun l i => xor31 l (lastV ns - 5 + i)) ((wholeA ns).set (lastV ns) 31) := by unfold wholeV; rw [if_pos hf]
    rw [← hwv] at hiw
    have F₁₇ := M₁₇.toInts hiw
    exact F₁₇.weak (weak_cons rfl (weak_cons rfl (weak_cons rfl (weak_cons rfl (weak_cons rfl (weak_cons rfl (weak_cons rfl (weak_cons rfl (weak_cons rfl (weak_cons rfl weak_nil))))))))))

end
end Mine
end

section
open PySem PySem.Calls PyProof.Rows
namespace Mine
section
variable {w : World} {A : Around} {s s0 : Shared} {mg mb : Str → Option Value} {h : Heap} {B : Addr → Obj → Prop} {L ad : Addr} {cd : Value} {ns : List Int} {Q : Flow → Shared → Prop} {E : Value → Shared → Prop}
theorem seg2b {n : Nat} (hA : Good A (n + 1)) (G : Gx mg mb h) (hu : ∀ b o, h.get? b = some o → B b o) (M : Nm mg) (hl : ns.length ≤ 63)
    (F : Fx B s0 (LE L ad cd) (σ3 ns) s)
    (hq : ∀ s', Fx B s0 (LE L ad cd) (σ4 ns) s' → wpAny (model P w) A (execs (LB 17) (LE L ad cd)) Q E s') :
    wpAny (model P w) A (execs (LB 14) (LE L ad cd)) Q E s := by
  have hA1 := hA.1
  refine @seg2b1 w A s s0 B L ad cd ns Q E hA1 F ?_
  intro a vs s₂ M₂ hi
  refine @seg2b2 w A s₂ s0 mg mb h B L ad cd ns Q E a vs G hu M M₂ hi ?_
  intro s₄ M₄
  have F₄ := M₄.toInts hi
  refine F₄.ifThen (σ' := σ4 ns) (b := (wayV ns == 7) && (((n3V ns).fmod 2 == 1) && true))
    (TsW.ts (TsW.and (Ts.cmp (nl F₄.st) Ev.int ok_eq) fun _ => TsW.and (Ts.cmp (Ev.bin (nc F₄.st) Ev.int (ok_mod (by decide))) Ev.int ok_eq) fun _ => TsW.andNil)) (fun hb s₅ k₅ F₅ => flip_body hA.1 G hu M M₄ hi k₅ hb) (fun hb s₅ k₅ F₅ => ?_) fun s₅ F₅ => hq s₅ F₅
  have hf : flipV ns = false := by unfold flipV; simpa using hb
  have hwv : wholeV ns = wholeA ns := by unfold wholeV; rw [if_neg (by rw [hf]; simp)]
  unfold σ4
  rw [hwv]
  exact F₅.weak (weak_cons rfl (weak_cons rfl (weak_cons rfl (weak_cons rfl (weak_cons rfl (weak_cons rfl (weak_cons rfl (weak_cons rfl (weak_cons rfl (weak_cons rfl weak_nil))))))))))
end
end Mine
end

section
open PySem PySem.Calls PyProof.Rows
namespace Mine
theorem tabs5 : [29, 22, 20, 21, 18].map tabV = [nI T29, nI T22, nI T20, nI T21, nI T18] := by
  simp only [List.map_cons, List.map_nil, tabV, T29, T22, T20, T21, T18]
theorem pick_upto {vs : List Value} {l : List Int} {k : Int} (h0 : 0 ≤ k) (hi : IntsAre vs l) : ∃ ws : List Value, slicePick vs.toArray none (some k) none = ws.toArray ∧ IntsAre ws (l.take k.toNat) := by
  refine ⟨vs.take k.toNat, ?_, intsAre_take hi _⟩
  obtain ⟨n, rfl⟩ := Int.eq_ofNat_of_zero_le h0
  rw [slicePick_upto']
  rfl
theorem pick_from {vs : List Value} {l : List Int} {k : Int} (h0 : 0 ≤ k) (hi : IntsAre vs l) : ∃ ws : List Value, slicePick vs.toArray (some k) none none = ws.toArray ∧ IntsAre ws (l.drop k.toNat) := by
  refine ⟨vs.drop k.toNat, ?_, intsAre_drop hi _⟩
  obtain ⟨n, rfl⟩ := Int.eq_ofNat_of_zero_le h0
  rw [slicePick_from']
  rfl
theorem join_small {zs : List Str} (h : ∀ z ∈ zs, z.length ≤ 8) (hl : zs.length ≤ 1000) : (zs.map (·.length)).sum + zs.length * 64 ≤ 16777216 := by
  have : ∀ zs : List Str, (∀ z ∈ zs, z.length ≤ 8) → (zs.map (·.length)).sum ≤ zs.length * 8 := by
    intro zs
    induction zs with
    | nil => intro _; simp
    | cons z zs ih =>
      intro h
      have h1 := h z (.head _)
      have h2 := ih fun z hz => h z (.tail _ hz)
      simp only [List.map_cons, List.sum_cons, List.length_cons]
      omega
  have := this zs h
  omega
theorem empty_T : Str.ofString "" = T [] := rfl
theorem flat_one {α : Type} (l : List α) (f : α → Nat) : (l.map fun a => [f a]).flatten = l.map f := by
  induction l with
  | nil => rfl
  | cons a l ih => rw [List.map_cons, List.flatten_cons, ih]; rfl
theorem join_one {α : Type} (l : List α) (f : α → Nat) : Txt.join (Str.ofString "") (l.map fun a => T [f a]) = T (l.map f) := by
  have := T_join (l.map fun a => [f a])
  rw [List.map_map] at this
  rw [empty_T]
  exact this.trans (congrArg T (flat_one l f))

section
variable {w : World} {A : Around} {s s0 : Shared} {mg mb : Str → Option Value} {h : Heap} {B : Addr → Obj → Prop} {L ad : Addr} {cd : Value} {ns : List Int} {Q : Flow → Shared → Prop} {E : Value → Shared → Prop}

def σ5 (ns : List Int) : List (Str × D) := [(Str.ofString "six", .il (nI (sixV ns))), (Str.ofString "strange", .int (strV ns)), (Str.ofString "row", .il (nI (rowV ns))), (Str.ofString "short", .int (shortV ns)), (Str.ofString "codes", .il (nI (codesV ns))), (Str.ofString "number", .int (n3V ns)), (Str.ofString "way", .int (wayV ns)), (Str.ofString "pick", .int (pickV ns))]

set_option maxRecDepth 5000 in
theorem seg3a {n : Nat} (hA : Good A (n + 1)) (G : Gx mg mb h) (hu : ∀ b o, h.get? b = some o → B b o) (M : Nm mg) (FS : Fns mg h)
    (F : Fx B s0 (LE L ad cd) (σ4 ns) s)
    (hq : ∀ s', Fx B s0 (LE L ad cd) (σ5 ns) s' → wpAny (model P w) A (execs (LB 19) (LE L ad cd)) Q E s') :
    wpAny (model P w) A (execs (LB 17) (LE L ad cd)) Q E s := by
  have s1000 : 1000 ≤ sizeLine := by decide
  have hsr := sizeV_range (ns := ns)
  have hrl := rowV_len (ns := ns)
  have hsh := short_range (ns := ns)
  have hwl : (wholeV ns).length ≤ 300 := by rw [wholeV_len, wholeA_len]; omega
  refine F.assign (d := .il (nI (sixR ns).list)) ?_ (.inl rfl) rfl ?_
  · refine Ev.callFn (ds := [.il (nI (wholeV ns ++ List.replicate 6 0)), .ill [nI T29, nI T22, nI T20, nI T21, nI T18]]) (rest_ok (n := n) (vs := wholeV ns ++ List.replicate 6 0) FS.rst G ?_ ?_ T29_ok T22_ok T20_ok T21_ok T18_ok) le_g (G.up (F.up hu)) (F.up hu) hA (Evs.cons ?_ (Evs.cons ?_ .nil rfl) rfl) rfl rfl rfl
    · rw [List.length_append, List.length_replicate]; omega
    · intro v hv
      rcases List.mem_append.mp hv with hv | hv
      · exact wholeV_lt v hv
      · rw [(List.mem_replicate.mp hv).2]; decide
    · rw [← nI_app, ← nI_rep]
      refine Ev.bin (nl F.st) (Ev.rep (c := ((0 : Nat) : Int)) (n := 6) Ev.int Ev.int (by decide) (by decide) rfl) (ok_addL ?_)
      rw [nI_len, List.length_replicate]
      have : (6 : Int).toNat = 6 := rfl
      omega
    · rw [← tabs5]
      refine Ev.callFn (ds := [.il (nI [29, 22, 20, 21, 18])]) (tables_ok (n := n) (N := [29, 22, 20, 21, 18]) FS.tab G M (by decide +kernel) (by decide)) le_g (G.up (F.up hu)) (F.up hu) hA (Evs.cons ?_ .nil rfl) rfl rfl rfl
      exact Ev.listI (ns := nI [29, 22, 20, 21, 18]) (Evs.cons Ev.int (Evs.cons Ev.int (Evs.cons Ev.int (Evs.cons Ev.int (Evs.cons Ev.int .nil rfl) rfl) rfl) rfl) rfl) (show 5 ≤ sizeLine by decide)
  intro s₁ F₁
  refine F₁.assign (d := .il (nI (sixV ns))) ?_ (.inl rfl) rfl ?_
  · refine Ev.as (d := .il ((nI (sixR ns).list).take (5 : Int).toNat ++ [Builtin.bitXor ((nI (sixR ns).list).getD (5 : Int).toNat 0) ((1 : Nat) : Int)])) (Ev.bin ?_ ?_ (ok_addL ?_)) ?_
    · exact Ev.sliceI (a := none) (b := some 5) (nl F₁.st) evo_none (evo_some Ev.int) (by show 6 ≤ sizeLine; omega) (fun vs hv => pick_upto (by decide) hv)
    · refine Ev.listI (ns := [_]) (Evs.cons (Ev.bin (Ev.itemI (nl F₁.st) Ev.int (by decide) (by show (5 : Int) < 6; decide) (by decide)) Ev.int ok_xor) .nil rfl) (show 1 ≤ sizeLine by decide)
    · show 5 + 1 ≤ sizeLine
      omega
    · rw [nI_get, bitXor_nat]
      rfl
  intro s₂ F₂
  have F₃ : Fx B s0 (LE L ad cd) (σ5 ns) s₂ := by
    refine F₂.weak ?_
    refine weak_cons rfl ?_
    refine weak_cons rfl ?_
    refine weak_cons rfl ?_
    refine weak_cons rfl ?_
    refine weak_cons rfl ?_
    refine weak_cons rfl ?_
    refine weak_cons rfl ?_
    refine weak_cons rfl ?_
    exact weak_nil
  have := hq s₂ F₃
  exact this

end
end Mine
end

section
open PySem PySem.Calls PyProof.Rows
namespace Mine

theorem nI_mem {l : List Nat} {a : Int} (h : a ∈ nI l) : 0 ≤ a ∧ a.toNat ∈ l ∧ (a.toNat : Int) = a := by
  obtain ⟨n, hn, rfl⟩ := List.mem_map.mp h
  exact ⟨by omega, by simpa using hn, by simp⟩
theorem nI_mapT {l : List Nat} {f : Nat → Nat} : (nI l).map (fun a : Int => T [f a.toNat]) = l.map fun a => T [f a] := by
  unfold nI
  rw [List.map_map]
  exact List.map_congr_left fun a _ => rfl
theorem nI_take (l : List Nat) (k : Nat) : (nI l).take k = nI (l.take k) := by unfold nI; rw [List.map_take]
theorem nI_drop (l : List Nat) (k : Nat) : (nI l).drop k = nI (l.drop k) := by unfold nI; rw [List.map_drop]
theorem mapT_small {α : Type} (l : List α) (f : α → Nat) (hl : l.length ≤ 1000) : ((l.map fun a => T [f a]).map (·.length)).sum + (l.map fun a => T [f a]).length * 64 ≤ 16777216 :=
  join_small (fun z hz => by
    obtain ⟨a, _, rfl⟩ := List.mem_map.mp hz
    exact (show 1 ≤ 8 by decide)) (by rw [List.length_map]; exact hl)

section
variable {w : World} {A : Around} {s s0 : Shared} {mg mb : Str → Option Value} {h : Heap} {B : Addr → Obj → Prop} {L ad : Addr} {cd : Value} {ns : List Int} {Q : Flow → Shared → Prop} {E : Value → Shared → Prop}

theorem itemS2 {env : Env} {l i : Expr} {pos : Pos} {x : Str} {k : Int} (hl : Ev P w A env s l (.str x)) (hi : Ev P w A env s i (.int k)) (h0 : 0 ≤ k) (h1 : k < x.length) (h2 : x.length ≤ sizeLine)
    (ht : ∀ y t r, letTemporaryGo l (.str y t) r = pure ()) :
    Ev P w A env s (.Subscript l i pos) (.str (Txt.item x k)) := fun s' kp E => by
  refine Subscript_ (ev_then hl kp fun o s₁ k₁ d₁ => ev_then hi (keeps_trans kp k₁) fun j s₂ k₂ d₂ => ?_)
  obtain ⟨t', rfl⟩ := d₁
  obtain ⟨t, rfl⟩ := d₂
  obtain ⟨ops, hops⟩ := subscripted_ops i (.str x t') (.int k t)
  have hs := sizeLine_lt
  exact tail_of_ItemOn (SB.item (fitsSsize_of (N := 2 ^ 62) (by omega) (by have : (sizeLine : Int) < 2 ^ 62 := (by decide); omega) (by decide)) (charAt_isSome (by omega) (by omega)) ⟨keeps_trans (keeps_trans k₁ k₂) (keeps_toks _ _), _, rfl⟩) hops (ht _ _)

/-- the signs of some numbers -/
theorem sign_ev {env : Env} {e : Expr} {p p2 : Pos} {k : Int} (N : EnvG env) (G : Gx mg mb s.heap) (M : Nm mg) (hx : env.kindOf (Str.ofString "_law_signs") = some .globalImplicit) (he : Ev P w A env s e (.int k)) (h0 : 0 ≤ k) (h1 : k < 32)
    (ht : ∀ o r, letTemporaryGo (.Name (Str.ofString "_law_signs") p) o r = pure ()) :
    Ev P w A env s (.Subscript (.Name (Str.ofString "_law_signs") p) e p2) (.str (T [sgn k.toNat])) := by
  obtain ⟨t, ht'⟩ := M.signs
  refine Ev.as (Ev.itemS (Ev.globStr N G ht' hx rfl) he h0 ?_ (by decide) ht) ?_
  · show k < 32
    exact h1
  · congr 1
    obtain ⟨n, rfl⟩ := Int.eq_ofNat_of_zero_le h0
    exact T_item (l := CHN) (k := n) (by show n < 32; omega)

set_option maxRecDepth 5000 in
theorem read_ev (hA : A.handled = none) (G : Gx mg mb h) (hu : ∀ b o, h.get? b = some o → B b o) (M : Nm mg) (F : Fx B s0 (LE L ad cd) (σ5 ns) s)
    (hq : ∀ s', Fx B s0 (LE L ad cd) ((Str.ofString "readable", .str (T (codesV ns))) :: σ5 ns) s' → wpAny (model P w) A (execs (LB 20) (LE L ad cd)) Q E s') :
    wpAny (model P w) A (execs (LB 19) (LE L ad cd)) Q E s := by
  have s1000 : 1000 ≤ sizeLine := by decide
  have hsr := sizeV_range (ns := ns)
  have hcl : (codesV ns).length ≤ 90 := by rw [codesV_len]; omega
  have hcl' : (nI (codesV ns)).length ≤ sizeLine := by rw [nI_len]; omega
  refine F.assign (d := .str (T (codesV ns))) ?_ (.inl rfl) rfl hq
  refine Ev.as (Ev.join (zs := (codesV ns).map fun a => T [a]) Ev.str ?_ (by decide) (mapT_small _ _ (by omega)) rfl ⟨_, rfl⟩) (congrArg D.str ?_)
  · rw [← nI_mapT (f := fun a => a)]
    refine EvF.sl (EvF.compIS (τ := []) (as := nI (codesV ns)) (f := fun a : Int => T [a.toNat]) hA (Src.list (nl F.st)) F.st weak_nil cap_nil ?_ rfl (by decide) rfl (by decide) rfl hcl' (fun _ => rfl))
    intro C s₃ a ha u S
    obtain ⟨h0, h1, h2⟩ := nI_mem ha
    have := codesV_255 _ h1
    exact Ev.call1 ⟨rfl, rfl, rfl⟩ (G.up ((F.up hu).trans u)) M.chr boot_chr (nl S) (py_chr h0 (by omega)) rfl (by decide) rfl rfl
  · exact (join_one _ fun a => a).trans (by rw [List.map_id'])

set_option maxRecDepth 5000 in
theorem behind_ev (hA : A.handled = none) (G : Gx mg mb h) (hu : ∀ b o, h.get? b = some o → B b o) (M : Nm mg) (F : Fx B s0 (LE L ad cd) ((Str.ofString "readable", .str (T (codesV ns))) :: σ5 ns) s)
    (hq : ∀ s', Fx B s0 (LE L ad cd) ((Str.ofString "behind", .str (T (behindV ns))) :: (Str.ofString "readable", .str (T (codesV ns))) :: σ5 ns) s' → wpAny (model P w) A (execs (LB 21) (LE L ad cd)) Q E s') :
    wpAny (model P w) A (execs (LB 20) (LE L ad cd)) Q E s := by
  have s1000 : 1000 ≤ sizeLine := by decide
  have hrl := rowV_len (ns := ns)
  refine F.assign (d := .str (T (behindV ns))) ?_ (.inl rfl) rfl hq
  let g : Nat → Nat := fun k => if (k : Int) == strV ns then oddV ns else sgn ((rowV ns).getD k 0)
  refine Ev.as (Ev.join (zs := (List.range (rowV ns).length).map fun a => T [g a]) Ev.str ?_ (by decide) (mapT_small _ _ (by rw [List.length_range]; omega)) rfl ⟨_, rfl⟩) (congrArg D.str ?_)
  · have hz : ((List.range (rowV ns).length).map fun a => T [g a]) = ((List.range (rowV ns).length).map fun i : Nat => (0 : Int) + i).map fun a : Int => T [g a.toNat] := by
      rw [List.map_map]
      exact List.map_congr_left fun a _ => by simp
    rw [hz]
    refine EvF.sl (EvF.compIS (τ := [(Str.ofString "number", .int (n3V ns)), (Str.ofString "strange", .int (strV ns)), (Str.ofString "row", .il (nI (rowV ns)))]) (cl := [(Str.ofString "strange", L + 1 + 1 + 1 + 1), (Str.ofString "row", L + 1 + 1 + 1), (Str.ofString "number", L + 1)]) (f := fun a : Int => T [g a.toNat]) hA
      (Src.range (n := (rowV ns).length) (EvR.one le_g (G.up (F.up hu)) M.range boot_range (Ev.call1 le_g (G.up (F.up hu)) M.len boot_len (nc F.st) (py_len (ns := nI (rowV ns)) (by rw [nI_len]; omega)) rfl (by decide) rfl rfl) rfl (by decide) rfl rfl) (by decide) (by decide) (by rw [nI_len]; omega) (by rw [nI_len]; omega) (by rw [nI_len]; omega)) F.st (weak_cons rfl (weak_cons rfl (weak_cons rfl weak_nil))) (cap_cons rfl rfl rfl (cap_cons rfl rfl rfl (cap_cons rfl rfl rfl cap_nil))) ?_ rfl (by decide) rfl (by decide) rfl (by rw [List.length_map, List.length_range]; omega) (fun _ => rfl))
    intro C s₃ a ha u S
    obtain ⟨k, hk, rfl⟩ := List.mem_map.mp ha
    have hk' : k < (rowV ns).length := List.mem_range.mp hk
    have h0 : 0 ≤ ((n3V ns).fdiv 14).fmod 6 := Int.fmod_nonneg_of_pos _ (by decide)
    have h1 : ((n3V ns).fdiv 14).fmod 6 < 6 := Int.fmod_lt_of_pos _ (by decide)
    refine Ev.ite (t := ((0 : Int) + k == strV ns)) (Ts.cmp (nl S) (nc S) ok_eq) (fun hb => ?_) (fun hb => ?_)
    · refine Ev.as (itemS2 Ev.str (Ev.bin (Ev.bin (nc S) Ev.int (ok_div (by decide) (pylong_small (by decide) (by decide)))) Ev.int (ok_mod (by decide))) h0 (by show _ < (6 : Int); exact h1) (by decide) (fun _ _ _ => rfl)) (congrArg D.str ?_)
      have : g ((0 : Int) + k).toNat = oddV ns := by
        show (if (((0 : Int) + k).toNat : Int) == strV ns then _ else _) = _
        rw [if_pos (by rw [← hb]; simp)]
      rw [this]
      obtain ⟨n, hn⟩ := Int.eq_ofNat_of_zero_le h0
      rw [hn]
      refine (T_item (l := ODD) (k := n) (by show n < 6; omega)).trans ?_
      unfold oddV
      rw [hn]
      rfl
    · have : g ((0 : Int) + k).toNat = sgn ((nI (rowV ns)).getD ((0 : Int) + k).toNat 0).toNat := by
        show (if (((0 : Int) + k).toNat : Int) == strV ns then _ else _) = _
        rw [if_neg (by
          have : ((((0 : Int) + k).toNat : Int) == strV ns) = false := by rw [← hb]; simp
          rw [this]; simp), nI_get, Int.toNat_natCast]
      rw [this]
      have hlt : (rowV ns).getD k 0 < 32 := by
        rw [List.getD_eq_getElem?_getD, List.getElem?_eq_getElem hk']
        exact rowV_lt _ (List.getElem_mem hk')
      have e0 : ((0 : Int) + k).toNat = k := by omega
      exact sign_ev ⟨rfl, rfl, rfl⟩ (G.up ((F.up hu).trans u)) M rfl (Ev.itemI (nc S) (nl S) (by omega) (by rw [nI_len]; omega) (by omega)) (by rw [e0, nI_get]; omega) (by rw [e0, nI_get]; omega) (fun _ _ => rfl)
  · exact join_one _ g
end
end Mine
end

section
open PySem PySem.Calls PyProof.Rows
namespace Mine

section
variable {w : World} {A : Around} {s s0 : Shared} {mg mb : Str → Option Value} {h : Heap} {B : Addr → Obj → Prop} {L ad : Addr} {cd : Value} {ns : List Int} {Q : Flow → Shared → Prop} {E : Value → Shared → Prop}

theorem cat5 {env : Env} {e1 e2 e3 e4 e5 : Expr} {p1 p2 p3 p4 : Pos} (a1 a2 a3 a4 a5 : List Nat) (h1 : Ev P w A env s e1 (.str (T a1))) (h2 : Ev P w A env s e2 (.str (T a2))) (h3 : Ev P w A env s e3 (.str (T a3))) (h4 : Ev P w A env s e4 (.str (T a4))) (h5 : Ev P w A env s e5 (.str (T a5)))
    (hsz : a1.length + a2.length + a3.length + a4.length + a5.length ≤ sizeLine) :
    Ev P w A env s (.BinOp (.BinOp (.BinOp (.BinOp e1 .Add e2 p1) .Add e3 p2) .Add e4 p3) .Add e5 p4) (.str (T (a1 ++ a2 ++ a3 ++ a4 ++ a5))) := by
  have b1 : Ev P w A env s (.BinOp e1 .Add e2 p1) (.str (T (a1 ++ a2))) := Ev.as (Ev.bin h1 h2 (ok_cat (by rw [T_len, T_len]; omega))) (congrArg D.str (T_cat _ _))
  have b2 : Ev P w A env s (.BinOp (.BinOp e1 .Add e2 p1) .Add e3 p2) (.str (T (a1 ++ a2 ++ a3))) := Ev.as (Ev.bin b1 h3 (ok_cat (by rw [T_len, T_len]; simp only [List.length_append]; omega))) (congrArg D.str (T_cat _ _))
  have b3 : Ev P w A env s (.BinOp (.BinOp (.BinOp e1 .Add e2 p1) .Add e3 p2) .Add e4 p3) (.str (T (a1 ++ a2 ++ a3 ++ a4))) := Ev.as (Ev.bin b2 h4 (ok_cat (by rw [T_len, T_len]; simp only [List.length_append]; omega))) (congrArg D.str (T_cat _ _))
  exact Ev.as (Ev.bin b3 h5 (ok_cat (by rw [T_len, T_len]; simp only [List.length_append]; omega))) (congrArg D.str (T_cat _ _))

def σ6 (ns : List Int) : List (Str × D) := (Str.ofString "behind", .str (T (behindV ns))) :: (Str.ofString "readable", .str (T (codesV ns))) :: σ5 ns

set_option maxRecDepth 5000 in
theorem text_ev (hA : A.handled = none) (G : Gx mg mb h) (hu : ∀ b o, h.get? b = some o → B b o) (M : Nm mg) (F : Fx B s0 (LE L ad cd) (σ6 ns) s)
    (hq : ∀ s', Fx B s0 (LE L ad cd) ((Str.ofString "text", .str (T (textA ns))) :: σ6 ns) s' → wpAny (model P w) A (execs (LB 22) (LE L ad cd)) Q E s') :
    wpAny (model P w) A (execs (LB 21) (LE L ad cd)) Q E s := by
  have s1000 : 1000 ≤ sizeLine := by decide
  have hsr := sizeV_range (ns := ns)
  have hrl := rowV_len (ns := ns)
  have hsh := short_range (ns := ns)
  have h6 : (nI (sixV ns)).length ≤ sizeLine := by rw [nI_len, sixV_len]; omega
  have ht : ((sixV ns).take (shortV ns).toNat).length ≤ 6 := by rw [List.length_take, sixV_len]; omega
  have hd : ((sixV ns).drop (shortV ns).toNat).length ≤ 6 := by rw [List.length_drop, sixV_len]; omega
  refine F.assign (d := .str (T (textA ns))) ?_ (.inr rfl) rfl hq
  refine cat5 (codesV ns) (((sixV ns).take (shortV ns).toNat).map (96 + ·)) [49] (behindV ns) (((sixV ns).drop (shortV ns).toNat).map sgn) ?_ ?_ ?_ ?_ ?_ ?_
  · exact nl F.st
  · refine Ev.as (Ev.join (zs := ((sixV ns).take (shortV ns).toNat).map fun a => T [96 + a]) Ev.str ?_ (by decide) (mapT_small _ _ (by omega)) rfl ⟨_, rfl⟩) (congrArg D.str ?_)
    · rw [← nI_mapT (f := fun a => 96 + a)]
      refine EvF.sl (EvF.compIS (τ := []) (as := nI ((sixV ns).take (shortV ns).toNat)) (f := fun a : Int => T [96 + a.toNat]) hA (Src.list ?_) F.st weak_nil cap_nil ?_ rfl (by decide) rfl (by decide) rfl (by rw [nI_len]; omega) (fun _ => rfl))
      · exact Ev.sliceI (a := none) (b := some (shortV ns)) (nl F.st) evo_none (evo_some (nl F.st)) h6 (fun vs hv => by rw [← nI_take]; exact pick_upto hsh.1 hv)
      · intro C s₃ a ha u S
        obtain ⟨h0, h1, h2⟩ := nI_mem ha
        have := sixV_lt _ (List.mem_of_mem_take h1)
        refine Ev.as (Ev.call1 (d := .int (96 + a)) ⟨rfl, rfl, rfl⟩ (G.up ((F.up hu).trans u)) M.chr boot_chr (Ev.bin Ev.int (nl S) ok_add) (py_chr (by omega) (by omega)) rfl (by decide) rfl rfl) ?_
        have : (96 + a).toNat = 96 + a.toNat := by omega
        rw [this]; rfl
    · exact join_one _ fun a => 96 + a
  · exact Ev.str
  · exact nl F.st
  · refine Ev.as (Ev.join (zs := ((sixV ns).drop (shortV ns).toNat).map fun a => T [sgn a]) Ev.str ?_ (by decide) (mapT_small _ _ (by omega)) rfl ⟨_, rfl⟩) (congrArg D.str ?_)
    · rw [← nI_mapT (f := sgn)]
      refine EvF.sl (EvF.compIS (τ := []) (as := nI ((sixV ns).drop (shortV ns).toNat)) (f := fun a : Int => T [sgn a.toNat]) hA (Src.list ?_) F.st weak_nil cap_nil ?_ rfl (by decide) rfl (by decide) rfl (by rw [nI_len]; omega) (fun _ => rfl))
      · exact Ev.sliceI (a := some (shortV ns)) (b := none) (nl F.st) (evo_some (nl F.st)) evo_none h6 (fun vs hv => by rw [← nI_drop]; exact pick_from hsh.1 hv)
      · intro C s₃ a ha u S
        obtain ⟨h0, h1, h2⟩ := nI_mem ha
        have := sixV_lt _ (List.mem_of_mem_drop h1)
        exact sign_ev ⟨rfl, rfl, rfl⟩ (G.up ((F.up hu).trans u)) M rfl (nl S) h0 (by omega) (fun _ _ => rfl)
    · exact join_one _ sgn
  · rw [List.length_map, List.length_map, codesV_len, behind_len]
    simp only [List.length_cons, List.length_nil]
    omega

def σ7 (ns : List Int) : List (Str × D) := [(Str.ofString "text", .str (textB ns)), (Str.ofString "capitals", .bool (capsV ns)), (Str.ofString "due", .res (dueA ns)), (Str.ofString "number", .int (n3V ns)), (Str.ofString "way", .int (wayV ns))]

set_option maxRecDepth 5000 in
theorem due_ev (F : Fx B s0 (LE L ad cd) ((Str.ofString "text", .str (T (textA ns))) :: σ6 ns) s)
    (hq : ∀ s', Fx B s0 (LE L ad cd) ((Str.ofString "due", .res (dueA ns)) :: (Str.ofString "text", .str (T (textA ns))) :: σ6 ns) s' → wpAny (model P w) A (execs (LB 23) (LE L ad cd)) Q E s') :
    wpAny (model P w) A (execs (LB 22) (LE L ad cd)) Q E s := by
  refine F.assign (d := .res (dueA ns)) ?_ (.inl rfl) rfl hq
  refine Ev.ite (t := decide (wayV ns < 2) || ((wayV ns == 6) || (((wayV ns == 5) && ((shortV ns == 0) && true)) || false))) (TsW.ts (TsW.or (Ts.cmp (nl F.st) Ev.int ok_lt) fun _ => TsW.or (Ts.cmp (nl F.st) Ev.int ok_eq) fun _ => TsW.or (TsW.ts (TsW.and (Ts.cmp (nl F.st) Ev.int ok_eq) fun _ => TsW.and (Ts.cmp (nl F.st) Ev.int ok_eq) fun _ => TsW.andNil)) fun _ => TsW.orNil)) (fun hb => ?_) (fun hb => ?_)
  · have hf : fineV ns = true := by unfold fineV; rw [← hb]; simp
    have : dueA ns = some (T (codesV ns), nI (rowV ns)) := by unfold dueA; rw [if_pos hf]
    rw [this]
    exact Ev.resSome (nl F.st) (nc F.st) rfl rfl
  · have hf : fineV ns = false := by unfold fineV; rw [← hb]; simp
    have : dueA ns = none := by unfold dueA; rw [if_neg (by rw [hf]; simp)]
    rw [this]
    exact Ev.resNone

set_option maxRecDepth 5000 in
theorem caps_ev (F : Fx B s0 (LE L ad cd) ((Str.ofString "due", .res (dueA ns)) :: (Str.ofString "text", .str (T (textA ns))) :: σ6 ns) s)
    (hq : ∀ s', Fx B s0 (LE L ad cd) (σ7 ns) s' → wpAny (model P w) A (execs (LB 25) (LE L ad cd)) Q E s') :
    wpAny (model P w) A (execs (LB 23) (LE L ad cd)) Q E s := by
  have htl := textA_le (ns := ns)
  refine F.assign (d := .bool (capsV ns)) ?_ (.inl rfl) rfl ?_
  · exact Ev.andB (Ev.cmp (nl F.st) Ev.int ok_ne) (Ev.cmp (Ev.bin (Ev.bin (nl F.st) Ev.int (ok_div (by decide) (pylong_small (by decide) (by decide)))) Ev.int (ok_mod (by decide))) Ev.int ok_eq)
  intro s₁ F₁
  refine F₁.ifThen (σ' := σ7 ns) (Ts.bool (nl F₁.st)) (fun hb s₂ k₂ F₂ => ?_) (fun hb s₂ k₂ F₂ => ?_) hq
  · refine F₂.assign (d := .str (Txt.upper (T (textA ns)))) (Ev.upper (nc F₂.st) (by rw [T_len]; omega) ⟨_, rfl⟩) (.inr rfl) rfl ?_
    intro s₃ F₃
    refine wpAny_execs_nil ⟨rfl, F₃.weak ?_⟩
    have : textB ns = Txt.upper (T (textA ns)) := by unfold textB; rw [if_pos hb]
    unfold σ7
    rw [this]
    exact weak_cons rfl (weak_cons rfl (weak_cons rfl (weak_cons rfl (weak_cons rfl weak_nil))))
  · have : textB ns = T (textA ns) := by unfold textB; rw [if_neg (by rw [hb]; simp)]
    unfold σ7
    rw [this]
    exact F₂.weak (weak_cons rfl (weak_cons rfl (weak_cons rfl (weak_cons rfl (weak_cons rfl weak_nil)))))
end
end Mine
end

section
open PySem PySem.Calls PyProof.Rows
namespace Mine

theorem places_int {t : Str} {n : Nat} : (((List.range n).map fun i : Nat => (0 : Int) + i).filter fun a : Int => letterAt t a.toNat).map (fun a : Int => a) = nI ((List.range n).filter (letterAt t)) := by
  rw [List.filter_map, List.map_map]
  unfold nI
  have : ((fun a : Int => letterAt t a.toNat) ∘ fun i : Nat => (0 : Int) + i) = letterAt t := by
    funext k
    show letterAt t ((0 : Int) + k).toNat = _
    have : ((0 : Int) + (k : Nat)).toNat = k := by omega
    rw [this]
  rw [this]
  exact List.map_congr_left fun k _ => by show (0 : Int) + k = k; omega

section
variable {w : World} {A : Around} {s s0 : Shared} {mg mb : Str → Option Value} {h : Heap} {B : Addr → Obj → Prop} {L ad : Addr} {cd : Value} {ns : List Int} {Q : Flow → Shared → Prop} {E : Value → Shared → Prop}

def σ8 (ns : List Int) : List (Str × D) := [(Str.ofString "text", .str (textV ns)), (Str.ofString "due", .res (dueV ns))]

theorem item_one (x : Str) (k : Int) : (Txt.item x k).length = 1 := rfl

def thenIf (l : List Stmt) (k : Nat) : List Stmt := (thenOf l).drop k

set_option maxRecDepth 5000 in
set_option maxHeartbeats 1000000 in
theorem places_ev (hA : A.handled = none) (G : Gx mg mb h) (hu : ∀ b o, h.get? b = some o → B b o) (M : Nm mg) (F : Fx B s0 (LE L ad cd) (σ7 ns) s)
    (hq : ∀ s', Fx B s0 (LE L ad cd) ((Str.ofString "places", .il (nI (placesV ns))) :: σ7 ns) s' → wpAny (model P w) A (execs (thenIf (LB 25) 1) (LE L ad cd)) Q E s') :
    wpAny (model P w) A (execs (thenOf (LB 25)) (LE L ad cd)) Q E s := by
  have s1000 : 1000 ≤ sizeLine := by decide
  have hl : (textB ns).length ≤ 121 := by rw [textB_eq, T_len, textBN_len]; exact textA_le
  refine F.assignComp (cl := [(Str.ofString "text", L + 1 + 1 + 1 + 1 + 1)]) (τ := [(Str.ofString "text", .str (textB ns))]) (V := D.int) (q := fun a : Int => letterAt (textB ns) a.toNat) (g := fun a : Int => .int a)
    (as := (List.range (textB ns).length).map fun i : Nat => (0 : Int) + i) hA
    (Src.range (n := (textB ns).length) (EvR.one le_g (G.up (F.up hu)) M.range boot_range (Ev.call1 le_g (G.up (F.up hu)) M.len boot_len (nc F.st) (py_lenS (x := textB ns) (by omega)) rfl (by decide) rfl rfl) rfl (by decide) rfl rfl) (by decide) (by decide) (by omega) (by omega) (by omega)).asI
    (weak_cons rfl weak_nil) (cap_cons rfl rfl rfl cap_nil) ?_ rfl rfl rfl (by decide) rfl (by decide) rfl (fun _ => trivial) (fun _ => trivial) vi_inj (fun v => match v with | .int i _ => letterAt (textB ns) i.toNat | _ => false) ?_ (by rw [List.length_map, List.length_range]; omega) (fun _ => rfl) ?_
  · intro C s₃ a ha u S
    obtain ⟨k, hk, rfl⟩ := List.mem_map.mp ha
    have hk' : k < (textB ns).length := List.mem_range.mp hk
    have h0 : (0 : Int) ≤ (0 : Int) + k := by omega
    have h1 : (0 : Int) + k < (textB ns).length := by omega
    have e0 : (((0 : Int) + k).toNat : Int) = (0 : Int) + k := by omega
    refine ⟨?_, fun _ => nl S⟩
    have hlet : letterAt (textB ns) ((0 : Int) + (k : Nat)).toNat = (Txt.lower (Txt.item (textB ns) ((0 : Int) + (k : Nat))) != Txt.upper (Txt.item (textB ns) ((0 : Int) + (k : Nat)))) := by
      unfold letterAt
      rw [e0]
    show Ts P w A _ s₃ _ (letterAt (textB ns) ((0 : Int) + (k : Nat)).toNat)
    rw [hlet]
    exact Ts.cmp (Ev.lower (Ev.itemS (nc S) (nl S) h0 h1 (by omega) (fun _ _ => rfl)) (by rw [item_one]; decide) ⟨_, rfl⟩) (Ev.upper (Ev.itemS (nc S) (nl S) h0 h1 (by omega) (fun _ _ => rfl)) (by rw [item_one]; decide) ⟨_, rfl⟩) ok_nes
  · rintro h a _ _ ⟨t, rfl⟩
    rfl
  · intro a vs s₂ hd M₂
    have hi : IntsAre vs (nI (placesV ns)) := by
      have := den_ints (f := fun a : Int => a) hd
      rw [places_int] at this
      exact this
    exact hq s₂ (M₂.toInts hi)
end
end Mine
end

section
open PySem PySem.Calls PyProof.Rows
namespace Mine

section
variable {w : World} {A : Around} {s s0 : Shared} {mg mb : Str → Option Value} {h : Heap} {B : Addr → Obj → Prop} {L ad : Addr} {cd : Value} {ns : List Int} {Q : Flow → Shared → Prop} {E : Value → Shared → Prop}

theorem cat_len (x y : Str) : (x ++ y).length = x.length + y.length := by
  show (x.cps ++ y.cps).size = _
  rw [Array.size_append]; rfl

set_option maxRecDepth 5000 in
set_option maxHeartbeats 1000000 in
theorem turn_ev (hA : A.handled = none) (G : Gx mg mb h) (hu : ∀ b o, h.get? b = some o → B b o) (M : Nm mg) (F : Fx B s0 (LE L ad cd) ((Str.ofString "places", .il (nI (placesV ns))) :: σ7 ns) s) (hw : wayV ns = 6) (hp : 1 < (placesV ns).length)
    (hq : ∀ s', Fx B s0 (LE L ad cd) (σ8 ns) s' → Q .next s') :
    wpAny (model P w) A (execs (thenOf (thenIf (LB 25) 1)) (LE L ad cd)) Q E s := by
  have s1000 : 1000 ≤ sizeLine := by decide
  have hl : (textB ns).length ≤ 121 := by rw [textB_eq, T_len, textBN_len]; exact textA_le
  have hpl : (placesV ns).length ≤ 121 := by
    have := List.length_filter_le (letterAt (textB ns)) (List.range (textB ns).length)
    rw [List.length_range] at this
    exact Nat.le_trans this hl
  have hk : placeV ns < (textB ns).length := by
    obtain ⟨hk, _⟩ := places_lt (place_mem hp)
    rw [textB_eq, T_len]; exact hk
  have ht : turnB ns = true := by unfold turnB; simp [hw, hp]
  have h0 : 0 ≤ (n3V ns).fmod ((nI (placesV ns)).length : Int) := Int.fmod_nonneg_of_pos _ (by rw [nI_len]; omega)
  have h1 : (n3V ns).fmod ((nI (placesV ns)).length : Int) < ((nI (placesV ns)).length : Int) := Int.fmod_lt_of_pos _ (by rw [nI_len]; omega)
  have hd : dueV ns = none := by unfold dueV; rw [if_pos ht]
  have hn0 : ((nI (placesV ns)).length : Int) ≠ 0 := by rw [nI_len]; omega
  have hnl : ((nI (placesV ns)).length : Int) < 2 ^ 62 := by rw [nI_len]; omega
  have hns : (nI (placesV ns)).length ≤ sizeLine := by rw [nI_len]; omega
  have hpv : (nI (placesV ns)).getD ((n3V ns).fmod ((nI (placesV ns)).length : Int)).toNat 0 = ((placeV ns : Nat) : Int) := by
    unfold placeV
    rw [nI_get, nI_len]
  refine F.assign (d := .res (dueV ns)) (by rw [hd]; exact Ev.resNone) (.inl rfl) rfl ?_
  intro s₁ F₁
  refine F₁.assign (d := .int (placeV ns : Nat)) ?_ (.inl rfl) rfl ?_
  · refine Ev.as (Ev.itemI (nl F₁.st) (Ev.bin (nc F₁.st) (Ev.call1 le_g (G.up (F₁.up hu)) M.len boot_len (nl F₁.st) (py_len hns) rfl (by decide) rfl rfl) (ok_mod hn0)) h0 h1 (by omega)) (congrArg D.int hpv)
  intro s₂ F₂
  have hi0 : (0 : Int) ≤ (placeV ns : Nat) := by omega
  have hi1 : ((placeV ns : Nat) : Int) < (textB ns).length := by omega
  have hss : (textB ns).length ≤ sizeLine := by omega
  have hsl : ∀ a b, (Txt.slice (textB ns) a b).length ≤ 121 := fun a b => Nat.le_trans (Txt.slice_le _ _ _) hl
  have hx : (if capsV ns = true then Txt.lower (Txt.item (textB ns) (placeV ns : Nat)) else Txt.upper (Txt.item (textB ns) (placeV ns : Nat))).length ≤ 3 := by
    split
    · exact len_lower _
    · exact len_upper _
  refine F₂.assign (d := .str (textV ns)) ?_ (.inr rfl) rfl ?_
  · refine Ev.as (d := .str (Txt.slice (textB ns) none (some (placeV ns : Int)) ++ (if capsV ns = true then Txt.lower (Txt.item (textB ns) (placeV ns)) else Txt.upper (Txt.item (textB ns) (placeV ns))) ++ Txt.slice (textB ns) (some ((placeV ns : Int) + 1)) none)) (Ev.bin (Ev.bin ?_ ?_ (ok_cat ?_)) ?_ (ok_cat ?_)) ?_
    · exact Ev.sliceS (a := none) (b := some (placeV ns : Int)) (nc F₂.st) evo_none (evo_some (nl F₂.st)) hss (fun _ _ => rfl)
    · refine Ev.ite (t := capsV ns) (Ts.bool (nl F₂.st)) (fun hb => ?_) (fun hb => ?_)
      · rw [if_pos hb]
        exact Ev.lower (Ev.itemS (nc F₂.st) (nl F₂.st) hi0 hi1 hss (fun _ _ => rfl)) (by rw [item_one]; decide) ⟨_, rfl⟩
      · rw [if_neg (by rw [hb]; simp)]
        exact Ev.upper (Ev.itemS (nc F₂.st) (nl F₂.st) hi0 hi1 hss (fun _ _ => rfl)) (by rw [item_one]; decide) ⟨_, rfl⟩
    · have := hsl none (some (placeV ns : Int))
      omega
    · exact Ev.sliceS (a := some ((placeV ns : Int) + 1)) (b := none) (nc F₂.st) (evo_some (Ev.bin (nl F₂.st) Ev.int ok_add)) evo_none hss (fun _ _ => rfl)
    · have := hsl none (some (placeV ns : Int))
      have := hsl (some ((placeV ns : Int) + 1)) none
      rw [cat_len]
      omega
    · unfold textV
      rw [if_pos ht]
  intro s₃ F₃
  exact wpAny_execs_nil (hq s₃ (F₃.weak (weak_cons rfl (weak_cons rfl weak_nil))))

set_option maxRecDepth 5000 in
set_option maxHeartbeats 1000000 in
theorem way6_ev (hA : A.handled = none) (G : Gx mg mb h) (hu : ∀ b o, h.get? b = some o → B b o) (M : Nm mg) (F : Fx B s0 (LE L ad cd) (σ7 ns) s)
    (hq : ∀ s', Fx B s0 (LE L ad cd) (σ8 ns) s' → wpAny (model P w) A (execs (LB 26) (LE L ad cd)) Q E s') :
    wpAny (model P w) A (execs (LB 25) (LE L ad cd)) Q E s := by
  have s1000 : 1000 ≤ sizeLine := by decide
  have hl : (textB ns).length ≤ 121 := by rw [textB_eq, T_len, textBN_len]; exact textA_le
  have hpl : (placesV ns).length ≤ 121 := by
    have := List.length_filter_le (letterAt (textB ns)) (List.range (textB ns).length)
    rw [List.length_range] at this
    exact Nat.le_trans this hl
  have hns : (nI (placesV ns)).length ≤ sizeLine := by rw [nI_len]; omega
  have same : turnB ns = false → Weak (σ8 ns) (σ7 ns) := fun hb => by
    have e1 : textV ns = textB ns := by unfold textV; rw [if_neg (by rw [hb]; simp)]
    have e2 : dueV ns = dueA ns := by unfold dueV; rw [if_neg (by rw [hb]; simp)]
    unfold σ8
    rw [e1, e2]
    exact weak_cons rfl (weak_cons rfl weak_nil)
  have same' : turnB ns = false → Weak (σ8 ns) ((Str.ofString "places", .il (nI (placesV ns))) :: σ7 ns) := fun hb => by
    have e1 : textV ns = textB ns := by unfold textV; rw [if_neg (by rw [hb]; simp)]
    have e2 : dueV ns = dueA ns := by unfold dueV; rw [if_neg (by rw [hb]; simp)]
    unfold σ8
    rw [e1, e2]
    exact weak_cons rfl (weak_cons rfl weak_nil)
  refine F.ifThen (σ' := σ8 ns) (b := (wayV ns == 6)) (Ts.cmp (nl F.st) Ev.int ok_eq) (fun hb s₁ k₁ F₁ => ?_) (fun hb s₁ k₁ F₁ => F₁.weak (same (by unfold turnB; rw [hb]; rfl))) hq
  have hw : wayV ns = 6 := by simpa using hb
  refine @places_ev w A s₁ s0 mg mb h B L ad cd ns _ E hA G hu M F₁ ?_
  intro s₂ F₂
  refine F₂.ifThen (σ' := σ8 ns) (b := decide (((1 : Int) < (nI (placesV ns)).length))) (Ts.cmp (Ev.call1 le_g (G.up (F₂.up hu)) M.len boot_len (nl F₂.st) (py_len hns) rfl (by decide) rfl rfl) Ev.int ok_gt) (fun hb2 s₃ k₃ F₃ => ?_) (fun hb2 s₃ k₃ F₃ => F₃.weak (same' ?_)) ?_
  · have : 1 < (placesV ns).length := by
      have := of_decide_eq_true hb2
      rw [nI_len] at this
      omega
    exact @turn_ev w A s₃ s0 mg mb h B L ad cd ns _ E hA G hu M F₃ hw this fun s' F' => ⟨rfl, F'⟩
  · have := of_decide_eq_false hb2
    rw [nI_len] at this
    unfold turnB
    rw [decide_eq_false (by omega)]
    simp
  · intro s₃ F₃
    exact wpAny_execs_nil ⟨rfl, F₃⟩
end
end Mine
end

section
open PySem PySem.Calls PyProof.Rows
namespace Mine
open PySem.SeqAt
theorem eqAt_ints {A : Around} {s : Shared} {a b : Value} {ns : List Int} (hu : A.units < cLine) (ha : DInts s.heap a ns) (hb : DInts s.heap b ns) : EqAt A s a b true := by
  obtain ⟨l, vs, rfl, hl, hi⟩ := ha
  obtain ⟨m, ws, rfl, hm, hj⟩ := hb
  by_cases hne : l = m
  · subst hne; exact EqAt.same _
  · have h1 := intsAre_len hi
    have h2 := intsAre_len hj
    have := RcAt.lists (A := A) (e := fun _ => true) hl hm (by simp [h1, h2]) hu (fun j j1 j2 => by
      have q1 : j < ns.length := by rw [← h1]; simpa using j1
      obtain ⟨t, e1⟩ := intsAre_get hi j q1
      obtain ⟨u, e2⟩ := intsAre_get hj j q1
      have g1 : vs.toArray[j] = .int (ns.getD j 0) t := by
        have : vs[j]? = some vs.toArray[j] := by simp at j1; simp [j1]
        rw [this] at e1; exact Option.some.inj e1
      have g2 : ws.toArray[j] = .int (ns.getD j 0) u := by
        have : ws[j]? = some ws.toArray[j] := by simp at j2; simp [j2]
        rw [this] at e2; exact Option.some.inj e2
      rw [g1, g2]
      have := EqAt.int_int (A := A.in1) (s := s) (ns.getD j 0) t (ns.getD j 0) u
      rw [beq_self_eq_true] at this
      exact this)
    have hall : (List.range vs.toArray.size).all (fun _ => true) = true := by simp
    rw [hall] at this
    exact EqAt.of_refs hne this
theorem ok_eqRes {prog : Program} {w : World} {A : Around} {r : Option (Str × List Int)} (hu : A.units < cLine) (hu1 : A.in1.units < cLine) : CmpOk prog w A .Eq (.res r) (.res r) true := by
  intro s a b E ha hb
  match r, ha, hb with
  | none, ⟨l, e1, hl⟩, ⟨m, e2, hm⟩ =>
    subst e1 e2
    refine eq_tupleAt (e := fun _ => true) hl hm hu (fun j j1 j2 => ?_) ⟨keeps_refl _, ?_⟩
    · have : j = 0 ∨ j = 1 := by simp at j1; omega
      rcases this with rfl | rfl <;> exact EqAt.same _
    · simp
  | some (x, ns), ⟨l, t, w1, e1, hl, h1⟩, ⟨m, u, w2, e2, hm, h2⟩ =>
    subst e1 e2
    refine eq_tupleAt (e := fun _ => true) hl hm hu (fun j j1 j2 => ?_) ⟨keeps_refl _, ?_⟩
    · have : j = 0 ∨ j = 1 := by simp at j1; omega
      rcases this with rfl | rfl
      · have := EqAt.str_str (A := A.in1) (s := s) x t x u
        rw [beq_self_eq_true] at this
        exact this
      · exact eqAt_ints hu1 h1 h2
    · simp

theorem seqL_upBut {h h' : Heap} {c Pa : Addr} {ps : Array Value} (t : h.TableAt c Pa ps) (u : UpBut Pa h h') : SeqL h h' := by
  intro b o T xs n e hc hd
  refine u b o ?_ e
  rintro rfl
  rw [t.2] at e; cases e; cases hd
end Mine
end

section
open PySem PySem.Calls PyProof.Rows
namespace Mine
def LawPost (h : Heap) (c Pa : Addr) (s0 : Shared) (f : Flow) (s' : Shared) : Prop :=
  f = .ret (.bool true) ∧ UpBut Pa h s'.heap ∧ (∃ ps, s'.heap.TableAt c Pa ps) ∧ s'.os = s0.os ∧ AllBare s'.gens
section
variable {w : World} {A : Around} {s s0 : Shared} {mg mb : Str → Option Value} {h : Heap} {L ad : Addr} {cd : Value} {ns : List Int} {E : Value → Shared → Prop} {c Pa bm : Addr} {ob : Obj}

set_option maxRecDepth 5000 in
theorem end_ev {n : Nat} (hA : Good A (n + 3)) (hu0 : A.units < cLine) (hu1 : A.in1.units < cLine) (DA : DecAt mg h c Pa) (G : Gx mg mb h) (M : Nm mg) (BM : BMod h mainGlobals mg bm ob) (FS : Fns mg h) (hgen : AllBare s0.gens)
    (law : decV (textV ns) = dueV ns) (hlen : (textV ns).length ≤ 121) (F : Fx (OfH h) s0 (LE L ad cd) (σ8 ns) s) :
    wpAny (model P w) A (execs (LB 26) (LE L ad cd)) (LawPost h c Pa s0) E s := by
  obtain ⟨a, o, fd, hm, ho, hdat, hcall⟩ := dec_ok (w := w) (n := n) DA G M BM FS.ver FS.pol FS.hrp
  obtain ⟨_, _, _, _, _, _, _, _, Bs⟩ := DA
  have hll : (Txt.lower (textV ns)).length ≤ 400 := by have := len_lower (textV ns); omega
  have key : wpAny (model P w) A (eval (match LB 26 with | .Return (some e) _ :: _ => e | _ => default) (LE L ad cd)) (fun v s' => LawPost h c Pa s0 (.ret v) s') E s := by
    refine wpAny_Compare1 (hm := by with_unfolding_all rfl) ?_
    have u0 := F.up (h := h) fun b o e => e
    refine Call_ (he := rfl) (name_global le_g (G.up u0) hm rfl rfl (callWith_def_at (he := rfl) (u0 _ _ ho) hdat ?_))
    refine den_one (d := .str (textV ns)) (Evs.cons (nc F.st) .nil rfl) (keeps_refl _) fun v s₁ k₁ d₁ => ?_
    obtain ⟨t, rfl⟩ := d₁
    have F₁ := F.keeps k₁
    have u1 := F₁.up (h := h) fun b o e => e
    refine ⟨u1 _ _ ho, ?_⟩
    obtain ⟨h₁, tk₁, es⟩ := F₁.same
    have hg1 : s₁.gens = s0.gens := by rw [es]
    have ho1 : s₁.os = s0.os := by rw [es]
    refine wpAny_mono (hcall A s₁ (textV ns) t E hA u1 (by omega) hll (by rw [hg1]; exact hgen)) (fun v' s₂ q => ?_) fun _ _ q => q
    obtain ⟨q1, q2, q3, q4, q5⟩ := q
    obtain ⟨vd, hv, hden⟩ := F₁.holds (y := Str.ofString "due") (d := .res (dueV ns)) rfl (.inl rfl)
    have tab1 : s₁.heap.TableAt c Pa #[] := Bs.tab.keeps u1
    have hv2 : Holds (LE L ad cd) s₂.heap (Str.ofString "due") vd := by
      rcases hv with ⟨e1, m, e2, e3⟩ | ⟨e1, _⟩
      · exact .inl ⟨e1, m, ns_upBut tab1 q2 e2, e3⟩
      · have : (LE L ad cd).kindOf (Str.ofString "due") = some .local := rfl
        rw [this] at e1; cases e1
    refine ev_holds rfl hv2 rfl ?_
    have hden2 : Den s₂.heap vd (.res (dueV ns)) := den_seqL (seqL_upBut tab1 q2) hden
    rw [law] at q1
    refine wpAny_mono (ok_eqRes hu0 hu1 s₂ v' vd E q1 hden2) (fun v'' s₃ q => ?_) fun _ _ q => q
    obtain ⟨k₃, rfl⟩ := q
    obtain ⟨h₃, tk₃, rfl, kk⟩ := k₃
    obtain ⟨ps, hps⟩ := q3
    exact ⟨rfl, fun b o hb e => kk b o (q2 b o hb (u1 b o e)), ⟨ps, hps.keeps kk⟩, q4.trans ho1, q5⟩
  exact wpAny_execs_cons (wpAny_Return_some key)

theorem law_walk {n : Nat} (hA : Good A (n + 3)) (hu0 : A.units < cLine) (hu1 : A.in1.units < cLine) (DA : DecAt mg h c Pa) (G : Gx mg mb h) (M : Nm mg) (BM : BMod h mainGlobals mg bm ob) (FS : Fns mg h) (hgen : AllBare s0.gens)
    (hl : ns.length ≤ 63) (law : decV (textV ns) = dueV ns) (F : Fx (OfH h) s0 (LE L ad cd) [(Str.ofString "script", .il ns)] s) :
    wpAny (model P w) A (execs (fnBody 12) (LE L ad cd)) (LawPost h c Pa s0) E s := by
  have hu : ∀ b o, h.get? b = some o → OfH h b o := fun b o e => e
  have hlen : (textV ns).length ≤ 121 := by rw [textV_eq, T_len, textVN_len]; exact textA_le
  refine @seg1a w A s s0 mg mb h (OfH h) L ad cd ns _ E (n + 2) hA G hu M FS hl F ?_
  intro s₁ F₁
  refine @seg1b w A s₁ s0 mg mb h (OfH h) L ad cd ns _ E (n + 2) hA G hu M FS hl F₁ ?_
  intro s₂ F₂
  refine @seg2a w A s₂ s0 mg mb h (OfH h) L ad cd ns _ E (n + 2) hA G hu M FS hl F₂ ?_
  intro s₃ F₃
  refine @seg2b w A s₃ s0 mg mb h (OfH h) L ad cd ns _ E (n + 2) hA G hu M hl F₃ ?_
  intro s₄ F₄
  refine @seg3a w A s₄ s0 mg mb h (OfH h) L ad cd ns _ E (n + 2) hA G hu M FS F₄ ?_
  intro s₅ F₅
  refine @read_ev w A s₅ s0 mg mb h (OfH h) L ad cd ns _ E hA.1 G hu M F₅ ?_
  intro s₆ F₆
  refine @behind_ev w A s₆ s0 mg mb h (OfH h) L ad cd ns _ E hA.1 G hu M F₆ ?_
  intro s₇ F₇
  refine @text_ev w A s₇ s0 mg mb h (OfH h) L ad cd ns _ E hA.1 G hu M F₇ ?_
  intro s₈ F₈
  refine @due_ev w A s₈ s0 (OfH h) L ad cd ns _ E F₈ ?_
  intro s₉ F₉
  refine @caps_ev w A s₉ s0 (OfH h) L ad cd ns _ E F₉ ?_
  intro sa Fa
  refine @way6_ev w A sa s0 mg mb h (OfH h) L ad cd ns _ E hA.1 G hu M Fa ?_
  intro sb Fb
  exact @end_ev w A sb s0 mg mb h L ad cd ns E c Pa bm ob n hA hu0 hu1 DA G M BM FS hgen law hlen Fb
end
end Mine
end

section
open PySem PySem.Calls PyProof.Rows
namespace Mine

theorem fnAt_of {mg : Str → Option Value} {h : Heap} {e : DefItem} (x : e.At mg h) : FnAt mg h e.name e.params e.body e.scope := by
  obtain ⟨a, c, Pp, o, pm, doc, h1, h2, h3, h4, B⟩ := x
  refine ⟨a, o, pm, .ref c, doc, h1, h2, h3, h4, ?_⟩
  obtain ⟨⟨oc, _, e1, e2, _⟩, _⟩ := B.tab
  exact ⟨c, oc, rfl, e1, by rw [e2]; intro e; cases e⟩
theorem addr_lt {L c : Addr} (k : Nat) (h : c = L + k) (hk : 1 ≤ k) : L < c := by
  have h' : (c : Nat) = L + k := h
  exact h' ▸ Nat.lt_add_of_pos_right hk
theorem addr_ne {L c : Addr} {j k : Nat} (h : c = L + j) (h' : c = L + k) (hne : j ≠ k) : False := by
  have e : (L : Nat) + j = L + k := h.symm.trans h'
  exact hne (Nat.add_left_cancel e)
theorem decAt_of {mg : Str → Option Value} {h : Heap} {e : DefItem} (x : e.At mg h) : ∃ c Pa, ∃ a o pm doc, mg e.name = some (.ref a) ∧ h.get? a = some o ∧ o.data = .func (docDef e.name e.params e.body e.scope pm (.ref c) doc) ∧ h.CodeRec (.ref c) e.name ∧ Based h h c Pa #[] := by
  obtain ⟨a, c, Pp, o, pm, doc, h1, h2, h3, h4, B⟩ := x
  exact ⟨c, Pp, a, o, pm, doc, h1, h2, h3, h4, B⟩
theorem old_of {h h' : Heap} {c Pa : Addr} (B : Based h h c Pa #[]) (u : UpBut Pa h h') (t : ∃ ps, h'.TableAt c Pa ps) : OldK h h' := by
  obtain ⟨ps, ht⟩ := t
  have ht' : h'.TableAt c Pa (#[] ++ ps) := by simpa using ht
  exact OldK.step_table (OldK.refl h) B.tab B.tab ht' u B.notStatics
theorem good_law (env : Env) : Good (callerA.deeper env) 3 := ⟨rfl, by show callerA.depth + 1 + 3 < recursionLimit; decide⟩
theorem units_law (env : Env) : (callerA.deeper env).units < cLine := by show callerA.units + 3 < cLine; decide
theorem units_law1 (env : Env) : (callerA.deeper env).in1.units < cLine := by show callerA.units + 3 + 1 < cLine; decide
theorem str_of {v : Value} {x : Str} (h : ∀ h' : Heap, Reads h' v (.str x) []) (h0 : Heap) : ∃ t, v = .str x t := by
  cases h h0 with
  | str _ t => exact ⟨t, rfl⟩

theorem const_of {mg mb : Str → Option Value} {h : Heap} {x y : Str} (G : Gx mg mb h) (c : ∃ v, mg x = some v ∧ ∀ h' : Heap, Reads h' v (.str y) []) : ∃ t, mg x = some (.str y t) := by
  obtain ⟨v, h1, h2⟩ := c
  obtain ⟨t, rfl⟩ := str_of h2 h
  exact ⟨t, h1⟩

section
variable {s₁ : Shared} {h₁ : Heap} {tk : Nat} {m : Str → Option Value} {ad : Addr} {cd : Value} {w1 w2 w3 w4 w5 : Obj} {v1 v2 v3 v4 v5 : Option Value} {ns : List Int}

theorem cells_le : (LE s₁.heap.objs.size ad cd).cells = [(Str.ofString "text", s₁.heap.objs.size + 1 + 1 + 1 + 1 + 1), (Str.ofString "strange", s₁.heap.objs.size + 1 + 1 + 1 + 1), (Str.ofString "row", s₁.heap.objs.size + 1 + 1 + 1), (Str.ofString "names", s₁.heap.objs.size + 1 + 1), (Str.ofString "number", s₁.heap.objs.size + 1)] := rfl

theorem fx_start (F : Fr s₁.heap s₁.heap.objs.size h₁ m)
    (N : News s₁.heap s₁.heap.objs.size h₁ [(s₁.heap.objs.size + 1 + 1 + 1 + 1 + 1, w1), (s₁.heap.objs.size + 1 + 1 + 1 + 1, w2), (s₁.heap.objs.size + 1 + 1 + 1, w3), (s₁.heap.objs.size + 1 + 1, w4), (s₁.heap.objs.size + 1, w5)])
    (d1 : w1.data = .cell v1) (d2 : w2.data = .cell v2) (d3 : w3.data = .cell v3) (d4 : w4.data = .cell v4) (d5 : w5.data = .cell v5)
    (hm : ∃ v, m (Str.ofString "script") = some v ∧ Den s₁.heap v (.il ns)) :
    Fx (OfH s₁.heap) s₁ (LE s₁.heap.objs.size ad cd) [(Str.ofString "script", .il ns)] { s₁ with heap := h₁, toks := tk } := by
  have key : ∀ x c, (LE s₁.heap.objs.size ad cd).cells.lookup x = some c → s₁.heap.objs.size < c ∧ (∃ v0, h₁.IsCell c v0) ∧
      ((x = Str.ofString "text" ∧ c = s₁.heap.objs.size + 5) ∨ (x = Str.ofString "strange" ∧ c = s₁.heap.objs.size + 4) ∨ (x = Str.ofString "row" ∧ c = s₁.heap.objs.size + 3) ∨ (x = Str.ofString "names" ∧ c = s₁.heap.objs.size + 2) ∨ (x = Str.ofString "number" ∧ c = s₁.heap.objs.size + 1)) := by
    intro x c e
    rw [cells_le] at e
    have hmem := mem_of_lookup e
    simp only [List.mem_cons, Prod.mk.injEq, List.not_mem_nil, or_false] at hmem
    rcases hmem with ⟨h1, h2⟩ | ⟨h1, h2⟩ | ⟨h1, h2⟩ | ⟨h1, h2⟩ | ⟨h1, h2⟩
    · exact ⟨addr_lt 5 h2 (by decide), ⟨v1, w1, by rw [h2]; exact (N _ (.head _)).1, d1⟩, .inl ⟨h1, h2⟩⟩
    · exact ⟨addr_lt 4 h2 (by decide), ⟨v2, w2, by rw [h2]; exact (N _ (.tail _ (.head _))).1, d2⟩, .inr (.inl ⟨h1, h2⟩)⟩
    · exact ⟨addr_lt 3 h2 (by decide), ⟨v3, w3, by rw [h2]; exact (N _ (.tail _ (.tail _ (.head _)))).1, d3⟩, .inr (.inr (.inl ⟨h1, h2⟩))⟩
    · exact ⟨addr_lt 2 h2 (by decide), ⟨v4, w4, by rw [h2]; exact (N _ (.tail _ (.tail _ (.tail _ (.head _))))).1, d4⟩, .inr (.inr (.inr (.inl ⟨h1, h2⟩)))⟩
    · exact ⟨addr_lt 1 h2 (by decide), ⟨v5, w5, by rw [h2]; exact (N _ (.tail _ (.tail _ (.tail _ (.tail _ (.head _)))))).1, d5⟩, .inr (.inr (.inr (.inr ⟨h1, h2⟩)))⟩
  obtain ⟨v, hv, hd⟩ := hm
  refine ⟨⟨rfl, ⟨m, F.ns, fun y d e1 e2 => ?_⟩, fun y d e1 e2 => ?_⟩, F.keep, fun o e => absurd (Heap.lt_size e) (Nat.lt_irrefl _), ⟨h₁, tk, rfl⟩, fun x c e => ⟨(key x c e).2.1, fun o q => ?_⟩, fun x e => ?_, fun x y c e1 e2 => ?_, rfl⟩
  · rw [List.lookup_cons] at e1
    by_cases hy : y = Str.ofString "script"
    · subst hy; simp at e1; subst e1; exact ⟨v, hv, den_up F.keep hd⟩
    · have hb' : (y == Str.ofString "script") = false := beq_eq_false_iff_ne.mpr hy
      rw [hb'] at e1; cases e1
  · rw [List.lookup_cons] at e1
    by_cases hy : y = Str.ofString "script"
    · subst hy
      have : (LE s₁.heap.objs.size ad cd).kindOf (Str.ofString "script") = some .local := rfl
      rw [this] at e2; cases e2
    · have hb' : (y == Str.ofString "script") = false := beq_eq_false_iff_ne.mpr hy
      rw [hb'] at e1; cases e1
  · have h1 := (key x c e).1
    have h2 := Heap.lt_size q
    exact absurd (Nat.lt_trans h1 h2) (Nat.lt_irrefl _)
  · have hmem := mem_of_lookup (show (fnScope 12).names.lookup x = some .cell from e)
    have hx : x = Str.ofString "text" ∨ x = Str.ofString "strange" ∨ x = Str.ofString "row" ∨ x = Str.ofString "names" ∨ x = Str.ofString "number" := by
      have := (show ∀ y ∈ (fnScope 12).names, y.2 = .cell → (y.1 = Str.ofString "text" ∨ y.1 = Str.ofString "strange" ∨ y.1 = Str.ofString "row" ∨ y.1 = Str.ofString "names" ∨ y.1 = Str.ofString "number") by decide) _ hmem rfl
      exact this
    rcases hx with rfl | rfl | rfl | rfl | rfl
    · exact ⟨_, rfl⟩
    · exact ⟨_, rfl⟩
    · exact ⟨_, rfl⟩
    · exact ⟨_, rfl⟩
    · exact ⟨_, rfl⟩
  · have a1 := (key x c e1).2.2
    have a2 := (key y c e2).2.2
    rcases a1 with ⟨p, q⟩ | ⟨p, q⟩ | ⟨p, q⟩ | ⟨p, q⟩ | ⟨p, q⟩ <;> rcases a2 with ⟨p', q'⟩ | ⟨p', q'⟩ | ⟨p', q'⟩ | ⟨p', q'⟩ | ⟨p', q'⟩ <;> first | exact p.trans p'.symm | exact (addr_ne q q' (by decide)).elim
end
end Mine
end

open PySem PySem.W PyProof.Rows
set_option maxRecDepth 100000 in
set_option maxHeartbeats 8000000 in
theorem PySem.Challenge.cw_oo0006_01_holds : PySem.Challenge.rw_oo0006_01.Holds := by
  w_on; o_law; k_head
  (case hw => w_witness2)
  w_strict lgec_go0
  rename Top _ _ _ _ _ _ => TT
  rename BMod _ _ _ _ _ => BM
  rename Fr _ _ _ _ => FF
  rename News _ _ _ _ => NN
  rename IntsAre _ _ => II
  rename Heap.IsList _ _ _ => LL
  rename ¬ _ < _ => HL
  rename Shared.gens _ = _ => HG
  have TA := at_of_top TT
  have FS : Mine.Fns _ _ := ⟨Mine.fnAt_of (TA _ (.tail _ (.tail _ (.tail _ (.tail _ (.head _))))) rfl),
    Mine.fnAt_of (TA _ (.tail _ (.tail _ (.tail _ (.tail _ (.tail _ (.head _)))))) rfl),
    Mine.fnAt_of (TA _ (.tail _ (.tail _ (.tail _ (.tail _ (.tail _ (.tail _ (.head _))))))) rfl),
    Mine.fnAt_of (TA _ (.tail _ (.tail _ (.tail _ (.tail _ (.tail _ (.tail _ (.tail _ (.head _)))))))) rfl),
    Mine.fnAt_of (TA _ (.tail _ (.tail _ (.head _))) rfl),
    Mine.fnAt_of (TA _ (.head _) rfl),
    Mine.fnAt_of (TA _ (.tail _ (.head _)) rfl)⟩
  have G : Mine.Gx _ _ _ := ⟨TT.g, TT.b, TT.nolimit, TT.builtins⟩
  have Mn : Mine.Nm _ := ⟨TT.free _ (by decide +kernel) (by decide +kernel) (by decide +kernel) (by decide +kernel) (by decide +kernel),
    TT.free _ (by decide +kernel) (by decide +kernel) (by decide +kernel) (by decide +kernel) (by decide +kernel),
    TT.free _ (by decide +kernel) (by decide +kernel) (by decide +kernel) (by decide +kernel) (by decide +kernel),
    TT.free _ (by decide +kernel) (by decide +kernel) (by decide +kernel) (by decide +kernel) (by decide +kernel),
    TT.free _ (by decide +kernel) (by decide +kernel) (by decide +kernel) (by decide +kernel) (by decide +kernel),
    TT.free _ (by decide +kernel) (by decide +kernel) (by decide +kernel) (by decide +kernel) (by decide +kernel),
    TT.free _ (by decide +kernel) (by decide +kernel) (by decide +kernel) (by decide +kernel) (by decide +kernel),
    TT.free _ (by decide +kernel) (by decide +kernel) (by decide +kernel) (by decide +kernel) (by decide +kernel),
    Mine.const_of G (TT.const (Str.ofString "CHARSET") (.str Mine.CH) rfl),
    Mine.const_of G (TT.const (Str.ofString "_law_signs") (.str Mine.CH) rfl)⟩
  obtain ⟨c, Pa, DA⟩ := Mine.decAt_of (TA _ (.tail _ (.tail _ (.tail _ (.head _)))) rfl)
  have DA' : Mine.DecAt _ _ c Pa := DA
  obtain ⟨_, _, _, _, _, _, _, _, BB⟩ := DA
  have FX := fun tk ad cd => Mine.fx_start (tk := tk) (ad := ad) (cd := cd) FF NN (by assumption) (by assumption) (by assumption) (by assumption) (by assumption) ⟨_, rfl, ⟨_, _, rfl, LL, II⟩⟩
  refine wpAny_mono (Mine.law_walk (n := 0) (Mine.good_law _) (Mine.units_law _) (Mine.units_law1 _) DA' G Mn BM FS (.of_eq HG) (by omega) Mine.law_plain (FX _ _ _)) (fun f s' q => ?_) (fun _ _ q => q)
  obtain ⟨rfl, u, t, os, g⟩ := q
  exact ⟨.inl ⟨.bool true, .bool true, [], rfl, fun _ => rfl, .bool true, postW_of (X := true) rfl (by first | rfl | wtm_val) rfl, fun _ => ⟨List.nodup_nil, fun _ h => nomatch h⟩⟩, Mine.old_of BB u t, os, g⟩
