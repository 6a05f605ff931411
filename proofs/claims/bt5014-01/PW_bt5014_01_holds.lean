import PyProof.Rows.All
import Wide.All
import OpenK.AllK
import Wide.FinOn
import PySem.Challenge.RW_bt5014_01
set_option Elab.async false

section
open PySem PySem.W PySem.Calls PyProof.Rows
set_option linter.unusedVariables false
namespace Mine

abbrev Vs := PySem.Str → Option Value
def Ext (h h' : Heap) : Prop := ∀ b o, h.get? b = some o → h'.get? b = some o
theorem Ext.refl (h : Heap) : Ext h h := fun _ _ e => e
theorem Ext.trans {a b c : Heap} (x : Ext a b) (y : Ext b c) : Ext a c := fun _ _ e => y _ _ (x _ _ e)
/-- all but one address is kept -/
def Kp (L : Addr) (h h' : Heap) : Prop := ∀ b o, b ≠ L → h.get? b = some o → h'.get? b = some o
theorem Ext.kp {L h h'} (x : Ext h h') : Kp L h h' := fun _ _ _ e => x _ _ e
theorem Kp.refl (L h) : Kp L h h := fun _ _ _ e => e
theorem Kp.trans {L a b c} (x : Kp L a b) (y : Kp L b c) : Kp L a c := fun _ _ n e => y _ _ n (x _ _ n e)
theorem Kp.same {L h h'} (x : Heap.SameBut L h h') : Kp L h h' := fun b _ n e => (x.2 b n).trans e

/-- the known standing objects, the frame's address, the heap, the frame's map -/
structure Fm (B : Addr → Option Obj) (L : Addr) (h : Heap) (m : Vs) : Prop where
  ns : h.Ns L m
  keep : ∀ b o, B b = some o → h.get? b = some o
  off : B L = none

def upd (m : Vs) (x : PySem.Str) (v : Value) : Vs := fun y => if y = x then some v else m y
theorem upd_same {m x v} : upd m x v x = some v := if_pos rfl
theorem upd_ne {m x v y} (h : y ≠ x) : upd m x v y = m y := if_neg h

theorem Fm.set {B L h h' m m'} (F : Fm B L h m) (hn : h'.Ns L m') (hs : Heap.SameBut L h h') : Fm B L h' m' :=
  ⟨hn, fun b o e => (hs.2 b (fun q => by rw [q, F.off] at e; cases e)).trans (F.keep b o e), F.off⟩
theorem Fm.stays {B L h h' m} (F : Fm B L h m) (hk : Ext h h') : Fm B L h' m :=
  ⟨F.ns.keeps hk, fun b o e => hk _ _ (F.keep b o e), F.off⟩
theorem Fm.push {B L h m} (F : Fm B L h m) (o : Obj) : Fm B L (h.push o) m := F.stays fun _ _ e => Heap.get?_push_of_some _ e
/-- what stands in h but for the addresses of Y -/
def Bof (h : Heap) (Y : List Addr) : Addr → Option Obj := fun b => if b ∈ Y then none else h.get? b
theorem Bof_some {h Y b o} (e : Bof h Y b = some o) : h.get? b = some o ∧ b ∉ Y := by
  unfold Bof at e; split at e
  · cases e
  · exact ⟨e, by assumption⟩
theorem Bof_of {h Y b o} (e : h.get? b = some o) (n : b ∉ Y) : Bof h Y b = some o := by unfold Bof; rw [if_neg n]; exact e
theorem Bof_in {h Y b} (n : b ∈ Y) : Bof h Y b = none := if_pos n
theorem Fm.rebase {B L h m} (F : Fm B L h m) (X : List Addr) : Fm (Bof h (L :: X)) L h m := ⟨F.ns, fun _ _ e => (Bof_some e).1, Bof_in (.head _)⟩
/-- one more object known -/
def addB (B : Addr → Option Obj) (a : Addr) (o : Obj) : Addr → Option Obj := fun b => if b = a then some o else B b
theorem Fm.know {B L h m a o} (F : Fm B L h m) (ha : h.get? a = some o) (hn : a ≠ L) : Fm (addB B a o) L h m :=
  ⟨F.ns, fun b o' e => by
    unfold addB at e; split at e
    · rename_i q; rw [q, ← e]; exact ha
    · exact F.keep b o' e, by unfold addB; rw [if_neg (Ne.symm hn)]; exact F.off⟩
theorem addB_same {B a o} : addB B a o a = some o := if_pos rfl
theorem Fm.ne {B L h m a o} (F : Fm B L h m) (e : B a = some o) : a ≠ L := fun q => by rw [q, F.off] at e; cases e
theorem Fm.lt {B L h m} (F : Fm B L h m) : L < h.objs.size := F.ns.lt

def IsI (i : Int) (v : Value) : Prop := ∃ t, v = .int i t
def IsB (b : Bool) (v : Value) : Prop := v = .bool b
def IsF (x : UInt64) (v : Value) : Prop := ∃ t, v = .float x t
def IsR (a : Addr) (v : Value) : Prop := v = .ref a
theorem IsR.mk {a : Addr} : IsR a (.ref a) := rfl
def IsN (v : Value) : Prop := v = .none

section
variable {prog : Program} {w : World} {A : Around} {env : Env} {B : Addr → Option Obj} {m : Vs}

def EvO (prog : Program) (w : World) (A : Around) (env : Env) (B : Addr → Option Obj) (m : Vs) (e : Expr) (P : Heap → Value → Prop) : Prop :=
  ∀ {Q : Value → Shared → Prop} {E : Value → Shared → Prop} {s : Shared}, Fm B env.locals s.heap m →
    (∀ v h' tk, Ext s.heap h' → P h' v → Q v { s with heap := h', toks := tk }) → wpAny (model prog w) A (eval e env) Q E s
abbrev Ev (prog : Program) (w : World) (A : Around) (env : Env) (B : Addr → Option Obj) (m : Vs) (e : Expr) (P : Value → Prop) : Prop := EvO prog w A env B m e fun _ => P
def EvT (prog : Program) (w : World) (A : Around) (env : Env) (B : Addr → Option Obj) (m : Vs) (e : Expr) (b : Bool) : Prop :=
  ∀ {Q : Bool → Shared → Prop} {E : Value → Shared → Prop} {s : Shared}, Fm B env.locals s.heap m →
    (∀ h' tk, Ext s.heap h' → Q b { s with heap := h', toks := tk }) → wpAny (model prog w) A (isTrue e env (eval e env)) Q E s

theorem Ev.name {x pos v} {P : Value → Prop} (hv : m x = some v) (hP : P v) (hk : env.scope.kind = .function := by rfl) (hl : env.kindOf x = some .local := by rfl)
    (hd : (x == ("__debug__" : PySem.Str)) = false := by decide) : Ev prog w A env B m (.Name x pos) P := fun {_ _ s} F h =>
  wpAny_Name (wpAny_loadName_local hk hl F.ns hv (h v s.heap s.toks (.refl _) hP)) hd
theorem Ev.int {i k pos} : Ev prog w A env B m (.Constant (.int i) k pos) (IsI i) := fun {_ _ s} _ h => wpAny_Constant_int (h _ s.heap _ (.refl _) ⟨_, rfl⟩)
theorem Ev.boolc {b k pos} : Ev prog w A env B m (.Constant (.bool b) k pos) (IsB b) := fun {_ _ s} _ h => Constant_bool (h _ s.heap s.toks (.refl _) rfl)
theorem Ev.nonec {k pos} : Ev prog w A env B m (.Constant .none k pos) IsN := fun {_ _ s} _ h => Constant_none (h _ s.heap s.toks (.refl _) rfl)

def Op2 (prog : Program) (w : World) (A : Around) (op : Operator) (P₁ P₂ P : Value → Prop) : Prop :=
  ∀ v₁ v₂, P₁ v₁ → P₂ v₂ → ∀ {Q : Value → Shared → Prop} {E : Value → Shared → Prop} {s : Shared}, (∀ v tk, P v → Q v { s with toks := tk }) → wpAny (model prog w) A (binaryOp op v₁ v₂) Q E s
def OpI (prog : Program) (w : World) (A : Around) (op : Operator) (P₁ P₂ P : Value → Prop) : Prop :=
  ∀ v₁ v₂, P₁ v₁ → P₂ v₂ → ∀ {Q : Value → Shared → Prop} {E : Value → Shared → Prop} {s : Shared}, (∀ v tk, P v → Q v { s with toks := tk }) → wpAny (model prog w) A (inplaceOp op v₁ v₂) Q E s
def Cmp (prog : Program) (w : World) (A : Around) (op : CmpOp) (P₁ P₂ : Value → Prop) (b : Bool) : Prop :=
  ∀ v₁ v₂, P₁ v₁ → P₂ v₂ → ∀ {Q : Value → Shared → Prop} {E : Value → Shared → Prop} {s : Shared}, (∀ tk, Q (.bool b) { s with toks := tk }) → wpAny (model prog w) A (compareOp op v₁ v₂) Q E s
def Un (prog : Program) (w : World) (A : Around) (op : UnaryOp) (P₁ P : Value → Prop) : Prop :=
  ∀ v₁, P₁ v₁ → ∀ {Q : Value → Shared → Prop} {E : Value → Shared → Prop} {s : Shared}, (∀ v tk, P v → Q v { s with toks := tk }) → wpAny (model prog w) A (unaryOp op v₁) Q E s

theorem Ev.bin {l op r pos} {P₁ P₂ P : Value → Prop} (hl : Ev prog w A env B m l P₁) (hr : Ev prog w A env B m r P₂) (ho : Op2 prog w A op P₁ P₂ P) :
    Ev prog w A env B m (.BinOp l op r pos) P := fun F h =>
  wpAny_BinOp (hl F fun v₁ _ _ x₁ h₁ => hr (F.stays x₁) fun v₂ _ _ x₂ h₂ => ho v₁ v₂ h₁ h₂ fun v tk hv => h v _ tk (x₁.trans x₂) hv)
theorem Ev.un {x op pos} {P₁ P : Value → Prop} (hx : Ev prog w A env B m x P₁) (ho : Un prog w A op P₁ P) : Ev prog w A env B m (.UnaryOp op x pos) P := fun F h =>
  UnaryOp_ (hx F fun v₁ _ _ x₁ h₁ => ho v₁ h₁ fun v tk hv => h v _ tk x₁ hv)
theorem Ev.cmp {l op r pos} {P₁ P₂ : Value → Prop} {b : Bool} (hl : Ev prog w A env B m l P₁) (hr : Ev prog w A env B m r P₂) (ho : Cmp prog w A op P₁ P₂ b)
    (hm : behindInMarks op r = false := by with_unfolding_all rfl) : Ev prog w A env B m (.Compare l [op] [r] pos) (IsB b) := fun F h =>
  wpAny_Compare1 (hl F fun v₁ _ _ x₁ h₁ => hr (F.stays x₁) fun v₂ _ _ x₂ h₂ => ho v₁ v₂ h₁ h₂ fun tk => h _ _ tk (x₁.trans x₂) rfl) hm
theorem EvT.cmp {l op r pos} {P₁ P₂ : Value → Prop} {b : Bool} (hl : Ev prog w A env B m l P₁) (hr : Ev prog w A env B m r P₂) (ho : Cmp prog w A op P₁ P₂ b)
    (hm : behindInMarks op r = false := by with_unfolding_all rfl) : EvT prog w A env B m (.Compare l [op] [r] pos) b := fun F h =>
  wpAny_isTrue_Compare1 (hl F fun v₁ _ _ x₁ h₁ => hr (F.stays x₁) fun v₂ _ _ x₂ h₂ => ho v₁ v₂ h₁ h₂ fun tk => wpAny_truthy_bool (h _ tk (x₁.trans x₂))) hm
theorem EvT.not {x pos} {b : Bool} (hx : EvT prog w A env B m x b) : EvT prog w A env B m (.UnaryOp .Not x pos) (!b) := fun F h => isTrue_not (hx F h)
theorem EvT.plain {e} {P : Heap → Value → Prop} {b : Bool} (hx : EvO prog w A env B m e P)
    (ht : ∀ v {s : Shared}, P s.heap v → Fm B env.locals s.heap m → ∀ {Q : Bool → Shared → Prop} {E : Value → Shared → Prop}, (∀ h' tk, Ext s.heap h' → Q b { s with heap := h', toks := tk }) → wpAny (model prog w) A (truthy v) Q E s)
    (he : isTrue e env (eval e env) = (do let v ← eval e env; standAt e.pos; holding [v] (truthy v)) := by rfl) : EvT prog w A env B m e b := fun F h =>
  isTrue_plain (hx F fun v _ _ x₁ hv => ht v hv (F.stays x₁) fun _ tk x₂ => h _ tk (x₁.trans x₂)) he
theorem EvT.bool {e} {b : Bool} (hx : Ev prog w A env B m e (IsB b))
    (he : isTrue e env (eval e env) = (do let v ← eval e env; standAt e.pos; holding [v] (truthy v)) := by rfl) : EvT prog w A env B m e b :=
  EvT.plain hx (fun v _ hv _ => by cases hv; exact fun h => wpAny_truthy_bool (h _ _ (.refl _))) he
theorem EvT.int {e} {i : Int} (hx : Ev prog w A env B m e (IsI i))
    (he : isTrue e env (eval e env) = (do let v ← eval e env; standAt e.pos; holding [v] (truthy v)) := by rfl) : EvT prog w A env B m e (i != 0) :=
  EvT.plain hx (fun v _ hv _ => by obtain ⟨t, rfl⟩ := hv; exact fun h => P.truthy_int (h _ _ (.refl _))) he

/-- chains of and, or as one -/
def EvAll (prog : Program) (w : World) (A : Around) (env : Env) (B : Addr → Option Obj) (m : Vs) (op : BoolOp) (es : List Expr) (b : Bool) : Prop :=
  ∀ {Q : Bool → Shared → Prop} {E : Value → Shared → Prop} {s : Shared} {pos whole}, Fm B env.locals s.heap m →
    (∀ h' tk, Ext s.heap h' → Q b { s with heap := h', toks := tk }) → wpAny (model prog w) A (isTrue (.BoolOp op es pos) env whole) Q E s
theorem EvAll.andNil : EvAll prog w A env B m .And [] true := fun {_ _ s _ _} _ h => isTrue_and_nil (h s.heap s.toks (.refl _))
theorem EvAll.orNil : EvAll prog w A env B m .Or [] false := fun {_ _ s _ _} _ h => isTrue_or_nil (h s.heap s.toks (.refl _))
theorem EvAll.and {e es a b} (he : EvT prog w A env B m e a) (hs : a = true → EvAll prog w A env B m .And es b) : EvAll prog w A env B m .And (e :: es) (a && b) := fun F h =>
  isTrue_and (he F fun _ tk x₁ => by cases a with
    | false => exact h _ tk x₁
    | true => exact hs rfl (F.stays x₁) fun _ tk' x₂ => h _ tk' (x₁.trans x₂))
theorem EvAll.or {e es a b} (he : EvT prog w A env B m e a) (hs : a = false → EvAll prog w A env B m .Or es b) : EvAll prog w A env B m .Or (e :: es) (a || b) := fun F h =>
  isTrue_or (he F fun _ tk x₁ => by cases a with
    | true => exact h _ tk x₁
    | false => exact hs rfl (F.stays x₁) fun _ tk' x₂ => h _ tk' (x₁.trans x₂))
theorem EvAll.toT {op es pos b} (h : EvAll prog w A env B m op es b) : EvT prog w A env B m (.BoolOp op es pos) b := fun F k => h F k

-- the ints
theorem op_add {a b} : Op2 prog w A .Add (IsI a) (IsI b) (IsI (a + b)) := fun _ _ ⟨_, e₁⟩ ⟨_, e₂⟩ => by subst e₁ e₂; exact fun h => add_int (h _ _ ⟨_, rfl⟩)
theorem op_sub {a b} : Op2 prog w A .Sub (IsI a) (IsI b) (IsI (a - b)) := fun _ _ ⟨_, e₁⟩ ⟨_, e₂⟩ => by subst e₁ e₂; exact fun h => sub_int (h _ _ ⟨_, rfl⟩)
theorem op_mul {a b} (hm : IntMulOk a b) : Op2 prog w A .Mult (IsI a) (IsI b) (IsI (a * b)) := fun _ _ ⟨_, e₁⟩ ⟨_, e₂⟩ => by subst e₁ e₂; exact fun h => P.mul_int (h _ _ ⟨_, rfl⟩) hm
theorem op_mod {a b} (hb : b ≠ 0) : Op2 prog w A .Mod (IsI a) (IsI b) (IsI (a.fmod b)) := fun _ _ ⟨_, e₁⟩ ⟨_, e₂⟩ => by subst e₁ e₂; exact fun h => mod_int hb (h _ _ ⟨_, rfl⟩)
theorem op_fdiv {a b} (hb : b ≠ 0) (hp : Builtin.divisionGoesByPylong a b = false) : Op2 prog w A .FloorDiv (IsI a) (IsI b) (IsI (a.fdiv b)) := fun _ _ ⟨_, e₁⟩ ⟨_, e₂⟩ => by
  subst e₁ e₂; exact fun h => floordiv_int hb (h _ _ ⟨_, rfl⟩) (.inl hp)
theorem op_and {a b} : Op2 prog w A .BitAnd (IsI a) (IsI b) (IsI (Builtin.bitAnd a b)) := fun _ _ ⟨_, e₁⟩ ⟨_, e₂⟩ => by subst e₁ e₂; exact fun h => and_int (h _ _ ⟨_, rfl⟩)
theorem op_or {a b} : Op2 prog w A .BitOr (IsI a) (IsI b) (IsI (Builtin.bitOr a b)) := fun _ _ ⟨_, e₁⟩ ⟨_, e₂⟩ => by subst e₁ e₂; exact fun h => or_int (h _ _ ⟨_, rfl⟩)
theorem op_xor {a b} : Op2 prog w A .BitXor (IsI a) (IsI b) (IsI (Builtin.bitXor a b)) := fun _ _ ⟨_, e₁⟩ ⟨_, e₂⟩ => by subst e₁ e₂; exact fun h => xor_int (h _ _ ⟨_, rfl⟩)
theorem op_shl {a b} (hn : 0 ≤ b) (hsz : (Builtin.Int.intBits a : Int) + b ≤ 2 ^ 27) : Op2 prog w A .LShift (IsI a) (IsI b) (IsI (a * 2 ^ b.toNat)) := fun _ _ ⟨_, e₁⟩ ⟨_, e₂⟩ => by subst e₁ e₂; exact fun h => lshift_int hn hsz (h _ _ ⟨_, rfl⟩)
theorem op_shr {a b} (hn : 0 ≤ b) : Op2 prog w A .RShift (IsI a) (IsI b) (IsI (a.fdiv (2 ^ b.toNat))) := fun _ _ ⟨_, e₁⟩ ⟨_, e₂⟩ => by subst e₁ e₂; exact fun h => rshift_int hn (h _ _ ⟨_, rfl⟩)
theorem op_neg {a} : Un prog w A .USub (IsI a) (IsI (-a)) := fun _ ⟨_, e₁⟩ => by subst e₁; exact fun h => P.neg_int (h _ _ ⟨_, rfl⟩)
theorem oi_add {a b} : OpI prog w A .Add (IsI a) (IsI b) (IsI (a + b)) := fun _ _ ⟨_, e₁⟩ ⟨_, e₂⟩ => by subst e₁ e₂; exact fun h => iadd_int (h _ _ ⟨_, rfl⟩)
theorem oi_or {a b} : OpI prog w A .BitOr (IsI a) (IsI b) (IsI (Builtin.bitOr a b)) := fun _ _ ⟨_, e₁⟩ ⟨_, e₂⟩ => by subst e₁ e₂; exact fun h => ior_int (h _ _ ⟨_, rfl⟩)
theorem oi_and {a b} : OpI prog w A .BitAnd (IsI a) (IsI b) (IsI (Builtin.bitAnd a b)) := fun _ _ ⟨_, e₁⟩ ⟨_, e₂⟩ => by subst e₁ e₂; exact fun h => iand_int (h _ _ ⟨_, rfl⟩)
theorem oi_xor {a b} : OpI prog w A .BitXor (IsI a) (IsI b) (IsI (Builtin.bitXor a b)) := fun _ _ ⟨_, e₁⟩ ⟨_, e₂⟩ => by subst e₁ e₂; exact fun h => ixor_int (h _ _ ⟨_, rfl⟩)
theorem cmp_eqI {a b} : Cmp prog w A .Eq (IsI a) (IsI b) (a == b) := fun _ _ ⟨_, e₁⟩ ⟨_, e₂⟩ => by subst e₁ e₂; exact fun h => eq_int (h _)
theorem cmp_neI {a b} : Cmp prog w A .NotEq (IsI a) (IsI b) (a != b) := fun _ _ ⟨_, e₁⟩ ⟨_, e₂⟩ => by subst e₁ e₂; exact fun h => ne_int (h _)
theorem cmp_ltI {a b} : Cmp prog w A .Lt (IsI a) (IsI b) (decide (a < b)) := fun _ _ ⟨_, e₁⟩ ⟨_, e₂⟩ => by subst e₁ e₂; exact fun h => lt_int (h _)
theorem cmp_geI {a b} : Cmp prog w A .GtE (IsI a) (IsI b) (decide (a ≥ b)) := fun _ _ ⟨_, e₁⟩ ⟨_, e₂⟩ => by subst e₁ e₂; exact fun h => P.ge_int (h _)
theorem cmp_eqB {a b} : Cmp prog w A .Eq (IsB a) (IsB b) (a == b) := fun _ _ e₁ e₂ => by cases e₁; cases e₂; exact fun h => eq_bool (h _)
theorem cmp_neB {a b} : Cmp prog w A .NotEq (IsB a) (IsB b) (a != b) := fun _ _ e₁ e₂ => by cases e₁; cases e₂; exact fun h => ne_bool (h _)

-- the statements
theorem ex_assign {x px e pos rest} {P : Heap → Value → Prop} {Q : Flow → Shared → Prop} {E s} (F : Fm B env.locals s.heap m) (he : EvO prog w A env B m e P)
    (k : ∀ v h₁ h' tk, Ext s.heap h₁ → P h₁ v → Fm B env.locals h' (upd m x v) → Heap.SameBut env.locals h₁ h' → wpAny (model prog w) A (execs rest env) Q E { s with heap := h', toks := tk })
    (hl : env.kindOf x = some .local := by rfl) (hp : (env.scope.kind == .class || (env.scope.kind == .module && env.locals != env.globals)) = false := by rfl)
    (hs : swapsWith e (some (.Name x px)) pos.line env = pure false := by rfl) : wpAny (model prog w) A (execs (.Assign [.Name x px] e pos :: rest) env) Q E s :=
  wpAny_execs_cons (wpAny_Assign_Name (he F fun v _ _ x₁ hv => wpAny_storeName_local hl (F.stays x₁).ns (fun h' hn hsb => k v _ h' _ x₁ hv ((F.stays x₁).set hn hsb) hsb) hp) hs)
/-- a value that speaks of no object -/
theorem ex_let {x px e pos rest} {P : Value → Prop} {Q : Flow → Shared → Prop} {E s} (F : Fm B env.locals s.heap m) (he : Ev prog w A env B m e P)
    (k : ∀ v h' tk, P v → Fm B env.locals h' (upd m x v) → Kp env.locals s.heap h' → wpAny (model prog w) A (execs rest env) Q E { s with heap := h', toks := tk })
    (hl : env.kindOf x = some .local := by rfl) (hp : (env.scope.kind == .class || (env.scope.kind == .module && env.locals != env.globals)) = false := by rfl)
    (hs : swapsWith e (some (.Name x px)) pos.line env = pure false := by rfl) : wpAny (model prog w) A (execs (.Assign [.Name x px] e pos :: rest) env) Q E s :=
  ex_assign F he (fun v h₁ h' tk x₁ hv F' hsb => k v h' tk hv F' (x₁.kp.trans (.same hsb))) hl hp hs
theorem ex_aug {x px e op pos rest v₀} {P₁ P₂ P : Value → Prop} {Q : Flow → Shared → Prop} {E s} (F : Fm B env.locals s.heap m) (h₀ : m x = some v₀) (hP : P₁ v₀) (he : Ev prog w A env B m e P₂)
    (ho : OpI prog w A op P₁ P₂ P)
    (k : ∀ v h' tk, P v → Fm B env.locals h' (upd m x v) → Kp env.locals s.heap h' → wpAny (model prog w) A (execs rest env) Q E { s with heap := h', toks := tk })
    (hk : env.scope.kind = .function := by rfl) (hl : env.kindOf x = some .local := by rfl) (hp : (env.scope.kind == .class || (env.scope.kind == .module && env.locals != env.globals)) = false := by rfl) :
    wpAny (model prog w) A (execs (.AugAssign (.Name x px) op e pos :: rest) env) Q E s :=
  wpAny_execs_cons (wpAny_AugAssign_Name (wpAny_loadName_local hk hl F.ns h₀ (he F fun v _ _ x₁ hv => ho _ _ hP hv fun v _ hv => wpAny_storeName_local hl (F.stays x₁).ns
    (fun h' hn hsb => k v h' _ hv ((F.stays x₁).set hn hsb) (x₁.kp.trans (.same hsb))) hp)))
theorem ex_if {t bd els pos rest b} {Q : Flow → Shared → Prop} {E s} (F : Fm B env.locals s.heap m) (ht : EvT prog w A env B m t b)
    (k₁ : b = true → ∀ h' tk, Ext s.heap h' → Fm B env.locals h' m → wpAny (model prog w) A (execs bd env) (fun f s' => match f with | .next => wpAny (model prog w) A (execs rest env) Q E s' | f => Q f s') E { s with heap := h', toks := tk })
    (k₂ : b = false → ∀ h' tk, Ext s.heap h' → Fm B env.locals h' m → wpAny (model prog w) A (execs els env) (fun f s' => match f with | .next => wpAny (model prog w) A (execs rest env) Q E s' | f => Q f s') E { s with heap := h', toks := tk }) :
    wpAny (model prog w) A (execs (.If t bd els pos :: rest) env) Q E s :=
  wpAny_execs_cons (wpAny_If (ht F fun h' tk x₁ => by cases b with
    | true => exact k₁ rfl h' tk x₁ (F.stays x₁)
    | false => exact k₂ rfl h' tk x₁ (F.stays x₁)))
theorem ex_ret {e pos rest} {P : Heap → Value → Prop} {Q : Flow → Shared → Prop} {E s} (F : Fm B env.locals s.heap m) (he : EvO prog w A env B m e P)
    (k : ∀ v h' tk, Ext s.heap h' → P h' v → Q (.ret v) { s with heap := h', toks := tk }) :
    wpAny (model prog w) A (execs (.Return (some e) pos :: rest) env) Q E s := wpAny_execs_cons (wpAny_Return_some (he F k))
theorem ex_nil {Q : Flow → Shared → Prop} {E s} (h : Q .next s) : wpAny (model prog w) A (execs [] env) Q E s := wpAny_execs_nil h

-- lists of arguments
def EvL (prog : Program) (w : World) (A : Around) (env : Env) (B : Addr → Option Obj) (m : Vs) (es : List Expr) (P : Heap → List Value → Prop) : Prop :=
  ∀ {Q : List Value → Shared → Prop} {E : Value → Shared → Prop} {s : Shared} {pos : Pos}, Fm B env.locals s.heap m →
    (∀ vs h' tk, Ext s.heap h' → P h' vs → Q vs { s with heap := h', toks := tk }) → wpAny (model prog w) A (spliced (backTo pos (starEach es env))) Q E s
def Mono (P : Heap → Value → Prop) : Prop := ∀ h h' v, Ext h h' → P h v → P h' v
theorem EvL.nil : EvL prog w A env B m [] fun _ vs => vs = [] := fun {_ _ s _} _ h => args_nil (h _ s.heap s.toks (.refl _) rfl)
theorem EvL.cons {e es} {P₁ : Heap → Value → Prop} {P₂ : Heap → List Value → Prop} (h₁ : EvO prog w A env B m e P₁) (hm : Mono P₁) (h₂ : EvL prog w A env B m es P₂)
    (he : starEach (e :: es) env = (false, eval e env) :: starEach es env := by rfl) :
    EvL prog w A env B m (e :: es) (fun h vs => ∃ v vs', vs = v :: vs' ∧ P₁ h v ∧ P₂ h vs') := fun F h =>
  args_cons (h₁ F fun v _ _ x₁ p₁ => h₂ (F.stays x₁) fun vs _ tk x₂ p₂ => h (v :: vs) _ tk (x₁.trans x₂) ⟨v, vs, rfl, hm _ _ _ x₂ p₁, p₂⟩) he
theorem Mono.val {P : Value → Prop} : Mono fun _ => P := fun _ _ _ _ p => p
theorem EvL.consV {e es} {P₁ : Value → Prop} {P₂ : Heap → List Value → Prop} (h₁ : Ev prog w A env B m e P₁) (h₂ : EvL prog w A env B m es P₂)
    (he : starEach (e :: es) env = (false, eval e env) :: starEach es env := by rfl) :
    EvL prog w A env B m (e :: es) (fun h vs => ∃ v vs', vs = v :: vs' ∧ P₁ v ∧ P₂ h vs') := EvL.cons h₁ Mono.val h₂ he
end
end Mine
end

section
open PySem PySem.W PySem.Calls PyProof.Rows
set_option linter.unusedVariables false
namespace Mine

def defs0 : List DefItem := List.map itemOf (recsOf PySem.Challenge.pw_bt5014_01)
def biNames : List PySem.Str := ["len", "range", "sum", "iter", "next", "map", "float", "abs", "int", "isinstance", "bool"]

/-- what stands of the module -/
structure GI (mg mb : Vs) (h : Heap) : Prop where
  g : h.Ns mainGlobals mg
  b : h.Ns builtinsNs mb
  nolimit : h.NoLimit
  made : ∀ d ∈ defs0, d.Made 0 mg h
  free : ∀ x ∈ biNames, mg x = none
  bi : ∀ x ∈ biNames, mb x = bootBuiltins x
  sizes : ∃ a, mg "_law_sizes" = some (.ref a) ∧ ∃ vs, IsTup h a vs ∧ IntsAre vs.toList [6, 5, 7, 4, 11, 5, 1, 3, 2, 9, 11, 6]

theorem GI.keeps {mg mb h h'} (G : GI mg mb h) (hk : Ext h h') : GI mg mb h' :=
  ⟨G.g.keeps hk, G.b.keeps hk, G.nolimit.keeps hk, fun d hd => (G.made d hd).keeps hk, G.free, G.bi,
    let ⟨a, e, vs, t, i⟩ := G.sizes; ⟨a, e, vs, IsTup.keeps t hk, i⟩⟩

/-- it stands wherever the known objects stand -/
def GB (mg mb : Vs) (B : Addr → Option Obj) : Prop := ∀ h : Heap, (∀ b o, B b = some o → h.get? b = some o) → GI mg mb h
theorem GI.gb {mg mb h} (G : GI mg mb h) : GB mg mb h.get? := fun _ hk => G.keeps hk
theorem GB.mono {mg mb} {B B' : Addr → Option Obj} (G : GB mg mb B) (hs : ∀ b o, B b = some o → B' b = some o) : GB mg mb B' := fun h hk => G h fun b o e => hk b o (hs b o e)

def AOk (A : Around) (n : Nat) : Prop := A.handled = none ∧ A.depth + n < 1000 ∧ A.units + 3 * n < 9000
theorem AOk.deeper {A n env} (h : AOk A (n + 1)) : AOk (A.deeper env) n := ⟨h.1, by rw [depth_deeper]; have := h.2.1; omega, by rw [units_deeper]; have := h.2.2; omega⟩
theorem AOk.room {A n} (h : AOk A n) : A.depth < recursionLimit := by have := h.2.1; show _ < 1000; omega
theorem AOk.units {A n} (h : AOk A n) : A.units < cLine := by have := h.2.2; rw [cLine_is]; omega
theorem AOk.le {A n k} (h : AOk A n) (hk : k ≤ n) : AOk A k := ⟨h.1, by have := h.2.1; omega, by have := h.2.2; omega⟩

/-- a def's contract: called in any such surroundings, its answer is as said, and all that stood stands -/
def Spec (prog : Program) (w : World) (mg mb : Vs) (name : PySem.Str) (n : Nat) (Pre : Heap → List Value → Prop) (Post : List Value → Heap → Heap → Value → Prop) : Prop :=
  ∀ (A : Around) (s : Shared) (vals : List Value) (f : Addr), AOk A n → GI mg mb s.heap → mg name = some (.ref f) → Pre s.heap vals →
    codeAny (model prog w) A (.call (.ref f) ⟨vals, []⟩) (fun r s' => ∃ v h' tk, r = .ok (.ret v) ∧ s' = { s with heap := h', toks := tk } ∧ Ext s.heap h' ∧ Post vals s.heap h' v) s

section
variable {prog : Program} {w : World} {mg mb : Vs}

theorem Spec.intro {name : PySem.Str} {n : Nat} {Pre : Heap → List Value → Prop} {Post : List Value → Heap → Heap → Value → Prop} (d : DefItem) (hd : defs0.find? (fun e => decide (e.name = name)) = some d)
    (hnd : d.params.defaults = []) (hco : d.scope.isCoroutine = false) (hgen : d.scope.isGenerator = false) (hk : d.scope.kind = .function) (hcell : (d.scope.names.all fun x => x.2 != .cell) = true)
    (binds : List Value → List (PySem.Str × Value))
    (hbind : ∀ h vals pm cd doc, Pre h vals → bindArgs (docDef d.name d.params d.body d.scope pm cd doc) ⟨vals, []⟩ = pure (binds vals))
    (hloc : ∀ h vals, Pre h vals → ∀ x ∈ binds vals, d.scope.names.lookup x.1 = some .local)
    (hbody : ∀ (A : Around) (s : Shared) (vals : List Value) (f : Addr) (cd : Value) (h₁ : Heap), AOk A (n + 1) → GI mg mb s.heap → Pre s.heap vals → Fm s.heap.get? s.heap.objs.size h₁ (fun x => (binds vals).reverse.lookup x) →
      wpAny (model prog w) (A.deeper (envOf d.name d.scope s.heap.objs.size f cd)) (execs d.body (envOf d.name d.scope s.heap.objs.size f cd))
        (fun fl s' => ∃ h' tk, s' = { s with heap := h', toks := tk } ∧ Ext s.heap h' ∧ Post vals s.heap h' (match fl with | .ret v => v | _ => .none)) (fun _ _ => False)
        { s with heap := h₁, toks := s.toks + (binds vals).length }) : Spec prog w mg mb name (n + 1) Pre Post := by
  intro A s vals f hA G hf hpre
  have hn : d.name = name := of_decide_eq_true (List.find?_some (p := fun e : DefItem => decide (e.name = name)) hd)
  obtain ⟨f', c', o, pm, doc, _, _, h3, h4, h5, h6⟩ := (G.made d (List.mem_of_find?_eq_some hd)).plain hnd
  have : f' = f := by rw [hn, hf] at h3; cases h3; rfl
  subst this
  refine call_plain_ret (hA.room) h4 h5 G.nolimit h6 (hbind _ _ _ _ _ hpre) (hloc _ _ hpre) (fun h₁ F => ?_) hco hgen hk (fun x hx => by simpa using List.all_eq_true.mp hcell x hx)
  refine wpAny_mono (hbody A s vals f' _ h₁ hA G hpre ⟨F.ns, F.keep, by
    cases e : s.heap.get? s.heap.objs.size with
    | none => rfl
    | some o => exact absurd (Heap.lt_size e) (Nat.lt_irrefl _)⟩) (fun fl s' h => ?_) fun _ _ x => x
  obtain ⟨h', tk, e1, e2, e3⟩ := h
  exact ⟨_, h', tk, rfl, e1, e2, e3⟩
end

section
variable {prog : Program} {w : World} {A : Around} {env : Env} {B : Addr → Option Obj} {m mg mb : Vs}

/-- a global name of the module -/
theorem Ev.glob {x pos v} (G : GB mg mb B) (hv : mg x = some v) (hg : env.globals = mainGlobals := by rfl) (hk : env.scope.kind = .function := by rfl) (hx : env.kindOf x = some .globalImplicit := by rfl)
    (hd : (x == ("__debug__" : PySem.Str)) = false := by decide) : Ev prog w A env B m (.Name x pos) (· = v) := fun {_ _ s} F h =>
  Name_function_global hk hx (loadGlobal_global (by rw [hg]; exact (G _ F.keep).g) hv (h v s.heap s.toks (.refl _) rfl)) hd
theorem Ev.bi {x pos v} (G : GB mg mb B) (hm : x ∈ biNames) (hv : bootBuiltins x = some v) (hg : env.globals = mainGlobals := by rfl) (hb : env.builtins = builtinsNs := by rfl)
    (hk : env.scope.kind = .function := by rfl) (hx : env.kindOf x = some .globalImplicit := by rfl)
    (hd : (x == ("__debug__" : PySem.Str)) = false := by decide) : Ev prog w A env B m (.Name x pos) (· = v) := fun {_ _ s} F h =>
  have G' := G _ F.keep
  Name_function_global hk hx (loadGlobal_builtin (by rw [hg]; exact G'.g) (G'.free _ hm) (by rw [hb]; exact G'.b) ((G'.bi _ hm).trans hv) (h v s.heap s.toks (.refl _) rfl)) hd

/-- a call of a built-in -/
theorem EvO.callB {fn : PySem.Str} {fpos pos : Pos} {id : String} {e : Expr} {rest : List Expr} {Pa : Heap → List Value → Prop} {P : Heap → Value → Prop}
    (G : GB mg mb B) (hm : fn ∈ biNames) (hv : bootBuiltins fn = some (.builtin id)) (ha : EvL prog w A env B m (e :: rest) Pa)
    (hc : ∀ vs {s : Shared}, Pa s.heap vs → Fm B env.locals s.heap m → ∀ {Q : Value → Shared → Prop} {E : Value → Shared → Prop},
      (∀ v h' tk, Ext s.heap h' → P h' v → Q v { s with heap := h', toks := tk }) → wpAny (model prog w) A (call (.builtin id) vs) Q E s)
    (hg : env.globals = mainGlobals := by rfl) (hb : env.builtins = builtinsNs := by rfl) (hk : env.scope.kind = .function := by rfl) (hx : env.kindOf fn = some .globalImplicit := by rfl)
    (hd : (fn == ("__debug__" : PySem.Str)) = false := by decide)
    (he : eval (.Call (.Name fn fpos) (e :: rest) [] pos) env = (do callWith pos (← eval (.Name fn fpos) env) [] (backTo pos (starEach (e :: rest) env)) (backToKw pos (keywordEach [] env))) := by rfl)
    (hs : starEach (e :: rest) env = (false, eval e env) :: starEach rest env := by rfl) (hp : (backTo pos (starEach rest env)).any (·.1) = false := by rfl) :
    EvO prog w A env B m (.Call (.Name fn fpos) (e :: rest) [] pos) P := fun F k =>
  Call_ (Ev.bi G hm hv hg hb hk hx hd F fun f _ _ x₁ hf => by
    cases hf
    exact callWith_builtin1 (ha (F.stays x₁) fun vs _ _ x₂ hpa => hc vs hpa ((F.stays x₁).stays x₂) fun v h' tk x₃ hp => k v h' tk ((x₁.trans x₂).trans x₃) hp) hs hp) he

/-- a call of a type -/
theorem EvO.callT {fn : PySem.Str} {fpos pos : Pos} {T : String} {e : Expr} {rest : List Expr} {Pa : Heap → List Value → Prop} {P : Heap → Value → Prop}
    (G : GB mg mb B) (hm : fn ∈ biNames) (hv : bootBuiltins fn = some (.type T)) (ha : EvL prog w A env B m (e :: rest) Pa)
    (hc : ∀ vs {s : Shared}, Pa s.heap vs → Fm B env.locals s.heap m → ∀ {Q : Value → Shared → Prop} {E : Value → Shared → Prop},
      (∀ v h' tk, Ext s.heap h' → P h' v → Q v { s with heap := h', toks := tk }) → wpAny (model prog w) A (call (.type T) vs) Q E s)
    (hg : env.globals = mainGlobals := by rfl) (hb : env.builtins = builtinsNs := by rfl) (hk : env.scope.kind = .function := by rfl) (hx : env.kindOf fn = some .globalImplicit := by rfl)
    (hd : (fn == ("__debug__" : PySem.Str)) = false := by decide)
    (he : eval (.Call (.Name fn fpos) (e :: rest) [] pos) env = (do callWith pos (← eval (.Name fn fpos) env) [] (backTo pos (starEach (e :: rest) env)) (backToKw pos (keywordEach [] env))) := by rfl)
    (hs : starEach (e :: rest) env = (false, eval e env) :: starEach rest env := by rfl) (hp : (backTo pos (starEach rest env)).any (·.1) = false := by rfl) :
    EvO prog w A env B m (.Call (.Name fn fpos) (e :: rest) [] pos) P := fun F k =>
  Call_ (Ev.bi G hm hv hg hb hk hx hd F fun f _ _ x₁ hf => by
    cases hf
    exact PyProof.Rows.callWith_type1 (ha (F.stays x₁) fun vs _ _ x₂ hpa => hc vs hpa ((F.stays x₁).stays x₂) fun v h' tk x₃ hp => k v h' tk ((x₁.trans x₂).trans x₃) hp) hs hp) he

/-- a call of a def of the module, by its contract -/
theorem EvO.callD {fn : PySem.Str} {fpos pos : Pos} {n : Nat} {Pre : Heap → List Value → Prop} {Post : List Value → Heap → Heap → Value → Prop} {d : DefItem} {e : Expr} {rest : List Expr} {Pa : Heap → List Value → Prop} {P : Heap → Value → Prop}
    (S : Spec prog w mg mb fn n Pre Post) (hA : AOk A n) (hd0 : defs0.find? (fun e => decide (e.name = fn)) = some d) (hnd : d.params.defaults = [])
    (G : GB mg mb B) (ha : EvL prog w A env B m (e :: rest) Pa)
    (hpre : ∀ h vs, Pa h vs → Fm B env.locals h m → Pre h vs) (hpost : ∀ h h' vs v, Pa h vs → Fm B env.locals h m → Ext h h' → Post vs h h' v → P h' v)
    (hg : env.globals = mainGlobals := by rfl) (hk : env.scope.kind = .function := by rfl) (hx : env.kindOf fn = some .globalImplicit := by rfl)
    (hd : (fn == ("__debug__" : PySem.Str)) = false := by decide)
    (he : eval (.Call (.Name fn fpos) (e :: rest) [] pos) env = (do callWith pos (← eval (.Name fn fpos) env) [] (backTo pos (starEach (e :: rest) env)) (backToKw pos (keywordEach [] env))) := by rfl)
    (hs : starEach (e :: rest) env = (false, eval e env) :: starEach rest env := by rfl) :
    EvO prog w A env B m (.Call (.Name fn fpos) (e :: rest) [] pos) P := fun {Q E s} F k => by
  have hn : d.name = fn := of_decide_eq_true (List.find?_some (p := fun e : DefItem => decide (e.name = fn)) hd0)
  obtain ⟨f, c', o, pm, doc, _, _, h3, h4, h5, h6⟩ := ((G _ F.keep).made d (List.mem_of_find?_eq_some hd0)).plain hnd
  rw [hn] at h3
  refine Call_ (Ev.glob G h3 hg hk hx hd F fun f' _ _ x₁ hf => ?_) he
  cases hf
  refine callWith_def h5 (ha (F.stays x₁) fun vs h₂ _ x₂ hpa => ⟨x₂ _ _ (x₁ _ _ h4), ?_⟩) hs
  have F₂ := (F.stays x₁).stays x₂
  refine wpAny_call (codeAny_mono (S A _ vs f hA (G _ F₂.keep) h3 (hpre _ _ hpa F₂)) fun r s' h => ?_)
  obtain ⟨v, h', tk, rfl, rfl, x₃, hp⟩ := h
  exact k v h' tk ((x₁.trans x₂).trans x₃) (hpost _ _ _ _ hpa F₂ x₃ hp)
end

-- the loops
section
variable {prog : Program} {w : World} {A : Around} {env : Env} {B : Addr → Option Obj} {m : Vs}

theorem ex_while {test body pos rest} {Q : Flow → Shared → Prop} {E : Value → Shared → Prop} {s : Shared} (I : Nat → Vs → Heap → Prop) (F : Fm B env.locals s.heap m) (n₀ : Nat) (h0 : I n₀ m s.heap)
    (turn : ∀ (n : Nat) (m' : Vs) (h' : Heap), I n m' h' → Fm B env.locals h' m' → ∃ b : Bool, EvT prog w A env B m' test b ∧
      (b = true → ∀ (h₁ : Heap) (tk : Nat), Ext h' h₁ → Fm B env.locals h₁ m' → wpAny (model prog w) A (execs body env) (fun f s₃ => (f = .next ∨ f = .cont) ∧ ∃ n' m₃ h₃ tk₃, n' < n ∧ s₃ = { s with heap := h₃, toks := tk₃ } ∧ Fm B env.locals h₃ m₃ ∧ I n' m₃ h₃) (fun _ _ => False) { s with heap := h₁, toks := tk }) ∧
      (b = false → ∀ (h₁ : Heap) (tk : Nat), Ext h' h₁ → Fm B env.locals h₁ m' → wpAny (model prog w) A (execs rest env) Q E { s with heap := h₁, toks := tk })) :
    wpAny (model prog w) A (execs (.While test body [] pos :: rest) env) Q E s := by
  refine wpAny_execs_cons (wpAny_While ?_)
  refine codeAny_whileLoop (fun n s' => ∃ m' h' tk, s' = { s with heap := h', toks := tk } ∧ Fm B env.locals h' m' ∧ I n m' h') ?_ n₀ ⟨m, s.heap, s.toks, rfl, F, h0⟩
  rintro n s' ⟨m', h', tk, rfl, F', hI⟩
  obtain ⟨b, ht, k₁, k₂⟩ := turn n m' h' hI F'
  refine ht F' fun h₁ tk₁ x₁ => ?_
  cases b with
  | true =>
    refine wpAny_noRaise (wpAny_mono (k₁ rfl h₁ tk₁ x₁ (F'.stays x₁)) (fun f s₃ h => ?_) fun _ _ x => x)
    obtain ⟨hf, n', m₃, h₃, tk₃, hlt, rfl, F₃, hI₃⟩ := h
    rcases hf with rfl | rfl <;> exact ⟨n', hlt, m₃, h₃, tk₃, rfl, F₃, hI₃⟩
  | false =>
    exact ex_nil (k₂ rfl h₁ tk₁ x₁ (F'.stays x₁))

theorem for_walk {x : PySem.Str} {px : Pos} {body : List Stmt} {R : Result → Shared → Prop} {s : Shared} {It : Addr} {fp wr : List Addr} {n : Nat} {P : Nat → Value → Prop} {St : Nat → Heap → Prop}
    (W : Walks prog w A It fp wr n P St) (F : Fm B env.locals s.heap m) (hst : St 0 s.heap) (X : List Addr) (I : Nat → Vs → Heap → Prop)
    (hL : env.locals ∉ fp) (hB : ∀ b ∈ wr, B b = none) (hfp : ∀ b ∈ fp, b ∉ wr → ∀ o, s.heap.get? b = some o → B b = some o) (hfpX : ∀ b ∈ fp, b ∉ wr → (s.heap.get? b).isSome)
    (hXB : ∀ b ∈ X, B b = none) (hXw : ∀ b ∈ X, b ∉ wr) (hXL : ∀ b ∈ X, b ≠ env.locals)
    (hIx : ∀ i m h h', (∀ b ∈ X, ∀ o, h.get? b = some o → h'.get? b = some o) → I i m h → I i m h')
    (h0 : I 0 m s.heap)
    (turn : ∀ i B' m' h' tk v, (∀ b o, B b = some o → B' b = some o) → (∀ b ∈ X, B' b = none) → i < n → P i v → I i m' h' → Fm B' env.locals h' (upd m' x v) →
      wpAny (model prog w) A (execs body env) (fun f s₃ => (f = .next ∨ f = .cont) ∧ ∃ h₃ tk₃ m₃, s₃ = { s with heap := h₃, toks := tk₃ } ∧ Fm B' env.locals h₃ m₃ ∧ I (i + 1) m₃ h₃) (fun _ _ => False) { s with heap := h', toks := tk })
    (done : ∀ h' tk m', Fm B env.locals h' m' → I n m' h' → R (.ok .next) { s with heap := h', toks := tk })
    (hx : env.kindOf x = some .local) (hp : (env.scope.kind == .class || (env.scope.kind == .module && env.locals != env.globals)) = false) :
    codeAny (model prog w) A (.forLoop (.Name x px) (.ref It) body [] env) R s := by
  refine codeAny_forLoop_any (fun k s' => ∃ h' tk m' i, s' = { s with heap := h', toks := tk } ∧ St i h' ∧ Fm B env.locals h' m' ∧ I i m' h' ∧ i ≤ n ∧ k = n + 1 - i) ?_ (n + 1) ⟨s.heap, s.toks, m, 0, rfl, hst, F, h0, Nat.zero_le _, rfl⟩
  rintro k s' ⟨h', tk, m', i, rfl, hst', F', hI, hi, rfl⟩
  have step : ∀ h₁ : Heap, (∀ b o, b ∉ wr → h'.get? b = some o → h₁.get? b = some o) → Fm B env.locals h₁ m' ∧ I i m' h₁ := fun h₁ hk =>
    ⟨⟨F'.ns.at' fun o e => hk _ o (fun q => hL (W.sub _ q)) e, fun b o e => hk b o (fun q => by rw [hB b q] at e; cases e) (F'.keep b o e), F'.off⟩,
      hIx i m' h' h₁ (fun b hb o e => hk b o (hXw b hb) e) hI⟩
  by_cases hlt : i < n
  · refine W.item i _ _ _ hlt hst' fun v h₁ tk₁ hPv hst₁ hk₁ => ?_
    obtain ⟨F₁, hI₁⟩ := step h₁ hk₁
    refine wpAny_of_eq (a := ()) rfl ?_
    refine wpAny_assign_Name (wpAny_storeName_local hx F₁.ns (fun h₂ hn₂ hs₂ => ?_) hp)
    have F₂ := F₁.set hn₂ hs₂
    have hst₂ : St (i + 1) h₂ := W.frame _ _ _ hst₁ fun b hb o e => (hs₂.2 b fun q => hL (q ▸ hb)).trans e
    -- the walked objects are known during the turn
    let B' : Addr → Option Obj := fun b => if b ∈ wr then h₂.get? b else B b
    have hB' : ∀ b o, B b = some o → B' b = some o := fun b o e => by
      show (if b ∈ wr then h₂.get? b else B b) = some o
      rw [if_neg (fun q => by rw [hB b q] at e; cases e)]; exact e
    have F₃ : Fm B' env.locals h₂ (upd m' x v) := ⟨F₂.ns, fun b o e => by
        have e' : (if b ∈ wr then h₂.get? b else B b) = some o := e
        split at e'
        · exact e'
        · exact F₂.keep b o e', by
        show (if env.locals ∈ wr then h₂.get? env.locals else B env.locals) = none
        rw [if_neg (fun q => hL (W.sub _ q))]; exact F₂.off⟩
    have hXB' : ∀ b ∈ X, B' b = none := fun b hb => by
      show (if b ∈ wr then h₂.get? b else B b) = none
      rw [if_neg (hXw b hb)]; exact hXB b hb
    refine wpAny_noRaise (wpAny_mono (turn i B' m' h₂ _ v hB' hXB' hlt hPv (hIx i m' h₁ h₂ (fun b hb o e => (hs₂.2 b (hXL b hb)).trans e) hI₁) F₃) (fun f s₃ h₃ => ?_) fun _ _ x => x)
    obtain ⟨hf, h₃, tk₃, m₃, rfl, F₄, hI₄⟩ := h₃
    have hst₃ : St (i + 1) h₃ := W.frame _ _ _ hst₂ fun b hb o e => by
      by_cases hw : b ∈ wr
      · exact F₄.keep b o (by show (if b ∈ wr then h₂.get? b else B b) = some o; rw [if_pos hw]; exact e)
      · refine F₄.keep b o (hB' b o ?_)
        obtain ⟨o₀, e₀⟩ := Option.isSome_iff_exists.mp (hfpX b hb hw)
        have hb₀ := hfp b hb hw o₀ e₀
        have := F₂.keep b o₀ hb₀
        rw [e] at this; cases this; exact hb₀
    have fin : ∃ m_1, m_1 < n + 1 - i ∧ ∃ h' tk m' i, ({ s with heap := h₃, toks := tk₃ } : Shared) = { s with heap := h', toks := tk } ∧ St i h' ∧ Fm B env.locals h' m' ∧ I i m' h' ∧ i ≤ n ∧ m_1 = n + 1 - i :=
      ⟨n + 1 - (i + 1), by omega, h₃, tk₃, m₃, i + 1, rfl, hst₃, ⟨F₄.ns, fun b o e => F₄.keep b o (hB' b o e), F'.off⟩, hI₄, hlt, rfl⟩
    rcases hf with rfl | rfl <;> exact fin
  · have hin : i = n := by omega
    subst hin
    refine W.done _ _ _ hst' fun h₁ tk₁ hk₁ => ex_nil ?_
    obtain ⟨F₁, hI₁⟩ := step h₁ hk₁
    exact done h₁ tk₁ m' F₁ hI₁
end
end Mine
end

section
open PySem PySem.W PySem.Calls PyProof.Rows
set_option linter.unusedVariables false
namespace Mine

theorem nat_xor_add_and (m n : Nat) : (m ^^^ n) + 2 * (m &&& n) = m + n := by
  have h1 := nat_or_add_and (m ^^^ n) (m &&& n)
  have h2 := nat_or_add_and m n
  have e1 : (m ^^^ n) &&& (m &&& n) = 0 := by
    apply Nat.eq_of_testBit_eq; intro i
    simp only [Nat.testBit_and, Nat.testBit_xor, Nat.zero_testBit]
    cases m.testBit i <;> cases n.testBit i <;> rfl
  have e2 : (m ^^^ n) ||| (m &&& n) = m ||| n := by
    apply Nat.eq_of_testBit_eq; intro i
    simp only [Nat.testBit_and, Nat.testBit_xor, Nat.testBit_or]
    cases m.testBit i <;> cases n.testBit i <;> rfl
  rw [e1, e2] at h1
  omega
theorem bitAnd_nat (a b : Nat) : Builtin.bitAnd (a : Int) (b : Int) = ((a &&& b : Nat) : Int) := by
  rw [bitAnd_pp (by omega) (by omega)]; simp
theorem bitOr_nat (a b : Nat) : Builtin.bitOr (a : Int) (b : Int) = ((a ||| b : Nat) : Int) := by
  rw [bitOr_and, bitAnd_nat]; have := nat_or_add_and a b; omega
theorem bitXor_nat (a b : Nat) : Builtin.bitXor (a : Int) (b : Int) = ((a ^^^ b : Nat) : Int) := by
  unfold Builtin.bitXor; rw [bitOr_nat, bitAnd_nat]
  have := nat_or_add_and a b; have := nat_xor_add_and a b; omega
theorem shl_nat (a k : Nat) : (a : Int) * 2 ^ ((k : Int).toNat) = ((a <<< k : Nat) : Int) := by
  rw [Nat.shiftLeft_eq]; simp
theorem shr_nat (a k : Nat) : (a : Int).fdiv (2 ^ ((k : Int).toNat)) = ((a >>> k : Nat) : Int) := by
  rw [Nat.shiftRight_eq_div_pow]
  rw [Int.fdiv_eq_ediv_of_nonneg _ (by simp; exact Int.pow_nonneg (by omega))]
  simp

def IsU (n : Nat) (v : Value) : Prop := IsI (n : Int) v
theorem intBits_nat {a K : Nat} (h : a < 2 ^ K) : Builtin.Int.intBits (a : Int) ≤ K := intBits_le_iff.mpr (by simpa using h)

section
variable {prog : Program} {w : World} {A : Around} {env : Env} {B : Addr → Option Obj} {m : Vs}
theorem un_add {a b} : Op2 prog w A .Add (IsU a) (IsU b) (IsU (a + b)) := by
  have := @op_add prog w A a b; unfold IsU; rw [Int.natCast_add]; exact this
theorem un_and {a b} : Op2 prog w A .BitAnd (IsU a) (IsU b) (IsU (a &&& b)) := by
  have := @op_and prog w A a b; unfold IsU; rw [← bitAnd_nat]; exact this
theorem un_or {a b} : Op2 prog w A .BitOr (IsU a) (IsU b) (IsU (a ||| b)) := by
  have := @op_or prog w A a b; unfold IsU; rw [← bitOr_nat]; exact this
theorem un_xor {a b} : Op2 prog w A .BitXor (IsU a) (IsU b) (IsU (a ^^^ b)) := by
  have := @op_xor prog w A a b; unfold IsU; rw [← bitXor_nat]; exact this
theorem un_shl {a k K} (ha : a < 2 ^ K) (hK : K + k ≤ 2 ^ 27) : Op2 prog w A .LShift (IsU a) (IsU k) (IsU (a <<< k)) := by
  have := @op_shl prog w A a k (by omega) (by have := intBits_nat ha; omega); unfold IsU; rw [← shl_nat]; exact this
theorem un_shr {a k} : Op2 prog w A .RShift (IsU a) (IsU k) (IsU (a >>> k)) := by
  have := @op_shr prog w A a k (by omega); unfold IsU; rw [← shr_nat]; exact this
theorem un_mul {a k K J} (ha : a < 2 ^ K) (hk : k < 2 ^ J) (hK : K + J ≤ 134217728) : Op2 prog w A .Mult (IsU a) (IsU k) (IsU (a * k)) := by
  have := @op_mul prog w A a k (IntMulOk.of_le (intBits_nat ha) (intBits_nat hk) hK); unfold IsU; rw [Int.natCast_mul]; exact this
theorem ui_or {a b} : OpI prog w A .BitOr (IsU a) (IsU b) (IsU (a ||| b)) := by
  have := @oi_or prog w A a b; unfold IsU; rw [← bitOr_nat]; exact this
theorem ui_and {a b} : OpI prog w A .BitAnd (IsU a) (IsU b) (IsU (a &&& b)) := by
  have := @oi_and prog w A a b; unfold IsU; rw [← bitAnd_nat]; exact this
theorem ui_xor {a b} : OpI prog w A .BitXor (IsU a) (IsU b) (IsU (a ^^^ b)) := by
  have := @oi_xor prog w A a b; unfold IsU; rw [← bitXor_nat]; exact this
theorem ui_add {a b} : OpI prog w A .Add (IsU a) (IsU b) (IsU (a + b)) := by
  have := @oi_add prog w A a b; unfold IsU; rw [Int.natCast_add]; exact this
theorem Ev.nat {n : Nat} {k pos} : Ev prog w A env B m (.Constant (.int (n : Int)) k pos) (IsU n) := Ev.int
theorem cmp_neU {a b : Nat} : Cmp prog w A .NotEq (IsU a) (IsU b) (a != b) := by
  have := @cmp_neI prog w A a b
  have e : ((a : Int) != (b : Int)) = (a != b) := by
    rw [Bool.eq_iff_iff]; simp; omega
  rw [e] at this; exact this
theorem cmp_eqU {a b : Nat} : Cmp prog w A .Eq (IsU a) (IsU b) (a == b) := by
  have := @cmp_eqI prog w A a b
  have e : ((a : Int) == (b : Int)) = (a == b) := by
    rw [Bool.eq_iff_iff]; simp; omega
  rw [e] at this; exact this
end
end Mine
end

section
open PySem PySem.W PySem.Calls PyProof.Rows
set_option linter.unusedVariables false
namespace Mine

def LstB (B : Addr → Option Obj) (a : Addr) (items : Array Value) : Prop := ∃ o, B a = some o ∧ o.cls = .type "list" ∧ ∃ n, o.data = .seq items n
def TupB (B : Addr → Option Obj) (a : Addr) (items : Array Value) : Prop := ∃ o, B a = some o ∧ o.cls = .type "tuple" ∧ ∃ n, o.data = .seq items n
def RngB (B : Addr → Option Obj) (r : Addr) (a b : Int) : Prop := ∃ t u v, B r = some { cls := .type "range", dict := none, data := .fields #[.int a t, .int b u, .int 1 v], slots := #[] }
theorem LstB.get {B L h m a items} (F : Fm B L h m) (x : LstB B a items) : h.IsList a items := let ⟨o, ho, r⟩ := x; ⟨o, F.keep _ _ ho, r⟩
theorem TupB.get {B L h m a items} (F : Fm B L h m) (x : TupB B a items) : IsTup h a items := let ⟨o, ho, r⟩ := x; ⟨o, F.keep _ _ ho, r⟩
theorem LstB.mono {B B' a items} (x : LstB B a items) (hs : ∀ b o, B b = some o → B' b = some o) : LstB B' a items := let ⟨o, ho, r⟩ := x; ⟨o, hs _ _ ho, r⟩
theorem TupB.mono {B B' a items} (x : TupB B a items) (hs : ∀ b o, B b = some o → B' b = some o) : TupB B' a items := let ⟨o, ho, r⟩ := x; ⟨o, hs _ _ ho, r⟩
theorem RngB.mono {B B' r a b} (x : RngB B r a b) (hs : ∀ b o, B b = some o → B' b = some o) : RngB B' r a b := let ⟨t, u, v, ho⟩ := x; ⟨t, u, v, hs _ _ ho⟩

/-- what a for may walk: n things, the i-th as P says -/
def Iterable (prog : Program) (w : World) (A : Around) (B : Addr → Option Obj) (L : Addr) (v : Value) (n : Nat) (P : Nat → Value → Prop) : Prop :=
  ∀ {s₁ : Shared} {m : Vs} {Q : Value → Shared → Prop} {E : Value → Shared → Prop}, Fm B L s₁.heap m →
    (∀ It h₂ fp wr St, Ext s₁.heap h₂ → Walks prog w A It fp wr n P St → St 0 h₂ → (∀ b ∈ fp, b ≠ L) → (∀ b ∈ wr, s₁.heap.objs.size ≤ b) → (∀ b ∈ fp, b ∉ wr → ∃ o, B b = some o) → It ∈ wr →
      Q (.ref It) { s₁ with heap := h₂ }) → wpAny (model prog w) A (pyIter v) Q E s₁

section
variable {prog : Program} {w : World} {A : Around} {env : Env} {B : Addr → Option Obj} {m : Vs} {L : Addr}

theorem Iterable.lst {a items} (hh : A.handled = none) (x : LstB B a items) : Iterable prog w A B L (.ref a) items.size (fun i v => items[i]? = some v) := fun {s₁ _ _ _} F k => by
  have hl := x.get F
  obtain ⟨o, ho, _⟩ := id x
  have hlt : a < s₁.heap.objs.size := Heap.lt_size (F.keep _ _ ho)
  have hne : a ≠ s₁.heap.objs.size := Nat.ne_of_lt hlt
  refine wpAny_pyIter_list hl (k _ _ _ _ _ (fun _ _ e => Heap.get?_push_of_some _ e) (Walks.list hh s₁.heap.objs.size a hne items) ⟨⟨_, Heap.get?_push_size _ rfl, rfl, rfl⟩, hl.push _⟩ ?_ ?_ ?_ (.head _))
  · intro b hb
    rcases List.mem_cons.mp hb with rfl | hb
    · exact Nat.ne_of_gt F.lt
    · rw [List.mem_singleton.mp hb]; exact F.ne ho
  · intro b hb; rw [List.mem_singleton.mp hb]; exact Nat.le_refl _
  · intro b hb hn
    rcases List.mem_cons.mp hb with rfl | hb
    · exact absurd (.head _) hn
    · rw [List.mem_singleton.mp hb]; exact ⟨_, ho⟩
theorem Iterable.tup {a items} (hh : A.handled = none) (x : TupB B a items) : Iterable prog w A B L (.ref a) items.size (fun i v => items[i]? = some v) := fun {s₁ _ _ _} F k => by
  have hl := x.get F
  obtain ⟨o, ho, _⟩ := id x
  have hlt : a < s₁.heap.objs.size := Heap.lt_size (F.keep _ _ ho)
  have hne : a ≠ s₁.heap.objs.size := Nat.ne_of_lt hlt
  refine wpAny_pyIter_tuple hl (k _ _ _ _ _ (fun _ _ e => Heap.get?_push_of_some _ e) (Walks.tuple hh s₁.heap.objs.size a hne items) ⟨⟨_, Heap.get?_push_size _ rfl, rfl, rfl⟩, IsTup.push hl _⟩ ?_ ?_ ?_ (.head _))
  · intro b hb
    rcases List.mem_cons.mp hb with rfl | hb
    · exact Nat.ne_of_gt F.lt
    · rw [List.mem_singleton.mp hb]; exact F.ne ho
  · intro b hb; rw [List.mem_singleton.mp hb]; exact Nat.le_refl _
  · intro b hb hn
    rcases List.mem_cons.mp hb with rfl | hb
    · exact absurd (.head _) hn
    · rw [List.mem_singleton.mp hb]; exact ⟨_, ho⟩
theorem Iterable.rng {r} (hh : A.handled = none) {a b : Int} (ha : -(2 ^ 62) ≤ a) (ha' : a < 2 ^ 62) (hb : -(2 ^ 62) ≤ b) (hb' : b < 2 ^ 62) (x : RngB B r a b) :
    Iterable prog w A B L (.ref r) (b - a).toNat (fun i v => IsI (a + i) v) := fun {s₁ _ _ _} F k => by
  obtain ⟨t, u, v, ho⟩ := x
  have hsz : Builtin.Range.rangeSize a b 1 = ((b - a).toNat : Int) := by rw [rangeSize_one]; split <;> omega
  refine wpAny_pyIter_range (F.keep _ _ ho) (small_one ha ha' hb hb') ?_
  rw [hsz]
  have W := Walks.range (prog := prog) (w := w) hh s₁.heap.objs.size a 1 (b - a).toNat
  have W' : Walks prog w A s₁.heap.objs.size [s₁.heap.objs.size] [s₁.heap.objs.size] (b - a).toNat (fun i v => IsI (a + i) v) (fun i h => IsRangeIter h s₁.heap.objs.size (a + (i : Nat) * 1) (((b - a).toNat : Int) - (i : Nat)) 1) :=
    ⟨W.sub, W.frame, fun i s Q E hi st hQ => W.item i s Q E hi st fun v h' tk hv => hQ v h' tk (by
      obtain ⟨t, rfl⟩ := hv; exact ⟨t, by congr 1; omega⟩), W.done, W.self⟩
  refine k _ _ _ _ _ (fun _ _ e => Heap.get?_push_of_some _ e) W' ?_ ?_ ?_ ?_ (.head _)
  · have := Heap.get?_push_size (o := { cls := .type "range_iterator", data := .fields #[rawInt a, rawInt ((b - a).toNat : Int), rawInt 1] }) s₁.heap rfl
    simpa using this
  · intro b hb; rw [List.mem_singleton.mp hb]; exact Nat.ne_of_gt F.lt
  · intro b hb; rw [List.mem_singleton.mp hb]; exact Nat.le_refl _
  · intro b hb hn; exact absurd hb hn

theorem Iterable.mono {v : Value} {n n' : Nat} {P P' : Nat → Value → Prop} (h : Iterable prog w A B L v n P) (hn : n = n') (hP : ∀ i v, P i v → P' i v) : Iterable prog w A B L v n' P' := fun F k => by
  subst hn
  exact h F fun It h₂ fp wr St x W => k It h₂ fp wr St x ⟨W.sub, W.frame, fun i s Q E hi st hQ => W.item i s Q E hi st fun v h' tk hv => hQ v h' tk (hP i v hv), W.done, W.self⟩
theorem ex_for {x px iter body pos rest} {PI : Value → Prop} {n : Nat} {P : Nat → Value → Prop} {Q : Flow → Shared → Prop} {E : Value → Shared → Prop} {s : Shared}
    (F : Fm B env.locals s.heap m) (he : Ev prog w A env B m iter PI) (hit : ∀ v, PI v → Iterable prog w A B env.locals v n P)
    (X : List Addr) (I : Nat → Vs → Heap → Prop) (hXB : ∀ b ∈ X, B b = none) (hXh : ∀ b ∈ X, ∃ o, s.heap.get? b = some o) (hXL : ∀ b ∈ X, b ≠ env.locals)
    (hIx : ∀ i m h h', (∀ b ∈ X, ∀ o, h.get? b = some o → h'.get? b = some o) → I i m h → I i m h') (h0 : I 0 m s.heap)
    (turn : ∀ i B' m' h' tk v, (∀ b o, B b = some o → B' b = some o) → (∀ b ∈ X, B' b = none) → i < n → P i v → I i m' h' → Fm B' env.locals h' (upd m' x v) →
      wpAny (model prog w) A (execs body env) (fun f s₃ => (f = .next ∨ f = .cont) ∧ ∃ h₃ tk₃ m₃, s₃ = { s with heap := h₃, toks := tk₃ } ∧ Fm B' env.locals h₃ m₃ ∧ I (i + 1) m₃ h₃) (fun _ _ => False) { s with heap := h', toks := tk })
    (done : ∀ h' tk m', Fm B env.locals h' m' → I n m' h' → wpAny (model prog w) A (execs rest env) Q E { s with heap := h', toks := tk })
    (hx : env.kindOf x = some .local := by rfl) (hp : (env.scope.kind == .class || (env.scope.kind == .module && env.locals != env.globals)) = false := by rfl)
    (hs : ∀ x, foldedSetIterable iter env x = pure x := by intro _; rfl) :
    wpAny (model prog w) A (execs (.For (.Name x px) iter body [] pos :: rest) env) Q E s := by
  refine wpAny_execs_cons (wpAny_For (he F fun v h₁ tk₁ x₁ hv => hit v hv (s₁ := { s with heap := h₁, toks := tk₁ }) (F.stays x₁) fun It h₂ fp wr St x₂ W hst hfL hwr hfp hIt => ?_) hs)
  have F₂ := (F.stays x₁).stays x₂
  have wrB : ∀ b ∈ wr, B b = none := fun b hb => by
    cases e : B b with
    | none => rfl
    | some o => exact absurd (Heap.lt_size ((F.stays x₁).keep b o e)) (Nat.not_lt.mpr (hwr b hb))
  refine for_walk (R := fun r s' => match r with
      | .ok f => (match f with | .next => wpAny (model prog w) A (execs rest env) Q E s' | f => Q f s')
      | .error e => cameBackBy (model prog w) A env E e s') (s := { s with heap := h₂, toks := tk₁ }) W F₂ hst X I (fun q => (hfL _ q) rfl) wrB ?_ ?_ hXB ?_ hXL hIx ?_ turn done hx hp
  · intro b hb hn o e
    obtain ⟨o', e'⟩ := hfp b hb hn
    have := F₂.keep b o' e'
    rw [this] at e; cases e; exact e'
  · intro b hb hn
    obtain ⟨o', e'⟩ := hfp b hb hn
    rw [F₂.keep b o' e']; rfl
  · intro b hb hw
    obtain ⟨o, e⟩ := hXh b hb
    exact absurd (Heap.lt_size (x₁ _ _ e)) (Nat.not_lt.mpr (hwr b hw))
  · exact hIx 0 m s.heap h₂ (fun b _ o e => x₂ _ _ (x₁ _ _ e)) h0
end
end Mine
end

section
/-! plain: growing a set of bits -/
namespace Mine

def gs (c p s : Nat) : Nat := p ||| ((p <<< s ||| p >>> s) &&& c)
def gt (c : Nat) (ss : List Nat) (p : Nat) : Nat := ss.foldl (gs c) p

inductive Reach (c : Nat) (ss : List Nat) (p : Nat) : Nat → Prop where
  | base {i} : p.testBit i = true → Reach c ss p i
  | step {i j s} : Reach c ss p i → s ∈ ss → (j = i + s ∨ i = j + s) → c.testBit j = true → Reach c ss p j

theorem gs_bit (c p s i : Nat) : (gs c p s).testBit i = (p.testBit i || (((decide (s ≤ i) && p.testBit (i - s)) || p.testBit (i + s)) && c.testBit i)) := by
  unfold gs
  rw [Nat.testBit_or, Nat.testBit_and, Nat.testBit_or, Nat.testBit_shiftLeft, Nat.testBit_shiftRight, Nat.add_comm s i]
theorem gs_le (c p s : Nat) : p ≤ gs c p s := Nat.left_le_or
theorem gs_lt {c p s K : Nat} (hp : p < 2 ^ K) (hc : c < 2 ^ K) : gs c p s < 2 ^ K := Nat.or_lt_two_pow hp (Nat.and_lt_two_pow _ hc)
theorem gt_le (c : Nat) : ∀ (ss : List Nat) (p : Nat), p ≤ gt c ss p
  | [], p => Nat.le_refl _
  | s :: r, p => Nat.le_trans (gs_le c p s) (gt_le c r (gs c p s))
theorem gt_lt {c K : Nat} (hc : c < 2 ^ K) : ∀ (ss : List Nat) {p : Nat}, p < 2 ^ K → gt c ss p < 2 ^ K
  | [], _, hp => hp
  | s :: r, _, hp => gt_lt hc r (gs_lt hp hc)
theorem gs_sub {c p s i : Nat} (h : p.testBit i = true) : (gs c p s).testBit i = true := by rw [gs_bit, h]; rfl
theorem gt_sub {c : Nat} : ∀ (ss : List Nat) {p i : Nat}, p.testBit i = true → (gt c ss p).testBit i = true
  | [], _, _, h => h
  | s :: r, _, _, h => gt_sub r (gs_sub h)
theorem gs_reach {c p s x : Nat} {ss : List Nat} (hs : s ∈ ss) (h : ∀ i, x.testBit i = true → Reach c ss p i) : ∀ i, (gs c x s).testBit i = true → Reach c ss p i := by
  intro i hi
  rw [gs_bit] at hi
  simp only [Bool.or_eq_true, Bool.and_eq_true, decide_eq_true_eq] at hi
  rcases hi with hi | ⟨⟨hle, hi⟩ | hi, hc⟩
  · exact h i hi
  · exact .step (h _ hi) hs (.inl (by omega)) hc
  · exact .step (h _ hi) hs (.inr rfl) hc
theorem gt_reach {c p : Nat} {ss : List Nat} : ∀ (rs : List Nat) {x : Nat}, (∀ s ∈ rs, s ∈ ss) → (∀ i, x.testBit i = true → Reach c ss p i) → ∀ i, (gt c rs x).testBit i = true → Reach c ss p i
  | [], _, _, h => h
  | s :: r, _, hs, h => gt_reach r (fun t ht => hs t (.tail _ ht)) (gs_reach (hs s (.head _)) h)
theorem gt_fixed {c : Nat} : ∀ (ss : List Nat) {q : Nat}, gt c ss q = q → ∀ s ∈ ss, gs c q s = q
  | [], _, _, _, hs => nomatch hs
  | t :: r, q, h, s, hs => by
    have h1 : q ≤ gs c q t := gs_le c q t
    have h2 : gs c q t ≤ gt c r (gs c q t) := gt_le c r _
    have h3 : gt c r (gs c q t) = q := h
    have e : gs c q t = q := by omega
    rcases List.mem_cons.mp hs with rfl | hs
    · exact e
    · rw [e] at h3; exact gt_fixed r h3 s hs
theorem grown_iff {c p q : Nat} {ss : List Nat} (hp : ∀ i, p.testBit i = true → q.testBit i = true) (hr : ∀ i, q.testBit i = true → Reach c ss p i) (hf : gt c ss q = q) :
    ∀ i, q.testBit i = true ↔ Reach c ss p i := fun i => ⟨hr i, fun h => by
  induction h with
  | base h => exact hp _ h
  | step _ hs hj hc ih =>
    rw [← gt_fixed ss hf _ hs, gs_bit]
    rcases hj with rfl | rfl
    · simp [ih, hc]
    · simp [ih, hc]⟩
theorem gt_zero (c : Nat) : ∀ ss, gt c ss 0 = 0
  | [] => rfl
  | s :: r => by show gt c r (gs c 0 s) = 0; have : gs c 0 s = 0 := by simp [gs]
                 rw [this]; exact gt_zero c r
end Mine
namespace Mine
/-- the lowest bit -/
def low (c : Nat) : Nat := c - (c &&& (c - 1))
theorem low_odd (k : Nat) : low (2 * k + 1) = 1 := by
  unfold low
  have : (2 * k + 1) &&& (2 * k) = 2 * k := by
    apply Nat.eq_of_testBit_eq; intro i
    cases i with
    | zero => simp
    | succ i => rw [Nat.testBit_and, Nat.testBit_succ, Nat.testBit_succ, show (2 * k + 1) / 2 = k by omega, show 2 * k / 2 = k by omega]; simp
  simp only [Nat.add_sub_cancel]; rw [this]; omega
theorem low_even (k : Nat) (hk : 0 < k) : low (2 * k) = 2 * low k := by
  unfold low
  have : (2 * k) &&& (2 * k - 1) = 2 * (k &&& (k - 1)) := by
    apply Nat.eq_of_testBit_eq; intro i
    cases i with
    | zero => simp
    | succ i => rw [Nat.testBit_and, Nat.testBit_succ, Nat.testBit_succ, Nat.testBit_succ, show (2 * k - 1) / 2 = k - 1 by omega, show 2 * k / 2 = k by omega, show 2 * (k &&& (k - 1)) / 2 = k &&& (k - 1) by omega, Nat.testBit_and]
  rw [this]; omega
theorem low_bit : ∀ c : Nat, c ≠ 0 → ∃ i, low c = 2 ^ i ∧ c.testBit i = true := by
  intro c
  induction c using Nat.strongRecOn with
  | ind c ih =>
    intro hc
    rcases Nat.mod_two_eq_zero_or_one c with h | h
    · obtain ⟨k, rfl⟩ : ∃ k, c = 2 * k := ⟨c / 2, by omega⟩
      obtain ⟨i, h1, h2⟩ := ih k (by omega) (by omega)
      refine ⟨i + 1, ?_, ?_⟩
      · rw [low_even k (by omega), h1, Nat.pow_succ, Nat.mul_comm]
      · rw [Nat.testBit_succ]; simpa using h2
    · obtain ⟨k, rfl⟩ : ∃ k, c = 2 * k + 1 := ⟨c / 2, by omega⟩
      exact ⟨0, by rw [low_odd], by simp⟩

inductive PiecesIs (ss : List Nat) : Nat → Nat → Prop where
  | zero : PiecesIs ss 0 0
  | step {c q i n} : c.testBit i = true → (∀ j, q.testBit j = true ↔ Reach c ss (2 ^ i) j) → PiecesIs ss (c ^^^ q) n → PiecesIs ss c (n + 1)
theorem Reach.sub {c p : Nat} {ss : List Nat} (hp : ∀ i, p.testBit i = true → c.testBit i = true) {j : Nat} (h : Reach c ss p j) : c.testBit j = true := by
  cases h with
  | base h => exact hp _ h
  | step _ _ _ hc => exact hc
theorem xor_lt_of_sub {c q i : Nat} (hs : ∀ j, q.testBit j = true → c.testBit j = true) (hq : q.testBit i = true) : c ^^^ q < c := by
  have e : c &&& q = q := by
    apply Nat.eq_of_testBit_eq; intro j
    rw [Nat.testBit_and]
    cases h : q.testBit j with
    | false => simp
    | true => simp [hs j h]
  have hq0 : q ≠ 0 := by rintro rfl; simp at hq
  have e2 : (c ^^^ q) &&& q = 0 := by
    apply Nat.eq_of_testBit_eq; intro j
    simp only [Nat.testBit_and, Nat.testBit_xor, Nat.zero_testBit]
    cases h : q.testBit j with
    | false => simp
    | true => simp [hs j h]
  have e3 : (c ^^^ q) ^^^ q = c := by
    apply Nat.eq_of_testBit_eq; intro j
    simp only [Nat.testBit_xor]
    cases c.testBit j <;> cases q.testBit j <;> rfl
  by_cases hlt : c ^^^ q < c
  · exact hlt
  · exfalso
    -- c ||| nothing: c = (c ^^^ q) ||| q
    have e4 : c = (c ^^^ q) ||| q := by
      apply Nat.eq_of_testBit_eq; intro j
      simp only [Nat.testBit_xor, Nat.testBit_or]
      cases h : q.testBit j with
      | false => simp
      | true => simp [hs j h]
    have h1 : c ^^^ q ≤ (c ^^^ q) ||| q := Nat.left_le_or
    have h2 : c ^^^ q = c := by omega
    have h3 := congrArg (fun x => Nat.testBit x i) h2
    simp only [Nat.testBit_xor, hq, hs i hq] at h3
    simp at h3
end Mine
end

section
open PySem PySem.W PySem.Calls PyProof.Rows
set_option linter.unusedVariables false
set_option maxRecDepth 100000
namespace Mine

def TupU (h : Heap) (a : Addr) (ss : List Nat) : Prop := ∃ items : Array Value, IsTup h a items ∧ items.size = ss.length ∧ ∀ (i : Nat) (v : Value), items[i]? = some v → ∃ s : Nat, ss[i]? = some s ∧ IsU s v
theorem TupU.keeps {h h' a ss} (x : TupU h a ss) (k : Ext h h') : TupU h' a ss := let ⟨i, h1, r⟩ := x; ⟨i, h1.keeps k, r⟩
def grownPre (p c : Nat) (ss : List Nat) (h : Heap) (vs : List Value) : Prop :=
  ∃ (v₁ v₂ : Value) (a : Addr), vs = [v₁, v₂, .ref a] ∧ IsU p v₁ ∧ IsU c v₂ ∧ TupU h a ss
def grownPost (p c : Nat) (ss : List Nat) (_ : List Value) (_ _ : Heap) (v : Value) : Prop := ∃ q : Nat, IsU q v ∧ q < 2 ^ 200 ∧ ∀ i, q.testBit i = true ↔ Reach c ss p i

theorem grown_spec {prog : Program} {w : World} {mg mb : Vs} {p c : Nat} {ss : List Nat} (hp : p < 2 ^ 200) (hc : c < 2 ^ 200) (hs : ∀ s ∈ ss, s ≤ 1000) :
    Spec prog w mg mb (Str.ofString "_law_grown") 1 (grownPre p c ss) (grownPost p c ss) := by
  refine Spec.intro _ rfl rfl rfl rfl rfl rfl (fun vs => (["piece", "cells", "steps"] : List PySem.Str).zip vs) ?_ ?_ ?_
  · rintro h vals pm cd doc ⟨v₁, v₂, a, rfl, _⟩
    rfl
  · rintro h vals ⟨v₁, v₂, a, rfl, _⟩
    exact locs rfl
  · rintro A s vals f cd h₁ hA G ⟨v₁, v₂, a, rfl, hv₁, hv₂, items, ht, hsz, hit⟩ F
    dsimp only [itemOf]
    refine ex_let F (Ev.nat (n := 0)) fun vb h' tk hvb F' hk => ?_
    refine ex_while (fun n m h => ∃ b q : Nat, ∃ u₁ u₂, m "before" = some u₁ ∧ IsU b u₁ ∧ m "piece" = some u₂ ∧ IsU q u₂ ∧ m "cells" = some v₂ ∧ m "steps" = some (.ref a) ∧
      (q = gt c ss b ∨ b = 0 ∧ q = p) ∧ (∀ i, p.testBit i = true → q.testBit i = true) ∧ (∀ i, q.testBit i = true → Reach c ss p i) ∧ b ≤ q ∧ q < 2 ^ 200 ∧ n = 2 ^ 200 - b) F' (2 ^ 200)
      ⟨0, p, vb, v₁, rfl, hvb, rfl, hv₁, rfl, rfl, .inr ⟨rfl, rfl⟩, fun _ h => h, fun _ h => .base h, Nat.zero_le _, hp, rfl⟩ ?_
    rintro n m h ⟨b, q, u₁, u₂, m1, hu₁, m2, hu₂, m3, m4, hq, hpq, hr, hbq, hq2, rfl⟩ F₁
    refine ⟨b != q, EvT.cmp (Ev.name m1 hu₁) (Ev.name m2 hu₂) cmp_neU, fun hne h₁ tk₁ x₁ F₂ => ?_, fun he h₁ tk₁ x₁ F₂ => ?_⟩
    · have hbq' : b < q := by have : b ≠ q := by simpa using hne
                              omega
      refine ex_let F₂ (Ev.name m2 hu₂) fun u₃ h₂ tk₂ hu₃ F₃ _ => ?_
      refine ex_for F₃ (PI := IsR a) (n := ss.length) (P := fun i v => ∃ s : Nat, ss[i]? = some s ∧ IsU s v) ?he ?hit []
        (fun i m' _ => ∃ u, m' "before" = some u₃ ∧ m' "piece" = some u ∧ IsU (gt c (ss.take i) q) u ∧ m' "cells" = some v₂ ∧ m' "steps" = some (.ref a)) (by simp) (by simp) (by simp) (fun _ _ _ _ _ x => x)
        ⟨u₂, rfl, m2, hu₂, m3, m4⟩ ?turn ?done
      case he => exact Ev.name (by exact m4) IsR.mk
      case hit =>
        rintro v rfl
        refine Iterable.mono (Iterable.tup (A := A.deeper _) hA.1 ht) hsz (fun i v h => hit i v h)
      case turn =>
        rintro i B' m' h'' tk' v hB _ hi ⟨st, hst, hv⟩ ⟨u, e1, e2, e3, e4, e5⟩ F₄
        have hx : gt c (ss.take i) q < 2 ^ 200 := gt_lt hc _ hq2
        have hst1 : st ≤ 1000 := hs st (List.mem_of_getElem? hst)
        refine ex_aug F₄ (v₀ := u) e2 e3 (Ev.bin (Ev.bin (Ev.bin (Ev.name (by exact e2) e3) (Ev.name rfl hv) (un_shl hx (by omega))) (Ev.bin (Ev.name (by exact e2) e3) (Ev.name rfl hv) un_shr) un_or) (Ev.name (by exact e4) hv₂) un_and) ui_or fun v' h₃ tk₃ hv' F₅ _ => ?_
        refine ex_nil ⟨.inl rfl, h₃, tk₃, _, rfl, F₅, v', e1, rfl, ?_, e4, e5⟩
        have ht : ss.take (i + 1) = ss.take i ++ [st] := by rw [List.take_add_one, hst]; rfl
        rw [ht]
        simpa [gt, gs, List.foldl_append] using hv'
      case done =>
        intro h' tk' m' F₄ ⟨u, e1, e2, e3, e4, e5⟩
        refine ex_nil ⟨.inl rfl, 2 ^ 200 - q, m', h', tk', by omega, rfl, F₄, q, gt c ss q, u₃, u, e1, hu₃, e2, by simpa using e3, e4, e5, .inl rfl, ?_, ?_, gt_le _ _ _, gt_lt hc _ hq2, rfl⟩
        · exact fun i hi => gt_sub _ (hpq i hi)
        · exact gt_reach ss (fun _ h => h) hr
    · have e : b = q := by simpa using he
      subst e
      have hfix : gt c ss b = b := by
        rcases hq with e | ⟨rfl, _⟩
        · exact e.symm
        · exact gt_zero c ss
      refine ex_ret F₂ (Ev.name m2 hu₂) fun v h' tk' x hv => ⟨h', tk', rfl, ?_, b, hv, hq2, grown_iff hpq hr hfix⟩
      exact fun b' o' e' => x _ _ (F₂.keep b' o' e')
end Mine
end

section
open PySem PySem.W PySem.Calls PyProof.Rows
set_option linter.unusedVariables false
set_option maxRecDepth 100000
namespace Mine

theorem low_int (c : Nat) (hc : c ≠ 0) : Builtin.bitAnd (c : Int) (-(c : Int)) = ((low c : Nat) : Int) := by
  rw [bitAnd_pn (by omega) (by omega)]
  have e : (Builtin.bitNot (-(c : Int))).toNat = c - 1 := by unfold Builtin.bitNot; omega
  rw [e]
  unfold low
  have : c &&& (c - 1) ≤ c := Nat.and_le_left
  simp only [Int.toNat_natCast]
  omega

section
variable {prog : Program} {w : World} {A : Around} {env : Env} {B : Addr → Option Obj} {m : Vs}
theorem un_low {c : Nat} (hc : c ≠ 0) : Op2 prog w A .BitAnd (IsU c) (IsI (-(c : Int))) (IsU (low c)) := by
  have := @op_and prog w A c (-(c : Int)); unfold IsU; rw [← low_int c hc]; exact this
theorem OpI.ex {op} {P₁ : Value → Prop} {R : Nat → Prop} {P' : Nat → Value → Prop} (h : ∀ q, R q → OpI prog w A op P₁ (IsU q) (P' q)) :
    OpI prog w A op P₁ (fun v => ∃ q, IsU q v ∧ R q) (fun v => ∃ q, R q ∧ P' q v) := fun v₁ v₂ h₁ ⟨q, hq, hr⟩ => fun k => h q hr v₁ v₂ h₁ hq fun v tk hv => k v tk ⟨q, hr, hv⟩
theorem EvT.nat {e} {i : Nat} (hx : Ev prog w A env B m e (IsU i))
    (he : isTrue e env (eval e env) = (do let v ← eval e env; standAt e.pos; holding [v] (truthy v)) := by rfl) : EvT prog w A env B m e (i != 0) := by
  have h : EvT prog w A env B m e ((i : Int) != 0) := EvT.int hx he
  have q : ((i : Int) != 0) = (i != 0) := by rw [Bool.eq_iff_iff]; simp
  rw [q] at h; exact @h
end

theorem pow_lt_of_bit {c i K : Nat} (hc : c < 2 ^ K) (h : c.testBit i = true) : 2 ^ i < 2 ^ K := by
  have h1 := Nat.ge_two_pow_of_testBit h
  omega

def piecesPre (c : Nat) (ss : List Nat) (h : Heap) (vs : List Value) : Prop := ∃ (v₁ : Value) (a : Addr), vs = [v₁, .ref a] ∧ IsU c v₁ ∧ TupU h a ss
def piecesPost (c : Nat) (ss : List Nat) (_ : List Value) (_ _ : Heap) (v : Value) : Prop := ∃ n : Nat, IsU n v ∧ PiecesIs ss c n

theorem pieces_spec {prog : Program} {w : World} {mg mb : Vs} {c : Nat} {ss : List Nat} (hc : c < 2 ^ 200) (hs : ∀ s ∈ ss, s ≤ 1000) :
    Spec prog w mg mb (Str.ofString "_law_pieces") 2 (piecesPre c ss) (piecesPost c ss) := by
  refine Spec.intro _ rfl rfl rfl rfl rfl rfl (fun vs => (["cells", "steps"] : List PySem.Str).zip vs) ?_ ?_ ?_
  · rintro h vals pm cd doc ⟨v₁, a, rfl, _⟩
    rfl
  · rintro h vals ⟨v₁, a, rfl, _⟩
    exact locs rfl
  · rintro A s vals f cd h₁ hA G ⟨v₁, a, rfl, hv₁, ht⟩ F
    dsimp only [itemOf]
    have GB := G.gb
    refine ex_let F (Ev.nat (n := 0)) fun vb h' tk hvb F' hk => ?_
    refine ex_while (fun n m h => ∃ k : Nat, ∃ u₁ u₂, m "cells" = some u₁ ∧ IsU n u₁ ∧ m "pieces" = some u₂ ∧ IsU k u₂ ∧ m "steps" = some (.ref a) ∧
      n < 2 ^ 200 ∧ ∀ j, PiecesIs ss n j → PiecesIs ss c (k + j)) F' c
      ⟨0, v₁, vb, rfl, hv₁, rfl, hvb, rfl, hc, fun j h => by simpa using h⟩ ?_
    rintro n m h ⟨k, u₁, u₂, m1, hu₁, m2, hu₂, m3, hn, hj⟩ F₁
    refine ⟨n != 0, EvT.nat (Ev.name m1 hu₁), fun hne h₁ tk₁ x₁ F₂ => ?_, fun he h₁ tk₁ x₁ F₂ => ?_⟩
    · have hn0 : n ≠ 0 := by simpa using hne
      obtain ⟨i, hlow, hbit⟩ := low_bit n hn0
      have hlt := pow_lt_of_bit hn hbit
      refine ex_aug F₂ m1 hu₁ (P₂ := fun v => ∃ q, IsU q v ∧ (q < 2 ^ 200 ∧ ∀ j, q.testBit j = true ↔ Reach n ss (2 ^ i) j))
        (EvO.callD (grown_spec (p := 2 ^ i) (c := n) (ss := ss) hlt hn hs) hA.deeper rfl rfl GB
          (EvL.consV (Ev.bin (Ev.name (by exact m1) hu₁) (Ev.un (Ev.name (by exact m1) hu₁) op_neg) (un_low hn0)) (EvL.consV (Ev.name (by exact m1) hu₁) (EvL.consV (Ev.name (by exact m3) (IsR.mk (a := a))) EvL.nil)))
          (fun h vs hv F => by
            obtain ⟨v, vs', rfl, e1, v₂, vs₂, rfl, e2, v₃, vs₃, rfl, e3, rfl⟩ := hv
            cases e3
            rw [hlow] at e1
            exact ⟨v, v₂, a, rfl, e1, e2, ht.keeps F.keep⟩)
          (fun h h' vs v _ _ _ hp => hp))
        (OpI.ex fun q hq => ui_xor) fun v h₂ tk₂ hv F₃ _ => ?_
      obtain ⟨q, ⟨hq, hr⟩, hv⟩ := hv
      refine ex_aug F₃ (v₀ := u₂) m2 hu₂ (Ev.nat (n := 1)) ui_add fun v' h₃ tk₃ hv' F₄ _ => ?_
      have hsub : ∀ j, q.testBit j = true → n.testBit j = true := fun j hj => Reach.sub (fun i' hi' => by
        rw [Nat.testBit_two_pow] at hi'
        have : i = i' := by simpa using hi'
        rw [← this]; exact hbit) ((hr j).mp hj)
      have hqi : q.testBit i = true := (hr i).mpr (.base (by rw [Nat.testBit_two_pow]; simp))
      refine ex_nil ⟨.inl rfl, n ^^^ q, _, h₃, tk₃, xor_lt_of_sub hsub hqi, rfl, F₄, k + 1, v, v', rfl, hv, rfl, hv', m3, Nat.lt_trans (xor_lt_of_sub hsub hqi) hn, fun j h => ?_⟩
      have := hj (j + 1) (.step hbit hr h)
      rwa [show k + 1 + j = k + (j + 1) by omega]
    · have e : n = 0 := by simpa using he
      subst e
      exact ex_ret F₂ (Ev.name m2 hu₂) fun v h' tk' x hv => ⟨h', tk', rfl, fun b' o' e' => x _ _ (F₂.keep b' o' e'), k, hv, by simpa using hj 0 .zero⟩
end Mine
end

section
open PySem PySem.W PySem.Calls PyProof.Rows
set_option linter.unusedVariables false
set_option maxRecDepth 100000
namespace Mine
theorem bt_len : bootBuiltins (Str.ofString "len") = some (.builtin "len") := by decide +kernel
theorem bt_range : bootBuiltins (Str.ofString "range") = some (.type "range") := by decide +kernel
theorem bt_sum : bootBuiltins (Str.ofString "sum") = some (.builtin "sum") := by decide +kernel
theorem bt_iter : bootBuiltins (Str.ofString "iter") = some (.builtin "iter") := by decide +kernel
theorem bt_next : bootBuiltins (Str.ofString "next") = some (.builtin "next") := by decide +kernel
theorem bt_map : bootBuiltins (Str.ofString "map") = some (.type "map") := by decide +kernel
theorem bt_float : bootBuiltins (Str.ofString "float") = some (.type "float") := by decide +kernel
theorem bt_abs : bootBuiltins (Str.ofString "abs") = some (.builtin "abs") := by decide +kernel
theorem bt_int : bootBuiltins (Str.ofString "int") = some (.type "int") := by decide +kernel
theorem bt_bool : bootBuiltins (Str.ofString "bool") = some (.type "bool") := by decide +kernel
theorem bt_isinstance : bootBuiltins (Str.ofString "isinstance") = some (.builtin "isinstance") := by decide +kernel

section
variable {prog : Program} {w : World} {A : Around} {env : Env} {B : Addr → Option Obj} {m mg mb : Vs} {L : Addr}

theorem Ev.subL {o i : Expr} {pos : Pos} {a : Addr} {items : Array Value} {k : Int} {v : Value} {P : Value → Prop} (ho : Ev prog w A env B m o (IsR a)) (hi : Ev prog w A env B m i (IsI k))
    (hl : LstB B a items) (h0 : 0 ≤ k) (hfit : k < 2 ^ 63) (hx : items[k.toNat]? = some v) (hP : P v)
    (hs : ∀ t, subscripted i false (.ref a) (.int k t) = operate [.ref a, .int k t] (getItem (.ref a) (.int k t)) := by intro _; with_unfolding_all rfl) :
    Ev prog w A env B m (.Subscript o i pos) P := fun F h =>
  Subscript_ (ho F fun v₁ _ _ x₁ h₁ => hi (F.stays x₁) fun v₂ h₂ tk x₂ e₂ => by
    cases h₁; obtain ⟨t, rfl⟩ := e₂
    have hl' := hl.get ((F.stays x₁).stays x₂)
    exact tail_any hl'.typeIs slot_list_getitem.lookup (wpAny_getItem_list hl' h0 hfit hx (h _ _ _ (x₁.trans x₂) hP)) (hs t))
theorem Ev.subT {o i : Expr} {pos : Pos} {a : Addr} {items : Array Value} {k : Int} {v : Value} {P : Value → Prop} (ho : Ev prog w A env B m o (IsR a)) (hi : Ev prog w A env B m i (IsI k))
    (hl : TupB B a items) (h0 : 0 ≤ k) (hfit : k < 2 ^ 63) (hx : items[k.toNat]? = some v) (hP : P v)
    (hs : ∀ t, subscripted i false (.ref a) (.int k t) = operate [.ref a, .int k t] (getItem (.ref a) (.int k t)) := by intro _; with_unfolding_all rfl) :
    Ev prog w A env B m (.Subscript o i pos) P := fun F h =>
  Subscript_ (ho F fun v₁ _ _ x₁ h₁ => hi (F.stays x₁) fun v₂ h₂ tk x₂ e₂ => by
    cases h₁; obtain ⟨t, rfl⟩ := e₂
    have hl' : IsTup h₂ a items.toList.toArray := by simpa using hl.get ((F.stays x₁).stays x₂)
    have hlen : k.toNat < items.size := by
      have := Array.getElem?_eq_some_iff.mp hx; exact this.1
    refine item_tupleT (j := k.toNat) hl' (by omega) hfit ?_ (by simpa using hx) (h _ _ _ (x₁.trans x₂) hP) (hs t)
    unfold seqIndex?
    simp only [Array.length_toList]
    split <;> simp_all <;> omega)

theorem EvO.len {fpos pos : Pos} {e : Expr} {a : Addr} {items : Array Value} (G : GB mg mb B) (he : Ev prog w A env B m e (IsR a)) (hl : LstB B a items) (hfit : items.size < 2 ^ 60)
    (hg : env.globals = mainGlobals := by rfl) (hb : env.builtins = builtinsNs := by rfl) (hk : env.scope.kind = .function := by rfl) (hx : env.kindOf (Str.ofString "len") = some .globalImplicit := by rfl)
    (he' : eval (.Call (.Name (Str.ofString "len") fpos) [e] [] pos) env = (do callWith pos (← eval (.Name (Str.ofString "len") fpos) env) [] (backTo pos (starEach [e] env)) (backToKw pos (keywordEach [] env))) := by rfl)
    (hs : starEach [e] env = (false, eval e env) :: starEach [] env := by rfl) :
    Ev prog w A env B m (.Call (.Name (Str.ofString "len") fpos) [e] [] pos) (IsU items.size) :=
  EvO.callB G (by decide) bt_len (EvL.consV he EvL.nil hs) (fun vs s hv F {_ _} k => by
    obtain ⟨v, vs', rfl, e1, rfl⟩ := hv
    cases e1
    exact len_list (hl.get F) (by omega) (k _ _ _ (.refl _) ⟨_, rfl⟩)) hg hb hk hx (by decide) he' hs rfl

/-- a range object at r, from a to b -/
def IsRng (a b : Int) (h : Heap) (v : Value) : Prop := ∃ r t u x, v = .ref r ∧ h.get? r = some { cls := .type "range", dict := none, data := .fields #[.int a t, .int b u, .int 1 x], slots := #[] }
theorem EvO.range1 {fpos pos : Pos} {e : Expr} {n : Int} (G : GB mg mb B) (he : Ev prog w A env B m e (IsI n))
    (hg : env.globals = mainGlobals := by rfl) (hb : env.builtins = builtinsNs := by rfl) (hk : env.scope.kind = .function := by rfl) (hx : env.kindOf (Str.ofString "range") = some .globalImplicit := by rfl)
    (he' : eval (.Call (.Name (Str.ofString "range") fpos) [e] [] pos) env = (do callWith pos (← eval (.Name (Str.ofString "range") fpos) env) [] (backTo pos (starEach [e] env)) (backToKw pos (keywordEach [] env))) := by rfl)
    (hs : starEach [e] env = (false, eval e env) :: starEach [] env := by rfl) :
    EvO prog w A env B m (.Call (.Name (Str.ofString "range") fpos) [e] [] pos) (IsRng 0 n) :=
  EvO.callT G (by decide) bt_range (EvL.consV he EvL.nil hs) (fun vs s hv F {_ _} k => by
    obtain ⟨v, vs', rfl, e1, rfl⟩ := hv
    obtain ⟨t, rfl⟩ := e1
    exact call_range_1 (k _ _ _ (fun _ _ e => Heap.get?_push_of_some _ e) ⟨_, _, _, _, rfl, Heap.get?_push_size _ rfl⟩)) hg hb hk hx (by decide) he' hs rfl
theorem EvO.range2 {fpos pos : Pos} {e e₂ : Expr} {a n : Int} (G : GB mg mb B) (he : Ev prog w A env B m e (IsI a)) (he₂ : Ev prog w A env B m e₂ (IsI n))
    (hg : env.globals = mainGlobals := by rfl) (hb : env.builtins = builtinsNs := by rfl) (hk : env.scope.kind = .function := by rfl) (hx : env.kindOf (Str.ofString "range") = some .globalImplicit := by rfl)
    (he' : eval (.Call (.Name (Str.ofString "range") fpos) [e, e₂] [] pos) env = (do callWith pos (← eval (.Name (Str.ofString "range") fpos) env) [] (backTo pos (starEach [e, e₂] env)) (backToKw pos (keywordEach [] env))) := by rfl)
    (hs : starEach [e, e₂] env = (false, eval e env) :: starEach [e₂] env := by rfl) (hs₂ : starEach [e₂] env = (false, eval e₂ env) :: starEach [] env := by rfl) (hp : (backTo pos (starEach [e₂] env)).any (·.1) = false := by rfl) :
    EvO prog w A env B m (.Call (.Name (Str.ofString "range") fpos) [e, e₂] [] pos) (IsRng a n) :=
  EvO.callT G (by decide) bt_range (EvL.consV he (EvL.consV he₂ EvL.nil hs₂) hs) (fun vs s hv F {_ _} k => by
    obtain ⟨v, vs', rfl, e1, v', vs'', rfl, e2, rfl⟩ := hv
    obtain ⟨t, rfl⟩ := e1
    obtain ⟨t', rfl⟩ := e2
    exact call_range_2 (k _ _ _ (fun _ _ e => Heap.get?_push_of_some _ e) ⟨_, _, _, _, rfl, Heap.get?_push_size _ rfl⟩)) hg hb hk hx (by decide) he' hs hp

/-- the iterator of a range: what it gives next, what is left -/
def RIt (h : Heap) (it : Addr) (x left : Int) : Prop := IsRangeIter h it x left 1
def IsRIt (x left : Int) (h : Heap) (v : Value) : Prop := ∃ it, v = .ref it ∧ RIt h it x left
theorem EvO.iterRng {fpos pos : Pos} {e : Expr} {r : Addr} {a b : Int} (G : GB mg mb B) (he : Ev prog w A env B m e (IsR r)) (hr : RngB B r a b)
    (ha : -(2 ^ 62) ≤ a) (ha' : a < 2 ^ 62) (hb : -(2 ^ 62) ≤ b) (hb' : b < 2 ^ 62)
    (hg : env.globals = mainGlobals := by rfl) (hbn : env.builtins = builtinsNs := by rfl) (hk : env.scope.kind = .function := by rfl) (hx : env.kindOf (Str.ofString "iter") = some .globalImplicit := by rfl)
    (he' : eval (.Call (.Name (Str.ofString "iter") fpos) [e] [] pos) env = (do callWith pos (← eval (.Name (Str.ofString "iter") fpos) env) [] (backTo pos (starEach [e] env)) (backToKw pos (keywordEach [] env))) := by rfl)
    (hs : starEach [e] env = (false, eval e env) :: starEach [] env := by rfl) :
    EvO prog w A env B m (.Call (.Name (Str.ofString "iter") fpos) [e] [] pos) (fun h v => ∃ it, v = .ref it ∧ RIt h it a ((b - a).toNat : Int) ∧ B it = none ∧ it ≠ env.locals) :=
  EvO.callB G (by decide) bt_iter (EvL.consV he EvL.nil hs) (fun vs s hv F {_ _} k => by
    obtain ⟨v, vs', rfl, e1, rfl⟩ := hv
    cases e1
    obtain ⟨t, u, x, ho⟩ := hr
    have hsz : Builtin.Range.rangeSize a b 1 = ((b - a).toNat : Int) := by rw [rangeSize_one]; split <;> omega
    refine call_function_entry (by decide +kernel) (by decide +kernel) kdk_entry_iter (kdk_args_iter _) ?_
    unfold Builtin.«iter»
    refine wpAny_bind (m := someArgs "iter" 1 2 _) (wpAny_of_eq (a := [Value.ref r]) (by first | rfl | kernel_rfl!) ?_)
    show wpAny _ _ (pyIter (.ref r) >>= _) _ _ _
    refine wpAny_bind (wpAny_pyIter_range (F.keep _ _ ho) (small_one ha ha' hb hb') ?_)
    refine wpAny_pure ⟨_, rfl, k _ _ _ (fun _ _ e => Heap.get?_push_of_some _ e) ⟨_, rfl, ?_, ?_, Nat.ne_of_gt F.lt⟩⟩
    · rw [← hsz]; exact Heap.get?_push_size _ rfl
    · cases e : B s.heap.objs.size with
      | none => rfl
      | some o => exact absurd (Heap.lt_size (F.keep _ _ e)) (Nat.lt_irrefl _)) hg hbn hk hx (by decide) he' hs rfl

theorem ex_expr {e pos rest} {Q : Flow → Shared → Prop} {E s} (h : wpAny (model prog w) A (eval e env) (fun v s' => (match v with | .ref _ => False | _ => True) ∧ wpAny (model prog w) A (execs rest env) Q E s') E s)
    (hi : interactive env = false := by rfl) (hs : swapsWith e none pos.line env = pure false := by rfl) :
    wpAny (model prog w) A (execs (.Expr e pos :: rest) env) Q E s :=
  wpAny_execs_cons (wpAny_Expr (wpAny_mono h (fun v s' h' => by
    obtain ⟨h1, h2⟩ := h'
    cases v <;> first | exact h1.elim | exact h2) fun _ _ x => x) hi hs)

/-- an exhausted range iterator stays as it is -/
theorem rit_end {s : Shared} {it : Addr} {x left : Int} {Q : Option Value → Shared → Prop} {E : Value → Shared → Prop} (hh : A.handled = none) (hit : RIt s.heap it x left) (hleft : left ≤ 0)
    (hQ : ∀ h', Ext s.heap h' → Q none { s with heap := h' }) : wpAny (model prog w) A (pyNext (.ref it)) Q E s := by
  have hT : s.TypeIs (.ref it) "range_iterator" := ⟨_, hit, rfl⟩
  unfold pyNext
  refine wpAny_bind (wpAny_attempt (wpAny_callSpecial?_slot (name := Str.ofString "__next__") hT PySem.F.slot_range_iterator_next
    (wpAny_call_entry PySem.F.slot_range_iterator_next hT PySem.F.entry_range_iterator_next ?_ (PySem.F.args_range_iterator_next_1 _))))
  show wpAny _ _ (field (.ref it) 0 >>= _) _ _ s
  refine wpAny_bind (wpAny_field hit rfl (x := rawInt x) rfl ?_)
  show wpAny _ _ (field (.ref it) 1 >>= _) _ _ s
  refine wpAny_bind (wpAny_field hit rfl (x := rawInt left) rfl ?_)
  show wpAny _ _ (field (.ref it) 2 >>= _) _ _ s
  refine wpAny_bind (wpAny_field hit rfl (x := rawInt 1) rfl ?_)
  show wpAny _ _ (if left ≤ 0 then _ else _) _ _ s
  rw [if_pos hleft]
  refine wpAny_bind (wpAny_rule (wpAny_bind ?_))
  show wpAny _ _ (newExc (.type "StopIteration") [] >>= _) _ _ _
  simp only [newExc, newTuple]
  refine wpAny_bind (wpAny_bind (wpAny_newObj_type ?_ (by size_fits)))
  refine wpAny_bind (m := firstArgMember _ _) (wpAny_of_eq (a := Value.none) (by first | rfl | (simp only [firstArgMember]; rfl)) (wpAny_newObj_type ?_ (by size_fits)))
  simp only [raiseNew]
  refine wpAny_bind (wpAny_handled ?_)
  first | rw [show A.in1.handled = none from hh] | rw [hh]
  refine wpAny_bind (wpAny_pure (wpAny_throw ?_))
  refine wpAny_bind (wpAny_isInstance (T := "StopIteration") (b := true) ⟨_, Heap.get?_push_size _ rfl, rfl⟩ isSubtype_stop ?_)
  exact wpAny_pure (hQ _ fun _ _ e => Heap.get?_push_of_some _ (Heap.get?_push_of_some _ e))

theorem call_next2 {s : Shared} {it : Addr} {x left : Int} {Q : Value → Shared → Prop} {E : Value → Shared → Prop} (hh : A.handled = none) (hit : RIt s.heap it x left)
    (hQ : ∀ v h' tk, (match v with | .ref _ => False | _ => True) → RIt h' it (if 0 < left then x + 1 else x) (if 0 < left then left - 1 else left) → (∀ b o, b ≠ it → s.heap.get? b = some o → h'.get? b = some o) → Q v { s with heap := h', toks := tk }) :
    wpAny (model prog w) A (call (.builtin "next") [.ref it, .none]) Q E s := by
  refine call_function_entry (by decide +kernel) (by decide +kernel) kdk_entry_next (kdk_args_next2 _ _) ?_
  unfold Builtin.«next»
  refine wpAny_bind (m := someArgs "next" 1 2 _) (wpAny_of_eq (a := [Value.ref it, .none]) (by first | rfl | kernel_rfl!) ?_)
  dsimp only
  refine wpAny_bind (wpAny_specialOf (name := Str.ofString "__next__") (T := "range_iterator") ⟨_, hit, rfl⟩ PySem.F.slot_range_iterator_next.lookup ?_)
  refine wpAny_ite_split (fun hab => absurd hab (by decide)) (fun _ => ?_)
  by_cases hle : 0 < left
  · refine wpAny_bind (wpAny_pyNext_range_item hit hle fun h' hit' hsb => ?_)
    exact wpAny_pure ⟨_, rfl, hQ _ _ _ trivial (by rw [if_pos hle, if_pos hle]; exact hit') fun b o n e => (hsb.2 b n).trans e⟩
  · refine wpAny_bind (rit_end hh hit (by omega) fun h' x₃ => ?_)
    exact wpAny_pure ⟨_, rfl, hQ _ _ _ trivial (by rw [if_neg hle, if_neg hle]; exact x₃ _ _ hit) fun b o n e => x₃ _ _ e⟩

/-- next(it, None) as a statement -/
theorem ex_next {fpos pos cpos p₁ p₂ k₂ rest it x} {Q : Flow → Shared → Prop} {E s} {x₀ left : Int} (hh : A.handled = none) (G : GB mg mb B) (F : Fm B env.locals s.heap m) (hm : m x = some (.ref it)) (hit : RIt s.heap it x₀ left) (hB : B it = none) (hL : it ≠ env.locals)
    (kk : ∀ h' tk, Fm B env.locals h' m → RIt h' it (if 0 < left then x₀ + 1 else x₀) (if 0 < left then left - 1 else left) → (∀ b o, b ≠ it → s.heap.get? b = some o → h'.get? b = some o) → wpAny (model prog w) A (execs rest env) Q E { s with heap := h', toks := tk })
    (hk : env.scope.kind = .function := by rfl) (hl : env.kindOf x = some .local := by rfl) (hd' : (x == ("__debug__" : PySem.Str)) = false := by decide)
    (hg : env.globals = mainGlobals := by rfl) (hbn : env.builtins = builtinsNs := by rfl) (hx : env.kindOf (Str.ofString "next") = some .globalImplicit := by rfl)
    (hi : interactive env = false := by rfl) (hs : swapsWith (.Call (.Name (Str.ofString "next") fpos) [.Name x p₁, .Constant .none k₂ p₂] [] cpos) none pos.line env = pure false := by rfl)
    (he' : eval (.Call (.Name (Str.ofString "next") fpos) [.Name x p₁, .Constant .none k₂ p₂] [] cpos) env = (do callWith cpos (← eval (.Name (Str.ofString "next") fpos) env) [] (backTo cpos (starEach [.Name x p₁, .Constant .none k₂ p₂] env)) (backToKw cpos (keywordEach [] env))) := by rfl)
    (hs₁ : starEach [.Name x p₁, .Constant .none k₂ p₂] env = (false, eval (.Name x p₁) env) :: starEach [.Constant .none k₂ p₂] env := by rfl)
    (hs₂ : starEach [.Constant .none k₂ p₂] env = (false, eval (.Constant .none k₂ p₂) env) :: starEach [] env := by rfl)
    (hp₂ : (backTo cpos (starEach [.Constant .none k₂ p₂] env)).any (·.1) = false := by rfl) :
    wpAny (model prog w) A (execs (.Expr (.Call (.Name (Str.ofString "next") fpos) [.Name x p₁, .Constant .none k₂ p₂] [] cpos) pos :: rest) env) Q E s := by
  refine ex_expr (Call_ (Ev.bi (v := .builtin "next") G (by decide) bt_next hg hbn hk hx (by decide) F fun f h₁ tk₁ x₁ hf => ?_) he') hi hs
  cases hf
  have ha : EvL prog w A env B m [.Name x p₁, .Constant .none k₂ p₂] (fun h vs => ∃ v vs', vs = v :: vs' ∧ IsR it v ∧ ∃ v' vs'', vs' = v' :: vs'' ∧ IsN v' ∧ vs'' = []) := EvL.consV (Ev.name hm IsR.mk hk hl hd') (EvL.consV Ev.nonec EvL.nil hs₂) hs₁
  refine callWith_builtin1 (ha (F.stays x₁) fun vs h₂ tk₂ x₂ hv => ?_) hs₁ hp₂
  obtain ⟨v, vs', rfl, e1, v', vs'', rfl, e2, rfl⟩ := hv
  cases e1; cases e2
  have F₂ := (F.stays x₁).stays x₂
  refine call_next2 hh (x₂ _ _ (x₁ _ _ hit) : RIt h₂ it x₀ left) fun v h' tk hv hit' hk => ⟨hv, kk _ _ ⟨?_, ?_, F.off⟩ hit' fun b o n e => hk b o n (x₂ _ _ (x₁ _ _ e))⟩
  · exact F₂.ns.at' fun o e => hk _ o (Ne.symm hL) e
  · exact fun b o e => hk b o (fun q => by rw [q, hB] at e; cases e) (F₂.keep b o e)

/-- a for over a range's iterator that the turn may draw from -/
theorem ex_for_rit {x px iter body pos rest} {Q : Flow → Shared → Prop} {E : Value → Shared → Prop} {s : Shared} {it : Addr} {n : Nat} {a : Int} (hh : A.handled = none)
    (F : Fm B env.locals s.heap m) (he : Ev prog w A env B m iter (IsR it)) (hit : RIt s.heap it a (n : Int)) (hB : B it = none) (hL : it ≠ env.locals)
    (I : Nat → Vs → Heap → Prop) (hIx : ∀ i m h h', I i m h → I i m h') (h0 : I 0 m s.heap)
    (turn : ∀ j m' h' tk v, j < n → IsI (a + j) v → I j m' h' → Fm B env.locals h' (upd m' x v) → RIt h' it (a + (j + 1 : Nat)) ((n : Int) - (j + 1 : Nat)) →
      wpAny (model prog w) A (execs body env) (fun f s₃ => (f = .next ∨ f = .cont) ∧ ∃ h₃ tk₃ m₃ j', s₃ = { s with heap := h₃, toks := tk₃ } ∧ Fm B env.locals h₃ m₃ ∧ j < j' ∧ j' ≤ n ∧ RIt h₃ it (a + (j' : Nat)) ((n : Int) - (j' : Nat)) ∧ I j' m₃ h₃) (fun _ _ => False) { s with heap := h', toks := tk })
    (done : ∀ h' tk m', Fm B env.locals h' m' → I n m' h' → wpAny (model prog w) A (execs rest env) Q E { s with heap := h', toks := tk })
    (hx : env.kindOf x = some .local := by rfl) (hp : (env.scope.kind == .class || (env.scope.kind == .module && env.locals != env.globals)) = false := by rfl)
    (hs : ∀ x, foldedSetIterable iter env x = pure x := by intro _; rfl) :
    wpAny (model prog w) A (execs (.For (.Name x px) iter body [] pos :: rest) env) Q E s := by
  refine wpAny_execs_cons (wpAny_For (he F fun v h₁ tk₁ x₁ hv => ?_) hs)
  cases hv
  refine wpAny_pyIter_rangeiter (s := { s with heap := h₁, toks := tk₁ }) (x₁ _ _ hit) ?_
  refine codeAny_forLoop_any (R := fun r s' => match r with
      | .ok f => (match f with | .next => wpAny (model prog w) A (execs rest env) Q E s' | f => Q f s')
      | .error e => cameBackBy (model prog w) A env E e s')
    (fun k s' => ∃ h' tk m' j, s' = { s with heap := h', toks := tk } ∧ Fm B env.locals h' m' ∧ RIt h' it (a + (j : Nat)) ((n : Int) - (j : Nat)) ∧ I j m' h' ∧ j ≤ n ∧ k = n + 1 - j) ?_ (n + 1)
    ⟨h₁, tk₁, m, 0, rfl, F.stays x₁, by simpa [RIt] using x₁ _ _ hit, hIx _ _ _ _ h0, Nat.zero_le _, rfl⟩
  rintro k s' ⟨h', tk, m', j, rfl, F', hit', hI, hj, rfl⟩
  by_cases hlt : j < n
  · refine wpAny_pyNext_range_item hit' (by omega) fun h₂ hit₂ hsb => ?_
    refine wpAny_of_eq (a := ()) rfl ?_
    have F₂ : Fm B env.locals h₂ m' := ⟨F'.ns.sameBut hsb (Ne.symm hL), fun b o e => (hsb.2 b (fun q => by rw [q, hB] at e; cases e)).trans (F'.keep b o e), F'.off⟩
    refine wpAny_assign_Name (wpAny_storeName_local hx F₂.ns (fun h₃ hn₃ hs₃ => ?_) hp)
    have hit₃ : RIt h₃ it (a + (j + 1 : Nat)) ((n : Int) - (j + 1 : Nat)) := by
      have e1 : a + ((j + 1 : Nat) : Int) = a + (j : Int) + 1 := by push_cast; omega
      have e2 : (n : Int) - ((j + 1 : Nat) : Int) = (n : Int) - (j : Int) - 1 := by push_cast; omega
      rw [e1, e2]; exact (hs₃.2 it hL).trans hit₂
    refine wpAny_noRaise (wpAny_mono (turn j m' h₃ _ _ hlt ⟨_, rfl⟩ (hIx _ _ _ _ hI) (F₂.set hn₃ hs₃) hit₃) (fun f s₃ h => ?_) fun _ _ x => x)
    obtain ⟨hf, h₄, tk₄, m₄, j', rfl, F₄, hj1, hj2, hit₄, hI₄⟩ := h
    rcases hf with rfl | rfl <;> exact ⟨n + 1 - j', by omega, h₄, tk₄, m₄, j', rfl, F₄, hit₄, hI₄, hj2, rfl⟩
  · have : j = n := by omega
    subst this
    refine rit_end hh hit' (by omega) fun h₂ x₂ => ex_nil ?_
    exact done h₂ _ m' (F'.stays x₂) (hIx _ _ _ _ hI)
end
end Mine
end

section
open PySem PySem.W PySem.Calls PyProof.Rows
set_option linter.unusedVariables false
set_option maxRecDepth 100000
namespace Mine

theorem IsB.mk {b : Bool} : IsB b (.bool b) := rfl
/-- the i-th row's j-th cell -/
def cell (M : List (List Bool)) (i j : Nat) : Bool := (M.getD i []).getD j false
def Sq (M : List (List Bool)) (n : Nat) : Prop := M.length = n ∧ ∀ i, i < n → (M.getD i []).length = n
def RowsB (B : Addr → Option Obj) (a : Addr) (M : List (List Bool)) : Prop :=
  ∃ as : List Addr, LstB B a ((as.map Value.ref).toArray) ∧ as.length = M.length ∧ ∀ i ai, as[i]? = some ai → LstB B ai (((M.getD i []).map Value.bool).toArray)
theorem RowsB.mono {B B' a M} (x : RowsB B a M) (hs : ∀ b o, B b = some o → B' b = some o) : RowsB B' a M := let ⟨as, h1, h2, h3⟩ := x; ⟨as, h1.mono hs, h2, fun i ai e => (h3 i ai e).mono hs⟩
theorem RowsB.row {B a M} (x : RowsB B a M) {i : Nat} (hi : i < M.length) : ∃ as : List Addr, ∃ ai, LstB B a ((as.map Value.ref).toArray) ∧ as.length = M.length ∧ ((as.map Value.ref).toArray)[i]? = some (.ref ai) ∧ LstB B ai (((M.getD i []).map Value.bool).toArray) := by
  obtain ⟨as, h1, h2, h3⟩ := x
  have hi' : i < as.length := by omega
  exact ⟨as, as[i], h1, h2, by simp [hi'], h3 i _ (by simp [hi'])⟩
theorem row_item {M : List (List Bool)} {i j : Nat} (hj : j < (M.getD i []).length) : (((M.getD i []).map Value.bool).toArray)[j]? = some (.bool (cell M i j)) := by
  unfold cell
  simp only [List.getElem?_toArray, List.getElem?_map, List.getD_eq_getElem?_getD]
  rw [List.getD_eq_getElem?_getD] at hj
  rw [List.getElem?_eq_getElem hj]; rfl

theorem Ns_ne {h : Heap} {L r : Addr} {m : Vs} {o : Obj} (hn : h.Ns L m) (ho : h.get? r = some o) (hd : ∀ es ep, o.data ≠ .dict es ep) : r ≠ L := by
  rintro rfl
  obtain ⟨o', es, ep, h1, h2, _⟩ := hn
  rw [ho] at h1; cases h1
  exact hd _ _ h2
theorem addB_mono {B : Addr → Option Obj} {L : Addr} {h : Heap} {m : Vs} {r : Addr} {o : Obj} (F : Fm B L h m) (hr : h.get? r = some o) : ∀ b o', B b = some o' → addB B r o b = some o' := fun b o' e => by
  unfold addB; split
  · rename_i q; subst q; rw [F.keep _ _ e] at hr; exact hr.symm
  · exact e
theorem Fm.stored {B : Addr → Option Obj} {L : Addr} {h h₃ h₄ : Heap} {m m' : Vs} {r : Addr} {o : Obj} (F : Fm B L h m) (x₃ : Ext h h₃) (F₄ : Fm B L h₄ m') (hsb : Heap.SameBut L h₃ h₄) (hr : h₃.get? r = some o)
    (hd : ∀ es ep, o.data ≠ .dict es ep) : Fm (addB B r o) L h₄ m' ∧ (∀ b o', B b = some o' → addB B r o b = some o') :=
  have hne : r ≠ L := Ns_ne (F.stays x₃).ns hr hd
  have hr4 : h₄.get? r = some o := (hsb.2 r hne).trans hr
  ⟨F₄.know hr4 hne, addB_mono F₄ hr4⟩

def sumN (f : Nat → Nat) : Nat → Nat
  | 0 => 0
  | k + 1 => sumN f k + f k

section
variable {prog : Program} {w : World} {A : Around} {env : Env} {B : Addr → Option Obj} {m mg mb : Vs} {L : Addr}
theorem ex_cont {pos rest} {Q : Flow → Shared → Prop} {E s} (h : Q .cont s) : wpAny (model prog w) A (execs (.Continue pos :: rest) env) Q E s := wpAny_execs_cons (wpAny_Continue h)

/-- modules[e] -/
theorem Ev.row {o i : Expr} {pos : Pos} {a : Addr} {M : List (List Bool)} {k : Int} {j : Nat} (R : RowsB B a M) (ho : Ev prog w A env B m o (IsR a)) (hi : Ev prog w A env B m i (IsI k)) (hk : k = (j : Int)) (hj : j < M.length) (hb : M.length < 2 ^ 60)
    (hs : ∀ t, subscripted i false (.ref a) (.int k t) = operate [.ref a, .int k t] (getItem (.ref a) (.int k t)) := by intro _; with_unfolding_all rfl) :
    Ev prog w A env B m (.Subscript o i pos) (fun v => ∃ ai, v = .ref ai ∧ LstB B ai (((M.getD j []).map Value.bool).toArray)) := by
  obtain ⟨as, ai, h1, h2, h3, h4⟩ := R.row hj
  subst hk
  exact Ev.subL ho hi h1 (by omega) (by omega) (by simpa using h3) ⟨ai, rfl, h4⟩ hs
/-- this_row[e] -/
theorem Ev.cellOf {o i : Expr} {pos : Pos} {ai : Addr} {M : List (List Bool)} {r : Nat} {k : Int} {j : Nat} (hl : LstB B ai (((M.getD r []).map Value.bool).toArray)) (ho : Ev prog w A env B m o (IsR ai)) (hi : Ev prog w A env B m i (IsI k))
    (hk : k = (j : Int)) (hj : j < (M.getD r []).length) (hb : (M.getD r []).length < 2 ^ 60)
    (hs : ∀ t, subscripted i false (.ref ai) (.int k t) = operate [.ref ai, .int k t] (getItem (.ref ai) (.int k t)) := by intro _; with_unfolding_all rfl) :
    Ev prog w A env B m (.Subscript o i pos) (IsB (cell M r j)) := by
  subst hk
  exact Ev.subL (v := .bool (cell M r j)) ho hi hl (by omega) (by omega) (by simpa using row_item hj) IsB.mk hs
/-- modules[e][e'] -/
theorem Ev.cell2 {o i i' : Expr} {pos pos' : Pos} {a : Addr} {M : List (List Bool)} {k k' : Int} {r j : Nat} (R : RowsB B a M) (ho : Ev prog w A env B m o (IsR a)) (hi : Ev prog w A env B m i (IsI k)) (hi' : Ev prog w A env B m i' (IsI k'))
    (hk : k = (r : Int)) (hk' : k' = (j : Int)) (hr : r < M.length) (hb : M.length < 2 ^ 60) (hj : j < (M.getD r []).length) (hb' : (M.getD r []).length < 2 ^ 60)
    (hs : ∀ t, subscripted i false (.ref a) (.int k t) = operate [.ref a, .int k t] (getItem (.ref a) (.int k t)) := by intro _; with_unfolding_all rfl)
    (hs' : ∀ a t, subscripted i' false (.ref a) (.int k' t) = operate [.ref a, .int k' t] (getItem (.ref a) (.int k' t)) := by intro _ _; with_unfolding_all rfl) :
    Ev prog w A env B m (.Subscript (.Subscript o i pos) i' pos') (IsB (cell M r j)) := by
  obtain ⟨as, ai, h1, h2, h3, h4⟩ := R.row hr
  subst hk
  have hrow : Ev prog w A env B m (.Subscript o i pos) (IsR ai) := Ev.subL (v := .ref ai) ho hi h1 (by omega) (by omega) (by simpa using h3) IsR.mk hs
  intro Q E s F k
  exact Ev.cellOf h4 hrow hi' hk' hj hb' (hs' ai) F k
/-- this_row[col + k], as a test -/
theorem EvT.cellAt {x y : PySem.Str} {q1 q2 q3 q4 q5 : Pos} {ai : Addr} {M : List (List Bool)} {i j : Nat} {wv : Value} (k : Nat) (hl : LstB B ai (((M.getD i []).map Value.bool).toArray)) (hx : m x = some (.ref ai)) (hy : m y = some wv) (hw : IsU j wv)
    (hj : j + k < (M.getD i []).length) (hb : (M.getD i []).length < 2 ^ 60)
    (hk : env.scope.kind = .function := by rfl) (h1 : env.kindOf x = some .local := by rfl) (h2 : env.kindOf y = some .local := by rfl)
    (hd1 : (x == ("__debug__" : PySem.Str)) = false := by decide) (hd2 : (y == ("__debug__" : PySem.Str)) = false := by decide) :
    EvT prog w A env B m (.Subscript (.Name x q1) (.BinOp (.Name y q2) .Add (.Constant (.int (k : Int)) 0 q3) q4) q5) (cell M i (j + k)) :=
  EvT.bool (Ev.cellOf (j := j + k) hl (Ev.name hx IsR.mk hk h1 hd1) (Ev.bin (Ev.name hy hw hk h2 hd2) Ev.int op_add) (by push_cast; rfl) hj hb)
/-- modules[row + k][col], as a test -/
theorem EvT.cellAt' {x y z : PySem.Str} {q1 q2 q3 q4 q5 q6 q7 : Pos} {a : Addr} {M : List (List Bool)} {c j : Nat} {wv wc : Value} (k : Nat) (R : RowsB B a M) (hx : m x = some (.ref a)) (hy : m y = some wv) (hw : IsU j wv) (hz : m z = some wc) (hc : IsU c wc)
    (hj : j + k < M.length) (hb : M.length < 2 ^ 60) (hj' : c < (M.getD (j + k) []).length) (hb' : (M.getD (j + k) []).length < 2 ^ 60)
    (hk : env.scope.kind = .function := by rfl) (h1 : env.kindOf x = some .local := by rfl) (h2 : env.kindOf y = some .local := by rfl) (h3 : env.kindOf z = some .local := by rfl)
    (hd1 : (x == ("__debug__" : PySem.Str)) = false := by decide) (hd2 : (y == ("__debug__" : PySem.Str)) = false := by decide) (hd3 : (z == ("__debug__" : PySem.Str)) = false := by decide) :
    EvT prog w A env B m (.Subscript (.Subscript (.Name x q1) (.BinOp (.Name y q2) .Add (.Constant (.int (k : Int)) 0 q3) q4) q5) (.Name z q6) q7) (cell M (j + k) c) :=
  EvT.bool (Ev.cell2 (r := j + k) (j := c) R (Ev.name hx IsR.mk hk h1 hd1) (Ev.bin (Ev.name hy hw hk h2 hd2) Ev.int op_add) (Ev.name hz hc hk h3 hd3) (by push_cast; rfl) rfl hj hb hj' hb')
end
end Mine
end

section
open PySem PySem.W PySem.Calls PyProof.Rows
set_option linter.unusedVariables false
set_option maxRecDepth 100000
namespace Mine

def s2 (M : List (List Bool)) (i c : Nat) : Nat := if cell M i (c + 1) = cell M (i + 1) (c + 1) ∧ cell M i (c + 1) = cell M i c ∧ cell M i (c + 1) = cell M (i + 1) c then 1 else 0
def figPre (M : List (List Bool)) (n : Nat) (h : Heap) (vs : List Value) : Prop := ∃ (a : Addr) (v : Value), vs = [.ref a, v] ∧ IsU n v ∧ RowsB h.get? a M
def natPost (k : Nat) (_ : List Value) (_ _ : Heap) (v : Value) : Prop := IsU k v
def lvl2 (M : List (List Bool)) (n : Nat) : Nat := 3 * sumN (fun i => sumN (s2 M i) (n - 1)) (n - 1)

theorem level2_spec {prog : Program} {w : World} {mg mb : Vs} {M : List (List Bool)} {n : Nat} (hM : Sq M n) (hn : 1 ≤ n) (hn' : n ≤ 11) :
    Spec prog w mg mb (Str.ofString "_lost_point_level2") 2 (figPre M n) (natPost (lvl2 M n)) := by
  refine Spec.intro _ rfl rfl rfl rfl rfl rfl (fun vs => (["modules", "modules_count"] : List PySem.Str).zip vs) ?_ ?_ ?_
  · rintro h vals pm cd doc ⟨a, v, rfl, _⟩
    rfl
  · rintro h vals ⟨a, v, rfl, _⟩
    exact locs rfl
  · rintro A s vals f cd h₁ hA G ⟨a, vn, rfl, hvn, hR⟩ F
    dsimp only [itemOf]
    have GB := G.gb
    obtain ⟨hM1, hM2⟩ := hM
    refine ex_let F (Ev.nat (n := 0)) fun vb h₂ tk₂ hvb F₂ _ => ?_
    refine ex_assign F₂ (EvO.range1 GB (n := (n : Int) - 1) (Ev.bin (Ev.name (v := vn) rfl hvn) Ev.int op_sub)) fun vr h₃ h₄ tk₄ x₃ hvr F₄ hsb => ?_
    obtain ⟨r, t, u, x, rfl, hr⟩ := hvr
    obtain ⟨F₅, hB⟩ := F₂.stored x₃ F₄ hsb hr (by intro _ _ e; cases e)
    have hrB : RngB (addB s.heap.get? r _) r 0 ((n : Int) - 1) := ⟨t, u, x, addB_same⟩
    have GB₅ := GB.mono hB
    have hR₅ := hR.mono hB
    generalize addB s.heap.get? r _ = B at F₅ hrB GB₅ hR₅ hB
    refine ex_for F₅ (PI := IsR r) (n := n - 1) (P := fun i v => IsU i v) ?he ?hit []
        (fun i m' _ => ∃ u, m' "modules" = some (.ref a) ∧ m' "modules_range" = some (.ref r) ∧ m' "lost_point" = some u ∧ IsU (3 * sumN (fun i => sumN (s2 M i) (n - 1)) i) u) (by simp) (by simp) (by simp) (fun _ _ _ _ _ x => x)
        ⟨vb, rfl, rfl, rfl, hvb⟩ ?turn ?done
    case he => exact Ev.name (v := .ref r) (by rfl) IsR.mk
    case hit =>
      rintro v rfl
      refine Iterable.mono (Iterable.rng (A := A.deeper _) hA.1 (by omega) (by omega) (by omega) (by omega) hrB) (by omega) (fun i v h => ?_)
      unfold IsU; rw [Int.zero_add] at h; exact h
    case turn =>
      rintro i B' m' h'' tk' v hBB' _ hi hv ⟨u, e1, e2, e3, hu⟩ F₆
      have GB₆ := GB₅.mono hBB'
      have hR₆ := hR₅.mono hBB'
      have hrow : i < M.length := by omega
      have hrow' : i + 1 < M.length := by omega
      have hl1 : (M.getD i []).length = n := hM2 i (by omega)
      have hl2 : (M.getD (i + 1) []).length = n := hM2 (i + 1) (by omega)
      refine ex_let F₆ (Ev.row hR₆ (Ev.name (by exact e1) IsR.mk) (Ev.name (v := v) rfl hv) rfl hrow (by omega)) fun v₁ h₇ tk₇ hv₁ F₇ _ => ?_
      obtain ⟨a₁, rfl, hl₁⟩ := hv₁
      refine ex_let F₇ (Ev.row (j := i + 1) hR₆ (Ev.name (by exact e1) IsR.mk) (Ev.bin (Ev.name (v := v) rfl hv) Ev.int op_add) (by push_cast; rfl) hrow' (by omega)) fun v₂ h₈ tk₈ hv₂ F₈ _ => ?_
      obtain ⟨a₂, rfl, hl₂⟩ := hv₂
      refine ex_assign F₈ (EvO.iterRng GB₆ (Ev.name (by exact e2) IsR.mk) (hrB.mono hBB') (by omega) (by omega) (by omega) (by omega)) fun v₃ h₉ h₁₀ tk₁₀ x₉ hv₃ F₁₀ hsb₁₀ => ?_
      obtain ⟨it, rfl, hit, hitB, hitL⟩ := hv₃
      have hit₁₀ : RIt h₁₀ it 0 ((n - 1 : Nat) : Int) := by
        have : ((n : Int) - 1 - 0).toNat = n - 1 := by omega
        rw [this] at hit
        exact (hsb₁₀.2 it hitL).trans hit
      refine ex_for_rit (A := A.deeper _) hA.1 F₁₀ (Ev.name (v := .ref it) (by rfl) IsR.mk) hit₁₀ hitB hitL
        (fun j m' _ => ∃ u, m' "modules" = some (.ref a) ∧ m' "modules_range" = some (.ref r) ∧ m' "this_row" = some (.ref a₁) ∧ m' "next_row" = some (.ref a₂) ∧ m' "modules_range_iter" = some (.ref it) ∧ m' "lost_point" = some u ∧ IsU (3 * (sumN (fun i => sumN (s2 M i) (n - 1)) i + sumN (s2 M i) j)) u)
        (fun _ _ _ _ x => x) ⟨u, e1, e2, rfl, rfl, rfl, e3, by simpa [sumN] using hu⟩ ?turn2 ?done2
      case turn2 =>
        rintro j m₁ h₁₁ tk₁₁ w₁ hj hw₁ ⟨u₁, g1, g2, g3, g4, g5, g6, hu₁⟩ F₁₁ hit₁₁
        rw [Int.zero_add] at hw₁
        refine ex_let F₁₁ (Ev.cellOf (j := j + 1) hl₁ (Ev.name (by exact g3) IsR.mk) (Ev.bin (Ev.name (v := w₁) rfl hw₁) Ev.int op_add) (by push_cast; rfl) (by omega) (by omega)) fun v₄ h₁₂ tk₁₂ hv₄ F₁₂ kp₁₂ => ?_
        have hit₁₂ := kp₁₂ _ _ hitL hit₁₁
        refine ex_if F₁₂ (EvT.cmp (Ev.name (v := v₄) rfl hv₄) (Ev.cellOf (j := j + 1) hl₂ (Ev.name (by exact g4) IsR.mk) (Ev.bin (Ev.name (v := w₁) rfl hw₁) Ev.int op_add) (by push_cast; rfl) (by omega) (by omega)) cmp_neB) (fun hb h₁₃ tk₁₃ x₁₃ F₁₃ => ?_) (fun hb h₁₃ tk₁₃ x₁₃ F₁₃ => ?_)
        · have hne : ¬ cell M i (j + 1) = cell M (i + 1) (j + 1) := by simpa using hb
          refine ex_next (A := A.deeper _) hA.1 GB₆ F₁₃ (by exact g5) (x₁₃ _ _ hit₁₂) hitB hitL fun h₁₄ tk₁₄ F₁₄ hit₁₄ _ => ?_
          have hz : s2 M i j = 0 := if_neg fun q => hne q.1
          refine ex_nil (ex_nil ⟨.inl rfl, h₁₄, tk₁₄, _, if j + 1 < n - 1 then j + 2 else j + 1, rfl, F₁₄, by split <;> omega, by split <;> omega, ?_, u₁, g1, g2, g3, g4, g5, g6, ?_⟩)
          · by_cases hlt : j + 1 < n - 1
            · rw [if_pos (by omega), if_pos (by omega)] at hit₁₄
              rw [if_pos hlt]
              have e1 : (0 : Int) + ((j + 2 : Nat) : Int) = 0 + ((j + 1 : Nat) : Int) + 1 := by omega
              have e2 : ((n - 1 : Nat) : Int) - ((j + 2 : Nat) : Int) = ((n - 1 : Nat) : Int) - ((j + 1 : Nat) : Int) - 1 := by omega
              rw [e1, e2]; exact hit₁₄
            · rw [if_neg (by omega), if_neg (by omega)] at hit₁₄
              rw [if_neg hlt]; exact hit₁₄
          · have hz' : s2 M i (j + 1) = 0 := if_neg fun q => hne (q.2.1.symm.trans q.2.2)
            split
            · show IsU (3 * (_ + (sumN (s2 M i) j + s2 M i j + s2 M i (j + 1)))) u₁
              rw [hz, hz']; simpa using hu₁
            · show IsU (3 * (_ + (sumN (s2 M i) j + s2 M i j))) u₁
              rw [hz]; simpa using hu₁
        · have heq : cell M i (j + 1) = cell M (i + 1) (j + 1) := by simpa using hb
          have hit₁₃ := x₁₃ _ _ hit₁₂
          refine ex_if F₁₃ (EvT.cmp (Ev.name (v := v₄) rfl hv₄) (Ev.cellOf (j := j) hl₁ (Ev.name (by exact g3) IsR.mk) (Ev.name (v := w₁) rfl hw₁) rfl (by omega) (by omega)) cmp_neB) (fun hb₂ h₁₄ tk₁₄ x₁₄ F₁₄ => ?_) (fun hb₂ h₁₄ tk₁₄ x₁₄ F₁₄ => ?_)
          · have hz : s2 M i j = 0 := if_neg fun q => by simp [q.2.1] at hb₂
            refine ex_cont ⟨.inr rfl, h₁₄, tk₁₄, _, j + 1, rfl, F₁₄, by omega, by omega, x₁₄ _ _ hit₁₃, u₁, g1, g2, g3, g4, g5, g6, ?_⟩
            show IsU (3 * (_ + (sumN (s2 M i) j + s2 M i j))) u₁
            rw [hz]; simpa using hu₁
          · refine ex_if F₁₄ (EvT.cmp (Ev.name (v := v₄) rfl hv₄) (Ev.cellOf (j := j) hl₂ (Ev.name (by exact g4) IsR.mk) (Ev.name (v := w₁) rfl hw₁) rfl (by omega) (by omega)) cmp_neB) (fun hb₃ h₁₅ tk₁₅ x₁₅ F₁₅ => ?_) (fun hb₃ h₁₅ tk₁₅ x₁₅ F₁₅ => ?_)
            · have hz : s2 M i j = 0 := if_neg fun q => by simp [q.2.2] at hb₃
              refine ex_cont ⟨.inr rfl, h₁₅, tk₁₅, _, j + 1, rfl, F₁₅, by omega, by omega, x₁₅ _ _ (x₁₄ _ _ hit₁₃), u₁, g1, g2, g3, g4, g5, g6, ?_⟩
              show IsU (3 * (_ + (sumN (s2 M i) j + s2 M i j))) u₁
              rw [hz]; simpa using hu₁
            · have hz : s2 M i j = 1 := if_pos ⟨heq, by simpa using hb₂, by simpa using hb₃⟩
              refine ex_aug F₁₅ (v₀ := u₁) g6 hu₁ (Ev.nat (n := 3)) ui_add fun v₆ h₁₆ tk₁₆ hv₆ F₁₆ kp₁₆ => ?_
              refine ex_nil (ex_nil (ex_nil (ex_nil ⟨.inl rfl, h₁₆, tk₁₆, _, j + 1, rfl, F₁₆, by omega, by omega, kp₁₆ _ _ hitL (x₁₅ _ _ (x₁₄ _ _ hit₁₃)), v₆, g1, g2, g3, g4, g5, rfl, ?_⟩)))
              show IsU (3 * (_ + (sumN (s2 M i) j + s2 M i j))) v₆
              rw [hz]
              have e : 3 * (sumN (fun i => sumN (s2 M i) (n - 1)) i + (sumN (s2 M i) j + 1)) = 3 * (sumN (fun i => sumN (s2 M i) (n - 1)) i + sumN (s2 M i) j) + 3 := by omega
              rw [e]; exact hv₆
      case done2 =>
        rintro h₁₁ tk₁₁ m₁ F₁₁ ⟨u₁, g1, g2, g3, g4, g5, g6, hu₁⟩
        exact ex_nil ⟨.inl rfl, h₁₁, tk₁₁, m₁, rfl, F₁₁, u₁, g1, g2, g6, hu₁⟩
    case done =>
      rintro h' tk' m' F₆ ⟨u, e1, e2, e3, hu⟩
      refine ex_ret F₆ (Ev.name (by exact e3) hu) fun v h'' tk'' x hv => ⟨h'', tk'', rfl, fun b o e => x _ _ (F₆.keep _ _ (hB _ _ e)), hv⟩
end Mine
end

section
open PySem PySem.W PySem.Calls PyProof.Rows
set_option linter.unusedVariables false
set_option maxRecDepth 100000
set_option maxHeartbeats 4000000
namespace Mine

def p3 (g : Nat → Bool) : Bool :=
  (!g 1) && (g 4 && ((!g 5) && (g 6 && ((!g 9) && (((g 0 && (g 2 && (g 3 && ((!g 7) && ((!g 8) && ((!g 10) && true)))))) || (((!g 0) && ((!g 2) && ((!g 3) && (g 7 && (g 8 && (g 10 && true)))))) || false)) && true)))))
def f3 (M : List (List Bool)) (i j : Nat) : Nat := if p3 (fun k => cell M i (j + k)) then 1 else 0
def f3' (M : List (List Bool)) (i j : Nat) : Nat := if p3 (fun k => cell M (j + k) i) then 1 else 0
theorem p3_nine {g : Nat → Bool} (h : g 9 = true) : p3 g = false := by unfold p3; simp [h]
def lvl3 (M : List (List Bool)) (n : Nat) : Nat := 40 * (sumN (fun i => sumN (f3 M i) (n - 10)) n + sumN (fun i => sumN (f3' M i) (n - 10)) n)

theorem level3_spec {prog : Program} {w : World} {mg mb : Vs} {M : List (List Bool)} {n : Nat} (hM : Sq M n) (hn : 1 ≤ n) (hn' : n ≤ 11) :
    Spec prog w mg mb (Str.ofString "_lost_point_level3") 2 (figPre M n) (natPost (lvl3 M n)) := by
  refine Spec.intro _ rfl rfl rfl rfl rfl rfl (fun vs => (["modules", "modules_count"] : List PySem.Str).zip vs) ?_ ?_ ?_
  · rintro h vals pm cd doc ⟨a, v, rfl, _⟩
    rfl
  · rintro h vals ⟨a, v, rfl, _⟩
    exact locs rfl
  · rintro A s vals f cd h₁ hA G ⟨a, vn, rfl, hvn, hR⟩ F
    dsimp only [itemOf]
    have GB := G.gb
    obtain ⟨hM1, hM2⟩ := hM
    refine ex_assign F (EvO.range1 GB (n := (n : Int)) (Ev.name (v := vn) rfl hvn)) fun vr h₃ h₄ tk₄ x₃ hvr F₄ hsb => ?_
    obtain ⟨r, t, u, x, rfl, hr⟩ := hvr
    obtain ⟨F₅, hB⟩ := F.stored x₃ F₄ hsb hr (by intro _ _ e; cases e)
    have hrB : RngB (addB s.heap.get? r _) r 0 (n : Int) := ⟨t, u, x, addB_same⟩
    have GB₅ := GB.mono hB
    have hR₅ := hR.mono hB
    generalize addB s.heap.get? r _ = B at F₅ hrB GB₅ hR₅ hB
    refine ex_assign F₅ (EvO.range1 GB₅ (n := (n : Int) - 10) (Ev.bin (Ev.name (v := vn) rfl hvn) Ev.int op_sub)) fun vr' h₆ h₇ tk₇ x₆ hvr' F₇ hsb₇ => ?_
    obtain ⟨r', t', u', x', rfl, hr'⟩ := hvr'
    obtain ⟨F₈, hB₈⟩ := F₅.stored x₆ F₇ hsb₇ hr' (by intro _ _ e; cases e)
    have hrB' : RngB (addB B r' _) r' 0 ((n : Int) - 10) := ⟨t', u', x', addB_same⟩
    have GB₈ := GB₅.mono hB₈
    have hR₈ := hR₅.mono hB₈
    have hrB₈ := hrB.mono hB₈
    have hB8 : ∀ b o, s.heap.get? b = some o → addB B r' _ b = some o := fun b o e => hB₈ _ _ (hB _ _ e)
    generalize addB B r' _ = B₂ at F₈ hrB' GB₈ hR₈ hrB₈ hB8
    refine ex_let F₈ (Ev.nat (n := 0)) fun vb h₉ tk₉ hvb F₉ _ => ?_
    refine ex_for F₉ (PI := IsR r) (n := n) (P := fun i v => IsU i v) ?he ?hit []
        (fun i m' _ => ∃ u, m' "modules" = some (.ref a) ∧ m' "modules_range" = some (.ref r) ∧ m' "modules_range_short" = some (.ref r') ∧ m' "lost_point" = some u ∧ IsU (40 * sumN (fun i => sumN (f3 M i) (n - 10)) i) u) (by simp) (by simp) (by simp) (fun _ _ _ _ _ x => x)
        ⟨vb, rfl, rfl, rfl, rfl, hvb⟩ ?turn ?done
    case he => exact Ev.name (v := .ref r) (by rfl) IsR.mk
    case hit =>
      rintro v rfl
      refine Iterable.mono (Iterable.rng (A := A.deeper _) hA.1 (by omega) (by omega) (by omega) (by omega) hrB₈) (by omega) (fun i v h => ?_)
      unfold IsU; rw [Int.zero_add] at h; exact h
    case turn =>
      rintro i B' m' h'' tk' v hBB' _ hi hv ⟨u, e1, e2, e3, e4, hu⟩ F₆
      have GB₆ := GB₈.mono hBB'
      have hR₆ := hR₈.mono hBB'
      have hl1 : (M.getD i []).length = n := hM2 i (by omega)
      refine ex_let F₆ (Ev.row hR₆ (Ev.name (by exact e1) IsR.mk) (Ev.name (v := v) rfl hv) rfl (by omega) (by omega)) fun v₁ h₇ tk₇ hv₁ F₇ _ => ?_
      obtain ⟨a₁, rfl, hl₁⟩ := hv₁
      refine ex_assign F₇ (EvO.iterRng GB₆ (Ev.name (by exact e3) IsR.mk) (hrB'.mono hBB') (by omega) (by omega) (by omega) (by omega)) fun v₃ h₉ h₁₀ tk₁₀ x₉ hv₃ F₁₀ hsb₁₀ => ?_
      obtain ⟨it, rfl, hit, hitB, hitL⟩ := hv₃
      have hit₁₀ : RIt h₁₀ it 0 ((n - 10 : Nat) : Int) := by
        have : ((n : Int) - 10 - 0).toNat = n - 10 := by omega
        rw [this] at hit
        exact (hsb₁₀.2 it hitL).trans hit
      refine ex_let F₁₀ (Ev.nat (n := 0)) fun vc h₁₁ tk₁₁ hvc F₁₁ kp₁₁ => ?_
      refine ex_for_rit (A := A.deeper _) hA.1 F₁₁ (Ev.name (v := .ref it) (by rfl) IsR.mk) (kp₁₁ _ _ hitL hit₁₀) hitB hitL
        (fun j m' _ => ∃ u, m' "modules" = some (.ref a) ∧ m' "modules_range" = some (.ref r) ∧ m' "modules_range_short" = some (.ref r') ∧ m' "this_row" = some (.ref a₁) ∧ m' "modules_range_short_iter" = some (.ref it) ∧ m' "lost_point" = some u ∧ IsU (40 * (sumN (fun i => sumN (f3 M i) (n - 10)) i + sumN (f3 M i) j)) u)
        (fun _ _ _ _ x => x) ⟨u, e1, e2, e3, rfl, rfl, e4, by simpa [sumN] using hu⟩ ?turn2 ?done2
      case turn2 =>
        rintro j m₁ h₁₂ tk₁₂ w₁ hj hw₁ ⟨u₁, g1, g2, g3, g4, g5, g6, hu₁⟩ F₁₂ hit₁₂
        rw [Int.zero_add] at hw₁
        refine ex_if (b := p3 (fun k => cell M i (j + k))) F₁₂ (EvAll.toT (EvAll.and (EvT.not (EvT.cellAt 1 hl₁ (by exact g4) (by rfl) hw₁ (by omega) (by omega))) fun _ => (EvAll.and (EvT.cellAt 4 hl₁ (by exact g4) (by rfl) hw₁ (by omega) (by omega)) fun _ => (EvAll.and (EvT.not (EvT.cellAt 5 hl₁ (by exact g4) (by rfl) hw₁ (by omega) (by omega))) fun _ => (EvAll.and (EvT.cellAt 6 hl₁ (by exact g4) (by rfl) hw₁ (by omega) (by omega)) fun _ => (EvAll.and (EvT.not (EvT.cellAt 9 hl₁ (by exact g4) (by rfl) hw₁ (by omega) (by omega))) fun _ => (EvAll.and (EvAll.toT (EvAll.or (EvAll.toT (EvAll.and (EvT.cellAt 0 hl₁ (by exact g4) (by rfl) hw₁ (by omega) (by omega)) fun _ => (EvAll.and (EvT.cellAt 2 hl₁ (by exact g4) (by rfl) hw₁ (by omega) (by omega)) fun _ => (EvAll.and (EvT.cellAt 3 hl₁ (by exact g4) (by rfl) hw₁ (by omega) (by omega)) fun _ => (EvAll.and (EvT.not (EvT.cellAt 7 hl₁ (by exact g4) (by rfl) hw₁ (by omega) (by omega))) fun _ => (EvAll.and (EvT.not (EvT.cellAt 8 hl₁ (by exact g4) (by rfl) hw₁ (by omega) (by omega))) fun _ => (EvAll.and (EvT.not (EvT.cellAt 10 hl₁ (by exact g4) (by rfl) hw₁ (by omega) (by omega))) fun _ => EvAll.andNil))))))) fun _ => (EvAll.or (EvAll.toT (EvAll.and (EvT.not (EvT.cellAt 0 hl₁ (by exact g4) (by rfl) hw₁ (by omega) (by omega))) fun _ => (EvAll.and (EvT.not (EvT.cellAt 2 hl₁ (by exact g4) (by rfl) hw₁ (by omega) (by omega))) fun _ => (EvAll.and (EvT.not (EvT.cellAt 3 hl₁ (by exact g4) (by rfl) hw₁ (by omega) (by omega))) fun _ => (EvAll.and (EvT.cellAt 7 hl₁ (by exact g4) (by rfl) hw₁ (by omega) (by omega)) fun _ => (EvAll.and (EvT.cellAt 8 hl₁ (by exact g4) (by rfl) hw₁ (by omega) (by omega)) fun _ => (EvAll.and (EvT.cellAt 10 hl₁ (by exact g4) (by rfl) hw₁ (by omega) (by omega)) fun _ => EvAll.andNil))))))) fun _ => EvAll.orNil))) fun _ => EvAll.andNil))))))) (fun hb h₁₃ tk₁₃ x₁₃ F₁₃ => ?_) (fun hb h₁₃ tk₁₃ x₁₃ F₁₃ => ?_)
        · refine ex_aug F₁₃ (v₀ := u₁) g6 hu₁ (Ev.nat (n := 40)) ui_add fun v₆ h₁₆ tk₁₆ hv₆ F₁₆ kp₁₆ => ?_
          refine ex_nil ?_
          have hit₁₆ := kp₁₆ _ _ hitL (x₁₃ _ _ hit₁₂)
          have hf : f3 M i j = 1 := by unfold f3; rw [hb]; rfl
          have hu₆ : IsU (40 * (sumN (fun i => sumN (f3 M i) (n - 10)) i + sumN (f3 M i) (j + 1))) v₆ := by
            show IsU (40 * (_ + (sumN (f3 M i) j + f3 M i j))) v₆
            rw [hf]
            have e : 40 * (sumN (fun i => sumN (f3 M i) (n - 10)) i + (sumN (f3 M i) j + 1)) = 40 * (sumN (fun i => sumN (f3 M i) (n - 10)) i + sumN (f3 M i) j) + 40 := by omega
            rw [e]; exact hv₆
          refine ex_if F₁₆ (EvT.cellAt 10 hl₁ (by exact g4) (by rfl) hw₁ (by omega) (by omega)) (fun hb₂ h₂₀ tk₂₀ x₂₀ F₂₀ => ?_) (fun hb₂ h₂₀ tk₂₀ x₂₀ F₂₀ => ?_)
          · refine ex_next (A := A.deeper _) hA.1 GB₆ F₂₀ (by exact g5) (x₂₀ _ _ hit₁₆) hitB hitL fun h₁₄ tk₁₄ F₁₄ hit₁₄ _ => ?_
            refine ex_nil (ex_nil ⟨.inl rfl, h₁₄, tk₁₄, _, if j + 1 < n - 10 then j + 2 else j + 1, rfl, F₁₄, by split <;> omega, by split <;> omega, ?_, v₆, g1, g2, g3, g4, g5, ?_, ?_⟩)
            · by_cases hlt : j + 1 < n - 10
              · rw [if_pos (by omega), if_pos (by omega)] at hit₁₄
                rw [if_pos hlt]
                have e1 : (0 : Int) + ((j + 2 : Nat) : Int) = 0 + ((j + 1 : Nat) : Int) + 1 := by omega
                have e2 : ((n - 10 : Nat) : Int) - ((j + 2 : Nat) : Int) = ((n - 10 : Nat) : Int) - ((j + 1 : Nat) : Int) - 1 := by omega
                rw [e1, e2]; exact hit₁₄
              · rw [if_neg (by omega), if_neg (by omega)] at hit₁₄
                rw [if_neg hlt]; exact hit₁₄
            · first | rfl | exact g6
            · have hz : f3 M i (j + 1) = 0 := by
                unfold f3; rw [p3_nine (g := fun k => cell M i (j + 1 + k)) (by rw [show j + 1 + 9 = j + 10 by omega]; exact hb₂)]; rfl
              split
              · show IsU (40 * (_ + (sumN (f3 M i) j + f3 M i j + f3 M i (j + 1)))) v₆
                rw [hz]; exact hu₆
              · exact hu₆
          · exact ex_nil (ex_nil ⟨.inl rfl, h₂₀, tk₂₀, _, j + 1, rfl, F₂₀, by omega, by omega, x₂₀ _ _ hit₁₆, v₆, g1, g2, g3, g4, g5, by first | rfl | exact g6, hu₆⟩)
        · refine ex_nil ?_
          have hit₁₆ := x₁₃ _ _ hit₁₂
          have hf : f3 M i j = 0 := by unfold f3; rw [hb]; rfl
          have hu₆ : IsU (40 * (sumN (fun i => sumN (f3 M i) (n - 10)) i + sumN (f3 M i) (j + 1))) u₁ := by
            show IsU (40 * (_ + (sumN (f3 M i) j + f3 M i j))) u₁
            rw [hf]; exact hu₁
          refine ex_if F₁₃ (EvT.cellAt 10 hl₁ (by exact g4) (by rfl) hw₁ (by omega) (by omega)) (fun hb₂ h₂₀ tk₂₀ x₂₀ F₂₀ => ?_) (fun hb₂ h₂₀ tk₂₀ x₂₀ F₂₀ => ?_)
          · refine ex_next (A := A.deeper _) hA.1 GB₆ F₂₀ (by exact g5) (x₂₀ _ _ hit₁₆) hitB hitL fun h₁₄ tk₁₄ F₁₄ hit₁₄ _ => ?_
            refine ex_nil (ex_nil ⟨.inl rfl, h₁₄, tk₁₄, _, if j + 1 < n - 10 then j + 2 else j + 1, rfl, F₁₄, by split <;> omega, by split <;> omega, ?_, u₁, g1, g2, g3, g4, g5, ?_, ?_⟩)
            · by_cases hlt : j + 1 < n - 10
              · rw [if_pos (by omega), if_pos (by omega)] at hit₁₄
                rw [if_pos hlt]
                have e1 : (0 : Int) + ((j + 2 : Nat) : Int) = 0 + ((j + 1 : Nat) : Int) + 1 := by omega
                have e2 : ((n - 10 : Nat) : Int) - ((j + 2 : Nat) : Int) = ((n - 10 : Nat) : Int) - ((j + 1 : Nat) : Int) - 1 := by omega
                rw [e1, e2]; exact hit₁₄
              · rw [if_neg (by omega), if_neg (by omega)] at hit₁₄
                rw [if_neg hlt]; exact hit₁₄
            · first | rfl | exact g6
            · have hz : f3 M i (j + 1) = 0 := by
                unfold f3; rw [p3_nine (g := fun k => cell M i (j + 1 + k)) (by rw [show j + 1 + 9 = j + 10 by omega]; exact hb₂)]; rfl
              split
              · show IsU (40 * (_ + (sumN (f3 M i) j + f3 M i j + f3 M i (j + 1)))) u₁
                rw [hz]; exact hu₆
              · exact hu₆
          · exact ex_nil (ex_nil ⟨.inl rfl, h₂₀, tk₂₀, _, j + 1, rfl, F₂₀, by omega, by omega, x₂₀ _ _ hit₁₆, u₁, g1, g2, g3, g4, g5, by first | rfl | exact g6, hu₆⟩)
      case done2 =>
        rintro h₁₁ tk₁₁ m₁ F₁₁ ⟨u₁, g1, g2, g3, g4, g5, g6, hu₁⟩
        exact ex_nil ⟨.inl rfl, h₁₁, tk₁₁, m₁, rfl, F₁₁, u₁, g1, g2, g3, g6, hu₁⟩
    case done =>
      rintro h₂₀ tk₂₀ m₂₀ F₂₀ ⟨u, e1, e2, e3, e4, hu⟩
      refine ex_for F₂₀ (PI := IsR r) (n := n) (P := fun i v => IsU i v) ?he ?hit []
          (fun i m' _ => ∃ u, m' "modules" = some (.ref a) ∧ m' "modules_range" = some (.ref r) ∧ m' "modules_range_short" = some (.ref r') ∧ m' "lost_point" = some u ∧ IsU (40 * (sumN (fun i => sumN (f3 M i) (n - 10)) n + sumN (fun i => sumN (f3' M i) (n - 10)) i)) u) (by simp) (by simp) (by simp) (fun _ _ _ _ _ x => x)
          ⟨u, e1, e2, e3, e4, by simpa [sumN] using hu⟩ ?turn3 ?done3
      case he => exact Ev.name (v := .ref r) (by exact e2) IsR.mk
      case hit =>
        rintro v rfl
        refine Iterable.mono (Iterable.rng (A := A.deeper _) hA.1 (by omega) (by omega) (by omega) (by omega) hrB₈) (by omega) (fun i v h => ?_)
        unfold IsU; rw [Int.zero_add] at h; exact h
      case turn3 =>
        rintro i B' m' h'' tk' v hBB' _ hi hv ⟨u, e1, e2, e3, e4, hu⟩ F₆
        have GB₆ := GB₈.mono hBB'
        have hR₆ := hR₈.mono hBB'
        refine ex_assign F₆ (EvO.iterRng GB₆ (Ev.name (by exact e3) IsR.mk) (hrB'.mono hBB') (by omega) (by omega) (by omega) (by omega)) fun v₃ h₉ h₁₀ tk₁₀ x₉ hv₃ F₁₀ hsb₁₀ => ?_
        obtain ⟨it, rfl, hit, hitB, hitL⟩ := hv₃
        have hit₁₀ : RIt h₁₀ it 0 ((n - 10 : Nat) : Int) := by
          have : ((n : Int) - 10 - 0).toNat = n - 10 := by omega
          rw [this] at hit
          exact (hsb₁₀.2 it hitL).trans hit
        refine ex_let F₁₀ (Ev.nat (n := 0)) fun vc h₁₁ tk₁₁ hvc F₁₁ kp₁₁ => ?_
        refine ex_for_rit (A := A.deeper _) hA.1 F₁₁ (Ev.name (v := .ref it) (by rfl) IsR.mk) (kp₁₁ _ _ hitL hit₁₀) hitB hitL
          (fun j m' _ => ∃ u, m' "modules" = some (.ref a) ∧ m' "modules_range" = some (.ref r) ∧ m' "modules_range_short" = some (.ref r') ∧ m' "modules_range_short_iter" = some (.ref it) ∧ m' "col" = some v ∧ m' "lost_point" = some u ∧ IsU (40 * (sumN (fun i => sumN (f3 M i) (n - 10)) n + (sumN (fun i => sumN (f3' M i) (n - 10)) i + sumN (f3' M i) j))) u)
          (fun _ _ _ _ x => x) ⟨u, e1, e2, e3, rfl, rfl, e4, by simpa [sumN] using hu⟩ ?turn4 ?done4
        case turn4 =>
          rintro j m₁ h₁₂ tk₁₂ w₁ hj hw₁ ⟨u₁, g1, g2, g3, g5, g6, g7, hu₁⟩ F₁₂ hit₁₂
          rw [Int.zero_add] at hw₁
          refine ex_if (b := p3 (fun k => cell M (j + k) i)) F₁₂ (EvAll.toT (EvAll.and (EvT.not (EvT.cellAt' 1 hR₆ (by exact g1) (by rfl) hw₁ (by exact g6) hv (by omega) (by omega) (by rw [hM2 _ (by omega)]; omega) (by rw [hM2 _ (by omega)]; omega))) fun _ => (EvAll.and (EvT.cellAt' 4 hR₆ (by exact g1) (by rfl) hw₁ (by exact g6) hv (by omega) (by omega) (by rw [hM2 _ (by omega)]; omega) (by rw [hM2 _ (by omega)]; omega)) fun _ => (EvAll.and (EvT.not (EvT.cellAt' 5 hR₆ (by exact g1) (by rfl) hw₁ (by exact g6) hv (by omega) (by omega) (by rw [hM2 _ (by omega)]; omega) (by rw [hM2 _ (by omega)]; omega))) fun _ => (EvAll.and (EvT.cellAt' 6 hR₆ (by exact g1) (by rfl) hw₁ (by exact g6) hv (by omega) (by omega) (by rw [hM2 _ (by omega)]; omega) (by rw [hM2 _ (by omega)]; omega)) fun _ => (EvAll.and (EvT.not (EvT.cellAt' 9 hR₆ (by exact g1) (by rfl) hw₁ (by exact g6) hv (by omega) (by omega) (by rw [hM2 _ (by omega)]; omega) (by rw [hM2 _ (by omega)]; omega))) fun _ => (EvAll.and (EvAll.toT (EvAll.or (EvAll.toT (EvAll.and (EvT.cellAt' 0 hR₆ (by exact g1) (by rfl) hw₁ (by exact g6) hv (by omega) (by omega) (by rw [hM2 _ (by omega)]; omega) (by rw [hM2 _ (by omega)]; omega)) fun _ => (EvAll.and (EvT.cellAt' 2 hR₆ (by exact g1) (by rfl) hw₁ (by exact g6) hv (by omega) (by omega) (by rw [hM2 _ (by omega)]; omega) (by rw [hM2 _ (by omega)]; omega)) fun _ => (EvAll.and (EvT.cellAt' 3 hR₆ (by exact g1) (by rfl) hw₁ (by exact g6) hv (by omega) (by omega) (by rw [hM2 _ (by omega)]; omega) (by rw [hM2 _ (by omega)]; omega)) fun _ => (EvAll.and (EvT.not (EvT.cellAt' 7 hR₆ (by exact g1) (by rfl) hw₁ (by exact g6) hv (by omega) (by omega) (by rw [hM2 _ (by omega)]; omega) (by rw [hM2 _ (by omega)]; omega))) fun _ => (EvAll.and (EvT.not (EvT.cellAt' 8 hR₆ (by exact g1) (by rfl) hw₁ (by exact g6) hv (by omega) (by omega) (by rw [hM2 _ (by omega)]; omega) (by rw [hM2 _ (by omega)]; omega))) fun _ => (EvAll.and (EvT.not (EvT.cellAt' 10 hR₆ (by exact g1) (by rfl) hw₁ (by exact g6) hv (by omega) (by omega) (by rw [hM2 _ (by omega)]; omega) (by rw [hM2 _ (by omega)]; omega))) fun _ => EvAll.andNil))))))) fun _ => (EvAll.or (EvAll.toT (EvAll.and (EvT.not (EvT.cellAt' 0 hR₆ (by exact g1) (by rfl) hw₁ (by exact g6) hv (by omega) (by omega) (by rw [hM2 _ (by omega)]; omega) (by rw [hM2 _ (by omega)]; omega))) fun _ => (EvAll.and (EvT.not (EvT.cellAt' 2 hR₆ (by exact g1) (by rfl) hw₁ (by exact g6) hv (by omega) (by omega) (by rw [hM2 _ (by omega)]; omega) (by rw [hM2 _ (by omega)]; omega))) fun _ => (EvAll.and (EvT.not (EvT.cellAt' 3 hR₆ (by exact g1) (by rfl) hw₁ (by exact g6) hv (by omega) (by omega) (by rw [hM2 _ (by omega)]; omega) (by rw [hM2 _ (by omega)]; omega))) fun _ => (EvAll.and (EvT.cellAt' 7 hR₆ (by exact g1) (by rfl) hw₁ (by exact g6) hv (by omega) (by omega) (by rw [hM2 _ (by omega)]; omega) (by rw [hM2 _ (by omega)]; omega)) fun _ => (EvAll.and (EvT.cellAt' 8 hR₆ (by exact g1) (by rfl) hw₁ (by exact g6) hv (by omega) (by omega) (by rw [hM2 _ (by omega)]; omega) (by rw [hM2 _ (by omega)]; omega)) fun _ => (EvAll.and (EvT.cellAt' 10 hR₆ (by exact g1) (by rfl) hw₁ (by exact g6) hv (by omega) (by omega) (by rw [hM2 _ (by omega)]; omega) (by rw [hM2 _ (by omega)]; omega)) fun _ => EvAll.andNil))))))) fun _ => EvAll.orNil))) fun _ => EvAll.andNil))))))) (fun hb h₁₃ tk₁₃ x₁₃ F₁₃ => ?_) (fun hb h₁₃ tk₁₃ x₁₃ F₁₃ => ?_)
          · refine ex_aug F₁₃ (v₀ := u₁) g7 hu₁ (Ev.nat (n := 40)) ui_add fun v₆ h₁₆ tk₁₆ hv₆ F₁₆ kp₁₆ => ?_
            refine ex_nil ?_
            have hit₁₆ := kp₁₆ _ _ hitL (x₁₃ _ _ hit₁₂)
            have hf : f3' M i j = 1 := by unfold f3'; rw [hb]; rfl
            have hu₆ : IsU (40 * (sumN (fun i => sumN (f3 M i) (n - 10)) n + (sumN (fun i => sumN (f3' M i) (n - 10)) i + sumN (f3' M i) (j + 1)))) v₆ := by
              show IsU (40 * (sumN (fun i => sumN (f3 M i) (n - 10)) n + (_ + (sumN (f3' M i) j + f3' M i j)))) v₆
              rw [hf]
              have e : 40 * (sumN (fun i => sumN (f3 M i) (n - 10)) n + (sumN (fun i => sumN (f3' M i) (n - 10)) i + (sumN (f3' M i) j + 1))) = 40 * (sumN (fun i => sumN (f3 M i) (n - 10)) n + (sumN (fun i => sumN (f3' M i) (n - 10)) i + sumN (f3' M i) j)) + 40 := by omega
              rw [e]; exact hv₆
            refine ex_if F₁₆ (EvT.cellAt' 10 hR₆ (by exact g1) (by rfl) hw₁ (by exact g6) hv (by omega) (by omega) (by rw [hM2 _ (by omega)]; omega) (by rw [hM2 _ (by omega)]; omega)) (fun hb₂ h₂₀ tk₂₀ x₂₀ F₂₀ => ?_) (fun hb₂ h₂₀ tk₂₀ x₂₀ F₂₀ => ?_)
            · refine ex_next (A := A.deeper _) hA.1 GB₆ F₂₀ (by exact g5) (x₂₀ _ _ hit₁₆) hitB hitL fun h₁₄ tk₁₄ F₁₄ hit₁₄ _ => ?_
              refine ex_nil (ex_nil ⟨.inl rfl, h₁₄, tk₁₄, _, if j + 1 < n - 10 then j + 2 else j + 1, rfl, F₁₄, by split <;> omega, by split <;> omega, ?_, v₆, g1, g2, g3, g5, g6, ?_, ?_⟩)
              · by_cases hlt : j + 1 < n - 10
                · rw [if_pos (by omega), if_pos (by omega)] at hit₁₄
                  rw [if_pos hlt]
                  have e1 : (0 : Int) + ((j + 2 : Nat) : Int) = 0 + ((j + 1 : Nat) : Int) + 1 := by omega
                  have e2 : ((n - 10 : Nat) : Int) - ((j + 2 : Nat) : Int) = ((n - 10 : Nat) : Int) - ((j + 1 : Nat) : Int) - 1 := by omega
                  rw [e1, e2]; exact hit₁₄
                · rw [if_neg (by omega), if_neg (by omega)] at hit₁₄
                  rw [if_neg hlt]; exact hit₁₄
              · first | rfl | exact g7
              · have hz : f3' M i (j + 1) = 0 := by
                  unfold f3'; rw [p3_nine (g := fun k => cell M (j + 1 + k) i) (by rw [show j + 1 + 9 = j + 10 by omega]; exact hb₂)]; rfl
                split
                · show IsU (40 * (sumN (fun i => sumN (f3 M i) (n - 10)) n + (_ + (sumN (f3' M i) j + f3' M i j + f3' M i (j + 1))))) v₆
                  rw [hz]; exact hu₆
                · exact hu₆
            · exact ex_nil (ex_nil ⟨.inl rfl, h₂₀, tk₂₀, _, j + 1, rfl, F₂₀, by omega, by omega, x₂₀ _ _ hit₁₆, v₆, g1, g2, g3, g5, g6, by first | rfl | exact g7, hu₆⟩)
          · refine ex_nil ?_
            have hit₁₆ := x₁₃ _ _ hit₁₂
            have hf : f3' M i j = 0 := by unfold f3'; rw [hb]; rfl
            have hu₆ : IsU (40 * (sumN (fun i => sumN (f3 M i) (n - 10)) n + (sumN (fun i => sumN (f3' M i) (n - 10)) i + sumN (f3' M i) (j + 1)))) u₁ := by
              show IsU (40 * (sumN (fun i => sumN (f3 M i) (n - 10)) n + (_ + (sumN (f3' M i) j + f3' M i j)))) u₁
              rw [hf]; exact hu₁
            refine ex_if F₁₃ (EvT.cellAt' 10 hR₆ (by exact g1) (by rfl) hw₁ (by exact g6) hv (by omega) (by omega) (by rw [hM2 _ (by omega)]; omega) (by rw [hM2 _ (by omega)]; omega)) (fun hb₂ h₂₀ tk₂₀ x₂₀ F₂₀ => ?_) (fun hb₂ h₂₀ tk₂₀ x₂₀ F₂₀ => ?_)
            · refine ex_next (A := A.deeper _) hA.1 GB₆ F₂₀ (by exact g5) (x₂₀ _ _ hit₁₆) hitB hitL fun h₁₄ tk₁₄ F₁₄ hit₁₄ _ => ?_
              refine ex_nil (ex_nil ⟨.inl rfl, h₁₄, tk₁₄, _, if j + 1 < n - 10 then j + 2 else j + 1, rfl, F₁₄, by split <;> omega, by split <;> omega, ?_, u₁, g1, g2, g3, g5, g6, ?_, ?_⟩)
              · by_cases hlt : j + 1 < n - 10
                · rw [if_pos (by omega), if_pos (by omega)] at hit₁₄
                  rw [if_pos hlt]
                  have e1 : (0 : Int) + ((j + 2 : Nat) : Int) = 0 + ((j + 1 : Nat) : Int) + 1 := by omega
                  have e2 : ((n - 10 : Nat) : Int) - ((j + 2 : Nat) : Int) = ((n - 10 : Nat) : Int) - ((j + 1 : Nat) : Int) - 1 := by omega
                  rw [e1, e2]; exact hit₁₄
                · rw [if_neg (by omega), if_neg (by omega)] at hit₁₄
                  rw [if_neg hlt]; exact hit₁₄
              · first | rfl | exact g7
              · have hz : f3' M i (j + 1) = 0 := by
                  unfold f3'; rw [p3_nine (g := fun k => cell M (j + 1 + k) i) (by rw [show j + 1 + 9 = j + 10 by omega]; exact hb₂)]; rfl
                split
                · show IsU (40 * (sumN (fun i => sumN (f3 M i) (n - 10)) n + (_ + (sumN (f3' M i) j + f3' M i j + f3' M i (j + 1))))) u₁
                  rw [hz]; exact hu₆
                · exact hu₆
            · exact ex_nil (ex_nil ⟨.inl rfl, h₂₀, tk₂₀, _, j + 1, rfl, F₂₀, by omega, by omega, x₂₀ _ _ hit₁₆, u₁, g1, g2, g3, g5, g6, by first | rfl | exact g7, hu₆⟩)
        case done4 =>
          rintro h₁₁ tk₁₁ m₁ F₁₁ ⟨u₁, g1, g2, g3, g5, g6, g7, hu₁⟩
          exact ex_nil ⟨.inl rfl, h₁₁, tk₁₁, m₁, rfl, F₁₁, u₁, g1, g2, g3, g7, hu₁⟩
      case done3 =>
        rintro h' tk' m' F₆ ⟨u, e1, e2, e3, e4, hu⟩
        refine ex_ret F₆ (Ev.name (by exact e4) hu) fun v h'' tk'' x hv => ⟨h'', tk'', rfl, fun b o e => x _ _ (F₆.keep _ _ (hB8 _ _ e)), hv⟩
end Mine
end

section
open PySem PySem.W PySem.Calls PyProof.Rows
set_option linter.unusedVariables false
set_option maxRecDepth 100000
namespace Mine

def f1 (n d : Nat) : UInt64 := Float64.div (Float64.ofInt (d : Int)) (Float64.ofInt ((n : Int) ^ 2))
def f2 (x : UInt64) : UInt64 := Float64.div (Float64.abs (Float64.sub (Float64.mul x (Float64.ofInt 100)) (Float64.ofInt 50))) (Float64.ofInt 5)
def rate (n d : Nat) : Int := 10 * (2 * (d : Int) - (n : Int) * n).natAbs / (n * n : Nat)
def chk (n d : Nat) : Bool := match Float64.decode (f2 (f1 n d)) with
  | .fin sg m e => decide (Float64.truncOf sg m e = rate n d)
  | _ => false
def chkN (n : Nat) : Bool := (List.range (n * n + 1)).all (chk n)
theorem chk_1 : chkN 1 = true := by decide +kernel
theorem chk_2 : chkN 2 = true := by decide +kernel
theorem chk_3 : chkN 3 = true := by decide +kernel
theorem chk_4 : chkN 4 = true := by decide +kernel
theorem chk_5 : chkN 5 = true := by decide +kernel
theorem chk_6 : chkN 6 = true := by decide +kernel
theorem chk_7 : chkN 7 = true := by decide +kernel
theorem chk_8 : chkN 8 = true := by decide +kernel
theorem chk_9 : chkN 9 = true := by decide +kernel
theorem chk_10 : chkN 10 = true := by decide +kernel
theorem chk_11 : chkN 11 = true := by decide +kernel
theorem chk_all {n d : Nat} (h1 : 1 ≤ n) (h2 : n ≤ 11) (hd : d ≤ n * n) : ∃ sg m e, Float64.decode (f2 (f1 n d)) = .fin sg m e ∧ Float64.truncOf sg m e = rate n d := by
  have h : chkN n = true := by
    have : n = 1 ∨ n = 2 ∨ n = 3 ∨ n = 4 ∨ n = 5 ∨ n = 6 ∨ n = 7 ∨ n = 8 ∨ n = 9 ∨ n = 10 ∨ n = 11 := by omega
    rcases this with rfl | rfl | rfl | rfl | rfl | rfl | rfl | rfl | rfl | rfl | rfl
    · exact chk_1
    · exact chk_2
    · exact chk_3
    · exact chk_4
    · exact chk_5
    · exact chk_6
    · exact chk_7
    · exact chk_8
    · exact chk_9
    · exact chk_10
    · exact chk_11
  have h' : chk n d = true := List.all_eq_true.mp h d (List.mem_range.mpr (by omega))
  unfold chk at h'
  split at h'
  · rename_i sg m e he
    exact ⟨sg, m, e, he, by simpa using h'⟩
  · cases h'
theorem isInf_100 : ¬ Float64.isInf (Float64.ofInt 100) = true := by decide +kernel
theorem isInf_50 : ¬ Float64.isInf (Float64.ofInt 50) = true := by decide +kernel
theorem isInf_5 : ¬ Float64.isInf (Float64.ofInt 5) = true := by decide +kernel
theorem isZero_5 : ¬ Float64.isZero (Float64.ofInt 5) = true := by decide +kernel
def nz (n : Nat) : Bool := !Float64.isZero (Float64.ofInt ((n : Int) ^ 2))
theorem nz_all {n : Nat} (h1 : 1 ≤ n) (h2 : n ≤ 11) : ¬ Float64.isZero (Float64.ofInt ((n : Int) ^ 2)) = true := by
  have h : (List.range 12).all (fun n => n == 0 || nz n) = true := by decide +kernel
  have := List.all_eq_true.mp h n (List.mem_range.mpr (by omega))
  simp only [Bool.or_eq_true, beq_iff_eq] at this
  rcases this with h | h
  · omega
  · unfold nz at h; simpa using h
end Mine
end

section
open PySem PySem.W PySem.Calls PyProof.Rows
set_option linter.unusedVariables false
set_option maxRecDepth 100000
namespace Mine

-- the type map
theorem mo_owner : Manifest.owners.lookup (String.ofList ['p', 'a', 'm'].reverse) = some Manifest.sig_map := by kernel_rfl
theorem mo_init : Slot "map" "__init__" "object.__init__" :=
  .of (owner := "object") (n := "__init__") (by rw [typeLookup_type, builtinLookup_eq_fast]; kernel_rfl) (by decide +kernel) (by decide +kernel) (by decide +kernel)
    (by first | exact .inl (by decide +kernel) | exact .inr (by decide +kernel)) (by rw [isSubtype_type]; kernel_rfl)
theorem mo_iter : Slot "map" "__iter__" "map.__iter__" :=
  .of (owner := "map") (n := "__iter__") (by rw [typeLookup_type, builtinLookup_eq_fast]; kernel_rfl) (by decide +kernel) (by decide +kernel) (by decide +kernel)
    (by first | exact .inl (by decide +kernel) | exact .inr (by decide +kernel)) (by rw [isSubtype_type]; kernel_rfl)
theorem mo_iter_args (a : Value) : argsOk "map.__iter__" ⟨[a], []⟩ := by
  unfold argsOk; rw [signature?_of (id := "map.__iter__") (n := ['_', '_', 'r', 'e', 't', 'i', '_', '_']) (o := ['p', 'a', 'm']) (by kernel_rfl) mo_owner]; kernel_rfl
theorem mo_iter_entry : entryFor table "map.__iter__" = some Builtin.«dict_keyiterator.__iter__» :=
  entryFor_alias (id' := "dict_keyiterator.__iter__") (by kernel_rfl) (by first | rfl | decide +kernel | (unfold String.splitOn; simp +decide [String.splitOnAux])) (by decide +kernel) (by kernel_rfl)
theorem mo_next : Slot "map" "__next__" "map.__next__" :=
  .of (owner := "map") (n := "__next__") (by rw [typeLookup_type, builtinLookup_eq_fast]; kernel_rfl) (by decide +kernel) (by decide +kernel) (by decide +kernel)
    (by first | exact .inl (by decide +kernel) | exact .inr (by decide +kernel)) (by rw [isSubtype_type]; kernel_rfl)
theorem mo_next_entry : entryFor table "map.__next__" = some Builtin.«map.__next__» := entryFor_of_tree (by kernel_rfl)
theorem mo_next_args (a : Value) : argsOk "map.__next__" ⟨[a], []⟩ := by
  unfold argsOk; rw [signature?_of (id := "map.__next__") (n := ['_', '_', 't', 'x', 'e', 'n', '_', '_']) (o := ['p', 'a', 'm']) (by kernel_rfl) mo_owner]; kernel_rfl
theorem mo_mro : mroOf (.type "map") = pure [.type "map", .type "object"] := by rw [mroOf_type]; kernel_rfl
theorem mo_new : typeLookup (.type "map") "__new__" = pure (some (.builtin "map.__new__")) := by rw [typeLookup_type, builtinLookup_eq_fast]; kernel_rfl
theorem mo_called : TypeCalled "map" "map.__new__" "object.__init__" :=
  ⟨by decide +kernel, by decide +kernel, ⟨_, _, mo_mro⟩, madeBy_type mo_mro mo_new (by decide +kernel), by decide +kernel, by rw [isSubtype_type]; kernel_rfl, mo_init⟩
theorem mo_typeCall (a b : Value) : checkTypeCall "map" ⟨[a, b], []⟩ = pure () := by kernel_rfl
theorem mo_newCall (a b : Value) : checkBuiltinCall "map.__new__" ⟨[.type "map", a, b], []⟩ = pure () := by kernel_rfl
theorem mo_new_entry : entryFor table "map.__new__" = some Builtin.«map.__new__» := entryFor_of_tree (by kernel_rfl)
theorem mo_sub : isSubtype (.type "map") (.type "map") = pure true := by rw [isSubtype_type]; kernel_rfl

-- the sum of a list of bools
def cnt (r : List Bool) : Nat := r.count true
theorem preSum_cnt (r : List Bool) : ∀ n, n ≤ r.length → preSum (fun i => if r.getD i false then 1 else 0) n = ((cnt (r.take n) : Nat) : Int) := by
  intro n
  induction n with
  | zero => intro _; rfl
  | succ k ih =>
    intro hk
    have hk' : k < r.length := by omega
    rw [preSum, ih (by omega)]
    have e : r.take (k + 1) = r.take k ++ [r[k]] := by rw [List.take_add_one, List.getElem?_eq_getElem hk']; rfl
    rw [e]
    unfold cnt
    rw [List.count_append]
    have : r.getD k false = r[k] := by rw [List.getD_eq_getElem?_getD, List.getElem?_eq_getElem hk']; rfl
    rw [this]
    cases r[k] <;> simp

section
variable {prog : Program} {w : World} {A : Around} {E : Value → Shared → Prop} {s : Shared}
theorem call_sum_bools {a : Addr} {r : List Bool} {Q : Value → Shared → Prop} (hh : A.handled = none) (hl : s.heap.IsList a ((r.map Value.bool).toArray))
    (hQ : ∀ t h' tk, Ext s.heap h' → Q (.int (cnt r : Nat) t) { s with heap := h', toks := tk }) : wpAny (model prog w) A (call (.builtin "sum") [.ref a]) Q E s := by
  refine call_sum_walkAnyB (wpAny_pyIter_list hl ?_)
  have hlt : a < s.heap.objs.size := by obtain ⟨o, ho, _⟩ := hl; exact Heap.lt_size ho
  have W := (Walks.list (prog := prog) (w := w) (A := A.in1) hh s.heap.objs.size a (Nat.ne_of_lt hlt) ((r.map Value.bool).toArray)).toS
  refine ⟨_, _, _, _, _, _, _, (fun i => if r.getD i false then 1 else 0), rfl, W, ⟨⟨_, Heap.get?_push_size _ rfl, rfl, rfl⟩, hl.push _⟩, ?_, ?_, ?_⟩
  · intro b hb
    rw [Heap.size_push]
    rcases List.mem_cons.mp hb with rfl | hb
    · exact Nat.lt_succ_self _
    · rw [List.mem_singleton.mp hb]; exact Nat.lt_succ_of_lt hlt
  · intro i v hv
    simp only [List.getElem?_toArray, List.getElem?_map] at hv
    obtain ⟨b, hb, rfl⟩ := Option.map_eq_some_iff.mp hv
    right
    exact ⟨b, rfl, by show (if r.getD i false = true then (1 : Int) else 0) = _; rw [List.getD_eq_getElem?_getD, hb]; rfl⟩
  · intro s' t' hm
    have e : preSum (fun i => if r.getD i false = true then 1 else 0) ((r.map Value.bool).toArray).size = ((cnt r : Nat) : Int) := by
      have := preSum_cnt r r.length (Nat.le_refl _)
      rw [List.take_length] at this
      simpa using this
    rw [e]
    obtain ⟨hp, g, dr, tk, os⟩ := s'
    obtain ⟨m1, m2, m3, m4, m5⟩ := hm
    dsimp only at m1 m2 m3 m4 m5
    subst m2 m3 m4
    exact hQ t' hp tk fun b o e => m1 b o (fun q => by rw [List.mem_singleton.mp q] at e; exact absurd (Heap.lt_size e) (Nat.lt_irrefl _)) (Heap.get?_push_of_some _ e)
end

abbrev IsMap (h : Heap) (z T : Addr) : Prop := h.get? z = some { cls := .type "map", dict := none, data := .fields #[.ref T, .builtin "sum"], slots := #[] }
abbrev IsOne (h : Heap) (T it : Addr) : Prop := h.get? T = some { cls := .type "tuple", data := .seq #[.ref it] }

section
variable {prog : Program} {w : World} {A : Around} {E : Value → Shared → Prop} {s : Shared}
theorem map_next_item {z T it l a : Addr} {i : Nat} {items : Array Value} {r : List Bool} {Q : Option Value → Shared → Prop} (hh : A.handled = none) (hz : IsMap s.heap z T) (hT : IsOne s.heap T it)
    (hit : s.heap.IsListIter it l i) (hl : s.heap.IsList l items) (hx : items[i]? = some (.ref a)) (ha : s.heap.IsList a ((r.map Value.bool).toArray)) (hne : a ≠ it) (hzit : z ≠ it)
    (hQ : ∀ t h' tk, h'.IsListIter it l (i + 1) → (∀ b o, b ≠ it → s.heap.get? b = some o → h'.get? b = some o) → Q (some (.int (cnt r : Nat) t)) { s with heap := h', toks := tk }) :
    wpAny (model prog w) A (pyNext (.ref z)) Q E s := by
  have hTz : s.TypeIs (.ref z) "map" := ⟨_, hz, rfl⟩
  unfold pyNext
  refine wpAny_bind (wpAny_attempt (wpAny_callSpecial?_slot (name := Str.ofString "__next__") hTz mo_next (wpAny_call_entry mo_next hTz mo_next_entry ?_ (mo_next_args _))))
  show wpAny _ _ (field (.ref z) 0 >>= _) _ _ _
  refine wpAny_bind (wpAny_field hz rfl (x := .ref T) rfl ?_)
  refine wpAny_bind (wpAny_seqItems hT rfl ?_)
  dsimp only
  rw [← Array.forIn_toList]
  simp only [List.forIn_cons, List.forIn_nil]
  refine wpAny_bind (wpAny_bind (wpAny_bind (wpAny_holding (wpAny_nextOf_list_item hit hl hx fun h₁ hit₁ hs₁ => wpAny_pure (wpAny_pure ?_)))))
  refine wpAny_bind (wpAny_field ((hs₁.2 z hzit).trans hz) rfl (x := .builtin "sum") rfl ?_)
  refine wpAny_bind (wpAny_holding (call_sum_bools hh (ha.extBut hs₁.extBut hne) fun t h' tk x => ?_))
  refine wpAny_bind (wpAny_letGo ?_)
  exact wpAny_pure ⟨_, rfl, wpAny_pure (hQ t h' tk (hit₁.at fun o e => x _ _ e) fun b o n e => x _ _ ((hs₁.2 b n).trans e))⟩

theorem map_next_end {z T it l : Addr} {i : Nat} {items : Array Value} {Q : Option Value → Shared → Prop} (hh : A.handled = none) (hz : IsMap s.heap z T) (hT : IsOne s.heap T it)
    (hit : s.heap.IsListIter it l i) (hl : s.heap.IsList l items) (hx : items[i]? = none)
    (hQ : ∀ h', (∀ b o, b ≠ it → s.heap.get? b = some o → h'.get? b = some o) → Q none { s with heap := h' }) :
    wpAny (model prog w) A (pyNext (.ref z)) Q E s := by
  have hTz : s.TypeIs (.ref z) "map" := ⟨_, hz, rfl⟩
  unfold pyNext
  refine wpAny_bind (wpAny_attempt (wpAny_callSpecial?_slot (name := Str.ofString "__next__") hTz mo_next (wpAny_call_entry mo_next hTz mo_next_entry ?_ (mo_next_args _))))
  show wpAny _ _ (field (.ref z) 0 >>= _) _ _ _
  refine wpAny_bind (wpAny_field hz rfl (x := .ref T) rfl ?_)
  refine wpAny_bind (wpAny_seqItems hT rfl ?_)
  dsimp only
  rw [← Array.forIn_toList]
  simp only [List.forIn_cons, List.forIn_nil]
  refine wpAny_bind (wpAny_bind (wpAny_bind (wpAny_holding (wpAny_nextOf_list_end hh hit hl hx fun h₁ e hs₁ he => ?_))))
  obtain ⟨o, ho, hc⟩ := he
  refine wpAny_bind (wpAny_isInstance (T := "StopIteration") (b := true) ⟨o, ho, hc⟩ isSubtype_stop ?_)
  exact wpAny_pure (hQ _ fun b o n e => hs₁ b o n e)

theorem map_self {z T : Addr} {Q : Value → Shared → Prop} (hz : IsMap s.heap z T) (h : Q (.ref z) s) : wpAny (model prog w) A (pyIter (.ref z)) Q E s := by
  have hTz : s.TypeIs (.ref z) "map" := ⟨_, hz, rfl⟩
  refine wpAny_pyIter_slot hTz mo_iter (wpAny_call_entry mo_iter hTz mo_iter_entry ?_ (mo_iter_args _))
  show wpAny _ _ (ret (.ref z)) _ _ s
  exact wpAny_pure ⟨_, rfl, "map", _, hTz, mo_next.lookup, h⟩

abbrev mapH1 (h : Heap) (l : Addr) : Heap := h.push { cls := .type "list_iterator", data := .fields #[.ref l, .int 0 0] }
abbrev mapH2 (h : Heap) (l : Addr) : Heap := (mapH1 h l).push { cls := .type "tuple", data := .seq #[.ref h.objs.size] }
abbrev mapH3 (h : Heap) (l : Addr) : Heap := (mapH2 h l).push { cls := .type "map", data := .fields #[.ref (mapH1 h l).objs.size, .builtin "sum"] }
theorem meets_map_new (l : Addr) (xs : Array Value) :
    Meets (Builtin.«map.__new__» ⟨[.type "map", .builtin "sum", .ref l], []⟩) (fun _ R s => s.heap.IsList l xs ∧
      R (.ok (.ret (.ref (mapH2 s.heap l).objs.size))) { s with heap := mapH3 s.heap l }) :=
  .of_wp fun prog w A R s h => by
    obtain ⟨hp, g, d, tk, os⟩ := s; obtain ⟨hl1, h⟩ := h
    have hsub := mo_sub
    have hL1 : Heap.IsList (Shared.heap ⟨hp, g, d, tk, os⟩) l xs := hl1
    wp_walk using wpAny_pyIter_list hL1
    exact ⟨_, rfl, h⟩

/-- the sum of the first k rows' counts -/
def tot (M : List (List Bool)) (k : Nat) : Nat := sumN (fun i => cnt (M.getD i [])) k
theorem preSum_tot (M : List (List Bool)) : ∀ k, preSum (fun i => ((cnt (M.getD i []) : Nat) : Int)) k = ((tot M k : Nat) : Int)
  | 0 => rfl
  | k + 1 => by rw [preSum, preSum_tot M k]; show _ = ((tot M k + cnt (M.getD k []) : Nat) : Int); rw [Int.natCast_add]

theorem walks_map {z T it l : Addr} {as : List Addr} {M : List (List Bool)} (hh : A.handled = none) (hz : z ≠ it) (hT : T ≠ it) (hl : l ≠ it) (has : ∀ a ∈ as, a ≠ it) :
    Walks prog w A z (z :: T :: it :: l :: as) [it] as.length (fun i v => ∃ t, v = .int ((cnt (M.getD i []) : Nat) : Int) t)
      (fun i h => IsMap h z T ∧ IsOne h T it ∧ h.IsListIter it l i ∧ h.IsList l ((as.map Value.ref).toArray) ∧ ∀ i ai, as[i]? = some ai → h.IsList ai (((M.getD i []).map Value.bool).toArray)) where
  sub := fun b hb => by rw [List.mem_singleton.mp hb]; simp
  frame := fun i h h' ⟨h1, h2, h3, h4, h5⟩ hk => ⟨hk z (by simp) _ h1, hk T (by simp) _ h2, h3.at fun o e => hk it (by simp) o e, h4.at fun o e => hk l (by simp) o e,
    fun j aj e => (h5 j aj e).at fun o e' => hk aj (by have := List.mem_of_getElem? e; simp [this]) o e'⟩
  item := fun i s Q E hi ⟨h1, h2, h3, h4, h5⟩ hQ => by
    have e : as[i]? = some as[i] := by simp [hi]
    refine map_next_item (r := M.getD i []) (a := as[i]) hh h1 h2 h3 h4 (by simp [hi]) (h5 i _ e) (has _ (List.mem_of_getElem? e)) hz fun t h' tk hit hk => ?_
    exact hQ _ h' tk ⟨t, rfl⟩ ⟨hk _ _ hz h1, hk _ _ hT h2, hit, h4.at fun o e => hk _ o hl e, fun j aj e => (h5 j aj e).at fun o e' => hk aj o (has _ (List.mem_of_getElem? e)) e'⟩
      fun b o hb e => hk b o (fun q => hb (by rw [q]; exact .head _)) e
  done := fun s Q E ⟨h1, h2, h3, h4, h5⟩ hQ => map_next_end hh h1 h2 h3 h4 (by simp) fun h' hk => hQ h' s.toks fun b o hb e => hk b o (fun q => hb (by rw [q]; exact .head _)) e
  self := fun i s Q E ⟨h1, _⟩ h => map_self h1 h
end

section
variable {prog : Program} {w : World} {A : Around} {env : Env} {B : Addr → Option Obj} {m mg mb : Vs}
/-- sum(map(sum, x)) -/
theorem Ev.sumMap {p1 p2 p3 p4 p5 p6 : Pos} {x : PySem.Str} {a : Addr} {M : List (List Bool)} (hh : A.handled = none) (G : GB mg mb B) (hx : m x = some (.ref a)) (R : RowsB B a M)
    (hg : env.globals = mainGlobals := by rfl) (hb : env.builtins = builtinsNs := by rfl) (hk : env.scope.kind = .function := by rfl)
    (h1 : env.kindOf (Str.ofString "sum") = some .globalImplicit := by rfl) (h2 : env.kindOf (Str.ofString "map") = some .globalImplicit := by rfl) (h3 : env.kindOf x = some .local := by rfl)
    (hd : (x == ("__debug__" : PySem.Str)) = false := by decide)
    (he₁ : eval (.Call (.Name (Str.ofString "map") p3) [.Name (Str.ofString "sum") p4, .Name x p5] [] p6) env = (do callWith p6 (← eval (.Name (Str.ofString "map") p3) env) [] (backTo p6 (starEach [.Name (Str.ofString "sum") p4, .Name x p5] env)) (backToKw p6 (keywordEach [] env))) := by rfl)
    (hs₁ : starEach [.Name (Str.ofString "sum") p4, .Name x p5] env = (false, eval (.Name (Str.ofString "sum") p4) env) :: starEach [.Name x p5] env := by rfl)
    (hs₂ : starEach [.Name x p5] env = (false, eval (.Name x p5) env) :: starEach [] env := by rfl)
    (hp₁ : (backTo p6 (starEach [.Name x p5] env)).any (·.1) = false := by rfl)
    (he₂ : eval (.Call (.Name (Str.ofString "sum") p1) [.Call (.Name (Str.ofString "map") p3) [.Name (Str.ofString "sum") p4, .Name x p5] [] p6] [] p2) env = (do callWith p2 (← eval (.Name (Str.ofString "sum") p1) env) [] (backTo p2 (starEach [.Call (.Name (Str.ofString "map") p3) [.Name (Str.ofString "sum") p4, .Name x p5] [] p6] env)) (backToKw p2 (keywordEach [] env))) := by rfl)
    (hs₃ : starEach [.Call (.Name (Str.ofString "map") p3) [.Name (Str.ofString "sum") p4, .Name x p5] [] p6] env = (false, eval (.Call (.Name (Str.ofString "map") p3) [.Name (Str.ofString "sum") p4, .Name x p5] [] p6) env) :: starEach [] env := by rfl) :
    Ev prog w A env B m (.Call (.Name (Str.ofString "sum") p1) [.Call (.Name (Str.ofString "map") p3) [.Name (Str.ofString "sum") p4, .Name x p5] [] p6] [] p2) (IsU (tot M M.length)) := by
  intro Q E s F k
  have hBB : ∀ b o, B b = some o → Bof s.heap [env.locals] b = some o := fun b o e => Bof_of (F.keep b o e) (by simpa using F.ne e)
  replace R := R.mono hBB
  replace G := G.mono hBB
  replace F := F.rebase []
  obtain ⟨as, hla, hlen, hrows⟩ := R
  have hmap : EvO prog w A env (Bof s.heap [env.locals]) m (.Call (.Name (Str.ofString "map") p3) [.Name (Str.ofString "sum") p4, .Name x p5] [] p6)
      (fun h v => ∃ z T it, v = .ref z ∧ IsMap h z T ∧ IsOne h T it ∧ h.IsListIter it a 0 ∧ z ≠ it ∧ T ≠ it ∧ (∀ b o, Bof s.heap [env.locals] b = some o → b ≠ it) ∧ it ≠ env.locals) := by
    refine EvO.callT G (by decide) bt_map (EvL.consV (Ev.bi G (by decide) bt_sum hg hb hk h1) (EvL.consV (Ev.name hx (IsR.mk (a := a)) hk h3 hd) EvL.nil hs₂) hs₁) (fun vs s₀ hv F {_ _} k => ?_) hg hb hk h2 (by decide) he₁ hs₁ hp₁
    obtain ⟨v, vs', rfl, e1, v', vs'', rfl, e2, rfl⟩ := hv
    cases e1; cases e2
    refine callType_new mo_called (by decide) (mo_typeCall _ _) (mo_newCall _ _) (fun obj => PySem.F.args_object_init_3 obj _ _) mo_new_entry (meets_map_new a _) ⟨hla.get F, ?_⟩
    have z1 : (mapH1 s₀.heap a).objs.size = s₀.heap.objs.size + 1 := Heap.size_push ..
    have z2 : (mapH2 s₀.heap a).objs.size = s₀.heap.objs.size + 2 := by rw [Heap.size_push, z1]
    have g3 : (mapH3 s₀.heap a).get? (mapH2 s₀.heap a).objs.size = some _ := Heap.get?_push_size _ rfl
    have g2 : (mapH3 s₀.heap a).get? (mapH1 s₀.heap a).objs.size = some _ := Heap.get?_push_of_some _ (Heap.get?_push_size _ rfl)
    have g1 : (mapH3 s₀.heap a).get? s₀.heap.objs.size = some _ := Heap.get?_push_of_some _ (Heap.get?_push_of_some _ (Heap.get?_push_size _ rfl))
    refine ⟨⟨_, g3, rfl⟩, k _ _ _ (fun _ _ e => Heap.get?_push_of_some _ (Heap.get?_push_of_some _ (Heap.get?_push_of_some _ e))) ⟨_, _, _, rfl, g3, g2, ⟨_, g1, rfl, rfl⟩, ?_, ?_, ?_, Nat.ne_of_gt F.lt⟩⟩
    · exact Nat.ne_of_gt (by rw [z2]; exact Nat.lt_add_of_pos_right (by decide))
    · exact Nat.ne_of_gt (by rw [z1]; exact Nat.lt_add_of_pos_right (by decide))
    · exact fun b o e => Nat.ne_of_lt (Heap.lt_size (F.keep b o e))
  refine Call_ (Ev.bi (v := .builtin "sum") G (by decide) bt_sum hg hb hk h1 (by decide) F fun f h₁ tk₁ x₁ hf => ?_) he₂
  cases hf
  refine callWith_builtin1 (args_cons (hmap (F.stays x₁) fun v h₂ tk₂ x₂ hv => args_nil ?_) hs₃) hs₃ rfl
  obtain ⟨z, T, it, rfl, hz, hT, hit, n1, n2, n3, n4⟩ := hv
  have F₂ := (F.stays x₁).stays x₂
  have hal : a ≠ it := by obtain ⟨o, ho, _⟩ := hla; exact n3 _ _ ho
  have haa : ∀ b ∈ as, b ≠ it := fun b hb => by
    obtain ⟨i, hi, rfl⟩ := List.mem_iff_getElem.mp hb
    obtain ⟨o, ho, _⟩ := hrows i as[i] (by simp [hi])
    exact n3 _ _ ho
  have St0 : IsMap h₂ z T ∧ IsOne h₂ T it ∧ h₂.IsListIter it a 0 ∧ h₂.IsList a ((as.map Value.ref).toArray) ∧ ∀ i ai, as[i]? = some ai → h₂.IsList ai (((M.getD i []).map Value.bool).toArray) :=
    ⟨hz, hT, hit, hla.get F₂, fun i ai e => (hrows i ai e).get F₂⟩
  have W := (walks_map (prog := prog) (w := w) (A := A.in1) (M := M) hh n1 n2 hal haa).toS
  refine call_sum_walkAnyB (map_self hz ⟨_, _, _, _, _, _, _, (fun i => ((cnt (M.getD i []) : Nat) : Int)), rfl, W, St0, ?_, fun i v hv => .inl hv, fun s' t' hm => ?_⟩)
  · intro b hb
    have lt : ∀ {b o}, h₂.get? b = some o → b < h₂.objs.size := fun e => Heap.lt_size e
    rcases List.mem_cons.mp hb with rfl | hb
    · exact lt hz
    rcases List.mem_cons.mp hb with rfl | hb
    · exact lt hT
    rcases List.mem_cons.mp hb with rfl | hb
    · obtain ⟨o, ho, _⟩ := hit; exact lt ho
    rcases List.mem_cons.mp hb with rfl | hb
    · obtain ⟨o, ho, _⟩ := St0.2.2.2.1; exact lt ho
    · obtain ⟨i, hi, rfl⟩ := List.mem_iff_getElem.mp hb
      obtain ⟨o, ho, _⟩ := St0.2.2.2.2 i as[i] (by simp [hi]); exact lt ho
  · rw [preSum_tot, hlen]
    obtain ⟨hp, g, dr, tk, os⟩ := s'
    obtain ⟨m1, m2, m3, m4, m5⟩ := hm
    dsimp only at m1 m2 m3 m4 m5
    subst m2 m3 m4
    refine k _ hp tk (fun b o e => m1 b o (fun q => ?_) (x₂ _ _ (x₁ _ _ e))) ⟨t', rfl⟩
    by_cases hbl : b = env.locals
    · rw [hbl] at q; exact n4 (List.mem_singleton.mp q).symm
    · exact n3 b o (Bof_of e (by simpa using hbl)) (List.mem_singleton.mp q)
end
end Mine
end

section
open PySem PySem.W PySem.Calls PyProof.Rows
set_option linter.unusedVariables false
set_option maxRecDepth 100000
set_option maxHeartbeats 4000000
namespace Mine

section
variable {prog : Program} {w : World} {A : Around} {env : Env} {B : Addr → Option Obj} {m mg mb : Vs}
theorem op_pow2 {n : Nat} (hn : n ≤ 100) : Op2 prog w A .Pow (IsI (n : Int)) (IsI 2) (IsI ((n : Int) ^ 2)) := fun _ _ ⟨_, e₁⟩ ⟨_, e₂⟩ => by
  subst e₁ e₂
  refine fun h => pow_int (by decide) ?_ (h _ _ ⟨_, rfl⟩)
  have : Builtin.Int.intBits (n : Int) ≤ 7 := intBits_nat (by omega)
  omega
theorem op_divF {x : UInt64} {b : Int} (h1 : ¬ Float64.isInf (Float64.ofInt b) = true) (h2 : ¬ Float64.isZero (Float64.ofInt b) = true) : Op2 prog w A .Div (IsF x) (IsI b) (IsF (Float64.div x (Float64.ofInt b))) := fun _ _ ⟨_, e₁⟩ ⟨_, e₂⟩ => by
  subst e₁ e₂; exact fun h => AutoFloatOps.truediv_fi_2 h1 h2 (h _ _ ⟨_, rfl⟩)
theorem op_mulF {x : UInt64} {b : Int} (h1 : ¬ Float64.isInf (Float64.ofInt b) = true) : Op2 prog w A .Mult (IsF x) (IsI b) (IsF (Float64.mul x (Float64.ofInt b))) := fun _ _ ⟨_, e₁⟩ ⟨_, e₂⟩ => by
  subst e₁ e₂; exact fun h => AutoFloatOps.mul_fi_1 h1 (h _ _ ⟨_, rfl⟩)
theorem op_subF {x : UInt64} {b : Int} (h1 : ¬ Float64.isInf (Float64.ofInt b) = true) : Op2 prog w A .Sub (IsF x) (IsI b) (IsF (Float64.sub x (Float64.ofInt b))) := fun _ _ ⟨_, e₁⟩ ⟨_, e₂⟩ => by
  subst e₁ e₂; exact fun h => AutoFloatOps.sub_fi_1 h1 (h _ _ ⟨_, rfl⟩)
end
theorem cnt_le (r : List Bool) : cnt r ≤ r.length := List.count_le_length
theorem tot_le {M : List (List Bool)} {n : Nat} (hM : Sq M n) : ∀ k, k ≤ n → tot M k ≤ k * n
  | 0, _ => by simp [tot, sumN]
  | k + 1, hk => by
    have h1 := tot_le hM k (by omega)
    have h2 := cnt_le (M.getD k [])
    rw [hM.2 k (by omega)] at h2
    show tot M k + cnt (M.getD k []) ≤ (k + 1) * n
    rw [Nat.add_mul]; omega

theorem level4_spec {prog : Program} {w : World} {mg mb : Vs} {M : List (List Bool)} {n : Nat} (hM : Sq M n) (hn : 1 ≤ n) (hn' : n ≤ 11) :
    Spec prog w mg mb (Str.ofString "_lost_point_level4") 2 (figPre M n) (fun _ _ _ v => IsI (rate n (tot M n) * 10) v) := by
  refine Spec.intro _ rfl rfl rfl rfl rfl rfl (fun vs => (["modules", "modules_count"] : List PySem.Str).zip vs) ?_ ?_ ?_
  · rintro h vals pm cd doc ⟨a, v, rfl, _⟩
    rfl
  · rintro h vals ⟨a, v, rfl, _⟩
    exact locs rfl
  · rintro A s vals f cd h₁ hA G ⟨a, vn, rfl, hvn, hR⟩ F
    dsimp only [itemOf]
    have GB := G.gb
    have hd : tot M n ≤ n * n := tot_le hM n (Nat.le_refl _)
    have hnn : n * n ≤ 121 := Nat.mul_le_mul hn' hn'
    obtain ⟨sg, mm, ee, hdec, htr⟩ := chk_all hn hn' hd
    have hM1 := hM.1
    refine ex_let F (Ev.sumMap (A := A.deeper _) hA.1 GB rfl hR) fun v₁ h₂ tk₂ hv₁ F₂ _ => ?_
    rw [hM1] at hv₁
    refine ex_let F₂ (P := IsF (f1 n (tot M n))) (Ev.bin (P₁ := IsF (Float64.ofInt ((tot M n : Nat) : Int))) (EvO.callT GB (by decide) bt_float (EvL.consV (Ev.name (v := v₁) rfl hv₁) EvL.nil) (fun vs s hv F {_ _} k => by
        obtain ⟨v, vs', rfl, ⟨t, rfl⟩, rfl⟩ := hv
        exact call_float_int_fits (Nat.lt_of_le_of_lt (show _ ≤ 121 by simp only [Int.natAbs_natCast]; omega) (by decide +kernel)) (k _ _ _ (.refl _) ⟨_, rfl⟩)))
      (Ev.bin (Ev.name (v := vn) rfl hvn) Ev.int (op_pow2 (by omega))) (op_divF (Float64.ofInt_fits (Nat.lt_of_le_of_lt (show _ ≤ 121 by rw [Int.natAbs_pow]; simp only [Int.natAbs_natCast]; rw [Nat.pow_two]; omega) (by decide +kernel))) (nz_all hn hn')))
      fun v₃ h₄ tk₄ hv₃ F₄ _ => ?_
    refine ex_let F₄ (P := IsI (rate n (tot M n))) (EvO.callT GB (by decide) bt_int (EvL.consV (Ev.bin (P₁ := IsF (Float64.abs (Float64.sub (Float64.mul (f1 n (tot M n)) (Float64.ofInt 100)) (Float64.ofInt 50)))) (EvO.callB GB (by decide) bt_abs (EvL.consV (Ev.bin (Ev.bin (Ev.name (v := v₃) rfl hv₃) Ev.int (op_mulF isInf_100)) Ev.int (op_subF isInf_50)) EvL.nil) (fun vs s hv F {_ _} k => by
        obtain ⟨v, vs', rfl, ⟨t, rfl⟩, rfl⟩ := hv
        exact PySem.Flt.call_abs_float (k _ _ _ (.refl _) ⟨_, rfl⟩))) Ev.int (op_divF isInf_5 isZero_5)) EvL.nil) (fun vs s hv F {_ _} k => by
        obtain ⟨v, vs', rfl, ⟨t, rfl⟩, rfl⟩ := hv
        exact call_int_float hdec (k _ _ _ (.refl _) ⟨_, by rw [htr]⟩))) fun v₅ h₆ tk₆ hv₅ F₆ _ => ?_
    refine ex_ret F₆ (Ev.bin (Ev.name (v := v₅) rfl hv₅) Ev.int (op_mul (.of_right (by decide +kernel)))) fun v h'' tk'' x hv => ⟨h'', tk'', rfl, fun b o e => x _ _ (F₆.keep _ _ e), hv⟩
end Mine
end

section
open PySem PySem.W PySem.Calls PyProof.Rows
set_option linter.unusedVariables false
set_option maxRecDepth 100000
namespace Mine

theorem rep_one (v : Value) : ∀ (k : Nat) (acc : Array Value), List.foldl (fun x1 x2 => x1 ++ x2) acc (List.replicate k #[v]) = acc ++ (List.replicate k v).toArray
  | 0, acc => by simp
  | k + 1, acc => by
    rw [List.replicate_succ, List.foldl_cons, rep_one v k, List.replicate_succ]
    apply Array.ext'
    simp

/-- a list by a number: a new list at the heap's end -/
theorem mulE {prog : Program} {w : World} {A : Around} {E : Value → Shared → Prop} {s : Shared} {l : Addr} {items : Array Value} {k : Nat} {x : Int} {u : Tok} {Q : Value → Shared → Prop}
    (hl : s.heap.get? l = some { cls := .type "list", dict := none, data := .seq items k, slots := #[] }) (hlo : -(2 ^ 63 : Int) ≤ x) (hhi : x < 2 ^ 63) (hsz : items.size * x.toNat ≤ 2 ^ 24)
    (h : Q (.ref s.heap.objs.size) { s with heap := s.heap.push { cls := .type "list", data := .seq (List.foldl (fun x1 x2 => x1 ++ x2) #[] (List.replicate (if items.isEmpty = true then 0 else x.toNat) items)) } }) :
    wpAny (model prog w) A (binaryOp .Mult (.ref l) (.int x u)) Q E s :=
  wpAny_binaryOp_repeat_ref (T := "list") (U := "int") (by decide) ⟨_, hl, rfl⟩ (fun s' => typeIs_int s' x u) noFill_list_mul PySem.F.fills_int_mul PySem.F.slot_int_rmul repeat_list PySem.F.slot_int_index.lookup
    (call_meets PySem.F.slot_int_rmul (typeIs_int s x u) PySem.F.entry_int_rmul (PySem.F.args_int_rmul_2 _ _) (int___rmul___int_list x u l items k)
      ⟨hl, rfl, ⟨_, hl, rfl⟩, call_meets PySem.F.slot_list_mul ⟨_, hl, rfl⟩ PySem.F.entry_list_mul (PySem.F.args_list_mul_2 _ _)
        (AutoListH.list___mul___list_int_3 l items k x u (by simp [Builtin.List.listFitsIndex]; omega) (by omega) (by simp [Builtin.List.listTooLong, sizeLine]; omega))
        ⟨hl, h⟩⟩)

section
variable {prog : Program} {w : World} {A : Around} {env : Env} {B : Addr → Option Obj} {m mg mb : Vs} {L : Addr}

/-- a new list of the one value of e, so many times -/
def IsRep (P : Value → Prop) (k : Nat) (B : Addr → Option Obj) (L : Addr) (h : Heap) (v : Value) : Prop := ∃ C x, v = .ref C ∧ P x ∧ h.IsList C ((List.replicate k x).toArray) ∧ B C = none ∧ C ≠ L
theorem EvO.mulList {e r : Expr} {p1 p2 : Pos} {P : Value → Prop} {k : Nat} (he : Ev prog w A env B m e P) (hr : Ev prog w A env B m r (IsI (k : Int))) (hk : k ≤ 1000)
    (hs : starEach [e] env = (false, eval e env) :: starEach [] env := by rfl) :
    EvO prog w A env B m (.BinOp (.List [e] p1) .Mult r p2) (IsRep P k B env.locals) := fun {Q E s} F h => by
  refine wpAny_BinOp (List_ (args_cons (he F fun v₁ h₁ tk₁ x₁ hv₁ => args_nil ?_) hs))
  refine wpAny_newObj_type ?_ (by size_fits)
  have x₂ : Ext h₁ (h₁.push { cls := .type "list", data := .seq #[v₁] }) := fun _ _ e => Heap.get?_push_of_some _ e
  refine hr ((F.stays x₁).stays x₂) fun v₃ h₃ tk₃ x₃ hv₃ => ?_
  obtain ⟨t, rfl⟩ := hv₃
  have F₃ := ((F.stays x₁).stays x₂).stays x₃
  have hl : h₃.get? h₁.objs.size = some { cls := .type "list", dict := none, data := .seq #[v₁], slots := #[] } := x₃ _ _ (Heap.get?_push_size _ rfl)
  refine mulE (s := { s with heap := h₃, toks := tk₃ }) hl (by omega) (by omega) ?_ ?_
  · show 1 * ((k : Int)).toNat ≤ 2 ^ 24
    rw [Int.toNat_natCast, Nat.one_mul]; exact Nat.le_trans hk (by decide)
  have hrep : (List.foldl (fun x1 x2 => x1 ++ x2) #[] (List.replicate (if (#[v₁] : Array Value).isEmpty = true then 0 else ((k : Nat) : Int).toNat) #[v₁])) = (List.replicate k v₁).toArray := by
    rw [show (if (#[v₁] : Array Value).isEmpty = true then 0 else ((k : Nat) : Int).toNat) = k from rfl, rep_one]
    simp only [Array.empty_append]
  rw [hrep]
  refine h (.ref h₃.objs.size) _ tk₃ (((x₁.trans x₂).trans x₃).trans fun _ _ e => Heap.get?_push_of_some _ e) ⟨h₃.objs.size, v₁, rfl, hv₁, ⟨_, Heap.get?_push_size _ rfl, rfl, 0, rfl⟩, ?_, ?_⟩
  · cases e : B h₃.objs.size with
    | none => rfl
    | some o => exact absurd (Heap.lt_size (F₃.keep _ _ e)) (Nat.lt_irrefl _)
  · exact Nat.ne_of_gt F₃.lt

/-- a name that the def shares with a block within -/
theorem Ev.cellName {x pos c o v} {P : Value → Prop} (hc : env.cells.lookup x = some c) (hB : B c = some o) (hd : o.data = .cell (some v)) (hP : P v)
    (hk : env.scope.kind = .function := by rfl) (hl : env.kindOf x = some .cell := by rfl) (hdb : (x == ("__debug__" : PySem.Str)) = false := by decide) :
    Ev prog w A env B m (.Name x pos) P := fun {_ _ s} F h =>
  wpAny_Name (wpAny_loadName_cell hk hl hc ⟨o, F.keep _ _ hB, hd⟩ (h v s.heap s.toks (.refl _) hP)) hdb
theorem Ev.freeName {x pos c o v} {P : Value → Prop} (hc : env.cells.lookup x = some c) (hB : B c = some o) (hd : o.data = .cell (some v)) (hP : P v)
    (hk : env.scope.kind = .function := by rfl) (hl : env.kindOf x = some .free := by rfl) (hdb : (x == ("__debug__" : PySem.Str)) = false := by decide) (hcl : (x == ("__classdict__" : PySem.Str)) = false := by decide) :
    Ev prog w A env B m (.Name x pos) P := fun {_ _ s} F h =>
  wpAny_Name (wpAny_loadName_free hk hl hc ⟨o, F.keep _ _ hB, hd⟩ (h v s.heap s.toks (.refl _) hP) hcl) hdb
theorem ex_assignC {x px e pos rest c} {v₀ : Option Value} {P : Heap → Value → Prop} {Q : Flow → Shared → Prop} {E s} (F : Fm B env.locals s.heap m) (hc : env.cells.lookup x = some c) (hcell : s.heap.IsCell c v₀) (hcB : B c = none) (hcL : c ≠ env.locals)
    (he : EvO prog w A env B m e P)
    (k : ∀ v h₁ h' tk, Ext s.heap h₁ → P h₁ v → Fm B env.locals h' m → h'.IsCell c (some v) → Heap.SameBut c h₁ h' → wpAny (model prog w) A (execs rest env) Q E { s with heap := h', toks := tk })
    (hk : env.scope.kind = .function := by rfl) (hl : env.kindOf x = some .cell := by rfl)
    (hs : swapsWith e (some (.Name x px)) pos.line env = pure false := by rfl) : wpAny (model prog w) A (execs (.Assign [.Name x px] e pos :: rest) env) Q E s :=
  wpAny_execs_cons (wpAny_Assign_Name (he F fun v h₁ _ x₁ hv => wpAny_storeName_cell hk hl hc (hcell.keeps x₁) fun h' hv' hsb => k v _ h' _ x₁ hv
    ⟨(F.stays x₁).ns.sameBut hsb (Ne.symm hcL), fun b o e => (hsb.2 b (fun q => by rw [q, hcB] at e; cases e)).trans ((F.stays x₁).keep b o e), F.off⟩ hv' hsb) hs)

/-- o[x] += 1 -/
theorem ex_augSub {o : Expr} {x : PySem.Str} {px pos' pos p1 : Pos} {k1 : Nat} {rest C} {items : Array Value} {j a : Nat} {vx v₀ : Value} {Q : Flow → Shared → Prop} {E s} (F : Fm B env.locals s.heap m)
    (ho : Ev prog w A env B m o (IsR C)) (hx : m x = some vx) (hvx : IsU j vx) (hC : s.heap.IsList C items) (hCB : B C = none) (hCL : C ≠ env.locals) (hj : j < items.size) (hj' : j < 2 ^ 60) (h0 : items[j]? = some v₀) (hv₀ : IsU a v₀)
    (k : ∀ v h' tk, IsU (a + 1) v → Fm B env.locals h' m → h'.IsList C (items.setIfInBounds j v) → (∀ b o, b ≠ C → s.heap.get? b = some o → h'.get? b = some o) → wpAny (model prog w) A (execs rest env) Q E { s with heap := h', toks := tk })
    (hk : env.scope.kind = .function := by rfl) (hl : env.kindOf x = some .local := by rfl) (hdb : (x == ("__debug__" : PySem.Str)) = false := by decide) :
    wpAny (model prog w) A (execs (.AugAssign (.Subscript o (.Name x px) pos') .Add (.Constant (.int 1) k1 p1) pos :: rest) env) Q E s := by
  refine wpAny_execs_cons (wpAny_AugAssign_Subscript (ho F fun v h₁ tk₁ x₁ hv => Ev.name hx hvx hk hl hdb (F.stays x₁) fun v₂ h₂ tk₂ x₂ hv₂ => ?_))
  cases hv; obtain ⟨t₂, rfl⟩ := hv₂
  have F₂ := (F.stays x₁).stays x₂
  have hC₂ : h₂.IsList C items := hC.at fun o e => x₂ _ _ (x₁ _ _ e)
  refine wpAny_getItem_list (s := { s with heap := h₂, toks := tk₂ }) hC₂ (by omega) (by omega) (by simpa using h0) ?_
  refine Ev.nat (n := 1) (prog := prog) (w := w) (A := A) (env := env) F₂ fun v₃ h₃ tk₃ x₃ hv₃ => ?_
  refine ui_add _ _ hv₀ hv₃ fun v₄ tk₄ hv₄ => ?_
  refine wpAny_setItem_list (s := { s with heap := h₃, toks := tk₄ }) (hC₂.at fun o e => x₃ _ _ e) (by omega) (by omega) (by omega) fun h' hC' hsb => ?_
  refine k v₄ h' tk₄ hv₄ ⟨?_, ?_, F.off⟩ (by simpa using hC') fun b o n e => (hsb.2 b n).trans (x₃ _ _ (x₂ _ _ (x₁ _ _ e)))
  · exact (F₂.stays x₃).ns.sameBut hsb (Ne.symm hCL)
  · exact fun b o e => (hsb.2 b (fun q => by rw [q, hCB] at e; cases e)).trans ((F₂.stays x₃).keep b o e)
end
end Mine
end

section
open PySem PySem.W PySem.Calls PyProof.Rows
set_option linter.unusedVariables false
set_option maxRecDepth 100000
set_option maxHeartbeats 4000000
namespace Mine

-- the runs of a line
def pts (l : Nat) : Nat := if 5 ≤ l then l - 2 else 0
def runLen (g : Nat → Bool) : Nat → Nat
  | 0 => 0
  | j + 1 => if g j = g (j - 1) then runLen g j + 1 else 1
def runPts (g : Nat → Bool) : Nat → Nat
  | 0 => 0
  | j + 1 => if g j = g (j - 1) then runPts g j else runPts g j + pts (runLen g j)
def lineTot (g : Nat → Bool) (n : Nat) : Nat := runPts g n + pts (runLen g n)
theorem runLen_le (g : Nat → Bool) : ∀ j, runLen g j ≤ j
  | 0 => Nat.le_refl _
  | j + 1 => by
    have := runLen_le g j
    rw [runLen]; split <;> omega
def lvl1 (M : List (List Bool)) (n : Nat) : Nat := sumN (fun i => lineTot (fun j => cell M i j) n) n + sumN (fun c => lineTot (fun j => cell M j c) n) n

-- the list of the runs
def score (cs : Nat → Nat) (n : Nat) : Nat := sumN (fun i => cs (5 + i) * (3 + i)) (n - 4)
theorem sumN_upd (f g : Nat → Nat) (a d : Nat) : ∀ k, (∀ i, i < k → i ≠ a → g i = f i) → (a < k → g a = f a + d) → sumN g k = sumN f k + (if a < k then d else 0)
  | 0, _, _ => by simp [sumN]
  | k + 1, h1, h2 => by
    have ih := sumN_upd f g a d k (fun i hi hn => h1 i (by omega) hn) (fun hk => h2 (by omega))
    rw [sumN, sumN, ih]
    by_cases hak : a = k
    · subst hak
      rw [h2 (by omega), if_neg (Nat.lt_irrefl _), if_pos (by omega)]; omega
    · rw [h1 k (by omega) (Ne.symm hak)]
      by_cases hlt : a < k
      · rw [if_pos hlt, if_pos (by omega)]; omega
      · rw [if_neg hlt, if_neg (by omega)]; omega
theorem score_upd {cs : Nat → Nat} {l n : Nat} (h5 : 5 ≤ l) (hn : l ≤ n) : score (fun k => if k = l then cs k + 1 else cs k) n = score cs n + (l - 2) := by
  unfold score
  rw [sumN_upd (fun i => cs (5 + i) * (3 + i)) _ (l - 5) (l - 2) (n - 4) ?_ ?_, if_pos (by omega)]
  · intro i _ hi
    show (if 5 + i = l then cs (5 + i) + 1 else cs (5 + i)) * (3 + i) = _
    rw [if_neg (by omega)]
  · intro _
    show (if 5 + (l - 5) = l then cs (5 + (l - 5)) + 1 else cs (5 + (l - 5))) * (3 + (l - 5)) = _
    rw [if_pos (by omega), show 5 + (l - 5) = l by omega, show 3 + (l - 5) = l - 2 by omega, Nat.add_mul]; omega

/-- the list at C holds counts, of this score -/
def CS (C : Addr) (n T : Nat) (h : Heap) : Prop := ∃ (cs : Nat → Nat) (items : Array Value), h.IsList C items ∧ items.size = n + 1 ∧ (∀ k, k ≤ n → ∃ v, items[k]? = some v ∧ IsU (cs k) v) ∧ score cs n = T
theorem CS.at {C n T h h'} (x : CS C n T h) (e : ∀ o, h.get? C = some o → h'.get? C = some o) : CS C n T h' := let ⟨cs, items, h1, r⟩ := x; ⟨cs, items, h1.at e, r⟩
theorem CS.has {C n T h} (x : CS C n T h) : ∃ o, h.get? C = some o := let ⟨_, _, ⟨o, ho, _⟩, _⟩ := x; ⟨o, ho⟩

section
variable {prog : Program} {w : World} {A : Around} {env : Env} {B : Addr → Option Obj} {m mg mb : Vs} {L : Addr}
/-- if length >= 5: container[length] += 1 -/
theorem ex_bump {x y : PySem.Str} {p1 p2 p3 p4 p5 p6 p7 p8 p9 : Pos} {k1 k2 : Nat} {rest : List Stmt} {C c : Addr} {oc : Obj} {n l T : Nat} {vl : Value} {Q : Flow → Shared → Prop} {E s} (F : Fm B env.locals s.heap m)
    (hx : m x = some vl) (hvl : IsU l vl) (hc : env.cells.lookup y = some c) (hcB : B c = some oc) (hcd : oc.data = .cell (some (.ref C))) (hCB : B C = none) (hCL : C ≠ env.locals) (hl : l ≤ n) (hn : n ≤ 100) (hS : CS C n T s.heap)
    (k : ∀ h' tk, Fm B env.locals h' m → CS C n (T + pts l) h' → (∀ b o, b ≠ C → s.heap.get? b = some o → h'.get? b = some o) → wpAny (model prog w) A (execs rest env) Q E { s with heap := h', toks := tk })
    (hk : env.scope.kind = .function := by rfl) (hkl : env.kindOf x = some .local := by rfl) (hky : env.kindOf y = some .cell := by rfl) (hd1 : (x == ("__debug__" : PySem.Str)) = false := by decide) (hd2 : (y == ("__debug__" : PySem.Str)) = false := by decide) :
    wpAny (model prog w) A (execs (.If (.Compare (.Name x p1) [.GtE] [.Constant (.int 5) k1 p2] p3) [.AugAssign (.Subscript (.Name y p4) (.Name x p5) p6) .Add (.Constant (.int 1) k2 p7) p8] [] p9 :: rest) env) Q E s := by
  refine ex_if F (EvT.cmp (Ev.name hx hvl hk hkl hd1) Ev.int cmp_geI) (fun hb h₁ tk₁ x₁ F₁ => ?_) (fun hb h₁ tk₁ x₁ F₁ => ?_)
  · have h5 : 5 ≤ l := by have : ((l : Nat) : Int) ≥ 5 := by simpa using hb
                          omega
    obtain ⟨cs, items, hL, hsz, hit, hsc⟩ := hS
    obtain ⟨v₀, hv₀, hu₀⟩ := hit l hl
    refine ex_augSub F₁ (Ev.cellName hc hcB hcd (IsR.mk (a := C)) hk hky hd2) hx hvl (hL.at fun o e => x₁ _ _ e) hCB hCL (by omega) (by omega) hv₀ hu₀ (fun v h' tk hv F₂ hL₂ hk₂ => ?_) hk hkl hd1
    refine ex_nil (k h' tk F₂ ⟨fun k => if k = l then cs k + 1 else cs k, _, hL₂, by simp [hsz], fun j hj => ?_, ?_⟩ fun b o n e => hk₂ b o n (x₁ _ _ e))
    · by_cases hjl : j = l
      · subst hjl
        refine ⟨v, ?_, ?_⟩
        · rw [Array.getElem?_setIfInBounds]; simp; omega
        · simpa using hv
      · obtain ⟨w, hw, hu⟩ := hit j hj
        refine ⟨w, ?_, ?_⟩
        · rw [Array.getElem?_setIfInBounds, if_neg (Ne.symm hjl)]; exact hw
        · simpa [hjl] using hu
    · rw [score_upd h5 hl, hsc]; unfold pts; rw [if_pos h5]
  · have h5 : ¬ 5 ≤ l := by intro q; have : ¬ ((l : Nat) : Int) ≥ 5 := by simpa using hb
                            omega
    refine ex_nil (k h₁ tk₁ F₁ ?_ fun b o _ e => x₁ _ _ e)
    have : pts l = 0 := if_neg h5
    rw [this]; exact hS.at fun o e => x₁ _ _ e
end
end Mine
end

section
open PySem PySem.W PySem.Calls PyProof.Rows
set_option linter.unusedVariables false
set_option maxRecDepth 100000
set_option maxHeartbeats 4000000
namespace Mine

/-- the code of level 1's def and its table of blocks, still empty -/
def TabAt (mg : Vs) (h : Heap) (c P : Addr) : Prop :=
  ∃ a o fd, mg (Str.ofString "_lost_point_level1") = some (.ref a) ∧ h.get? a = some o ∧ o.data = .func fd ∧ fd.code = .ref c ∧ h.IsCode c P #[] ∧ h.TableAt c P #[]

/-- what a call that makes a generator leaves -/
def Left (c P : Addr) (s s' : Shared) : Prop := s'.os = s.os ∧ AllBare s'.gens ∧ (∃ more, s'.heap.TableAt c P more) ∧ Heap.ExtBut P s.heap s'.heap

theorem Ev.use {prog : Program} {w : World} {A : Around} {env : Env} {B : Addr → Option Obj} {m : Vs} {e : Expr} {P : Value → Prop} {Q : Value → Shared → Prop} {E : Value → Shared → Prop} {s : Shared} (F : Fm B env.locals s.heap m)
    (h : ∀ v h' tk, Ext s.heap h' → P v → Q v { s with heap := h', toks := tk }) (he : Ev prog w A env B m e P) : wpAny (model prog w) A (eval e env) Q E s := he F h
theorem passing_all (n : Nat) : passing (fun _ => true) n 0 = List.range n := by simp [passing]
theorem preSum_sumN (f : Nat → Nat) : ∀ k, preSum (fun j => ((f j : Nat) : Int)) k = ((sumN f k : Nat) : Int)
  | 0 => rfl
  | k + 1 => by rw [preSum, preSum_sumN f k, sumN]; push_cast; rfl
theorem walksR {prog : Program} {w : World} {A : Around} (hh : A.handled = none) (I : Addr) (a c : Int) (n : Nat) :
    Walks prog w A I [I] [I] n (fun i v => i < n ∧ ∃ t, v = .int (a + i * c) t) (fun i h => IsRangeIter h I (a + (i : Nat) * c) ((n : Int) - (i : Nat)) c) :=
  have W := Walks.range (prog := prog) (w := w) hh I a c n
  ⟨W.sub, W.frame, fun i s Q E hi st hQ => W.item i s Q E hi st fun v h' tk hv => hQ v h' tk ⟨hi, hv⟩, W.done, W.self⟩

theorem level1_spec {prog : Program} {w : World} {mg mb : Vs} {M : List (List Bool)} {n : Nat} (hM : Sq M n) (hn : 1 ≤ n) (hn' : n ≤ 11)
    {A : Around} {s : Shared} {vals : List Value} {f c P bm : Addr} {ob : Obj} (hA : AOk A 3) (G : GI mg mb s.heap) (BM : BMod s.heap mainGlobals mg bm ob) (TA : TabAt mg s.heap c P)
    (hf : mg (Str.ofString "_lost_point_level1") = some (.ref f)) (hpre : figPre M n s.heap vals) (hgens : AllBare s.gens) :
    codeAny (model prog w) A (.call (.ref f) ⟨vals, []⟩) (fun r s' => ∃ v, r = .ok (.ret v) ∧ IsU (lvl1 M n) v ∧ Left c P s s') s := by
  have hd : defs0.find? (fun e => decide (e.name = Str.ofString "_lost_point_level1")) = some (itemOf _) := rfl
  obtain ⟨f', c', o, pm, doc, _, _, h3, h4, h5, h6⟩ := (G.made _ (List.mem_of_find?_eq_some hd)).plain rfl
  obtain ⟨a', o', fd, t1, t2, t3, t4, t5, t6⟩ := TA
  obtain ⟨a, vn, rfl, hvn, hR⟩ := hpre
  have e1 : f' = f := by have := h3.symm.trans hf; cases this; rfl
  subst e1
  have e2 : a' = f' := by rw [hf] at t1; cases t1; rfl
  subst e2
  rw [h4] at t2; cases t2
  have e3 : c' = c := by rw [h5] at t3; cases t3; cases t4; rfl
  subst e3
  dsimp only [itemOf] at h5 h6
  refine call_cells_ret (binds := (["modules", "modules_count"] : List PySem.Str).zip [.ref a, vn]) hA.room h4 h5 G.nolimit h6 rfl (fun x hx => .inl (locs rfl x hx)) (fun h₁ tk F X => ?_) rfl rfl rfl
  have hcell : h₁.IsCell (s.heap.objs.size + 1) none := X.cell (Str.ofString "container") _ rfl
  have hfresh : ∀ b, s.heap.objs.size ≤ b → s.heap.get? b = none := fun b hb => by
    cases e : s.heap.get? b with
    | none => rfl
    | some o => exact absurd (Heap.lt_size e) (Nat.not_lt.mpr hb)
  have F₁ : Fm s.heap.get? s.heap.objs.size h₁ _ := ⟨F.ns, F.keep, hfresh _ (Nat.le_refl _)⟩
  have GB := G.gb
  obtain ⟨hM1, hM2⟩ := hM
  refine ex_let F₁ (Ev.nat (n := 0)) fun vb h₂ tk₂ hvb F₂ kp₂ => ?_
  refine ex_assign F₂ (EvO.range1 GB (n := (n : Int)) (Ev.name (v := vn) rfl hvn)) fun vr h₃ h₄ tk₄ x₃ hvr F₄ hsb => ?_
  obtain ⟨r, t, u, x, rfl, hr⟩ := hvr
  obtain ⟨F₅, hB⟩ := F₂.stored x₃ F₄ hsb hr (by intro _ _ e; cases e)
  have hcell₂ : h₂.IsCell (s.heap.objs.size + 1) none := by
    obtain ⟨o, ho, hd⟩ := hcell; exact ⟨o, kp₂ _ _ (Nat.succ_ne_self _) ho, hd⟩
  have hcell₄ : h₄.IsCell (s.heap.objs.size + 1) none := by
    obtain ⟨o, ho, hd⟩ := hcell₂; exact ⟨o, (hsb.2 _ (Nat.succ_ne_self _)).trans (x₃ _ _ ho), hd⟩
  have hrc : r ≠ s.heap.objs.size + 1 := by
    rintro rfl
    obtain ⟨o, ho, hd⟩ := hcell₂
    rw [x₃ _ _ ho] at hr; cases hr; cases hd
  have hcB : addB s.heap.get? r { cls := .type "range", dict := none, data := .fields #[.int 0 t, .int (n : Int) u, .int 1 x], slots := #[] } (s.heap.objs.size + 1) = none := by
    unfold addB; rw [if_neg (Ne.symm hrc)]; exact hfresh _ (Nat.le_succ _)
  have hrB : RngB (addB s.heap.get? r _) r 0 (n : Int) := ⟨t, u, x, addB_same⟩
  have GB₅ := GB.mono hB
  have hR₅ := hR.mono hB
  generalize addB s.heap.get? r _ = B at F₅ hrB GB₅ hR₅ hB hcB
  refine ex_assignC (c := s.heap.objs.size + 1) F₅ rfl hcell₄ hcB (Nat.succ_ne_self _) (EvO.mulList (k := n + 1) (Ev.nat (n := 0)) (Ev.bin (Ev.name (v := vn) rfl hvn) (Ev.nat (n := 1)) un_add) (by omega)) fun v h₆ h₇ tk₇ x₆ hv F₇ hcell₇ hsb₇ => ?_
  obtain ⟨C, x0, rfl, hx0, hCl, hCB, hCL⟩ := hv
  -- the cell is known from here on, the list turns
  have hcC : C ≠ s.heap.objs.size + 1 := by
    rintro rfl
    obtain ⟨o1, ho1, hc1, n1, hd1⟩ := hCl
    obtain ⟨o2, ho2, hd2⟩ := hcell₄
    rw [x₆ _ _ ho2] at ho1; cases ho1
    rw [hd2] at hd1; cases hd1
  obtain ⟨oc, hoc, hod⟩ := hcell₇
  have F₈ := F₇.know hoc (Nat.succ_ne_self _)
  have hB₈ := addB_mono F₇ hoc
  have hCS : CS C n 0 h₇ := by
    refine ⟨fun _ => 0, _, hCl.at fun o e => (hsb₇.2 C hcC).trans e, by simp, fun k hk => ⟨x0, by rw [List.getElem?_toArray, List.getElem?_replicate, if_pos (by omega)], hx0⟩, ?_⟩
    have : ∀ k, sumN (fun i => (fun _ => 0) (5 + i) * (3 + i)) k = 0 := fun k => by
      induction k with
      | zero => rfl
      | succ k ih => rw [sumN, ih]; simp
    exact this _
  have hCB₈ : addB B (s.heap.objs.size + 1) oc C = none := by unfold addB; rw [if_neg hcC]; exact hCB
  have hcB₈ : addB B (s.heap.objs.size + 1) oc (s.heap.objs.size + 1) = some oc := addB_same
  have GB₈ := GB₅.mono hB₈
  have hR₈ := hR₅.mono hB₈
  have hrB₈ := hrB.mono hB₈
  have hB8 : ∀ b o, s.heap.get? b = some o → addB B (s.heap.objs.size + 1) oc b = some o := fun b o e => hB₈ _ _ (hB _ _ e)
  generalize addB B (s.heap.objs.size + 1) oc = B₂ at F₈ GB₈ hR₈ hrB₈ hB8 hCB₈ hcB₈
  refine ex_for F₈ (PI := IsR r) (n := n) (P := fun i v => IsU i v) ?he ?hit [C]
      (fun i m' h => CS C n (sumN (fun i => lineTot (fun j => cell M i j) n) i) h ∧ m' "modules" = some (.ref a) ∧ m' "modules_range" = some (.ref r) ∧ (m' "lost_point" = some vb ∧ m' "modules_count" = some vn))
      (by simpa using hCB₈) (by simpa using hCS.has) (by simpa using hCL) (fun i m' h h' e x => ⟨x.1.at fun o eo => e C (.head _) o eo, x.2⟩)
      ⟨by simpa [sumN] using hCS, rfl, rfl, rfl, rfl⟩ ?turn ?done
  case he => exact Ev.name (v := .ref r) (by rfl) IsR.mk
  case hit =>
    rintro v rfl
    refine Iterable.mono (Iterable.rng (A := A.deeper _) hA.1 (by omega) (by omega) (by omega) (by omega) hrB₈) (by omega) (fun i v h => ?_)
    unfold IsU; rw [Int.zero_add] at h; exact h
  case turn =>
    rintro i B' m' h'' tk' v hBB' hX hi hv ⟨hS, e1, e2, e3⟩ F₉
    have hCB' : B' C = none := hX C (.head _)
    have GB₉ := GB₈.mono hBB'
    have hR₉ := hR₈.mono hBB'
    have hcB₉ := hBB' _ _ hcB₈
    have hl1 : (M.getD i []).length = n := hM2 i (by omega)
    refine ex_let F₉ (Ev.row hR₉ (Ev.name (by exact e1) IsR.mk) (Ev.name (v := v) rfl hv) rfl (by omega) (by omega)) fun v₁ h₁₀ tk₁₀ hv₁ F₁₀ kp₁₀ => ?_
    obtain ⟨a₁, rfl, hl₁⟩ := hv₁
    refine ex_let F₁₀ (Ev.cellOf (j := 0) hl₁ (Ev.name (v := .ref a₁) rfl IsR.mk) (Ev.nat (n := 0)) rfl (by omega) (by omega)) fun vp h₁₁ tk₁₁ hvp F₁₁ kp₁₁ => ?_
    refine ex_let F₁₁ (Ev.nat (n := 0)) fun v0 h₁₂ tk₁₂ hv0 F₁₂ kp₁₂ => ?_
    have hS₁₂ : CS C n (sumN (fun i => lineTot (fun j => cell M i j) n) i) h₁₂ := hS.at fun o e => kp₁₂ _ _ hCL (kp₁₁ _ _ hCL (kp₁₀ _ _ hCL e))
    refine ex_for F₁₂ (PI := IsR r) (n := n) (P := fun i v => IsU i v) ?he ?hit [C]
      (fun j m' h => CS C n (sumN (fun i => lineTot (fun j => cell M i j) n) i + runPts (fun j => cell M i j) j) h ∧ m' "modules" = some (.ref a) ∧ m' "modules_range" = some (.ref r) ∧ (m' "lost_point" = some vb ∧ m' "modules_count" = some vn) ∧ m' "this_row" = some (.ref a₁) ∧
        (∃ up, m' "previous_color" = some up ∧ IsB (cell M i (j - 1)) up) ∧ ∃ ul, m' "length" = some ul ∧ IsU (runLen (fun j => cell M i j) j) ul)
      (by simpa using hCB') (by simpa using hS₁₂.has) (by simpa using hCL) (fun i m' h h' e x => ⟨x.1.at fun o eo => e C (.head _) o eo, x.2⟩)
      ⟨by simpa [runPts] using hS₁₂, e1, e2, e3, rfl, ⟨vp, rfl, hvp⟩, v0, rfl, hv0⟩ ?turn2 ?done2
    case he => exact Ev.name (v := .ref r) (by exact e2) IsR.mk
    case hit =>
      rintro v rfl
      refine Iterable.mono (Iterable.rng (A := A.deeper _) hA.1 (by omega) (by omega) (by omega) (by omega) (hrB₈.mono hBB')) (by omega) (fun i v h => ?_)
      unfold IsU; rw [Int.zero_add] at h; exact h
    case turn2 =>
      rintro j B'' m₁ h₁₃ tk₁₃ w₁ hBB'' hX'' hj hw₁ ⟨hS', g1, g2, g3, g4, ⟨up, g5, hup⟩, ul, g6, hul⟩ F₁₃
      have hl₁'' := hl₁.mono hBB''
      have hCB'' : B'' C = none := hX'' C (.head _)
      have hcB'' := hBB'' _ _ hcB₉
      have hle := runLen_le (fun j => cell M i j) j
      refine ex_if F₁₃ (EvT.cmp (Ev.cellOf (j := j) hl₁'' (Ev.name (by exact g4) IsR.mk) (Ev.name (v := w₁) rfl hw₁) rfl (by omega) (by omega)) (Ev.name (by exact g5) hup) cmp_eqB) (fun hb h₁₄ tk₁₄ x₁₄ F₁₄ => ?_) (fun hb h₁₄ tk₁₄ x₁₄ F₁₄ => ?_)
      · have heq : cell M i j = cell M i (j - 1) := by simpa using hb
        refine ex_aug F₁₄ (v₀ := ul) g6 hul (Ev.nat (n := 1)) ui_add fun v₆ h₁₅ tk₁₅ hv₆ F₁₅ kp₁₅ => ?_
        refine ex_nil (ex_nil ⟨.inl rfl, h₁₅, tk₁₅, _, rfl, F₁₅, ?_, g1, g2, g3, g4, ⟨up, g5, ?_⟩, v₆, rfl, ?_⟩)
        · have e : runPts (fun j => cell M i j) (j + 1) = runPts (fun j => cell M i j) j := by rw [runPts, if_pos heq]
          rw [e]; exact hS'.at fun o e => kp₁₅ _ _ hCL (x₁₄ _ _ e)
        · rw [show j + 1 - 1 = j by omega, heq]; exact hup
        · have e : runLen (fun j => cell M i j) (j + 1) = runLen (fun j => cell M i j) j + 1 := by rw [runLen, if_pos heq]
          rw [e]; exact hv₆
      · have hne : ¬ cell M i j = cell M i (j - 1) := by simpa using hb
        refine ex_bump F₁₄ (vl := ul) g6 hul rfl hcB'' hod hCB'' hCL (n := n) (by omega) (by omega) (hS'.at fun o e => x₁₄ _ _ e) fun h₁₅ tk₁₅ F₁₅ hS₁₅ kp₁₅ => ?_
        refine ex_let F₁₅ (Ev.nat (n := 1)) fun v₆ h₁₆ tk₁₆ hv₆ F₁₆ kp₁₆ => ?_
        refine ex_let F₁₆ (Ev.cellOf (j := j) hl₁'' (Ev.name (by exact g4) IsR.mk) (Ev.name (v := w₁) rfl hw₁) rfl (by omega) (by omega)) fun v₇ h₁₇ tk₁₇ hv₇ F₁₇ kp₁₇ => ?_
        refine ex_nil (ex_nil ⟨.inl rfl, h₁₇, tk₁₇, _, rfl, F₁₇, ?_, g1, g2, g3, g4, ⟨v₇, rfl, hv₇⟩, v₆, rfl, ?_⟩)
        · have e : runPts (fun j => cell M i j) (j + 1) = runPts (fun j => cell M i j) j + pts (runLen (fun j => cell M i j) j) := by rw [runPts, if_neg hne]
          rw [e, ← Nat.add_assoc]; exact hS₁₅.at fun o e => kp₁₇ _ _ hCL (kp₁₆ _ _ hCL e)
        · have e : runLen (fun j => cell M i j) (j + 1) = 1 := by rw [runLen, if_neg hne]
          rw [e]; exact hv₆
    case done2 =>
      rintro h₁₃ tk₁₃ m₁ F₁₃ ⟨hS', g1, g2, g3, g4, ⟨up, g5, hup⟩, ul, g6, hul⟩
      have hle := runLen_le (fun j => cell M i j) n
      refine ex_bump F₁₃ (vl := ul) g6 hul rfl hcB₉ hod hCB' hCL (n := n) (by omega) (by omega) hS' fun h₁₅ tk₁₅ F₁₅ hS₁₅ kp₁₅ => ?_
      refine ex_nil ⟨.inl rfl, h₁₅, tk₁₅, _, rfl, F₁₅, ?_, g1, g2, g3⟩
      have e : sumN (fun i => lineTot (fun j => cell M i j) n) (i + 1) = sumN (fun i => lineTot (fun j => cell M i j) n) i + runPts (fun j => cell M i j) n + pts (runLen (fun j => cell M i j) n) := by
        rw [sumN, lineTot, Nat.add_assoc]
      rw [e]; exact hS₁₅
  case done =>
    rintro h₂₀ tk₂₀ m₂₀ F₂₀ ⟨hS₂₀, e1, e2, e3⟩
    refine ex_for F₂₀ (PI := IsR r) (n := n) (P := fun i v => IsU i v) ?he ?hit [C]
        (fun i m' h => CS C n (sumN (fun i => lineTot (fun j => cell M i j) n) n + sumN (fun c => lineTot (fun j => cell M j c) n) i) h ∧ m' "modules" = some (.ref a) ∧ m' "modules_range" = some (.ref r) ∧ (m' "lost_point" = some vb ∧ m' "modules_count" = some vn))
        (by simpa using hCB₈) (by simpa using hS₂₀.has) (by simpa using hCL) (fun i m' h h' e x => ⟨x.1.at fun o eo => e C (.head _) o eo, x.2⟩)
        ⟨by simpa [sumN] using hS₂₀, e1, e2, e3⟩ ?turn3 ?done3
    case he => exact Ev.name (v := .ref r) (by exact e2) IsR.mk
    case hit =>
      rintro v rfl
      refine Iterable.mono (Iterable.rng (A := A.deeper _) hA.1 (by omega) (by omega) (by omega) (by omega) hrB₈) (by omega) (fun i v h => ?_)
      unfold IsU; rw [Int.zero_add] at h; exact h
    case turn3 =>
      rintro i B' m' h'' tk' v hBB' hX hi hv ⟨hS, e1, e2, e3⟩ F₉
      have hCB' : B' C = none := hX C (.head _)
      have hR₉ := hR₈.mono hBB'
      have hcB₉ := hBB' _ _ hcB₈
      have hlen : ∀ j, j < n → i < (M.getD j []).length ∧ (M.getD j []).length < 2 ^ 60 := fun j hj => by rw [hM2 j hj]; omega
      refine ex_let F₉ (Ev.cell2 (r := 0) (j := i) hR₉ (Ev.name (by exact e1) IsR.mk) (Ev.nat (n := 0)) (Ev.name (v := v) rfl hv) rfl rfl (by omega) (by omega) (hlen 0 (by omega)).1 (hlen 0 (by omega)).2) fun vp h₁₁ tk₁₁ hvp F₁₁ kp₁₁ => ?_
      refine ex_let F₁₁ (Ev.nat (n := 0)) fun v0 h₁₂ tk₁₂ hv0 F₁₂ kp₁₂ => ?_
      have hS₁₂ : CS C n (sumN (fun i => lineTot (fun j => cell M i j) n) n + sumN (fun c => lineTot (fun j => cell M j c) n) i) h₁₂ := hS.at fun o e => kp₁₂ _ _ hCL (kp₁₁ _ _ hCL e)
      refine ex_for F₁₂ (PI := IsR r) (n := n) (P := fun i v => IsU i v) ?he ?hit [C]
        (fun j m' h => CS C n (sumN (fun i => lineTot (fun j => cell M i j) n) n + sumN (fun c => lineTot (fun j => cell M j c) n) i + runPts (fun j => cell M j i) j) h ∧ m' "modules" = some (.ref a) ∧ m' "modules_range" = some (.ref r) ∧ (m' "lost_point" = some vb ∧ m' "modules_count" = some vn) ∧ m' "col" = some v ∧
          (∃ up, m' "previous_color" = some up ∧ IsB (cell M (j - 1) i) up) ∧ ∃ ul, m' "length" = some ul ∧ IsU (runLen (fun j => cell M j i) j) ul)
        (by simpa using hCB') (by simpa using hS₁₂.has) (by simpa using hCL) (fun i m' h h' e x => ⟨x.1.at fun o eo => e C (.head _) o eo, x.2⟩)
        ⟨by simpa [runPts] using hS₁₂, e1, e2, e3, rfl, ⟨vp, rfl, hvp⟩, v0, rfl, hv0⟩ ?turn4 ?done4
      case he => exact Ev.name (v := .ref r) (by exact e2) IsR.mk
      case hit =>
        rintro v rfl
        refine Iterable.mono (Iterable.rng (A := A.deeper _) hA.1 (by omega) (by omega) (by omega) (by omega) (hrB₈.mono hBB')) (by omega) (fun i v h => ?_)
        unfold IsU; rw [Int.zero_add] at h; exact h
      case turn4 =>
        rintro j B'' m₁ h₁₃ tk₁₃ w₁ hBB'' hX'' hj hw₁ ⟨hS', g1, g2, g3, g4, ⟨up, g5, hup⟩, ul, g6, hul⟩ F₁₃
        have hR'' := hR₉.mono hBB''
        have hCB'' : B'' C = none := hX'' C (.head _)
        have hcB'' := hBB'' _ _ hcB₉
        have hle := runLen_le (fun j => cell M j i) j
        refine ex_if F₁₃ (EvT.cmp (Ev.cell2 (r := j) (j := i) hR'' (Ev.name (by exact g1) IsR.mk) (Ev.name (v := w₁) rfl hw₁) (Ev.name (by exact g4) hv) rfl rfl (by omega) (by omega) (hlen j hj).1 (hlen j hj).2) (Ev.name (by exact g5) hup) cmp_eqB) (fun hb h₁₄ tk₁₄ x₁₄ F₁₄ => ?_) (fun hb h₁₄ tk₁₄ x₁₄ F₁₄ => ?_)
        · have heq : cell M j i = cell M (j - 1) i := by simpa using hb
          refine ex_aug F₁₄ (v₀ := ul) g6 hul (Ev.nat (n := 1)) ui_add fun v₆ h₁₅ tk₁₅ hv₆ F₁₅ kp₁₅ => ?_
          refine ex_nil (ex_nil ⟨.inl rfl, h₁₅, tk₁₅, _, rfl, F₁₅, ?_, g1, g2, g3, g4, ⟨up, g5, ?_⟩, v₆, rfl, ?_⟩)
          · have e : runPts (fun j => cell M j i) (j + 1) = runPts (fun j => cell M j i) j := by rw [runPts, if_pos heq]
            rw [e]; exact hS'.at fun o e => kp₁₅ _ _ hCL (x₁₄ _ _ e)
          · rw [show j + 1 - 1 = j by omega, heq]; exact hup
          · have e : runLen (fun j => cell M j i) (j + 1) = runLen (fun j => cell M j i) j + 1 := by rw [runLen, if_pos heq]
            rw [e]; exact hv₆
        · have hne : ¬ cell M j i = cell M (j - 1) i := by simpa using hb
          refine ex_bump F₁₄ (vl := ul) g6 hul rfl hcB'' hod hCB'' hCL (n := n) (by omega) (by omega) (hS'.at fun o e => x₁₄ _ _ e) fun h₁₅ tk₁₅ F₁₅ hS₁₅ kp₁₅ => ?_
          refine ex_let F₁₅ (Ev.nat (n := 1)) fun v₆ h₁₆ tk₁₆ hv₆ F₁₆ kp₁₆ => ?_
          refine ex_let F₁₆ (Ev.cell2 (r := j) (j := i) hR'' (Ev.name (by exact g1) IsR.mk) (Ev.name (v := w₁) rfl hw₁) (Ev.name (by exact g4) hv) rfl rfl (by omega) (by omega) (hlen j hj).1 (hlen j hj).2) fun v₇ h₁₇ tk₁₇ hv₇ F₁₇ kp₁₇ => ?_
          refine ex_nil (ex_nil ⟨.inl rfl, h₁₇, tk₁₇, _, rfl, F₁₇, ?_, g1, g2, g3, g4, ⟨v₇, rfl, hv₇⟩, v₆, rfl, ?_⟩)
          · have e : runPts (fun j => cell M j i) (j + 1) = runPts (fun j => cell M j i) j + pts (runLen (fun j => cell M j i) j) := by rw [runPts, if_neg hne]
            rw [e, ← Nat.add_assoc]; exact hS₁₅.at fun o e => kp₁₇ _ _ hCL (kp₁₆ _ _ hCL e)
          · have e : runLen (fun j => cell M j i) (j + 1) = 1 := by rw [runLen, if_neg hne]
            rw [e]; exact hv₆
      case done4 =>
        rintro h₁₃ tk₁₃ m₁ F₁₃ ⟨hS', g1, g2, g3, g4, ⟨up, g5, hup⟩, ul, g6, hul⟩
        have hle := runLen_le (fun j => cell M j i) n
        refine ex_bump F₁₃ (vl := ul) g6 hul rfl hcB₉ hod hCB' hCL (n := n) (by omega) (by omega) hS' fun h₁₅ tk₁₅ F₁₅ hS₁₅ kp₁₅ => ?_
        refine ex_nil ⟨.inl rfl, h₁₅, tk₁₅, _, rfl, F₁₅, ?_, g1, g2, g3⟩
        have e : sumN (fun i => lineTot (fun j => cell M i j) n) n + sumN (fun c => lineTot (fun j => cell M j c) n) (i + 1) = sumN (fun i => lineTot (fun j => cell M i j) n) n + sumN (fun c => lineTot (fun j => cell M j c) n) i + runPts (fun j => cell M j i) n + pts (runLen (fun j => cell M j i) n) := by
          rw [sumN, lineTot]; omega
        rw [e]; exact hS₁₅
    case done3 =>
      rintro h₃₀ tk₃₀ m₃₀ F₃₀ ⟨hS₃₀, e1, e2, e3⟩
      obtain ⟨sc, items, hCI, hCsz, hCit, hscore⟩ := hS₃₀
      have hPst : P ≠ cStatics := by
        rintro rfl
        obtain ⟨mc, ⟨o, es, ep, ho, hd, _⟩, _⟩ := G.nolimit
        rw [t6.2] at ho; cases ho; cases hd
      have hBd : Based s.heap s.heap c' P #[] := Based.start t5 t6 hPst
      have hPlt : P < s.heap.objs.size := Heap.lt_size t6.2
      refine wpAny_execs_cons (wpAny_AugAssign_Name (wpAny_loadName_local rfl rfl F₃₀.ns e3.1 ?_))
      refine Call_ (Ev.bi (v := .builtin "sum") GB₈ (by decide) bt_sum rfl rfl rfl rfl (by decide) F₃₀ fun fv h₃₁ tk₃₁ x₃₁ hfv => ?_) rfl
      cases hfv
      refine callWith_builtin1 (args_cons ?_ rfl) rfl rfl
      have F₃₁ := F₃₀.stays x₃₁
      refine GeneratorExp_rowsP (h₁ := s.heap) (h₀ := s.heap) (L := s.heap.objs.size) (m := m₃₀) (cl := [(Str.ofString "container", s.heap.objs.size + 1)]) hBd BM rfl rfl hA.1 rfl rfl (by decide) rfl rfl rfl (hA.deeper (n := 2)).room ?_ (fun _ => rfl)
      have hn1 : IsU (n + 1) (.int ((n + 1 : Nat) : Int) 0) := ⟨_, rfl⟩
      refine EvO.range2 GB₈ (a := 5) (n := ((n + 1 : Nat) : Int)) Ev.int (Ev.bin (Ev.name (v := vn) ?hmc hvn) (Ev.nat (n := 1)) un_add) rfl rfl rfl rfl rfl rfl rfl rfl F₃₁ fun vr h₃₂ tk₃₂ x₃₂ hvr => ?_
      case hmc => exact e3.2
      obtain ⟨r₂, t₂, u₂, y₂, rfl, hr₂⟩ := hvr
      have F₃₂ := F₃₁.stays x₃₂
      have hsz : Builtin.Range.rangeSize 5 ((n + 1 : Nat) : Int) 1 = ((n - 4 : Nat) : Int) := by rw [rangeSize_one]; split <;> omega
      refine wpAny_pyIter_range hr₂ (small_one (by omega) (by omega) (by omega) (by omega)) ?_
      rw [hsz]
      have hItL : s.heap.objs.size < h₃₂.objs.size := F₃₂.lt
      have x₃₃ : Ext h₃₂ (h₃₂.push { cls := .type "range_iterator", data := .fields #[rawInt 5, rawInt ((n - 4 : Nat) : Int), rawInt 1] }) := fun _ _ e => Heap.get?_push_of_some _ e
      have F₃₃ := F₃₂.stays x₃₃
      refine ⟨⟨F₃₃.ns, fun b o e => F₃₃.keep _ _ (hB8 _ _ e), Nat.le_refl _⟩, hgens, G.nolimit.keeps fun b o e => F₃₃.keep _ _ (hB8 _ _ e), h₃₂.objs.size - 1, h₃₂.objs.size, [h₃₂.objs.size], [h₃₂.objs.size], n - 4, _, _, fun _ => true, ?F, ?p1, ?p2, rfl,
        fun A' hA' => walksR hA' h₃₂.objs.size 5 1 (n - 4), ?p3, ?p4, ?p5, ?p6, ?p7, ?p8, ?p9⟩
      case F => exact fun i v => ∃ t, v = .int ((sc (5 + i) * (3 + i) : Nat) : Int) t
      case p1 => exact Nat.le_sub_one_of_lt hItL
      case p2 => rw [Heap.size_push]; exact Nat.lt_succ_of_le (Nat.sub_le _ _)
      case p3 =>
        show IsRangeIter _ _ _ _ _
        have := Heap.get?_push_size (o := { cls := .type "range_iterator", data := .fields #[rawInt 5, rawInt ((n - 4 : Nat) : Int), rawInt 1] }) h₃₂ rfl
        simpa using this
      case p4 => intro b hb; rw [List.mem_singleton.mp hb, Heap.size_push]; exact Nat.lt_succ_self _
      case p5 => intro hm; rw [List.mem_singleton.mp hm] at hPlt; exact absurd (Nat.lt_trans hPlt hItL) (Nat.lt_irrefl _)
      case p6 => intro b hb; rw [List.mem_singleton.mp hb]; exact Nat.sub_lt (Nat.lt_of_le_of_lt (Nat.zero_le _) hItL) Nat.one_pos
      case p7 => exact fun _ _ _ _ _ _ t _ _ _ _ _ _ _ _ _ => wpAny_pure ⟨rfl, t.heap, t.toks, rfl, fun _ _ e => e⟩
      case p8 =>
        intro c'' C' A' E' i v t m₂ hA' hdp hun hPi _ Ft hm₂ hLC hkt
        obtain ⟨hi4, tv, rfl⟩ := hPi
        obtain ⟨oC, hoC, hoCc, nC, hoCd⟩ := hCI
        have hc30 : h₃₀.get? (s.heap.objs.size + 1) = some oc := F₃₀.keep _ _ hcB₈
        have up : ∀ b o, h₃₀.get? b = some o → h₃₂.get? b = some o := fun b o e => x₃₂ _ _ (x₃₁ _ _ e)
        have toT : ∀ b o, b ≠ P → h₃₀.get? b = some o → t.heap.get? b = some o := fun b o hb e => by
          refine hkt b o hb (fun hm => ?_) (x₃₃ _ _ (up _ _ e))
          rw [List.mem_singleton.mp hm] at e
          exact absurd (Heap.lt_size (up _ _ e)) (Nat.lt_irrefl _)
        have hPB : B₂ P = some _ := hB8 _ _ t6.2
        have hCP : C ≠ P := by rintro rfl; rw [hCB₈] at hPB; cases hPB
        have hcP : s.heap.objs.size + 1 ≠ P := Nat.ne_of_gt (Nat.lt_succ_of_lt hPlt)
        have hcT := toT _ _ hcP hc30
        have hCT := toT _ _ hCP hoC
        have hne1 : s.heap.objs.size + 1 ≠ C' := Ns_ne Ft.ns hcT (by rw [hod]; intro _ _ e; cases e)
        have hne2 : C ≠ C' := Ns_ne Ft.ns hCT (by rw [hoCd]; intro _ _ e; cases e)
        have FG : Fm (addB (addB (fun _ => none) C oC) (s.heap.objs.size + 1) oc) C' t.heap m₂ :=
          Fm.know (Fm.know ⟨Ft.ns, fun _ _ e => (nomatch e), rfl⟩ hCT hne2) hcT hne1
        have hLB : LstB (addB (addB (fun _ => none) C oC) (s.heap.objs.size + 1) oc) C items := ⟨oC, by unfold addB; rw [if_neg hcC, if_pos rfl], hoCc, nC, hoCd⟩
        have hj : IsU (5 + i) (.int (5 + (i : Int) * 1) tv) := ⟨tv, by congr 1; push_cast; omega⟩
        obtain ⟨w₁, hw₁, hu₁⟩ := hCit (5 + i) (by omega)
        refine Ev.use (P := IsI (((sc (5 + i) : Nat) : Int) * (((5 + i : Nat) : Int) - 2))) FG (fun y h₄ tk₄ x₄ hy => ⟨?_, h₄, tk₄, rfl, x₄⟩) ?_
        · obtain ⟨t, rfl⟩ := hy
          exact ⟨t, by congr 1; push_cast; rw [show (5 : Int) + (i : Int) - 2 = 3 + i by omega]⟩
        · exact Ev.bin (Ev.subL (k := ((5 + i : Nat) : Int)) (v := w₁) (Ev.freeName rfl addB_same hod IsR.mk) (Ev.name hm₂ hj) hLB (by omega) (by omega) hw₁ hu₁) (Ev.bin (Ev.name hm₂ hj) (Ev.nat (n := 2)) op_sub) (op_mul (.of_right (by rw [show (((5 + i : Nat) : Int) - ((2 : Nat) : Int)) = ((3 + i : Nat) : Int) by omega]; exact Nat.le_trans (intBits_nat (K := 5) (by omega)) (by decide))))
      case p9 =>
        intro c'' ga s₅ B' F' hg5 hos5 hk5 hGen
        refine args_nil ?_
        refine sum_rowsKA F' hg5 hGen (Nat.le_sub_one_of_lt hItL) (fun j => ((sc (5 + j) * (3 + j) : Nat) : Int)) ?_ fun s₆ t₆ F₆ hg6 hos6 hk6 => ?_
        · rintro j v ⟨k, hk, t, rfl⟩
          refine ⟨t, ?_⟩
          rw [passing_all] at hk
          obtain ⟨_, rfl⟩ := List.getElem?_eq_some_iff.mp hk
          rw [List.getElem_range]
        · rw [passing_all, List.length_range, preSum_sumN]
          obtain ⟨t0, rfl⟩ := hvb
          refine iadd_int ?_
          refine wpAny_storeName_local rfl F₆.ns (fun h₇ hn₇ hsb₇ => ?_) rfl
          refine wpAny_execs_cons (wpAny_Return_some (wpAny_Name (wpAny_loadName_local rfl rfl hn₇ (if_pos rfl) ?_) (by decide)))
          have hkL : ∀ b o, (regrown s.heap P _).get? b = some o → h₇.get? b = some o := fun b o e => (hsb₇.2 b (Nat.ne_of_lt (Nat.lt_of_lt_of_le (Heap.lt_size e) F₆.above))).trans (F₆.keep _ _ e)
          refine ⟨_, rfl, ?_, ?_⟩
          · have : score sc n = lvl1 M n := hscore
            rw [← this]
            refine ⟨s₆.toks, ?_⟩
            show Value.int (((0 : Nat) : Int) + _) _ = _
            congr 1
            show (((0 : Nat) : Int) + _) = _
            rw [Int.natCast_zero, Int.zero_add]; rfl
          · exact ⟨hos6.trans hos5, hg6, ⟨_, B'.tab.keeps hkL⟩, fun b o hb e => hkL _ _ (regrown_other s.heap P _ b o hb e)⟩
end Mine
end

section
open PySem PySem.W PySem.Calls PyProof.Rows
set_option linter.unusedVariables false
set_option maxRecDepth 100000
set_option maxHeartbeats 4000000
namespace Mine

/-- all that stands but for the table P -/
def offP (h : Heap) (P : Addr) : Addr → Option Obj := fun b => if b = P then none else h.get? b
theorem offP_of {h P b o} (e : h.get? b = some o) (n : b ≠ P) : offP h P b = some o := by unfold offP; rw [if_neg n]; exact e
theorem offP_some {h P b o} (e : offP h P b = some o) : h.get? b = some o ∧ b ≠ P := by
  unfold offP at e; split at e
  · cases e
  · exact ⟨e, by assumption⟩

theorem TabAt.notStatics {mg mb : Vs} {h : Heap} {c P : Addr} (T : TabAt mg h c P) (G : GI mg mb h) : P ≠ cStatics := by
  obtain ⟨a', o', fd, t1, t2, t3, t4, t5, t6⟩ := T
  rintro rfl
  obtain ⟨mc, ⟨o, es, ep, ho, hd, _⟩, _⟩ := G.nolimit
  rw [t6.2] at ho; cases ho; cases hd
theorem TabAt.based {mg mb : Vs} {h : Heap} {c P : Addr} (T : TabAt mg h c P) (G : GI mg mb h) : Based h h c P #[] :=
  let ⟨_, _, _, _, _, _, _, t5, t6⟩ := T; Based.start t5 t6 (T.notStatics G)
theorem TabAt.keeps {mg : Vs} {h h' : Heap} {c P : Addr} (T : TabAt mg h c P) (x : Ext h h') : TabAt mg h' c P :=
  let ⟨a, o, fd, t1, t2, t3, t4, t5, t6⟩ := T; ⟨a, o, fd, t1, x _ _ t2, t3, t4, t5.keeps x, t6.keeps x⟩
theorem cls_off {h : Heap} {c P b : Addr} {o : Obj} (T : h.TableAt c P #[]) (e : h.get? b = some o) (hc : o.cls ≠ .none) : b ≠ P := by
  rintro rfl; rw [T.2] at e; cases e; exact hc rfl

theorem GI.off {mg mb : Vs} {h h' : Heap} {c P : Addr} (G : GI mg mb h) (T : TabAt mg h c P) (up : ∀ b o, b ≠ P → h.get? b = some o → h'.get? b = some o) : GI mg mb h' := by
  have B := T.based G
  refine ⟨G.g.at fun o e => up _ o (B.ne_of_ns G.g) e, G.b.at fun o e => up _ o (B.ne_of_ns G.b) e, ?_, fun d hd => ?_, G.free, G.bi, ?_⟩
  · obtain ⟨mc, h1, h2⟩ := G.nolimit
    exact ⟨mc, h1.at fun o e => up _ o (B.ne_of_ns h1) e, h2⟩
  · obtain ⟨a, c', o, pm, doc, dV, h1, h2, h3, h4, h5, h6, h7⟩ := G.made d hd
    have haP : a ≠ P := fun e => by rw [e, B.tab.2] at h4; cases h4; cases h5
    refine ⟨a, c', o, pm, doc, dV, h1, h2, h3, up _ o haP h4, h5, h6.at fun o e => up _ o (B.ne_of_rec h6) e, ?_⟩
    rcases h7 with l | ⟨hne, T, oT, vs, n, ds, e1, e2, e3, e4, r⟩
    · exact .inl l
    · exact .inr ⟨hne, T, oT, vs, n, ds, e1, e2, up _ oT (B.ne_of_cls e3 (by rw [e4]; simp)) e3, e4, r⟩
  · obtain ⟨a, e, vs, t, i⟩ := G.sizes
    obtain ⟨o, ho, hc, r⟩ := t
    exact ⟨a, e, vs, ⟨o, up _ _ (B.ne_of_cls ho (by rw [hc]; simp)) ho, hc, r⟩, i⟩
theorem GI.gbOff {mg mb : Vs} {h : Heap} {c P : Addr} (G : GI mg mb h) (T : TabAt mg h c P) : GB mg mb (offP h P) := fun h' hk => G.off T fun b o hb e => hk b o (offP_of e hb)
theorem LstB.off {h : Heap} {c P a : Addr} {items : Array Value} (x : LstB h.get? a items) (T : h.TableAt c P #[]) : LstB (offP h P) a items :=
  let ⟨o, ho, hc, r⟩ := x; ⟨o, offP_of ho (cls_off T ho (by rw [hc]; simp)), hc, r⟩
theorem RowsB.off {h : Heap} {c P a : Addr} {M} (x : RowsB h.get? a M) (T : h.TableAt c P #[]) : RowsB (offP h P) a M :=
  let ⟨as, h1, h2, h3⟩ := x; ⟨as, h1.off T, h2, fun i ai e => (h3 i ai e).off T⟩

section
variable {prog : Program} {w : World} {A : Around} {env : Env} {B : Addr → Option Obj} {m mg mb : Vs}
theorem Ev.lenN {fpos pos : Pos} {e : Expr} {a : Addr} {items : Array Value} {n : Nat} (G : GB mg mb B) (he : Ev prog w A env B m e (IsR a)) (hl : LstB B a items) (hn : items.size = n) (hfit : n < 2 ^ 60)
    (hg : env.globals = mainGlobals := by rfl) (hb : env.builtins = builtinsNs := by rfl) (hk : env.scope.kind = .function := by rfl) (hx : env.kindOf (Str.ofString "len") = some .globalImplicit := by rfl)
    (he' : eval (.Call (.Name (Str.ofString "len") fpos) [e] [] pos) env = (do callWith pos (← eval (.Name (Str.ofString "len") fpos) env) [] (backTo pos (starEach [e] env)) (backToKw pos (keywordEach [] env))) := by rfl)
    (hs : starEach [e] env = (false, eval e env) :: starEach [] env := by rfl) :
    Ev prog w A env B m (.Call (.Name (Str.ofString "len") fpos) [e] [] pos) (IsU n) := by
  subst hn; exact EvO.len G he hl hfit hg hb hk hx he' hs
theorem EvL.use {es} {P : Heap → List Value → Prop} {Q : List Value → Shared → Prop} {E : Value → Shared → Prop} {s : Shared} {pos : Pos} (F : Fm B env.locals s.heap m)
    (k : ∀ vs h' tk, Ext s.heap h' → P h' vs → Q vs { s with heap := h', toks := tk }) (h : EvL prog w A env B m es P) : wpAny (model prog w) A (spliced (backTo pos (starEach es env))) Q E s := h F k
end

/-- what lost_point tells -/
def toldOf (M : List (List Bool)) (n : Nat) : Int := lvl1 M n + lvl2 M n + lvl3 M n + rate n (tot M n) * 10

theorem lost_point_spec {prog : Program} {w : World} {mg mb : Vs} {M : List (List Bool)} {n : Nat} (hM : Sq M n) (hn : 1 ≤ n) (hn' : n ≤ 11)
    {A : Around} {s : Shared} {a f c P bm : Addr} {ob : Obj} (hA : AOk A 4) (G : GI mg mb s.heap) (BM : BMod s.heap mainGlobals mg bm ob) (TA : TabAt mg s.heap c P)
    (hf : mg (Str.ofString "lost_point") = some (.ref f)) (hR : RowsB s.heap.get? a M) (hgens : AllBare s.gens) :
    codeAny (model prog w) A (.call (.ref f) ⟨[.ref a], []⟩) (fun r s' => ∃ v, r = .ok (.ret v) ∧ IsI (toldOf M n) v ∧ Left c P s s') s := by
  have hd : defs0.find? (fun e => decide (e.name = Str.ofString "lost_point")) = some (itemOf _) := rfl
  obtain ⟨f', c', o, pm, doc, _, _, h3, h4, h5, h6⟩ := (G.made _ (List.mem_of_find?_eq_some hd)).plain rfl
  have e1 : f' = f := by have := h3.symm.trans hf; cases this; rfl
  subst e1
  dsimp only [itemOf] at h5 h6
  have hfr : s.heap.get? s.heap.objs.size = none := by
    cases e : s.heap.get? s.heap.objs.size with
    | none => rfl
    | some o => exact absurd (Heap.lt_size e) (Nat.lt_irrefl _)
  refine call_plain_ret (binds := (["modules"] : List PySem.Str).zip [.ref a]) hA.room h4 h5 G.nolimit h6 rfl (fun x hx => locs rfl x hx) (fun h₁ F => ?_) rfl rfl rfl (fun x hx => by revert x hx; decide)
  have F₁ : Fm s.heap.get? s.heap.objs.size h₁ _ := ⟨F.ns, F.keep, hfr⟩
  have hMl := hM.1
  refine ex_let F₁ (P := IsU n) ?he fun vn h₂ tk₂ hvn F₂ kp₂ => ?_
  case he =>
    obtain ⟨as, g1, g2, g3⟩ := hR
    have : ((as.map Value.ref).toArray).size = n := by simp [g2, hMl]
    intro Q E s' F' k
    exact Ev.use F' k (Ev.lenN G.gb (Ev.name (v := .ref a) rfl IsR.mk) g1 this (by omega))
  refine ex_let F₂ (Ev.nat (n := 0)) fun v0 h₃ tk₃ hv0 F₃ kp₃ => ?_
  -- level 1: the table grows
  obtain ⟨a₁, o₁, fd₁, t1, t2, t3, t4, t5, t6⟩ := id TA
  have hd₁ : defs0.find? (fun e => decide (e.name = Str.ofString "_lost_point_level1")) = some (itemOf _) := rfl
  obtain ⟨f₁, c₁, o₁', pm₁, doc₁, _, _, g3, g4, g5, g6⟩ := (G.made _ (List.mem_of_find?_eq_some hd₁)).plain rfl
  refine wpAny_execs_cons (wpAny_Assign_Name (Call_ (Ev.glob G.gb g3 rfl rfl rfl (by decide) F₃ fun fv h₄ tk₄ x₄ hfv => ?_) rfl) rfl)
  cases hfv
  refine callWith_def g5 (EvL.use (F₃.stays x₄) (fun vs h₅ tk₅ x₅ hvs => ?_) (EvL.consV (Ev.name (v := .ref a) rfl IsR.mk) (EvL.consV (Ev.name (v := vn) rfl hvn) EvL.nil))) rfl
  obtain ⟨_, _, rfl, rfl, _, _, rfl, hvn', rfl⟩ := hvs
  have F₅ := (F₃.stays x₄).stays x₅
  have K₅ : Ext s.heap h₅ := F₅.keep
  refine ⟨K₅ _ _ g4, wpAny_call (codeAny_mono (level1_spec (c := c) (P := P) (bm := bm) (ob := ob) hM hn hn' hA.deeper (G.keeps K₅) (BM.keeps K₅) (TA.keeps K₅) g3 ⟨a, _, rfl, hvn', hR.mono K₅⟩ hgens) fun r s₆ h => ?_)⟩
  obtain ⟨v₆, rfl, hv₆, hos, hg₆, ⟨more, hT₆⟩, hx₆⟩ := h
  have hPlt : P < s.heap.objs.size := Heap.lt_size t6.2
  have hns : s₆.heap.Ns s.heap.objs.size _ := F₅.ns.at fun o e => hx₆ _ o (Nat.ne_of_gt hPlt) e
  have F₆ : Fm (offP s.heap P) s.heap.objs.size s₆.heap _ := ⟨hns, fun b o e => hx₆ _ _ (offP_some e).2 (K₅ _ _ (offP_some e).1), by
    cases e : offP s.heap P s.heap.objs.size with
    | none => rfl
    | some o => exact absurd (offP_some e).1 (by rw [hfr]; simp)⟩
  have GB := G.gbOff TA
  have hR₆ := hR.off t6
  refine wpAny_storeName_local rfl F₆.ns (fun h₇ hn₇ hsb₇ => ?_) rfl
  have F₇ := F₆.set hn₇ hsb₇
  have pre : ∀ (vs : List Value) (h : Heap) (b m' : _), (∃ v vs', vs = v :: vs' ∧ IsR a v ∧ ∃ v₂ vs₂, vs' = v₂ :: vs₂ ∧ IsU n v₂ ∧ vs₂ = []) → Fm (offP s.heap P) b h m' → figPre M n h vs := fun vs h b m' hv F => by
    obtain ⟨v, vs', rfl, e1, v₂, vs₂, rfl, e2, rfl⟩ := hv
    cases e1
    exact ⟨a, v₂, rfl, e2, hR₆.mono F.keep⟩
  have hA₃ : ∀ env, AOk (A.deeper env) 2 := fun env => (hA.deeper (env := env)).le (by decide)
  refine ex_aug (v₀ := v₆) F₇ (if_pos rfl) hv₆ (EvO.callD (level2_spec hM hn hn') (hA₃ _) rfl rfl GB (EvL.consV (Ev.name (v := .ref a) rfl IsR.mk) (EvL.consV (Ev.name (v := vn) rfl hvn) EvL.nil)) (fun h vs hv F => pre vs h _ _ hv F) (fun _ _ _ _ _ _ _ hp => hp)) ui_add fun v₈ h₈ tk₈ hv₈ F₈ kp₈ => ?_
  refine ex_aug (v₀ := v₈) F₈ (if_pos rfl) hv₈ (EvO.callD (level3_spec hM hn hn') (hA₃ _) rfl rfl GB (EvL.consV (Ev.name (v := .ref a) rfl IsR.mk) (EvL.consV (Ev.name (v := vn) rfl hvn) EvL.nil)) (fun h vs hv F => pre vs h _ _ hv F) (fun _ _ _ _ _ _ _ hp => hp)) ui_add fun v₉ h₉ tk₉ hv₉ F₉ kp₉ => ?_
  refine ex_aug (v₀ := v₉) (P₁ := IsI ((lvl1 M n + lvl2 M n + lvl3 M n : Nat) : Int)) F₉ (if_pos rfl) hv₉ (EvO.callD (level4_spec hM hn hn') (hA₃ _) rfl rfl GB (EvL.consV (Ev.name (v := .ref a) rfl IsR.mk) (EvL.consV (Ev.name (v := vn) rfl hvn) EvL.nil)) (fun h vs hv F => pre vs h _ _ hv F) (fun _ _ _ _ _ _ _ hp => hp)) oi_add fun v₁₀ h₁₀ tk₁₀ hv₁₀ F₁₀ kp₁₀ => ?_
  refine ex_ret F₁₀ (Ev.name (v := v₁₀) rfl hv₁₀) fun v₁₁ h₁₁ tk₁₁ x₁₁ hv₁₁ => ?_
  have up : Heap.ExtBut P s.heap h₁₁ := fun b o hb e => x₁₁ _ _ (F₁₀.keep _ _ (offP_of e hb))
  have hPL : P ≠ s.heap.objs.size := Nat.ne_of_lt hPlt
  have hPP : ∀ o, s₆.heap.get? P = some o → h₁₁.get? P = some o := fun o e =>
    x₁₁ _ _ (kp₁₀ _ _ hPL (kp₉ _ _ hPL (kp₈ _ _ hPL ((hsb₇.2 _ hPL).trans e))))
  refine ⟨v₁₁, rfl, ?_, hos, hg₆, ⟨more, ?_, hPP _ hT₆.2⟩, up⟩
  · unfold toldOf; push_cast at hv₁₁; exact hv₁₁
  · obtain ⟨⟨o, vs, q1, q2, q3, q4⟩, q5⟩ := t6
    exact ⟨o, vs, up _ _ (fun e => by rw [e, q5] at q1; cases q1; cases q2) q1, q2, q3, q4⟩
end Mine
end

section
open PySem PySem.W PySem.Calls PyProof.Rows
set_option linter.unusedVariables false
set_option maxRecDepth 100000
namespace Mine

abbrev lst (ys : List Value) : Obj := { cls := .type "list", data := .seq ys.toArray ys.length }

/-- an element: a value as said, or a list of its own as said -/
def ElF (PV : Nat → Value → Prop) (K : Nat → List Value → Prop) (bad : Addr → Prop) (i : Nat) (h : Heap) (y : Value) : Prop :=
  PV i y ∨ ∃ a its, y = .ref a ∧ h.IsList a its.toArray ∧ K i its ∧ ¬ bad a
theorem ElF.at {PV K bad i h h' y} (x : ElF PV K bad i h y) (k : ∀ b o, ¬ bad b → h.get? b = some o → h'.get? b = some o) : ElF PV K bad i h' y := by
  rcases x with x | ⟨a, its, e, ⟨o, ho, r⟩, q, hb⟩
  · exact .inl x
  · exact .inr ⟨a, its, e, ⟨o, k _ _ hb ho, r⟩, q, hb⟩
theorem ElF.less {PV K} {bad bad' : Addr → Prop} {i h y} (x : ElF PV K bad i h y) (k : ∀ b, bad' b → bad b) : ElF PV K bad' i h y := by
  rcases x with x | ⟨a, its, e, l, q, hb⟩
  · exact .inl x
  · exact .inr ⟨a, its, e, l, q, fun q => hb (k _ q)⟩

section
variable {prog : Program} {w : World} {A : Around}

/-- the x of a comprehension: a name of its frame, or a cell -/
inductive XKind (ce : Env) (x : PySem.Str) : Option Addr → Prop
  | loc (h : ce.kindOf x = some .local) : XKind ce x none
  | cell (cc : Addr) (h : ce.kindOf x = some .cell) (hl : ce.cells.lookup x = some cc) : XKind ce x (some cc)

def Bound (x : PySem.Str) (B' : Addr → Option Obj) (m₂ : Vs) (v : Value) : Option Addr → Prop
  | none => m₂ x = some v
  | some cc => ∃ o, B' cc = some o ∧ o.data = .cell (some v)

theorem comp_loop {elt iter : Expr} {x : PySem.Str} {px : Pos} {scope : Scope} {pos : Pos} {ce : Env} {s : Shared} {It : Addr} {fp : List Addr} {n : Nat} {P : Nat → Value → Prop} {St : Nat → Heap → Prop}
    {B : Addr → Option Obj} {mc : Vs} {D C : Addr} {cx : Option Addr} {R : Result → Shared → Prop} {PV : Nat → Value → Prop} {K : Nat → List Value → Prop}
    (W : Walks prog w A It fp [It] n P St) (hIo : ∀ i h, St i h → ∃ o, h.get? It = some o) (hst : St 0 s.heap) (hfp : ∀ b ∈ fp, b ≠ It → ∃ o, B b = some o) (hn : n ≤ sizeLine)
    (hC : ce.locals = C) (hk : ce.scope.kind = .function) (hx : XKind ce x cx)
    (kB : ∀ b o, B b = some o → s.heap.get? b = some o) (hNs : s.heap.Ns C mc) (hD : s.heap.get? D = some (lst [])) (hcell : ∀ cc, cx = some cc → ∃ v₀, s.heap.IsCell cc v₀)
    (bI : B It = none) (bD : B D = none) (bC : B C = none) (bc : ∀ cc, cx = some cc → B cc = none)
    (nID : It ≠ D) (nIC : It ≠ C) (nDC : D ≠ C) (nc : ∀ cc, cx = some cc → It ≠ cc ∧ D ≠ cc ∧ C ≠ cc)
    (helt : ∀ i v (B' : Addr → Option Obj) m₂, i < n → P i v → (∀ b o, B b = some o → B' b = some o) → Bound x B' m₂ v cx → EvO prog w A ce B' m₂ elt (ElF PV K (fun a => ∃ o, B' a = some o) i))
    (hR : ∀ h tk ys mc', (∀ b o, B b = some o → h.get? b = some o) → h.Ns C mc' → h.get? D = some (lst ys) → ys.length = n →
      (∀ j y, ys[j]? = some y → ElF PV K (fun a => a = It ∨ a = D ∨ a = C ∨ cx = some a ∨ ∃ o, B a = some o) j h y) → R (.ok .next) { s with heap := h, toks := tk }) :
    codeAny (model prog w) A (.compLoop (.ListComp elt [⟨.Name x px, iter, [], 0⟩] scope pos) 0 (.ref It) (.ref D) ce) R s := by
  refine codeAny_compLoop_list (fun k s' => ∃ h tk i ys mc', s' = { s with heap := h, toks := tk } ∧ i ≤ n ∧ k = n + 1 - i ∧ ys.length = i ∧ St i h ∧ (∀ b o, B b = some o → h.get? b = some o) ∧ h.Ns C mc' ∧ h.get? D = some (lst ys) ∧
      (∀ cc, cx = some cc → ∃ v₀, h.IsCell cc v₀) ∧ ∀ j y, ys[j]? = some y → ElF PV K (fun a => a = It ∨ a = D ∨ a = C ∨ cx = some a ∨ ∃ o, B a = some o) j h y) ?_ (n + 1)
    ⟨s.heap, s.toks, 0, [], mc, rfl, Nat.zero_le _, rfl, rfl, hst, kB, hNs, hD, hcell, by simp⟩
  rintro k s' ⟨h, tk, i, ys, mc', rfl, hi, rfl, hyl, hst', F', hN', hD', hcell', hys⟩
  have it_kept : ∀ h₁, (∀ b o, b ∉ [It] → h.get? b = some o → h₁.get? b = some o) → (∀ b o, B b = some o → h₁.get? b = some o) ∧ h₁.Ns C mc' ∧ h₁.get? D = some (lst ys) ∧ (∀ cc, cx = some cc → ∃ v₀, h₁.IsCell cc v₀) ∧
      ∀ j y, ys[j]? = some y → ElF PV K (fun a => a = It ∨ a = D ∨ a = C ∨ cx = some a ∨ ∃ o, B a = some o) j h₁ y := fun h₁ hk₁ => by
    have q : ∀ b o, b ≠ It → h.get? b = some o → h₁.get? b = some o := fun b o hb e => hk₁ b o (by simpa using hb) e
    refine ⟨fun b o e => q b o (fun z => by rw [z, bI] at e; cases e) (F' b o e), hN'.at' fun o e => q _ o (Ne.symm nIC) e, q _ _ (Ne.symm nID) hD', fun cc hc => ?_, fun j y hy => ?_⟩
    · obtain ⟨v₀, o, ho, hd⟩ := hcell' cc hc
      exact ⟨v₀, o, q _ _ (Ne.symm (nc cc hc).1) ho, hd⟩
    · exact (hys j y hy).at fun b o hb e => q b o (fun z => hb (.inl z)) e
  by_cases hlt : i < n
  · refine W.item i _ _ _ hlt hst' fun v h₂ tk₂ hPv hst₂ hk₂ => ?_
    obtain ⟨F₂, hN₂, hD₂, hc₂, hys₂⟩ := it_kept h₂ hk₂
    obtain ⟨oI, hoI⟩ := hIo _ _ hst₂
    -- the store, then the element
    have fin : ∀ (h₃ : Heap) (tk₃ : Nat) (mc₃ : Vs) (ch : Addr), (ch = C ∨ cx = some ch) → Heap.SameBut ch h₂ h₃ → h₃.Ns C mc₃ → (∀ cc, cx = some cc → ∃ o, h₃.get? cc = some o ∧ o.data = .cell (some v)) → (cx = none → mc₃ x = some v) →
        wpAny (model prog w) A (eval elt ce) (fun y s₃ => wpAny (model prog w) A (call (.builtin "list.append") [.ref D, y]) (fun _ s₄ => ∃ m_1, m_1 < n + 1 - i ∧ ∃ h tk i ys mc', s₄ = { s with heap := h, toks := tk } ∧ i ≤ n ∧ m_1 = n + 1 - i ∧ ys.length = i ∧ St i h ∧ (∀ b o, B b = some o → h.get? b = some o) ∧ h.Ns C mc' ∧ h.get? D = some (lst ys) ∧
      (∀ cc, cx = some cc → ∃ v₀, h.IsCell cc v₀) ∧ ∀ j y, ys[j]? = some y → ElF PV K (fun a => a = It ∨ a = D ∨ a = C ∨ cx = some a ∨ ∃ o, B a = some o) j h y) (notedBy (model prog w) A ce fun e s' => R (.error e) s') s₃)
        (notedBy (model prog w) A ce fun e s' => R (.error e) s') { s with heap := h₃, toks := tk₃ } := by
      intro h₃ tk₃ mc₃ ch hch hs₃ hN₃ hc₃ hm₃
      have chI : It ≠ ch := by rcases hch with rfl | hch; exact nIC; exact (nc _ hch).1
      have chD : D ≠ ch := by rcases hch with rfl | hch; exact nDC; exact (nc _ hch).2.1
      have chB : B ch = none := by rcases hch with rfl | hch; exact bC; exact bc _ hch
      have q₃ : ∀ b o, b ≠ ch → h₂.get? b = some o → h₃.get? b = some o := fun b o hb e => (hs₃.2 b hb).trans e
      have F₃ : ∀ b o, B b = some o → h₃.get? b = some o := fun b o e => q₃ b o (fun z => by rw [z, chB] at e; cases e) (F₂ b o e)
      have hD₃ := q₃ _ _ chD hD₂
      have hI₃ := q₃ _ _ chI hoI
      have hst₃ : St (i + 1) h₃ := W.frame _ _ _ hst₂ fun b hb o e => q₃ b o (fun z => by
        by_cases hbI : b = It
        · exact chI (hbI ▸ z)
        · obtain ⟨o', e'⟩ := hfp b hb hbI
          rw [z, chB] at e'; cases e') e
      let B' : Addr → Option Obj := fun b => if b = It ∨ b = D ∨ cx = some b then h₃.get? b else B b
      have hB' : ∀ b o, B b = some o → B' b = some o := fun b o e => by
        show (if b = It ∨ b = D ∨ cx = some b then h₃.get? b else B b) = some o
        split
        · exact F₃ b o e
        · exact e
      have FC : Fm B' ce.locals h₃ mc₃ := by
        rw [hC]
        refine ⟨hN₃, fun b o e => ?_, ?_⟩
        · have e' : (if b = It ∨ b = D ∨ cx = some b then h₃.get? b else B b) = some o := e
          split at e'
          · exact e'
          · exact F₃ b o e'
        · show (if C = It ∨ C = D ∨ cx = some C then h₃.get? C else B C) = none
          rw [if_neg (by
            rintro (z | z | z)
            · exact nIC z.symm
            · exact nDC z.symm
            · exact (nc _ z).2.2 rfl)]
          exact bC
      have hbound : Bound x B' mc₃ v cx := by
        cases hcx : cx with
        | none => exact hm₃ hcx
        | some cc =>
          obtain ⟨o, ho, hd⟩ := hc₃ cc hcx
          refine ⟨o, ?_, hd⟩
          show (if cc = It ∨ cc = D ∨ cx = some cc then h₃.get? cc else B cc) = some o
          rw [if_pos (.inr (.inr hcx))]; exact ho
      refine helt i v B' mc₃ hlt hPv hB' hbound FC fun y h₄ tk₄ x₄ hy => ?_
      have hD₄ := x₄ _ _ hD₃
      refine append_at (s := { s with heap := h₄, toks := tk₄ }) (hsz := by rw [List.size_toArray, hyl]; exact Nat.le_trans hi hn) hD₄ fun h₅ hs₅ hD₅ => ?_
      have q₅ : ∀ b o, b ≠ D → h₃.get? b = some o → h₅.get? b = some o := fun b o hb e => (hs₅.2 b hb).trans (x₄ _ _ e)
      have bads : ∀ b o, ¬ (b = It ∨ b = D ∨ b = C ∨ cx = some b ∨ ∃ o, B b = some o) → h₂.get? b = some o → h₅.get? b = some o := fun b o hb e =>
        q₅ b o (fun z => hb (.inr (.inl z))) (q₃ b o (fun z => hb (by rcases hch with w | w; exact .inr (.inr (.inl (z.trans w))); exact .inr (.inr (.inr (.inl (z ▸ w)))))) e)
      refine ⟨n + 1 - (i + 1), by omega, h₅, tk₄, i + 1, ys ++ [y], mc₃, rfl, hlt, rfl, by simp [hyl], ?_, ?_, ?_, ?_, ?_, ?_⟩
      · exact W.frame _ _ _ hst₃ fun b hb o e => q₅ b o (fun z => by
          by_cases hbI : b = It
          · exact nID (hbI ▸ z)
          · obtain ⟨o', e'⟩ := hfp b hb hbI
            rw [z, bD] at e'; cases e') e
      · exact fun b o e => q₅ b o (fun z => by rw [z, bD] at e; cases e) (F₃ b o e)
      · exact hN₃.at' fun o e => q₅ _ o (Ne.symm nDC) e
      · rw [hD₅]
        show some ({ cls := .type "list", data := .seq (ys.toArray.push y) (ys.length + 1) } : Obj) = some { cls := .type "list", data := .seq (ys ++ [y]).toArray (ys ++ [y]).length }
        rw [List.length_append, List.length_singleton, List.push_toArray]
      · intro cc hc
        obtain ⟨o, ho, hd⟩ := hc₃ cc hc
        exact ⟨_, o, q₅ _ _ (Ne.symm (nc cc hc).2.1) ho, hd⟩
      · intro j z hz
        by_cases hj : j < ys.length
        · rw [List.getElem?_append_left hj] at hz
          exact (hys₂ j z hz).at bads
        · have hj' : j = i := by
            have := (List.getElem?_eq_some_iff.mp hz).1
            simp at this; omega
          subst hj'
          rw [List.getElem?_append_right (by omega), hyl, Nat.sub_self] at hz
          cases hz
          rcases hy with hy | ⟨a, its, rfl, hl, hK, hb⟩
          · exact .inl hy
          · have hbB : ∀ b, b = It ∨ b = D ∨ cx = some b → (∃ o, h₃.get? b = some o) → a ≠ b := fun b hb' ⟨o, ho⟩ z => hb ⟨o, by
              show (if a = It ∨ a = D ∨ cx = some a then h₃.get? a else B a) = some o
              rw [if_pos (z ▸ hb'), z]; exact ho⟩
            have aI := hbB It (.inl rfl) ⟨_, hI₃⟩
            have aD := hbB D (.inr (.inl rfl)) ⟨_, hD₃⟩
            have aC : a ≠ C := by
              obtain ⟨o, ho, hcl, k, hd⟩ := hl
              have := Ns_ne (FC.stays x₄).ns (o := o) ho (by rw [hd]; intro _ _ e; cases e)
              rwa [hC] at this
            refine .inr ⟨a, its, rfl, ?_, hK, ?_⟩
            · exact hl.at fun o e => (hs₅.2 a aD).trans e
            · rintro (z | z | z | z | ⟨o, z⟩)
              · exact aI z
              · exact aD z
              · exact aC z
              · obtain ⟨o, ho, _⟩ := hc₃ a z
                exact hbB a (.inr (.inr z)) ⟨o, ho⟩ rfl
              · exact hb ⟨o, hB' a o z⟩
    cases hx with
    | loc hl =>
      refine wpAny_assign_Name (wpAny_storeName_local hl (hC ▸ hN₂) (fun h₃ hn₃ hs₃ => fin h₃ _ _ C (.inl rfl) (hC ▸ hs₃) (hC ▸ hn₃) (by intro cc e; cases e) fun _ => if_pos rfl) (by rw [hk]; rfl))
    | cell cc hl hlk =>
      obtain ⟨v₀, hcc⟩ := hc₂ cc rfl
      refine wpAny_assign_Name (wpAny_storeName_cell hk hl hlk hcc fun h₃ hv₃ hs₃ => fin h₃ _ mc' cc (.inr rfl) hs₃ (hN₂.sameBut hs₃ (nc cc rfl).2.2) (by rintro cc' e; cases e; exact hv₃) (fun e => by cases e))
  · have hin : i = n := by omega
    subst hin
    refine W.done _ _ _ hst' fun h₂ tk₂ hk₂ => ?_
    obtain ⟨F₂, hN₂, hD₂, hc₂, hys₂⟩ := it_kept h₂ hk₂
    exact hR h₂ tk₂ ys mc' F₂ hN₂ hD₂ hyl hys₂
end
end Mine
end

section
open PySem PySem.W PySem.Calls PyProof.Rows
set_option linter.unusedVariables false
set_option maxRecDepth 100000
namespace Mine

/-- what may be walked; one iterator, and no list -/
def Itb (prog : Program) (w : World) (A : Around) (B : Addr → Option Obj) (v : Value) (n : Nat) (P : Nat → Value → Prop) : Prop :=
  ∀ {s₁ : Shared} {Q : Value → Shared → Prop} {E : Value → Shared → Prop}, (∀ b o, B b = some o → s₁.heap.get? b = some o) →
    (∀ It h₂ fp St, Ext s₁.heap h₂ → Walks prog w A It fp [It] n P St → St 0 h₂ → (∀ i h, St i h → ∃ o fs, h.get? It = some o ∧ o.data = .fields fs) → (∀ b ∈ fp, b ≠ It → ∃ o, B b = some o) → s₁.heap.objs.size ≤ It → It < h₂.objs.size →
      Q (.ref It) { s₁ with heap := h₂ }) → wpAny (model prog w) A (pyIter v) Q E s₁

section
variable {prog : Program} {w : World} {A : Around} {env : Env} {B : Addr → Option Obj} {m mg mb : Vs} {L : Addr}
theorem Itb.mono {v : Value} {n n' : Nat} {P P' : Nat → Value → Prop} (h : Itb prog w A B v n P) (hn : n = n') (hP : ∀ i v, P i v → P' i v) : Itb prog w A B v n' P' := fun F k => by
  subst hn
  exact h F fun It h₂ fp St x W => k It h₂ fp St x ⟨W.sub, W.frame, fun i s Q E hi st hQ => W.item i s Q E hi st fun v h' tk hv => hQ v h' tk (hP i v hv), W.done, W.self⟩
theorem Itb.lst {a items} (hh : A.handled = none) (x : LstB B a items) : Itb prog w A B (.ref a) items.size (fun i v => items[i]? = some v) := fun {s₁ _ _} F k => by
  have hl : s₁.heap.IsList a items := let ⟨o, ho, r⟩ := x; ⟨o, F _ _ ho, r⟩
  obtain ⟨o, ho, _⟩ := id x
  have hlt : a < s₁.heap.objs.size := Heap.lt_size (F _ _ ho)
  have hne : a ≠ s₁.heap.objs.size := Nat.ne_of_lt hlt
  refine wpAny_pyIter_list hl (k _ _ _ _ (fun _ _ e => Heap.get?_push_of_some _ e) (Walks.list hh s₁.heap.objs.size a hne items) ⟨⟨_, Heap.get?_push_size _ rfl, rfl, rfl⟩, hl.push _⟩ ?_ ?_ (Nat.le_refl _) (by rw [Heap.size_push]; exact Nat.lt_succ_self _))
  · rintro i h ⟨⟨o, e, _, d⟩, _⟩; exact ⟨o, _, e, d⟩
  · intro b hb hn
    rcases List.mem_cons.mp hb with rfl | hb
    · exact absurd rfl hn
    · rw [List.mem_singleton.mp hb]; exact ⟨_, ho⟩
theorem Itb.rng {r} (hh : A.handled = none) {n : Nat} (hb' : n < 2 ^ 62) (x : RngB B r 0 (n : Int)) :
    Itb prog w A B (.ref r) n (fun i v => i < n ∧ IsU i v) := fun {s₁ _ _} F k => by
  obtain ⟨t, u, v, ho⟩ := x
  have hsz : Builtin.Range.rangeSize 0 (n : Int) 1 = (n : Int) := by rw [rangeSize_one]; split <;> omega
  refine wpAny_pyIter_range (F _ _ ho) (small_one (by omega) (by omega) (by omega) (by omega)) ?_
  rw [hsz]
  have W := Walks.range (prog := prog) (w := w) hh s₁.heap.objs.size 0 1 n
  have W' : Walks prog w A s₁.heap.objs.size [s₁.heap.objs.size] [s₁.heap.objs.size] n (fun i v => i < n ∧ IsU i v) (fun i h => IsRangeIter h s₁.heap.objs.size (0 + (i : Nat) * 1) (((n : Nat) : Int) - (i : Nat)) 1) :=
    ⟨W.sub, W.frame, fun i s Q E hi st hQ => W.item i s Q E hi st fun v h' tk hv => hQ v h' tk (by
      obtain ⟨t, rfl⟩ := hv; exact ⟨hi, t, by congr 1; omega⟩), W.done, W.self⟩
  refine k _ _ _ _ (fun _ _ e => Heap.get?_push_of_some _ e) W' ?_ ?_ ?_ (Nat.le_refl _) (by rw [Heap.size_push]; exact Nat.lt_succ_self _)
  · have := Heap.get?_push_size (o := { cls := .type "range_iterator", data := .fields #[rawInt 0, rawInt ((n : Nat) : Int), rawInt 1] }) s₁.heap rfl
    simpa using this
  · intro i h e; exact ⟨_, _, e, rfl⟩
  · intro b hb hn; rw [List.mem_singleton.mp hb] at hn; exact absurd rfl hn

theorem fresh_none {h : Heap} {b : Addr} (hb : h.objs.size ≤ b) : h.get? b = none := by
  cases e : h.get? b with
  | none => rfl
  | some o => exact absurd (Heap.lt_size e) (Nat.not_lt.mpr hb)

abbrev cif {α : Type} (b : Bool) (x y : α) : α := match b with | true => x | false => y
def cellObj : Obj := { cls := .type "cell", data := .cell none }

theorem comp_block {elt iter : Expr} {x : PySem.Str} {px : Pos} {scope : Scope} {cl : List (PySem.Str × Addr)} {pos : Pos} {v : Value} {n : Nat} {P : Nat → Value → Prop} {s₁ : Shared} {ck : Bool} {RR : Value → Addr → Result → Shared → Prop}
    {E : Value → Shared → Prop} {PV : Nat → Value → Prop} {K : Nat → List Value → Prop}
    (hit : Itb prog w A s₁.heap.get? v n P) (hn : n ≤ sizeLine) (hkind : scope.kind = .function)
    (hcf : ∀ k, cellsFrom k scope.names cl = cif ck ((x, k) :: cl) cl) (hpc : ∀ h, pushCells h scope.names = cif ck (h.push cellObj) h)
    (hx : ∀ C cl', (compEnvC scope cl' C env).kindOf x = some (cif ck .cell .local))
    (helt : ∀ C i v B' m₂, i < n → P i v → (∀ b o, s₁.heap.get? b = some o → B' b = some o) → Bound x B' m₂ v (cif ck (some (C + 1)) none) →
      EvO prog w A (compEnvC scope (cif ck ((x, C + 1) :: cl) cl) C env) B' m₂ elt (ElF PV K (fun a => ∃ o, B' a = some o) i))
    (hRR : ∀ D C h tk ys mc', Ext s₁.heap h → h.Ns C mc' → h.get? D = some (lst ys) → D ≠ C → s₁.heap.get? D = none → s₁.heap.get? C = none → ys.length = n →
      (∀ j y, ys[j]? = some y → ElF PV K (fun a => a = D ∨ a = C ∨ ∃ o, s₁.heap.get? a = some o) j h y) → RR (.ref D) C (.ok .next) { s₁ with heap := h, toks := tk }) :
    wpAny (model prog w) A (pyIter v) (fun it s₂ => wpAny (model prog w) A (newList []) (fun acc s₃ => wpAny (model prog w) A (newFunctionEnv scope env.globals cl [] env.qual none .none (some env)) (fun cenv s₄ =>
      codeAny (model prog w) A (.compStart (.ListComp elt [⟨.Name x px, iter, [], 0⟩] scope pos) 0 it acc { cenv with scope := relabel scope env }) (RR acc cenv.locals) s₄) E s₃) E s₂) E s₁ := by
  refine hit (fun _ _ e => e) fun It h₂ fp St x₂ W hst hIo hfp hItge hItlt => ?_
  refine wpAny_newObj_type (s := { s₁ with heap := h₂ }) ?_
  generalize hH : h₂.push { cls := .type "list", dict := none, data := .seq ([] : List Value).toArray } = H
  have hHs : H.objs.size = h₂.objs.size + 1 := by rw [← hH, Heap.size_push]
  unfold newFunctionEnv
  refine wpAny_bind (wpAny_alloc ?_)
  refine wpAny_bind (wpAny_layCells _ (fun name kind cells => by cases hkc : kind == NameKind.cell <;> simp [hkc]) _ _ _ _ ?_)
  rw [hcf, hpc]
  refine wpAny_bind (wpAny_of_eq (a := ⟨⟩) rfl (wpAny_pure ?_))
  dsimp only [Option.isSome_some, if_true]
  show codeAny _ _ (.compStart _ 0 (.ref It) (.ref h₂.objs.size) { scope := relabel scope env, locals := H.objs.size, globals := env.globals, cells := cif ck ((x, (H.push { cls := .type "dict", data := .dict #[] }).objs.size) :: cl) cl, qual := env.qual, func := none, code := env.code, frame := env.frame, builtins := env.builtins }) (RR (.ref h₂.objs.size) H.objs.size) _
  have hsz : (H.push { cls := .type "dict", data := .dict #[] }).objs.size = H.objs.size + 1 := Heap.size_push ..
  rw [hsz]
  generalize hH3 : cif ck ((H.push { cls := .type "dict", data := .dict #[] }).push cellObj) (H.push { cls := .type "dict", data := .dict #[] }) = H3
  have x3 : Ext (H.push { cls := .type "dict", data := .dict #[] }) H3 := fun b o e => by
    rw [← hH3]; cases ck
    · exact e
    · exact Heap.get?_push_of_some _ e
  have xH : Ext h₂ H := fun b o e => by rw [← hH]; exact Heap.get?_push_of_some _ e
  have xd : Ext H (H.push { cls := .type "dict", data := .dict #[] }) := fun b o e => Heap.get?_push_of_some _ e
  have x4 : Ext h₂ H3 := fun b o e => x3 _ _ (xd _ _ (xH _ _ e))
  have hNs : H3.Ns H.objs.size (fun _ => none) := (Heap.Ns.new H (.type "dict")).keeps x3
  have hD : H3.get? h₂.objs.size = some (lst []) := x3 _ _ (xd _ _ (by rw [← hH]; exact Heap.get?_push_size _ rfl))
  have le1 : s₁.heap.objs.size ≤ h₂.objs.size := Nat.le_of_lt (Nat.lt_of_le_of_lt hItge hItlt)
  have ltH : h₂.objs.size < H.objs.size := by rw [hHs]; exact Nat.lt_succ_self _
  have leH : s₁.heap.objs.size ≤ H.objs.size := Nat.le_trans le1 (Nat.le_of_lt ltH)
  have nID : It ≠ h₂.objs.size := Nat.ne_of_lt hItlt
  have nIC : It ≠ H.objs.size := Nat.ne_of_lt (Nat.lt_trans hItlt ltH)
  have nDC : h₂.objs.size ≠ H.objs.size := Nat.ne_of_lt ltH
  have hcx : ∀ cc, cif ck (some (H.objs.size + 1)) none = some cc → ck = true ∧ cc = H.objs.size + 1 := fun cc e => by
    cases ck
    · cases e
    · exact ⟨rfl, by cases e; rfl⟩
  have loop : codeAny (model prog w) A (.compLoop (.ListComp elt [⟨.Name x px, iter, [], 0⟩] scope pos) 0 (.ref It) (.ref h₂.objs.size) (compEnvC scope (cif ck ((x, H.objs.size + 1) :: cl) cl) H.objs.size env)) (RR (.ref h₂.objs.size) H.objs.size) { s₁ with heap := H3 } := by
    refine comp_loop (s := { s₁ with heap := H3 }) (B := s₁.heap.get?) (C := H.objs.size) (cx := cif ck (some (H.objs.size + 1)) none) (PV := PV) (K := K) W (fun i h st => let ⟨o, _, e, _⟩ := hIo i h st; ⟨o, e⟩) (W.frame _ _ _ hst fun b _ o e => x4 _ _ e) hfp hn rfl
      (by simp [compEnvC, relabel, hkind]) ?_ (fun b o e => x4 _ _ (x₂ _ _ e)) hNs hD ?_ (fresh_none hItge) (fresh_none le1) (fresh_none leH) ?_ nID nIC nDC ?_ ?_ ?_
    · have hx' := hx H.objs.size (cif ck ((x, H.objs.size + 1) :: cl) cl)
      cases ck
      · exact .loc hx'
      · exact .cell _ hx' (by simp [compEnvC])
    · intro cc e
      obtain ⟨rfl, rfl⟩ := hcx cc e
      refine ⟨none, cellObj, ?_, rfl⟩
      rw [← hH3, ← hsz]
      exact Heap.get?_push_size _ rfl
    · intro cc e
      obtain ⟨_, rfl⟩ := hcx cc e
      exact fresh_none (Nat.le_succ_of_le leH)
    · intro cc e
      obtain ⟨_, rfl⟩ := hcx cc e
      exact ⟨Nat.ne_of_lt (Nat.lt_succ_of_lt (Nat.lt_trans hItlt ltH)), Nat.ne_of_lt (Nat.lt_succ_of_lt ltH), Nat.ne_of_lt (Nat.lt_succ_self _)⟩
    · intro i v B' m₂ hi hP hB' hb
      exact helt H.objs.size i v B' m₂ hi hP hB' hb
    · intro h tk ys mc' hk hN hD' hl hy
      exact hRR _ _ h tk ys mc' hk hN hD' nDC (fresh_none le1) (fresh_none leH) hl fun j y hj => (hy j y hj).less (by
        rintro b (z | z | z)
        · exact .inr (.inl z)
        · exact .inr (.inr (.inl z))
        · exact .inr (.inr (.inr (.inr z))))
  subst hH3
  exact codeAny_compStart_list loop (W.self 0 _ _ _ (W.frame _ _ _ hst fun b _ o e => x4 _ _ e) loop)
end
end Mine
end

section
open PySem PySem.W PySem.Calls PyProof.Rows
set_option linter.unusedVariables false
set_option maxRecDepth 100000
namespace Mine

/-- the list of a comprehension -/
def CompP (PV : Nat → Value → Prop) (K : Nat → List Value → Prop) (n : Nat) (B : Addr → Option Obj) (L : Addr) (h : Heap) (v : Value) : Prop :=
  ∃ D ys, v = .ref D ∧ h.get? D = some (lst ys) ∧ ys.length = n ∧ (∀ j y, ys[j]? = some y → ElF PV K (fun a => a = D ∨ a = L ∨ ∃ o, B a = some o) j h y) ∧ B D = none ∧ D ≠ L

section
variable {prog : Program} {w : World} {A : Around} {env : Env} {B : Addr → Option Obj} {m mg mb : Vs} {L : Addr}

theorem EvO.comp (ck : Bool) {elt iter : Expr} {x : PySem.Str} {px : Pos} {scope : Scope} {cl : List (PySem.Str × Addr)} {pos : Pos} {n : Nat} {P : Nat → Value → Prop} {PI : Heap → Value → Prop} {PV : Nat → Value → Prop} {K : Nat → List Value → Prop}
    (he : EvO prog w A env B m iter PI) (hit : ∀ h v, PI h v → Fm B env.locals h m → Itb prog w A h.get? v n P) (hn : n ≤ sizeLine)
    (helt : ∀ C i v B' m₂, i < n → P i v → (∀ b o, B b = some o → B' b = some o) → Bound x B' m₂ v (cif ck (some (C + 1)) none) →
      EvO prog w A (compEnvC scope (cif ck ((x, C + 1) :: cl) cl) C env) B' m₂ elt (ElF PV K (fun a => ∃ o, B' a = some o) i))
    (hclos : closureFor scope env = pure cl) (hnames : ∀ y ∈ scope.names, y.2 = .local → scope.names.lookup y.1 = some .local)
    (hkind : scope.kind = .function := by rfl)
    (hcf : ∀ k, cellsFrom k scope.names cl = cif ck ((x, k) :: cl) cl := by intro _; rfl) (hpc : ∀ h, pushCells h scope.names = cif ck (h.push cellObj) h := by intro _; rfl)
    (hx : ∀ C cl', (compEnvC scope cl' C env).kindOf x = some (cif ck .cell .local) := by intro _ _; rfl)
    (hs : ∀ x, foldedSetIterable iter env x = pure x := by intro _; rfl) :
    EvO prog w A env B m (.ListComp elt [⟨.Name x px, iter, [], 0⟩] scope pos) (CompP PV K n B env.locals) := fun {Q E s} F k => by
  rw [eval_ListComp]
  refine wpAny_comprehension_free (use := none) rfl hs hclos hkind hnames (he F fun v h₁ tk₁ x₁ hv => ?_)
  have F₁ := F.stays x₁
  refine comp_block (s₁ := { s with heap := h₁, toks := tk₁ }) (ck := ck) (hit h₁ v hv F₁) hn hkind hcf hpc hx (fun C i v B' m₂ hi hP hB hb => helt C i v B' m₂ hi hP (fun b o e => hB _ _ (F₁.keep _ _ e)) hb) ?_
  intro D C h tk ys mc' hk hN hD hDC hD0 hC0 hl hy
  refine ⟨mc', hN, fun h' hs' => ?_⟩
  have q : ∀ b o, b ≠ C → h.get? b = some o → h'.get? b = some o := fun b o hb e => (hs'.2 b hb).trans e
  have x2 : Ext h₁ h' := fun b o e => q b o (fun z => by rw [z] at e; have := hC0.symm.trans e; cases this) (hk _ _ e)
  obtain ⟨oL, _, _, eL, _⟩ := F₁.ns
  refine k (.ref D) h' tk (x₁.trans x2) ⟨D, ys, rfl, q _ _ hDC hD, hl, fun j y hj => ((hy j y hj).at fun b o hb e => q b o (fun z => hb (.inr (.inl z))) e).less ?_, ?_, ?_⟩
  · rintro b (z | z | ⟨o, z⟩)
    · exact .inl z
    · exact .inr (.inr ⟨oL, by rw [z]; exact eL⟩)
    · exact .inr (.inr ⟨o, F₁.keep _ _ z⟩)
  · cases e : B D with
    | none => rfl
    | some o => have := (F₁.keep _ _ e).symm.trans hD0; cases this
  · rintro rfl
    have := eL.symm.trans hD0; cases this

theorem ex_assignComp (ck : Bool) {elt iter : Expr} {x y : PySem.Str} {px py : Pos} {scope : Scope} {cl : List (PySem.Str × Addr)} {pos spos : Pos} {rest : List Stmt} {n : Nat} {P : Nat → Value → Prop} {PI : Heap → Value → Prop} {PV : Nat → Value → Prop} {K : Nat → List Value → Prop}
    {Q : Flow → Shared → Prop} {E : Value → Shared → Prop} {s : Shared} (F : Fm B env.locals s.heap m)
    (he : EvO prog w A env B m iter PI) (hit : ∀ h v, PI h v → Fm B env.locals h m → Itb prog w A h.get? v n P) (hn : n ≤ sizeLine)
    (helt : ∀ C i v B' m₂, i < n → P i v → (∀ b o, B b = some o → B' b = some o) → Bound x B' m₂ v (cif ck (some (C + 1)) none) →
      EvO prog w A (compEnvC scope (cif ck ((x, C + 1) :: cl) cl) C env) B' m₂ elt (ElF PV K (fun a => ∃ o, B' a = some o) i))
    (k : ∀ D ys h' tk, Kp env.locals s.heap h' → h'.get? D = some (lst ys) → ys.length = n → (∀ j y, ys[j]? = some y → ElF PV K (fun a => a = D ∨ a = env.locals ∨ ∃ o, s.heap.get? a = some o) j h' y) → s.heap.get? D = none → D ≠ env.locals →
      Fm B env.locals h' (upd m y (.ref D)) → wpAny (model prog w) A (execs rest env) Q E { s with heap := h', toks := tk })
    (hclos : closureFor scope env = pure cl) (hnames : ∀ y ∈ scope.names, y.2 = .local → scope.names.lookup y.1 = some .local)
    (hsw : swapsWith (.ListComp elt [⟨.Name x px, iter, [], 0⟩] scope pos) (some (.Name y py)) spos.line env = pure true := by rfl)
    (hl : env.kindOf y = some .local := by rfl) (hp : (env.scope.kind == .class || (env.scope.kind == .module && env.locals != env.globals)) = false := by rfl)
    (hkind : scope.kind = .function := by rfl)
    (hcf : ∀ k, cellsFrom k scope.names cl = cif ck ((x, k) :: cl) cl := by intro _; rfl) (hpc : ∀ h, pushCells h scope.names = cif ck (h.push cellObj) h := by intro _; rfl)
    (hx : ∀ C cl', (compEnvC scope cl' C env).kindOf x = some (cif ck .cell .local) := by intro _ _; rfl)
    (hs : ∀ x, foldedSetIterable iter env x = pure x := by intro _; rfl) :
    wpAny (model prog w) A (execs (.Assign [.Name y py] (.ListComp elt [⟨.Name x px, iter, [], 0⟩] scope pos) spos :: rest) env) Q E s := by
  refine wpAny_execs_cons ?_
  rw [exec_Assign_Name_used _ _ _ _ hsw]
  refine wpAny_bind (wpAny_standAt (wpAny_bind ?_))
  show wpAny _ A (do let _ ← comprehension (.ListComp elt [⟨.Name x px, iter, [], 0⟩] scope pos) scope env _ (newList []) false (eval iter env) (some (assign (.Name y py) env))) _ _ s
  refine wpAny_bind (wpAny_mono (wpAny_comprehension_free (use := some (assign (.Name y py) env)) (Q := fun _ s' => wpAny (model prog w) A (execs rest env) Q E s') rfl hs hclos hkind hnames
    (he F fun v h₁ tk₁ x₁ hv => ?_)) (fun _ s' hq => wpAny_pure (wpAny_pure hq)) fun _ _ e => e)
  have F₁ := F.stays x₁
  refine comp_block (s₁ := { s with heap := h₁, toks := tk₁ }) (ck := ck) (hit h₁ v hv F₁) hn hkind hcf hpc hx (fun C i v B' m₂ hi hP hB hb => helt C i v B' m₂ hi hP (fun b o e => hB _ _ (F₁.keep _ _ e)) hb) ?_
  intro D C h tk ys mc' hk hN hD hDC hD0 hC0 hln hy
  obtain ⟨oL, _, _, eL, _⟩ := F₁.ns
  have nCL : C ≠ env.locals := by
    rintro rfl
    have := eL.symm.trans hC0; cases this
  have F₂ : Fm B env.locals h m := F₁.stays hk
  show wpAny _ A (assign (.Name y py) env (.ref D)) _ _ _
  refine wpAny_assign_Name (wpAny_storeName_local hl F₂.ns (fun h₂ hn₂ hs₂ => ⟨mc', hN.sameBut hs₂ nCL, fun h' hs' => ?_⟩) hp)
  have hCB : ∀ b o, B b = some o → b ≠ C := fun b o e z => by
    have := F₁.keep _ _ e; rw [z] at this; have := this.symm.trans hC0; cases this
  have q : ∀ b o, b ≠ C → b ≠ env.locals → h.get? b = some o → h'.get? b = some o := fun b o hb hb' e => (hs'.2 b hb).trans ((hs₂.2 b hb').trans e)
  have hDL : D ≠ env.locals := by
    rintro rfl
    have := eL.symm.trans hD0; cases this
  have up : ∀ b o, s.heap.get? b = some o → b ≠ C := fun b o e z => by
    have := x₁ _ _ e; rw [z] at this; have := this.symm.trans hC0; cases this
  refine k D ys h' _ (fun b o hb e => q b o (up b o e) hb (hk _ _ (x₁ _ _ e))) (q _ _ hDC hDL hD) hln (fun j y hj => ((hy j y hj).at fun b o hb e => q b o (fun z => hb (.inr (.inl z))) (fun z => hb (.inr (.inr ⟨oL, by rw [z]; exact eL⟩))) e).less ?_) ?_ hDL ⟨(hn₂.at' fun o e => (hs'.2 _ (Ne.symm nCL)).trans e), fun b o e => q b o (hCB b o e) (F₂.ne e) (F₂.keep b o e), F₂.off⟩
  · rintro b (z | z | ⟨o, z⟩)
    · exact .inl z
    · exact .inr (.inr ⟨oL, by rw [z]; exact eL⟩)
    · exact .inr (.inr ⟨o, x₁ _ _ z⟩)
  · cases e : s.heap.get? D with
    | none => rfl
    | some o => have := (x₁ _ _ e).symm.trans hD0; cases this
end
end Mine
end

section
open PySem PySem.W PySem.Calls PyProof.Rows
set_option linter.unusedVariables false
set_option maxRecDepth 100000
namespace Mine

/-- neither a frame nor an iterator -/
def Solid (o : Obj) : Prop := (∀ es ep, o.data ≠ .dict es ep) ∧ ∀ fs, o.data ≠ .fields fs

section
variable {prog : Program} {w : World} {A : Around} {env : Env} {B : Addr → Option Obj} {m mg mb : Vs} {L : Addr}

theorem Fm.less {B B' L h m} (F : Fm B' L h m) (hs : ∀ b o, B b = some o → B' b = some o) : Fm B L h m := ⟨F.ns, fun b o e => F.keep b o (hs b o e), by
  cases e : B L with
  | none => rfl
  | some o => have := hs _ _ e; rw [F.off] at this; cases this⟩

theorem for_walkS {x : PySem.Str} {px : Pos} {body : List Stmt} {R : Result → Shared → Prop} {s : Shared} {It : Addr} {fp : List Addr} {n : Nat} {P : Nat → Value → Prop} {St : Nat → Heap → Prop}
    (W : Walks prog w A It fp [It] n P St) (F : Fm B env.locals s.heap m) (hst : St 0 s.heap) (hIo : ∀ i h, St i h → ∃ o fs, h.get? It = some o ∧ o.data = .fields fs) (X : List Addr) (I : Nat → Vs → Heap → Prop)
    (bI : B It = none) (nIL : It ≠ env.locals) (hfp : ∀ b ∈ fp, b ≠ It → ∃ o, B b = some o)
    (hXB : ∀ b ∈ X, B b = none) (hXI : ∀ b ∈ X, b ≠ It)
    (hIx : ∀ i m h h', (∀ b o, h.get? b = some o → Solid o → h'.get? b = some o) → I i m h → I i m h')
    (h0 : I 0 m s.heap)
    (turn : ∀ i B' m' h' tk v, (∀ b o, B b = some o → B' b = some o) → (∀ b ∈ X, B' b = none) → i < n → P i v → I i m' h' → Fm B' env.locals h' (upd m' x v) →
      wpAny (model prog w) A (execs body env) (fun f s₃ => (f = .next ∨ f = .cont) ∧ ∃ h₃ tk₃ m₃, s₃ = { s with heap := h₃, toks := tk₃ } ∧ Fm B' env.locals h₃ m₃ ∧ I (i + 1) m₃ h₃) (fun _ _ => False) { s with heap := h', toks := tk })
    (done : ∀ h' tk m', Fm B env.locals h' m' → I n m' h' → R (.ok .next) { s with heap := h', toks := tk })
    (hx : env.kindOf x = some .local) (hp : (env.scope.kind == .class || (env.scope.kind == .module && env.locals != env.globals)) = false) :
    codeAny (model prog w) A (.forLoop (.Name x px) (.ref It) body [] env) R s := by
  refine codeAny_forLoop_any (fun k s' => ∃ h' tk m' i, s' = { s with heap := h', toks := tk } ∧ St i h' ∧ Fm B env.locals h' m' ∧ I i m' h' ∧ i ≤ n ∧ k = n + 1 - i) ?_ (n + 1) ⟨s.heap, s.toks, m, 0, rfl, hst, F, h0, Nat.zero_le _, rfl⟩
  rintro k s' ⟨h', tk, m', i, rfl, hst', F', hI, hi, rfl⟩
  obtain ⟨oI, fs, eI, dI⟩ := hIo _ _ hst'
  obtain ⟨oL, es, ep, eL, dL, _⟩ := id F'.ns
  have step : ∀ h₁ : Heap, (∀ b o, b ∉ [It] → h'.get? b = some o → h₁.get? b = some o) → Fm B env.locals h₁ m' := fun h₁ hk =>
    have q : ∀ b o, b ≠ It → h'.get? b = some o → h₁.get? b = some o := fun b o hb e => hk b o (by simpa using hb) e
    ⟨F'.ns.at' fun o e => q _ o (Ne.symm nIL) e, fun b o e => q b o (fun q => by rw [q, bI] at e; cases e) (F'.keep b o e), F'.off⟩
  by_cases hlt : i < n
  · refine W.item i _ _ _ hlt hst' fun v h₁ tk₁ hPv hst₁ hk₁ => ?_
    have F₁ := step h₁ hk₁
    refine wpAny_of_eq (a := ()) rfl ?_
    refine wpAny_assign_Name (wpAny_storeName_local hx F₁.ns (fun h₂ hn₂ hs₂ => ?_) hp)
    have F₂ := F₁.set hn₂ hs₂
    have hfL : ∀ b ∈ fp, b ≠ env.locals := fun b hb z => by
      by_cases hbI : b = It
      · exact nIL (hbI.symm.trans z)
      · obtain ⟨o, e⟩ := hfp b hb hbI
        rw [z, F.off] at e; cases e
    have hst₂ : St (i + 1) h₂ := W.frame _ _ _ hst₁ fun b hb o e => (hs₂.2 b (hfL b hb)).trans e
    obtain ⟨oJ, gs, eJ, _⟩ := hIo _ _ hst₂
    have hB' : ∀ b o, B b = some o → addB B It oJ b = some o := fun b o e => by
      unfold addB; rw [if_neg (fun q => by rw [q, bI] at e; cases e)]; exact e
    have F₃ : Fm (addB B It oJ) env.locals h₂ (upd m' x v) := F₂.know eJ nIL
    have hXB' : ∀ b ∈ X, addB B It oJ b = none := fun b hb => by
      unfold addB; rw [if_neg (hXI b hb)]; exact hXB b hb
    have hI₂ : I i m' h₂ := hIx i m' h' h₂ (fun b o e hd => (hs₂.2 b (fun z => by
        rw [z, eL] at e; cases e; exact hd.1 _ _ dL)).trans (hk₁ b o (fun z => by
        rw [List.mem_singleton.mp z, eI] at e; cases e; exact hd.2 _ dI) e)) hI
    refine wpAny_noRaise (wpAny_mono (turn i _ m' h₂ _ v hB' hXB' hlt hPv hI₂ F₃) (fun f s₃ h₃ => ?_) fun _ _ x => x)
    obtain ⟨hf, h₃, tk₃, m₃, rfl, F₄, hI₄⟩ := h₃
    have hst₃ : St (i + 1) h₃ := W.frame _ _ _ hst₂ fun b hb o e => by
      by_cases hw : b = It
      · subst hw
        rw [eJ] at e; cases e
        exact F₄.keep _ _ addB_same
      · obtain ⟨o₀, e₀⟩ := hfp b hb hw
        have := F₂.keep b o₀ e₀
        rw [e] at this; cases this
        exact F₄.keep b o (hB' b o e₀)
    have fin : ∃ m_1, m_1 < n + 1 - i ∧ ∃ h' tk m' i, ({ s with heap := h₃, toks := tk₃ } : Shared) = { s with heap := h', toks := tk } ∧ St i h' ∧ Fm B env.locals h' m' ∧ I i m' h' ∧ i ≤ n ∧ m_1 = n + 1 - i :=
      ⟨n + 1 - (i + 1), by omega, h₃, tk₃, m₃, i + 1, rfl, hst₃, F₄.less hB', hI₄, hlt, rfl⟩
    rcases hf with rfl | rfl <;> exact fin
  · have hin : i = n := by omega
    subst hin
    refine W.done _ _ _ hst' fun h₁ tk₁ hk₁ => ex_nil ?_
    exact done h₁ tk₁ m' (step h₁ hk₁) (hIx _ m' h' h₁ (fun b o e hd => hk₁ b o (fun z => by
        rw [List.mem_singleton.mp z, eI] at e; cases e; exact hd.2 _ dI) e) hI)

theorem ex_forS {x px iter body pos rest} {PI : Heap → Value → Prop} {n : Nat} {P : Nat → Value → Prop} {Q : Flow → Shared → Prop} {E : Value → Shared → Prop} {s : Shared}
    (F : Fm B env.locals s.heap m) (X : List Addr) (he : EvO prog w A env B m iter PI) (hit : ∀ h v, Ext s.heap h → PI h v → Fm B env.locals h m → Itb prog w A (Bof h (env.locals :: X)) v n P)
    (I : Nat → Vs → Heap → Prop) (hXB : ∀ b ∈ X, B b = none) (hXh : ∀ b ∈ X, ∃ o, s.heap.get? b = some o)
    (hIx : ∀ i m h h', (∀ b o, h.get? b = some o → Solid o → h'.get? b = some o) → I i m h → I i m h') (h0 : I 0 m s.heap)
    (turn : ∀ i B' m' h' tk v, (∀ b o, B b = some o → B' b = some o) → (∀ b ∈ X, B' b = none) → i < n → P i v → I i m' h' → Fm B' env.locals h' (upd m' x v) →
      wpAny (model prog w) A (execs body env) (fun f s₃ => (f = .next ∨ f = .cont) ∧ ∃ h₃ tk₃ m₃, s₃ = { s with heap := h₃, toks := tk₃ } ∧ Fm B' env.locals h₃ m₃ ∧ I (i + 1) m₃ h₃) (fun _ _ => False) { s with heap := h', toks := tk })
    (done : ∀ h' tk m', Fm B env.locals h' m' → I n m' h' → wpAny (model prog w) A (execs rest env) Q E { s with heap := h', toks := tk })
    (hx : env.kindOf x = some .local := by rfl) (hp : (env.scope.kind == .class || (env.scope.kind == .module && env.locals != env.globals)) = false := by rfl)
    (hs : ∀ x, foldedSetIterable iter env x = pure x := by intro _; rfl) :
    wpAny (model prog w) A (execs (.For (.Name x px) iter body [] pos :: rest) env) Q E s := by
  refine wpAny_execs_cons (wpAny_For (he F fun v h₁ tk₁ x₁ hv => hit h₁ v x₁ hv (F.stays x₁) (s₁ := { s with heap := h₁, toks := tk₁ }) (fun b o e => (Bof_some e).1) fun It h₂ fp St x₂ W hst hIo hfp hge hlt => ?_) hs)
  have F₁ := F.stays x₁
  have F₁' : Fm (Bof h₁ (env.locals :: X)) env.locals h₁ m := ⟨F₁.ns, fun _ _ e => (Bof_some e).1, Bof_in (.head _)⟩
  have F₂ := F₁'.stays x₂
  have nI : ∀ b o, h₁.get? b = some o → b ≠ It := fun b o e z => absurd (Heap.lt_size e) (by rw [z]; exact Nat.not_lt.mpr hge)
  have hBB : ∀ b o, B b = some o → Bof h₁ (env.locals :: X) b = some o := fun b o e => Bof_of (F₁.keep _ _ e) (by
    intro hm
    rcases List.mem_cons.mp hm with z | hm
    · rw [z, F.off] at e; cases e
    · rw [hXB b hm] at e; cases e)
  refine for_walkS (R := fun r s' => match r with
      | .ok f => (match f with | .next => wpAny (model prog w) A (execs rest env) Q E s' | f => Q f s')
      | .error e => cameBackBy (model prog w) A env E e s') (s := { s with heap := h₂, toks := tk₁ }) W F₂ hst hIo X I ?_ ?_ hfp (fun b hb => Bof_in (.tail _ hb)) ?_ hIx ?_ (fun i B' m' h' tk v hs => turn i B' m' h' tk v fun b o e => hs b o (hBB b o e)) (fun h' tk m' F' => done h' tk m' (F'.less hBB)) hx hp
  · cases e : Bof h₁ (env.locals :: X) It with
    | none => rfl
    | some o => exact absurd rfl (nI _ _ (Bof_some e).1)
  · obtain ⟨o, _, _, e, _⟩ := F₁.ns
    exact Ne.symm (nI _ _ e)
  · intro b hb
    obtain ⟨o, e⟩ := hXh b hb
    exact nI _ _ (x₁ _ _ e)
  · exact hIx 0 m s.heap h₂ (fun b o e _ => x₂ _ _ (x₁ _ _ e)) h0

/-- o.append(e) -/
theorem ex_append {o e : Expr} {apos p1 p2 : Pos} {rest D} {P : Heap → Value → Prop} {its : Array Value} {n : Nat} {Q : Flow → Shared → Prop} {E s} (F : Fm B env.locals s.heap m)
    (ho : Ev prog w A env B m o (IsR D)) (he : EvO prog w A env B m e P) (hD : s.heap.get? D = some { cls := .type "list", data := .seq its n }) (hDB : B D = none) (hsz : its.size ≤ sizeLine)
    (k : ∀ v h₁ h' tk, Ext s.heap h₁ → P h₁ v → Fm B env.locals h' m → h'.get? D = some { cls := .type "list", data := .seq (its.push v) (n + 1) } → Heap.SameBut D h₁ h' → wpAny (model prog w) A (execs rest env) Q E { s with heap := h', toks := tk })
    (hbase : attributeBase o "append" env (eval o env) = eval o env := by rfl)
    (hfew : ((backTo p1 (starEach [e] env)).all (fun x => !x.1) && (backToKw p1 (keywordEach [] env)).all (fun x => x.1.isSome)
      && decide (([e] : List Expr).length + ([] : List Keyword).length + (if ([] : List Keyword).isEmpty then 0 else 1) < 30)) = true := by rfl)
    (hline : (apos.endLine == p1.line) = true := by rfl) (htrees : backTo p1 (starEach [e] env) = [(false, eval e env)] := by rfl)
    (hi : interactive env = false := by rfl) (hsw : swapsWith (.Call (.Attribute o "append" apos) [e] [] p1) none p2.line env = pure false := by rfl) :
    wpAny (model prog w) A (execs (.Expr (.Call (.Attribute o "append" apos) [e] [] p1) p2 :: rest) env) Q E s := by
  refine ex_expr (wpAny_Call_append hbase hfew hline htrees (ho F fun v₁ h₁ tk₁ x₁ hv₁ => ?_)) hi hsw
  cases hv₁
  refine ⟨D, its, rfl, ⟨_, _, x₁ _ _ hD, rfl, rfl, rfl⟩, he (F.stays x₁) fun v₂ h₂ tk₂ x₂ hv₂ => append_at (s := { s with heap := h₂, toks := tk₂ }) (hsz := hsz) (x₂ _ _ (x₁ _ _ hD)) fun h' hsb hD' => ⟨trivial, k v₂ h₂ h' tk₂ (x₁.trans x₂) hv₂ ⟨?_, fun b o e => ?_, F.off⟩ hD' hsb⟩⟩
  · exact ((F.stays x₁).stays x₂).ns.sameBut hsb (fun z => by
      obtain ⟨o, es, ep, e, hd, _⟩ := F.ns
      rw [z, hD] at e; cases e; cases hd)
  · exact (hsb.2 b (fun z => by rw [z, hDB] at e; cases e)).trans (((F.stays x₁).stays x₂).keep b o e)

/-- o[i] = e, from either end -/
theorem ex_setAt {o i e : Expr} {p1 p2 : Pos} {rest D} {P : Value → Prop} {its : Array Value} {n : Nat} {j : Int} (j' : Nat) {Q : Flow → Shared → Prop} {E s} (F : Fm B env.locals s.heap m)
    (he : Ev prog w A env B m e P) (ho : Ev prog w A env B m o (IsR D)) (hi : Ev prog w A env B m i (IsI j)) (hD : s.heap.get? D = some { cls := .type "list", data := .seq its n }) (hDB : B D = none) (hsz : its.size < 2 ^ 60)
    (hj : (j = (j' : Int) ∨ j + its.size = (j' : Int) ∧ j < 0) ∧ j' < its.size)
    (k : ∀ v h' tk, P v → Fm B env.locals h' m → h'.get? D = some { cls := .type "list", data := .seq (its.setIfInBounds j' v) n } → (∀ b o, b ≠ D → s.heap.get? b = some o → h'.get? b = some o) → wpAny (model prog w) A (execs rest env) Q E { s with heap := h', toks := tk })
    (hs : swapsWith e (some (.Subscript o i p1)) p2.line env = pure false := by rfl) :
    wpAny (model prog w) A (execs (.Assign [.Subscript o i p1] e p2 :: rest) env) Q E s := by
  refine wpAny_execs_cons (wpAny_Assign_Subscript (he F fun v₁ h₁ tk₁ x₁ hv₁ => ho (F.stays x₁) fun v₂ h₂ tk₂ x₂ hv₂ => hi ((F.stays x₁).stays x₂) fun v₃ h₃ tk₃ x₃ hv₃ => ?_) hs)
  cases hv₂; obtain ⟨t, rfl⟩ := hv₃
  have F₃ := ((F.stays x₁).stays x₂).stays x₃
  have hD₃ := x₃ _ _ (x₂ _ _ (x₁ _ _ hD))
  have fin : wpAny (model prog w) A (execs rest env) Q E { s with heap := h₃.update D (Obj.mapSeq (·.setIfInBounds j' v₁)), toks := tk₃ } := by
    have hsb : Heap.SameBut D h₃ (h₃.update D (Obj.mapSeq (·.setIfInBounds j' v₁))) := Heap.SameBut.update ..
    have hu := IsL.update (n := n) hD₃ (·.setIfInBounds j' v₁)
    have hu' : (h₃.update D (Obj.mapSeq (·.setIfInBounds j' v₁))).get? D = some { cls := .type "list", data := .seq (its.setIfInBounds j' v₁) n } := by
      have : IsL (h₃.update D (Obj.mapSeq (·.setIfInBounds j' v₁))) D (its.setIfInBounds j' v₁) n := by simpa using hu
      exact this
    refine k v₁ _ tk₃ hv₁ ⟨?_, fun b o e => ?_, F.off⟩ hu' fun b o hb e => (hsb.2 b hb).trans (x₃ _ _ (x₂ _ _ (x₁ _ _ e)))
    · exact F₃.ns.sameBut hsb (fun z => by
        obtain ⟨o, es, ep, e, hd, _⟩ := F.ns
        rw [z, hD] at e; cases e; cases hd)
    · exact (hsb.2 b (fun z => by rw [z, hDB] at e; cases e)).trans (F₃.keep b o e)
  obtain ⟨hj1, hj2⟩ := hj
  rcases hj1 with rfl | ⟨e1, e2⟩
  · exact ki_setAt (s := { s with heap := h₃, toks := tk₃ }) (n := n) hD₃ (by omega) (by omega) (by omega) (by simpa using fin)
  · exact ki_setBack (s := { s with heap := h₃, toks := tk₃ }) (n := n) hD₃ e2 (by omega) (by omega) (by rw [e1, Int.toNat_natCast]; exact fin)

/-- a copy by a slice -/
theorem EvO.copy {e : Expr} {p pos : Pos} {K : List Value → Prop} (he : Ev prog w A env B m e (fun v => ∃ a its, v = .ref a ∧ LstB B a its ∧ K its.toList ∧ its.size ≤ sizeLine))
    (ht : ∀ o r, letTemporaryGo e o r = pure () := by intro _ _; rfl) :
    EvO prog w A env B m (.Subscript e (.Slice none none none p) pos) (fun h v => ∃ D its, v = .ref D ∧ h.IsList D its.toArray ∧ K its ∧ B D = none ∧ D ≠ env.locals) := fun {Q E s} F k => by
  refine wpAny_Subscript_Slice (T := "list") list_getitem_lookup (he F fun v₁ h₁ tk₁ x₁ hv₁ => ?_) ht
  obtain ⟨a, its, rfl, hl, hK, hz⟩ := hv₁
  have F₁ := F.stays x₁
  refine wpAny_Slice ?_
  refine wpAny_pure (wpAny_pure (wpAny_pure ?_))
  dsimp only
  have hl₁ : (h₁.push { cls := .type "slice", data := .fields #[.none, .none, .none] }).IsList a its := (hl.get F₁).push _
  refine ⟨hl₁.typeIs, ?_⟩
  refine wpAny_getItem_list_slice (s := { s with heap := h₁.push { cls := .type "slice", data := .fields #[.none, .none, .none] }, toks := tk₁ }) (lo := none) (hi := none) (st := none) hl₁ (Heap.IsSliceOf.new ..) .none .none .none (by simp) ?_ hz
  rw [slicePick_all]
  have F₂ := (F₁.push { cls := .type "slice", data := .fields #[.none, .none, .none] })
  refine k _ _ _ ((x₁.trans fun _ _ e => Heap.get?_push_of_some _ e).trans fun _ _ e => Heap.get?_push_of_some _ e) ⟨_, its.toList, rfl, ⟨_, Heap.get?_push_size _ rfl, rfl, 0, by simp⟩, hK, ?_, Nat.ne_of_gt F₂.lt⟩
  cases e : B (h₁.push { cls := .type "slice", data := .fields #[.none, .none, .none] }).objs.size with
  | none => rfl
  | some o => exact absurd (Heap.lt_size (F₂.keep _ _ e)) (Nat.lt_irrefl _)

theorem EvT.lst {e : Expr} {a : Addr} {items : Array Value} (he : Ev prog w A env B m e (IsR a)) (hl : LstB B a items) (hfit : items.size < 2 ^ 60)
    (ht : isTrue e env (eval e env) = (do let v ← eval e env; standAt e.pos; holding [v] (truthy v)) := by rfl) : EvT prog w A env B m e (!items.isEmpty) :=
  EvT.plain he (fun v s hv F {_ _} k => by cases hv; exact wpAny_truthy_list (hl.get F) (by omega) (k _ _ (.refl _))) ht

theorem Ev.abs {e : Expr} {p1 p2 : Pos} {a : Int} (G : GB mg mb B) (he : Ev prog w A env B m e (IsI a))
    (hg : env.globals = mainGlobals := by rfl) (hb : env.builtins = builtinsNs := by rfl) (hk : env.scope.kind = .function := by rfl) (hx : env.kindOf (Str.ofString "abs") = some .globalImplicit := by rfl)
    (he' : eval (.Call (.Name (Str.ofString "abs") p1) [e] [] p2) env = (do callWith p2 (← eval (.Name (Str.ofString "abs") p1) env) [] (backTo p2 (starEach [e] env)) (backToKw p2 (keywordEach [] env))) := by rfl)
    (hs : starEach [e] env = (false, eval e env) :: starEach [] env := by rfl) :
    Ev prog w A env B m (.Call (.Name (Str.ofString "abs") p1) [e] [] p2) (IsU a.natAbs) :=
  EvO.callB G (by decide) (id := "abs") (by decide +kernel) (EvL.consV he EvL.nil hs) (fun vs s hv F {_ _} k => by
    obtain ⟨v, vs', rfl, ⟨t, rfl⟩, rfl⟩ := hv
    refine call_abs_int fun u tk => k _ _ _ (.refl _) ⟨u, ?_⟩
    congr 1; split <;> omega) hg hb hk hx (by decide) he' hs rfl

/-- the number of ones -/
def ones (k : Nat) : Nat := List.countP k.testBit (List.range (Builtin.Int.intBits (k : Int)))
theorem Ev.bitCount {o : Expr} {apos pos : Pos} {k : Nat} (ho : Ev prog w A env B m o (IsU k))
    (hbase : attributeBase o "bit_count" env (eval o env) = eval o env := by rfl) (hline : (apos.endLine == pos.line) = true := by rfl) :
    Ev prog w A env B m (.Call (.Attribute o "bit_count" apos) [] [] pos) (IsU (ones k)) := fun {Q E s} F kk => by
  refine wpAny_Call_method (T := "int") hbase rfl hline PySem.F.plainAttrs_int PySem.F.slot_int_bit_count PySem.F.type_int_bit_count (ho F fun v h₁ tk x hv => ?_)
  obtain ⟨t, rfl⟩ := hv
  refine ⟨typeIs_int _ _ _, (by intro a e; cases e), ?_⟩
  refine Calls.callWith_builtin rfl (PyProof.Rows.evalArgs_nil3 (call_int_bit_count ?_))
  have e : List.countP ((k : Nat) : Int).natAbs.testBit (List.range (Builtin.Int.intBits (k : Int))) = ones k := by
    unfold ones; rw [Int.natAbs_natCast]
  rw [e]
  exact kk _ h₁ _ x ⟨tk, rfl⟩
end
end Mine
end

section
open PySem PySem.W PySem.Calls PyProof.Rows
set_option linter.unusedVariables false
set_option maxRecDepth 100000
set_option maxHeartbeats 4000000
namespace Mine

theorem Ev.weak {prog : Program} {w : World} {A : Around} {env : Env} {B : Addr → Option Obj} {m : Vs} {e : Expr} {P P' : Value → Prop} (h : Ev prog w A env B m e P) (hp : ∀ v, P v → P' v) : Ev prog w A env B m e P' :=
  fun F k => h F fun v h' tk x hv => k v h' tk x (hp v hv)
theorem EvO.weak {prog : Program} {w : World} {A : Around} {env : Env} {B : Addr → Option Obj} {m : Vs} {e : Expr} {P P' : Heap → Value → Prop} (h : EvO prog w A env B m e P) (hp : ∀ h v, P h v → P' h v) : EvO prog w A env B m e P' :=
  fun F k => h F fun v h' tk x hv => k v h' tk x (hp _ v hv)

/-- an if whose two sides meet -/
theorem ex_ifJ {prog : Program} {w : World} {A : Around} {env : Env} {B : Addr → Option Obj} {m : Vs} {t bd els pos rest b} {Q : Flow → Shared → Prop} {E s} (F : Fm B env.locals s.heap m) (ht : EvT prog w A env B m t b) (J : Vs → Heap → Prop)
    (k₁ : b = true → ∀ h' tk, Ext s.heap h' → Fm B env.locals h' m → wpAny (model prog w) A (execs bd env) (fun f s' => f = .next ∧ ∃ h₂ tk₂ m₂, s' = { s with heap := h₂, toks := tk₂ } ∧ Fm B env.locals h₂ m₂ ∧ J m₂ h₂) (fun _ _ => False) { s with heap := h', toks := tk })
    (k₂ : b = false → ∀ h' tk, Ext s.heap h' → Fm B env.locals h' m → wpAny (model prog w) A (execs els env) (fun f s' => f = .next ∧ ∃ h₂ tk₂ m₂, s' = { s with heap := h₂, toks := tk₂ } ∧ Fm B env.locals h₂ m₂ ∧ J m₂ h₂) (fun _ _ => False) { s with heap := h', toks := tk })
    (k : ∀ h₂ tk₂ m₂, Fm B env.locals h₂ m₂ → J m₂ h₂ → wpAny (model prog w) A (execs rest env) Q E { s with heap := h₂, toks := tk₂ }) :
    wpAny (model prog w) A (execs (.If t bd els pos :: rest) env) Q E s := by
  refine ex_if F ht (fun hb h' tk x F' => wpAny_mono (k₁ hb h' tk x F') (fun f s' h => ?_) fun _ _ z => z.elim) (fun hb h' tk x F' => wpAny_mono (k₂ hb h' tk x F') (fun f s' h => ?_) fun _ _ z => z.elim)
  · obtain ⟨rfl, h₂, tk₂, m₂, rfl, F₂, hJ⟩ := h
    exact k h₂ tk₂ m₂ F₂ hJ
  · obtain ⟨rfl, h₂, tk₂, m₂, rfl, F₂, hJ⟩ := h
    exact k h₂ tk₂ m₂ F₂ hJ

/-- an int, whatever it is -/
def IsZ (v : Value) : Prop := ∃ z, IsI z v
/-- the script -/
def IsScript (B : Addr → Option Obj) (l : Addr) : Prop := ∃ items, LstB B l items ∧ items.size ≤ 63 ∧ ∀ (j : Nat) (x : Value), items[j]? = some x → IsZ x
theorem IsScript.mono {B B' l} (x : IsScript B l) (hs : ∀ b o, B b = some o → B' b = some o) : IsScript B' l := let ⟨i, h1, h2⟩ := x; ⟨i, h1.mono hs, h2⟩

theorem draw_spec {prog : Program} {w : World} {mg mb : Vs} {l : Addr} {i : Nat} (hi : i ≤ 100) :
    Spec prog w mg mb (Str.ofString "_law_draw") 1 (fun h vs => ∃ v, vs = [.ref l, v] ∧ IsU i v ∧ IsScript h.get? l) (fun _ _ _ v => IsZ v) := by
  refine Spec.intro _ rfl rfl rfl rfl rfl rfl (fun vs => (["script", "i"] : List PySem.Str).zip vs) ?_ ?_ ?_
  · rintro h vals pm cd doc ⟨v, rfl, _⟩
    rfl
  · rintro h vals ⟨v, rfl, _⟩ x hx
    exact locs rfl x hx
  rintro A s vals f cd h₁ hA G ⟨v, rfl, hv, items, hl, hsz, hit⟩ F
  dsimp only [itemOf]
  have GB := G.gb
  refine ex_if F (EvT.not (EvT.lst (Ev.name (v := .ref l) rfl IsR.mk) hl (by omega))) (fun hb h₂ tk₂ x₂ F₂ => ?_) (fun hb h₂ tk₂ x₂ F₂ => ?_)
  · refine ex_ret F₂ (Ev.bin (Ev.bin Ev.int (Ev.name (v := v) rfl hv) (op_mul (.of_left (by decide)))) Ev.int op_add) fun v₃ h₃ tk₃ x₃ hv₃ => ⟨h₃, tk₃, rfl, fun b o e => x₃ _ _ (F₂.keep _ _ e), _, hv₃⟩
  · have hpos : 0 < items.size := by
      have : items.isEmpty = false := by simpa using hb
      cases hs : items.size with
      | zero => rw [Array.isEmpty, hs] at this; simp at this
      | succ n => omega
    have hlt := Nat.mod_lt i hpos
    obtain ⟨z, hz⟩ := hit (i % items.size) items[i % items.size] (Array.getElem?_eq_getElem hlt)
    have hmod : Int.fmod (i : Int) (items.size : Int) = ((i % items.size : Nat) : Int) := by
      rw [Int.fmod_eq_emod_of_nonneg _ (by omega)]; push_cast; rfl
    refine ex_nil ?_
    dsimp only
    have hget : items[((i % items.size : Nat) : Int).toNat]? = some items[i % items.size] := by rw [Int.toNat_natCast]; exact Array.getElem?_eq_getElem hlt
    have hm : ∀ A, Op2 prog w A .Mod (IsI (i : Int)) (IsI (items.size : Int)) (IsI ((i % items.size : Nat) : Int)) := fun A => by rw [← hmod]; exact op_mod (by omega)
    refine ex_ret F₂ (Ev.bin (Ev.subL (k := ((i % items.size : Nat) : Int)) (v := items[i % items.size]) (Ev.name (v := .ref l) rfl IsR.mk)
      (Ev.bin (P₁ := IsI (i : Int)) (P₂ := IsI (items.size : Int)) (Ev.name (v := v) rfl hv) (Ev.lenN (n := items.size) GB (Ev.name (v := .ref l) rfl IsR.mk) hl rfl (by omega)) (hm _)) hl (by omega) (by omega) hget hz) (Ev.bin Ev.int (Ev.name (v := v) rfl hv) (op_mul (.of_left (by decide)))) op_add)
      fun v₃ h₃ tk₃ x₃ hv₃ => ⟨h₃, tk₃, rfl, fun b o e => x₃ _ _ (F₂.keep _ _ e), _, hv₃⟩

theorem line_spec {prog : Program} {w : World} {mg mb : Vs} :
    Spec prog w mg mb (Str.ofString "_law_line") 1 (fun _ vs => ∃ v, vs = [v] ∧ IsZ v) (fun _ _ _ v => IsZ v) := by
  refine Spec.intro _ rfl rfl rfl rfl rfl rfl (fun vs => (["bits"] : List PySem.Str).zip vs) ?_ ?_ ?_
  · rintro h vals pm cd doc ⟨v, rfl, _⟩
    rfl
  · rintro h vals ⟨v, rfl, _⟩ x hx
    exact locs rfl x hx
  rintro A s vals f cd h₁ hA G ⟨v, rfl, z, hv⟩ F
  dsimp only [itemOf]
  refine ex_let F (Ev.bin (Ev.name (v := v) rfl hv) Ev.int (op_mod (by decide))) fun vk h₂ tk₂ hvk F₂ kp₂ => ?_
  refine ex_let F₂ (Ev.bin (Ev.bin (Ev.name (v := v) rfl hv) Ev.int (op_fdiv (by decide) (PyProof.noPylong_of_log2 (by decide +kernel)))) Ev.int (op_mod (by decide))) fun vs h₃ tk₃ hvs F₃ kp₃ => ?_
  refine ex_let F₃ Ev.int fun vl h₄ tk₄ hvl F₄ kp₄ => ?_
  refine ex_ifJ F₄ (EvT.cmp (Ev.name (v := vk) rfl hvk) Ev.int cmp_eqI) (fun m _ => (∃ u, m "line" = some u ∧ IsZ u) ∧ m "spot" = some vs) (fun _ h₅ tk₅ x₅ F₅ => ?_) (fun _ h₅ tk₅ x₅ F₅ => ?_) fun h₆ tk₆ m₆ F₆ hJ => ?_
  · refine ex_let F₅ Ev.int fun v₇ h₇ tk₇ hv₇ F₇ kp₇ => ex_nil ⟨rfl, h₇, tk₇, _, rfl, F₇, ⟨v₇, rfl, _, hv₇⟩, rfl⟩
  · refine ex_ifJ F₅ (EvT.cmp (Ev.name (v := vk) rfl hvk) Ev.int cmp_eqI) (fun m _ => (∃ u, m "line" = some u ∧ IsZ u) ∧ m "spot" = some vs) (fun _ h₆ tk₆ x₆ F₆ => ?_) (fun _ h₆ tk₆ x₆ F₆ => ?_) fun h₆ tk₆ m₆ F₆ hJ => ex_nil ⟨rfl, h₆, tk₆, m₆, rfl, F₆, hJ⟩
    · refine ex_let F₆ Ev.int fun v₇ h₇ tk₇ hv₇ F₇ kp₇ => ex_nil ⟨rfl, h₇, tk₇, _, rfl, F₇, ⟨v₇, rfl, _, hv₇⟩, rfl⟩
    · refine ex_ifJ F₆ (EvT.cmp (Ev.name (v := vk) rfl hvk) Ev.int cmp_eqI) (fun m _ => (∃ u, m "line" = some u ∧ IsZ u) ∧ m "spot" = some vs) (fun _ h₇ tk₇ x₇ F₇ => ?_) (fun _ h₇ tk₇ x₇ F₇ => ?_) fun h₆ tk₆ m₆ F₆ hJ => ex_nil ⟨rfl, h₆, tk₆, m₆, rfl, F₆, hJ⟩
      · refine ex_let F₇ Ev.int fun v₇ h₇ tk₇ hv₇ F₇ kp₇ => ex_nil ⟨rfl, h₇, tk₇, _, rfl, F₇, ⟨v₇, rfl, _, hv₇⟩, rfl⟩
      · exact ex_nil ⟨rfl, h₇, tk₇, _, rfl, F₇, ⟨vl, rfl, _, hvl⟩, rfl⟩
  obtain ⟨⟨u, hu, z', hz'⟩, hspot⟩ := hJ
  have h0 : 0 ≤ Int.fmod (Int.fdiv z 4) 22 := Int.fmod_nonneg_of_pos _ (by decide)
  have h22 : Int.fmod (Int.fdiv z 4) 22 < 22 := Int.fmod_lt_of_pos _ (by decide)
  refine ex_ifJ F₆ (EvT.cmp (Ev.name (by exact hspot) hvs) Ev.int cmp_ltI) (fun m _ => ∃ u, m "line" = some u ∧ IsZ u) (fun _ h₅ tk₅ x₅ F₅ => ?_) (fun _ h₅ tk₅ x₅ F₅ => ?_) fun h₇ tk₇ m₇ F₇ hJ => ?_
  · refine ex_aug F₅ hu hz' (Ev.bin (P₁ := IsI 1) Ev.int (Ev.name (by exact hspot) hvs) (op_shl h0 (by have : Builtin.Int.intBits 1 ≤ 1 := by decide
                                                                                                       omega))) oi_xor fun v₈ h₈ tk₈ hv₈ F₈ kp₈ => ex_nil ⟨rfl, h₈, tk₈, _, rfl, F₈, v₈, if_pos rfl, _, hv₈⟩
  · exact ex_nil ⟨rfl, h₅, tk₅, _, rfl, F₅, u, hu, z', hz'⟩
  · obtain ⟨u', hu', hz''⟩ := hJ
    exact ex_ret F₇ (Ev.name (by exact hu') hz'') fun v₃ h₃ tk₃ x₃ hv₃ => ⟨h₃, tk₃, rfl, fun b o e => x₃ _ _ (F₇.keep _ _ e), hv₃⟩
end Mine
end

section
open PySem PySem.W PySem.Calls PyProof.Rows
set_option linter.unusedVariables false
set_option maxRecDepth 100000
namespace Mine
section
variable {prog : Program} {w : World} {A : Around} {env : Env} {B : Addr → Option Obj} {m mg mb : Vs} {L : Addr}

/-- a tuple's item at a place that is told by the value -/
theorem Ev.subTx {o i : Expr} {pos : Pos} {a : Addr} {items : Array Value} {P : Value → Prop} (ho : Ev prog w A env B m o (IsR a)) (hi : Ev prog w A env B m i (fun v => ∃ k : Nat, k < items.size ∧ IsU k v))
    (hl : TupB B a items) (hfit : items.size < 2 ^ 60) (hP : ∀ (k : Nat) (v : Value), items[k]? = some v → P v)
    (hs : ∀ k t, subscripted i false (.ref a) (.int k t) = operate [.ref a, .int k t] (getItem (.ref a) (.int k t)) := by intro _ _; with_unfolding_all rfl) :
    Ev prog w A env B m (.Subscript o i pos) P := fun F h =>
  Subscript_ (ho F fun v₁ _ _ x₁ h₁ => hi (F.stays x₁) fun v₂ h₂ tk x₂ e₂ => by
    cases h₁; obtain ⟨k, hk, t, rfl⟩ := e₂
    have hl' : IsTup h₂ a items.toList.toArray := by simpa using hl.get ((F.stays x₁).stays x₂)
    have hx : items[k]? = some items[k] := Array.getElem?_eq_getElem hk
    refine item_tupleT (j := k) hl' (by omega) (by omega) ?_ (by simpa using hx) (h _ _ _ (x₁.trans x₂) (hP k _ hx)) (hs _ t)
    unfold seqIndex?
    simp only [Array.length_toList]
    split <;> simp_all <;> omega)
theorem op_modZ {b : Int} (hb : 0 < b) : Op2 prog w A .Mod IsZ (IsI b) (fun v => ∃ k : Nat, (k : Int) < b ∧ IsU k v) := fun v₁ v₂ ⟨z, hz⟩ h₂ {_ _ _} h => by
  refine op_mod (a := z) (by omega) v₁ v₂ hz h₂ fun v tk ⟨t, ht⟩ => h v tk ⟨(z.fmod b).toNat, ?_, t, ?_⟩
  · have := Int.fmod_nonneg_of_pos z hb
    have := Int.fmod_lt_of_pos z hb
    omega
  · have := Int.fmod_nonneg_of_pos z hb
    rw [ht]; congr 1; omega

/-- a test of which nothing is known -/
def EvN (prog : Program) (w : World) (A : Around) (env : Env) (B : Addr → Option Obj) (m : Vs) (e : Expr) : Prop :=
  ∀ (Q : Bool → Shared → Prop) (E : Value → Shared → Prop) (s : Shared), Fm B env.locals s.heap m →
    (∀ b h' tk, Ext s.heap h' → Q b { s with heap := h', toks := tk }) → wpAny (model prog w) A (isTrue e env (eval e env)) Q E s
theorem EvN.of {e b} (h : EvT prog w A env B m e b) : EvN prog w A env B m e := fun _ _ _ F k => h F fun h' tk x => k b h' tk x
theorem EvN.and2 {e₁ e₂ pos} (h₁ : EvN prog w A env B m e₁) (h₂ : EvN prog w A env B m e₂) : EvN prog w A env B m (.BoolOp .And [e₁, e₂] pos) := fun Q E s F k =>
  isTrue_and (h₁ _ _ _ F fun b h' tk x => by
    cases b with
    | false => exact k false h' tk x
    | true => exact isTrue_and (h₂ _ _ _ (F.stays x) fun b h'' tk' x' => by
        cases b with
        | false => exact k false h'' tk' (x.trans x')
        | true => exact isTrue_and_nil (k true h'' tk' (x.trans x'))))
theorem EvN.int {e} (hx : Ev prog w A env B m e IsZ)
    (he : isTrue e env (eval e env) = (do let v ← eval e env; standAt e.pos; holding [v] (truthy v)) := by rfl) : EvN prog w A env B m e := fun Q E s F k =>
  isTrue_plain (hx F fun v h' tk x hv => by
    obtain ⟨z, t, rfl⟩ := hv
    exact P.truthy_int (k _ h' tk x)) he
theorem ex_ifN {t bd els pos rest} {Q : Flow → Shared → Prop} {E s} (F : Fm B env.locals s.heap m) (ht : EvN prog w A env B m t) (J : Vs → Heap → Prop)
    (k₁ : ∀ h' tk, Ext s.heap h' → Fm B env.locals h' m → wpAny (model prog w) A (execs bd env) (fun f s' => f = .next ∧ ∃ h₂ tk₂ m₂, s' = { s with heap := h₂, toks := tk₂ } ∧ Fm B env.locals h₂ m₂ ∧ J m₂ h₂) (fun _ _ => False) { s with heap := h', toks := tk })
    (k₂ : ∀ h' tk, Ext s.heap h' → Fm B env.locals h' m → wpAny (model prog w) A (execs els env) (fun f s' => f = .next ∧ ∃ h₂ tk₂ m₂, s' = { s with heap := h₂, toks := tk₂ } ∧ Fm B env.locals h₂ m₂ ∧ J m₂ h₂) (fun _ _ => False) { s with heap := h', toks := tk })
    (k : ∀ h₂ tk₂ m₂, Fm B env.locals h₂ m₂ → J m₂ h₂ → wpAny (model prog w) A (execs rest env) Q E { s with heap := h₂, toks := tk₂ }) :
    wpAny (model prog w) A (execs (.If t bd els pos :: rest) env) Q E s := by
  refine wpAny_execs_cons (wpAny_If (ht _ _ _ F fun b h' tk x => ?_))
  cases b with
  | true =>
    refine wpAny_mono (k₁ h' tk x (F.stays x)) (fun f s' h => ?_) fun _ _ z => z.elim
    obtain ⟨rfl, h₂, tk₂, m₂, rfl, F₂, hJ⟩ := h
    exact k h₂ tk₂ m₂ F₂ hJ
  | false =>
    refine wpAny_mono (k₂ h' tk x (F.stays x)) (fun f s' h => ?_) fun _ _ z => z.elim
    obtain ⟨rfl, h₂, tk₂, m₂, rfl, F₂, hJ⟩ := h
    exact k h₂ tk₂ m₂ F₂ hJ

/-- the new empty list -/
theorem EvO.listNil {pos : Pos} : EvO prog w A env B m (.List [] pos) (fun h v => ∃ D, v = .ref D ∧ h.get? D = some (lst []) ∧ B D = none ∧ D ≠ env.locals) := fun {Q E s} F k => by
  refine List_ (args_nil ?_)
  refine wpAny_newObj_type ?_ (by size_fits)
  refine k _ _ _ (fun _ _ e => Heap.get?_push_of_some _ e) ⟨_, rfl, Heap.get?_push_size _ rfl, ?_, Nat.ne_of_gt F.lt⟩
  cases e : B s.heap.objs.size with
  | none => rfl
  | some o => exact absurd (Heap.lt_size (F.keep _ _ e)) (Nat.lt_irrefl _)
theorem Bof_sub {B L h m} (F : Fm B L h m) (X : List Addr) (hX : ∀ b ∈ X, B b = none) : ∀ b o, B b = some o → Bof h (L :: X) b = some o := fun b o e => Bof_of (F.keep _ _ e) (by
  intro hm
  rcases List.mem_cons.mp hm with z | hm
  · rw [z, F.off] at e; cases e
  · rw [hX b hm] at e; cases e)
theorem IntsAre.item : ∀ {vs : List Value} {ns : List Int} (h : IntsAre vs ns) (k : Nat) (v : Value), vs[k]? = some v → ∃ z ∈ ns, IsI z v
  | _, _, .nil, k, v, e => by simp at e
  | _, _, .cons n t h, 0, v, e => by simp at e; exact ⟨n, .head _, t, e.symm⟩
  | _, _, .cons n t h, k + 1, v, e => by
    simp at e
    obtain ⟨z, hz, r⟩ := IntsAre.item h k v e
    exact ⟨z, .tail _ hz, r⟩
end
end Mine
end

section
open PySem PySem.W PySem.Calls PyProof.Rows
set_option linter.unusedVariables false
set_option maxRecDepth 100000
set_option maxHeartbeats 4000000
namespace Mine

/-- n truth values -/
def BsA (n : Nat) (its : Array Value) : Prop := its.size = n ∧ ∀ (k : Nat) (x : Value), its[k]? = some x → ∃ b, x = .bool b
theorem BsA.set {n its v b} (x : BsA n its) (j : Nat) (hv : v = .bool b) : BsA n (its.setIfInBounds j v) := by
  refine ⟨by simpa using x.1, fun k y e => ?_⟩
  rw [Array.getElem?_setIfInBounds] at e
  split at e
  · split at e
    · cases e; exact ⟨b, hv⟩
    · cases e
  · exact x.2 k y e
def RowAt (n : Nat) (D : Addr) (h : Heap) (y : Value) : Prop := ∃ a its, y = .ref a ∧ h.IsList a its ∧ BsA n its ∧ a ≠ D
theorem RowAt.at {n D h h' y} (x : RowAt n D h y) (k : ∀ b o, Solid o → b ≠ D → y = .ref b → h.get? b = some o → h'.get? b = some o) : RowAt n D h' y := by
  obtain ⟨a, its, e, ⟨o, ho, hc, j, hd⟩, r, hne⟩ := x
  exact ⟨a, its, e, ⟨o, k a o ⟨(by intro _ _ z; rw [hd] at z; cases z), (by intro _ z; rw [hd] at z; cases z)⟩ hne e ho, hc, j, hd⟩, r, hne⟩
theorem RowAt.has {n D h y} (x : RowAt n D h y) : ∃ a o, y = .ref a ∧ h.get? a = some o := let ⟨a, _, e, ⟨o, ho, _⟩, _⟩ := x; ⟨a, o, e, ho⟩
theorem solid_lst {ys} : Solid (lst ys) := ⟨(by intro _ _ z; cases z), (by intro _ z; cases z)⟩

def RowsAt (n : Nat) (D : Addr) (rs : List Value) (h : Heap) : Prop := h.get? D = some (lst rs) ∧ ∀ y ∈ rs, RowAt n D h y
theorem RowsAt.at {n D rs h h'} (x : RowsAt n D rs h) (k : ∀ b o, Solid o → (b = D ∨ .ref b ∈ rs) → h.get? b = some o → h'.get? b = some o) : RowsAt n D rs h' :=
  ⟨k _ _ solid_lst (.inl rfl) x.1, fun y hy => (x.2 y hy).at fun b o ho _ e he => k b o ho (.inr (e ▸ hy)) he⟩

theorem rows_M {n D h} : ∀ {rs : List Value}, (∀ y ∈ rs, RowAt n D h y) → ∃ (M : List (List Bool)) (as : List Addr), rs = as.map Value.ref ∧ as.length = M.length ∧ (∀ r ∈ M, r.length = n) ∧ ∀ i ai, as[i]? = some ai → LstB h.get? ai (((M.getD i []).map Value.bool).toArray)
  | [], _ => ⟨[], [], rfl, rfl, (by simp), (by simp)⟩
  | y :: rs, hy => by
    obtain ⟨M, as, e, hl, hr, hi⟩ := rows_M (rs := rs) fun z hz => hy z (.tail _ hz)
    obtain ⟨a, its, rfl, hlst, ⟨hsz, hb⟩, _⟩ := hy y (.head _)
    have hex : ∃ bs : List Bool, its = (bs.map Value.bool).toArray := by
      have : ∀ l : List Value, (∀ x ∈ l, ∃ b, x = .bool b) → ∃ bs : List Bool, l = bs.map Value.bool := fun l => by
        induction l with
        | nil => exact fun _ => ⟨[], rfl⟩
        | cons x l ih =>
          intro hx
          obtain ⟨b, rfl⟩ := hx x (.head _)
          obtain ⟨bs, rfl⟩ := ih fun z hz => hx z (.tail _ hz)
          exact ⟨b :: bs, rfl⟩
      obtain ⟨bs, hbs⟩ := this its.toList fun x hx => by
        obtain ⟨k, hk, e⟩ := List.getElem_of_mem hx
        exact hb k x (by rw [← Array.getElem?_toList, List.getElem?_eq_getElem hk, e])
      exact ⟨bs, by rw [← hbs]⟩
    obtain ⟨bs, rfl⟩ := hex
    refine ⟨bs :: M, a :: as, by rw [e]; rfl, by simp [hl], ?_, ?_⟩
    · intro r hm
      rcases List.mem_cons.mp hm with rfl | hm
      · simpa using hsz
      · exact hr r hm
    · intro i ai hai
      cases i with
      | zero =>
        simp at hai; subst hai
        obtain ⟨o, ho, r⟩ := hlst
        exact ⟨o, ho, r⟩
      | succ i =>
        simp at hai
        exact hi i ai hai

def LoopI (l D cB : Addr) (vn ve : Value) (n i : Nat) (m : Vs) (h : Heap) : Prop :=
  (∃ rs, RowsAt n D rs h ∧ rs.length = i) ∧ (∃ v₀, h.IsCell cB v₀) ∧ m "script" = some (.ref l) ∧ m "n" = some vn ∧ m "edge" = some ve

section
variable {prog : Program} {w : World} {A : Around} {env : Env} {B : Addr → Option Obj} {m mg mb : Vs} {L : Addr}
/-- a store into a cell, its old value known -/
theorem ex_assignK {x px e pos rest c} {o₀ : Obj} {v₀ : Option Value} {P : Heap → Value → Prop} {Q : Flow → Shared → Prop} {E s} (F : Fm B env.locals s.heap m) (hc : env.cells.lookup x = some c) (ho : s.heap.get? c = some o₀) (hd : o₀.data = .cell v₀) (hcB : B c = none) (hcL : c ≠ env.locals)
    (he : EvO prog w A env (addB B c o₀) m e P)
    (k : ∀ v h₁ h' tk, Ext s.heap h₁ → P h₁ v → Fm B env.locals h' m → h'.IsCell c (some v) → Heap.SameBut c h₁ h' → wpAny (model prog w) A (execs rest env) Q E { s with heap := h', toks := tk })
    (hk : env.scope.kind = .function := by rfl) (hl : env.kindOf x = some .cell := by rfl)
    (hs : swapsWith e (some (.Name x px)) pos.line env = pure false := by rfl) : wpAny (model prog w) A (execs (.Assign [.Name x px] e pos :: rest) env) Q E s :=
  wpAny_execs_cons (wpAny_Assign_Name (he (F.know ho hcL) fun v h₁ _ x₁ hv => wpAny_storeName_cell hk hl hc ⟨o₀, x₁ _ _ ho, hd⟩ fun h' hv' hsb => k v _ h' _ x₁ hv
    ⟨(F.stays x₁).ns.sameBut hsb (Ne.symm hcL), fun b o e => (hsb.2 b (fun q => by rw [q, hcB] at e; cases e)).trans ((F.stays x₁).keep b o e), F.off⟩ hv' hsb) hs)
end

theorem figure_spec {prog : Program} {w : World} {mg mb : Vs} :
    Spec prog w mg mb (Str.ofString "_law_figure") 2 (fun h vs => ∃ l, vs = [.ref l] ∧ IsScript h.get? l)
      (fun _ _ h' v => ∃ a n M, v = .ref a ∧ 1 ≤ n ∧ n ≤ 11 ∧ Sq M n ∧ RowsB h'.get? a M) := by
  rintro A s vals f hA G hf ⟨l, rfl, hS⟩
  have hd : defs0.find? (fun e => decide (e.name = Str.ofString "_law_figure")) = some (itemOf _) := rfl
  obtain ⟨f', c', o, pm, doc, _, _, h3, h4, h5, h6⟩ := (G.made _ (List.mem_of_find?_eq_some hd)).plain rfl
  have e1 : f' = f := by have := h3.symm.trans hf; cases this; rfl
  subst e1
  dsimp only [itemOf] at h5 h6
  refine call_cells_ret (binds := (["script"] : List PySem.Str).zip [.ref l]) hA.room h4 h5 G.nolimit h6 rfl (fun x hx => .inl (locs rfl x hx)) (fun h₁ tk F X => ?_) rfl rfl rfl
  have hcR : h₁.IsCell (s.heap.objs.size + 1) none := X.cell (Str.ofString "rows") _ rfl
  have hcB : h₁.IsCell (s.heap.objs.size + 1 + 1) none := X.cell (Str.ofString "bits") _ rfl
  have F₁ : Fm s.heap.get? s.heap.objs.size h₁ _ := ⟨F.ns, F.keep, fresh_none (Nat.le_refl _)⟩
  have GB := G.gb
  obtain ⟨sa, hsa, vs, ht, hi⟩ := G.sizes
  have hlen : vs.size = 12 := by have := hi.length; simpa using this
  have hTup : TupB s.heap.get? sa vs := let ⟨o, ho, r⟩ := ht; ⟨o, ho, r⟩
  have hmod : ∀ A, Op2 prog w A .Mod IsZ (IsI 12) (fun v => ∃ k : Nat, k < vs.size ∧ IsU k v) := fun A v₁ v₂ h1 h2 {_ _ _} k => op_modZ (by decide) v₁ v₂ h1 h2 fun v tk ⟨j, hj, hu⟩ => k v tk ⟨j, by omega, hu⟩
  have hmodZ : ∀ A b, 0 < b → Op2 prog w A .Mod IsZ (IsI b) IsZ := fun A b hb v₁ v₂ h1 h2 {_ _ _} k => op_modZ hb v₁ v₂ h1 h2 fun v tk ⟨j, hj, hu⟩ => k v tk ⟨_, hu⟩
  have preD : ∀ {B' : Addr → Option Obj}, IsScript B' l → ∀ (i : Nat) (vs : List Value) (h : Heap) (b : Addr) (m' : Vs), (∃ v vs', vs = v :: vs' ∧ IsR l v ∧ ∃ v₂ vs₂, vs' = v₂ :: vs₂ ∧ IsU i v₂ ∧ vs₂ = []) → Fm B' b h m' → ∃ v, vs = [.ref l, v] ∧ IsU i v ∧ IsScript h.get? l := fun hS' i vs h b m' hv F => by
    obtain ⟨v, vs', rfl, e1, v₂, vs₂, rfl, e2, rfl⟩ := hv
    cases e1
    exact ⟨v₂, rfl, e2, hS'.mono F.keep⟩
  have hA₁ : ∀ env, AOk (A.deeper env) 1 := fun env => hA.deeper (env := env)
  refine ex_let F₁ (P := fun v => ∃ n : Nat, 1 ≤ n ∧ n ≤ 11 ∧ IsU n v) (Ev.subTx (items := vs) (Ev.glob GB hsa) (Ev.bin (P₁ := IsZ) (EvO.callD (P := fun _ => IsZ) (draw_spec (l := l) (i := 0) (by decide)) (hA₁ _) rfl rfl GB (EvL.consV (Ev.name (v := .ref l) rfl IsR.mk) (EvL.consV (Ev.nat (n := 0)) EvL.nil)) (fun h vs hv F => preD hS _ vs h _ _ hv F) (fun _ _ _ _ _ _ _ hp => hp)) Ev.int (hmod _)) hTup (by omega) ?hP) fun vn h₂ tk₂ hvn F₂ kp₂ => ?_
  case hP =>
    intro k v e
    obtain ⟨z, hz, hv⟩ := IntsAre.item hi k v (by simpa using e)
    have : ∀ z ∈ ([6, 5, 7, 4, 11, 5, 1, 3, 2, 9, 11, 6] : List Int), 1 ≤ z ∧ z ≤ 11 := by decide
    have := this z hz
    refine ⟨z.toNat, by omega, by omega, ?_⟩
    obtain ⟨t, rfl⟩ := hv
    exact ⟨t, by congr 1; omega⟩
  obtain ⟨n, hn1, hn2, hnv⟩ := hvn
  refine ex_let F₂ (Ev.bin (P₁ := IsZ) (EvO.callD (P := fun _ => IsZ) (draw_spec (l := l) (i := 11) (by decide)) (hA₁ _) rfl rfl GB (EvL.consV (Ev.name (v := .ref l) rfl IsR.mk) (EvL.consV (Ev.nat (n := 11)) EvL.nil)) (fun h vs hv F => preD hS _ vs h _ _ hv F) (fun _ _ _ _ _ _ _ hp => hp)) Ev.int (hmodZ _ 4 (by decide))) fun ve h₃ tk₃ hve F₃ kp₃ => ?_
  obtain ⟨ez, hez⟩ := hve
  have nL1 : s.heap.objs.size + 1 ≠ s.heap.objs.size := Nat.succ_ne_self _
  have nL2 : s.heap.objs.size + 1 + 1 ≠ s.heap.objs.size := Nat.ne_of_gt (Nat.lt_succ_of_lt (Nat.lt_succ_self _))
  have n12 : s.heap.objs.size + 1 ≠ s.heap.objs.size + 1 + 1 := Nat.ne_of_lt (Nat.lt_succ_self _)
  have b1 : s.heap.get? (s.heap.objs.size + 1) = none := fresh_none (Nat.le_succ _)
  have b2 : s.heap.get? (s.heap.objs.size + 1 + 1) = none := fresh_none (Nat.le_succ_of_le (Nat.le_succ _))
  have hcR₃ : h₃.IsCell (s.heap.objs.size + 1) none := by obtain ⟨o, ho, hd⟩ := hcR; exact ⟨o, kp₃ _ _ nL1 (kp₂ _ _ nL1 ho), hd⟩
  have hcB₃ : h₃.IsCell (s.heap.objs.size + 1 + 1) none := by obtain ⟨o, ho, hd⟩ := hcB; exact ⟨o, kp₃ _ _ nL2 (kp₂ _ _ nL2 ho), hd⟩
  refine ex_assignC (c := s.heap.objs.size + 1) F₃ rfl hcR₃ b1 nL1 EvO.listNil fun v h₄ h₅ tk₅ x₄ hv F₅ hcR₅ hsb₅ => ?_
  obtain ⟨D, rfl, hD, hDB, hDL⟩ := hv
  have cell_ne : ∀ {h : Heap} {c a : Addr} {v₀ ys}, h.IsCell c v₀ → h.get? a = some (lst ys) → a ≠ c := fun ⟨o, ho, hd⟩ e z => by
    rw [z, ho] at e; cases e; cases hd
  have hcR₄ : h₄.IsCell (s.heap.objs.size + 1) none := let ⟨o, ho, hd⟩ := hcR₃; ⟨o, x₄ _ _ ho, hd⟩
  have hcB₄ : h₄.IsCell (s.heap.objs.size + 1 + 1) none := let ⟨o, ho, hd⟩ := hcB₃; ⟨o, x₄ _ _ ho, hd⟩
  have nD1 := cell_ne hcR₄ hD
  have nD2 := cell_ne hcB₄ hD
  have hD₅ : h₅.get? D = some (lst []) := (hsb₅.2 D nD1).trans hD
  have hcB₅ : h₅.IsCell (s.heap.objs.size + 1 + 1) none := let ⟨o, ho, hd⟩ := hcB₄; ⟨o, (hsb₅.2 _ (Ne.symm n12)).trans ho, hd⟩
  obtain ⟨oc, hoc, hod⟩ := hcR₅
  have F₆ := F₅.know hoc nL1
  have hB₆ := addB_mono F₅ hoc
  have GB₆ := GB.mono hB₆
  have hS₆ := hS.mono hB₆
  have bD : addB s.heap.get? (s.heap.objs.size + 1) oc D = none := by unfold addB; rw [if_neg nD1]; exact hDB
  have b2' : addB s.heap.get? (s.heap.objs.size + 1) oc (s.heap.objs.size + 1 + 1) = none := by unfold addB; rw [if_neg (Ne.symm n12)]; exact b2
  have hRc : addB s.heap.get? (s.heap.objs.size + 1) oc (s.heap.objs.size + 1) = some oc := addB_same
  generalize hB1 : addB s.heap.get? (s.heap.objs.size + 1) oc = B₁ at F₆ hB₆ GB₆ hS₆ bD b2' hRc
  refine ex_forS (n := n) F₆ [D, s.heap.objs.size + 1 + 1] (EvO.range1 GB₆ (n := (n : Int)) (Ev.name (v := vn) rfl hnv)) ?hit (P := fun i v => i < n ∧ IsU i v) (LoopI l D (s.heap.objs.size + 1 + 1) vn ve n) ?hXB ?hXh ?hIx ?h0 ?turn ?done
  case hit =>
    rintro h v x ⟨r, t, u, y, rfl, hr⟩ F'
    refine Itb.rng (A := A.deeper _) hA.1 (by omega) ⟨t, u, y, Bof_of hr ?_⟩
    intro hm
    rcases List.mem_cons.mp hm with z | hm
    · exact Ns_ne F'.ns hr (by intro _ _ q; cases q) z
    rcases List.mem_cons.mp hm with z | hm
    · rw [z, x _ _ hD₅] at hr
      have q := congrArg (Option.map Obj.cls) hr
      simp [lst] at q
    · obtain ⟨o, ho, hd⟩ := hcB₅
      rw [List.mem_singleton.mp hm, x _ _ ho] at hr; cases hr; cases hd
  case hXB =>
    intro b hb
    rcases List.mem_cons.mp hb with rfl | hb
    · exact bD
    · rw [List.mem_singleton.mp hb]; exact b2'
  case hXh =>
    intro b hb
    rcases List.mem_cons.mp hb with rfl | hb
    · exact ⟨_, hD₅⟩
    · rw [List.mem_singleton.mp hb]; exact let ⟨o, ho, _⟩ := hcB₅; ⟨o, ho⟩
  case hIx =>
    rintro i m h h' k ⟨⟨rs, hr, hl⟩, ⟨v₀, o, ho, hd⟩, r⟩
    exact ⟨⟨rs, hr.at fun b o s _ e => k b o e s, hl⟩, ⟨v₀, o, k _ _ ho ⟨(by intro _ _ z; rw [hd] at z; cases z), (by intro _ z; rw [hd] at z; cases z)⟩, hd⟩, r⟩
  case h0 =>
    exact ⟨⟨[], ⟨hD₅, by simp⟩, rfl⟩, ⟨none, hcB₅⟩, rfl, rfl, rfl⟩
  case turn =>
    rintro i B' m' h₇ tk₇ v hBB' hX hi ⟨hilt, hv⟩ ⟨⟨rs, hrs, hrl⟩, ⟨v₀, ob, hob, hobd⟩, e1, e2, e3⟩ F₇
    have hDB' : B' D = none := hX D (.head _)
    have hcB' : B' (s.heap.objs.size + 1 + 1) = none := hX _ (.tail _ (.head _))
    have GB' := GB₆.mono hBB'
    have hS' := hS₆.mono hBB'
    have hRc' := hBB' _ _ hRc
    -- bits
    refine ex_assignK F₇ (c := s.heap.objs.size + 1 + 1) rfl hob hobd hcB' nL2 (EvO.callD (P := fun _ => IsZ) (draw_spec (l := l) (i := 1 + i) (by omega)) (hA₁ _) rfl rfl (GB'.mono (addB_mono F₇ hob))
      (EvL.consV (Ev.name (v := .ref l) (by exact e1) IsR.mk) (EvL.consV (Ev.bin (Ev.nat (n := 1)) (Ev.name (v := v) rfl hv) un_add) EvL.nil)) (fun h vs hv F => preD (hS'.mono (addB_mono F₇ hob)) _ vs h _ _ hv F) (fun _ _ _ _ _ _ _ hp => hp)) fun vb h₈ h₉ tk₉ x₈ hvb F₉ hcell₉ hsb₉ => ?_
    have hcell₇ : h₇.IsCell (s.heap.objs.size + 1 + 1) v₀ := ⟨ob, hob, hobd⟩
    have rs_keep : ∀ {h h' : Heap}, RowsAt n D rs h → (∃ v, h.IsCell (s.heap.objs.size + 1 + 1) v) → (∀ b o, b ≠ s.heap.objs.size + 1 + 1 → h.get? b = some o → h'.get? b = some o) → RowsAt n D rs h' := fun x ⟨v, o, ho, hd⟩ k =>
      x.at fun b o' hs hb e => k b o' (fun z => by
        rw [z, ho] at e; cases e
        rcases hb with hb | hb
        · have := x.1; rw [← hb, z, ho] at this; cases this; cases hd
        · obtain ⟨a, its, e, ⟨o₂, ho₂, _, j, hd₂⟩, _⟩ := x.2 _ hb
          cases e; rw [z, ho] at ho₂; cases ho₂; rw [hd] at hd₂; cases hd₂) e
    have hrs₉ : RowsAt n D rs h₉ := rs_keep (hrs.at fun b o _ _ e => x₈ _ _ e) ⟨v₀, ob, x₈ _ _ hob, hobd⟩ fun b o hb e => (hsb₉.2 b hb).trans e
    let m₁ : Vs := upd m' "r" v
    refine ex_ifJ F₉ (EvT.cmp (Ev.name (by exact e2) hnv) (Ev.nat (n := 11)) cmp_eqU) (fun m h => m = m₁ ∧ RowsAt n D rs h ∧ ∃ z vz, h.IsCell (s.heap.objs.size + 1 + 1) (some vz) ∧ IsI z vz) (fun _ h₁₀ tk₁₀ x₁₀ F₁₀ => ?_) (fun _ h₁₀ tk₁₀ x₁₀ F₁₀ => ?_) fun h₁₁ tk₁₁ m₁₁ F₁₁ hJ => ?_
    · obtain ⟨o9, ho9, hd9⟩ := hcell₉
      refine ex_assignK F₁₀ (c := s.heap.objs.size + 1 + 1) rfl (x₁₀ _ _ ho9) hd9 hcB' nL2 (EvO.callD (P := fun _ => IsZ) line_spec (hA₁ _) rfl rfl (GB'.mono (addB_mono F₁₀ (x₁₀ _ _ ho9)))
        (EvL.consV (Ev.cellName (c := s.heap.objs.size + 1 + 1) rfl addB_same hd9 hvb) EvL.nil) (fun h vs hv F => ?_) (fun _ _ _ _ _ _ _ hp => hp)) fun vb h₁₁ h₁₂ tk₁₂ x₁₁ hvb F₁₂ hcell₁₂ hsb₁₂ => ?_
      · obtain ⟨v, vs', rfl, e1, rfl⟩ := hv
        exact ⟨v, rfl, e1⟩
      · obtain ⟨z, hz⟩ := hvb
        exact ex_nil ⟨rfl, h₁₂, tk₁₂, _, rfl, F₁₂, rfl, rs_keep (hrs₉.at fun b o _ _ e => x₁₁ _ _ (x₁₀ _ _ e)) ⟨_, o9, x₁₁ _ _ (x₁₀ _ _ ho9), hd9⟩ (fun b o hb e => (hsb₁₂.2 b hb).trans e), z, _, hcell₁₂, hz⟩
    · obtain ⟨z, hz⟩ := hvb
      exact ex_nil ⟨rfl, h₁₀, tk₁₀, _, rfl, F₁₀, rfl, hrs₉.at fun b o _ _ e => x₁₀ _ _ e, z, _, hcell₉.keeps x₁₀, hz⟩
    obtain ⟨rfl, hrs₁₁, z, vz, ⟨oz, hoz, hoz'⟩, hz⟩ := hJ
    -- the row
    have F₁₂ := F₁₁.know hoz nL2
    have hB₁₂ := addB_mono F₁₁ hoz
    refine ex_assignComp false (n := n) (P := fun i v => i < n ∧ IsU i v) (PV := fun _ y => ∃ b, y = .bool b) (K := fun _ _ => False) F₁₂ (EvO.range1 (GB'.mono hB₁₂) (n := (n : Int)) (Ev.name (v := vn) (by exact e2) hnv)) ?hit₂ (by show n ≤ 16777216; omega) ?helt (fun a ys h₁₃ tk₁₃ kp₁₃ ha hyl hys ha0 haL F₁₃ => ?_) rfl (by decide)
    case hit₂ =>
      rintro h v ⟨r, t, u, y, rfl, hr⟩ F'
      exact Itb.rng (A := A.deeper _) hA.1 (by omega) ⟨t, u, y, hr⟩
    case helt =>
      rintro C j v B₃ m₂ hj ⟨_, hv⟩ hB₃ hb
      intro Q E s' F' k
      refine Ev.use (P := IsB (Builtin.bitAnd (z.fdiv (2 ^ ((j : Int)).toNat)) 1 == 1)) F' (fun v h' tk x hb => k v h' tk x (.inl ⟨_, hb⟩)) ?_
      exact Ev.cmp (Ev.bin (Ev.bin (Ev.cellName (c := s.heap.objs.size + 1 + 1) rfl (hB₃ _ _ addB_same) hoz' hz) (Ev.name (v := v) hb hv) (op_shr (by omega))) Ev.int op_and) Ev.int cmp_eqI
    have hmono₁₃ : ∀ b o, h₁₁.get? b = some o → b ≠ s.heap.objs.size → h₁₃.get? b = some o := fun b o e hb => kp₁₃ b o hb e
    have nsne : ∀ {h : Heap} {m : Vs} {b : Addr} {o : Obj}, h.Ns s.heap.objs.size m → h.get? b = some o → Solid o → b ≠ s.heap.objs.size := fun hn e hs => Ns_ne hn e hs.1
    have hrs₁₃ : RowsAt n D rs h₁₃ := hrs₁₁.at fun b o hs _ e => hmono₁₃ b o e (nsne F₁₁.ns e hs)
    have hcell₁₃ : h₁₃.get? (s.heap.objs.size + 1 + 1) = some oz := hmono₁₃ _ _ hoz nL2
    have hys' : BsA n ys.toArray := ⟨by simpa using hyl, fun k x e => by
      rcases hys k x (by simpa using e) with ⟨b, hb⟩ | ⟨_, _, _, _, hf, _⟩
      · exact ⟨b, hb⟩
      · exact hf.elim⟩
    have aD : a ≠ D := fun z => by rw [z, hrs₁₁.1] at ha0; cases ha0
    have aC : a ≠ s.heap.objs.size + 1 + 1 := fun z => by rw [z, hoz] at ha0; cases ha0
    have ars : .ref a ∉ rs := fun hm => by
      obtain ⟨b, o, e, ho⟩ := (hrs₁₁.2 _ hm).has
      cases e; rw [ho] at ha0; cases ha0
    have aB : B' a = none := by
      cases e : B' a with
      | none => rfl
      | some o => have := (F₁₁.keep _ _ e).symm.trans ha0; cases this
    have F₁₄ := F₁₃.less hB₁₂
    -- the edges
    let m₂ : Vs := upd m₁ "row" (.ref a)
    refine ex_ifJ F₁₄ (EvAll.toT (EvAll.and (EvT.cmp (Ev.name (v := vn) (by exact e2) hnv) (Ev.nat (n := 11)) cmp_ltI) fun _ => EvAll.and (EvT.cmp (Ev.name (v := ve) (by exact e3) hez) Ev.int cmp_ltI) fun _ => EvAll.andNil))
      (fun m h => ∃ a' its, m = upd (upd m₁ "row" (.ref a)) "row" (.ref a') ∧ h.IsList a' its ∧ BsA n its ∧ a' ≠ D ∧ RowsAt n D rs h ∧ h.get? (s.heap.objs.size + 1 + 1) = some oz) (fun _ h₁₅ tk₁₅ x₁₅ F₁₅ => ?_) (fun _ h₁₅ tk₁₅ x₁₅ F₁₅ => ?_) fun h₁₆ tk₁₆ m₁₆ F₁₆ hJ => ?_
    · have sz : ys.toArray.size = n := by simpa using hyl
      refine ex_setAt 0 F₁₅ (Ev.cmp (Ev.name (v := ve) (by exact e3) hez) Ev.int cmp_eqI) (Ev.name (v := .ref a) rfl IsR.mk) (Ev.int (i := 0)) (x₁₅ _ _ ha) aB (by omega) ⟨.inl rfl, by omega⟩ fun v₁ h₂₁ tk₂₁ hv₁ F₂₁ hg₂₁ hk₂₁ => ?_
      refine ex_setAt (n - 1) F₂₁ (Ev.cmp (Ev.name (v := ve) (by exact e3) hez) Ev.int cmp_eqI) (Ev.name (v := .ref a) rfl IsR.mk) (Ev.un (Ev.int (i := 1)) op_neg) hg₂₁ aB (by simp; omega) ⟨.inr ⟨by simp; omega, by decide⟩, by simp; omega⟩ fun v₂ h₂₂ tk₂₂ hv₂ F₂₂ hg₂₂ hk₂₂ => ?_
      have hb₂₂ := (hys'.set 0 (by exact hv₁)).set (n - 1) (by exact hv₂)
      have hk : ∀ b o, b ≠ a → h₁₃.get? b = some o → h₂₂.get? b = some o := fun b o hb e => hk₂₂ b o hb (hk₂₁ b o hb (x₁₅ _ _ e))
      have hrs₂₂ : RowsAt n D rs h₂₂ := hrs₁₃.at fun b o _ hb e => hk b o (fun z => by
        rcases hb with hb | hb
        · exact aD (z.symm.trans hb)
        · exact ars (z ▸ hb)) e
      have hc₂₂ := hk _ _ (Ne.symm aC) hcell₁₃
      refine ex_ifJ F₂₂ (EvAll.toT (EvAll.or (EvT.cmp (Ev.name (v := v) rfl hv) (Ev.nat (n := 0)) cmp_eqU) fun _ => EvAll.or (EvT.cmp (P₁ := IsI (i : Int)) (Ev.name (v := v) rfl hv) (Ev.bin (P₁ := IsI (n : Int)) (Ev.name (v := vn) (by exact e2) hnv) Ev.int op_sub) cmp_eqI) fun _ => EvAll.orNil))
        (fun m h => ∃ a' its, m = upd (upd m₁ "row" (.ref a)) "row" (.ref a') ∧ h.IsList a' its ∧ BsA n its ∧ a' ≠ D ∧ RowsAt n D rs h ∧ h.get? (s.heap.objs.size + 1 + 1) = some oz) (fun _ h₂₃ tk₂₃ x₂₃ F₂₃ => ?_) (fun _ h₂₃ tk₂₃ x₂₃ F₂₃ => ?_) fun h₂₄ tk₂₄ m₂₄ F₂₄ hJ => ex_nil ⟨rfl, h₂₄, tk₂₄, m₂₄, rfl, F₂₄, hJ⟩
      · refine ex_assign (F₂₃.rebase []) (EvO.mulList (k := n) (Ev.cmp (Ev.name (v := ve) (by exact e3) hez) Ev.int cmp_eqI) (Ev.name (v := vn) (by exact e2) hnv) (by omega)) fun vC h₂₅ h₂₆ tk₂₆ x₂₅ hC F₂₆ hsb₂₆ => ?_
        obtain ⟨C, x0, rfl, hx0, hCl, hCB, hCL⟩ := hC
        have hk₂₆ : ∀ b o, b ≠ s.heap.objs.size → h₂₂.get? b = some o → h₂₆.get? b = some o := fun b o hb e => (hsb₂₆.2 b hb).trans (x₂₅ _ _ (x₂₃ _ _ e))
        have hC0 : h₂₃.get? C = none := by
          cases e : h₂₃.get? C with
          | none => rfl
          | some o => have := Bof_of (Y := [s.heap.objs.size]) e (fun hm => hCL (List.mem_singleton.mp hm)); have := this.symm.trans hCB; cases this
        refine ex_nil ⟨rfl, h₂₆, tk₂₆, _, rfl, ⟨F₂₆.ns, fun b o e => ?_, F₂₃.off⟩, C, _, rfl, hCl.at fun o e => (hsb₂₆.2 C hCL).trans e, ⟨by simp, fun k y e => ?_⟩, ?_, hrs₂₂.at fun b o hs _ e => hk₂₆ b o (nsne F₂₂.ns e hs) e, hk₂₆ _ _ nL2 hc₂₂⟩
        · have e' := F₂₂.keep _ _ e
          exact hk₂₆ b o (F₂₃.ne e) e'
        · rw [List.getElem?_toArray, List.getElem?_replicate] at e
          split at e
          · cases e; exact ⟨_, hx0⟩
          · cases e
        · intro z
          rw [z, x₂₃ _ _ hrs₂₂.1] at hC0; cases hC0
      · refine ex_nil ⟨rfl, h₂₃, tk₂₃, _, rfl, F₂₃, a, _, ?_, ⟨_, x₂₃ _ _ hg₂₂, rfl, _, rfl⟩, hb₂₂, aD, hrs₂₂.at fun b o _ _ e => x₂₃ _ _ e, x₂₃ _ _ hc₂₂⟩
        funext y; unfold upd; split <;> rfl
    · refine ex_nil ⟨rfl, h₁₅, tk₁₅, _, rfl, F₁₅, a, _, ?_, ⟨_, x₁₅ _ _ ha, rfl, _, rfl⟩, hys', aD, hrs₁₃.at fun b o _ _ e => x₁₅ _ _ e, x₁₅ _ _ hcell₁₃⟩
      funext y; unfold upd; split <;> rfl
    obtain ⟨a', its, rfl, hal, hab, haD, hrs₁₆, hc₁₆⟩ := hJ
    refine ex_append F₁₆ (D := D) (Ev.cellName (c := s.heap.objs.size + 1) rfl hRc' hod IsR.mk) (Ev.name (v := .ref a') rfl IsR.mk) hrs₁₆.1 hDB' (by show rs.toArray.size ≤ 16777216; rw [List.size_toArray]; omega) fun v₁₇ h₁₇ h₁₈ tk₁₈ x₁₇ hv₁₇ F₁₈ hD₁₈ hsb₁₈ => ?_
    cases hv₁₇
    have k₁₈ : ∀ b o, b ≠ D → h₁₆.get? b = some o → h₁₈.get? b = some o := fun b o hb e => (hsb₁₈.2 b hb).trans (x₁₇ _ _ e)
    refine ex_nil ⟨.inl rfl, h₁₈, tk₁₈, _, rfl, F₁₈, ⟨rs ++ [Value.ref a'], ⟨?_, ?_⟩, by simp [hrl]⟩, ⟨_, oz, k₁₈ _ _ (Ne.symm nD2) hc₁₆, hoz'⟩, e1, e2, e3⟩
    · rw [hD₁₈]
      show some ({ cls := .type "list", data := .seq (rs.toArray.push (Value.ref a')) (rs.length + 1) } : Obj) = some { cls := .type "list", data := .seq (rs ++ [Value.ref a']).toArray (rs ++ [Value.ref a']).length }
      rw [List.length_append, List.length_singleton, List.push_toArray]
    · intro y hy
      rcases List.mem_append.mp hy with hy | hy
      · exact (hrs₁₆.2 y hy).at fun b o _ hb _ e => k₁₈ b o hb e
      · rw [List.mem_singleton.mp hy]
        exact ⟨a', its, rfl, hal.at fun o e => k₁₈ _ o haD e, hab, haD⟩
  case done =>
    rintro h₃₀ tk₃₀ m₃₀ F₃₀ ⟨⟨rs, hrs, hrl⟩, _, e1, e2, e3⟩
    have hoc₃₀ := F₃₀.keep _ _ hRc
    have F₃₁ := F₃₀.less hB₆
    refine ex_ifN F₃₁ (EvN.and2 (EvN.of (EvT.cmp (Ev.name (v := vn) (by exact e2) hnv) (Ev.nat (n := 11)) cmp_eqU)) (EvN.int (Ev.bin (P₁ := IsZ) (EvO.callD (P := fun _ => IsZ) (draw_spec (l := l) (i := 12) (by decide)) (hA₁ _) rfl rfl GB (EvL.consV (Ev.name (v := .ref l) (by exact e1) IsR.mk) (EvL.consV (Ev.nat (n := 12)) EvL.nil)) (fun h vs hv F => preD hS _ vs h _ _ hv F) (fun _ _ _ _ _ _ _ hp => hp)) Ev.int (hmodZ _ 2 (by decide)))))
      (fun m h => ∃ D' rs' oc', h.get? (s.heap.objs.size + 1) = some oc' ∧ oc'.data = .cell (some (.ref D')) ∧ RowsAt n D' rs' h ∧ rs'.length = n) (fun h₃₁ tk₃₁ x₃₁ F₃₁ => ?_) (fun h₃₁ tk₃₁ x₃₁ F₃₁ => ?_) fun h₃₂ tk₃₂ m₃₂ F₃₂ hJ => ?_
    · have hrs₃₁ : RowsAt n D rs h₃₁ := hrs.at fun b o _ _ e => x₃₁ _ _ e
      have hoc₃₁ := x₃₁ _ _ hoc₃₀
      have FB : Fm (Bof h₃₁ [s.heap.objs.size, s.heap.objs.size + 1]) s.heap.objs.size h₃₁ m₃₀ := F₃₁.rebase [s.heap.objs.size + 1]
      have offB : ∀ {a : Addr} {o : Obj}, h₃₁.get? a = some o → Solid o → (∀ v, o.data ≠ .cell v) → Bof h₃₁ [s.heap.objs.size, s.heap.objs.size + 1] a = some o := fun {a o} e hs hc => Bof_of e (fun hm => by
        rcases List.mem_cons.mp hm with z | hm
        · exact Ns_ne F₃₁.ns e hs.1 z
        · rw [List.mem_singleton.mp hm, hoc₃₁] at e; cases e; exact hc _ hod)
      have hDl : LstB (Bof h₃₁ [s.heap.objs.size, s.heap.objs.size + 1]) D rs.toArray := ⟨_, offB hrs₃₁.1 solid_lst (by intro v z; cases z), rfl, _, rfl⟩
      have subB : ∀ b o, s.heap.get? b = some o → Bof h₃₁ [s.heap.objs.size, s.heap.objs.size + 1] b = some o := fun b o e => Bof_of (F₃₁.keep _ _ e) (fun hm => by
        rcases List.mem_cons.mp hm with z | hm
        · exact F₃₁.ne e z
        · rw [List.mem_singleton.mp hm, b1] at e; cases e)
      refine ex_assignK FB (c := s.heap.objs.size + 1) rfl hoc₃₁ hod (Bof_in (.tail _ (.head _))) nL1 (EvO.comp true (n := n) (P := fun i v => i < n ∧ IsU i v) (PV := fun _ _ => False) (K := fun _ its => BsA n its.toArray)
        (EvO.range1 (GB.mono fun b o e => addB_mono FB hoc₃₁ _ _ (subB b o e)) (n := (n : Int)) (Ev.name (v := vn) (by exact e2) hnv)) ?hit₃ (by show n ≤ 16777216; omega) ?helt₃ rfl (by decide)) fun v h₃₃ h₃₄ tk₃₄ x₃₃ hv F₃₄ hcell₃₄ hsb₃₄ => ?_
      case hit₃ =>
        rintro h v ⟨r, t, u, y, rfl, hr⟩ F'
        exact Itb.rng (A := A.deeper _) hA.1 (by omega) ⟨t, u, y, hr⟩
      case helt₃ =>
        rintro C i v B' m₂ hi ⟨_, hv⟩ hB' ⟨ov, hov, hovd⟩
        refine EvO.weak (EvO.comp false (n := n) (P := fun j v => rs.toArray[j]? = some v) (PI := fun _ => IsR D) (PV := fun _ y => ∃ b, y = .bool b) (K := fun _ _ => False)
          (Ev.cellName (c := s.heap.objs.size + 1) rfl (hB' _ _ addB_same) hod IsR.mk) ?hit₄ (by show n ≤ 16777216; omega) ?helt₄ rfl (by decide)) ?w
        case hit₄ =>
          rintro h v rfl F'
          refine Itb.mono (Itb.lst (A := A.deeper _) (items := rs.toArray) hA.1 ?_) (by simp [hrl]) fun _ _ e => e
          exact (hDl.mono fun b o e => hB' _ _ (addB_mono FB hoc₃₁ _ _ e)).mono F'.keep
        case helt₄ =>
          intro C₂ j v₂ B₃ m₃ hj hP hB₃ hb₃
          have hmem : v₂ ∈ rs := List.mem_of_getElem? (by simpa using hP)
          obtain ⟨a, its, rfl, ⟨oa, hoa, hac, k, had⟩, hab, _⟩ := hrs₃₁.2 v₂ hmem
          have hal : LstB B₃ a its := ⟨oa, hB₃ _ _ (hB' _ _ (addB_mono FB hoc₃₁ _ _ (offB hoa ⟨(by intro _ _ z; rw [had] at z; cases z), (by intro _ z; rw [had] at z; cases z)⟩ (by intro _ z; rw [had] at z; cases z)))), hac, k, had⟩
          have hlt : i < its.size := by rw [hab.1]; exact hi
          have hget : its[((i : Nat) : Int).toNat]? = some its[i] := by rw [Int.toNat_natCast]; exact Array.getElem?_eq_getElem hlt
          obtain ⟨b, hb⟩ := hab.2 i _ (Array.getElem?_eq_getElem hlt)
          intro Q E s' F' k
          refine Ev.use (P := IsB b) F' (fun v h' tk x hb => k v h' tk x (.inl ⟨_, hb⟩)) ?_
          exact Ev.subL (k := ((i : Nat) : Int)) (v := its[i]) (Ev.name (v := .ref a) hb₃ IsR.mk) (Ev.cellName (c := C + 1) rfl (hB₃ _ _ hov) hovd hv) hal (by omega) (by omega) hget hb
        case w =>
          rintro h v ⟨D', ys, rfl, hD', hyl, hys, hb, _⟩
          refine .inr ⟨D', ys, rfl, ⟨_, hD', rfl, _, rfl⟩, ⟨by simpa using hyl, fun k x e => ?_⟩, ?_⟩
          · rcases hys k x (by simpa using e) with hb | ⟨_, _, _, _, hf, _⟩
            · exact hb
            · exact hf.elim
          · rintro ⟨o, ho⟩
            rw [hb] at ho; cases ho
      · obtain ⟨D', ys, rfl, hD', hyl, hys, hb, _⟩ := hv
        have q : addB (Bof h₃₁ [s.heap.objs.size, s.heap.objs.size + 1]) (s.heap.objs.size + 1) oc (s.heap.objs.size + 1) = some oc := addB_same
        have nD' : D' ≠ s.heap.objs.size + 1 := fun z => by rw [z] at hb; have := q.symm.trans hb; cases this
        obtain ⟨o₄, ho₄, hd₄⟩ := hcell₃₄
        refine ex_nil ⟨rfl, h₃₄, tk₃₄, _, rfl, F₃₄.less subB, D', ys, o₄, ho₄, hd₄, ⟨(hsb₃₄.2 _ nD').trans hD', fun y hy => ?_⟩, hyl⟩
        obtain ⟨j, hj, e⟩ := List.getElem_of_mem hy
        rcases hys j y (by rw [List.getElem?_eq_getElem hj, e]) with hf | ⟨a, its, rfl, hl, hK, hbad⟩
        · exact hf.elim
        · exact ⟨a, _, rfl, hl.at fun o e => (hsb₃₄.2 a (fun z => hbad (.inr (.inr ⟨oc, by rw [z]; exact q⟩)))).trans e, hK, fun z => hbad (.inl z)⟩
    · exact ex_nil ⟨rfl, h₃₁, tk₃₁, _, rfl, F₃₁, D, rs, oc, x₃₁ _ _ hoc₃₀, hod, hrs.at fun b o _ _ e => x₃₁ _ _ e, hrl⟩
    · obtain ⟨D', rs', oc', ho', hd', hrs', hrl'⟩ := hJ
      refine ex_ret (F₃₂.know ho' nL1) (Ev.cellName (c := s.heap.objs.size + 1) rfl addB_same hd' (IsR.mk (a := D'))) fun v h₃₃ tk₃₃ x₃₃ hv => ?_
      cases hv
      obtain ⟨M, as, e, hl, hr, hi'⟩ := rows_M (h := h₃₃) (rs := rs') fun y hy => (hrs'.2 y hy).at fun b o _ _ _ e => x₃₃ _ _ e
      have hMl : M.length = n := by rw [← hl, ← hrl', e]; simp
      refine ⟨_, h₃₃, tk₃₃, rfl, rfl, fun b o e => x₃₃ _ _ (F₃₂.keep _ _ e), D', n, M, rfl, hn1, hn2, ⟨hMl, fun i hi => ?_⟩, as, ⟨_, x₃₃ _ _ hrs'.1, rfl, _, by rw [e]⟩, hl, hi'⟩
      have hlt : i < M.length := by omega
      rw [List.getD_eq_getElem?_getD, List.getElem?_eq_getElem hlt]
      exact hr _ (List.getElem_mem hlt)
end Mine
end

section
open PySem PySem.W PySem.Calls PyProof.Rows
set_option linter.unusedVariables false
set_option maxRecDepth 100000
namespace Mine

theorem gives_or_int_bool (a : Int) (t : Tok) (b : Bool) :
    Gives (Builtin.«int.__or__» ⟨[.int a t, .bool b], []⟩) (.int (Builtin.bitOr a (if b = true then (1 : Int) else 0))) :=
  .of_wp fun M A E s Q h => by obtain ⟨hp, g, d, tk, os⟩ := s; wp_walk; exact ⟨_, rfl, h⟩
theorem same_reflected_int_bool_or : reflectedDiffers (.type "int") (.type "bool") "or" = pure true := by
  unfold reflectedDiffers
  show (typeLookup (.type "bool") (dunderR "or") >>= fun rb => typeLookup (.type "int") (dunderR "or") >>= fun ra => pure (rb.isSome && rb != ra)) = pure true
  rw [typeLookup_type, typeLookup_type, builtinLookup_eq_fast]; kernel_rfl

theorem gives_ror_bool_int (a : Int) (t : Tok) (b : Bool) :
    Gives (Builtin.«bool.__ror__» ⟨[.bool b, .int a t], []⟩) (.int (Builtin.bitOr a (if b = true then (1 : Int) else 0))) :=
  have e : Builtin.«bool.__ror__» ⟨[.bool b, .int a t], []⟩ = (do rule "bool.bitwise.as-ints"; again (.builtin "int.__or__" ⟨[.int a t, .bool b], []⟩)) := by with_unfolding_all rfl
  e ▸ Gives.rule (Gives.again (id' := "int.__or__") (args' := ⟨[.int a t, .bool b], []⟩) rfl (by decide +kernel) PySem.F.entry_int_or (gives_or_int_bool a t b))
theorem or_int_bool {prog : Program} {w : World} {A : Around} {E : Value → Shared → Prop} {s : Shared} {Q : Value → Shared → Prop} {a : Int} {t : Tok} {b : Bool}
    (h : Q (.int (Builtin.bitOr a (if b = true then (1 : Int) else 0)) s.toks) { s with toks := s.toks + 1 }) : wpAny (model prog w) A (binaryOp .BitOr (.int a t) (.bool b)) Q E s := by
  simp only [binaryOp, Operator.info]
  refine wpAny_holding (wpAny_bind ?_)
  simp only [binaryOp1]
  refine wpAny_bind (wpAny_typeOf (typeIs_int s a t) (wpAny_bind (wpAny_typeOf (v := .bool b) (T := "bool") rfl (wpAny_bind (wpAny_of_eq PySem.F.fills_int_or ?_)))))
  have hne : (Value.type "int" == Value.type "bool") = false := by decide
  simp only [hne, Bool.false_eq_true, if_false]
  refine wpAny_bind (wpAny_of_eq PySem.F.fills_bool_or ?_)
  simp only [Bool.and_self, if_true]
  refine wpAny_bind (wpAny_of_eq isSubtype_bool_int ?_)
  simp only [if_true]
  refine wpAny_bind (wpAny_of_eq same_reflected_int_bool_or ?_)
  simp only [if_true]
  refine wpAny_bind (wpAny_rule ?_)
  simp only [tryMethod]
  refine wpAny_bind (wpAny_bind ?_)
  have step : ∀ Q' : Option Value → Shared → Prop, Q' (some (.int (Builtin.bitOr a (if b = true then (1 : Int) else 0)) s.toks)) { s with toks := s.toks + 1 } → wpAny (model prog w) A (callSpecial? (.bool b) (dunderR "or") [.int a t]) Q' E s := fun Q' hq =>
    wpAny_callSpecial?_slot (T := "bool") (name := dunderR "or") (PySem.typeIs_bool s b) PySem.F.slot_bool_ror (call_gives (m := .int (Builtin.bitOr a (if b = true then (1 : Int) else 0))) (Q := fun v s' => Q' (some v) s') PySem.F.slot_bool_ror (PySem.typeIs_bool s b) PySem.F.entry_bool_ror (PySem.F.args_bool_ror_2 _ _) (gives_ror_bool_int a t b) hq)
  exact step _ (wpAny_pure (wpAny_pure (wpAny_pure h)))

/-- rows of truth values, as data -/
def rowsData (M : List (List Bool)) : PyData := .list (M.map fun r => .list (r.map .bool))
theorem canLay_bools : ∀ r : List Bool, PyData.canLayAll0 (r.map PyData.bool) = true
  | [] => rfl
  | b :: r => by simp [PyData.canLayAll0, PyData.canLay0, canLay_bools r]
theorem depth_bools : ∀ r : List Bool, PyData.depthAll (r.map PyData.bool) = 0
  | [] => rfl
  | b :: r => by simp [PyData.depthAll, PyData.depth, depth_bools r]
theorem canLay_rows : ∀ M : List (List Bool), PyData.canLayAll0 (M.map fun r => .list (r.map PyData.bool)) = true
  | [] => rfl
  | b :: r => by simp [PyData.canLayAll0, PyData.canLay0, canLay_bools, canLay_rows r]
theorem depth_rows : ∀ M : List (List Bool), PyData.depthAll (M.map fun r => .list (r.map PyData.bool)) ≤ 1
  | [] => Nat.zero_le _
  | b :: r => by simp [PyData.depthAll, PyData.depth, depth_bools, depth_rows r]
theorem shaped_rows (M : List (List Bool)) : SeqAt.shaped (rowsData M) = true := by
  unfold SeqAt.shaped rowsData
  have := depth_rows M
  simp [PyData.canLay0, canLay_rows, PyData.depth]
  omega
theorem readsAll_bools (h : Heap) : ∀ r : List Bool, ReadsAll h (r.map Value.bool) (r.map PyData.bool) []
  | [] => .nil
  | b :: r => .cons (as := []) (bs := []) (.bool b) (readsAll_bools h r)
theorem readsAll_rows {h : Heap} : ∀ (M : List (List Bool)) (as : List Addr), as.length = M.length → (∀ i ai, as[i]? = some ai → LstB h.get? ai (((M.getD i []).map Value.bool).toArray)) →
    ∃ bs, ReadsAll h (as.map Value.ref) (M.map fun r => .list (r.map PyData.bool)) bs
  | [], [], _, _ => ⟨_, .nil⟩
  | r :: M, a :: as, hl, hi => by
    obtain ⟨bs, hb⟩ := readsAll_rows M as (by simpa using hl) fun i ai e => hi (i + 1) ai (by simpa using e)
    obtain ⟨o, ho, hc, n, hd⟩ := hi 0 a rfl
    exact ⟨_, .cons (.list ho hc hd (by simpa using readsAll_bools h r)) hb⟩
theorem reads_rows {h : Heap} {a : Addr} {M : List (List Bool)} (x : RowsB h.get? a M) : ∃ as, Reads h (.ref a) (rowsData M) as := by
  obtain ⟨as, ⟨o, ho, hc, n, hd⟩, hl, hi⟩ := x
  obtain ⟨bs, hb⟩ := readsAll_rows M as hl hi
  exact ⟨_, .list ho hc hd (by simpa using hb)⟩

section
variable {prog : Program} {w : World} {A : Around} {env : Env} {B : Addr → Option Obj} {m mg mb : Vs} {L : Addr}
/-- equal rows do not differ -/
theorem EvT.neRows {l r : Expr} {pos : Pos} {a b : Addr} {M : List (List Bool)} (hl : Ev prog w A env B m l (IsR a)) (hr : Ev prog w A env B m r (IsR b)) (ha : RowsB B a M) (hb : RowsB B b M) (hu : A.units + 64 < cLine)
    (hm : behindInMarks .NotEq r = false := by with_unfolding_all rfl) : EvT prog w A env B m (.Compare l [.NotEq] [r] pos) false := fun {Q E s} F h =>
  wpAny_isTrue_Compare1 (hl F fun v₁ h₁ tk₁ x₁ e₁ => hr (F.stays x₁) fun v₂ h₂ tk₂ x₂ e₂ => by
    cases e₁; cases e₂
    have F₂ := (F.stays x₁).stays x₂
    obtain ⟨_, ra⟩ := reads_rows (ha.mono F₂.keep)
    obtain ⟨_, rb⟩ := reads_rows (hb.mono F₂.keep)
    refine ne_dataH (s := { s with heap := h₂, toks := tk₂ }) ra rb (shaped_rows M) (shaped_rows M) hu ?_
    have : PyData.eqv (rowsData M) (rowsData M) = true := by
      exact SeqAt.eqv_refl _ (SeqAt.canLay_of_shaped (shaped_rows M))
    rw [this]
    exact wpAny_truthy_bool (h _ _ (x₁.trans x₂))) hm
end
end Mine
end

section
open PySem PySem.W PySem.Calls PyProof.Rows
set_option linter.unusedVariables false
set_option maxRecDepth 100000
namespace Mine

theorem RowsB.map {B B' : Addr → Option Obj} {a : Addr} {M} (x : RowsB B a M) (k : ∀ b o, B b = some o → o.cls = .type "list" → (∃ its n, o.data = .seq its n) → B' b = some o) : RowsB B' a M :=
  let f : ∀ {a its}, LstB B a its → LstB B' a its := fun ⟨o, ho, hc, n, hd⟩ => ⟨o, k _ _ ho hc ⟨_, _, hd⟩, hc, n, hd⟩
  let ⟨as, h1, h2, h3⟩ := x; ⟨as, f h1, h2, fun i ai e => f (h3 i ai e)⟩

section
variable {prog : Program} {w : World} {A : Around} {env : Env} {B : Addr → Option Obj} {m mg mb : Vs} {L : Addr}

theorem un_orB {a : Nat} {b : Bool} : Op2 prog w A .BitOr (IsU a) (IsB b) (IsU (a ||| (if b then 1 else 0))) := fun v₁ v₂ ⟨t, e₁⟩ e₂ {_ _ _} k => by
  cases e₁; cases e₂
  have e : Builtin.bitOr (a : Int) (if b = true then (1 : Int) else 0) = ((a ||| (if b = true then 1 else 0) : Nat) : Int) := by
    cases b
    · exact bitOr_nat a 0
    · exact bitOr_nat a 1
  refine or_int_bool ?_
  rw [e]
  exact k _ _ ⟨_, rfl⟩
theorem un_sub {a b : Nat} (h : b ≤ a) : Op2 prog w A .Sub (IsU a) (IsU b) (IsU (a - b)) := by
  have := @op_sub prog w A a b; unfold IsU; rw [show ((a - b : Nat) : Int) = (a : Int) - (b : Int) by omega]; exact this
theorem un_fdiv {a b : Nat} (hb : 0 < b) (hb' : b < 2 ^ 30) (hp : a < 2 ^ 30) : Op2 prog w A .FloorDiv (IsU a) (IsU b) (IsU (a / b)) := by
  have h := @op_fdiv prog w A a b (by omega) (PyProof.noPylong_small (by omega))
  unfold IsU
  rw [show ((a / b : Nat) : Int) = Int.fdiv (a : Int) (b : Int) by rw [Int.fdiv_eq_ediv_of_nonneg _ (by omega)]; rfl]
  exact h

/-- a tuple's display -/
theorem EvO.tup {es : List Expr} {k : Nat} {pos : Pos} {P : List Value → Prop} {n : Nat} (h : EvL prog w A env B m es (fun _ vs => P vs ∧ vs.length = n)) (hn : n ≤ 1000) :
    EvO prog w A env B m (.Tuple es k pos) (fun h v => ∃ a vs, v = .ref a ∧ h.get? a = some { cls := .type "tuple", data := .seq vs.toArray } ∧ P vs ∧ B a = none ∧ a ≠ env.locals) := fun {Q E s} F kk => by
  refine Tuple_ (h F fun vs h' tk x hv => ?_)
  have F' := F.stays x
  refine wpAny_newTuple ?_ (by show vs.length ≤ 16777216; omega)
  refine kk _ _ _ (x.trans fun _ _ e => Heap.get?_push_of_some _ e) ⟨_, vs, rfl, Heap.get?_push_size _ rfl, hv.1, ?_, Nat.ne_of_gt F'.lt⟩
  cases e : B h'.objs.size with
  | none => rfl
  | some o => exact absurd (Heap.lt_size (F'.keep _ _ e)) (Nat.lt_irrefl _)
theorem Itb.tup {a items} (hh : A.handled = none) (x : TupB B a items) : Itb prog w A B (.ref a) items.size (fun i v => items[i]? = some v) := fun {s₁ _ _} F k => by
  have hl : IsTup s₁.heap a items := let ⟨o, ho, r⟩ := x; ⟨o, F _ _ ho, r⟩
  obtain ⟨o, ho, _⟩ := id x
  have hlt : a < s₁.heap.objs.size := Heap.lt_size (F _ _ ho)
  have hne : a ≠ s₁.heap.objs.size := Nat.ne_of_lt hlt
  refine wpAny_pyIter_tuple hl (k _ _ _ _ (fun _ _ e => Heap.get?_push_of_some _ e) (Walks.tuple hh s₁.heap.objs.size a hne items) ⟨⟨_, Heap.get?_push_size _ rfl, rfl, rfl⟩, IsTup.push hl _⟩ ?_ ?_ (Nat.le_refl _) (by rw [Heap.size_push]; exact Nat.lt_succ_self _))
  · rintro i h ⟨⟨o, e, _, d⟩, _⟩; exact ⟨o, _, e, d⟩
  · intro b hb hn
    rcases List.mem_cons.mp hb with rfl | hb
    · exact absurd rfl hn
    · rw [List.mem_singleton.mp hb]; exact ⟨_, ho⟩

theorem Ev.ifExp {t e₁ e₂ pos} {b : Bool} {P : Value → Prop} (ht : EvT prog w A env B m t b) (h₁ : b = true → Ev prog w A env B m e₁ P) (h₂ : b = false → Ev prog w A env B m e₂ P) : Ev prog w A env B m (.IfExp t e₁ e₂ pos) P := fun {Q E s} F k =>
  IfExp_ (ht F fun h' tk x => by
    cases b
    · exact h₂ rfl (F.stays x) fun v h'' tk' x' hv => k v h'' tk' (x.trans x') hv
    · exact h₁ rfl (F.stays x) fun v h'' tk' x' hv => k v h'' tk' (x.trans x') hv)

/-- isinstance(x, T) -/
theorem Ev.isinst {e : Expr} {T : PySem.Str} {p1 p2 pos : Pos} {Tn : String} {P : Value → Prop} {b : Bool} (G : GB mg mb B) (he : Ev prog w A env B m e P) (hm : T ∈ biNames) (hT : bootBuiltins T = some (.type Tn))
    (hc : ∀ v, P v → ∀ {s : Shared} {Q : Value → Shared → Prop} {E : Value → Shared → Prop}, (∀ tk, Q (.bool b) { s with toks := tk }) → wpAny (model prog w) A (call (.builtin "isinstance") [v, .type Tn]) Q E s)
    (hg : env.globals = mainGlobals := by rfl) (hb : env.builtins = builtinsNs := by rfl) (hk : env.scope.kind = .function := by rfl) (hx : env.kindOf (Str.ofString "isinstance") = some .globalImplicit := by rfl)
    (hx' : env.kindOf T = some .globalImplicit := by rfl) (hd : (T == ("__debug__" : PySem.Str)) = false := by decide)
    (he' : eval (.Call (.Name (Str.ofString "isinstance") p1) [e, .Name T p2] [] pos) env = (do callWith pos (← eval (.Name (Str.ofString "isinstance") p1) env) [] (backTo pos (starEach [e, .Name T p2] env)) (backToKw pos (keywordEach [] env))) := by rfl)
    (hs : starEach [e, .Name T p2] env = (false, eval e env) :: starEach [.Name T p2] env := by rfl) (hs' : starEach [.Name T p2] env = (false, eval (.Name T p2) env) :: starEach [] env := by rfl)
    (hp : (backTo pos (starEach [.Name T p2] env)).any (·.1) = false := by rfl) :
    Ev prog w A env B m (.Call (.Name (Str.ofString "isinstance") p1) [e, .Name T p2] [] pos) (IsB b) :=
  EvO.callB G (by decide) (id := "isinstance") (by decide +kernel) (EvL.consV he (EvL.consV (Ev.bi G hm hT hg hb hk hx' hd) EvL.nil hs') hs) (fun vs s hv F {_ _} k => by
    obtain ⟨v, vs', rfl, h1, v', vs'', rfl, rfl, rfl⟩ := hv
    exact hc v h1 fun tk => k _ _ tk (.refl _) rfl) hg hb hk hx (by decide) he' hs hp
end
end Mine
end

section
open PySem PySem.W PySem.Calls PyProof.Rows
set_option linter.unusedVariables false
set_option maxRecDepth 100000
namespace Mine

-- what law reckons
def addRow (d : Nat) : List Bool → Nat
  | [] => d
  | b :: r => addRow (d <<< 1 ||| (if b then 1 else 0)) r
def darkUp (M : List (List Bool)) : Nat → Nat
  | 0 => 0
  | i + 1 => addRow (darkUp M i) (M.getD i []) <<< 1
def wholeUp (n : Nat) : Nat → Nat
  | 0 => 0
  | i + 1 => wholeUp n i <<< (n + 1) ||| ((2 <<< n) - 2)
def insideOf (n W : Nat) : Nat := W &&& W <<< 1 &&& W >>> 1 &&& W <<< (n + 1) &&& W >>> (n + 1)
def aroundL (n : Nat) : List Nat := [1, n, n + 1, n + 1 + 1]
def five (c s : Nat) : Nat := c &&& c >>> s &&& c >>> (2 * s) &&& c >>> (3 * s) &&& c >>> (4 * s)
def stepPts (c s : Nat) : Int := ((3 * ones (five c s) : Nat) : Int) - ((2 * ones (five c s &&& c <<< s) : Nat) : Int)
def SqIs (n W c : Nat) (S : Int) : Prop :=
  ∃ q k1 k2 : Nat, q < 2 ^ 200 ∧ (∀ i, q.testBit i = true ↔ Reach c (aroundL n) (c &&& (W ^^^ insideOf n W)) i) ∧ PiecesIs [1, n + 1] c k1 ∧ PiecesIs (aroundL n) (c ^^^ q) k2 ∧
    S = (k1 : Int) - k2 - ones c + ones (c &&& c >>> 1) + ones (c &&& c >>> (n + 1))
def colPts (n c : Nat) (S : Int) : Int := stepPts c 1 + stepPts c (n + 1) + 3 * S
def likesUp (W dark light s line : Nat) : Nat → Nat
  | 0 => W
  | p + 1 => likesUp W dark light s line p &&& (if ((line >>> p) &&& 1) != 0 then dark else light) >>> (p * s)
def rateOf (n d : Nat) : Nat := 10 * (10 * (2 * (ones d : Int) - ((n * n : Nat) : Int)).natAbs / (n * n))
def pointsOf (n W dark light : Nat) (S1 S2 : Int) : Int :=
  (rateOf n dark : Int) + colPts n dark S1 + colPts n light S2 +
    (40 * ones (likesUp W dark light 1 93 11) : Nat) + (40 * ones (likesUp W dark light 1 1488 11) : Nat) + (40 * ones (likesUp W dark light (n + 1) 93 11) : Nat) + (40 * ones (likesUp W dark light (n + 1) 1488 11) : Nat)
/-- the plain law -/
def PlainLaw : Prop := ∀ (M : List (List Bool)) (n : Nat), Sq M n → 1 ≤ n → n ≤ 11 → ∀ S1 S2 : Int, SqIs n (wholeUp n n) (darkUp M n) S1 → SqIs n (wholeUp n n) (wholeUp n n ^^^ darkUp M n) S2 →
  toldOf M n = pointsOf n (wholeUp n n) (darkUp M n) (wholeUp n n ^^^ darkUp M n) S1 S2

theorem addRow_snoc (d : Nat) : ∀ (r : List Bool) (b : Bool), addRow d (r ++ [b]) = addRow d r <<< 1 ||| (if b then 1 else 0)
  | [], b => rfl
  | a :: r, b => addRow_snoc _ r b
theorem shl_or_lt {d K : Nat} {b : Bool} (h : d < 2 ^ K) : d <<< 1 ||| (if b then 1 else 0) < 2 ^ (K + 1) := by
  refine Nat.or_lt_two_pow ?_ ?_
  · rw [Nat.shiftLeft_eq, Nat.pow_succ]; omega
  · have := Nat.pow_lt_pow_right (a := 2) (by decide) (show 0 < K + 1 by omega)
    cases b <;> simp at * <;> omega
theorem addRow_lt : ∀ (r : List Bool) (d K : Nat), d < 2 ^ K → addRow d r < 2 ^ (K + r.length)
  | [], d, K, h => h
  | b :: r, d, K, h => by
    have := addRow_lt r _ (K + 1) (shl_or_lt (b := b) h)
    rw [addRow, List.length_cons, show K + (r.length + 1) = K + 1 + r.length by omega]; exact this
theorem darkUp_lt {M : List (List Bool)} {n : Nat} (hM : Sq M n) : ∀ i, i ≤ n → darkUp M i < 2 ^ (i * (n + 1))
  | 0, _ => by simp [darkUp]
  | i + 1, h => by
    have ih := darkUp_lt hM i (by omega)
    have := addRow_lt (M.getD i []) _ _ ih
    rw [hM.2 i (by omega)] at this
    rw [darkUp, Nat.shiftLeft_eq, Nat.add_mul, Nat.one_mul, ← Nat.add_assoc, Nat.pow_succ]
    omega
theorem two_shl (n : Nat) : 2 ≤ 2 <<< n ∧ 2 <<< n = 2 ^ (n + 1) := by
  have h : 2 <<< n = 2 ^ (n + 1) := by rw [Nat.shiftLeft_eq, Nat.pow_succ]; omega
  have := Nat.one_le_two_pow (n := n)
  rw [h, Nat.pow_succ]; omega
theorem wholeUp_lt (n : Nat) : ∀ i, wholeUp n i < 2 ^ (i * (n + 1))
  | 0 => by simp [wholeUp]
  | i + 1 => by
    have ih := wholeUp_lt n i
    rw [wholeUp]
    refine Nat.or_lt_two_pow ?_ ?_
    · rw [Nat.shiftLeft_eq, Nat.add_mul, Nat.one_mul, Nat.pow_add 2 (i * (n + 1)) (n + 1)]
      exact Nat.mul_lt_mul_of_pos_right ih (Nat.two_pow_pos _)
    · have := two_shl n
      have h2 : 2 ^ (n + 1) ≤ 2 ^ ((i + 1) * (n + 1)) := Nat.pow_le_pow_right (by decide) (by rw [Nat.add_mul]; omega)
      omega
theorem lt_200 {n i : Nat} (hn : n ≤ 11) (hi : i ≤ n) {a : Nat} (h : a < 2 ^ (i * (n + 1))) : a < 2 ^ 132 := by
  refine Nat.lt_of_lt_of_le h (Nat.pow_le_pow_right (by decide) ?_)
  have h1 : i * (n + 1) ≤ 11 * 12 := Nat.mul_le_mul (by omega) (by omega)
  omega
end Mine
end

section
open PySem PySem.W PySem.Calls PyProof.Rows
set_option linter.unusedVariables false
set_option maxRecDepth 100000
set_option maxHeartbeats 4000000
namespace Mine

theorem bt_bool' : bootBuiltins (Str.ofString "bool") = some (.type "bool") := by decide +kernel

section
variable {prog : Program} {w : World} {mg mb : Vs} {A : Around} {B : Addr → Option Obj} {m : Vs} {s : Shared} {a L f : Addr} {n : Nat} {M : List (List Bool)} {vn vt cd : Value} {d : DefItem} {h₁ : Heap} {tk₁ : Nat} {Q : Flow → Shared → Prop} {E : Value → Shared → Prop}

theorem law_bits (hd : defs0.find? (fun e => decide (e.name = Str.ofString "law")) = some d) (hA : AOk A 4) (G : GB mg mb B) (F : Fm B L h₁ m) (hR : RowsB B a M) (hM : Sq M n) (hn1 : 1 ≤ n) (hn2 : n ≤ 11)
    (e1 : m "rows" = some (.ref a)) (e2 : m "n" = some vn) (hvn : IsU n vn) (e3 : m "told" = some vt)
    (k : ∀ h' tk m' vw vo vd, Fm B L h' m' → m' "n" = some vn → m' "told" = some vt → m' "wide" = some vw → IsU (n + 1) vw → m' "whole" = some vo → IsU (wholeUp n n) vo → m' "dark" = some vd → IsU (darkUp M n) vd →
      wpAny (model prog w) A (execs (d.body.drop 9) (envOf (Str.ofString "law") d.scope L f cd)) Q E { s with heap := h', toks := tk }) :
    wpAny (model prog w) A (execs (d.body.drop 5) (envOf (Str.ofString "law") d.scope L f cd)) Q E { s with heap := h₁, toks := tk₁ } := by
  have hd' : d = itemOf _ := (Option.some.inj (hd.symm.trans rfl))
  subst hd'
  dsimp only [itemOf] at k ⊢
  obtain ⟨hM1, hM2⟩ := id hM
  refine ex_let F (Ev.bin (Ev.name (v := vn) (by exact e2) hvn) (Ev.nat (n := 1)) un_add) fun vw h₂ tk₂ hvw F₂ kp₂ => ?_
  refine ex_let F₂ (Ev.nat (n := 0)) fun vo h₃ tk₃ hvo F₃ kp₃ => ?_
  refine ex_let F₃ (Ev.nat (n := 0)) fun vd h₄ tk₄ hvd F₄ kp₄ => ?_
  obtain ⟨as, hra, hrl, hri⟩ := id hR
  have hsz : ((as.map Value.ref).toArray).size = n := by simp [hrl, hM1]
  refine ex_forS (n := n) F₄ [] (PI := fun _ => IsR a) (P := fun i v => ((as.map Value.ref).toArray)[i]? = some v) (Ev.name (v := .ref a) (by exact e1) IsR.mk) ?hit
    (fun i m' _ => ∃ ud uo, m' "dark" = some ud ∧ IsU (darkUp M i) ud ∧ m' "whole" = some uo ∧ IsU (wholeUp n i) uo ∧ m' "wide" = some vw ∧ m' "n" = some vn ∧ m' "told" = some vt) (by simp) (by simp) (fun _ _ _ _ _ x => x)
    ⟨vd, vo, rfl, hvd, rfl, hvo, rfl, e2, e3⟩ ?turn ?done
  case hit =>
    rintro h v x rfl F'
    refine Itb.mono (Itb.lst (items := (as.map Value.ref).toArray) hA.1 (hra.mono ?_)) hsz fun _ _ e => e
    exact Bof_sub F' [] (by simp)
  case done =>
    rintro h' tk m' F' ⟨ud, uo, q1, q2, q3, q4, q5, q6, q7⟩
    exact k h' tk m' vw uo ud F' q6 q7 q5 hvw q3 q4 q1 q2
  case turn =>
    rintro i B' m' h' tk v hB' _ hi hP ⟨ud, uo, q1, q2, q3, q4, q5, q6, q7⟩ F'
    have hP' : (as.map Value.ref)[i]? = some v := by simpa using hP
    rw [List.getElem?_map] at hP'
    obtain ⟨ai, hai, rfl⟩ := Option.map_eq_some_iff.mp hP'
    have hl := (hri i ai hai).mono hB'
    have hlen := hM2 i hi
    have hsz' : (((M.getD i []).map Value.bool).toArray).size = n := by rw [List.size_toArray, List.length_map]; exact hlen
    have GB' := G.mono hB'
    have dlt : ∀ j, addRow (darkUp M i) ((M.getD i []).take j) < 2 ^ 150 := fun j => by
      have h1 := addRow_lt ((M.getD i []).take j) _ _ (darkUp_lt hM i (by omega))
      refine Nat.lt_of_lt_of_le h1 (Nat.pow_le_pow_right (by decide) ?_)
      have h2 : i * (n + 1) ≤ 11 * 12 := Nat.mul_le_mul (by omega) (by omega)
      rw [List.length_take]; omega
    refine ex_forS (n := n) F' [] (PI := fun _ => IsR ai) (P := fun j v => (((M.getD i []).map Value.bool).toArray)[j]? = some v) (Ev.name (v := .ref ai) rfl IsR.mk) ?hit₂
      (fun j m' _ => ∃ ud, m' "dark" = some ud ∧ IsU (addRow (darkUp M i) ((M.getD i []).take j)) ud ∧ m' "whole" = some uo ∧ m' "wide" = some vw ∧ m' "n" = some vn ∧ m' "told" = some vt) (by simp) (by simp) (fun _ _ _ _ _ x => x)
      ⟨ud, q1, q2, q3, q5, q6, q7⟩ ?turn₂ ?done₂
    case hit₂ =>
      rintro h v x rfl F'
      refine Itb.mono (Itb.lst hA.1 (hl.mono ?_)) hsz' fun _ _ e => e
      exact Bof_sub F' [] (by simp)
    case turn₂ =>
      rintro j B₂ m₂ h₂ tk₂ v hB₂ _ hj hP ⟨ud, r1, r2, r3, r4, r5, r6⟩ F₅
      have hP' : ((M.getD i []).map Value.bool)[j]? = some v := by simpa using hP
      rw [List.getElem?_map] at hP'
      obtain ⟨b, hb, rfl⟩ := Option.map_eq_some_iff.mp hP'
      refine ex_if F₅ (EvT.not (EvT.bool (Ev.isinst (b := true) (P := IsB b) (Tn := "bool") (GB'.mono hB₂) (Ev.name (v := .bool b) rfl IsB.mk) (by decide) bt_bool' fun v hv {_ _ _} k => by cases hv; exact IsiPair.bool_bool (k _)))) (fun hf => by cases hf) fun _ h₆ tk₆ x₆ F₆ => ex_nil ?_
      dsimp only
      refine ex_let F₆ (Ev.bin (Ev.bin (Ev.name (v := ud) (by exact r1) r2) (Ev.nat (n := 1)) (un_shl (dlt j) (by decide))) (Ev.name (v := .bool b) rfl IsB.mk) un_orB) fun ud' h₇ tk₇ hud F₇ kp₇ => ?_
      refine ex_nil ⟨.inl rfl, h₇, tk₇, _, rfl, F₇, ud', rfl, ?_, r3, r4, r5, r6⟩
      have ht : (M.getD i []).take (j + 1) = (M.getD i []).take j ++ [b] := by rw [List.take_add_one, hb]; rfl
      rw [ht, addRow_snoc]; exact hud
    case done₂ =>
      rintro h₈ tk₈ m₈ F₈ ⟨ud, r1, r2, r3, r4, r5, r6⟩
      rw [List.take_of_length_le (by omega)] at r2
      have hdl : addRow (darkUp M i) (M.getD i []) < 2 ^ 150 := by
        have := dlt n
        rwa [List.take_of_length_le (by omega)] at this
      have hwl : wholeUp n i < 2 ^ 132 := lt_200 hn2 (by omega) (wholeUp_lt n i)
      refine ex_let F₈ (Ev.bin (Ev.name (v := ud) (by exact r1) r2) (Ev.nat (n := 1)) (un_shl hdl (by decide))) fun ud' h₉ tk₉ hud F₉ kp₉ => ?_
      refine ex_let F₉ (Ev.bin (Ev.bin (Ev.name (v := uo) (by exact r3) q4) (Ev.name (v := vw) (by exact r4) hvw) (un_shl hwl (by omega))) (Ev.bin (Ev.bin (Ev.nat (n := 2)) (Ev.name (v := vn) (by exact r5) hvn) (un_shl (K := 2) (by decide) (by omega))) (Ev.nat (n := 2)) (un_sub (two_shl n).1)) un_or) fun uo' h₁₀ tk₁₀ huo F₁₀ kp₁₀ => ?_
      exact ex_nil ⟨.inl rfl, h₁₀, tk₁₀, _, rfl, F₁₀, ud', uo', rfl, hud, rfl, huo, r4, r5, r6⟩
end
end Mine
end

section
open PySem PySem.W PySem.Calls PyProof.Rows
set_option linter.unusedVariables false
set_option maxRecDepth 100000
set_option maxHeartbeats 4000000
namespace Mine

def TupOf (ss : List Nat) (vs : List Value) : Prop := vs.length = ss.length ∧ ∀ (i : Nat) (v : Value), vs[i]? = some v → ∃ s : Nat, ss[i]? = some s ∧ IsU s v
theorem ones_le {k K : Nat} (h : k < 2 ^ K) : ones k ≤ K := by
  unfold ones
  refine Nat.le_trans List.countP_le_length ?_
  rw [List.length_range]; exact intBits_nat h

section
variable {prog : Program} {w : World} {A : Around} {env : Env} {B : Addr → Option Obj} {m mg mb : Vs}
theorem EvL.natsNil : EvL prog w A env B m [] fun _ vs => TupOf [] vs := fun {_ _ s _} _ h => args_nil (h _ s.heap s.toks (.refl _) ⟨rfl, by simp⟩)
theorem EvL.natsCons {e : Expr} {es : List Expr} {s : Nat} {ss : List Nat} (h₁ : Ev prog w A env B m e (IsU s)) (h₂ : EvL prog w A env B m es fun _ vs => TupOf ss vs)
    (he : starEach (e :: es) env = (false, eval e env) :: starEach es env := by rfl) : EvL prog w A env B m (e :: es) fun _ vs => TupOf (s :: ss) vs := fun F h =>
  args_cons (h₁ F fun v _ _ x₁ p₁ => h₂ (F.stays x₁) fun vs _ tk x₂ p₂ => h (v :: vs) _ tk (x₁.trans x₂) ⟨by simp [p₂.1], fun i v' e => by
    cases i with
    | zero => simp at e; subst e; exact ⟨s, rfl, p₁⟩
    | succ i => exact p₂.2 i v' (by simpa using e)⟩) he
def NewTup (ss : List Nat) (B : Addr → Option Obj) (L : Addr) (h : Heap) (v : Value) : Prop := ∃ a vs, v = .ref a ∧ h.get? a = some { cls := .type "tuple", data := .seq vs.toArray } ∧ TupOf ss vs ∧ B a = none ∧ a ≠ L
theorem EvO.tupN {es : List Expr} {k : Nat} {pos : Pos} {ss : List Nat} (h : EvL prog w A env B m es fun _ vs => TupOf ss vs) (hn : ss.length ≤ 1000) : EvO prog w A env B m (.Tuple es k pos) (NewTup ss B env.locals) :=
  EvO.tup (P := TupOf ss) (n := ss.length) (fun F k => h F fun vs h' tk x p => k vs h' tk x ⟨p, p.1⟩) hn
theorem NewTup.mono {ss : List Nat} {L : Addr} : Mono (NewTup ss B L) := fun _ _ _ x ⟨a, vs, e, h, r⟩ => ⟨a, vs, e, x _ _ h, r⟩
theorem TupU.of {h : Heap} {a : Addr} {ss : List Nat} {vs : List Value} (e : h.get? a = some { cls := .type "tuple", data := .seq vs.toArray }) (t : TupOf ss vs) : TupU h a ss :=
  ⟨vs.toArray, ⟨_, e, rfl, _, rfl⟩, by simpa using t.1, fun i v e => t.2 i v (by simpa using e)⟩
/-- a loop over a fresh tuple of numbers -/
theorem NewTup.itb {h : Heap} {v : Value} {ss : List Nat} {n : Nat} (hA : A.handled = none) (F : Fm B env.locals h m) (t : NewTup ss B env.locals h v) (hn : ss.length = n) : Itb prog w A (Bof h (env.locals :: [])) v n (fun i v => ∃ s : Nat, ss[i]? = some s ∧ IsU s v) := by
  obtain ⟨a, vs, rfl, e, t, _, hL⟩ := t
  have hb : TupB (Bof h (env.locals :: [])) a vs.toArray := ⟨_, Bof_of e (fun hm => hL (List.mem_singleton.mp hm)), rfl, _, rfl⟩
  intro s₁ Q E
  exact Itb.mono (Itb.tup hA hb) (by rw [List.size_toArray, t.1, hn]) fun i v e => t.2 i v (by simpa using e)
end

theorem Op2.ex {prog : Program} {w : World} {A : Around} {op} {P₁ : Value → Prop} {R : Nat → Prop} {P' : Nat → Value → Prop} (h : ∀ q, R q → Op2 prog w A op P₁ (IsU q) (P' q)) :
    Op2 prog w A op P₁ (fun v => ∃ q, IsU q v ∧ R q) (fun v => ∃ q, R q ∧ P' q v) := fun v₁ v₂ h₁ ⟨q, hq, hr⟩ => fun k => h q hr v₁ v₂ h₁ hq fun v tk hv => k v tk ⟨q, hr, hv⟩
def acc (f : Nat → Int) (b : Int) (l : List Nat) : Int := l.foldl (fun x s => x + f s) b
theorem acc_snoc (f : Nat → Int) (b : Int) (l : List Nat) (s : Nat) : acc f b (l ++ [s]) = acc f b l + f s := by simp [acc, List.foldl_append]
theorem take_snoc {l : List Nat} {j s : Nat} (h : l[j]? = some s) : l.take (j + 1) = l.take j ++ [s] := by rw [List.take_add_one, h]; rfl
def PcP (ss : List Nat) (c : Nat) (v : Value) : Prop := ∃ k : Nat, IsU k v ∧ PiecesIs ss c k
/-- the colours taken, the points told -/
def Good (n W D Lt : Nat) (r : Int) : Nat → Int → Prop
  | 0, p => p = r
  | 1, p => ∃ S1, SqIs n W D S1 ∧ p = r + colPts n D S1
  | _, p => ∃ S1 S2, SqIs n W D S1 ∧ SqIs n W Lt S2 ∧ p = r + colPts n D S1 + colPts n Lt S2

section
variable {prog : Program} {w : World} {mg mb : Vs} {A : Around} {B : Addr → Option Obj} {m : Vs} {s : Shared} {a L f : Addr} {n W D : Nat} {vn vt cd vw vo vd : Value} {d : DefItem} {h₁ : Heap} {tk₁ : Nat} {Q : Flow → Shared → Prop} {E : Value → Shared → Prop}

theorem law_colours (hd : defs0.find? (fun e => decide (e.name = Str.ofString "law")) = some d) (hA : AOk A 4) (G : GB mg mb B) (F : Fm B L h₁ m) (hn1 : 1 ≤ n) (hn2 : n ≤ 11)
    (e1 : m "n" = some vn) (hvn : IsU n vn) (e2 : m "told" = some vt) (e3 : m "wide" = some vw) (hvw : IsU (n + 1) vw) (e4 : m "whole" = some vo) (hvo : IsU W vo) (e5 : m "dark" = some vd) (hvd : IsU D vd)
    (hW : W < 2 ^ 132) (hD : D < 2 ^ 132)
    (k : ∀ h' tk m' p vp vl, Fm B L h' m' → m' "told" = some vt → m' "wide" = some vw → m' "whole" = some vo → m' "dark" = some vd → m' "light" = some vl → IsU (W ^^^ D) vl → m' "points" = some vp → IsI p vp → Good n W D (W ^^^ D) (rateOf n D) 2 p →
      wpAny (model prog w) A (execs (d.body.drop 14) (envOf (Str.ofString "law") d.scope L f cd)) Q E { s with heap := h', toks := tk }) :
    wpAny (model prog w) A (execs (d.body.drop 9) (envOf (Str.ofString "law") d.scope L f cd)) Q E { s with heap := h₁, toks := tk₁ } := by
  have hd' : d = itemOf _ := (Option.some.inj (hd.symm.trans rfl))
  subst hd'
  dsimp only [itemOf] at k ⊢
  have hL := Nat.xor_lt_two_pow hW hD
  have hnn : n * n ≤ 121 := Nat.mul_le_mul hn2 hn2
  have hnp : 0 < n * n := Nat.mul_pos (by omega) (by omega)
  have hod := ones_le hD
  refine ex_let F (Ev.bin (Ev.name (v := vo) (by exact e4) hvo) (Ev.name (v := vd) (by exact e5) hvd) un_xor) fun vl h₂ tk₂ hvl F₂ kp₂ => ?_
  refine ex_let F₂ (P := IsU (insideOf n W)) (Ev.bin (Ev.bin (Ev.bin (Ev.bin (Ev.name (v := vo) (by exact e4) hvo) (Ev.bin (Ev.name (v := vo) (by exact e4) hvo) (Ev.nat (n := 1)) (un_shl hW (by decide))) un_and) (Ev.bin (Ev.name (v := vo) (by exact e4) hvo) (Ev.nat (n := 1)) un_shr) un_and)
    (Ev.bin (Ev.name (v := vo) (by exact e4) hvo) (Ev.name (v := vw) (by exact e3) hvw) (un_shl hW (by omega))) un_and) (Ev.bin (Ev.name (v := vo) (by exact e4) hvo) (Ev.name (v := vw) (by exact e3) hvw) un_shr) un_and) fun vi h₃ tk₃ hvi F₃ kp₃ => ?_
  refine ex_assign F₃ (EvO.tupN (ss := aroundL n) (EvL.natsCons (Ev.nat (n := 1)) (EvL.natsCons (Ev.name (v := vn) (by exact e1) hvn) (EvL.natsCons (Ev.name (v := vw) (by exact e3) hvw) (EvL.natsCons (Ev.bin (Ev.name (v := vw) (by exact e3) hvw) (Ev.nat (n := 1)) un_add) EvL.natsNil)))) (by decide : 4 ≤ 1000)) fun va h₄ h₅ tk₅ x₄ hva F₅ hsb₅ => ?_
  obtain ⟨ar, us, rfl, har, hus, harB, harL⟩ := hva
  have har₅ : h₅.get? ar = some _ := (hsb₅.2 ar harL).trans har
  have F₆ := F₅.know har₅ harL
  have hB₆ := addB_mono F₅ har₅
  have G₆ := G.mono hB₆
  have hTU : ∀ {B' : Addr → Option Obj} {h : Heap} {L' m'}, (∀ b o, addB B ar { cls := .type "tuple", data := .seq us.toArray } b = some o → B' b = some o) → Fm B' L' h m' → TupU h ar (aroundL n) := fun hs F => TupU.of (F.keep _ _ (hs _ _ addB_same)) hus
  generalize hB1 : addB B ar { cls := .type "tuple", data := .seq us.toArray } = B₁ at F₆ hB₆ G₆ hTU
  have hab : (2 * (ones D : Int) - ((n * n : Nat) : Int)).natAbs ≤ 400 := by omega
  have hdv : 10 * (2 * (ones D : Int) - ((n * n : Nat) : Int)).natAbs / (n * n) < 2 ^ 12 := Nat.lt_of_le_of_lt (Nat.div_le_self _ _) (by omega)
  have o2 : ∀ A, Op2 prog w A .Mult (IsU 2) (IsU (ones D)) (IsI (2 * (ones D : Int))) := fun A => by
    have := @un_mul prog w A 2 (ones D) 2 8 (by decide) (by omega) (by decide); unfold IsU at this ⊢; push_cast at this; exact this
  have onn : ∀ A, Op2 prog w A .Mult (IsU n) (IsU n) (IsU (n * n)) := fun A => un_mul (K := 4) (J := 4) (by omega) (by omega) (by decide)
  have o10 : ∀ A, Op2 prog w A .Mult (IsU 10) (IsU (2 * (ones D : Int) - ((n * n : Nat) : Int)).natAbs) (IsU (10 * (2 * (ones D : Int) - ((n * n : Nat) : Int)).natAbs)) := fun A => un_mul (K := 4) (J := 9) (by decide) (by omega) (by decide)
  have odv : ∀ A, Op2 prog w A .FloorDiv (IsU (10 * (2 * (ones D : Int) - ((n * n : Nat) : Int)).natAbs)) (IsU (n * n)) (IsU (10 * (2 * (ones D : Int) - ((n * n : Nat) : Int)).natAbs / (n * n))) := fun A => un_fdiv hnp (by omega) (by omega)
  have o11 : ∀ A, Op2 prog w A .Mult (IsU 10) (IsU (10 * (2 * (ones D : Int) - ((n * n : Nat) : Int)).natAbs / (n * n))) (IsU (rateOf n D)) := fun A => un_mul (K := 4) (J := 12) (by decide) hdv (by decide)
  refine ex_let F₆ (P := IsU (rateOf n D)) (Ev.bin (Ev.nat (n := 10)) (Ev.bin (Ev.bin (Ev.nat (n := 10)) (Ev.abs G₆ (Ev.bin (P₁ := IsI (2 * (ones D : Int))) (P₂ := IsI ((n * n : Nat) : Int)) (Ev.bin (Ev.nat (n := 2)) (Ev.bitCount (k := D) (Ev.name (v := vd) (by exact e5) hvd)) (o2 _))
    (Ev.bin (Ev.name (v := vn) (by exact e1) hvn) (Ev.name (v := vn) (by exact e1) hvn) (onn _)) op_sub)) (o10 _))
    (Ev.bin (Ev.name (v := vn) (by exact e1) hvn) (Ev.name (v := vn) (by exact e1) hvn) (onn _)) (odv _)) (o11 _)) fun vp h₇ tk₇ hvp F₇ kp₇ => ?_
  refine ex_forS (n := 2) F₇ [] (PI := NewTup [D, W ^^^ D] B₁ L) (P := fun i v => ∃ c : Nat, [D, W ^^^ D][i]? = some c ∧ IsU c v)
    (EvO.tupN (ss := [D, W ^^^ D]) (EvL.natsCons (Ev.name (v := vd) (by exact e5) hvd) (EvL.natsCons (Ev.name (v := vl) rfl hvl) EvL.natsNil)) (by decide : 2 ≤ 1000)) ?hit
    (fun i m' _ => ∃ vp p, m' "points" = some vp ∧ IsI p vp ∧ Good n W D (W ^^^ D) (rateOf n D) i p ∧ m' "light" = some vl ∧ m' "told" = some vt ∧ m' "wide" = some vw ∧ m' "whole" = some vo ∧ m' "dark" = some vd ∧ m' "inside" = some vi ∧ m' "around" = some (.ref ar))
    (by simp) (by simp) (fun _ _ _ _ _ x => x) ⟨vp, _, rfl, hvp, rfl, rfl, e2, e3, e4, e5, rfl, rfl⟩ ?turn ?done
  case hit =>
    intro h v x hv F'
    exact hv.itb hA.1 F' rfl
  case done =>
    rintro h' tk m' F' ⟨vp, p, q1, q2, q3, q4, q5, q6, q7, q8, q9, q10⟩
    exact k h' tk m' p vp vl (F'.less hB₆) q5 q6 q7 q8 q4 hvl q1 q2 q3
  case turn =>
    rintro i B' m' h' tk v hB' _ hi ⟨c, hc, hv⟩ ⟨vp, p, q1, q2, q3, q4, q5, q6, q7, q8, q9, q10⟩ F'
    have hcl : c < 2 ^ 132 := by
      match i, hi with
      | 0, _ => cases hc; exact hD
      | 1, _ => cases hc; exact hL
    have hcl2 : c < 2 ^ 200 := Nat.lt_of_lt_of_le hcl (Nat.pow_le_pow_right (by decide) (by decide))
    have G' := G₆.mono hB'
    have hs4 : ∀ s ∈ aroundL n, s ≤ 1000 := by intro s hs; simp [aroundL] at hs; omega
    have hs2 : ∀ s ∈ [1, n + 1], s ≤ 1000 := by intro s hs; simp at hs; omega
    have hpl : c &&& (W ^^^ insideOf n W) < 2 ^ 200 := Nat.lt_of_le_of_lt Nat.and_le_left hcl2
    refine ex_let F' (P := fun v => ∃ q : Nat, (q < 2 ^ 200 ∧ ∀ i, q.testBit i = true ↔ Reach c (aroundL n) (c &&& (W ^^^ insideOf n W)) i) ∧ IsU (c ^^^ q) v)
      (Ev.bin (P₂ := fun v => ∃ q : Nat, IsU q v ∧ (q < 2 ^ 200 ∧ ∀ i, q.testBit i = true ↔ Reach c (aroundL n) (c &&& (W ^^^ insideOf n W)) i)) (Ev.name (v := v) rfl hv)
        (EvO.callD (grown_spec (p := c &&& (W ^^^ insideOf n W)) (c := c) (ss := aroundL n) hpl hcl2 hs4) (hA.le (by decide)) rfl rfl G'
          (EvL.consV (Ev.bin (Ev.name (v := v) rfl hv) (Ev.bin (Ev.name (by exact q7) hvo) (Ev.name (by exact q9) hvi) un_xor) un_and) (EvL.consV (Ev.name (v := v) rfl hv) (EvL.consV (Ev.name (by exact q10) (IsR.mk (a := ar))) EvL.nil)))
          (fun h vs hv F => by
            obtain ⟨v, vs', rfl, e1, v₂, vs₂, rfl, e2, v₃, vs₃, rfl, e3, rfl⟩ := hv
            cases e3
            exact ⟨v, v₂, ar, rfl, e1, e2, hTU hB' F⟩)
          (fun _ _ _ _ _ _ _ hp => hp))
        (Op2.ex fun q hq => un_xor)) fun vh h₈ tk₈ hvh F₈ kp₈ => ?_
    obtain ⟨q, ⟨hq1, hq2⟩, hvh⟩ := hvh
    have hcq : c ^^^ q < 2 ^ 200 := Nat.xor_lt_two_pow hcl2 hq1
    have oS1 : ∀ A, Op2 prog w A .Sub (PcP [1, n + 1] c) (PcP (aroundL n) (c ^^^ q)) (fun v => ∃ k1 k2 : Nat, PiecesIs [1, n + 1] c k1 ∧ PiecesIs (aroundL n) (c ^^^ q) k2 ∧ IsI ((k1 : Int) - k2) v) :=
      fun A v₁ v₂ ⟨k1, h1, r1⟩ ⟨k2, h2, r2⟩ {_ _ _} k => op_sub v₁ v₂ h1 h2 fun v tk hv => k v tk ⟨k1, k2, r1, r2, hv⟩
    have oS2 : ∀ A, Op2 prog w A .Sub (fun v => ∃ k1 k2 : Nat, PiecesIs [1, n + 1] c k1 ∧ PiecesIs (aroundL n) (c ^^^ q) k2 ∧ IsI ((k1 : Int) - k2) v) (IsU (ones c)) (fun v => ∃ k1 k2 : Nat, PiecesIs [1, n + 1] c k1 ∧ PiecesIs (aroundL n) (c ^^^ q) k2 ∧ IsI ((k1 : Int) - k2 - ones c) v) :=
      fun A v₁ v₂ ⟨k1, k2, r1, r2, h1⟩ h2 {_ _ _} k => op_sub v₁ v₂ h1 h2 fun v tk hv => k v tk ⟨k1, k2, r1, r2, hv⟩
    refine ex_let F₈ (Ev.bin (Ev.bin
        (EvO.callD (pieces_spec (c := c) (ss := [1, n + 1]) hcl2 hs2) (hA.le (by decide)) rfl rfl G'
          (EvL.consV (Ev.name (v := v) rfl hv) (EvL.cons (EvO.tupN (ss := [1, n + 1]) (EvL.natsCons (Ev.nat (n := 1)) (EvL.natsCons (Ev.name (by exact q6) hvw) EvL.natsNil)) (by decide : 2 ≤ 1000)) NewTup.mono EvL.nil))
          (fun h vs hv F => by
            obtain ⟨v, vs', rfl, e1, v₂, vs₂, rfl, ⟨a, us, rfl, ha, hu, _⟩, rfl⟩ := hv
            exact ⟨v, a, rfl, e1, TupU.of ha hu⟩)
          (fun _ _ _ _ _ _ _ hp => hp))
        (EvO.callD (pieces_spec (c := c ^^^ q) (ss := aroundL n) hcq hs4) (hA.le (by decide)) rfl rfl G'
          (EvL.consV (Ev.name (v := vh) rfl hvh) (EvL.consV (Ev.name (by exact q10) (IsR.mk (a := ar))) EvL.nil))
          (fun h vs hv F => by
            obtain ⟨v, vs', rfl, e1, v₂, vs₂, rfl, e2, rfl⟩ := hv
            cases e2
            exact ⟨v, ar, rfl, e1, hTU hB' F⟩)
          (fun _ _ _ _ _ _ _ hp => hp)) (oS1 _))
      (Ev.bitCount (Ev.name (v := v) rfl hv)) (oS2 _)) fun vs h₉ tk₉ hvs F₉ kp₉ => ?_
    obtain ⟨k1, k2, r1, r2, hvs⟩ := hvs
    let fo : Nat → Int := fun s => ((ones (c &&& c >>> s) : Nat) : Int)
    refine ex_forS (n := 2) F₉ [] (PI := NewTup [1, n + 1] B' L) (P := fun i v => ∃ c : Nat, [1, n + 1][i]? = some c ∧ IsU c v)
      (EvO.tupN (ss := [1, n + 1]) (EvL.natsCons (Ev.nat (n := 1)) (EvL.natsCons (Ev.name (v := vw) (by exact q6) hvw) EvL.natsNil)) (by decide : 2 ≤ 1000)) ?hit₂
      (fun j m' _ => ∃ us up, m' "squares" = some us ∧ IsI (acc fo ((k1 : Int) - k2 - ones c) ([1, n + 1].take j)) us ∧ m' "points" = some up ∧ IsI (acc (stepPts c) p ([1, n + 1].take j)) up ∧ m' "cells" = some v ∧
        m' "light" = some vl ∧ m' "told" = some vt ∧ m' "wide" = some vw ∧ m' "whole" = some vo ∧ m' "dark" = some vd ∧ m' "inside" = some vi ∧ m' "around" = some (.ref ar))
      (by simp) (by simp) (fun _ _ _ _ _ x => x) ⟨vs, vp, rfl, hvs, q1, q2, rfl, q4, q5, q6, q7, q8, q9, q10⟩ ?turn₂ ?done₂
    case hit₂ =>
      intro h v x hv F'
      exact hv.itb hA.1 F' rfl
    case turn₂ =>
      rintro j B₂ m₂ h₂ tk₂ vs hB₂ _ hj ⟨st, hst, hvst⟩ ⟨us, up, s1, s2, s3, s4, s5, s6⟩ F₂
      have hsl : st ≤ 12 := by
        have := List.mem_of_getElem? hst
        simp at this; omega
      have omk : ∀ A k, k ≤ 4 → Op2 prog w A .Mult (IsU k) (IsU st) (IsU (k * st)) := fun A k hk => un_mul (K := 3) (J := 4) (by omega) (by omega) (by decide)
      have o3 : ∀ A k x, k ≤ 3 → x ≤ 132 → Op2 prog w A .Mult (IsU k) (IsU x) (IsU (k * x)) := fun A k x hk hx => un_mul (K := 2) (J := 8) (by omega) (by omega) (by decide)
      have h5 : five c st < 2 ^ 132 := by
        unfold five
        refine Nat.lt_of_le_of_lt (Nat.and_le_left) (Nat.lt_of_le_of_lt (Nat.and_le_left) (Nat.lt_of_le_of_lt (Nat.and_le_left) (Nat.lt_of_le_of_lt (Nat.and_le_left) hcl)))
      have h5' := ones_le h5
      have h5'' : ones (five c st &&& c <<< st) ≤ 132 := ones_le (Nat.lt_of_le_of_lt (Nat.and_le_left) h5)
      refine ex_aug F₂ (v₀ := us) s1 s2 (P₂ := IsI (fo st)) (Ev.bitCount (k := c &&& c >>> st) (Ev.bin (Ev.name (by exact s5) hv) (Ev.bin (Ev.name (by exact s5) hv) (Ev.name (v := vs) rfl hvst) un_shr) un_and)) oi_add fun us' h₃ tk₃ hus' F₃ kp₃ => ?_
      refine ex_let F₃ (P := IsU (five c st)) (Ev.bin (Ev.bin (Ev.bin (Ev.bin (Ev.name (by exact s5) hv) (Ev.bin (Ev.name (by exact s5) hv) (Ev.name (v := vs) rfl hvst) un_shr) un_and)
        (Ev.bin (Ev.name (by exact s5) hv) (Ev.bin (Ev.nat (n := 2)) (Ev.name (v := vs) rfl hvst) (omk _ 2 (by decide))) un_shr) un_and)
        (Ev.bin (Ev.name (by exact s5) hv) (Ev.bin (Ev.nat (n := 3)) (Ev.name (v := vs) rfl hvst) (omk _ 3 (by decide))) un_shr) un_and)
        (Ev.bin (Ev.name (by exact s5) hv) (Ev.bin (Ev.nat (n := 4)) (Ev.name (v := vs) rfl hvst) (omk _ 4 (by decide))) un_shr) un_and) fun vf h₄ tk₄ hvf F₄ kp₄ => ?_
      refine ex_aug F₄ (v₀ := up) (by exact s3) s4 (P₂ := IsI (stepPts c st)) (Ev.bin (P₁ := IsI ((3 * ones (five c st) : Nat) : Int)) (P₂ := IsI ((2 * ones (five c st &&& c <<< st) : Nat) : Int))
        (Ev.bin (Ev.nat (n := 3)) (Ev.bitCount (Ev.name (v := vf) rfl hvf)) (o3 _ 3 _ (by decide) h5'))
        (Ev.bin (Ev.nat (n := 2)) (Ev.bitCount (Ev.bin (Ev.name (v := vf) rfl hvf) (Ev.bin (Ev.name (by exact s5) hv) (Ev.name (v := vs) rfl hvst) (un_shl hcl (by omega))) un_and)) (o3 _ 2 _ (by decide) h5'')) op_sub) oi_add fun up' h₅ tk₅ hup' F₅ kp₅ => ?_
      refine ex_nil ⟨.inl rfl, h₅, tk₅, _, rfl, F₅, us', up', rfl, ?_, rfl, ?_, s5, s6⟩
      · rw [take_snoc hst, acc_snoc]; exact hus'
      · rw [take_snoc hst, acc_snoc]; exact hup'
    case done₂ =>
      rintro h₂ tk₂ m₂ F₂ ⟨us, up, s1, s2, s3, s4, s5, s6⟩
      refine ex_aug F₂ (v₀ := up) s3 s4 (Ev.bin (P₁ := IsI 3) Ev.int (Ev.name (by exact s1) s2) (op_mul (.of_left (by decide)))) oi_add fun up' h₃ tk₃ hup' F₃ kp₃ => ?_
      refine ex_nil ⟨.inl rfl, h₃, tk₃, _, rfl, F₃, up', _, rfl, hup', ?_, s6⟩
      have hS : SqIs n W c (acc fo ((k1 : Int) - k2 - ones c) ([1, n + 1].take 2)) := ⟨q, k1, k2, hq1, hq2, r1, r2, by simp [acc, fo]⟩
      generalize hSe : acc fo ((k1 : Int) - k2 - ones c) ([1, n + 1].take 2) = S at hS
      have hp2 : acc (stepPts c) p ([1, n + 1].take 2) + 3 * S = p + colPts n c S := by simp [acc, colPts]; omega
      rw [hp2]
      match i, hi, hc, q3 with
      | 0, _, hc, q3 => cases hc; cases q3; exact ⟨S, hS, rfl⟩
      | 1, _, hc, q3 => cases hc; obtain ⟨S1, hS1, rfl⟩ := q3; exact ⟨S1, S, hS1, hS, rfl⟩
end
end Mine
end

section
open PySem PySem.W PySem.Calls PyProof.Rows
set_option linter.unusedVariables false
set_option maxRecDepth 100000
set_option maxHeartbeats 4000000
namespace Mine

theorem likes_lt {W D Lt s line : Nat} (hW : W < 2 ^ 132) : ∀ p, likesUp W D Lt s line p < 2 ^ 132
  | 0 => hW
  | p + 1 => Nat.lt_of_le_of_lt Nat.and_le_left (likes_lt hW p)
/-- the likenesses' points, all of a step -/
def likePts (W D Lt s l : Nat) : Int := ((40 * ones (likesUp W D Lt s l 11) : Nat) : Int)

section
variable {prog : Program} {w : World} {mg mb : Vs} {A : Around} {B : Addr → Option Obj} {m : Vs} {s : Shared} {a L f : Addr} {n W D Lt : Nat} {vt cd vw vo vd vl vp : Value} {p T : Int} {d : DefItem} {h₁ : Heap} {tk₁ : Nat}

theorem law_likes (hd : defs0.find? (fun e => decide (e.name = Str.ofString "law")) = some d) (hA : AOk A 4) (G : GB mg mb B) (F : Fm B L h₁ m) (hn1 : 1 ≤ n) (hn2 : n ≤ 11)
    (e2 : m "told" = some vt) (hvt : IsI T vt) (e3 : m "wide" = some vw) (hvw : IsU (n + 1) vw) (e4 : m "whole" = some vo) (hvo : IsU W vo) (e5 : m "dark" = some vd) (hvd : IsU D vd)
    (e6 : m "light" = some vl) (hvl : IsU Lt vl) (e7 : m "points" = some vp) (hvp : IsI p vp) (hW : W < 2 ^ 132)
    (hT : T = p + likePts W D Lt 1 93 + likePts W D Lt 1 1488 + likePts W D Lt (n + 1) 93 + likePts W D Lt (n + 1) 1488) :
    wpAny (model prog w) A (execs (d.body.drop 14) (envOf (Str.ofString "law") d.scope L f cd)) (fun fl s' => fl = .ret (.bool true) ∧ ∃ h' tk m', s' = { s with heap := h', toks := tk } ∧ Fm B L h' m') (fun _ _ => False) { s with heap := h₁, toks := tk₁ } := by
  have hd' : d = itemOf _ := (Option.some.inj (hd.symm.trans rfl))
  subst hd'
  dsimp only [itemOf]
  let g : Int → Nat → Int := fun x st => acc (likePts W D Lt st) x [93, 1488]
  refine ex_forS (n := 2) F [] (PI := NewTup [1, n + 1] B L) (P := fun i v => ∃ c : Nat, [1, n + 1][i]? = some c ∧ IsU c v)
    (EvO.tupN (ss := [1, n + 1]) (EvL.natsCons (Ev.nat (n := 1)) (EvL.natsCons (Ev.name (v := vw) (by exact e3) hvw) EvL.natsNil)) (by decide : 2 ≤ 1000)) ?hit
    (fun i m' _ => ∃ up, m' "points" = some up ∧ IsI (([1, n + 1].take i).foldl g p) up ∧ m' "told" = some vt ∧ m' "whole" = some vo ∧ m' "dark" = some vd ∧ m' "light" = some vl ∧ m' "wide" = some vw)
    (by simp) (by simp) (fun _ _ _ _ _ x => x) ⟨vp, e7, hvp, e2, e4, e5, e6, e3⟩ ?turn ?done
  case hit =>
    intro h v x hv F'
    exact hv.itb hA.1 F' rfl
  case done =>
    rintro h₂ tk₂ m₂ F₂ ⟨up, s1, s2, s3, s4⟩
    have e : ([1, n + 1].take 2).foldl g p = T := by rw [hT]; simp [g, acc]
    rw [e] at s2
    refine ex_ret F₂ (Ev.cmp (Ev.name (by exact s3) hvt) (Ev.name (by exact s1) s2) cmp_eqI) fun v h₃ tk₃ x₃ hv => ?_
    cases hv
    exact ⟨by simp, h₃, tk₃, m₂, rfl, F₂.stays x₃⟩
  case turn =>
    rintro i B₁ m₁ h₁ tk₁ v₁ hB₁ _ hi ⟨st, hst, hvst⟩ ⟨up, s1, s2, s3, s4, s5, s6, s7⟩ F₁
    have hsl : st ≤ 12 := by
      have := List.mem_of_getElem? hst
      simp at this; omega
    refine ex_forS (n := 2) F₁ [] (PI := NewTup [93, 1488] B₁ L) (P := fun i v => ∃ c : Nat, [93, 1488][i]? = some c ∧ IsU c v)
      (EvO.tupN (ss := [93, 1488]) (EvL.natsCons (Ev.nat (n := 93)) (EvL.natsCons (Ev.nat (n := 1488)) EvL.natsNil)) (by decide : 2 ≤ 1000)) ?hit₂
      (fun j m' _ => ∃ up, m' "points" = some up ∧ IsI (acc (likePts W D Lt st) (([1, n + 1].take i).foldl g p) ([93, 1488].take j)) up ∧ m' "step" = some v₁ ∧ m' "told" = some vt ∧ m' "whole" = some vo ∧ m' "dark" = some vd ∧ m' "light" = some vl ∧ m' "wide" = some vw)
      (by simp) (by simp) (fun _ _ _ _ _ x => x) ⟨up, s1, s2, rfl, s3, s4, s5, s6, s7⟩ ?turn₂ ?done₂
    case hit₂ =>
      intro h v x hv F'
      exact hv.itb hA.1 F' rfl
    case done₂ =>
      rintro h₂ tk₂ m₂ F₂ ⟨up, r1, r2, r3, r4⟩
      refine ex_nil ⟨.inl rfl, h₂, tk₂, _, rfl, F₂, up, r1, ?_, r4⟩
      rw [take_snoc hst, List.foldl_append]; exact r2
    case turn₂ =>
      rintro j B₂ m₂ h₂ tk₂ v₂ hB₂ _ hj ⟨ln, hln, hvln⟩ ⟨up, r1, r2, r3, r4, r5, r6, r7, r8⟩ F₂
      have hG₂ := (G.mono hB₁).mono hB₂
      refine ex_let F₂ (Ev.name (v := vo) (by exact r5) hvo) fun vk h₃ tk₃ hvk F₃ kp₃ => ?_
      refine ex_forS (n := 11) F₃ [] (EvO.range1 hG₂ (n := ((11 : Nat) : Int)) (Ev.int)) ?hit₃ (P := fun i v => i < 11 ∧ IsU i v)
        (fun q m' _ => ∃ uk, m' "likes" = some uk ∧ IsU (likesUp W D Lt st ln q) uk ∧ m' "points" = some up ∧ m' "line" = some v₂ ∧ m' "step" = some v₁ ∧ m' "told" = some vt ∧ m' "whole" = some vo ∧ m' "dark" = some vd ∧ m' "light" = some vl ∧ m' "wide" = some vw)
        (by simp) (by simp) (fun _ _ _ _ _ x => x) ⟨vk, rfl, hvk, r1, rfl, r3, r4, r5, r6, r7, r8⟩ ?turn₃ ?done₃
      case hit₃ =>
        rintro h v x ⟨r, t, u, y, rfl, hr⟩ F'
        refine Itb.rng hA.1 (by omega) ⟨t, u, y, Bof_of hr ?_⟩
        intro hm
        exact Ns_ne F'.ns hr (by intro _ _ q; cases q) (List.mem_singleton.mp hm)
      case turn₃ =>
        rintro q B₃ m₃ h₃ tk₃ v₃ hB₃ _ hq ⟨_, hv₃⟩ ⟨uk, t1, t2, t3, t4, t5, t6, t7, t8, t9, t10⟩ F₃
        have oq : ∀ A, Op2 prog w A .Mult (IsU q) (IsU st) (IsU (q * st)) := fun A => un_mul (K := 4) (J := 4) (by omega) (by omega) (by decide)
        refine ex_aug F₃ (v₀ := uk) (by exact t1) t2 (P₂ := IsU ((if ((ln >>> q) &&& 1) != 0 then D else Lt) >>> (q * st)))
          (Ev.bin (P₁ := IsU (if ((ln >>> q) &&& 1) != 0 then D else Lt)) (Ev.ifExp (EvT.nat (i := (ln >>> q) &&& 1) (Ev.bin (Ev.bin (Ev.name (by exact t4) hvln) (Ev.name (v := v₃) rfl hv₃) un_shr) (Ev.nat (n := 1)) un_and))
            (fun hb => by rw [if_pos hb]; exact Ev.name (v := vd) (by exact t8) hvd) (fun hb => by rw [if_neg (by rw [hb]; decide)]; exact Ev.name (v := vl) (by exact t9) hvl))
            (Ev.bin (Ev.name (v := v₃) rfl hv₃) (Ev.name (by exact t5) hvst) (oq _)) un_shr) ui_and fun uk' h₄ tk₄ huk' F₄ kp₄ => ?_
        exact ex_nil ⟨.inl rfl, h₄, tk₄, _, rfl, F₄, uk', rfl, huk', t3, t4, t5, t6, t7, t8, t9, t10⟩
      case done₃ =>
        rintro h₃ tk₃ m₃ F₃ ⟨uk, t1, t2, t3, t4, t5, t6, t7, t8, t9, t10⟩
        have h40 := ones_le (likes_lt (D := D) (Lt := Lt) (s := st) (line := ln) hW 11)
        have o40 : ∀ A, Op2 prog w A .Mult (IsU 40) (IsU (ones (likesUp W D Lt st ln 11))) (IsU (40 * ones (likesUp W D Lt st ln 11))) := fun A => un_mul (K := 6) (J := 8) (by decide) (by omega) (by decide)
        refine ex_aug F₃ (v₀ := up) (by exact t3) r2 (P₂ := IsI (likePts W D Lt st ln)) (Ev.bin (Ev.nat (n := 40)) (Ev.bitCount (Ev.name (by exact t1) t2)) (o40 _)) oi_add fun up' h₄ tk₄ hup' F₄ kp₄ => ?_
        refine ex_nil ⟨.inl rfl, h₄, tk₄, _, rfl, F₄, up', rfl, ?_, t5, t6, t7, t8, t9, t10⟩
        rw [take_snoc hln, acc_snoc]; exact hup'
end
end Mine
end

section
open PySem PySem.W PySem.Calls PyProof.Rows
set_option linter.unusedVariables false
set_option maxRecDepth 100000
set_option maxHeartbeats 4000000
namespace Mine

theorem EvO.use {prog : Program} {w : World} {A : Around} {env : Env} {B : Addr → Option Obj} {m : Vs} {e : Expr} {P : Heap → Value → Prop} {Q : Value → Shared → Prop} {E : Value → Shared → Prop} {s : Shared} (F : Fm B env.locals s.heap m)
    (h : ∀ v h' tk, Ext s.heap h' → P h' v → Q v { s with heap := h', toks := tk }) (he : EvO prog w A env B m e P) : wpAny (model prog w) A (eval e env) Q E s := he F h

theorem copies {h : Heap} {D : Addr} {M : List (List Bool)} : ∀ (ys : List Value) (k : Nat), (∀ j y, ys[j]? = some y → ∃ a its, y = .ref a ∧ h.IsList a its.toArray ∧ its = (M.getD (k + j) []).map Value.bool) →
    ∃ as : List Addr, ys = as.map Value.ref ∧ ∀ j aj, as[j]? = some aj → LstB h.get? aj (((M.getD (k + j) []).map Value.bool).toArray)
  | [], k, _ => ⟨[], rfl, by simp⟩
  | y :: ys, k, hy => by
    obtain ⟨as, rfl, has⟩ := copies (M := M) (h := h) (D := D) ys (k + 1) fun j y e => by
      have := hy (j + 1) y (by simpa using e)
      rwa [show k + (j + 1) = k + 1 + j by omega] at this
    obtain ⟨a, its, rfl, hl, rfl⟩ := hy 0 y rfl
    refine ⟨a :: as, rfl, fun j aj e => ?_⟩
    cases j with
    | zero => simp at e; subst e; exact hl
    | succ j => rw [show k + (j + 1) = k + 1 + j by omega]; exact has j aj (by simpa using e)

theorem law_body {prog : Program} {w : World} {mg mb : Vs} (HP : PlainLaw) {A : Around} {s : Shared} {l f c P bm : Addr} {ob : Obj} {cd : Value} {d : DefItem} {h₁ : Heap} {tk₁ : Nat} (hd : defs0.find? (fun e => decide (e.name = Str.ofString "law")) = some d)
    (hA : AOk A 5) (G : GI mg mb s.heap) (BM : BMod s.heap mainGlobals mg bm ob) (TA : TabAt mg s.heap c P) (hgens : AllBare s.gens) (hS : IsScript s.heap.get? l)
    (F₁ : Fm s.heap.get? s.heap.objs.size h₁ (fun x => ((["script"] : List PySem.Str).zip [Value.ref l]).reverse.lookup x)) :
    wpAny (model prog w) A (execs d.body (envOf (Str.ofString "law") d.scope s.heap.objs.size f cd)) (fun fl s' => fl = .ret (.bool true) ∧ Left c P s s') (fun _ _ => False) { s with heap := h₁, toks := tk₁ } := by
  have hd' : d = itemOf _ := (Option.some.inj (hd.symm.trans rfl))
  subst hd'
  dsimp only [itemOf]
  have hcU : A.units + 64 < cLine := by have := hA.2.2; rw [cLine_is]; omega
  have hA3 : ∀ n, n ≤ 5 → AOk A n := fun n hn => hA.le hn
  have GB := G.gb
  obtain ⟨a₁, o₁, fd₁, t1, t2, t3, t4, t5, t6⟩ := id TA
  have hPlt : P < s.heap.objs.size := Heap.lt_size t6.2
  -- the figure
  refine ex_assign F₁ (EvO.callD (figure_spec) (hA3 2 (by decide)) rfl rfl GB (EvL.consV (Ev.name (v := .ref l) rfl IsR.mk) EvL.nil) (fun h vs hv F => ?pre) (fun _ _ _ _ _ _ _ hp => hp)) fun v h₂ h₃ tk₃ x₂ hv F₃ hsb₃ => ?_
  case pre =>
    obtain ⟨v, vs', rfl, e1, rfl⟩ := hv
    cases e1
    exact ⟨l, rfl, hS.mono F.keep⟩
  obtain ⟨a, n, M, rfl, hn1, hn2, hM, hR₂⟩ := hv
  have seqL : ∀ {h : Heap} {m : Vs} {b : Addr} {o : Obj}, h.Ns s.heap.objs.size m → h.get? b = some o → (∃ its n, o.data = .seq its n) → b ≠ s.heap.objs.size := fun hn e ⟨_, _, hs⟩ => Ns_ne hn e (by intro _ _ z; rw [hs] at z; cases z)
  have nsL : ∀ {h h' : Heap} {m m' : Vs} {M : List (List Bool)} {a : Addr}, h'.Ns s.heap.objs.size m → (∀ b o, b ≠ s.heap.objs.size → h'.get? b = some o → h.get? b = some o) → RowsB h'.get? a M → RowsB (Bof h [s.heap.objs.size]) a M := fun hn k x =>
    x.map fun b o e hc hs => Bof_of (k b o (seqL hn e hs) e) (fun hm => seqL hn e hs (List.mem_singleton.mp hm))
  have F₃' := F₃.rebase []
  have hns₂ : h₂.Ns s.heap.objs.size _ := F₁.ns.keeps x₂
  have hR₃ : RowsB (Bof h₃ [s.heap.objs.size]) a M := nsL (m' := fun _ => none) hns₂ (fun b o hb e => (hsb₃.2 b hb).trans e) hR₂
  have subB : ∀ b o, s.heap.get? b = some o → Bof h₃ [s.heap.objs.size] b = some o := fun b o e => Bof_of (F₃.keep _ _ e) (fun hm => F₃.ne e (List.mem_singleton.mp hm))
  have hMl := hM.1
  -- n
  obtain ⟨as, hra, hrl, hri⟩ := id hR₃
  have hsz : ((as.map Value.ref).toArray).size = n := by simp [hrl, hMl]
  refine ex_let F₃' (Ev.lenN (n := n) (GB.mono subB) (Ev.name (v := .ref a) rfl IsR.mk) hra hsz (by omega)) fun vn h₄ tk₄ hvn F₄ kp₄ => ?_
  -- was
  refine ex_assignComp false (n := n) (P := fun j v => (as.map Value.ref).toArray[j]? = some v) (PI := fun _ => IsR a) (PV := fun _ _ => False) (K := fun j its => its = (M.getD j []).map Value.bool) F₄ (Ev.name (v := .ref a) rfl IsR.mk) ?hit (by show n ≤ 16777216; omega) ?helt (fun D ys h₅ tk₅ kp₅ hD hyl hys hD0 hDL F₅ => ?_) rfl (by decide)
  case hit =>
    rintro h v rfl F'
    refine Itb.mono (Itb.lst (items := (as.map Value.ref).toArray) hA.1 (hra.mono F'.keep)) hsz fun _ _ e => e
  case helt =>
    intro C j v B' m₂ hj hP hB' hb
    have hP' : (as.map Value.ref)[j]? = some v := by simpa using hP
    rw [List.getElem?_map] at hP'
    obtain ⟨aj, haj, rfl⟩ := Option.map_eq_some_iff.mp hP'
    have hl := (hri j aj haj).mono hB'
    have hlen : (((M.getD j []).map Value.bool).toArray).size ≤ 16777216 := by
      have := hM.2 j hj
      rw [List.size_toArray, List.length_map]; omega
    intro Q E s' F' k
    refine EvO.use (P := fun h v => ∃ D its, v = .ref D ∧ h.IsList D its.toArray ∧ its = (M.getD j []).map Value.bool ∧ B' D = none ∧ D ≠ C) F' (fun v h' tk x hv => k v h' tk x ?_) ?_
    · obtain ⟨D, its, rfl, hl, hK, hb, _⟩ := hv
      exact .inr ⟨D, its, rfl, hl, hK, by rintro ⟨o, ho⟩; rw [hb] at ho; cases ho⟩
    · exact EvO.copy (K := fun its => its = (M.getD j []).map Value.bool) (Ev.name (v := .ref aj) hb ⟨aj, _, rfl, hl, by simp, hlen⟩)
  have hR₅ : RowsB (Bof h₅ [s.heap.objs.size]) a M := by
    refine hR₃.map fun b o e hc hs => ?_
    have e4 := F₄.keep _ _ e
    exact Bof_of (kp₅ b o (F₄.ne e) e4) (fun hm => F₄.ne e (List.mem_singleton.mp hm))
  have hW₅ : RowsB (Bof h₅ [s.heap.objs.size]) D M := by
    obtain ⟨ws, rfl, hws⟩ := copies (h := h₅) (D := D) (M := M) ys 0 fun j y e => by
      rcases hys j y e with hf | ⟨a, its, rfl, hl, hK, _⟩
      · exact hf.elim
      · exact ⟨a, its, rfl, hl, by rw [hK, Nat.zero_add]⟩
    refine nsL (m' := fun _ => none) F₅.ns (fun b o _ e => e) ⟨ws, ⟨_, hD, rfl, _, rfl⟩, by simpa [hMl] using hyl, fun i ai e => ?_⟩
    have := hws i ai e
    rwa [Nat.zero_add] at this
  -- told
  have hd₂ : defs0.find? (fun e => decide (e.name = Str.ofString "lost_point")) = some (itemOf _) := rfl
  obtain ⟨f₂, c₂, o₂, pm₂, doc₂, _, _, g3, g4, g5, g6⟩ := (G.made _ (List.mem_of_find?_eq_some hd₂)).plain rfl
  have hLn : s.heap.get? s.heap.objs.size = none := fresh_none (Nat.le_refl _)
  have K₅ : Ext s.heap h₅ := fun b o e => F₅.keep _ _ (subB b o e)
  refine wpAny_execs_cons (wpAny_Assign_Name (Call_ (Ev.glob (GB.mono subB) g3 rfl rfl rfl (by decide) F₅ fun fv h₆ tk₆ x₆ hfv => ?_) rfl) rfl)
  cases hfv
  refine callWith_def g5 (EvL.use (F₅.stays x₆) (fun vs h₇ tk₇ x₇ hvs => ?_) (EvL.consV (Ev.name (v := .ref a) rfl IsR.mk) EvL.nil)) rfl
  obtain ⟨_, _, rfl, rfl, rfl⟩ := hvs
  have F₇ := (F₅.stays x₆).stays x₇
  have K₇ : Ext s.heap h₇ := fun b o e => x₇ _ _ (x₆ _ _ (K₅ _ _ e))
  have hR₇ : RowsB h₇.get? a M := hR₅.mono fun b o e => x₇ _ _ (x₆ _ _ (Bof_some e).1)
  refine ⟨K₇ _ _ g4, wpAny_call (codeAny_mono (lost_point_spec (c := c) (P := P) (bm := bm) (ob := ob) hM hn1 hn2 (hA3 4 (by decide)) (G.keeps K₇) (BM.keeps K₇) (TA.keeps K₇) g3 hR₇ hgens) fun r s₈ h => ?_)⟩
  obtain ⟨v₈, rfl, hv₈, hos, hg₈, ⟨more, hT₈⟩, hx₈⟩ := h
  have hPL : P ≠ s.heap.objs.size := Nat.ne_of_lt hPlt
  have hns₈ : s₈.heap.Ns s.heap.objs.size _ := F₇.ns.at fun o e => hx₈ _ o (Ne.symm hPL) e
  have F₈ : Fm (Bof h₅ [s.heap.objs.size, P]) s.heap.objs.size s₈.heap _ := ⟨hns₈, fun b o e => hx₈ _ _ (fun z => (Bof_some e).2 (by rw [z]; exact .tail _ (.head _))) (x₇ _ _ (x₆ _ _ (Bof_some e).1)), Bof_in (.head _)⟩
  refine wpAny_storeName_local rfl F₈.ns (fun h₉ hn₉ hsb₉ => ?_) rfl
  have F₉ := F₈.set hn₉ hsb₉
  have hP₉ : h₉.get? P = some _ := (hsb₉.2 P hPL).trans hT₈.2
  have F₁₀ := F₉.know hP₉ hPL
  have hB₁₀ := addB_mono F₉ hP₉
  have T₅ := (TA.keeps K₅)
  obtain ⟨_, _, _, _, _, _, _, _, t₅⟩ := id T₅
  have toP : ∀ b o, Bof h₅ [s.heap.objs.size] b = some o → o.cls = .type "list" → (∃ its n, o.data = .seq its n) → Bof h₅ [s.heap.objs.size, P] b = some o := fun b o e hc _ => by
    obtain ⟨e1, e2⟩ := Bof_some e
    refine Bof_of e1 fun hm => ?_
    rcases List.mem_cons.mp hm with z | hm
    · exact e2 (by rw [z]; exact .head _)
    · exact cls_off t₅ e1 (by rw [hc]; simp) (List.mem_singleton.mp hm)
  have hR₈ := (hR₅.map toP).mono hB₁₀
  have hW₈ := (hW₅.map toP).mono hB₁₀
  have up₅ : ∀ b o, b ≠ P → s.heap.get? b = some o → Bof h₅ [s.heap.objs.size, P] b = some o := fun b o hb e => Bof_of (K₅ _ _ e) fun hm => by
    rcases List.mem_cons.mp hm with z | hm
    · rw [z, hLn] at e; cases e
    · exact hb (List.mem_singleton.mp hm)
  have hend : ∀ h tk m, Fm (addB (Bof h₅ [s.heap.objs.size, P]) P _) s.heap.objs.size h m → Left c P s { s₈ with heap := h, toks := tk } := fun h tk m F => by
    have up : Heap.ExtBut P s.heap h := fun b o hb e => F.keep _ _ (hB₁₀ _ _ (up₅ b o hb e))
    refine ⟨hos, hg₈, ⟨more, ?_, F.keep _ _ addB_same⟩, up⟩
    obtain ⟨⟨o, vs, q1, q2, q3, q4⟩, q5⟩ := t6
    exact ⟨o, vs, up _ _ (fun e => by rw [e, q5] at q1; cases q1; cases q2) q1, q2, q3, q4⟩
  have GB₈ : Mine.GB mg mb (addB (Bof h₅ [s.heap.objs.size, P]) P _) := fun h hk => G.off TA fun b o hb e => hk b o (hB₁₀ _ _ (up₅ b o hb e))
  generalize addB (Bof h₅ [s.heap.objs.size, P]) P _ = B₂ at F₁₀ hB₁₀ hR₈ hW₈ hend GB₈
  have isInt : ∀ A v, IsI (toldOf M n) v → ∀ {s : Shared} {Q : Value → Shared → Prop} {E : Value → Shared → Prop}, (∀ tk, Q (.bool true) { s with toks := tk }) → wpAny (model prog w) A (call (.builtin "isinstance") [v, .type "int"]) Q E s := fun A v ⟨t, e⟩ {_ _ _} k => by
    subst e; exact IsiPair.int_int (k _)
  have isBool : ∀ A v, IsI (toldOf M n) v → ∀ {s : Shared} {Q : Value → Shared → Prop} {E : Value → Shared → Prop}, (∀ tk, Q (.bool false) { s with toks := tk }) → wpAny (model prog w) A (call (.builtin "isinstance") [v, .type "bool"]) Q E s := fun A v ⟨t, e⟩ {_ _ _} k => by
    subst e; exact IsiPair.int_bool (k _)
  refine ex_if F₁₀ (EvAll.toT (EvAll.or (EvT.not (EvT.bool (Ev.isinst (b := true) (Tn := "int") GB₈ (Ev.name (v := v₈) rfl hv₈) (by decide) bt_int (isInt _)))) fun _ =>
    EvAll.or (EvT.bool (Ev.isinst (b := false) (Tn := "bool") GB₈ (Ev.name (v := v₈) rfl hv₈) (by decide) bt_bool (isBool _))) fun _ =>
    EvAll.or (EvT.neRows (M := M) (Ev.name (v := .ref a) rfl IsR.mk) (Ev.name (v := .ref D) rfl IsR.mk) hR₈ hW₈ hcU) fun _ => EvAll.orNil)) (fun hf => by cases hf) fun _ h₁₁ tk₁₁ x₁₁ F₁₁ => ex_nil ?_
  dsimp only
  have hWl : wholeUp n n < 2 ^ 132 := lt_200 hn2 (Nat.le_refl _) (wholeUp_lt n n)
  have hDl : darkUp M n < 2 ^ 132 := lt_200 hn2 (Nat.le_refl _) (darkUp_lt hM n (Nat.le_refl _))
  refine law_bits (s := s₈) (cd := cd) (f := f) hd (hA3 4 (by decide)) GB₈ F₁₁ hR₈ hM hn1 hn2 rfl rfl hvn rfl fun h₁₂ tk₁₂ m₁₂ vw vo vd F₁₂ p1 p2 p3 p4 p5 p6 p7 p8 => ?_
  refine law_colours (s := s₈) (cd := cd) (f := f) hd (hA3 4 (by decide)) GB₈ F₁₂ hn1 hn2 p1 hvn p2 p3 p4 p5 p6 p7 p8 hWl hDl fun h₁₃ tk₁₃ m₁₃ p vp vl F₁₃ q1 q2 q3 q4 q5 q6 q7 q8 q9 => ?_
  obtain ⟨S1, S2, hS1, hS2, hp⟩ := q9
  have hT := HP M n hM hn1 hn2 S1 S2 hS1 hS2
  refine wpAny_mono (law_likes (s := s₈) (cd := cd) (f := f) hd (hA3 4 (by decide)) GB₈ F₁₃ hn1 hn2 q1 hv₈ q2 p4 q3 p6 q4 p8 q5 q6 q7 q8 hWl ?_) (fun fl s' h => ?_) fun _ _ x => x
  · rw [hT, hp]; rfl
  · obtain ⟨rfl, h', tk, m', rfl, F'⟩ := h
    exact ⟨rfl, hend h' tk m' F'⟩
end Mine
end

section
open PySem PySem.W PySem.Calls PyProof.Rows
set_option linter.unusedVariables false
set_option maxRecDepth 100000
set_option maxHeartbeats 4000000
namespace Mine

theorem names_nn : (biNames.all fun x => x != Str.ofString "__name__") = true := by decide +kernel
theorem caller_ok : AOk callerA 6 := ⟨rfl, by decide, by decide⟩

theorem gi_mk {p : Program} {w : World} {mg mb : Vs} {h : Heap} {consts} {objs} (k1 : defs0 = List.map itemOf (recsOf p)) (k2 : tupIntsOf p (Str.ofString "_law_sizes") = some [6, 5, 7, 4, 11, 5, 1, 3, 2, 9, 11, 6])
    (k3 : (biNames.all fun x => !(namesW p []).contains x && !bootMainNames.contains x) = true)
    (GL : Glob 0 mg mb (List.map itemOf (recsOf p)) consts objs (namesW p []) h) (B : Tables p w mg h) : GI mg mb h where
  g := GL.g
  b := GL.b
  nolimit := GL.nolimit
  made := fun d hd' => GL.made d (by rw [← k1]; exact hd')
  free := fun x hx => by
    have := List.all_eq_true.mp k3 x hx
    simp only [Bool.and_eq_true, Bool.not_eq_true', List.contains_eq_mem, decide_eq_false_iff_not] at this
    exact GL.free x this.1 this.2
  bi := fun x hx => GL.builtins x (by
    have := List.all_eq_true.mp names_nn x hx
    simpa using this)
  sizes := by
    obtain ⟨a, vs, h1, h2, h3⟩ := B.tupI _ _ k2
    exact ⟨a, h1, vs.toArray, h2, by simpa using h3⟩
theorem tab_mk {p : Program} {loose mean} {mg mb : Vs} {h : Heap} (k4 : ((recsOf p).any fun d => d.name == Str.ofString "_lost_point_level1") = true) (T : Top p loose mean mg mb h) : ∃ c P, TabAt mg h c P := by
  obtain ⟨d, hd', hn⟩ := List.any_eq_true.mp k4
  have hn' : d.name = Str.ofString "_lost_point_level1" := by simpa using hn
  obtain ⟨a, o, fd, c, P, h1, r⟩ := T.tab d hd'
  exact ⟨c, P, a, o, fd, by rw [← hn']; exact h1, r⟩
end Mine
end

section
set_option linter.unusedVariables false
set_option maxRecDepth 100000
namespace Mine

/-- joined by a chain of R, either way -/
inductive Con {α : Type} (R : α → α → Prop) (x : α) : α → Prop where
  | refl : Con R x x
  | step {y z} : Con R x y → (R y z ∨ R z y) → Con R x z
namespace Con
variable {α : Type} {R R' : α → α → Prop} {x y z : α}
theorem trans (h : Con R x y) (k : Con R y z) : Con R x z := by
  induction k with
  | refl => exact h
  | step _ r ih => exact ih.step r
theorem one (h : R x y) : Con R x y := .step .refl (.inl h)
theorem symm (h : Con R x y) : Con R y x := by
  induction h with
  | refl => exact .refl
  | step _ r ih => exact (Con.step .refl r.symm).trans ih
theorem mono (hR : ∀ u v, R u v → R' u v) (h : Con R x y) : Con R' x y := by
  induction h with
  | refl => exact .refl
  | step _ r ih => exact ih.step (r.imp (hR _ _) (hR _ _))
theorem closed {K : α → Prop} (hK : ∀ u v, R u v → (K u ↔ K v)) (h : Con R x y) : K x ↔ K y := by
  induction h with
  | refl => exact .rfl
  | step _ r ih =>
    rcases r with r | r
    · exact ih.trans (hK _ _ r)
    · exact ih.trans (hK _ _ r).symm
end Con

/-- k classes of Q on V -/
def Cls {α : Type} (V : α → Prop) (Q : α → α → Prop) (k : Nat) : Prop :=
  ∃ l : List α, l.length = k ∧ (∀ x ∈ l, V x) ∧ l.Pairwise (fun x y => ¬ Q x y) ∧ ∀ x, V x → ∃ y ∈ l, Q y x

theorem reps_le {α : Type} {Q : α → α → Prop} (hs : ∀ {x y}, Q x y → Q y x) (ht : ∀ {x y z}, Q x y → Q y z → Q x z) :
    ∀ (l l' : List α), l.Pairwise (fun x y => ¬ Q x y) → (∀ x ∈ l, ∃ y ∈ l', Q y x) → l.length ≤ l'.length
  | [], _, _, _ => Nat.zero_le _
  | x :: l, l', hp, hc => by
    obtain ⟨y, hy, hyx⟩ := hc x (.head _)
    obtain ⟨l₁, l₂, rfl⟩ := List.append_of_mem hy
    have hp' := List.pairwise_cons.mp hp
    have := reps_le (Q := Q) hs ht l (l₁ ++ l₂) hp'.2 fun z hz => by
      obtain ⟨u, hu, huz⟩ := hc z (.tail _ hz)
      rcases List.mem_append.mp hu with h | h
      · exact ⟨u, List.mem_append.mpr (.inl h), huz⟩
      · rcases List.mem_cons.mp h with rfl | h
        · exact absurd (ht (hs hyx) huz) (hp'.1 z hz)
        · exact ⟨u, List.mem_append.mpr (.inr h), huz⟩
    simp at this ⊢; omega

theorem Cls.uniq {α : Type} {V : α → Prop} {R : α → α → Prop} {k k' : Nat} (h : Cls V (Con R) k) (h' : Cls V (Con R) k') : k = k' := by
  obtain ⟨l, rfl, hv, hp, hc⟩ := h
  obtain ⟨l', rfl, hv', hp', hc'⟩ := h'
  exact Nat.le_antisymm (reps_le (Q := Con R) Con.symm Con.trans l l' hp fun x hx => hc' x (hv x hx)) (reps_le (Q := Con R) Con.symm Con.trans l' l hp' fun x hx => hc x (hv' x hx))

/-- the relation of a list of pairs -/
def On {α : Type} (l : List (α × α)) (u v : α) : Prop := (u, v) ∈ l
open Classical in
noncomputable def rk {α : Type} : List (α × α) → Nat
  | [] => 0
  | e :: l => rk l + (if Con (On l) e.1 e.2 then 0 else 1)

theorem con_cons {α : Type} {l : List (α × α)} {u v x y : α} (h : Con (On ((u, v) :: l)) x y) :
    Con (On l) x y ∨ (Con (On l) x u ∧ Con (On l) v y) ∨ (Con (On l) x v ∧ Con (On l) u y) := by
  induction h with
  | refl => exact .inl .refl
  | @step y z _ r ih =>
    have old : (On l y z ∨ On l z y) → (Con (On l) x z ∨ (Con (On l) x u ∧ Con (On l) v z) ∨ (Con (On l) x v ∧ Con (On l) u z)) := fun r => by
      rcases ih with h | ⟨h1, h2⟩ | ⟨h1, h2⟩
      · exact Or.inl (h.step r)
      · exact .inr (.inl ⟨h1, h2.step r⟩)
      · exact .inr (.inr ⟨h1, h2.step r⟩)
    rcases r with r | r
    · rcases List.mem_cons.mp r with e | r
      · cases e
        rcases ih with h | ⟨h1, h2⟩ | ⟨h1, h2⟩
        · exact .inr (.inl ⟨h, .refl⟩)
        · exact .inr (.inl ⟨h1, .refl⟩)
        · exact .inl h1
      · exact old (.inl r)
    · rcases List.mem_cons.mp r with e | r
      · cases e
        rcases ih with h | ⟨h1, h2⟩ | ⟨h1, h2⟩
        · exact .inr (.inr ⟨h, .refl⟩)
        · exact .inl h1
        · exact .inr (.inr ⟨h1, .refl⟩)
      · exact old (.inr r)

theorem cls_cons_same {α : Type} {V : α → Prop} {l : List (α × α)} {u v : α} {k : Nat} (hc : Con (On l) u v) (h : Cls V (Con (On l)) k) : Cls V (Con (On ((u, v) :: l))) k := by
  obtain ⟨reps, rfl, hv, hp, hr⟩ := h
  refine ⟨reps, rfl, hv, hp.imp fun {x y} hn hq => hn ?_, fun x hx => let ⟨y, hy, q⟩ := hr x hx; ⟨y, hy, q.mono fun _ _ h => .tail _ h⟩⟩
  rcases con_cons hq with h | ⟨h1, h2⟩ | ⟨h1, h2⟩
  · exact h
  · exact (h1.trans hc).trans h2
  · exact (h1.trans hc.symm).trans h2

theorem cls_cons_less {α : Type} {V : α → Prop} {l : List (α × α)} {u v : α} {k : Nat} (hu : V u) (hv : V v) (hc : ¬ Con (On l) u v) (h : Cls V (Con (On l)) k) : ∃ j, k = j + 1 ∧ Cls V (Con (On ((u, v) :: l))) j := by
  obtain ⟨reps, rfl, hV, hp, hr⟩ := h
  obtain ⟨a, ha, hau⟩ := hr u hu
  obtain ⟨b, hb, hbv⟩ := hr v hv
  obtain ⟨l₁, l₂, rfl⟩ := List.append_of_mem ha
  have hpp := List.pairwise_append.mp hp
  have hpc := List.pairwise_cons.mp hpp.2.1
  -- none but a is joined with a
  have na : ∀ x ∈ l₁ ++ l₂, ¬ Con (On l) x u := fun x hx h => by
    rcases List.mem_append.mp hx with hx | hx
    · exact hpp.2.2 x hx a (.head _) (h.trans hau.symm)
    · exact hpc.1 x hx (hau.trans h.symm)
  have hb' : b ∈ l₁ ++ l₂ := by
    rcases List.mem_append.mp hb with h | h
    · exact List.mem_append.mpr (.inl h)
    · rcases List.mem_cons.mp h with rfl | h
      · exact absurd (hau.symm.trans hbv) hc
      · exact List.mem_append.mpr (.inr h)
  refine ⟨(l₁ ++ l₂).length, by simp; omega, l₁ ++ l₂, rfl, fun x hx => hV x ?_, ?_, fun x hx => ?_⟩
  · rcases List.mem_append.mp hx with h | h
    · exact List.mem_append.mpr (.inl h)
    · exact List.mem_append.mpr (.inr (.tail _ h))
  · have hq : (l₁ ++ l₂).Pairwise (fun x y => ¬ Con (On l) x y) := List.pairwise_append.mpr ⟨hpp.1, hpc.2, fun x hx y hy => hpp.2.2 x hx y (.tail _ hy)⟩
    refine List.Pairwise.imp_of_mem (fun {x y} hx hy hn hcon => ?_) hq
    rcases con_cons hcon with h | ⟨h1, _⟩ | ⟨_, h2⟩
    · exact hn h
    · exact na x hx h1
    · exact na y hy h2.symm
  · obtain ⟨y, hy, hyx⟩ := hr x hx
    have up : ∀ {p q}, Con (On l) p q → Con (On ((u, v) :: l)) p q := fun h => h.mono fun _ _ h => .tail _ h
    by_cases hya : y = a
    · subst hya
      refine ⟨b, hb', ((up hbv).trans (Con.symm (.one (.head _)))).trans ((up hau.symm).trans (up hyx))⟩
    · refine ⟨y, ?_, up hyx⟩
      rcases List.mem_append.mp hy with h | h
      · exact List.mem_append.mpr (.inl h)
      · rcases List.mem_cons.mp h with rfl | h
        · exact absurd rfl hya
        · exact List.mem_append.mpr (.inr h)

theorem cls_rk {α : Type} {V : α → Prop} (vs : List α) (hvs : ∀ x, V x ↔ x ∈ vs) (hnd : vs.Nodup) : ∀ l : List (α × α), (∀ e ∈ l, V e.1 ∧ V e.2) → ∃ k, Cls V (Con (On l)) k ∧ k + rk l = vs.length
  | [], _ => ⟨vs.length, ⟨vs, rfl, fun x hx => (hvs x).mpr hx, hnd.imp (fun {x y} hne (h : Con (On []) x y) => by
      cases h with
      | refl => exact hne rfl
      | step _ r => rcases r with r | r <;> exact (nomatch r)), fun x hx => ⟨x, (hvs x).mp hx, .refl⟩⟩, rfl⟩
  | (u, v) :: l, hl => by
    obtain ⟨k, hk, hs⟩ := cls_rk vs hvs hnd l fun e he => hl e (.tail _ he)
    obtain ⟨h1, h2⟩ := hl _ (.head _)
    by_cases hc : Con (On l) u v
    · exact ⟨k, cls_cons_same hc hk, by rw [rk, if_pos hc]; omega⟩
    · obtain ⟨j, rfl, hj⟩ := cls_cons_less h1 h2 hc hk
      exact ⟨j, hj, by rw [rk, if_neg hc]; omega⟩

/-- all of one class -/
theorem cls_one {α : Type} {V : α → Prop} {Q : α → α → Prop} {a : α} (ha : V a) (h : ∀ x, V x → Q a x) : Cls V Q 1 := ⟨[a], rfl, by simpa using ha, by simp, fun x hx => ⟨a, by simp, h x hx⟩⟩

section
variable {ε α β : Type} (P : ε → α × α) (D : ε → β × β) (L : List ε)
def Alt : Prop := ∀ (p : List ε) (e : ε) (s : List ε), p.reverse ++ e :: s = L → Con (On (p.map P)) (P e).1 (P e).2 ∨ Con (On (s.map D)) (D e).1 (D e).2
variable {P D L}
theorem zip_up (H : Alt P D L) : ∀ (s p : List ε), p.reverse ++ s = L → rk ((s.reverse ++ p).map P) + rk (s.map D) ≤ rk (p.map P) + s.length
  | [], p, _ => by simp [rk]
  | e :: s, p, hL => by
    have ih := zip_up H s (e :: p) (by simpa using hL)
    have h := H p e s hL
    have e1 : (e :: s).reverse ++ p = s.reverse ++ e :: p := by simp
    rw [e1]
    simp only [List.map_cons, rk, List.length_cons] at ih ⊢
    rcases h with h | h
    · rw [if_pos h] at ih; split <;> omega
    · rw [if_pos h]; split at ih <;> omega
theorem zip_down (H : Alt P D L) : ∀ (p s : List ε), p.reverse ++ s = L → rk (p.map P) + rk (L.map D) ≤ rk (s.map D) + p.length
  | [], s, hL => by simp at hL; subst hL; simp [rk]
  | e :: p, s, hL => by
    have hL' : p.reverse ++ e :: s = L := by simpa using hL
    have ih := zip_down H p (e :: s) hL'
    have h := H p e s hL'
    simp only [List.map_cons, rk, List.length_cons] at ih ⊢
    rcases h with h | h
    · rw [if_pos h]; split at ih <;> omega
    · rw [if_pos h] at ih; split <;> omega
end
end Mine
end

section
set_option linter.unusedVariables false
set_option maxRecDepth 100000
namespace Mine

def xs (f : Nat → Bool) : Nat → Bool
  | 0 => false
  | k + 1 => xs f k ^^ f k
def xl {ε : Type} (f : ε → Bool) : List ε → Bool
  | [] => false
  | e :: l => f e ^^ xl f l
theorem xs_congr {f g : Nat → Bool} : ∀ n, (∀ i, i < n → f i = g i) → xs f n = xs g n
  | 0, _ => rfl
  | n + 1, h => by rw [xs, xs, xs_congr n fun i hi => h i (by omega), h n (by omega)]
theorem xs_zero {f : Nat → Bool} : ∀ n, (∀ i, i < n → f i = false) → xs f n = false
  | 0, _ => rfl
  | n + 1, h => by rw [xs, xs_zero n fun i hi => h i (by omega), h n (by omega)]; rfl
theorem xs_xor (f g : Nat → Bool) : ∀ n, xs (fun i => f i ^^ g i) n = (xs f n ^^ xs g n)
  | 0 => rfl
  | n + 1 => by
    rw [xs, xs, xs, xs_xor f g n]
    cases xs f n <;> cases xs g n <;> cases f n <;> cases g n <;> rfl
theorem xs_add (g : Nat → Bool) (s : Nat) : ∀ n, xs g (s + n) = (xs g s ^^ xs (fun i => g (i + s)) n)
  | 0 => by simp [xs]
  | n + 1 => by
    rw [← Nat.add_assoc, xs, xs, xs_add g s n, Nat.add_comm s n]
    cases xs g s <;> cases xs (fun i => g (i + s)) n <;> cases g (n + s) <;> rfl
theorem xs_shift (g : Nat → Bool) (s n : Nat) (h0 : ∀ i, i < s → g i = false) (hn : ∀ i, n ≤ i → g i = false) : xs (fun i => g (i + s)) n = xs g n := by
  have h1 := xs_add g s n
  have h2 := xs_add g n s
  rw [xs_zero s h0] at h1
  rw [xs_zero s (fun i _ => hn (i + n) (by omega)), Nat.add_comm n s, h1] at h2
  simpa using h2
theorem xl_append {ε : Type} (f : ε → Bool) : ∀ l l', xl f (l ++ l') = (xl f l ^^ xl f l')
  | [], l' => by simp [xl]
  | e :: l, l' => by rw [List.cons_append, xl, xl, xl_append f l l']; cases f e <;> cases xl f l <;> cases xl f l' <;> rfl
theorem xl_zero {ε : Type} {f : ε → Bool} : ∀ l, (∀ e ∈ l, f e = false) → xl f l = false
  | [], _ => rfl
  | e :: l, h => by rw [xl, xl_zero l fun x hx => h x (.tail _ hx), h e (.head _)]; rfl
theorem xl_perm {ε : Type} (f : ε → Bool) {l l' : List ε} (h : l.Perm l') : xl f l = xl f l' := by
  induction h with
  | nil => rfl
  | cons _ _ ih => rw [xl, xl, ih]
  | swap a b l => simp only [xl]; cases f a <;> cases f b <;> cases xl f l <;> rfl
  | trans _ _ ih1 ih2 => exact ih1.trans ih2
theorem xl_filter {ε : Type} (f p : ε → Bool) : ∀ l, xl f (l.filter p) = xl (fun e => p e && f e) l
  | [] => rfl
  | e :: l => by
    rw [List.filter_cons, xl]
    cases h : p e
    · simp [xl_filter f p l]
    · simp [xl, xl_filter f p l]
theorem xl_map {ε δ : Type} (f : δ → Bool) (g : ε → δ) : ∀ l, xl f (l.map g) = xl (fun e => f (g e)) l
  | [] => rfl
  | e :: l => by rw [List.map_cons, xl, xl, xl_map f g l]
theorem xl_range (f : Nat → Bool) : ∀ n, xl f (List.range n) = xs f n
  | 0 => rfl
  | n + 1 => by rw [List.range_succ, xl_append, xl_range f n, xs]; simp [xl]

-- the grid
section
variable (W w : Nat)
def inner (k : Nat) : Bool := decide (w + 1 ≤ k) && W.testBit k && W.testBit (k - 1) && W.testBit (k - w) && W.testBit (k - w - 1)
def nrm (k : Nat) : Nat := if inner W w k then k else 0
def eP (e : Bool × Nat) : Nat × Nat := if e.1 then (e.2, e.2 + w) else (e.2, e.2 + 1)
def eD (e : Bool × Nat) : Nat × Nat := if e.1 then (nrm W w (e.2 + w), nrm W w (e.2 + w + 1)) else (nrm W w (e.2 + 1), nrm W w (e.2 + 1 + w))
def isE (e : Bool × Nat) : Bool := W.testBit (eP w e).1 && W.testBit (eP w e).2
def edges (N : Nat) : List (Bool × Nat) := ((List.range N).map (fun i => (false, i)) ++ (List.range N).map (fun i => (true, i))).filter (isE W w)
def inX (X : Nat) (e : Bool × Nat) : Bool := X.testBit (eP w e).1 && X.testBit (eP w e).2
def edgesX (X N : Nat) : List (Bool × Nat) := (edges W w N).filter (inX w X) ++ (edges W w N).filter (fun e => !inX w X e)
variable {W w}
theorem outer_zero {k : Nat} (h : inner W w k = false) : nrm W w k = 0 := by unfold nrm; rw [h]; rfl
theorem inner_bits {k : Nat} (h : inner W w k = true) : w + 1 ≤ k ∧ W.testBit k = true ∧ W.testBit (k - 1) = true ∧ W.testBit (k - w) = true ∧ W.testBit (k - w - 1) = true := by
  unfold inner at h; simp only [Bool.and_eq_true, decide_eq_true_eq] at h
  exact ⟨h.1.1.1.1, h.1.1.1.2, h.1.1.2, h.1.2, h.2⟩
theorem inner_of {k : Nat} (h0 : w + 1 ≤ k) (h1 : W.testBit k = true) (h2 : W.testBit (k - 1) = true) (h3 : W.testBit (k - w) = true) (h4 : W.testBit (k - w - 1) = true) : inner W w k = true := by
  unfold inner; simp [h0, h1, h2, h3, h4]
theorem outer_low {k : Nat} (h : k ≤ w) : inner W w k = false := by
  cases e : inner W w k with
  | false => rfl
  | true => have := (inner_bits e).1; omega

theorem parity (hw : 1 ≤ w) {N : Nat} (hN : W < 2 ^ N) (C K : Nat → Bool) (hC : ∀ i, C i = true → W.testBit i = true) :
    xl (fun e => (C (eP w e).1 ^^ C (eP w e).2) && (K (eD W w e).1 ^^ K (eD W w e).2)) (edges W w N) = false := by
  have hCN : ∀ i, N ≤ i → C i = false := fun i hi => by
    cases h : C i with
    | false => rfl
    | true =>
      have := Nat.testBit_lt_two_pow (Nat.lt_of_lt_of_le hN (Nat.pow_le_pow_right (by decide) hi))
      rw [hC i h] at this; cases this
  have hCf : ∀ i, W.testBit i = false → C i = false := fun i h => by
    cases e : C i with
    | false => rfl
    | true => rw [hC i e] at h; cases h
  unfold edges
  rw [xl_filter, xl_append, xl_map, xl_map, xl_range, xl_range]
  let k : Nat → Bool := fun i => K (nrm W w i)
  have ko : ∀ {i j}, inner W w i = false → inner W w j = false → (k i ^^ k j) = false := fun {i j} h1 h2 => by
    show (K (nrm W w i) ^^ K (nrm W w j)) = false
    rw [outer_zero h1, outer_zero h2]; simp
  have out : ∀ {i j}, W.testBit j = false → (i = j ∨ i = j + 1 ∨ i = j + w ∨ i = j + w + 1) → inner W w i = false := fun {i j} hj hi => by
    cases e : inner W w i with
    | false => rfl
    | true =>
      obtain ⟨h0, h1, h2, h3, h4⟩ := inner_bits e
      rcases hi with rfl | rfl | rfl | rfl
      · rw [hj] at h1; cases h1
      · rw [show j + 1 - 1 = j by omega, hj] at h2; cases h2
      · rw [show j + w - w = j by omega, hj] at h3; cases h3
      · rw [show j + w + 1 - w - 1 = j by omega, hj] at h4; cases h4
  have e1 : xs (fun i => isE W w (false, i) && ((C (eP w (false, i)).1 ^^ C (eP w (false, i)).2) && (K (eD W w (false, i)).1 ^^ K (eD W w (false, i)).2))) N =
      xs (fun i => (C i && (k (i + 1) ^^ k (i + 1 + w))) ^^ (C (i + 1) && (k (i + 1) ^^ k (i + 1 + w)))) N := xs_congr N fun i _ => by
    show ((W.testBit i && W.testBit (i + 1)) && ((C i ^^ C (i + 1)) && (k (i + 1) ^^ k (i + 1 + w)))) = _
    cases h1 : W.testBit i with
    | false =>
      have hz := ko (out (i := i + 1) h1 (.inr (.inl rfl))) (out (i := i + 1 + w) h1 (.inr (.inr (.inr (by omega)))))
      rw [hz]; simp
    | true =>
      cases h2 : W.testBit (i + 1) with
      | false =>
        have hz := ko (out (i := i + 1) h2 (.inl rfl)) (out (i := i + 1 + w) h2 (.inr (.inr (.inl rfl))))
        rw [hz]; simp
      | true => cases C i <;> cases C (i + 1) <;> cases (k (i + 1) ^^ k (i + 1 + w)) <;> rfl
  have e2 : xs (fun i => isE W w (true, i) && ((C (eP w (true, i)).1 ^^ C (eP w (true, i)).2) && (K (eD W w (true, i)).1 ^^ K (eD W w (true, i)).2))) N =
      xs (fun i => (C i && (k (i + w) ^^ k (i + w + 1))) ^^ (C (i + w) && (k (i + w) ^^ k (i + w + 1)))) N := xs_congr N fun i _ => by
    show ((W.testBit i && W.testBit (i + w)) && ((C i ^^ C (i + w)) && (k (i + w) ^^ k (i + w + 1)))) = _
    cases h1 : W.testBit i with
    | false =>
      have hz := ko (out (i := i + w) h1 (.inr (.inr (.inl rfl)))) (out (i := i + w + 1) h1 (.inr (.inr (.inr rfl))))
      rw [hz]; simp
    | true =>
      cases h2 : W.testBit (i + w) with
      | false =>
        have hz := ko (out (i := i + w) h2 (.inl rfl)) (out (i := i + w + 1) h2 (.inr (.inl rfl)))
        rw [hz]; simp
      | true => cases C i <;> cases C (i + w) <;> cases (k (i + w) ^^ k (i + w + 1)) <;> rfl
  rw [e1, e2, xs_xor, xs_xor]
  have s1 := xs_shift (fun i => C i && (k i ^^ k (i + w))) 1 N (fun i hi => by
    rw [show i = 0 by omega, ko (outer_low (by omega)) (outer_low (by omega))]; simp) (fun i hi => by rw [hCN i hi]; rfl)
  have s2 := xs_shift (fun i => C i && (k i ^^ k (i + 1))) w N (fun i hi => by
    show (C i && (k i ^^ k (i + 1))) = false
    rw [ko (outer_low (by omega)) (outer_low (by omega))]; simp) (fun i hi => by show (C i && _) = false; rw [hCN i hi]; rfl)
  rw [s1, s2, ← xs_xor, ← xs_xor, ← xs_xor]
  refine xs_zero N fun i _ => ?_
  have e3 : i + 1 + w = i + w + 1 := by omega
  show (((C i && (k (i + 1) ^^ k (i + 1 + w))) ^^ (C i && (k i ^^ k (i + w)))) ^^ ((C i && (k (i + w) ^^ k (i + w + 1))) ^^ (C i && (k i ^^ k (i + 1))))) = false
  rw [e3]
  cases C i <;> cases k i <;> cases k (i + 1) <;> cases k (i + w) <;> cases k (i + w + 1) <;> rfl

open Classical in
theorem alt (hw : 1 ≤ w) {N : Nat} (hN : W < 2 ^ N) (X : Nat) : Alt (eP w) (eD W w) (edgesX W w X N) := by
  intro p e s hL
  by_cases h1 : Con (On (p.map (eP w))) (eP w e).1 (eP w e).2
  · exact .inl h1
  · by_cases h2 : Con (On (s.map (eD W w))) (eD W w e).1 (eD W w e).2
    · exact .inr h2
    · exfalso
      have hperm : (edgesX W w X N).Perm (edges W w N) := List.filter_append_perm ..
      have isE_of : ∀ e' ∈ edgesX W w X N, isE W w e' = true := fun e' he => (List.mem_filter.mp (hperm.mem_iff.mp he)).2
      let C : Nat → Bool := fun x => W.testBit x && decide (Con (On (p.map (eP w))) (eP w e).1 x)
      let K : Nat → Bool := fun y => decide (Con (On (s.map (eD W w))) (eD W w e).1 y)
      have hz := parity hw hN C K fun i h => by
        have h' : (W.testBit i && _) = true := h
        rw [Bool.and_eq_true] at h'; exact h'.1
      rw [← xl_perm _ hperm, ← hL, xl_append, xl] at hz
      have z1 := xl_zero (f := fun e => (C (eP w e).1 ^^ C (eP w e).2) && (K (eD W w e).1 ^^ K (eD W w e).2)) p.reverse fun e' he => by
        have hE := isE_of e' (by rw [← hL]; exact List.mem_append.mpr (.inl he))
        unfold isE at hE
        rw [Bool.and_eq_true] at hE
        have hon : On (p.map (eP w)) (eP w e').1 (eP w e').2 := List.mem_map.mpr ⟨e', List.mem_reverse.mp he, rfl⟩
        have : C (eP w e').1 = C (eP w e').2 := by
          show (W.testBit _ && _) = (W.testBit _ && _)
          rw [hE.1, hE.2]
          have : Con (On (p.map (eP w))) (eP w e).1 (eP w e').1 ↔ Con (On (p.map (eP w))) (eP w e).1 (eP w e').2 := ⟨fun h => h.step (.inl hon), fun h => h.step (.inr hon)⟩
          simp [this]
        show ((C (eP w e').1 ^^ C (eP w e').2) && _) = false
        rw [this]; simp
      have z2 := xl_zero (f := fun e => (C (eP w e).1 ^^ C (eP w e).2) && (K (eD W w e).1 ^^ K (eD W w e).2)) s fun e' he => by
        have hon : On (s.map (eD W w)) (eD W w e').1 (eD W w e').2 := List.mem_map.mpr ⟨e', he, rfl⟩
        have : K (eD W w e').1 = K (eD W w e').2 := by
          have : Con (On (s.map (eD W w))) (eD W w e).1 (eD W w e').1 ↔ Con (On (s.map (eD W w))) (eD W w e).1 (eD W w e').2 := ⟨fun h => h.step (.inl hon), fun h => h.step (.inr hon)⟩
          simp [K, this]
        show (_ && (K (eD W w e').1 ^^ K (eD W w e').2)) = false
        rw [this]; simp
      rw [z1, z2] at hz
      have hE := isE_of e (by rw [← hL]; exact List.mem_append.mpr (.inr (.head _)))
      unfold isE at hE
      rw [Bool.and_eq_true] at hE
      have c1 : C (eP w e).1 = true := by show (W.testBit _ && _) = true; rw [hE.1]; simp [Con.refl]
      have c2 : C (eP w e).2 = false := by show (W.testBit _ && decide _) = false; rw [decide_eq_false h1]; simp
      have k1 : K (eD W w e).1 = true := by simp [K, Con.refl]
      have k2 : K (eD W w e).2 = false := decide_eq_false h2
      rw [c1, c2, k1, k2] at hz
      cases hz
end
end Mine
end

section
set_option linter.unusedVariables false
set_option maxRecDepth 100000
namespace Mine

abbrev Wh (n : Nat) : Nat := wholeUp n n
def NN : Nat := 144
def whLit (n : Nat) : Nat := wholeUp n n
def bitOk (n W I i : Nat) : Bool :=
  (!W.testBit i || (i == 1 || (decide (1 ≤ i) && W.testBit (i - 1)) || (decide (n + 1 ≤ i) && W.testBit (i - (n + 1))))) &&
  (!I.testBit i || (W.testBit i && inner W (n + 1) i && inner W (n + 1) (i + 1) && inner W (n + 1) (i + (n + 1)) && inner W (n + 1) (i + (n + 1) + 1))) &&
  (!(W.testBit i && !I.testBit i) || !(inner W (n + 1) i && inner W (n + 1) (i + 1) && inner W (n + 1) (i + (n + 1)) && inner W (n + 1) (i + (n + 1) + 1)))
def gridOkW (n W I : Nat) : Bool :=
  W.testBit 1 && decide (((List.range NN).filter W.testBit).length = n * n) && decide (((List.range NN).filter (inner W (n + 1))).length = (n - 1) * (n - 1)) &&
  decide ((edges W (n + 1) NN).length = 2 * (n * (n - 1))) && (List.range NN).all (bitOk n W I)
def gridOk (n : Nat) : Bool := gridOkW n (wholeUp n n) (insideOf n (wholeUp n n))
theorem grid_all : ((List.range 11).all fun n => gridOk (n + 1)) = true := by decide +kernel

theorem grid_ok {n : Nat} (h1 : 1 ≤ n) (h2 : n ≤ 11) : gridOk n = true := by
  have := List.all_eq_true.mp grid_all (n - 1) (List.mem_range.mpr (by omega))
  rwa [show n - 1 + 1 = n by omega] at this

structure Grid (n W I : Nat) : Prop where
  lt : W < 2 ^ NN
  one : W.testBit 1 = true
  cells : ((List.range NN).filter W.testBit).length = n * n
  inners : ((List.range NN).filter (inner W (n + 1))).length = (n - 1) * (n - 1)
  edges : (edges W (n + 1) NN).length = 2 * (n * (n - 1))
  back : ∀ i, W.testBit i = true → i = 1 ∨ (1 ≤ i ∧ W.testBit (i - 1) = true) ∨ (n + 1 ≤ i ∧ W.testBit (i - (n + 1)) = true)
  inside : ∀ i, I.testBit i = true → W.testBit i = true ∧ inner W (n + 1) i = true ∧ inner W (n + 1) (i + 1) = true ∧ inner W (n + 1) (i + (n + 1)) = true ∧ inner W (n + 1) (i + (n + 1) + 1) = true
  edge : ∀ i, W.testBit i = true → I.testBit i = false → inner W (n + 1) i = false ∨ inner W (n + 1) (i + 1) = false ∨ inner W (n + 1) (i + (n + 1)) = false ∨ inner W (n + 1) (i + (n + 1) + 1) = false
theorem bit_lt {W N i : Nat} (hW : W < 2 ^ N) (h : W.testBit i = true) : i < N := by
  by_cases hi : i < N
  · exact hi
  · have := Nat.testBit_lt_two_pow (Nat.lt_of_lt_of_le hW (Nat.pow_le_pow_right (by decide) (show N ≤ i by omega)))
    rw [h] at this; cases this
theorem grid_of {n : Nat} (h1 : 1 ≤ n) (h2 : n ≤ 11) : Grid n (wholeUp n n) (insideOf n (wholeUp n n)) := by
  have h := grid_ok h1 h2
  have hlt : wholeUp n n < 2 ^ NN := Nat.lt_trans (lt_200 h2 (Nat.le_refl _) (wholeUp_lt n n)) (by decide)
  unfold gridOk at h
  have hI : insideOf n (wholeUp n n) < 2 ^ NN := by
    unfold insideOf
    refine Nat.lt_of_le_of_lt Nat.and_le_left (Nat.lt_of_le_of_lt Nat.and_le_left (Nat.lt_of_le_of_lt Nat.and_le_left (Nat.lt_of_le_of_lt Nat.and_le_left hlt)))
  generalize wholeUp n n = W at h hlt hI
  generalize insideOf n W = I at h hI
  unfold gridOkW at h
  simp only [Bool.and_eq_true, decide_eq_true_eq] at h
  obtain ⟨⟨⟨⟨a1, a2⟩, a3⟩, a4⟩, a5⟩ := h
  have bit : ∀ i, i < NN → bitOk n W I i = true := fun i hi => List.all_eq_true.mp a5 i (List.mem_range.mpr hi)
  refine ⟨hlt, a1, a2, a3, a4, fun i hi => ?_, fun i hi => ?_, fun i hi hn => ?_⟩
  · have := bit i (bit_lt hlt hi)
    unfold bitOk at this
    simp only [Bool.and_eq_true, Bool.or_eq_true, Bool.not_eq_true', beq_iff_eq, decide_eq_true_eq, hi] at this
    have := this.1.1
    simpa [or_assoc] using this
  · have := bit i (bit_lt hI hi)
    unfold bitOk at this
    simp only [Bool.and_eq_true, Bool.or_eq_true, Bool.not_eq_true', hi] at this
    have := this.1.2
    simpa [and_assoc] using this
  · have := bit i (bit_lt hlt hi)
    unfold bitOk at this
    have := (Bool.and_eq_true_iff.mp this).2
    rw [hi, hn] at this
    revert this
    cases inner W (n + 1) i <;> cases inner W (n + 1) (i + 1) <;> cases inner W (n + 1) (i + (n + 1)) <;> cases inner W (n + 1) (i + (n + 1) + 1) <;> simp

section
variable {n W I : Nat} (G : Grid n W I)
def VP (W : Nat) (x : Nat) : Prop := W.testBit x = true
def VD (W w : Nat) (y : Nat) : Prop := y = 0 ∨ inner W w y = true
include G
theorem one_primal (l : List (Bool × Nat)) (hl : ∀ e, e ∈ edges W (n + 1) NN → e ∈ l) : Cls (VP W) (Con (On (l.map (eP (n + 1))))) 1 := by
  refine cls_one (a := 1) G.one fun x hx => ?_
  induction x using Nat.strongRecOn with
  | ind x ih =>
    have hxN := bit_lt G.lt hx
    rcases G.back x hx with rfl | ⟨h1, h2⟩ | ⟨h1, h2⟩
    · exact .refl
    · refine (ih (x - 1) (by omega) h2).step (.inl (List.mem_map.mpr ⟨(false, x - 1), hl _ (List.mem_filter.mpr ⟨?_, ?_⟩), ?_⟩))
      · exact List.mem_append.mpr (.inl (List.mem_map.mpr ⟨_, List.mem_range.mpr (by omega), rfl⟩))
      · show (W.testBit (x - 1) && W.testBit (x - 1 + 1)) = true
        rw [show x - 1 + 1 = x by omega, h2, hx]; rfl
      · show (x - 1, x - 1 + 1) = (x - 1, x)
        rw [show x - 1 + 1 = x by omega]
    · refine (ih (x - (n + 1)) (by omega) h2).step (.inl (List.mem_map.mpr ⟨(true, x - (n + 1)), hl _ (List.mem_filter.mpr ⟨?_, ?_⟩), ?_⟩))
      · exact List.mem_append.mpr (.inr (List.mem_map.mpr ⟨_, List.mem_range.mpr (by omega), rfl⟩))
      · show (W.testBit (x - (n + 1)) && W.testBit (x - (n + 1) + (n + 1))) = true
        rw [show x - (n + 1) + (n + 1) = x by omega, h2, hx]; rfl
      · show (x - (n + 1), x - (n + 1) + (n + 1)) = (x - (n + 1), x)
        rw [show x - (n + 1) + (n + 1) = x by omega]
theorem one_dual (l : List (Bool × Nat)) (hl : ∀ e, e ∈ edges W (n + 1) NN → e ∈ l) : Cls (VD W (n + 1)) (Con (On (l.map (eD W (n + 1))))) 1 := by
  refine cls_one (a := 0) (.inl rfl) fun x hx => ?_
  induction x using Nat.strongRecOn with
  | ind x ih =>
    rcases hx with rfl | hx
    · exact .refl
    · obtain ⟨b0, b1, b2, b3, b4⟩ := inner_bits hx
      have hxN := bit_lt G.lt b1
      have hc : Con (On (l.map (eD W (n + 1)))) 0 (nrm W (n + 1) (x - 1)) := by
        cases e : inner W (n + 1) (x - 1) with
        | false => rw [outer_zero e]; exact .refl
        | true =>
          have : nrm W (n + 1) (x - 1) = x - 1 := by unfold nrm; rw [e]; rfl
          rw [this]; exact ih (x - 1) (by omega) (.inr e)
      refine hc.step (.inl (List.mem_map.mpr ⟨(true, x - (n + 1) - 1), hl _ (List.mem_filter.mpr ⟨?_, ?_⟩), ?_⟩))
      · exact List.mem_append.mpr (.inr (List.mem_map.mpr ⟨_, List.mem_range.mpr (by omega), rfl⟩))
      · show (W.testBit (x - (n + 1) - 1) && W.testBit (x - (n + 1) - 1 + (n + 1))) = true
        rw [show x - (n + 1) - 1 + (n + 1) = x - 1 by omega, b4, b2]; rfl
      · show (nrm W (n + 1) (x - (n + 1) - 1 + (n + 1)), nrm W (n + 1) (x - (n + 1) - 1 + (n + 1) + 1)) = (nrm W (n + 1) (x - 1), x)
        rw [show x - (n + 1) - 1 + (n + 1) = x - 1 by omega, show x - 1 + 1 = x by omega]
        have : nrm W (n + 1) x = x := by unfold nrm; rw [hx]; rfl
        rw [this]
theorem vp_list (x : Nat) : VP W x ↔ x ∈ (List.range NN).filter W.testBit :=
  ⟨fun h => List.mem_filter.mpr ⟨List.mem_range.mpr (bit_lt G.lt h), h⟩, fun h => (List.mem_filter.mp h).2⟩
theorem vd_list (x : Nat) : VD W (n + 1) x ↔ x ∈ 0 :: (List.range NN).filter (inner W (n + 1)) :=
  ⟨fun h => by
    rcases h with rfl | h
    · exact .head _
    · exact .tail _ (List.mem_filter.mpr ⟨List.mem_range.mpr (bit_lt G.lt (inner_bits h).2.1), h⟩), fun h => by
    rcases List.mem_cons.mp h with rfl | h
    · exact .inl rfl
    · exact .inr (List.mem_filter.mp h).2⟩
theorem vd_nodup : (0 :: (List.range NN).filter (inner W (n + 1))).Nodup := by
  refine List.nodup_cons.mpr ⟨fun h => ?_, List.Nodup.sublist List.filter_sublist List.nodup_range⟩
  have := outer_low (W := W) (w := n + 1) (k := 0) (by omega)
  rw [(List.mem_filter.mp h).2] at this; cases this
omit G
theorem vd_ends (e : Bool × Nat) : VD W (n + 1) (eD W (n + 1) e).1 ∧ VD W (n + 1) (eD W (n + 1) e).2 := by
  have q : ∀ k, VD W (n + 1) (nrm W (n + 1) k) := fun k => by
    unfold nrm; cases e : inner W (n + 1) k
    · exact .inl rfl
    · exact .inr e
  unfold eD; split
  · exact ⟨q _, q _⟩
  · exact ⟨q _, q _⟩
theorem vp_ends {e : Bool × Nat} (h : e ∈ edges W (n + 1) NN) : VP W (eP (n + 1) e).1 ∧ VP W (eP (n + 1) e).2 := by
  have := (List.mem_filter.mp h).2
  unfold isE at this; exact Bool.and_eq_true_iff.mp this
include G
theorem euler_rk (X : Nat) : ∃ kP kD, Cls (VP W) (Con (On (((edges W (n + 1) NN).filter (inX (n + 1) X)).reverse.map (eP (n + 1))))) kP ∧
    Cls (VD W (n + 1)) (Con (On (((edges W (n + 1) NN).filter (fun e => !inX (n + 1) X e)).map (eD W (n + 1))))) kD ∧ kD + n * n = ((edges W (n + 1) NN).filter (inX (n + 1) X)).length + 1 + kP := by
  have hperm : (edgesX W (n + 1) X NN).Perm (edges W (n + 1) NN) := List.filter_append_perm ..
  have H : Alt (eP (n + 1)) (eD W (n + 1)) (edgesX W (n + 1) X NN) := alt (by omega) G.lt X
  have hsubA : ∀ e ∈ (edges W (n + 1) NN).filter (inX (n + 1) X), e ∈ edges W (n + 1) NN := fun e h => (List.mem_filter.mp h).1
  have hLlen : (edgesX W (n + 1) X NN).length = 2 * (n * (n - 1)) := hperm.length_eq.trans G.edges
  have hLe : edgesX W (n + 1) X NN = (edges W (n + 1) NN).filter (inX (n + 1) X) ++ (edges W (n + 1) NN).filter (fun e => !inX (n + 1) X e) := rfl
  have hmem : ∀ e, e ∈ edges W (n + 1) NN → e ∈ edgesX W (n + 1) X NN := fun e he => hperm.mem_iff.mpr he
  generalize hA : (edges W (n + 1) NN).filter (inX (n + 1) X) = A at hLe hsubA ⊢
  generalize hB : (edges W (n + 1) NN).filter (fun e => !inX (n + 1) X e) = B at hLe ⊢
  have hall : ∀ e ∈ edgesX W (n + 1) X NN, e ∈ edges W (n + 1) NN := fun e he => hperm.mem_iff.mp he
  generalize edgesX W (n + 1) X NN = L at H hLlen hLe hmem hall
  have up := zip_up H B A.reverse (by rw [hLe]; simp)
  have down := zip_down H A.reverse B (by rw [hLe]; simp)
  -- the ranks
  have pm : ∀ l : List (Bool × Nat), (∀ e ∈ l, e ∈ edges W (n + 1) NN) → ∀ e ∈ l.map (eP (n + 1)), VP W e.1 ∧ VP W e.2 := fun l hl e he => by
    obtain ⟨e', he', rfl⟩ := List.mem_map.mp he
    exact vp_ends (hl _ he')
  have dm : ∀ l : List (Bool × Nat), ∀ e ∈ l.map (eD W (n + 1)), VD W (n + 1) e.1 ∧ VD W (n + 1) e.2 := fun l e he => by
    obtain ⟨e', he', rfl⟩ := List.mem_map.mp he
    exact vd_ends _
  have hnd : ((List.range NN).filter W.testBit).Nodup := List.Nodup.sublist List.filter_sublist List.nodup_range
  obtain ⟨kP, hP, sP⟩ := cls_rk _ (vp_list G) hnd (A.reverse.map (eP (n + 1))) (pm _ fun e he => hsubA e (List.mem_reverse.mp he))
  obtain ⟨kD, hD, sD⟩ := cls_rk _ (vd_list G) (vd_nodup G) (B.map (eD W (n + 1))) (dm _)
  obtain ⟨k1, h1, s1⟩ := cls_rk _ (vp_list G) hnd ((B.reverse ++ A.reverse).map (eP (n + 1))) (pm _ fun e he => hall e (by
    rw [hLe]; rcases List.mem_append.mp he with h | h
    · exact List.mem_append.mpr (.inr (List.mem_reverse.mp h))
    · exact List.mem_append.mpr (.inl (List.mem_reverse.mp h))))
  obtain ⟨k2, h2, s2⟩ := cls_rk _ (vd_list G) (vd_nodup G) (L.map (eD W (n + 1))) (dm _)
  have u1 := h1.uniq (one_primal G _ fun e he => by
    have := hmem e he
    rw [hLe] at this
    rcases List.mem_append.mp this with h | h
    · exact List.mem_append.mpr (.inr (List.mem_reverse.mpr h))
    · exact List.mem_append.mpr (.inl (List.mem_reverse.mpr h)))
  have u2 := h2.uniq (one_dual G _ hmem)
  refine ⟨kP, kD, hP, hD, ?_⟩
  rw [G.cells] at s1 sP
  rw [List.length_cons, G.inners] at s2 sD
  rw [List.length_reverse] at down
  have hlen : A.length + B.length = 2 * (n * (n - 1)) := by rw [← hLlen, hLe, List.length_append]
  have hn : 1 ≤ n := by
    have := bit_lt G.lt G.one
    cases n with
    | zero => omega
    | succ n => omega
  obtain ⟨m, rfl⟩ : ∃ m, n = m + 1 := ⟨n - 1, by omega⟩
  have q1 : (m + 1) * (m + 1) = m * m + 2 * m + 1 := by rw [Nat.add_mul, Nat.mul_add]; omega
  have q2 : (m + 1) * (m + 1 - 1) = m * m + m := by rw [Nat.add_sub_cancel, Nat.add_mul]; omega
  have q3 : (m + 1 - 1) * (m + 1 - 1) = m * m := by rw [Nat.add_sub_cancel]
  rw [q1] at s1 sP ⊢
  rw [q2] at hlen
  rw [q3] at s2 sD
  omega
end
end Mine
end

section
set_option linter.unusedVariables false
set_option linter.unusedSectionVars false
set_option maxRecDepth 100000
namespace Mine

def Adj (ss : List Nat) (c u v : Nat) : Prop := c.testBit u = true ∧ c.testBit v = true ∧ ∃ s ∈ ss, v = u + s
theorem two_bit {i j : Nat} : (2 ^ i).testBit j = true ↔ i = j := by rw [Nat.testBit_two_pow]; simp
theorem reach_con {ss : List Nat} {c i j : Nat} (hi : c.testBit i = true) : Reach c ss (2 ^ i) j ↔ Con (Adj ss c) i j := by
  have sub : ∀ j, (2 ^ i).testBit j = true → c.testBit j = true := fun j h => by rw [← two_bit.mp h]; exact hi
  constructor
  · intro h
    induction h with
    | base h => rw [two_bit.mp h]; exact .refl
    | step h hs hj hc ih =>
      have h' := Reach.sub sub h
      rcases hj with rfl | rfl
      · exact ih.step (.inl ⟨h', hc, _, hs, rfl⟩)
      · exact ih.step (.inr ⟨hc, h', _, hs, rfl⟩)
  · intro h
    induction h with
    | refl => exact .base (two_bit.mpr rfl)
    | step _ r ih =>
      rcases r with ⟨_, hc, s, hs, rfl⟩ | ⟨hc, _, s, hs, rfl⟩
      · exact .step ih hs (.inl rfl) hc
      · exact .step ih hs (.inr rfl) hc

theorem pieces_cls {ss : List Nat} {c k : Nat} (h : PiecesIs ss c k) : Cls (VP c) (Con (Adj ss c)) k := by
  induction h with
  | zero => exact ⟨[], rfl, by simp, by simp, fun x hx => by simp [VP] at hx⟩
  | @step c q i n hi hq _ ih =>
    obtain ⟨l, rfl, hv, hp, hr⟩ := ih
    have hq' : ∀ j, q.testBit j = true ↔ Con (Adj ss c) i j := fun j => (hq j).trans (reach_con hi)
    have qc : ∀ j, q.testBit j = true → c.testBit j = true := fun j h => Reach.sub (fun j h => by rw [← two_bit.mp h]; exact hi) ((hq j).mp h)
    have vx : ∀ x, VP (c ^^^ q) x ↔ (c.testBit x = true ∧ ¬ q.testBit x = true) := fun x => by
      unfold VP; rw [Nat.testBit_xor]
      have := qc x
      cases h1 : c.testBit x <;> cases h2 : q.testBit x <;> simp_all
    have stay : ∀ {x y}, VP (c ^^^ q) x → Con (Adj ss c) x y → VP (c ^^^ q) y ∧ Con (Adj ss (c ^^^ q)) x y := fun {x y} hx h => by
      induction h with
      | refl => exact ⟨hx, .refl⟩
      | @step y z hxy r ih =>
        obtain ⟨i1, i2⟩ := ih
        have hz : VP (c ^^^ q) z := by
          have hcz : c.testBit z = true := by
            rcases r with ⟨_, h, _⟩ | ⟨h, _⟩ <;> exact h
          refine (vx z).mpr ⟨hcz, fun hqz => ((vx y).mp i1).2 ((hq' y).mpr (((hq' z).mp hqz).step r.symm))⟩
        refine ⟨hz, i2.step ?_⟩
        rcases r with ⟨_, _, r⟩ | ⟨_, _, r⟩
        · exact .inl ⟨i1, hz, r⟩
        · exact .inr ⟨hz, i1, r⟩
    refine ⟨i :: l, rfl, ?_, List.pairwise_cons.mpr ⟨fun x hx h => ((vx x).mp (hv x hx)).2 ((hq' x).mpr h), hp.imp_of_mem fun hx hy hn h => hn (stay (hv _ hx) h).2⟩, fun x hx => ?_⟩
    · intro x hx
      rcases List.mem_cons.mp hx with rfl | hx
      · exact hi
      · exact ((vx x).mp (hv x hx)).1
    · by_cases hqx : q.testBit x = true
      · exact ⟨i, .head _, (hq' x).mp hqx⟩
      · obtain ⟨y, hy, h⟩ := hr x ((vx x).mpr ⟨hx, hqx⟩)
        refine ⟨y, .tail _ hy, h.mono fun u v ⟨h1, h2, r⟩ => ⟨((vx u).mp h1).1, ((vx v).mp h2).1, r⟩⟩

theorem con_in {ss : List Nat} {c x y : Nat} (h : Con (Adj ss c) x y) (hx : c.testBit x = true) : c.testBit y = true :=
  (Con.closed (K := fun z => c.testBit z = true) (fun u v ⟨h1, h2, _⟩ => ⟨fun _ => h2, fun _ => h1⟩) h).mp hx
theorem con_out {ss : List Nat} {c x y : Nat} (h : Con (Adj ss c) x y) (hx : ¬ c.testBit x = true) : y = x :=
  (Con.closed (K := fun z => z = x) (fun u v ⟨h1, h2, _⟩ => ⟨fun e => absurd (e ▸ h1) hx, fun e => absurd (e ▸ h2) hx⟩) h).mp rfl
theorem Cls.congr {α : Type} {V : α → Prop} {Q Q' : α → α → Prop} {k : Nat} (h : Cls V Q k) (hq : ∀ x y, Q x y ↔ Q' x y) : Cls V Q' k := by
  have : Q = Q' := by funext x y; exact propext (hq x y)
  rw [← this]; exact h

section
variable {n W I X Y : Nat} (G : Grid n W I)
include G
/-- the cells and the like neighbours -/
theorem primal_cls (hX : ∀ i, X.testBit i = true → W.testBit i = true) {k : Nat} (h : PiecesIs [1, n + 1] X k) :
    Cls (VP W) (Con (On (((edges W (n + 1) NN).filter (inX (n + 1) X)).reverse.map (eP (n + 1))))) (k + ((List.range NN).filter (fun i => W.testBit i && !X.testBit i)).length) := by
  have hc := pieces_cls h
  have h1 : Cls (VP W) (Con (Adj [1, n + 1] X)) (k + ((List.range NN).filter (fun i => W.testBit i && !X.testBit i)).length) := by
    obtain ⟨l, rfl, hv, hp, hr⟩ := hc
    have hy : ∀ y ∈ (List.range NN).filter (fun i => W.testBit i && !X.testBit i), W.testBit y = true ∧ ¬ X.testBit y = true := fun y hy => by
      have := (List.mem_filter.mp hy).2
      rw [Bool.and_eq_true] at this
      exact ⟨this.1, by simpa using this.2⟩
    refine ⟨l ++ (List.range NN).filter (fun i => W.testBit i && !X.testBit i), by rw [List.length_append], ?_, List.pairwise_append.mpr ⟨hp, ?_, fun x hx y h' hcon => (hy y h').2 (con_in hcon (hv x hx))⟩, fun x hx => ?_⟩
    · intro x hx
      rcases List.mem_append.mp hx with h | h
      · exact hX x (hv x h)
      · exact (hy x h).1
    · have hnd : ((List.range NN).filter (fun i => W.testBit i && !X.testBit i)).Nodup := List.Nodup.sublist List.filter_sublist List.nodup_range
      exact List.Pairwise.imp_of_mem (fun {a b} ha hb hne h => hne (con_out h (hy a ha).2).symm) hnd
    · by_cases hx' : X.testBit x = true
      · obtain ⟨y, hy, h⟩ := hr x hx'
        exact ⟨y, List.mem_append.mpr (.inl hy), h⟩
      · exact ⟨x, List.mem_append.mpr (.inr (List.mem_filter.mpr ⟨List.mem_range.mpr (bit_lt G.lt hx), by have hx2 : W.testBit x = true := hx; simp [hx2, hx']⟩)), .refl⟩
  refine h1.congr fun x y => ⟨fun h => h.mono (fun u v hm => ?_), fun h => h.mono (fun u v hm => ?_)⟩
  · obtain ⟨a, b, s, hs, e⟩ := hm
    subst e
    have hlt := bit_lt G.lt (hX u a)
    simp only [List.mem_cons, List.not_mem_nil, or_false] at hs
    rcases hs with rfl | rfl
    · refine List.mem_map.mpr ⟨(false, u), List.mem_reverse.mpr (List.mem_filter.mpr ⟨List.mem_filter.mpr ⟨List.mem_append.mpr (.inl (List.mem_map.mpr ⟨u, List.mem_range.mpr hlt, rfl⟩)), ?_⟩, ?_⟩), rfl⟩
      · show (W.testBit u && W.testBit (u + 1)) = true
        rw [hX u a, hX _ b]; rfl
      · show (X.testBit u && X.testBit (u + 1)) = true
        rw [a, b]; rfl
    · refine List.mem_map.mpr ⟨(true, u), List.mem_reverse.mpr (List.mem_filter.mpr ⟨List.mem_filter.mpr ⟨List.mem_append.mpr (.inr (List.mem_map.mpr ⟨u, List.mem_range.mpr hlt, rfl⟩)), ?_⟩, ?_⟩), rfl⟩
      · show (W.testBit u && W.testBit (u + (n + 1))) = true
        rw [hX u a, hX _ b]; rfl
      · show (X.testBit u && X.testBit (u + (n + 1))) = true
        rw [a, b]; rfl
  · obtain ⟨⟨b, i⟩, he, e⟩ := List.mem_map.mp hm
    have := (List.mem_filter.mp (List.mem_reverse.mp he)).2
    unfold inX at this
    rw [Bool.and_eq_true, e] at this
    refine ⟨this.1, this.2, ?_⟩
    cases b
    · cases e; exact ⟨1, by simp, rfl⟩
    · cases e; exact ⟨n + 1, by simp, rfl⟩
end

/-- a corner of a cell -/
def Tch (w k y : Nat) : Prop := k = y ∨ k = y + 1 ∨ k = y + w ∨ k = y + w + 1
theorem share {n k u v : Nat} (h1 : Tch (n + 1) k u) (h2 : Tch (n + 1) k v) : u = v ∨ ∃ s ∈ aroundL n, v = u + s ∨ u = v + s := by
  have : u = v ∨ (v = u + 1 ∨ u = v + 1) ∨ (v = u + n ∨ u = v + n) ∨ (v = u + (n + 1) ∨ u = v + (n + 1)) ∨ (v = u + (n + 1 + 1) ∨ u = v + (n + 1 + 1)) := by
    unfold Tch at h1 h2; omega
  rcases this with h | h | h | h | h
  · exact .inl h
  · exact .inr ⟨1, by simp [aroundL], h⟩
  · exact .inr ⟨n, by simp [aroundL], h⟩
  · exact .inr ⟨n + 1, by simp [aroundL], h⟩
  · exact .inr ⟨n + 1 + 1, by simp [aroundL], h⟩
theorem shared {n u s : Nat} (hs : s ∈ aroundL n) : ∃ k, Tch (n + 1) k u ∧ Tch (n + 1) k (u + s) := by
  simp only [aroundL, List.mem_cons, List.not_mem_nil, or_false] at hs
  rcases hs with rfl | rfl | rfl | rfl
  · exact ⟨u + 1, .inr (.inl rfl), .inl rfl⟩
  · exact ⟨u + (s + 1), .inr (.inr (.inl rfl)), .inr (.inl (by omega))⟩
  · exact ⟨u + (n + 1), .inr (.inr (.inl rfl)), .inl rfl⟩
  · exact ⟨u + (n + 1) + 1, .inr (.inr (.inr rfl)), .inl (by omega)⟩
theorem nrm_in {W w k : Nat} (h : inner W w k = true) : nrm W w k = k := by unfold nrm; rw [h]; rfl
theorem inner_zero {W w : Nat} : inner W w 0 = false := outer_low (Nat.zero_le _)
theorem nrm_inner {W w k : Nat} (h : inner W w (nrm W w k) = true) : inner W w k = true := by
  cases e : inner W w k with
  | true => rfl
  | false => rw [outer_zero e, inner_zero] at h; cases h
/-- both corners of a neighbours' side touch both -/
theorem eD_tch (W : Nat) {n : Nat} (e : Bool × Nat) : ∃ k1 k2, eD W (n + 1) e = (nrm W (n + 1) k1, nrm W (n + 1) k2) ∧ Tch (n + 1) k1 (eP (n + 1) e).1 ∧ Tch (n + 1) k2 (eP (n + 1) e).1 ∧ Tch (n + 1) k1 (eP (n + 1) e).2 ∧ Tch (n + 1) k2 (eP (n + 1) e).2 := by
  obtain ⟨b, i⟩ := e
  cases b
  · exact ⟨i + 1, i + 1 + (n + 1), rfl, by simp [Tch, eP], by simp [Tch, eP]; omega, by simp [Tch, eP], by simp [Tch, eP]⟩
  · exact ⟨i + (n + 1), i + (n + 1) + 1, rfl, by simp [Tch, eP], by simp [Tch, eP], by simp [Tch, eP], by simp [Tch, eP]⟩
/-- a corner with four like cells about it -/
def allX (W w X k : Nat) : Bool := inner W w k && X.testBit k && X.testBit (k - 1) && X.testBit (k - w) && X.testBit (k - w - 1)
end Mine
end

section
set_option linter.unusedVariables false
set_option linter.unusedSectionVars false
set_option maxRecDepth 100000
namespace Mine

/-- two colours; of the one those that reach the edge -/
structure Two (n W I X Y q : Nat) : Prop where
  all : ∀ i, W.testBit i = true ↔ (X.testBit i = true ∨ Y.testBit i = true)
  no : ∀ i, X.testBit i = true → ¬ Y.testBit i = true
  seen : ∀ i, q.testBit i = true ↔ Reach Y (aroundL n) (Y &&& (W ^^^ I)) i

section
variable {n W I X Y q : Nat} (G : Grid n W I) (T : Two n W I X Y q)
include G T
theorem Two.y {i : Nat} (h : Y.testBit i = true) : W.testBit i = true := (T.all i).mpr (.inr h)
theorem Two.qy {i : Nat} (h : q.testBit i = true) : Y.testBit i = true := Reach.sub (fun j h => by rw [Nat.testBit_and, Bool.and_eq_true] at h; exact h.1) ((T.seen i).mp h)
theorem Two.hid (i : Nat) : (Y ^^^ q).testBit i = true ↔ (Y.testBit i = true ∧ ¬ q.testBit i = true) := by
  rw [Nat.testBit_xor]
  have := T.qy (i := i) G
  cases h1 : Y.testBit i <;> cases h2 : q.testBit i <;> simp_all
theorem Two.start {i : Nat} (h : Y.testBit i = true) (hI : ¬ I.testBit i = true) : q.testBit i = true := (T.seen i).mpr (.base (by
  rw [Nat.testBit_and, Nat.testBit_xor, h, T.y G h]; simpa using hI))
theorem Two.hidI {i : Nat} (h : (Y ^^^ q).testBit i = true) : I.testBit i = true := by
  obtain ⟨h1, h2⟩ := (T.hid G i).mp h
  by_cases hI : I.testBit i = true
  · exact hI
  · exact absurd (T.start G h1 hI) h2
theorem Two.clo {u v s : Nat} (h : q.testBit u = true) (hv : Y.testBit v = true) (hs : s ∈ aroundL n) (he : v = u + s ∨ u = v + s) : q.testBit v = true :=
  (T.seen v).mpr (.step ((T.seen u).mp h) hs he hv)
abbrev BB (n W X : Nat) : Nat → Nat → Prop := On (((edges W (n + 1) NN).filter (fun e => !inX (n + 1) X e)).map (eD W (n + 1)))
theorem Two.edgeB {e : Bool × Nat} (h1 : W.testBit (eP (n + 1) e).1 = true) (h2 : W.testBit (eP (n + 1) e).2 = true) (hy : Y.testBit (eP (n + 1) e).1 = true ∨ Y.testBit (eP (n + 1) e).2 = true) : BB n W X (eD W (n + 1) e).1 (eD W (n + 1) e).2 := by
  obtain ⟨b, i⟩ := e
  have hlt : i < NN := by
    have : (eP (n + 1) (b, i)).1 = i := by cases b <;> rfl
    rw [this] at h1; exact bit_lt G.lt h1
  refine List.mem_map.mpr ⟨(b, i), List.mem_filter.mpr ⟨List.mem_filter.mpr ⟨?_, ?_⟩, ?_⟩, rfl⟩
  · cases b
    · exact List.mem_append.mpr (.inl (List.mem_map.mpr ⟨i, List.mem_range.mpr hlt, rfl⟩))
    · exact List.mem_append.mpr (.inr (List.mem_map.mpr ⟨i, List.mem_range.mpr hlt, rfl⟩))
  · show (W.testBit _ && W.testBit _) = true
    rw [h1, h2]; rfl
  · show (!(X.testBit _ && X.testBit _)) = true
    rcases hy with hy | hy
    · cases hx : X.testBit (eP (n + 1) (b, i)).1 with
      | false => rfl
      | true => exact absurd hy (T.no _ hx)
    · cases hx : X.testBit (eP (n + 1) (b, i)).2 with
      | false => simp
      | true => exact absurd hy (T.no _ hx)
theorem Two.ofB {a b : Nat} (h : BB n W X a b) : ∃ k1 k2 p1 p2, a = nrm W (n + 1) k1 ∧ b = nrm W (n + 1) k2 ∧ Tch (n + 1) k1 p1 ∧ Tch (n + 1) k2 p1 ∧ Tch (n + 1) k1 p2 ∧ Tch (n + 1) k2 p2 ∧ W.testBit p1 = true ∧ W.testBit p2 = true ∧ (Y.testBit p1 = true ∨ Y.testBit p2 = true) := by
  obtain ⟨e, he, hab⟩ := List.mem_map.mp h
  obtain ⟨k1, k2, hk, t1, t2, t3, t4⟩ := eD_tch (n := n) W e
  rw [hk] at hab
  cases hab
  obtain ⟨h1, h2⟩ := List.mem_filter.mp he
  have h3 := (List.mem_filter.mp h1).2
  unfold isE at h3
  rw [Bool.and_eq_true] at h3
  refine ⟨k1, k2, _, _, rfl, rfl, t1, t2, t3, t4, h3.1, h3.2, ?_⟩
  rcases (T.all _).mp h3.1 with hx | hy
  · rcases (T.all _).mp h3.2 with hx' | hy'
    · have h2' : (!(X.testBit (eP (n + 1) e).1 && X.testBit (eP (n + 1) e).2)) = true := h2
      rw [hx, hx'] at h2'; cases h2'
    · exact .inr hy'
  · exact .inl hy

/-- a cell's corners hang together -/
theorem Two.join {y k : Nat} (hy : Y.testBit y = true) (ht : Tch (n + 1) k y) : Con (BB n W X) (nrm W (n + 1) y) (nrm W (n + 1) k) := by
  have hyW := T.y G hy
  have none : ∀ {a b}, inner W (n + 1) a = false → inner W (n + 1) b = false → Con (BB n W X) (nrm W (n + 1) a) (nrm W (n + 1) b) := fun h1 h2 => by
    rw [outer_zero h1, outer_zero h2]; exact .refl
  have no : ∀ {k}, ¬ (inner W (n + 1) k = true) → inner W (n + 1) k = false := fun h => by simpa using h
  have cy : Con (BB n W X) (nrm W (n + 1) y) (nrm W (n + 1) (y + 1)) := by
    by_cases hc : n + 1 ≤ y ∧ W.testBit (y - (n + 1)) = true
    · have := T.edgeB G (e := (true, y - (n + 1))) hc.2 (by show W.testBit (y - (n + 1) + (n + 1)) = true; rw [show y - (n + 1) + (n + 1) = y by omega]; exact hyW) (.inr (by show Y.testBit (y - (n + 1) + (n + 1)) = true; rw [show y - (n + 1) + (n + 1) = y by omega]; exact hy))
      have h' : BB n W X (nrm W (n + 1) (y - (n + 1) + (n + 1))) (nrm W (n + 1) (y - (n + 1) + (n + 1) + 1)) := this
      rw [show y - (n + 1) + (n + 1) = y by omega] at h'
      exact .one h'
    · refine none (no fun h => ?_) (no fun h => ?_)
      · obtain ⟨b0, b1, b2, b3, b4⟩ := inner_bits h
        exact hc ⟨by omega, b3⟩
      · obtain ⟨b0, b1, b2, b3, b4⟩ := inner_bits h
        exact hc ⟨by omega, by rw [show y - (n + 1) = y + 1 - (n + 1) - 1 by omega]; exact b4⟩
  have cw : Con (BB n W X) (nrm W (n + 1) y) (nrm W (n + 1) (y + (n + 1))) := by
    by_cases hc : 1 ≤ y ∧ W.testBit (y - 1) = true
    · have := T.edgeB G (e := (false, y - 1)) hc.2 (by show W.testBit (y - 1 + 1) = true; rw [show y - 1 + 1 = y by omega]; exact hyW) (.inr (by show Y.testBit (y - 1 + 1) = true; rw [show y - 1 + 1 = y by omega]; exact hy))
      have h' : BB n W X (nrm W (n + 1) (y - 1 + 1)) (nrm W (n + 1) (y - 1 + 1 + (n + 1))) := this
      rw [show y - 1 + 1 = y by omega] at h'
      exact .one h'
    · refine none (no fun h => ?_) (no fun h => ?_)
      · obtain ⟨b0, b1, b2, b3, b4⟩ := inner_bits h
        exact hc ⟨by omega, b2⟩
      · obtain ⟨b0, b1, b2, b3, b4⟩ := inner_bits h
        exact hc ⟨by omega, by rw [show y - 1 = y + (n + 1) - (n + 1) - 1 by omega]; exact b4⟩
  have cd : Con (BB n W X) (nrm W (n + 1) (y + (n + 1))) (nrm W (n + 1) (y + (n + 1) + 1)) := by
    by_cases hc : W.testBit (y + (n + 1)) = true
    · exact .one (T.edgeB G (e := (true, y)) hyW hc (.inl hy))
    · refine none (no fun h => ?_) (no fun h => ?_)
      · obtain ⟨b0, b1, b2, b3, b4⟩ := inner_bits h
        exact hc b1
      · obtain ⟨b0, b1, b2, b3, b4⟩ := inner_bits h
        exact hc (by rw [show y + (n + 1) = y + (n + 1) + 1 - 1 by omega]; exact b2)
  rcases ht with rfl | rfl | rfl | rfl
  · exact .refl
  · exact cy
  · exact cw
  · exact cw.trans cd
theorem Two.near {u v s : Nat} (hu : Y.testBit u = true) (hv : Y.testBit v = true) (hs : s ∈ aroundL n) (he : v = u + s ∨ u = v + s) : Con (BB n W X) (nrm W (n + 1) u) (nrm W (n + 1) v) := by
  rcases he with rfl | rfl
  · obtain ⟨k, h1, h2⟩ := shared (u := u) hs
    exact (T.join G hu h1).trans (T.join G hv h2).symm
  · obtain ⟨k, h1, h2⟩ := shared (u := v) hs
    exact (T.join G hu h2).trans (T.join G hv h1).symm
theorem Two.edged {i : Nat} (h : q.testBit i = true) : Con (BB n W X) 0 (nrm W (n + 1) i) := by
  have hr := (T.seen i).mp h
  clear h
  induction hr with
  | base h =>
    rename_i i
    rw [Nat.testBit_and, Nat.testBit_xor, Bool.and_eq_true] at h
    have hW := T.y G h.1
    have hI : I.testBit i = false := by have := h.2; rw [hW] at this; simpa using this
    have fin : ∀ k, Tch (n + 1) k i → inner W (n + 1) k = false → Con (BB n W X) 0 (nrm W (n + 1) i) := fun k ht ho => by
      have := (T.join G h.1 ht).symm
      rwa [outer_zero ho] at this
    rcases G.edge i hW hI with e | e | e | e
    · exact fin _ (.inl rfl) e
    · exact fin _ (.inr (.inl rfl)) e
    · exact fin _ (.inr (.inr (.inl rfl))) e
    · exact fin _ (.inr (.inr (.inr rfl))) e
  | step h hs hj hc ih =>
    have h' := Reach.sub (fun j h => by rw [Nat.testBit_and, Bool.and_eq_true] at h; exact h.1) h
    exact ih.trans (T.near G h' hc hs hj)
theorem Two.hidden {u v : Nat} (h : Con (Adj (aroundL n) (Y ^^^ q)) u v) : Con (BB n W X) (nrm W (n + 1) u) (nrm W (n + 1) v) := by
  induction h with
  | refl => exact .refl
  | step _ r ih =>
    rcases r with ⟨h1, h2, s, hs, e⟩ | ⟨h1, h2, s, hs, e⟩
    · exact ih.trans (T.near G ((T.hid G _).mp h1).1 ((T.hid G _).mp h2).1 hs (.inl e))
    · exact ih.trans (T.near G ((T.hid G _).mp h2).1 ((T.hid G _).mp h1).1 hs (.inr e))

theorem Two.alone {x y : Nat} (hx : allX W (n + 1) X x = true) (h : Con (BB n W X) x y) : y = x := by
  unfold allX at hx
  simp only [Bool.and_eq_true] at hx
  obtain ⟨⟨⟨⟨x0, x1⟩, x2⟩, x3⟩, x4⟩ := hx
  have hxw := (inner_bits x0).1
  have touch : ∀ p, Tch (n + 1) x p → X.testBit p = true := fun p hp => by
    rcases hp with e | e | e | e
    · rw [← e]; exact x1
    · rw [show p = x - 1 by omega]; exact x2
    · rw [show p = x - (n + 1) by omega]; exact x3
    · rw [show p = x - (n + 1) - 1 by omega]; exact x4
  have key : ∀ a b, BB n W X a b → a ≠ x ∧ b ≠ x := fun a b hab => by
    obtain ⟨k1, k2, p1, p2, rfl, rfl, t1, t2, t3, t4, w1, w2, hy⟩ := T.ofB G hab
    constructor
    · intro e
      have hk : inner W (n + 1) k1 = true := nrm_inner (by rw [e]; exact x0)
      rw [nrm_in hk] at e; subst e
      rcases hy with hy | hy
      · exact T.no _ (touch _ t1) hy
      · exact T.no _ (touch _ t3) hy
    · intro e
      have hk : inner W (n + 1) k2 = true := nrm_inner (by rw [e]; exact x0)
      rw [nrm_in hk] at e; subst e
      rcases hy with hy | hy
      · exact T.no _ (touch _ t2) hy
      · exact T.no _ (touch _ t4) hy
  exact (Con.closed (K := fun z => z = x) (fun u v r => ⟨fun e => absurd e (key u v r).1, fun e => absurd e (key u v r).2⟩) h).mp rfl

/-- the corners of a hidden piece -/
def KK (n W Y q h k : Nat) : Prop := inner W (n + 1) k = true ∧ ∃ u, Tch (n + 1) k u ∧ (Y ^^^ q).testBit u = true ∧ Con (Adj (aroundL n) (Y ^^^ q)) h u
theorem Two.kk_near {h u p k : Nat} (hu : (Y ^^^ q).testBit u = true) (hc : Con (Adj (aroundL n) (Y ^^^ q)) h u) (t1 : Tch (n + 1) k u) (t2 : Tch (n + 1) k p) (hp : Y.testBit p = true) :
    (Y ^^^ q).testBit p = true ∧ Con (Adj (aroundL n) (Y ^^^ q)) h p := by
  rcases share t1 t2 with rfl | ⟨s, hs, e⟩
  · exact ⟨hu, hc⟩
  · have hhp : (Y ^^^ q).testBit p = true := (T.hid G p).mpr ⟨hp, fun hq => ((T.hid G u).mp hu).2 (T.clo G hq ((T.hid G u).mp hu).1 hs e.symm)⟩
    refine ⟨hhp, hc.step ?_⟩
    rcases e with e | e
    · exact .inl ⟨hu, hhp, s, hs, e⟩
    · exact .inr ⟨hhp, hu, s, hs, e⟩
theorem Two.kk_step {h k1 k2 p1 p2 : Nat} (t1 : Tch (n + 1) k1 p1) (t2 : Tch (n + 1) k2 p1) (t3 : Tch (n + 1) k1 p2) (t4 : Tch (n + 1) k2 p2) (hy : Y.testBit p1 = true ∨ Y.testBit p2 = true)
    (hk : KK n W Y q h (nrm W (n + 1) k1)) : KK n W Y q h (nrm W (n + 1) k2) := by
  obtain ⟨hi, u, tu, hu, hc⟩ := hk
  have hk1 := nrm_inner hi
  rw [nrm_in hk1] at tu
  have go : ∀ p, Tch (n + 1) k1 p → Tch (n + 1) k2 p → Y.testBit p = true → KK n W Y q h (nrm W (n + 1) k2) := fun p a b hp => by
    obtain ⟨hhp, hcp⟩ := T.kk_near G hu hc tu a hp
    obtain ⟨_, i1, i2, i3, i4⟩ := G.inside p (T.hidI G hhp)
    have hk2 : inner W (n + 1) k2 = true := by
      rcases b with rfl | rfl | rfl | rfl
      · exact i1
      · exact i2
      · exact i3
      · exact i4
    rw [nrm_in hk2]
    exact ⟨hk2, p, b, hhp, hcp⟩
  rcases hy with hy | hy
  · exact go p1 t1 t2 hy
  · exact go p2 t3 t4 hy
theorem Two.kk {h a b : Nat} (hc : Con (BB n W X) a b) : KK n W Y q h a ↔ KK n W Y q h b :=
  Con.closed (fun u v r => by
    obtain ⟨k1, k2, p1, p2, rfl, rfl, t1, t2, t3, t4, w1, w2, hy⟩ := T.ofB G r
    exact ⟨T.kk_step G t1 t2 t3 t4 hy, T.kk_step G t2 t1 t4 t3 hy⟩) hc

theorem Two.cls {k2 : Nat} (hp : PiecesIs (aroundL n) (Y ^^^ q) k2) : Cls (VD W (n + 1)) (Con (BB n W X)) (1 + (((List.range NN).filter (allX W (n + 1) X)).length + k2)) := by
  obtain ⟨l, rfl, hv, hpw, hr⟩ := pieces_cls hp
  have sqs : ∀ x ∈ (List.range NN).filter (allX W (n + 1) X), allX W (n + 1) X x = true := fun x hx => (List.mem_filter.mp hx).2
  have allIn : ∀ {x}, allX W (n + 1) X x = true → inner W (n + 1) x = true := fun h => by
    unfold allX at h; simp only [Bool.and_eq_true] at h; exact h.1.1.1.1
  have allX1 : ∀ {x}, allX W (n + 1) X x = true → X.testBit x = true := fun h => by
    unfold allX at h; simp only [Bool.and_eq_true] at h; exact h.1.1.1.2
  have hin : ∀ y ∈ l, inner W (n + 1) y = true := fun y hy => (G.inside y (T.hidI G (hv y hy))).2.1
  have nz : ∀ {x}, inner W (n + 1) x = true → x ≠ 0 := fun h e => by rw [e, inner_zero] at h; cases h
  have kh : ∀ y ∈ l, KK n W Y q y y := fun y hy => ⟨hin y hy, y, .inl rfl, hv y hy, .refl⟩
  refine ⟨0 :: ((List.range NN).filter (allX W (n + 1) X) ++ l), by simp; omega, ?_, List.pairwise_cons.mpr ⟨fun x hx h => ?_, List.pairwise_append.mpr ⟨?_, ?_, fun x hx y hy h => ?_⟩⟩, fun x hx => ?_⟩
  · intro x hx
    rcases List.mem_cons.mp hx with rfl | hx
    · exact .inl rfl
    rcases List.mem_append.mp hx with hx | hx
    · exact .inr (allIn (sqs x hx))
    · exact .inr (hin x hx)
  · rcases List.mem_append.mp hx with hx | hx
    · exact nz (allIn (sqs x hx)) (T.alone G (sqs x hx) h.symm).symm
    · have := ((T.kk G h).mpr (kh x hx)).1
      rw [inner_zero] at this; cases this
  · have hnd : ((List.range NN).filter (allX W (n + 1) X)).Nodup := List.Nodup.sublist List.filter_sublist List.nodup_range
    exact List.Pairwise.imp_of_mem (fun {a b} ha hb hne h => hne (T.alone G (sqs a ha) h).symm) hnd
  · refine List.Pairwise.imp_of_mem (fun {a b} ha hb hne h => ?_) hpw
    obtain ⟨_, u, tu, hu, hc⟩ := (T.kk G h).mp (kh a ha)
    have := T.kk_near G hu hc tu (.inl rfl) ((T.hid G b).mp (hv b hb)).1
    exact hne this.2
  · have := T.alone G (sqs x hx) h
    subst this
    exact T.no _ (allX1 (sqs y hx)) ((T.hid G _).mp (hv _ hy)).1
  · rcases hx with rfl | hx
    · exact ⟨0, .head _, .refl⟩
    · cases ha : allX W (n + 1) X x with
      | true => exact ⟨x, .tail _ (List.mem_append.mpr (.inl (List.mem_filter.mpr ⟨List.mem_range.mpr (bit_lt G.lt (inner_bits hx).2.1), ha⟩))), .refl⟩
      | false =>
        obtain ⟨b0, b1, b2, b3, b4⟩ := inner_bits hx
        have hy : ∃ u, Tch (n + 1) x u ∧ Y.testBit u = true := by
          have one : ∀ u, W.testBit u = true → X.testBit u = false → Y.testBit u = true := fun u hw hx => by
            rcases (T.all u).mp hw with h | h
            · rw [hx] at h; cases h
            · exact h
          unfold allX at ha
          rw [hx] at ha
          cases c1 : X.testBit x with
          | false => exact ⟨x, .inl rfl, one _ b1 c1⟩
          | true =>
            cases c2 : X.testBit (x - 1) with
            | false => exact ⟨x - 1, .inr (.inl (by omega)), one _ b2 c2⟩
            | true =>
              cases c3 : X.testBit (x - (n + 1)) with
              | false => exact ⟨x - (n + 1), .inr (.inr (.inl (by omega))), one _ b3 c3⟩
              | true =>
                cases c4 : X.testBit (x - (n + 1) - 1) with
                | false => exact ⟨x - (n + 1) - 1, .inr (.inr (.inr (by omega))), one _ b4 c4⟩
                | true => rw [c1, c2, c3, c4] at ha; cases ha
        obtain ⟨u, tu, hyu⟩ := hy
        have hj := T.join G hyu tu
        rw [nrm_in hx] at hj
        by_cases hq : q.testBit u = true
        · exact ⟨0, .head _, (T.edged G hq).trans hj⟩
        · obtain ⟨y, hy, hc⟩ := hr u ((T.hid G u).mpr ⟨hyu, hq⟩)
          have := (T.hidden G hc).trans hj
          rw [nrm_in (hin y hy)] at this
          exact ⟨y, .tail _ (List.mem_append.mpr (.inr hy)), this⟩

/-- Euler's count -/
theorem Two.euler {k1 k2 : Nat} (hX : PiecesIs [1, n + 1] X k1) (hY : PiecesIs (aroundL n) (Y ^^^ q) k2) :
    ((List.range NN).filter (allX W (n + 1) X)).length + k2 + n * n = ((edges W (n + 1) NN).filter (inX (n + 1) X)).length + k1 + ((List.range NN).filter (fun i => W.testBit i && !X.testBit i)).length := by
  obtain ⟨kP, kD, h1, h2, e⟩ := euler_rk G X
  have e1 := h1.uniq (primal_cls G (fun i h => (T.all i).mpr (.inl h)) hX)
  have e2 := h2.uniq (T.cls G hY)
  omega
end
end Mine
end

section
open PySem PySem.W PySem.Calls PyProof.Rows
set_option linter.unusedVariables false
set_option linter.unusedSectionVars false
set_option maxRecDepth 100000
namespace Mine

-- sums
theorem sumN_congr {f g : Nat → Nat} : ∀ n, (∀ i, i < n → f i = g i) → sumN f n = sumN g n
  | 0, _ => rfl
  | n + 1, h => by rw [sumN, sumN, sumN_congr n fun i hi => h i (by omega), h n (by omega)]
theorem sumN_zero {f : Nat → Nat} : ∀ n, (∀ i, i < n → f i = 0) → sumN f n = 0
  | 0, _ => rfl
  | n + 1, h => by rw [sumN, sumN_zero n fun i hi => h i (by omega), h n (by omega)]
theorem sumN_add (f g : Nat → Nat) : ∀ n, sumN (fun i => f i + g i) n = sumN f n + sumN g n
  | 0 => rfl
  | n + 1 => by rw [sumN, sumN, sumN, sumN_add f g n]; omega
theorem sumN_app (f : Nat → Nat) (a : Nat) : ∀ n, sumN f (a + n) = sumN f a + sumN (fun i => f (a + i)) n
  | 0 => rfl
  | n + 1 => by rw [← Nat.add_assoc, sumN, sumN, sumN_app f a n]; omega
theorem sumN_head (f : Nat → Nat) (n : Nat) : sumN f (n + 1) = f 0 + sumN (fun i => f (i + 1)) n := by
  rw [Nat.add_comm, sumN_app f 1 n]
  have : sumN f 1 = f 0 := by simp [sumN]
  rw [this]
  exact congrArg _ (sumN_congr n fun i _ => by rw [Nat.add_comm])
theorem sumN_rev (f : Nat → Nat) : ∀ n, sumN f n = sumN (fun i => f (n - 1 - i)) n
  | 0 => rfl
  | n + 1 => by
    rw [sumN_head (fun i => f (n + 1 - 1 - i)) n, sumN, sumN_rev f n, Nat.add_comm]
    have : sumN (fun i => f (n - 1 - i)) n = sumN (fun i => f (n + 1 - 1 - (i + 1))) n := sumN_congr n fun i hi => by congr 1; omega
    rw [this]; rfl
theorem sumN_mul (f : Nat → Nat) (b : Nat) : ∀ a, sumN f (a * b) = sumN (fun r => sumN (fun c => f (r * b + c)) b) a
  | 0 => by simp [sumN]
  | a + 1 => by rw [Nat.add_mul, Nat.one_mul, sumN_app, sumN_mul f b a, sumN]
theorem sumN_trunc {f : Nat → Nat} {m N : Nat} (h : m ≤ N) (hz : ∀ i, m ≤ i → f i = 0) : sumN f N = sumN f m := by
  obtain ⟨k, rfl⟩ : ∃ k, N = m + k := ⟨N - m, by omega⟩
  rw [sumN_app, sumN_zero k fun i _ => hz _ (by omega)]; rfl
theorem sumN_swap (f : Nat → Nat → Nat) (b : Nat) : ∀ a, sumN (fun i => sumN (fun j => f i j) b) a = sumN (fun j => sumN (fun i => f i j) a) b
  | 0 => by rw [sumN]; exact (sumN_zero b fun _ _ => rfl).symm
  | a + 1 => by
    rw [sumN, sumN_swap f b a, ← sumN_add]
    exact sumN_congr b fun j _ => rfl
def bN (b : Bool) : Nat := if b then 1 else 0
def cN (p : Nat → Bool) (n : Nat) : Nat := sumN (fun i => bN (p i)) n
theorem countP_range (p : Nat → Bool) : ∀ n, List.countP p (List.range n) = cN p n
  | 0 => rfl
  | n + 1 => by
    rw [List.range_succ, List.countP_append, countP_range p n]
    show _ = cN p n + bN (p n)
    cases h : p n <;> simp [h, bN]
theorem filter_len (p : Nat → Bool) (n : Nat) : ((List.range n).filter p).length = cN p n := by
  rw [← List.countP_eq_length_filter]; exact countP_range p n
theorem ones_cN {k N : Nat} (h : k < 2 ^ N) : ones k = cN k.testBit N := by
  have h1 : Builtin.Int.intBits (k : Int) ≤ N := intBits_nat h
  unfold ones
  rw [countP_range]
  unfold cN
  refine (sumN_trunc h1 fun i hi => ?_).symm
  have h2 : k < 2 ^ Builtin.Int.intBits (k : Int) := by
    have := intBits_le_iff.mp (Nat.le_refl (Builtin.Int.intBits (k : Int)))
    simpa using this
  rw [Nat.testBit_lt_two_pow (Nat.lt_of_lt_of_le h2 (Nat.pow_le_pow_right (by decide) hi))]; rfl

-- the bits of the whole
theorem whole_all : ((List.range 12).all fun n => (List.range NN).all fun b => (wholeUp n n).testBit b == (decide (b < n * (n + 1)) && decide (b % (n + 1) ≠ 0))) = true := by decide +kernel
theorem whole_bit {n : Nat} (h : n ≤ 11) (b : Nat) : (wholeUp n n).testBit b = (decide (b < n * (n + 1)) && decide (b % (n + 1) ≠ 0)) := by
  have hlt : n * (n + 1) ≤ 132 := Nat.mul_le_mul h (by omega : n + 1 ≤ 12)
  by_cases hb : b < NN
  · have := List.all_eq_true.mp (List.all_eq_true.mp whole_all n (List.mem_range.mpr (by omega))) b (List.mem_range.mpr hb)
    simpa using this
  · have hb' : ¬ b < n * (n + 1) := by unfold NN at hb; omega
    rw [decide_eq_false hb']
    have hl : wholeUp n n < 2 ^ 132 := lt_200 h (Nat.le_refl _) (wholeUp_lt n n)
    exact Nat.testBit_lt_two_pow (Nat.lt_of_lt_of_le hl (Nat.pow_le_pow_right (by decide) (by unfold NN at hb; omega)))

-- the bits of the dark
theorem addRow_bit : ∀ (r : List Bool) (d k : Nat), (addRow d r).testBit k = if k < r.length then r.getD (r.length - 1 - k) false else d.testBit (k - r.length)
  | [], d, k => by simp [addRow]
  | b :: r, d, k => by
    rw [addRow, addRow_bit r]
    have hl : (b :: r).length = r.length + 1 := List.length_cons
    by_cases h : k < r.length
    · have h' : k < (b :: r).length := by omega
      rw [if_pos h, if_pos h', show (b :: r).length - 1 - k = (r.length - 1 - k) + 1 by omega, List.getD_cons_succ]
    · rw [if_neg h]
      by_cases h2 : k = r.length
      · subst h2
        have h' : r.length < (b :: r).length := by omega
        rw [if_pos h', Nat.sub_self, Nat.testBit_or, Nat.testBit_shiftLeft, show (b :: r).length - 1 - r.length = 0 by omega, List.getD_cons_zero]
        cases b <;> rfl
      · have h' : ¬ k < (b :: r).length := by omega
        rw [if_neg h', Nat.testBit_or, Nat.testBit_shiftLeft, show k - (b :: r).length = k - r.length - 1 by omega]
        have e1 : (if b = true then 1 else 0 : Nat).testBit (k - r.length) = false := by
          obtain ⟨j, hj⟩ : ∃ j, k - r.length = j + 1 := ⟨k - r.length - 1, by omega⟩
          rw [hj]
          cases b
          · simp
          · rw [Nat.testBit_succ]; simp
        have e2 : decide (k - r.length ≥ 1) = true := by simp; omega
        rw [e1, Bool.or_false, e2, Bool.true_and]
theorem dark_bit {M : List (List Bool)} {n : Nat} (hM : Sq M n) : ∀ (m r c : Nat), m ≤ n → r < m → c < n + 1 → (darkUp M m).testBit (r * (n + 1) + c) = (decide (1 ≤ c) && cell M (m - 1 - r) (n - c))
  | 0, r, c, _, hr, _ => by omega
  | m + 1, r, c, hm, hr, hc => by
    have hlen := hM.2 m (by omega)
    rw [darkUp, Nat.testBit_shiftLeft, addRow_bit, hlen]
    cases r with
    | zero =>
      rw [Nat.zero_mul, Nat.zero_add]
      cases c with
      | zero => simp
      | succ c =>
        rw [if_pos (by omega), show n - 1 - (c + 1 - 1) = n - (c + 1) by omega]
        simp [cell]
    | succ r =>
      have e : (r + 1) * (n + 1) + c = r * (n + 1) + c + (n + 1) := by rw [Nat.add_mul]; omega
      rw [e, if_neg (by omega), show r * (n + 1) + c + (n + 1) - 1 - n = r * (n + 1) + c by omega, dark_bit hM m r c (by omega) (by omega) hc]
      rw [show m + 1 - 1 - (r + 1) = m - 1 - r by omega]
      have : decide (r * (n + 1) + c + (n + 1) ≥ 1) = true := by rw [decide_eq_true_eq]; omega
      rw [this, Bool.true_and]
end Mine
end

section
open PySem PySem.W PySem.Calls PyProof.Rows
set_option linter.unusedVariables false
set_option linter.unusedSectionVars false
set_option maxRecDepth 100000
namespace Mine

theorem sumN_cut {f : Nat → Nat} {m N : Nat} (h : m ≤ N) (hz : ∀ i, m ≤ i → i < N → f i = 0) : sumN f N = sumN f m := by
  obtain ⟨k, rfl⟩ : ∃ k, N = m + k := ⟨N - m, by omega⟩
  rw [sumN_app, sumN_zero k fun i hi => hz _ (by omega) (by omega)]; rfl

/-- the colour r from the bottom, t from the right -/
def lit (M : List (List Bool)) (n r t : Nat) : Bool := cell M (n - 1 - r) (n - 1 - t)
structure Line (n base s : Nat) (l : Nat → Bool) (D L : Nat) : Prop where
  d : ∀ u, u < n → D.testBit (base + u * s) = l u
  l : ∀ u, u < n → L.testBit (base + u * s) = !l u
  dn : D.testBit (base + n * s) = false
  ln : L.testBit (base + n * s) = false
  low : base < s ∨ (D.testBit (base - s) = false ∧ L.testBit (base - s) = false)

section
variable {M : List (List Bool)} {n : Nat} (hM : Sq M n) (h1 : 1 ≤ n) (h2 : n ≤ 11)
include hM h1 h2
theorem whole_out {b : Nat} (h : n * (n + 1) ≤ b ∨ b % (n + 1) = 0) : (wholeUp n n).testBit b = false := by
  rw [whole_bit h2]
  rcases h with h | h
  · rw [decide_eq_false (by omega)]; rfl
  · simp [h]
theorem pos_lt {r t : Nat} (hr : r < n) (ht : t < n) : r * (n + 1) + (t + 1) < n * (n + 1) := by
  have : (r + 1) * (n + 1) ≤ n * (n + 1) := Nat.mul_le_mul_right _ hr
  rw [Nat.add_mul] at this; omega
theorem whole_in {r t : Nat} (hr : r < n) (ht : t < n) : (wholeUp n n).testBit (r * (n + 1) + (t + 1)) = true := by
  rw [whole_bit h2, decide_eq_true (pos_lt hM h1 h2 hr ht)]
  have : (r * (n + 1) + (t + 1)) % (n + 1) = t + 1 := by
    rw [Nat.add_comm, Nat.add_mul_mod_self_right, Nat.mod_eq_of_lt (by omega)]
  rw [this]; simp
theorem dark_in {r t : Nat} (hr : r < n) (ht : t < n) : (darkUp M n).testBit (r * (n + 1) + (t + 1)) = lit M n r t := by
  rw [dark_bit hM n r (t + 1) (Nat.le_refl _) hr (by omega)]
  have : decide (1 ≤ t + 1) = true := by simp
  rw [this, Bool.true_and]; unfold lit
  rw [show n - (t + 1) = n - 1 - t by omega]
theorem dark_sub {b : Nat} (h : (darkUp M n).testBit b = true) : (wholeUp n n).testBit b = true := by
  have hb : b < n * (n + 1) := by
    by_cases hb : b < n * (n + 1)
    · exact hb
    · have := Nat.testBit_lt_two_pow (Nat.lt_of_lt_of_le (darkUp_lt hM n (Nat.le_refl _)) (Nat.pow_le_pow_right (by decide) (show n * (n + 1) ≤ b by omega)))
      rw [h] at this; cases this
  have e : b = b / (n + 1) * (n + 1) + b % (n + 1) := by have := Nat.div_add_mod b (n + 1); rw [Nat.mul_comm] at this; omega
  have hr : b / (n + 1) < n := Nat.div_lt_of_lt_mul (by rw [Nat.mul_comm]; exact hb)
  have hc : b % (n + 1) < n + 1 := Nat.mod_lt _ (by omega)
  cases hc0 : b % (n + 1) with
  | zero =>
    rw [hc0] at e
    rw [e, dark_bit hM n _ 0 (Nat.le_refl _) hr (by omega)] at h
    simp at h
  | succ c =>
    rw [whole_bit h2, decide_eq_true hb, hc0]; simp
theorem light_bit (b : Nat) : (wholeUp n n ^^^ darkUp M n).testBit b = ((wholeUp n n).testBit b && !(darkUp M n).testBit b) := by
  rw [Nat.testBit_xor]
  have := dark_sub hM h1 h2 (b := b)
  cases h : (darkUp M n).testBit b <;> cases h' : (wholeUp n n).testBit b <;> simp_all
theorem dark_out {b : Nat} (h : (wholeUp n n).testBit b = false) : (darkUp M n).testBit b = false := by
  cases e : (darkUp M n).testBit b with
  | false => rfl
  | true => rw [dark_sub hM h1 h2 e] at h; cases h
theorem light_out {b : Nat} (h : (wholeUp n n).testBit b = false) : (wholeUp n n ^^^ darkUp M n).testBit b = false := by
  rw [light_bit hM h1 h2, h]; rfl
theorem light_in {r t : Nat} (hr : r < n) (ht : t < n) : (wholeUp n n ^^^ darkUp M n).testBit (r * (n + 1) + (t + 1)) = !lit M n r t := by
  rw [light_bit hM h1 h2, whole_in hM h1 h2 hr ht, dark_in hM h1 h2 hr ht]; rfl

theorem rowLine {r : Nat} (hr : r < n) : Line n (r * (n + 1) + 1) 1 (lit M n r) (darkUp M n) (wholeUp n n ^^^ darkUp M n) := by
  have e : ∀ u, r * (n + 1) + 1 + u * 1 = r * (n + 1) + (u + 1) := fun u => by omega
  have o : (wholeUp n n).testBit (r * (n + 1) + 1 + n * 1) = false := whole_out hM h1 h2 (.inr (by
    rw [show r * (n + 1) + 1 + n * 1 = (r + 1) * (n + 1) by rw [Nat.add_mul]; omega, Nat.mul_mod_left]))
  have o' : (wholeUp n n).testBit (r * (n + 1) + 1 - 1) = false := whole_out hM h1 h2 (.inr (by
    rw [Nat.add_sub_cancel, Nat.mul_mod_left]))
  exact ⟨fun u hu => by rw [e, dark_in hM h1 h2 hr hu], fun u hu => by rw [e, light_in hM h1 h2 hr hu], dark_out hM h1 h2 o, light_out hM h1 h2 o, .inr ⟨dark_out hM h1 h2 o', light_out hM h1 h2 o'⟩⟩
theorem colLine {t : Nat} (ht : t < n) : Line n (1 + t) (n + 1) (fun r => lit M n r t) (darkUp M n) (wholeUp n n ^^^ darkUp M n) := by
  have e : ∀ u, 1 + t + u * (n + 1) = u * (n + 1) + (t + 1) := fun u => by omega
  have o : (wholeUp n n).testBit (1 + t + n * (n + 1)) = false := whole_out hM h1 h2 (.inl (by omega))
  exact ⟨fun u hu => by rw [e, dark_in hM h1 h2 hu ht], fun u hu => by rw [e, light_in hM h1 h2 hu ht], dark_out hM h1 h2 o, light_out hM h1 h2 o, .inl (by omega)⟩

theorem gridR {f : Nat → Nat} (hz : ∀ b, (wholeUp n n).testBit b = false → f b = 0) : sumN f NN = sumN (fun r => sumN (fun t => f (r * (n + 1) + 1 + t * 1)) n) n := by
  have hlt : n * (n + 1) ≤ 132 := Nat.mul_le_mul h2 (by omega : n + 1 ≤ 12)
  rw [sumN_trunc (m := n * (n + 1)) (by unfold NN; omega) fun b hb => hz b (whole_out hM h1 h2 (.inl hb)), sumN_mul]
  refine sumN_congr n fun r hr => ?_
  rw [sumN_head]
  have : f (r * (n + 1) + 0) = 0 := hz _ (whole_out hM h1 h2 (.inr (by rw [Nat.add_zero, Nat.mul_mod_left])))
  rw [this, Nat.zero_add]
  exact sumN_congr n fun t ht => by congr 1; omega
theorem gridC {f : Nat → Nat} (hz : ∀ b, (wholeUp n n).testBit b = false → f b = 0) : sumN f NN = sumN (fun t => sumN (fun r => f (1 + t + r * (n + 1))) n) n := by
  rw [gridR hM h1 h2 hz, sumN_swap]
  exact sumN_congr n fun t ht => sumN_congr n fun r hr => by congr 1; omega
end

-- fives and sixes of a line
def F5 (l : Nat → Bool) (t : Nat) : Bool := (l t == l (t + 1)) && (l (t + 1) == l (t + 2)) && (l (t + 2) == l (t + 3)) && (l (t + 3) == l (t + 4))
def F6 (l : Nat → Bool) (t : Nat) : Bool := F5 l t && (l (t + 4) == l (t + 5))
def sx (c s : Nat) : Nat := five c s &&& c <<< s
theorem five_bit (c s b : Nat) : (five c s).testBit b = (c.testBit b && c.testBit (b + s) && c.testBit (b + 2 * s) && c.testBit (b + 3 * s) && c.testBit (b + 4 * s)) := by
  unfold five
  simp only [Nat.testBit_and, Nat.testBit_shiftRight]
  rw [Nat.add_comm s b, Nat.add_comm (2 * s) b, Nat.add_comm (3 * s) b, Nat.add_comm (4 * s) b]
theorem sx_bit (c s b : Nat) : (sx c s).testBit b = ((five c s).testBit b && (decide (s ≤ b) && c.testBit (b - s))) := by
  unfold sx; rw [Nat.testBit_and, Nat.testBit_shiftLeft]
theorem at_step (base s t k : Nat) : base + t * s + k * s = base + (t + k) * s := by rw [Nat.add_mul]; omega

section
variable {n base s D L : Nat} {l : Nat → Bool} (H : Line n base s l D L)
include H
theorem Line.five_at (c t : Nat) : (five c s).testBit (base + t * s) = (c.testBit (base + t * s) && c.testBit (base + (t + 1) * s) && c.testBit (base + (t + 2) * s) && c.testBit (base + (t + 3) * s) && c.testBit (base + (t + 4) * s)) := by
  rw [five_bit, ← at_step base s t 1, ← at_step base s t 2, ← at_step base s t 3, ← at_step base s t 4, Nat.one_mul]
theorem Line.five_sum : sumN (fun t => bN ((five D s).testBit (base + t * s)) + bN ((five L s).testBit (base + t * s))) n = sumN (fun t => bN (F5 l t)) (n - 4) := by
  rw [sumN_cut (m := n - 4) (by omega)]
  · refine sumN_congr _ fun t ht => ?_
    rw [H.five_at, H.five_at, H.d t (by omega), H.d (t + 1) (by omega), H.d (t + 2) (by omega), H.d (t + 3) (by omega), H.d (t + 4) (by omega), H.l t (by omega), H.l (t + 1) (by omega), H.l (t + 2) (by omega), H.l (t + 3) (by omega), H.l (t + 4) (by omega)]
    unfold F5
    cases l t <;> cases l (t + 1) <;> cases l (t + 2) <;> cases l (t + 3) <;> cases l (t + 4) <;> rfl
  · intro t h1 h2
    rw [H.five_at, H.five_at]
    have : t + 1 = n ∨ t + 2 = n ∨ t + 3 = n ∨ t + 4 = n := by omega
    rcases this with e | e | e | e <;> rw [e, H.dn, H.ln] <;> simp [bN]
theorem Line.sx_sum (hn : 1 ≤ n) : sumN (fun t => bN ((sx D s).testBit (base + t * s)) + bN ((sx L s).testBit (base + t * s))) n = sumN (fun t => bN (F6 l t)) (n - 5) := by
  obtain ⟨m, rfl⟩ : ∃ m, n = m + 1 := ⟨n - 1, by omega⟩
  rw [sumN_head]
  have z : bN ((sx D s).testBit (base + 0 * s)) + bN ((sx L s).testBit (base + 0 * s)) = 0 := by
    rw [sx_bit, sx_bit, Nat.zero_mul, Nat.add_zero]
    rcases H.low with h | ⟨h, h'⟩
    · rw [decide_eq_false (by omega)]; simp [bN]
    · rw [h, h']; simp [bN]
  rw [z, Nat.zero_add, sumN_cut (m := m + 1 - 5) (by omega)]
  · refine sumN_congr _ fun t ht => ?_
    have e : base + (t + 1) * s - s = base + t * s := by rw [Nat.add_mul]; omega
    have e' : decide (s ≤ base + (t + 1) * s) = true := by rw [decide_eq_true_eq, Nat.add_mul]; omega
    rw [sx_bit, sx_bit, e, e', H.five_at, H.five_at, H.d t (by omega), H.d (t + 1) (by omega), H.d (t + 1 + 1) (by omega), H.d (t + 1 + 2) (by omega), H.d (t + 1 + 3) (by omega), H.d (t + 1 + 4) (by omega),
      H.l t (by omega), H.l (t + 1) (by omega), H.l (t + 1 + 1) (by omega), H.l (t + 1 + 2) (by omega), H.l (t + 1 + 3) (by omega), H.l (t + 1 + 4) (by omega)]
    unfold F6 F5
    rw [show t + 1 + 1 = t + 2 by omega, show t + 1 + 2 = t + 3 by omega, show t + 1 + 3 = t + 4 by omega, show t + 1 + 4 = t + 5 by omega]
    cases l t <;> cases l (t + 1) <;> cases l (t + 2) <;> cases l (t + 3) <;> cases l (t + 4) <;> cases l (t + 5) <;> rfl
  · intro t h1 h2
    rw [sx_bit, sx_bit, H.five_at, H.five_at]
    have : t + 1 + 1 = m + 1 ∨ t + 1 + 2 = m + 1 ∨ t + 1 + 3 = m + 1 ∨ t + 1 + 4 = m + 1 := by omega
    rcases this with e | e | e | e <;> rw [e, H.dn, H.ln] <;> simp [bN]
end

-- the runs of a line by its fives and sixes
theorem run_ge (g : Nat → Bool) (k m : Nat) : k + 2 ≤ runLen g (m + 1) ↔ (g m = g (m - 1) ∧ k + 1 ≤ runLen g m) := by
  rw [runLen]; split
  · rename_i h; constructor
    · intro h'; exact ⟨h, by omega⟩
    · intro h'; omega
  · rename_i h; constructor
    · intro h'; omega
    · intro h'; exact absurd h'.1 h
theorem pts_step (l : Nat) : pts (l + 1) + 2 * bN (decide (6 ≤ l + 1)) = pts l + 3 * bN (decide (5 ≤ l + 1)) := by
  unfold pts bN
  simp only [decide_eq_true_eq]
  repeat' split
  all_goals omega
theorem run_inv (g : Nat → Bool) : ∀ m, runPts g m + pts (runLen g m) + 2 * sumN (fun i => bN (decide (6 ≤ runLen g (i + 1)))) m = 3 * sumN (fun i => bN (decide (5 ≤ runLen g (i + 1)))) m
  | 0 => rfl
  | m + 1 => by
    have ih := run_inv g m
    rw [sumN, sumN, runPts]
    have e : runLen g (m + 1) = if g m = g (m - 1) then runLen g m + 1 else 1 := by rw [runLen]
    by_cases h : g m = g (m - 1)
    · rw [if_pos h] at e ⊢
      rw [e]
      have := pts_step (runLen g m)
      omega
    · rw [if_neg h] at e ⊢
      rw [e]
      have p1 : pts 1 = 0 := rfl
      have b1 : bN (decide (6 ≤ 1)) = 0 := rfl
      have b2 : bN (decide (5 ≤ 1)) = 0 := rfl
      rw [p1, b1, b2]; omega
end Mine
end

section
open PySem PySem.W PySem.Calls PyProof.Rows
set_option linter.unusedVariables false
set_option linter.unusedSectionVars false
set_option maxRecDepth 100000
namespace Mine

theorem run_pos (g : Nat → Bool) (m : Nat) : 1 ≤ runLen g (m + 1) := by rw [runLen]; split <;> omega
theorem run5 (g : Nat → Bool) (t : Nat) : decide (5 ≤ runLen g (t + 4 + 1)) = F5 g t := by
  have h : 5 ≤ runLen g (t + 4 + 1) ↔ (g (t + 4) = g (t + 3) ∧ g (t + 3) = g (t + 2) ∧ g (t + 2) = g (t + 1) ∧ g (t + 1) = g t) := by
    rw [run_ge g 3 (t + 4), show t + 4 - 1 = t + 3 by omega, show t + 4 = t + 3 + 1 by omega, run_ge g 2 (t + 3), show t + 3 - 1 = t + 2 by omega, show t + 3 = t + 2 + 1 by omega, run_ge g 1 (t + 2), show t + 2 - 1 = t + 1 by omega,
      show t + 2 = t + 1 + 1 by omega, run_ge g 0 (t + 1), show t + 1 - 1 = t by omega]
    have := run_pos g t
    constructor
    · rintro ⟨a, b, c, d, _⟩; exact ⟨a, b, c, d⟩
    · rintro ⟨a, b, c, d⟩; exact ⟨a, b, c, d, this⟩
  rw [Bool.eq_iff_iff, decide_eq_true_eq, h]
  unfold F5
  cases g t <;> cases g (t + 1) <;> cases g (t + 2) <;> cases g (t + 3) <;> cases g (t + 4) <;> simp
theorem run6 (g : Nat → Bool) (t : Nat) : decide (6 ≤ runLen g (t + 5 + 1)) = F6 g t := by
  have h := run_ge g 4 (t + 5)
  rw [show t + 5 - 1 = t + 4 by omega] at h
  have h5 := run5 g t
  rw [Bool.eq_iff_iff, decide_eq_true_eq, h]
  unfold F6
  rw [← h5, Bool.and_eq_true, decide_eq_true_eq, show t + 5 = t + 4 + 1 by omega]
  constructor
  · rintro ⟨a, b⟩; exact ⟨b, by rw [a]; simp⟩
  · rintro ⟨a, b⟩; exact ⟨by have := eq_of_beq b; exact this.symm, a⟩
theorem cut_sum (f h : Nat → Nat) (k : Nat) (hz : ∀ i, i < k → f i = 0) (he : ∀ t, f (t + k) = h t) (n : Nat) : sumN f n = sumN h (n - k) := by
  by_cases hk : n ≤ k
  · rw [show n - k = 0 by omega, sumN_zero n fun i hi => hz i (by omega)]; rfl
  · obtain ⟨m, rfl⟩ : ∃ m, n = k + m := ⟨n - k, by omega⟩
    rw [sumN_app, sumN_zero k hz, Nat.zero_add, show k + m - k = m by omega]
    exact sumN_congr m fun t _ => by rw [Nat.add_comm]; exact he t
/-- a line's points by its fives and sixes -/
theorem line_pts (g : Nat → Bool) (n : Nat) : lineTot g n + 2 * sumN (fun t => bN (F6 g t)) (n - 5) = 3 * sumN (fun t => bN (F5 g t)) (n - 4) := by
  have h := run_inv g n
  rw [cut_sum _ (fun t => bN (F6 g t)) 5 (fun i hi => by have := runLen_le g (i + 1); rw [decide_eq_false (by omega)]; rfl) (fun t => by rw [run6]) n,
    cut_sum _ (fun t => bN (F5 g t)) 4 (fun i hi => by have := runLen_le g (i + 1); rw [decide_eq_false (by omega)]; rfl) (fun t => by rw [run5]) n] at h
  exact h
theorem F5_rev {g l : Nat → Bool} {n : Nat} (h : ∀ j, j < n → g j = l (n - 1 - j)) : sumN (fun t => bN (F5 g t)) (n - 4) = sumN (fun t => bN (F5 l t)) (n - 4) := by
  rw [sumN_rev (fun t => bN (F5 l t))]
  refine sumN_congr _ fun t ht => ?_
  show bN (F5 g t) = bN (F5 l (n - 4 - 1 - t))
  congr 1
  obtain ⟨a, ha⟩ : ∃ a, a = n - 4 - 1 - t := ⟨_, rfl⟩
  rw [← ha]
  unfold F5
  rw [h t (by omega), h (t + 1) (by omega), h (t + 2) (by omega), h (t + 3) (by omega), h (t + 4) (by omega), show n - 1 - t = a + 4 by omega, show n - 1 - (t + 1) = a + 3 by omega, show n - 1 - (t + 2) = a + 2 by omega, show n - 1 - (t + 3) = a + 1 by omega, show n - 1 - (t + 4) = a by omega]
  cases l a <;> cases l (a + 1) <;> cases l (a + 2) <;> cases l (a + 3) <;> cases l (a + 4) <;> rfl
theorem F6_rev {g l : Nat → Bool} {n : Nat} (h : ∀ j, j < n → g j = l (n - 1 - j)) : sumN (fun t => bN (F6 g t)) (n - 5) = sumN (fun t => bN (F6 l t)) (n - 5) := by
  rw [sumN_rev (fun t => bN (F6 l t))]
  refine sumN_congr _ fun t ht => ?_
  show bN (F6 g t) = bN (F6 l (n - 5 - 1 - t))
  congr 1
  obtain ⟨a, ha⟩ : ∃ a, a = n - 5 - 1 - t := ⟨_, rfl⟩
  rw [← ha]
  unfold F6 F5
  rw [h t (by omega), h (t + 1) (by omega), h (t + 2) (by omega), h (t + 3) (by omega), h (t + 4) (by omega), h (t + 5) (by omega), show n - 1 - t = a + 5 by omega, show n - 1 - (t + 1) = a + 4 by omega, show n - 1 - (t + 2) = a + 3 by omega, show n - 1 - (t + 3) = a + 2 by omega, show n - 1 - (t + 4) = a + 1 by omega, show n - 1 - (t + 5) = a by omega]
  cases l a <;> cases l (a + 1) <;> cases l (a + 2) <;> cases l (a + 3) <;> cases l (a + 4) <;> cases l (a + 5) <;> rfl

section
variable {M : List (List Bool)} {n : Nat} (hM : Sq M n) (h1 : 1 ≤ n) (h2 : n ≤ 11)
include hM h1 h2
theorem W_lt : wholeUp n n < 2 ^ NN := Nat.lt_trans (lt_200 h2 (Nat.le_refl _) (wholeUp_lt n n)) (by decide)
theorem D_lt : darkUp M n < 2 ^ NN := Nat.lt_trans (lt_200 h2 (Nat.le_refl _) (darkUp_lt hM n (Nat.le_refl _))) (by decide)
theorem L_lt : wholeUp n n ^^^ darkUp M n < 2 ^ NN := Nat.xor_lt_two_pow (W_lt hM h1 h2) (D_lt hM h1 h2)
theorem five_lt {c s : Nat} (h : c < 2 ^ NN) : five c s < 2 ^ NN := by
  unfold five
  exact Nat.lt_of_le_of_lt (Nat.and_le_left) (Nat.lt_of_le_of_lt (Nat.and_le_left) (Nat.lt_of_le_of_lt (Nat.and_le_left) (Nat.lt_of_le_of_lt (Nat.and_le_left) h)))
theorem sx_lt {c s : Nat} (h : c < 2 ^ NN) : sx c s < 2 ^ NN := Nat.lt_of_le_of_lt Nat.and_le_left (five_lt hM h1 h2 h)
/-- two counts as one sum over the places -/
theorem two_ones {a b : Nat} (ha : a < 2 ^ NN) (hb : b < 2 ^ NN) : ones a + ones b = sumN (fun i => bN (a.testBit i) + bN (b.testBit i)) NN := by
  rw [ones_cN ha, ones_cN hb, sumN_add]; rfl
theorem five_out {s b : Nat} (h : (wholeUp n n).testBit b = false) : bN ((five (darkUp M n) s).testBit b) + bN ((five (wholeUp n n ^^^ darkUp M n) s).testBit b) = 0 := by
  rw [five_bit, five_bit, dark_out hM h1 h2 h, light_out hM h1 h2 h]; rfl
theorem sx_out {s b : Nat} (h : (wholeUp n n).testBit b = false) : bN ((sx (darkUp M n) s).testBit b) + bN ((sx (wholeUp n n ^^^ darkUp M n) s).testBit b) = 0 := by
  rw [sx_bit, sx_bit, five_bit, five_bit, dark_out hM h1 h2 h, light_out hM h1 h2 h]; rfl

theorem rows_pts : sumN (fun i => lineTot (fun j => cell M i j) n) n + 2 * (ones (sx (darkUp M n) 1) + ones (sx (wholeUp n n ^^^ darkUp M n) 1)) = 3 * (ones (five (darkUp M n) 1) + ones (five (wholeUp n n ^^^ darkUp M n) 1)) := by
  have hD := D_lt hM h1 h2
  have hL := L_lt hM h1 h2
  rw [two_ones hM h1 h2 (five_lt hM h1 h2 hD) (five_lt hM h1 h2 hL), two_ones hM h1 h2 (sx_lt hM h1 h2 hD) (sx_lt hM h1 h2 hL),
    gridR hM h1 h2 (fun b hb => five_out hM h1 h2 hb), gridR hM h1 h2 (fun b hb => sx_out hM h1 h2 hb)]
  rw [sumN_congr n fun r hr => (rowLine hM h1 h2 hr).five_sum, sumN_congr n fun r hr => (rowLine hM h1 h2 hr).sx_sum h1, sumN_rev]
  have mul : ∀ (k : Nat) (f : Nat → Nat) (m : Nat), k * sumN f m = sumN (fun i => k * f i) m := fun k f m => by
    induction m with
    | zero => rfl
    | succ m ih => rw [sumN, sumN, Nat.mul_add, ih]
  rw [mul 2, mul 3, ← sumN_add]
  refine sumN_congr n fun r hr => ?_
  have e : ∀ j, j < n → (fun j => cell M (n - 1 - r) j) j = lit M n r (n - 1 - j) := fun j hj => by
    unfold lit; rw [show n - 1 - (n - 1 - j) = j by omega]
  have := line_pts (fun j => cell M (n - 1 - r) j) n
  rw [F5_rev e, F6_rev e] at this
  exact this
theorem cols_pts : sumN (fun c => lineTot (fun j => cell M j c) n) n + 2 * (ones (sx (darkUp M n) (n + 1)) + ones (sx (wholeUp n n ^^^ darkUp M n) (n + 1))) = 3 * (ones (five (darkUp M n) (n + 1)) + ones (five (wholeUp n n ^^^ darkUp M n) (n + 1))) := by
  have hD := D_lt hM h1 h2
  have hL := L_lt hM h1 h2
  rw [two_ones hM h1 h2 (five_lt hM h1 h2 hD) (five_lt hM h1 h2 hL), two_ones hM h1 h2 (sx_lt hM h1 h2 hD) (sx_lt hM h1 h2 hL),
    gridC hM h1 h2 (fun b hb => five_out hM h1 h2 hb), gridC hM h1 h2 (fun b hb => sx_out hM h1 h2 hb)]
  rw [sumN_congr n fun r hr => (colLine hM h1 h2 hr).five_sum, sumN_congr n fun r hr => (colLine hM h1 h2 hr).sx_sum h1, sumN_rev]
  have mul : ∀ (k : Nat) (f : Nat → Nat) (m : Nat), k * sumN f m = sumN (fun i => k * f i) m := fun k f m => by
    induction m with
    | zero => rfl
    | succ m ih => rw [sumN, sumN, Nat.mul_add, ih]
  rw [mul 2, mul 3, ← sumN_add]
  refine sumN_congr n fun t ht => ?_
  have e : ∀ j, j < n → (fun j => cell M j (n - 1 - t)) j = (fun r => lit M n r t) (n - 1 - j) := fun j hj => by
    show _ = lit M n (n - 1 - j) t
    unfold lit; rw [show n - 1 - (n - 1 - j) = j by omega]
  have := line_pts (fun j => cell M j (n - 1 - t)) n
  rw [F5_rev (g := fun j => cell M j (n - 1 - t)) (l := fun r => lit M n r t) e, F6_rev (g := fun j => cell M j (n - 1 - t)) (l := fun r => lit M n r t) e] at this
  exact this
/-- level 1 -/
theorem level1_law : ((lvl1 M n : Nat) : Int) = stepPts (darkUp M n) 1 + stepPts (darkUp M n) (n + 1) + stepPts (wholeUp n n ^^^ darkUp M n) 1 + stepPts (wholeUp n n ^^^ darkUp M n) (n + 1) := by
  have a := rows_pts hM h1 h2
  have b := cols_pts hM h1 h2
  unfold lvl1 stepPts
  unfold sx at a b
  push_cast
  omega

/-- level 4 -/
theorem dark_ones : ones (darkUp M n) = tot M n := by
  rw [ones_cN (D_lt hM h1 h2)]
  unfold cN tot
  rw [gridR hM h1 h2 (fun b hb => by rw [dark_out hM h1 h2 hb]; rfl), sumN_rev]
  refine sumN_congr n fun i hi => ?_
  rw [sumN_rev]
  have hl := hM.2 i hi
  have hc : ∀ r : List Bool, cnt r = sumN (fun j => bN (r.getD j false)) r.length := fun r => by
    have := preSum_cnt r r.length (Nat.le_refl _)
    rw [List.take_length] at this
    have h2 := preSum_sumN (fun j => bN (r.getD j false)) r.length
    have e : (fun j => ((bN (r.getD j false) : Nat) : Int)) = (fun j => if r.getD j false then 1 else 0) := by
      funext j; unfold bN; split <;> rfl
    rw [e, this] at h2
    omega
  rw [hc, hl]
  refine sumN_congr n fun j hj => ?_
  have := (rowLine hM h1 h2 (r := n - 1 - i) (by omega)).d (n - 1 - j) (by omega)
  rw [this]
  unfold lit cell
  rw [show n - 1 - (n - 1 - i) = i by omega, show n - 1 - (n - 1 - j) = j by omega]
theorem level4_law : rate n (tot M n) * 10 = ((rateOf n (darkUp M n) : Nat) : Int) := by
  unfold rateOf rate
  rw [dark_ones hM h1 h2]
  push_cast
  omega
end
end Mine
end

section
open PySem PySem.W PySem.Calls PyProof.Rows
set_option linter.unusedVariables false
set_option linter.unusedSectionVars false
set_option linter.unusedSimpArgs false
set_option maxRecDepth 100000
namespace Mine

section
variable {M : List (List Bool)} {n : Nat} (hM : Sq M n) (h1 : 1 ≤ n) (h2 : n ≤ 11)
include hM h1 h2

theorem allX_out {X b : Nat} (h : (wholeUp n n).testBit b = false) : allX (wholeUp n n) (n + 1) X b = false := by
  unfold allX inner; rw [h]; simp
theorem allX_low {X b : Nat} (h : b ≤ n + 1) : allX (wholeUp n n) (n + 1) X b = false := by
  unfold allX; rw [outer_low h]; rfl
theorem allX_gap {X b : Nat} (h : (wholeUp n n).testBit (b - 1) = false) : allX (wholeUp n n) (n + 1) X b = false := by
  unfold allX inner; rw [h]; simp
/-- the squares of four alike -/
theorem squares_law : cN (allX (wholeUp n n) (n + 1) (darkUp M n)) NN + cN (allX (wholeUp n n) (n + 1) (wholeUp n n ^^^ darkUp M n)) NN = sumN (fun i => sumN (s2 M i) (n - 1)) (n - 1) := by
  unfold cN
  rw [← sumN_add, gridR hM h1 h2 (fun b hb => by rw [allX_out hM h1 h2 hb, allX_out hM h1 h2 hb]; rfl)]
  obtain ⟨m, rfl⟩ : ∃ m, n = m + 1 := ⟨n - 1, by omega⟩
  rw [sumN_head, sumN_zero (m + 1) (fun t ht => by rw [allX_low hM h1 h2 (by omega), allX_low hM h1 h2 (by omega)]; rfl), Nat.zero_add, show m + 1 - 1 = m by omega, sumN_rev]
  refine sumN_congr m fun i hi => ?_
  rw [sumN_head]
  have gap : (wholeUp (m + 1) (m + 1)).testBit ((m - 1 - i + 1) * (m + 1 + 1) + 1 + 0 * 1 - 1) = false := whole_out hM h1 h2 (.inr (by
    rw [show (m - 1 - i + 1) * (m + 1 + 1) + 1 + 0 * 1 - 1 = (m - 1 - i + 1) * (m + 1 + 1) by omega, Nat.mul_mod_left]))
  rw [allX_gap hM h1 h2 gap, allX_gap hM h1 h2 gap, sumN_rev]
  show 0 + 0 + _ = _
  simp only [Nat.zero_add]
  refine sumN_congr m fun j hj => ?_
  obtain ⟨r, hr⟩ : ∃ r, r = m - 1 - i := ⟨_, rfl⟩
  obtain ⟨t, ht⟩ : ∃ t, t = m - 1 - j := ⟨_, rfl⟩
  show bN (allX _ _ _ ((m - 1 - i + 1) * (m + 1 + 1) + 1 + (m - 1 - j + 1) * 1)) + bN (allX _ _ _ ((m - 1 - i + 1) * (m + 1 + 1) + 1 + (m - 1 - j + 1) * 1)) = s2 M i j
  rw [← hr, ← ht]
  obtain ⟨b, hb⟩ : ∃ b, b = (r + 1) * (m + 1 + 1) + 1 + (t + 1) * 1 := ⟨_, rfl⟩
  rw [← hb]
  have e0 : b = (r + 1) * (m + 1 + 1) + ((t + 1) + 1) := by omega
  have e1 : b - 1 = (r + 1) * (m + 1 + 1) + (t + 1) := by omega
  have hx : (r + 1) * (m + 1 + 1) = r * (m + 1 + 1) + (m + 1 + 1) := by rw [Nat.add_mul, Nat.one_mul]
  have e2 : b - (m + 1 + 1) = r * (m + 1 + 1) + ((t + 1) + 1) := by omega
  have e3 : b - (m + 1 + 1) - 1 = r * (m + 1 + 1) + (t + 1) := by omega
  have hr1 : r + 1 < m + 1 := by omega
  have hr0 : r < m + 1 := by omega
  have ht1 : t + 1 < m + 1 := by omega
  have ht0 : t < m + 1 := by omega
  have hin : inner (wholeUp (m + 1) (m + 1)) (m + 1 + 1) b = true := inner_of (by omega) (by rw [e0]; exact whole_in hM h1 h2 hr1 ht1) (by rw [e1]; exact whole_in hM h1 h2 hr1 ht0) (by rw [e2]; exact whole_in hM h1 h2 hr0 ht1) (by rw [e3]; exact whole_in hM h1 h2 hr0 ht0)
  unfold allX
  rw [hin, e1, e2, show r * (m + 1 + 1) + (t + 1 + 1) - 1 = r * (m + 1 + 1) + (t + 1) by omega, e0, dark_in hM h1 h2 hr1 ht1, dark_in hM h1 h2 hr1 ht0, dark_in hM h1 h2 hr0 ht1, dark_in hM h1 h2 hr0 ht0,
    light_in hM h1 h2 hr1 ht1, light_in hM h1 h2 hr1 ht0, light_in hM h1 h2 hr0 ht1, light_in hM h1 h2 hr0 ht0]
  unfold lit s2
  rw [show m + 1 - 1 - (r + 1) = i by omega, show m + 1 - 1 - r = i + 1 by omega, show m + 1 - 1 - (t + 1) = j by omega, show m + 1 - 1 - t = j + 1 by omega]
  cases cell M i j <;> cases cell M i (j + 1) <;> cases cell M (i + 1) j <;> cases cell M (i + 1) (j + 1) <;> rfl

theorem edges_count {X : Nat} (hX : ∀ i, X.testBit i = true → (wholeUp n n).testBit i = true) (hXl : X < 2 ^ NN) :
    ((edges (wholeUp n n) (n + 1) NN).filter (inX (n + 1) X)).length = ones (X &&& X >>> 1) + ones (X &&& X >>> (n + 1)) := by
  unfold edges
  rw [List.filter_filter, List.filter_append, List.length_append, List.filter_map, List.filter_map, List.length_map, List.length_map, filter_len, filter_len,
    ones_cN (Nat.lt_of_le_of_lt Nat.and_le_left hXl), ones_cN (Nat.lt_of_le_of_lt Nat.and_le_left hXl)]
  have one : ∀ s b, (X.testBit b && X.testBit (b + s) && ((wholeUp n n).testBit b && (wholeUp n n).testBit (b + s))) = (X &&& X >>> s).testBit b := fun s b => by
    rw [Nat.testBit_and, Nat.testBit_shiftRight, Nat.add_comm s b]
    have a := hX b
    have c := hX (b + s)
    cases e1 : X.testBit b <;> cases e2 : X.testBit (b + s) <;> simp_all
  have f1 : ((fun e => inX (n + 1) X e && isE (wholeUp n n) (n + 1) e) ∘ fun i => (false, i)) = (X &&& X >>> 1).testBit := by
    funext b; exact one 1 b
  have f2 : ((fun e => inX (n + 1) X e && isE (wholeUp n n) (n + 1) e) ∘ fun i => (true, i)) = (X &&& X >>> (n + 1)).testBit := by
    funext b; exact one (n + 1) b
  rw [f1, f2]
theorem rest_count {X : Nat} (hX : ∀ i, X.testBit i = true → (wholeUp n n).testBit i = true) (hXl : X < 2 ^ NN) :
    ((List.range NN).filter (fun i => (wholeUp n n).testBit i && !X.testBit i)).length + ones X = n * n := by
  have G := grid_of h1 h2
  have hc := G.cells
  rw [filter_len] at hc ⊢
  rw [ones_cN hXl, ← hc]
  unfold cN
  rw [← sumN_add]
  refine sumN_congr _ fun i _ => ?_
  have a := hX i
  cases e1 : X.testBit i <;> cases e2 : (wholeUp n n).testBit i <;> simp_all [bN]

/-- level 2 -/
theorem level2_law {S1 S2 : Int} (hS1 : SqIs n (wholeUp n n) (darkUp M n) S1) (hS2 : SqIs n (wholeUp n n) (wholeUp n n ^^^ darkUp M n) S2) : ((lvl2 M n : Nat) : Int) = 3 * (S1 + S2) := by
  obtain ⟨q1, a1, b1, _, hq1, pa1, pb1, rfl⟩ := hS1
  obtain ⟨q2, a2, b2, _, hq2, pa2, pb2, rfl⟩ := hS2
  have G := grid_of h1 h2
  have hD := D_lt hM h1 h2
  have hL := L_lt hM h1 h2
  have sD : ∀ i, (darkUp M n).testBit i = true → (wholeUp n n).testBit i = true := fun i h => dark_sub hM h1 h2 h
  have lb := light_bit hM h1 h2
  have sL : ∀ i, (wholeUp n n ^^^ darkUp M n).testBit i = true → (wholeUp n n).testBit i = true := fun i h => by
    rw [lb, Bool.and_eq_true] at h; exact h.1
  have all : ∀ i, (wholeUp n n).testBit i = true ↔ ((darkUp M n).testBit i = true ∨ (wholeUp n n ^^^ darkUp M n).testBit i = true) := fun i => by
    have := sD i
    rw [lb]
    cases e1 : (darkUp M n).testBit i <;> cases e2 : (wholeUp n n).testBit i <;> simp_all
  have no : ∀ i, (darkUp M n).testBit i = true → ¬ (wholeUp n n ^^^ darkUp M n).testBit i = true := fun i h => by rw [lb, h]; simp
  have T1 : Two n (wholeUp n n) (insideOf n (wholeUp n n)) (darkUp M n) (wholeUp n n ^^^ darkUp M n) q2 := ⟨all, no, hq2⟩
  have T2 : Two n (wholeUp n n) (insideOf n (wholeUp n n)) (wholeUp n n ^^^ darkUp M n) (darkUp M n) q1 := ⟨fun i => (all i).trans Or.comm, fun i h h' => no i h' h, hq1⟩
  have E1 := T1.euler G pa1 pb2
  have E2 := T2.euler G pa2 pb1
  rw [edges_count hM h1 h2 sD hD, filter_len] at E1
  rw [edges_count hM h1 h2 sL hL, filter_len] at E2
  have R1 := rest_count hM h1 h2 sD hD
  have R2 := rest_count hM h1 h2 sL hL
  have Q := squares_law hM h1 h2
  unfold lvl2
  rw [← Q]
  push_cast
  omega
end

-- likenesses
def lk (W D L s line b : Nat) : Nat → Bool
  | 0 => W.testBit b
  | p + 1 => lk W D L s line b p && (if ((line >>> p) &&& 1) != 0 then D else L).testBit (b + p * s)
theorem likes_bit (W D L s line b : Nat) : ∀ p, (likesUp W D L s line p).testBit b = lk W D L s line b p
  | 0 => rfl
  | p + 1 => by rw [likesUp, Nat.testBit_and, Nat.testBit_shiftRight, likes_bit W D L s line b p, Nat.add_comm, lk]
theorem lk_false {W D L s line b : Nat} {p₀ : Nat} (hD : D.testBit (b + p₀ * s) = false) (hL : L.testBit (b + p₀ * s) = false) : ∀ p, p₀ < p → lk W D L s line b p = false
  | p + 1, h => by
    rw [lk]
    by_cases e : p₀ = p
    · subst e
      split
      · rw [hD]; simp
      · rw [hL]; simp
    · rw [lk_false hD hL p (by omega)]; rfl
/-- the likeness or its mirror -/
def lkAt (l : Nat → Bool) : Nat := bN (p3 (fun j => l (10 - j)))
theorem pat_all : ∀ a b c d e f g h i j k : Bool,
    bN (((((((((((true && a) && !b) && c) && d) && e) && !f) && g) && !h) && !i) && !j) && !k) + bN (((((((((((true && !a) && !b) && !c) && !d) && e) && !f) && g) && h) && i) && !j) && k) =
    bN (p3 (fun x => match x with | 0 => k | 1 => j | 2 => i | 3 => h | 4 => g | 5 => f | 6 => e | 7 => d | 8 => c | 9 => b | _ => a)) := by decide +kernel
theorem Line.like_sum {n base s W D L : Nat} {l : Nat → Bool} (H : Line n base s l D L) (hW : ∀ u, u < n → W.testBit (base + u * s) = true) (h1 : 1 ≤ n) (h2 : n ≤ 11) :
    sumN (fun t => bN ((likesUp W D L s 93 11).testBit (base + t * s)) + bN ((likesUp W D L s 1488 11).testBit (base + t * s))) n = sumN (fun _ => lkAt l) (n - 10) := by
  rw [sumN_cut (m := n - 10) (by omega)]
  · refine sumN_congr _ fun t ht => ?_
    have hn : n = 11 := by omega
    have h0 : t = 0 := by omega
    subst hn h0
    have e : ∀ p, base + 0 * s + p * s = base + p * s := fun p => by omega
    have d := H.d
    have l' := H.l
    rw [likes_bit, likes_bit]
    simp only [lk, e]
    have w0 := hW 0 (by omega)
    rw [w0]
    simp only [d 0 (by omega), d 1 (by omega), d 2 (by omega), d 3 (by omega), d 4 (by omega), d 5 (by omega), d 6 (by omega), d 7 (by omega), d 8 (by omega), d 9 (by omega), d 10 (by omega),
      l' 0 (by omega), l' 1 (by omega), l' 2 (by omega), l' 3 (by omega), l' 4 (by omega), l' 5 (by omega), l' 6 (by omega), l' 7 (by omega), l' 8 (by omega), l' 9 (by omega), l' 10 (by omega),
      show ((93 >>> 0 &&& 1) != 0) = true from rfl, show ((93 >>> 1 &&& 1) != 0) = false from rfl, show ((93 >>> 2 &&& 1) != 0) = true from rfl, show ((93 >>> 3 &&& 1) != 0) = true from rfl, show ((93 >>> 4 &&& 1) != 0) = true from rfl,
      show ((93 >>> 5 &&& 1) != 0) = false from rfl, show ((93 >>> 6 &&& 1) != 0) = true from rfl, show ((93 >>> 7 &&& 1) != 0) = false from rfl, show ((93 >>> 8 &&& 1) != 0) = false from rfl, show ((93 >>> 9 &&& 1) != 0) = false from rfl, show ((93 >>> 10 &&& 1) != 0) = false from rfl,
      show ((1488 >>> 0 &&& 1) != 0) = false from rfl, show ((1488 >>> 1 &&& 1) != 0) = false from rfl, show ((1488 >>> 2 &&& 1) != 0) = false from rfl, show ((1488 >>> 3 &&& 1) != 0) = false from rfl, show ((1488 >>> 4 &&& 1) != 0) = true from rfl,
      show ((1488 >>> 5 &&& 1) != 0) = false from rfl, show ((1488 >>> 6 &&& 1) != 0) = true from rfl, show ((1488 >>> 7 &&& 1) != 0) = true from rfl, show ((1488 >>> 8 &&& 1) != 0) = true from rfl, show ((1488 >>> 9 &&& 1) != 0) = false from rfl, show ((1488 >>> 10 &&& 1) != 0) = true from rfl,
      if_true, if_false, Bool.false_eq_true]
    have := pat_all (l 0) (l 1) (l 2) (l 3) (l 4) (l 5) (l 6) (l 7) (l 8) (l 9) (l 10)
    rw [this]
    rfl
  · intro t ha hb
    have e : base + t * s + (n - t) * s = base + n * s := by rw [at_step, show t + (n - t) = n by omega]
    rw [likes_bit, likes_bit, lk_false (p₀ := n - t) (by rw [e]; exact H.dn) (by rw [e]; exact H.ln) 11 (by omega), lk_false (p₀ := n - t) (by rw [e]; exact H.dn) (by rw [e]; exact H.ln) 11 (by omega)]; rfl

section
variable {M : List (List Bool)} {n : Nat} (hM : Sq M n) (h1 : 1 ≤ n) (h2 : n ≤ 11)
include hM h1 h2
theorem likes_out {s line b : Nat} (h : (wholeUp n n).testBit b = false) : ∀ p, (likesUp (wholeUp n n) (darkUp M n) (wholeUp n n ^^^ darkUp M n) s line p).testBit b = false
  | 0 => h
  | p + 1 => by rw [likesUp, Nat.testBit_and, likes_out h p]; rfl
theorem likes_small {s line : Nat} : ∀ p, likesUp (wholeUp n n) (darkUp M n) (wholeUp n n ^^^ darkUp M n) s line p < 2 ^ NN
  | 0 => W_lt hM h1 h2
  | p + 1 => Nat.lt_of_le_of_lt Nat.and_le_left (likes_small p)
/-- level 3 -/
theorem level3_law : lvl3 M n = 40 * ones (likesUp (wholeUp n n) (darkUp M n) (wholeUp n n ^^^ darkUp M n) 1 93 11) + 40 * ones (likesUp (wholeUp n n) (darkUp M n) (wholeUp n n ^^^ darkUp M n) 1 1488 11) +
    40 * ones (likesUp (wholeUp n n) (darkUp M n) (wholeUp n n ^^^ darkUp M n) (n + 1) 93 11) + 40 * ones (likesUp (wholeUp n n) (darkUp M n) (wholeUp n n ^^^ darkUp M n) (n + 1) 1488 11) := by
  have r := two_ones hM h1 h2 (likes_small hM h1 h2 (s := 1) (line := 93) 11) (likes_small hM h1 h2 (s := 1) (line := 1488) 11)
  have c := two_ones hM h1 h2 (likes_small hM h1 h2 (s := n + 1) (line := 93) 11) (likes_small hM h1 h2 (s := n + 1) (line := 1488) 11)
  rw [gridR hM h1 h2 (fun b hb => by rw [likes_out hM h1 h2 hb, likes_out hM h1 h2 hb]; rfl)] at r
  rw [gridC hM h1 h2 (fun b hb => by rw [likes_out hM h1 h2 hb, likes_out hM h1 h2 hb]; rfl)] at c
  rw [sumN_congr n fun x hx => (rowLine hM h1 h2 hx).like_sum (W := wholeUp n n) (fun u hu => by
    rw [show x * (n + 1) + 1 + u * 1 = x * (n + 1) + (u + 1) by omega]; exact whole_in hM h1 h2 hx hu) h1 h2] at r
  rw [sumN_congr n fun x hx => (colLine hM h1 h2 hx).like_sum (W := wholeUp n n) (fun u hu => by
    rw [show 1 + x + u * (n + 1) = u * (n + 1) + (x + 1) by omega]; exact whole_in hM h1 h2 hu hx) h1 h2] at c
  have er : sumN (fun i => sumN (f3 M i) (n - 10)) n = sumN (fun x => sumN (fun _ => lkAt (lit M n x)) (n - 10)) n := by
    rw [sumN_rev]
    refine sumN_congr n fun x hx => sumN_congr _ fun j hj => ?_
    have hn : n = 11 := by omega
    have h0 : j = 0 := by omega
    subst hn h0
    unfold f3 lkAt lit bN
    have : p3 (fun k => cell M (11 - 1 - x) (0 + k)) = p3 (fun j => cell M (11 - 1 - x) (11 - 1 - (10 - j))) := by
      unfold p3; simp
    rw [this]
  have ec : sumN (fun i => sumN (f3' M i) (n - 10)) n = sumN (fun x => sumN (fun _ => lkAt (fun r => lit M n r x)) (n - 10)) n := by
    rw [sumN_rev]
    refine sumN_congr n fun x hx => sumN_congr _ fun j hj => ?_
    have hn : n = 11 := by omega
    have h0 : j = 0 := by omega
    subst hn h0
    unfold f3' lkAt lit bN
    have : p3 (fun k => cell M (0 + k) (11 - 1 - x)) = p3 (fun j => cell M (11 - 1 - (10 - j)) (11 - 1 - x)) := by
      unfold p3; simp
    rw [this]
  unfold lvl3
  rw [er, ec, ← r, ← c]
  omega
end

theorem plain_law : PlainLaw := by
  intro M n hM h1 h2 S1 S2 hS1 hS2
  unfold toldOf pointsOf colPts
  rw [level1_law hM h1 h2, level2_law hM h1 h2 hS1 hS2, level4_law hM h1 h2, level3_law hM h1 h2]
  push_cast
  omega
end Mine
end

open PySem PySem.W PySem.Calls PyProof.Rows
set_option linter.unusedVariables false
set_option maxRecDepth 100000 in
set_option maxHeartbeats 8000000 in
theorem PySem.Challenge.cw_bt5014_01_holds : PySem.Challenge.rw_bt5014_01.Holds := by
  w_on
  o_law
  k_head
  case hw => w_witness2
  w_strict (
    k_fill
    intro w s₀ s₁ mg mb G Y fa o pm cd doc dV kV ho hd hcd hD hmg hg args vals as hpre hlay hrd hwl hlo
    have KX := kIn_of Y
    have X := (Ground.X G).1
    have V := (Ground.X G).2
    have GL := glob_more (Ground.glob G (by first | k_qdec | decide +kernel) (by first | k_qdec | decide +kernel)) V
    refine Ground.open G ?_
    intro T B D TE TW
    try (refine guard_noD D (by decide +kernel) ?_; clear D)
    obtain ⟨bm, ob, M⟩ := bmod_of_top T
    have TA := at_of_top T
    try (obtain ⟨_, _, he, B0⟩ := based_of_top T rfl hmg ho hd; have he' : cd = _ := he; subst he'; clear he)
    clear hmg
    wrow_args hpre hlay hrd hwl hlo
    all_goals (
      first | refine callC_kw (enter_call ?_) | refine enter_call ?_
      w_top on
      have K0 := below_caller (Top.heap T)
      w_call any ho hd hcd hD T F
      rename_i c' P' ns hs hlay0 hL1 hr1 hl2 a4 a3 l vs a0 hL ra w1 r0 hI hr hc1 hc2 h₁ N0
      clear TA
      obtain ⟨c, P, TA⟩ := Mine.tab_mk (by decide +kernel) T
      have TA' := TA
      obtain ⟨_, _, _, _, _, _, _, _, t6⟩ := TA'
      have GIh := Mine.gi_mk (by kernel_rfl) (by decide +kernel) (by decide +kernel) GL B
      refine wpAny_mono (Mine.law_body (mb := mb) (c := c) (P := P) (l := l) Mine.plain_law rfl Mine.caller_ok.deeper GIh M TA (.of_eq hg) ?cScr ⟨F.ns, F.keep, Mine.fresh_none (Nat.le_refl _)⟩) (fun fl s' h => ?cEnd) (fun _ _ h => h.elim)
      case cEnd =>
        obtain ⟨rfl, hos, hgs, ⟨more, ht⟩, hx⟩ := h
        exact ⟨.inl ⟨_, _, [], rfl, fun _ => rfl, ReadsW.bool true, by first | rfl | wrow_post, fun _ => ⟨List.nodup_nil, fun _ hm => (nomatch hm)⟩⟩, OldK.step_table (OldK.refl _) t6 t6 (by simpa using ht) hx (TA.notStatics GIh), hos, hgs⟩
      case cScr =>
        have hlen := hI.length
        refine ⟨vs.toArray, hL, ?_, fun j x e => ?_⟩
        · rw [List.size_toArray]; omega
        · obtain ⟨z, _, hz⟩ := Mine.IntsAre.item hI j x (by simpa using e)
          exact ⟨z, hz⟩))
