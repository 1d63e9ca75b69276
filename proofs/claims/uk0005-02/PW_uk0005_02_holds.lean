import PyProof.Rows.All
import Wide.All
import OpenK.AllK
import Wide.FinOn
import Lean
import PySem.Challenge.RW_uk0005_02
set_option Elab.async false
set_option maxRecDepth 100000
set_option linter.unusedVariables false
set_option linter.unusedSimpArgs false
set_option backward.match.sparseCases false
set_option bootstrap.genMatcherCode false
set_option genSizeOfSpec false
set_option genInjectivity false
namespace Mine
noncomputable section
abbrev VP := PySem.Value → PySem.Shared → Prop
local macro_rules | `(tactic| ext) => `(tactic| kernel_rfl)
section
open PySem PySem.Calls PyProof.Rows
structure SS where
 s : Str
 b : Nat
 h : s.length ≤ b
noncomputable def SS.of (s : Str) : SS := ⟨s, s.length, Nat.le_refl _⟩
noncomputable def SS.pad (s : Str) : SS := if h : s.length ≤ 8 then ⟨s, 8, h⟩ else ⟨s, s.length, Nat.le_refl _⟩
set_option tactic.hygienic false
theorem hid {P : Prop} (h : ¬ P -> False) : P := Classical.byContradiction h
theorem aab {α : Type} {a : α} {P : Prop} (h : (none : Option α) = some a) : P := by cases h
noncomputable def eName (e : Expr) : Option (Str × Pos) := match e with | .Name x p => some (x, p) | _ => none
noncomputable def eSub (e : Expr) : Option (Expr × Expr × Pos) := match e with | .Subscript a i p => some (a, i, p) | _ => none
noncomputable def eTup (e : Expr) : Option (List Expr) := match e with | .Tuple es _ _ => some es | _ => none
noncomputable def eAttr (e : Expr) : Option (Expr × Str × Pos) := match e with | .Attribute o m p => some (o, m, p) | _ => none
noncomputable def eCall (e : Expr) : Option (Expr × List Expr × List Keyword × Pos) := match e with | .Call f as ks p => some (f, as, ks, p) | _ => none
noncomputable def eSlice (e : Expr) : Option (Option Expr × Option Expr × Option Expr) := match e with | .Slice lo hi st _ => some (lo, hi, st) | _ => none
theorem aai {e : Expr} {x : Str} {p : Pos} (h : eName e = some (x, p)) : e = .Name x p := by cases e <;> first | exact aab h | (cases h; rfl)
theorem acw {e a i : Expr} {p : Pos} (h : eSub e = some (a, i, p)) : e = .Subscript a i p := by cases e <;> first | exact aab h | (cases h; rfl)
theorem acx {e : Expr} {es : List Expr} (h : eTup e = some es) : ∃ k p, e = .Tuple es k p := by cases e <;> first | exact aab h | (cases h; exact ⟨_, _, rfl⟩)
theorem ac1 {e o : Expr} {m : Str} {p : Pos} (h : eAttr e = some (o, m, p)) : e = .Attribute o m p := by cases e <;> first | exact aab h | (cases h; rfl)
theorem ab1 {e f : Expr} {as : List Expr} {ks : List Keyword} {p : Pos} (h : eCall e = some (f, as, ks, p)) : e = .Call f as ks p := by cases e <;> first | exact aab h | (cases h; rfl)
theorem aen {e : Expr} {lo hi st : Option Expr} (h : eSlice e = some (lo, hi, st)) : ∃ p, e = .Slice lo hi st p := by cases e <;> first | exact aab h | (cases h; exact ⟨_, rfl⟩)
noncomputable def l1 {α : Type} (l : List α) : Option α := match l with | [a] => some a | _ => none
noncomputable def l2 {α : Type} (l : List α) : Option (α × α) := match l with | [a, b] => some (a, b) | _ => none
theorem aaI {α : Type} {l : List α} {a : α} (h : l1 l = some a) : l = [a] := by
 rcases l with _ | ⟨x, _ | ⟨y, r⟩⟩ <;> first | exact aab h | (cases h; rfl)
theorem acy {α : Type} {l : List α} {a b : α} (h : l2 l = some (a, b)) : l = [a, b] := by
 rcases l with _ | ⟨x, _ | ⟨y, _ | ⟨z, r⟩⟩⟩ <;> first | exact aab h | (cases h; rfl)
theorem SS.pad_s (s : Str) : (SS.pad s).s = s := by
 unfold SS.pad; split <;> rfl
structure Lam where
 params : Arguments
 body : Expr
 scope : Scope
inductive CV where
 | none
 | bool (b : Bool)
 | int (i : Int)
 | str (s : SS)
 | list (xs : List CV)
 | tup (xs : List CV)
 | dict (es : List (SS × CV))
 | iset (xs : List Int)
 | lam (L : Lam) (caps : List (Str × CV))
inductive CO where
 | list (xs : List CV)
 | dict (es : List (SS × CV))
noncomputable def CO.cv : CO -> CV
 | .list xs => .list xs
 | .dict es => .dict es
inductive Slot where
 | val (c : CV)
 | own (o : CO)
 | bor (o : CO)
 | view (o : CO)
 | fix (c : CV)
noncomputable def Slot.cv : Slot -> CV
 | .val c => c
 | .own o => o.cv
 | .bor o => o.cv
 | .view o => o.cv
 | .fix c => c
inductive EV where
 | val (c : CV)
 | ref (x : Str)
structure CE where
 scope : Scope
 vars : List (Str × Slot)
noncomputable def CE.kind (ρ : CE) (x : Str) : Option NameKind := ρ.scope.names.lookup x
noncomputable def CE.get (ρ : CE) (x : Str) : Option Slot := ρ.vars.lookup x
noncomputable def upd : List (Str × Slot) -> Str -> Slot -> List (Str × Slot)
 | [], x, s => [(x, s)]
 | (y, t) :: r, x, s => match x == y with
  | true => (y, s) :: r
  | false => (y, t) :: upd r x s
theorem amo (y : Str) (t : Slot) (r : List (Str × Slot)) (x : Str) (s : Slot) : upd ((y, t) :: r) x s = match x == y with | true => (y, s) :: r | false => (y, t) :: upd r x s := rfl
noncomputable def CE.set (ρ : CE) (x : Str) (s : Slot) : CE := ⟨ρ.scope, upd ρ.vars x s⟩
noncomputable def isVar (k : Option NameKind) : Bool := match k with
 | some .local => true
 | some .cell => true
 | some .free => true
 | _ => false
noncomputable def mayStore (k : Option NameKind) : Bool := match k with
 | some .local => true
 | some .cell => true
 | _ => false
noncomputable def isFix (sl : Option Slot) : Bool := match sl with
 | some (.fix _) => true
 | _ => false
noncomputable def isVal (sl : Option Slot) : Bool := match sl with
 | some (.val _) => true
 | _ => false
noncomputable def CE.drop (ds : Str -> Bool) (ρ : CE) : CE := ⟨ρ.scope, ρ.vars.filter fun p => !(ds p.1 && isVal (ρ.get p.1))⟩
noncomputable def canSet (ρ : CE) (x : Str) : Bool := mayStore (ρ.kind x) && !isFix (ρ.get x)
noncomputable def deref (ρ : CE) : EV -> Option CV
 | .val c => some c
 | .ref x => match ρ.get x with
  | some sl => some sl.cv
  | none => none
noncomputable def freeze (ρ : CE) : EV -> Option (CV × CE)
 | .val c => some (c, ρ)
 | .ref x => match ρ.get x with
  | some (.val c) => some (c, ρ)
  | some (.fix c) => some (c, ρ)
  | some (.own o) => some (o.cv, ρ.set x (.val o.cv))
  | _ => none
structure FS where
 bor : Option Nat
 run : List CV -> List (Str × CV) -> Option (CV × CO)
 cost : Nat
inductive GV where
 | const (c : CV)
 | fn (f : FS)
 | blt
structure GE where
 glob : Str -> Option GV
 owns : Str -> Bool
 drops : Str -> Bool
noncomputable def LIM : Nat := 16777216
noncomputable def constC : Const -> Option CV
 | .none => some .none
 | .bool b => some (.bool b)
 | .int i => some (.int i)
 | .str s => some (.str (SS.of s))
 | _ => none
noncomputable def cvStr (c : CV) : Option SS := match c with | .str x => some x | _ => none
noncomputable def cvInt (c : CV) : Option Int := match c with | .int i => some i | _ => none
noncomputable def cvList (c : CV) : Option (List CV) := match c with | .list l => some l | _ => none
noncomputable def cvDict (c : CV) : Option (List (SS × CV)) := match c with | .dict l => some l | _ => none
theorem aam {c : CV} {x : SS} (h : cvStr c = some x) : c = .str x := by cases c <;> first | exact aab h | (cases h; rfl)
theorem aaj {c : CV} {x : Int} (h : cvInt c = some x) : c = .int x := by cases c <;> first | exact aab h | (cases h; rfl)
theorem aaJ {c : CV} {x : List CV} (h : cvList c = some x) : c = .list x := by cases c <;> first | exact aab h | (cases h; rfl)
theorem abJ {c : CV} {x : List (SS × CV)} (h : cvDict c = some x) : c = .dict x := by cases c <;> first | exact aab h | (cases h; rfl)
noncomputable def truthC : CV -> Option Bool
 | .none => some false
 | .bool b => some b
 | .str s => match Nat.ble s.b 16777216 with
  | true => some (!(s.s.length == 0))
  | false => none
 | _ => none
noncomputable def intsC : List CV -> Option (List Int)
 | [] => some []
 | .int i :: r => match intsC r with
  | some l => some (i :: l)
  | none => none
 | _ :: _ => none
noncomputable def strsC : List CV -> Option (List SS)
 | [] => some []
 | .str x :: r => match strsC r with
  | some l => some (x :: l)
  | none => none
 | _ :: _ => none
noncomputable def eqC (a b : CV) : Option Bool := match a with
 | .int x => match cvInt b with
  | some y => some (x == y)
  | none => none
 | .str x => match cvStr b with
  | some y => some (x.s == y.s)
  | none => none
 | .list xs => match cvList b with
  | some ys => match intsC xs, intsC ys with
   | some a, some b => some (a == b)
   | _, _ => match ys with
    | [] => some (xs.length == 0)
    | _ :: _ => none
  | none => none
 | _ => none
noncomputable def isC (a b : CV) : Option Bool := match a with
 | .bool x => match b with
  | .bool y => some (x == y)
  | .none => some false
  | _ => none
 | .none => match b with
  | .none => some true
  | .bool _ => some false
  | _ => none
 | .int _ => match b with
  | .none => some false
  | _ => none
 | .lam _ _ => match b with
  | .none => some false
  | _ => none
 | _ => none
noncomputable def inC (a b : CV) : Option Bool := match b with
 | .str x => match cvStr a with
  | some y => some (!(Builtin.Str.occurrences x.s y.s 0 x.s.length 1).isEmpty)
  | none => none
 | .iset xs => match cvInt a with
  | some i => some (xs.contains i)
  | none => none
 | _ => none
noncomputable def onot : Option Bool -> Option Bool
 | some b => some (!b)
 | none => none
noncomputable def cmpC (op : CmpOp) (a b : CV) : Option Bool := match op with
 | .Eq => eqC a b
 | .NotEq => onot (eqC a b)
 | .Is => isC a b
 | .IsNot => onot (isC a b)
 | .In => inC a b
 | .NotIn => onot (inC a b)
 | .Lt => match cvInt a, cvInt b with | some x, some y => some (decide (x < y)) | _, _ => none
 | .LtE => match cvInt a, cvInt b with | some x, some y => some (decide (x ≤ y)) | _, _ => none
 | .Gt => match cvInt a, cvInt b with | some x, some y => some (decide (x > y)) | _, _ => none
 | .GtE => match cvInt a, cvInt b with | some x, some y => some (decide (x ≥ y)) | _, _ => none
noncomputable def small (i : Int) : Bool := decide (-1000000 ≤ i) && decide (i ≤ 1000000)
theorem aiR (x y : Str) : (x ++ y).length = x.length + y.length := Str.length_append x y
noncomputable def SS.app (x y : SS) : SS := ⟨x.s ++ y.s, x.b + y.b, by rw [aiR]; exact Nat.add_le_add x.h y.h⟩
noncomputable def addV (a b : CV) : Option CV := match a with
 | .int x => match cvInt b with
  | some y => some (.int (x + y))
  | none => none
 | .str x => match cvStr b with
  | some y => match Nat.ble (x.b + y.b) LIM with
   | true => some (.str (x.app y))
   | false => none
  | none => none
 | .list xs => match cvList b with
  | some ys => match Nat.ble (xs.length + ys.length) LIM with
   | true => some (.list (xs ++ ys))
   | false => none
  | none => none
 | _ => none
noncomputable def binC (op : Operator) (a b : CV) : Option CV := match op with
 | .Add => addV a b
 | .Sub => match cvInt a, cvInt b with
  | some x, some y => some (.int (x - y))
  | _, _ => none
 | .FloorDiv => match cvInt a, cvInt b with
  | some x, some y => match decide (y = 0) || !small y with
   | true => none
   | false => some (.int (Int.fdiv x y))
  | _, _ => none
 | .Mod => match cvInt a, cvInt b with
  | some x, some y => match decide (y = 0) with
   | true => none
   | false => some (.int (Int.fmod x y))
  | _, _ => none
 | .Pow => match cvInt a, cvInt b with
  | some x, some j => match j with
   | .ofNat k => match small x && Nat.ble k 60 with
    | true => some (.int (x ^ k))
    | false => none
   | .negSucc _ => none
  | _, _ => none
 | _ => none
noncomputable def subAtList (xs : List CV) (i : Int) : Option CV := match seqIndex? i xs.length with
 | some k => match Nat.ble xs.length LIM with
  | true => xs[k]?
  | false => none
 | none => none
noncomputable def dget (es : List (SS × CV)) (k : Str) : Option CV := match es with
 | [] => none
 | (x, c) :: r => match k == x.s with
  | true => some c
  | false => dget r k
theorem adP (x : SS) (c : CV) (r : List (SS × CV)) (k : Str) : dget ((x, c) :: r) k = match k == x.s with | true => some c | false => dget r k := rfl
noncomputable def dput (es : List (SS × CV)) (k : SS) (v : CV) : List (SS × CV) := match es with
 | [] => [(k, v)]
 | (x, c) :: r => match k.s == x.s with
  | true => (x, v) :: r
  | false => (x, c) :: dput r k v
theorem aeU (x : SS) (c : CV) (r : List (SS × CV)) (k : SS) (v : CV) : dput ((x, c) :: r) k v = match k.s == x.s with | true => (x, v) :: r | false => (x, c) :: dput r k v := rfl
noncomputable def subAtStr (x : SS) (i : Int) : Option CV := match (seqIndex? i x.s.length).bind (x.s.cps[·]?) with
 | some c => match decide (i < -(2 ^ 63 : Int)) || decide (i ≥ 2 ^ 63) with
  | true => none
  | false => some (.str ⟨⟨#[c]⟩, 1, Nat.le_refl 1⟩)
 | none => none
noncomputable def subC (o i : CV) : Option CV := match o with
 | .list xs => match cvInt i with
  | some i => subAtList xs i
  | none => none
 | .str x => match cvInt i with
  | some i => subAtStr x i
  | none => none
 | .dict es => match cvStr i with
  | some k => dget es k.s
  | none => none
 | _ => none
inductive FC where
 | next
 | brk
 | cont
 | ret (c : CV)
structure SM where
 ev : Expr -> CE -> Option (EV × CE)
 it : Expr -> CE -> Option (Bool × CE)
 xs : Stmt -> CE -> Option (FC × CE)
noncomputable def SM.bot : SM := ⟨fun _ _ => none, fun _ _ => none, fun _ _ => none⟩
noncomputable def SM.evs (S : SM) : List Expr -> CE -> Option (List EV × CE)
 | [], ρ => some ([], ρ)
 | e :: r, ρ => match S.ev e ρ with
  | none => none
  | some (a, ρ) => match S.evs r ρ with
   | none => none
   | some (as, ρ) => some (a :: as, ρ)
theorem aaU {S : SM} {e : Expr} {r : List Expr} {ρ ρ1 ρ2 : CE} {a : EV} {as : List EV} (h : S.ev e ρ = some (a, ρ1)) (k : S.evs r ρ1 = some (as, ρ2)) : S.evs (e :: r) ρ = some (a :: as, ρ2) := by
 show (match S.ev e ρ with | none => none | some (a, ρ) => match S.evs r ρ with | none => none | some (as, ρ) => some (a :: as, ρ)) = _
 rw [h]; dsimp only; rw [k]
noncomputable def SM.xss (S : SM) : List Stmt -> CE -> Option (FC × CE)
 | [], ρ => some (.next, ρ)
 | st :: r, ρ => match S.xs st ρ with
  | none => none
  | some (.next, ρ) => S.xss r ρ
  | some (f, ρ) => some (f, ρ)
set_option tactic.hygienic true
theorem akr (S : SM) (st : Stmt) (r : List Stmt) (ρ : CE) : S.xss (st :: r) ρ = match S.xs st ρ with | none => none | some (.next, ρ) => S.xss r ρ | some (f, ρ) => some (f, ρ) := rfl
noncomputable def derefs (ρ : CE) : List EV -> Option (List CV)
 | [] => some []
 | a :: r => match deref ρ a with
  | none => none
  | some c => match derefs ρ r with
   | none => none
   | some cs => some (c :: cs)
noncomputable def freezes : List EV -> CE -> Option (List CV × CE)
 | [], ρ => some ([], ρ)
 | a :: r, ρ => match freeze ρ a with
  | none => none
  | some (c, ρ) => match freezes r ρ with
   | none => none
   | some (cs, ρ) => some (c :: cs, ρ)
def SM.evd (S : SM) (e : Expr) (ρ : CE) : Option (CV × CE) := match S.ev e ρ with
 | none => none
 | some (a, ρ) => match deref ρ a with
  | none => none
  | some c => some (c, ρ)
def SM.evf (S : SM) (e : Expr) (ρ : CE) : Option (CV × CE) := match S.ev e ρ with
 | none => none
 | some (a, ρ) => freeze ρ a
def SM.ev2 (S : SM) (l r : Expr) (ρ : CE) : Option (CV × CV × CE) := match S.ev l ρ with
 | none => none
 | some (a, ρ) => match S.ev r ρ with
  | none => none
  | some (b, ρ) => match deref ρ a, deref ρ b with
   | some x, some y => some (x, y, ρ)
   | _, _ => none
noncomputable def SM.boolOp (S : SM) (op : BoolOp) : List Expr -> CE -> Option (EV × CE)
 | [], _ => none
 | e :: r, ρ => match r with
  | [] => S.ev e ρ
  | _ :: _ => match S.ev e ρ with
   | none => none
   | some (a, ρ) => match deref ρ a with
    | none => none
    | some c => match truthC c with
     | none => none
     | some t => match op, t with
      | .And, false => some (a, ρ)
      | .Or, true => some (a, ρ)
      | _, _ => S.boolOp op r ρ
set_option tactic.hygienic false
theorem ag8 (S : SM) (op : BoolOp) (e e2 : Expr) (r : List Expr) (ρ : CE) : S.boolOp op (e :: e2 :: r) ρ = match S.ev e ρ with | none => none | some (a, ρ) => match deref ρ a with | none => none | some c => match truthC c with | none => none | some t => match op, t with | .And, false => some (a, ρ) | .Or, true => some (a, ρ) | _, _ => S.boolOp op (e2 :: r) ρ := rfl
theorem ag9 (S : SM) (op : BoolOp) (e : Expr) (ρ : CE) : S.boolOp op [e] ρ = S.ev e ρ := rfl
noncomputable def SM.allT (S : SM) (op : BoolOp) : List Expr -> CE -> Option (Bool × CE)
 | [], ρ => some ((match op with | .And => true | .Or => false), ρ)
 | e :: r, ρ => match S.it e ρ with
  | none => none
  | some (t, ρ) => match op, t with
   | .And, false => some (false, ρ)
   | .Or, true => some (true, ρ)
   | _, _ => S.allT op r ρ
theorem aik (S : SM) (op : BoolOp) (e : Expr) (r : List Expr) (ρ : CE) : S.allT op (e :: r) ρ = match S.it e ρ with | none => none | some (t, ρ) => match op, t with | .And, false => some (false, ρ) | .Or, true => some (true, ρ) | _, _ => S.allT op r ρ := rfl
noncomputable def isTup : CV -> Bool
 | .tup _ => true
 | _ => false
def bindNs : List Expr -> List CV -> CE -> Option CE
 | [], cs, ρ => match cs with
  | [] => some ρ
  | _ :: _ => none
 | t :: r, cs, ρ => match cs with
  | [] => none
  | c :: cs => match eName t with
   | none => none
   | some (x, _) => match canSet ρ x with
    | true => bindNs r cs (ρ.set x (.val c))
    | false => none
noncomputable def bindT (t : Expr) (c : CV) (ρ : CE) : Option CE := match eName t with
 | some (x, _) => match canSet ρ x && !isTup c with
  | true => some (ρ.set x (.val c))
  | false => none
 | none => match eTup t with
  | some ts => match c with
   | .list cs => bindNs ts cs ρ
   | .tup cs => bindNs ts cs ρ
   | _ => none
  | none => none
noncomputable def rangeC (a b : Int) : List CV := (List.range (b - a).toNat).map fun (i : Nat) => CV.int (a + (i : Int))
noncomputable def signsC (x : SS) : List CV := x.s.cps.toList.map fun c => .str ⟨⟨#[c]⟩, 1, Nat.le_refl 1⟩
noncomputable def keysC : List (SS × CV) -> List CV
 | [] => []
 | (k, _) :: r => .str k :: keysC r
theorem afX (k : SS) (c : CV) (r : List (SS × CV)) : keysC ((k, c) :: r) = .str k :: keysC r := rfl
noncomputable def enumC : Nat -> List CV -> List CV
 | _, [] => []
 | i, c :: r => .tup [.int i, c] :: enumC (i + 1) r
theorem aeo (i : Nat) (c : CV) (r : List CV) : enumC i (c :: r) = .tup [.int i, c] :: enumC (i + 1) r := rfl
noncomputable def zipC : List CV -> List CV -> List CV
 | a :: r, b :: t => .tup [a, b] :: zipC r t
 | _, _ => []
noncomputable def itemsC : CV -> Option (List CV)
 | .list xs => some xs
 | .str x => some (signsC x)
 | .dict es => some (keysC es)
 | _ => none
variable (G : GE)
def isBlt (ρ : CE) (x : Str) : Bool := match ρ.kind x, G.glob x with
 | some .globalImplicit, some .blt => true
 | _, _ => false
noncomputable def nRange : Str := "range"
noncomputable def nEnumerate : Str := "enumerate"
noncomputable def nZip : Str := "zip"
noncomputable def nList : Str := "list"
noncomputable def nDict : Str := "dict"
noncomputable def nLen : Str := "len"
noncomputable def nOrd : Str := "ord"
noncomputable def nChr : Str := "chr"
noncomputable def nSorted : Str := "sorted"
noncomputable def nSplit : Str := "split"
noncomputable def nAppend : Str := "append"
noncomputable def nInsert : Str := "insert"
noncomputable def nPop : Str := "pop"
noncomputable def nStartswith : Str := "startswith"
noncomputable def nEndswith : Str := "endswith"
noncomputable def nFind : Str := "find"
noncomputable def nJoin : Str := "join"
noncomputable def nGet : Str := "get"
def evInt (a : EV) : Option Int := match a with
 | .val c => cvInt c
 | .ref _ => none
theorem aft {a : EV} {i : Int} (h : evInt a = some i) : a = .val (.int i) := by
 cases a with
 | val c => rw [aaj h]
 | ref x => exact aab h
noncomputable def SM.evI (S : SM) (e : Expr) (ρ : CE) : Option (Int × CE) := match S.ev e ρ with
 | none => none
 | some (a, ρ) => match evInt a with
  | none => none
  | some i => some (i, ρ)
set_option tactic.hygienic true
theorem adk {S : SM} {e : Expr} {ρ ρ' : CE} {i : Int} (h : S.evI e ρ = some (i, ρ')) : S.ev e ρ = some (.val (.int i), ρ') := by
 unfold SM.evI at h
 split at h
 · exact aab h
 · rename_i h1
   split at h
   · exact aab h
   · rename_i h2
     cases h
     rw [h1, aft h2]
set_option tactic.hygienic false
theorem ail {S : SM} {e : Expr} {ρ ρ' : CE} {i : Int} (h : S.ev e ρ = some (.val (.int i), ρ')) : S.evI e ρ = some (i, ρ') := by
 unfold SM.evI
 rw [h]
 rfl
noncomputable def SM.range (S : SM) (args : List Expr) (ρ : CE) : Option (Int × Int × CE) := match args with
 | [] => none
 | e :: r => match S.evI e ρ with
  | none => none
  | some (a, ρ) => match r with
   | [] => match small a with | true => some (0, a, ρ) | false => none
   | f :: t => match S.evI f ρ with
    | none => none
    | some (b, ρ) => match small a && small b && t.isEmpty with | true => some (a, b, ρ) | false => none
inductive Src where
 | plain (e : Expr)
 | range (args : List Expr)
 | enum (e : Expr)
def srcB (e : Expr) (f : Str) (args : List Expr) : Src := match f == nRange with
 | true => .range args
 | false => match f == nEnumerate with
  | true => match l1 args with
   | some x => .enum x
   | none => .plain e
  | false => .plain e
noncomputable def srcOf (ρ : CE) (e : Expr) : Src := match eCall e with
 | some (f, args, ks, _) => match eName f with
  | some (f, _) => match isBlt G ρ f && ks.isEmpty with
   | true => srcB e f args
   | false => .plain e
  | none => .plain e
 | none => .plain e
theorem ac2 {ρ : CE} {f : Str} {p pos : Pos} {args : List Expr} (hb : isBlt G ρ f = true) : srcOf G ρ (.Call (.Name f p) args [] pos) = srcB (.Call (.Name f p) args [] pos) f args := by
 show (match isBlt G ρ f && true with | true => srcB (.Call (.Name f p) args [] pos) f args | false => .plain (.Call (.Name f p) args [] pos)) = _
 rw [hb]; rfl
theorem aeV {ρ : CE} {e : Expr} {z : Src} (h : srcOf G ρ e = z) : z = .plain e ∨ ∃ f p args pos, e = .Call (.Name f p) args [] pos ∧ isBlt G ρ f = true ∧ (((f == nRange) = true ∧ z = .range args) ∨ ((f == nEnumerate) = true ∧ ∃ x, args = [x] ∧ z = .enum x)) := by
 unfold srcOf at h
 cases hc : eCall e with
 | none => rw [hc] at h; exact .inl h.symm
 | some q =>
  obtain ⟨f, args, ks, pos⟩ := q
  rw [hc] at h
  dsimp only at h
  cases hf : eName f with
  | none => rw [hf] at h; exact .inl h.symm
  | some q =>
   obtain ⟨f', p⟩ := q
   rw [hf] at h
   dsimp only at h
   cases hb : isBlt G ρ f' && ks.isEmpty with
   | false => rw [hb] at h; exact .inl h.symm
   | true =>
    rw [hb] at h
    obtain rfl := ab1 hc
    obtain rfl := aai hf
    have hb := Bool.and_eq_true_iff.mp hb
    obtain rfl := List.isEmpty_iff.mp hb.2
    dsimp only [srcB] at h
    cases hr : f' == nRange with
    | true => rw [hr] at h; exact .inr ⟨_, _, _, _, rfl, hb.1, .inl ⟨hr, h.symm⟩⟩
    | false =>
     rw [hr] at h
     dsimp only at h
     cases he : f' == nEnumerate with
     | false => rw [he] at h; exact .inl h.symm
     | true =>
      rw [he] at h
      dsimp only at h
      cases hl : l1 args with
      | none => rw [hl] at h; exact .inl h.symm
      | some x => rw [hl] at h; exact .inr ⟨_, _, _, _, rfl, hb.1, .inr ⟨he, x, aaI hl, h.symm⟩⟩
def SM.evk (S : SM) (k : Bool) (e : Expr) (ρ : CE) : Option (CV × CE) := match k with
 | true => S.evf e ρ
 | false => S.evd e ρ
noncomputable def isTupT (t : Expr) : Bool := match t with
 | .Tuple _ _ _ => true
 | _ => false
noncomputable def SM.items (S : SM) (k : Bool) (t : Expr) (e : Expr) (ρ : CE) : Option (List CV × CE) := match srcOf G ρ e with
 | .plain e => match S.evk k e ρ with
  | none => none
  | some (c, ρ) => match itemsC c with
   | none => none
   | some cs => match Nat.ble cs.length LIM with
    | true => some (cs, ρ)
    | false => none
 | .range args => match S.range args ρ with
  | none => none
  | some (a, b, ρ) => some (rangeC a b, ρ)
 | .enum e => match isTupT t with
  | false => none
  | true => match S.evk k e ρ with
   | some (.list cs, ρ) => match Nat.ble cs.length LIM with
    | true => some (enumC 0 cs, ρ)
    | false => none
   | _ => none
def dropsT (G : GE) (t : Expr) : Option (Str -> Bool) := match eTup t with
 | some us => match us.any fun u => match eName u with | some (x, _) => G.drops x | none => false with
  | true => some G.drops
  | false => none
 | none => none
def dropF (ds : Option (Str -> Bool)) (r : Option (FC × CE)) : Option (FC × CE) := match ds with
 | none => r
 | some ds => match r with
  | some (f, ρ) => some (f, ρ.drop ds)
  | none => none
noncomputable def loopL (step : CV -> CE -> Option (FC × CE)) : List CV -> CE -> Option (FC × CE)
 | [], ρ => some (.next, ρ)
 | c :: r, ρ => match step c ρ with
  | none => none
  | some (.next, ρ) => loopL step r ρ
  | some (.cont, ρ) => loopL step r ρ
  | some (.brk, ρ) => some (.next, ρ)
  | some (.ret v, ρ) => some (.ret v, ρ)
set_option tactic.hygienic true
theorem aah (step : CV -> CE -> Option (FC × CE)) (c : CV) (r : List CV) (ρ : CE) : loopL step (c :: r) ρ = match step c ρ with | none => none | some (.next, ρ) => loopL step r ρ | some (.cont, ρ) => loopL step r ρ | some (.brk, ρ) => some (.next, ρ) | some (.ret v, ρ) => some (.ret v, ρ) := rfl
theorem ab2 (step : CV -> CE -> Option (FC × CE)) (ρ : CE) : loopL step [] ρ = some (.next, ρ) := rfl
noncomputable def whileL (test : CE -> Option (Bool × CE)) (body : CE -> Option (FC × CE)) : Nat -> CE -> Option (FC × CE)
 | 0, _ => none
 | n + 1, ρ => match test ρ with
  | none => none
  | some (false, ρ) => some (.next, ρ)
  | some (true, ρ) => match body ρ with
   | none => none
   | some (.next, ρ) => whileL test body n ρ
   | some (.cont, ρ) => whileL test body n ρ
   | some (.brk, ρ) => some (.next, ρ)
   | some (.ret v, ρ) => some (.ret v, ρ)
theorem adl (test : CE -> Option (Bool × CE)) (body : CE -> Option (FC × CE)) (n : Nat) (ρ : CE) : whileL test body (n + 1) ρ = match test ρ with | none => none | some (false, ρ) => some (.next, ρ) | some (true, ρ) => match body ρ with | none => none | some (.next, ρ) => whileL test body n ρ | some (.cont, ρ) => whileL test body n ρ | some (.brk, ρ) => some (.next, ρ) | some (.ret v, ρ) => some (.ret v, ρ) := rfl
noncomputable def ifsL (S : SM) : List Expr -> CE -> Option (Bool × CE)
 | [], ρ => some (true, ρ)
 | e :: r, ρ => match S.it e ρ with
  | none => none
  | some (true, ρ) => ifsL S r ρ
  | some (false, ρ) => some (false, ρ)
set_option tactic.hygienic false
theorem aim (S : SM) (e : Expr) (r : List Expr) (ρ : CE) : ifsL S (e :: r) ρ = match S.it e ρ with | none => none | some (true, ρ) => ifsL S r ρ | some (false, ρ) => some (false, ρ) := rfl
noncomputable def accL (step : CV -> CE -> List CV -> Option (List CV × CE)) : List CV -> CE -> List CV -> Option (List CV × CE)
 | [], ρ, acc => some (acc, ρ)
 | c :: r, ρ, acc => match step c ρ acc with
  | none => none
  | some (acc, ρ) => accL step r ρ acc
theorem aks (step : CV -> CE -> List CV -> Option (List CV × CE)) (c : CV) (r : List CV) (ρ : CE) (acc : List CV) : accL step (c :: r) ρ acc = match step c ρ acc with | none => none | some (acc, ρ) => accL step r ρ acc := rfl
noncomputable def compL (S : SM) (elt : Expr) : List Comprehension -> CV -> CE -> List CV -> Option (List CV × CE)
 | [], _, _, _ => none
 | g :: gs, c, ρ, acc => match bindT g.target c ρ with
  | none => none
  | some ρ => match ifsL S g.ifs ρ with
   | none => none
   | some (false, ρ) => some (acc, ρ)
   | some (true, ρ) => match gs with
    | [] => match S.ev elt ρ with
     | some (.val v, ρ) => match Nat.ble acc.length LIM with
      | true => some (acc ++ [v], ρ)
      | false => none
     | _ => none
    | g' :: _ => match S.items G true g'.target g'.iter ρ with
     | none => none
     | some (cs, ρ) => accL (compL S elt gs) cs ρ acc
noncomputable def isCellK (k : Option NameKind) : Bool := match k with
 | some .cell => true
 | some .free => true
 | _ => false
noncomputable def viewOf (sl : Slot) : Slot := match sl with
 | .val c => .val c
 | .own o => .view o
 | .bor o => .view o
 | .view o => .view o
 | .fix c => .val c
noncomputable def taken (ρ : CE) : List (Str × NameKind) -> Option (List (Str × Slot))
 | [] => some []
 | (n, k) :: r => match k with
  | .free => match isCellK (ρ.kind n) with
   | false => none
   | true => match ρ.get n with
    | none => none
    | some sl => match taken ρ r with
     | none => none
     | some l => some ((n, viewOf sl) :: l)
  | _ => taken ρ r
noncomputable def scOk (sc : Scope) : Bool := sc.kind == .function && sc.names.all (fun x => x.2 != .cell) && sc.names.all fun x => sc.names.lookup x.1 == some x.2
noncomputable def asyncNone (gens : List Comprehension) : Bool := gens.all fun g => g.is_async == 0
noncomputable def SM.comp (S : SM) (elt : Expr) (gens : List Comprehension) (sc : Scope) (ρ : CE) : Option (List CV × CE) := match scOk sc && asyncNone gens with
 | false => none
 | true => match gens with
  | [] => none
  | g :: _ => match taken ρ sc.names with
   | none => none
   | some _ => match S.items G false g.target g.iter ρ with
    | none => none
    | some (cs, ρ) => match taken ρ sc.names with
     | none => none
     | some l => match accL (compL G S elt gens) cs ⟨sc, l⟩ [] with
      | none => none
      | some (acc, _) => some (acc, ρ)
def dictOf : List CV -> List CV -> Option (List (SS × CV)) -> Option (List (SS × CV))
 | .str k :: r, v :: t, some es => dictOf r t (some (dput es k v))
 | [], _, es => es
 | _, [], es => es
 | _, _, _ => none
noncomputable def pickC (xs : List CV) (lo hi : Option Int) : List CV :=
 (sliceRange (sliceBounds lo hi none xs.length).1 (sliceBounds lo hi none xs.length).2.1 (sliceBounds lo hi none xs.length).2.2).filterMap (xs[·]?)
variable (G : GE)
noncomputable def frzBut : Option Nat -> List EV -> CE -> Option (List CV × CE)
 | _, [], ρ => some ([], ρ)
 | some 0, _ :: r, ρ => match frzBut none r ρ with
  | some (cs, ρ) => some (.none :: cs, ρ)
  | none => none
 | some (i + 1), a :: r, ρ => match freeze ρ a with
  | none => none
  | some (c, ρ) => match frzBut (some i) r ρ with
   | some (cs, ρ) => some (c :: cs, ρ)
   | none => none
 | none, a :: r, ρ => match freeze ρ a with
  | none => none
  | some (c, ρ) => match frzBut none r ρ with
   | some (cs, ρ) => some (c :: cs, ρ)
   | none => none
noncomputable def SM.kws (S : SM) : List Keyword -> CE -> Option (List (Str × CV) × CE)
 | [], ρ => some ([], ρ)
 | ⟨some n, e, _⟩ :: r, ρ => match S.ev e ρ with
  | some (.val c, ρ) => match S.kws r ρ with
   | some (l, ρ) => some ((n, c) :: l, ρ)
   | none => none
  | _ => none
 | ⟨none, _, _⟩ :: _, _ => none
noncomputable def ownOf (sl : Option Slot) : Option CO := match sl with
 | some (.own o) => some o
 | some (.bor o) => some o
 | _ => none
noncomputable def noView (ρ : CE) : Bool := ρ.vars.all fun p => match p.2 with
 | .view _ => false
 | _ => true
def ownAt (ρ : CE) (x : Str) : Option CO := match noView ρ with
 | true => ownOf (ρ.get x)
 | false => none
noncomputable def reown (sl : Option Slot) (o : CO) : Slot := match sl with
 | some (.bor _) => .bor o
 | _ => .own o
def evRef : Option EV -> Option Str
 | some (.ref x) => some x
 | _ => none
noncomputable def SM.callDef (S : SM) (f : FS) (args : List Expr) (kws : List Keyword) (ρ : CE) : Option (EV × CE) := match S.evs args ρ with
 | none => none
 | some (avs, ρ) => match S.kws kws ρ with
  | none => none
  | some (kvs, ρ) => match frzBut f.bor avs ρ with
   | none => none
   | some (cs, ρ) => match f.bor with
    | some i => match evRef avs[i]? with
     | none => none
     | some x => match ownAt ρ x with
      | none => none
      | some o => match f.run (cs.set i o.cv) kvs with
       | none => none
       | some (c, o') => some (.val c, ρ.set x (reown (ρ.get x) o'))
    | none => match f.run cs kvs with
     | none => none
     | some (c, _) => some (.val c, ρ)
noncomputable def capVars : List (Str × CV) -> List (Str × Slot)
 | [] => []
 | (n, c) :: r => (n, .val c) :: capVars r
theorem afY (n : Str) (c : CV) (r : List (Str × CV)) : capVars ((n, c) :: r) = (n, .val c) :: capVars r := rfl
noncomputable def lamOk (p : Arguments) : Bool := p.posonlyargs.isEmpty && p.vararg.isNone && p.kwonlyargs.isEmpty && p.kwarg.isNone && p.defaults.isEmpty && p.kw_defaults.isEmpty && p.args.all (fun a => a.arg == ("one" : Str))
noncomputable def capsOk (sc : Scope) (caps : List (Str × CV)) : Bool := caps.all fun x => sc.names.lookup x.1 == some .free
noncomputable def SM.callLam (S : SM) (L : Lam) (caps : List (Str × CV)) (cs : List CV) : Option CV := match lamOk L.params && scOk L.scope && !L.scope.isCoroutine && !L.scope.isGenerator && capsOk L.scope caps with
 | false => none
 | true => match L.params.args, cs with
  | [a], [c] => match L.scope.names.lookup a.arg with
   | some .local => match S.ev L.body ⟨L.scope, (a.arg, .val c) :: capVars caps⟩ with
    | some (.val c, _) => some c
    | _ => none
   | _ => none
  | _, _ => none
noncomputable def lamS (sc : Scope) : Bool := match sc.names.lookup ("floor" : Str) with
 | some .cell => true
 | _ => false
def fixO : Option Slot -> Option CV
 | some (.fix c) => some c
 | _ => none
def caught (ρ : CE) : List (Str × NameKind) -> Option (List (Str × CV))
 | [] => some []
 | (n, k) :: r => match k with
  | .free => match isCellK (ρ.kind n) with
   | false => none
   | true => match fixO (ρ.get n) with
    | none => none
    | some c => match caught ρ r with
     | none => none
     | some l => some ((n, c) :: l)
  | _ => caught ρ r
noncomputable def findC (x w : SS) (i j : Int) : Int := match Builtin.Str.occurrences x.s w.s (fromIndex x.s.length i) (min x.s.length (fromIndex x.s.length j)) 1 with
 | k :: _ => (k : Int)
 | [] => -1
def splitC (x : SS) (y : Str) : List CV := (Txt.split x.s y).map fun p => CV.str (SS.pad p)
noncomputable def joinB (b : Nat) : List SS -> Nat
 | [] => 0
 | x :: r => x.b + b + joinB b r
theorem afZ (sep : SS) : ∀ l : List SS, (Txt.join sep.s (l.map (·.s))).length ≤ joinB sep.b l := by
 intro l
 rw [show Txt.join sep.s (l.map (·.s)) = Str.join sep.s (l.map (·.s)) from StrLaws.glued_eq_join _ _]
 refine Nat.le_trans (StrLaws.join_length_le sep.s _) ?_
 induction l with
 | nil => simp
 | cons x r ih =>
  have h1 := x.h
  have h2 := sep.h
  simp only [List.map_cons, List.sum_cons, List.length_cons, joinB] at ih ⊢
  rw [Nat.succ_mul]
  omega
def joinC (sep : SS) (l : List SS) : Option CV := match Nat.ble (joinB sep.b l) LIM && Nat.ble l.length LIM with
 | true => some (.str ⟨Txt.join sep.s (l.map (·.s)), joinB sep.b l, afZ sep l⟩)
 | false => none
def sliceC (o : CV) (lo hi : Option Int) : Option CV := match o with
 | .list xs => match Nat.ble xs.length LIM with
  | true => some (.list (pickC xs lo hi))
  | false => none
 | .str x => match Nat.ble x.b LIM with
  | true => some (.str ⟨Txt.slice x.s lo hi, x.b, Nat.le_trans (Txt.slice_le x.s lo hi) x.h⟩)
  | false => none
 | _ => none
inductive MK where
 | append
 | insert
 | pop
 | startswith
 | endswith
 | find
 | join
 | get
noncomputable def MK.isMut : MK -> Bool
 | .append => true
 | .insert => true
 | .pop => true
 | _ => false
noncomputable def mkindOf (c : CV) (m : Str) : Option MK := match c with
 | .list _ => match m == nAppend with
  | true => some .append
  | false => match m == nInsert with
   | true => some .insert
   | false => match m == nPop with
    | true => some .pop
    | false => none
 | .str _ => match m == nStartswith with
  | true => some .startswith
  | false => match m == nEndswith with
   | true => some .endswith
   | false => match m == nFind with
    | true => some .find
    | false => match m == nJoin with
     | true => some .join
     | false => none
 | .dict _ => match m == nGet with
  | true => some .get
  | false => none
 | _ => none
def baseOk (o : Expr) : Bool := match eCall o with
 | some (_, as, ks, _) => !(as.isEmpty && ks.isEmpty)
 | none => true
def methOk (o : Expr) (n : Nat) (apos pos : Pos) : Bool := baseOk o && apos.endLine == pos.line && decide (n < 30)
noncomputable def methC (k : MK) (o : CV) (args : List CV) : Option CV := match k with
 | .startswith => match cvStr o, l1 args with
  | some x, some c => match cvStr c with
   | some y => some (.bool (Txt.startswith x.s y.s))
   | none => none
  | _, _ => none
 | .endswith => match cvStr o, l1 args with
  | some x, some c => match cvStr c with
   | some y => some (.bool (Txt.endswith x.s y.s))
   | none => none
  | _, _ => none
 | .find => match cvStr o, args with
  | some x, [a, b, c] => match cvStr a, cvInt b, cvInt c with
   | some y, some i, some j => match small i && small j with
    | true => some (.int (findC x y i j))
    | false => none
   | _, _, _ => none
  | _, _ => none
 | .join => match cvStr o, l1 args with
  | some x, some c => match cvList c with
   | some l => match strsC l with
    | some ss => joinC x ss
    | none => none
   | none => none
  | _, _ => none
 | .get => match cvDict o, args with
  | some es, [a] => match cvStr a with
   | some k => match dget es k.s with
    | some c => some c
    | none => some .none
   | none => none
  | some es, [a, b] => match cvStr a, cvInt b with
   | some k, some d => match dget es k.s with
    | some c => some c
    | none => some (.int d)
   | _, _ => none
  | _, _ => none
 | _ => none
noncomputable def mutC (k : MK) (o : CO) (args : List CV) : Option (CV × CO) := match o with
 | .dict _ => none
 | .list xs => match k with
  | .append => match l1 args with
   | some c => match Nat.ble xs.length LIM with
    | true => some (.none, .list (xs ++ [c]))
    | false => none
   | none => none
  | .pop => match l1 args with
   | some a => match cvInt a with
    | some i => match seqIndex? i xs.length with
     | some k => match xs[k]? with
      | some v => match Nat.ble xs.length LIM with
       | true => some (v, .list (xs.eraseIdx k))
       | false => none
      | none => none
     | none => none
    | none => none
   | none => none
  | .insert => match l2 args with
   | some (a, c) => match cvInt a with
    | some i => match Nat.ble xs.length LIM && decide (0 ≤ i) && decide (i ≤ xs.length) with
     | true => some (.none, .list (xs.take i.toNat ++ c :: xs.drop i.toNat))
     | false => none
    | none => none
   | none => none
  | _ => none
noncomputable def insI (n : Int) : List Int -> List Int
 | [] => [n]
 | a :: r => match decide (n ≤ a) with
  | true => n :: a :: r
  | false => a :: insI n r
theorem af0 (n a : Int) (r : List Int) : insI n (a :: r) = match decide (n ≤ a) with | true => n :: a :: r | false => a :: insI n r := rfl
noncomputable def sortI : List Int -> List Int
 | [] => []
 | a :: r => insI a (sortI r)
theorem af1 (a : Int) (r : List Int) : sortI (a :: r) = insI a (sortI r) := rfl
noncomputable def lenC : CV -> Option Int
 | .list xs => some xs.length
 | .str x => some x.s.length
 | .dict es => some es.length
 | _ => none
noncomputable def bltC (f : Str) (c : CV) : Option CV := match f == nLen with
 | true => match lenC c with
  | some n => match decide (n ≤ 1000000) with
   | true => some (.int n)
   | false => none
  | none => none
 | false => match f == nOrd with
  | true => match c with
   | .str x => match x.s.cps.toList with
    | [n] => some (.int n)
    | _ => none
   | _ => none
  | false => match f == nChr with
   | true => match c with
    | .int (.ofNat n) => match Nat.ble n 0xD7FF || (Nat.ble 0xE000 n && Nat.ble n 0x10FFFF) with
     | true => some (.str ⟨⟨#[n]⟩, 1, Nat.le_refl 1⟩)
     | false => none
    | _ => none
   | false => none
inductive Mk where
 | no
 | disp (es : List Expr)
 | comp (elt : Expr) (gens : List Comprehension) (sc : Scope)
 | empty
 | listR (args : List Expr)
 | listE (e : Expr)
 | dictZ (x y : Expr)
 | dictE (e : Expr)
 | sorted (e : Expr)
 | split (o e : Expr)
noncomputable def mkBlt (ρ : CE) (f : Str) (a : Expr) : Mk := match isBlt G ρ f with
 | false => .no
 | true => match f == nList with
  | true => match eCall a with
   | some (g, args, kws, _) => match eName g with
    | some (g, _) => match isBlt G ρ g && g == nRange && kws.isEmpty with
     | true => .listR args
     | false => .no
    | none => .no
   | none => match eName a with
    | some _ => .listE a
    | none => .no
  | false => match f == nDict with
   | true => match eCall a with
    | some (g, args, kws, _) => match eName g, l2 args with
     | some (g, _), some (x, y) => match isBlt G ρ g && g == nZip && kws.isEmpty with
      | true => .dictZ x y
      | false => .no
     | _, _ => .no
    | none => match eName a with
     | some _ => .dictE a
     | none => .no
   | false => match f == nSorted with
    | true => .sorted a
    | false => .no
noncomputable def mkOf (ρ : CE) (e : Expr) : Mk := match e with
 | .List es _ => .disp es
 | .ListComp elt gens sc _ => .comp elt gens sc
 | .Dict ks vs _ => match ks.isEmpty && vs.isEmpty with
  | true => .empty
  | false => .no
 | .Call f args kws pos => match l1 args, kws.isEmpty with
  | some a, true => match eName f with
   | some (f, _) => mkBlt G ρ f a
   | none => match eAttr f with
    | some (o, m, apos) => match m == nSplit && methOk o 1 apos pos with
     | true => .split o a
     | false => .no
    | none => .no
  | _, _ => .no
 | _ => .no
noncomputable def SM.evv2 (S : SM) (l r : Expr) (ρ : CE) : Option (CV × CV × CE) := match S.ev l ρ with
 | some (.val a, ρ) => match S.ev r ρ with
  | some (.val b, ρ) => some (a, b, ρ)
  | _ => none
 | _ => none
noncomputable def SM.make (S : SM) (k : Mk) (ρ : CE) : Option (CO × CE) := match k with
 | .no => none
 | .disp es => match S.evs es ρ with
  | none => none
  | some (avs, ρ) => match freezes avs ρ with
   | none => none
   | some (cs, ρ) => match Nat.ble cs.length LIM with
    | true => some (.list cs, ρ)
    | false => none
 | .comp elt gens sc => match S.comp G elt gens sc ρ with
  | some (cs, ρ) => some (.list cs, ρ)
  | none => none
 | .empty => some (.dict [], ρ)
 | .listR args => match S.range args ρ with
  | some (a, b, ρ) => some (.list (rangeC a b), ρ)
  | none => none
 | .listE e => match S.evd e ρ with
  | none => none
  | some (c, ρ) => match cvList c with
   | none => none
   | some cs => match Nat.ble cs.length LIM with
    | true => some (.list cs, ρ)
    | false => none
 | .dictZ x y => match S.ev2 x y ρ with
  | none => none
  | some (a, b, ρ) => match cvList a, cvList b with
   | some ks, some vs => match Nat.ble ks.length LIM && ks.length == vs.length with
    | true => match dictOf ks vs (some []) with
     | some es => some (.dict es, ρ)
     | none => none
    | false => none
   | _, _ => none
 | .dictE e => match S.evd e ρ with
  | none => none
  | some (c, ρ) => match cvDict c with
   | none => none
   | some es => match Nat.ble es.length LIM with
    | true => some (.dict es, ρ)
    | false => none
 | .sorted e => match S.evd e ρ with
  | none => none
  | some (c, ρ) => match cvList c with
   | none => none
   | some cs => match intsC cs with
    | some ns => match Nat.ble ns.length 63 with
     | true => some (.list ((sortI ns).map CV.int), ρ)
     | false => none
    | none => none
 | .split o e => match S.evv2 o e ρ with
  | none => none
  | some (a, b, ρ) => match cvStr a, cvStr b with
   | some x, some y => match Nat.ble (x.b + 2) LIM && !(y.s.length == 0) with
    | true => some (.list (splitC x y.s), ρ)
    | false => none
   | _, _ => none
def SM.oint (S : SM) : Option Expr -> CE -> Option (Option Int × CE)
 | none, ρ => some (none, ρ)
 | some e, ρ => match S.evI e ρ with
  | none => none
  | some (i, ρ) => some (some i, ρ)
def SM.meth (S : SM) (o : Expr) (m : Str) (args : List Expr) (ρ : CE) : Option (EV × CE) := match S.ev o ρ with
 | none => none
 | some (ov, ρ) => match deref ρ ov with
  | none => none
  | some c0 => match mkindOf c0 m with
   | none => none
   | some k => match S.evs args ρ with
    | none => none
    | some (avs, ρ) => match k.isMut with
     | true => match ov with
      | .val _ => none
      | .ref x => match freezes avs ρ with
       | none => none
       | some (cs, ρ) => match ownAt ρ x with
        | none => none
        | some o => match mutC k o cs with
         | some (c, o') => some (.val c, ρ.set x (reown (ρ.get x) o'))
         | none => none
     | false => match deref ρ ov, derefs ρ avs with
      | some oc, some cs => match methC k oc cs with
       | some c => some (.val c, ρ)
       | none => none
      | _, _ => none
noncomputable def cvLam (c : CV) : Option (Lam × List (Str × CV)) := match c with | .lam L caps => some (L, caps) | _ => none
noncomputable def slLam (s : Option Slot) : Option (Lam × List (Str × CV)) := match s with
 | some s => match s with | .val c => cvLam c | _ => none
 | none => none
set_option tactic.hygienic true
theorem afu {s : Option Slot} {L : Lam} {caps : List (Str × CV)} (h : slLam s = some (L, caps)) : s = some (.val (.lam L caps)) := by
 rcases s with _ | ⟨⟨⟩⟩ <;> first | exact aab h | (cases h; rfl) | (rename_i c; cases c <;> first | exact aab h | (cases h; rfl))
def isG : Option NameKind -> Bool
 | some .globalImplicit => true
 | _ => false
def isL : Option NameKind -> Bool
 | some .local => true
 | _ => false
def fnOf : Option GV -> Option FS
 | some (.fn f) => some f
 | _ => none
def isB : Option GV -> Bool
 | some .blt => true
 | _ => false
noncomputable def SM.call (S : SM) (f : Str) (args : List Expr) (kws : List Keyword) (ρ : CE) : Option (EV × CE) := match isG (ρ.kind f) with
 | true => match fnOf (G.glob f) with
  | some fs => S.callDef fs args kws ρ
  | none => match isB (G.glob f) with
   | false => none
   | true => match kws.isEmpty with
    | false => none
    | true => match l1 args with
     | none => none
     | some e => match S.evd e ρ with
      | none => none
      | some (c, ρ) => match bltC f c with
       | none => none
       | some v => some (.val v, ρ)
 | false => match isL (ρ.kind f) with
  | false => none
  | true => match kws.isEmpty with
   | false => none
   | true => match slLam (ρ.get f) with
    | none => none
    | some (L, caps) => match S.evs args ρ with
     | none => none
     | some (avs, ρ) => match freezes avs ρ with
      | none => none
      | some (cs, ρ) => match S.callLam L caps cs with
       | none => none
       | some c => some (.val c, ρ)
noncomputable def negC (op : UnaryOp) (c : CV) : Option CV := match op, c with
 | .USub, .int i => some (.int (-i))
 | _, _ => none
noncomputable def nameOk (x : Str) : Bool := !(x == ("__debug__" : Str)) && !(x == ("__classdict__" : Str))
noncomputable def evN (S : SM) (e : Expr) (ρ : CE) : Option (EV × CE) := match e with
 | .Constant c _ _ => match constC c with
  | some v => some (.val v, ρ)
  | none => none
 | .Name x _ => match nameOk x with
  | false => none
  | true => match ρ.kind x with
   | some .globalImplicit => match G.glob x with
    | some (.const c) => some (.val c, ρ)
    | _ => none
   | k => match isVar k with
    | true => match ρ.get x with
     | some (.val c) => some (.val c, ρ)
     | some (.fix c) => some (.val c, ρ)
     | some _ => some (.ref x, ρ)
     | none => none
    | false => none
 | .BoolOp op es _ => S.boolOp op es ρ
 | .Compare l ops rs _ => match l1 ops, l1 rs with
  | some op, some r => match behindInMarks op r with
   | true => none
   | false => match S.ev2 l r ρ with
    | some (a, b, ρ) => match cmpC op a b with
     | some t => some (.val (.bool t), ρ)
     | none => none
    | none => none
  | _, _ => none
 | .BinOp l op r _ => match S.ev2 l r ρ with
  | some (a, b, ρ) => match binC op a b with
   | some c => some (.val c, ρ)
   | none => none
  | none => none
 | .UnaryOp op x _ => match S.ev x ρ with
  | some (.val c, ρ) => match negC op c with
   | some v => some (.val v, ρ)
   | none => none
  | _ => none
 | .Lambda p b sc _ => match scOk sc && lamOk p && lamS ρ.scope with
  | true => match caught ρ sc.names with
   | some caps => some (.val (.lam ⟨p, b, sc⟩ caps), ρ)
   | none => none
  | false => none
 | .IfExp t b o _ => match S.it t ρ with
  | some (true, ρ) => S.ev b ρ
  | some (false, ρ) => S.ev o ρ
  | none => none
 | .Call f args kws pos => match eAttr f with
  | some (o, m, apos) => match kws.isEmpty with
   | true => match methOk o args.length apos pos with
    | true => S.meth o m args ρ
    | false => none
   | false => none
  | none => match eName f with
   | some (f, _) => match nameOk f with
    | true => S.call G f args kws ρ
    | false => none
   | none => none
 | .Subscript v i _ => match eSlice i with
  | some (_, _, some _) => none
  | some (lo, hi, none) => match S.ev v ρ with
   | some (a, ρ) => match S.oint lo ρ with
    | some (l, ρ) => match S.oint hi ρ with
     | some (h, ρ) => match deref ρ a with
      | some o => match sliceC o l h with
       | some c => some (.val c, ρ)
       | none => none
      | none => none
     | none => none
    | none => none
   | none => none
  | none => match S.ev2 v i ρ with
   | some (o, k, ρ) => match subC o k with
    | some c => some (.val c, ρ)
    | none => none
   | none => none
 | _ => none
def evStep (S : SM) (e : Expr) (ρ : CE) : Option (EV × CE) := match mkOf G ρ e with
 | .no => evN G S e ρ
 | k => match S.make G k ρ with
  | some (o, ρ) => match noView ρ with
   | true => some (.val o.cv, ρ)
   | false => none
  | none => none
def itStep (S : SM) (e : Expr) (ρ : CE) : Option (Bool × CE) := match e with
 | .UnaryOp op x _ => match op with
  | .Not => match S.it x ρ with
   | some (b, ρ) => some (!b, ρ)
   | none => none
  | _ => none
 | .BoolOp op es _ => S.allT op es ρ
 | .IfExp _ _ _ _ => none
 | .Compare l ops rs _ => match l1 ops, l1 rs with
  | some op, some r => match behindInMarks op r with
   | true => none
   | false => match S.ev2 l r ρ with
    | some (a, b, ρ) => match cmpC op a b with
     | some t => some (t, ρ)
     | none => none
    | none => none
  | _, _ => none
 | e => match S.evd e ρ with
  | some (c, ρ) => match truthC c with
   | some t => some (t, ρ)
   | none => none
  | none => none
def setC (o : CO) (i : CV) (c : CV) : Option CO := match o with
 | .list xs => match cvInt i with
  | some i => match decide (0 ≤ i) && decide (i < xs.length) && Nat.ble xs.length LIM with
   | true => some (.list (xs.set i.toNat c))
   | false => none
  | none => none
 | .dict es => match cvStr i with
  | some k => match Nat.ble es.length LIM with
   | true => some (.dict (dput es k c))
   | false => none
  | none => none
def delC (o : CO) (i : CV) : Option CO := match o with
 | .list xs => match cvInt i with
  | some i => match seqIndex? i xs.length with
   | some k => match Nat.ble xs.length LIM with
    | true => some (.list (xs.eraseIdx k))
    | false => none
   | none => none
  | none => none
 | .dict _ => none
def augC (op : Operator) (a b : CV) : Option CV := match op with
 | .Add => match a with
  | .int _ => binC op a b
  | .str _ => binC op a b
  | _ => none
 | .Sub => binC op a b
 | .FloorDiv => binC op a b
 | _ => none
noncomputable def plainE (e : Expr) : Bool := match e with
 | .ListComp _ _ _ _ => false
 | .SetComp _ _ _ _ => false
 | .DictComp _ _ _ _ _ => false
 | _ => true
noncomputable def notSlice (e : Expr) : Bool := match e with
 | .Slice _ _ _ _ => false
 | _ => true
noncomputable def noStar (e : Expr) : Bool := match e with
 | .Starred _ _ => false
 | _ => true
def pairOk (ρ : CE) (x : Str) (px : Pos) (y : Str) (py : Pos) (a b : Expr) : Bool :=
 ρ.kind x == some .local && ρ.kind y == some .local && !(x == y) && px.line == py.line && noStar a && noStar b && !([a, b].all (foldedForSure 8)) && !([a, b].all (constantsAlone 8))
def asgN (S : SM) (x : Str) (e : Expr) (ρ : CE) : Option (FC × CE) := match mkOf G ρ e with
 | .no => match plainE e with
  | false => none
  | true => match S.evf e ρ with
   | some (c, ρ) => match canSet ρ x with
    | true => some (.next, ρ.set x (.val c))
    | false => none
   | none => none
 | k => match S.make G k ρ with
  | some (o, ρ) => match canSet ρ x && noView ρ with
   | true => match G.owns x with
    | true => some (.next, ρ.set x (.own o))
    | false => some (.next, ρ.set x (.val o.cv))
   | false => none
  | none => none
def asgP (S : SM) (x : Str) (px : Pos) (y : Str) (py : Pos) (a b : Expr) (ρ : CE) : Option (FC × CE) := match pairOk ρ x px y py a b with
 | false => none
 | true => match S.evs [a, b] ρ with
  | none => none
  | some (avs, ρ) => match freezes avs ρ with
   | none => none
   | some (cs, ρ) => match l2 cs with
    | some (c, d) => match canSet ρ x && canSet ρ y with
     | true => some (.next, (ρ.set y (.val d)).set x (.val c))
     | false => none
    | none => none
def asgS (S : SM) (d : Str) (i e : Expr) (ρ : CE) : Option (FC × CE) := match plainE e && nameOk d with
 | false => none
 | true => match S.evf e ρ with
  | none => none
  | some (c, ρ) => match ownAt ρ d with
   | none => none
   | some _ => match S.ev i ρ with
    | some (.val k, ρ) => match ownAt ρ d with
     | some o => match setC o k c with
      | some o' => some (.next, ρ.set d (reown (ρ.get d) o'))
      | none => none
     | none => none
    | _ => none
def augN (S : SM) (x : Str) (op : Operator) (e : Expr) (ρ : CE) : Option (FC × CE) := match nameOk x && isVar (ρ.kind x), ρ.get x with
 | true, some (.val a) => match S.ev e ρ with
  | some (.val b, ρ) => match augC op a b with
   | some c => match canSet ρ x with
    | true => some (.next, ρ.set x (.val c))
    | false => none
   | none => none
  | _ => none
 | _, _ => none
def augS (S : SM) (d : Str) (i : Expr) (op : Operator) (e : Expr) (ρ : CE) : Option (FC × CE) := match nameOk d && notSlice i, ownAt ρ d with
 | true, some _ => match S.ev i ρ with
  | some (.val k, ρ) => match ownAt ρ d with
   | none => none
   | some o => match subC o.cv k with
    | none => none
    | some a => match S.ev e ρ with
     | some (.val b, ρ) => match augC op a b with
      | none => none
      | some c => match ownAt ρ d with
       | none => none
       | some o => match setC o k c with
        | some o' => some (.next, ρ.set d (reown (ρ.get d) o'))
        | none => none
     | _ => none
  | _ => none
 | _, _ => none
def delS (S : SM) (d : Str) (i : Expr) (ρ : CE) : Option (FC × CE) := match nameOk d, ownAt ρ d with
 | true, some _ => match S.ev i ρ with
  | some (.val k, ρ) => match ownAt ρ d with
   | some o => match delC o k with
    | some o' => some (.next, ρ.set d (reown (ρ.get d) o'))
    | none => none
   | none => none
  | _ => none
 | _, _ => none
noncomputable def xsStep (S : SM) (st : Stmt) (ρ : CE) : Option (FC × CE) := match st with
 | .Expr e _ => match plainE e with
  | false => none
  | true => match S.ev e ρ with
   | some (.val .none, ρ) => some (.next, ρ)
   | _ => none
 | .Assign ts e _ => match l1 ts with
  | none => none
  | some t => match eName t with
   | some (x, _) => asgN G S x e ρ
   | none => match eSub t with
    | some (a, i, _) => match eName a with
     | some (d, _) => asgS S d i e ρ
     | none => none
    | none => match eTup t, eTup e with
     | some us, some vs => match l2 us, l2 vs with
      | some (u, v), some (a, b) => match eName u, eName v with
       | some (x, px), some (y, py) => asgP S x px y py a b ρ
       | _, _ => none
      | _, _ => none
     | _, _ => none
 | .AugAssign t op e _ => match eName t with
  | some (x, _) => augN S x op e ρ
  | none => match eSub t with
   | some (a, i, _) => match eName a with
    | some (d, _) => augS S d i op e ρ
    | none => none
   | none => none
 | .Return v _ => match v with
  | some e => match S.evf e ρ with
   | some (c, ρ) => some (.ret c, ρ)
   | none => none
  | none => some (.ret .none, ρ)
 | .If t b o _ => match S.it t ρ with
  | some (true, ρ) => S.xss b ρ
  | some (false, ρ) => S.xss o ρ
  | none => none
 | .For t i b els _ => match els.isEmpty with
  | true => match S.items G true t i ρ with
   | some (cs, ρ) => dropF (dropsT G t) (loopL (fun c ρ => match bindT t c ρ with
    | some ρ => S.xss b ρ
    | none => none) cs ρ)
   | none => none
  | false => none
 | .While t b els _ => match els.isEmpty with
  | true => whileL (S.it t) (S.xss b) 100 ρ
  | false => none
 | .Assert t m _ => match m with
  | none => match S.it t ρ with
   | some (true, ρ) => some (.next, ρ)
   | _ => none
  | some _ => none
 | .Delete ts _ => match l1 ts with
  | some t => match eSub t with
   | some (a, i, _) => match eName a with
    | some (d, _) => delS S d i ρ
    | none => none
   | none => none
  | none => none
 | _ => none
def stepS (S : SM) : SM := ⟨evStep G S, itStep S, xsStep G S⟩
def sem : Nat -> SM
 | 0 => SM.bot
 | n + 1 => stepS G (sem n)
structure DD where
 ps : List Str
 dflt : List (Str × CV)
 ko : List (Str × CV)
 body : List Stmt
 scope : Scope
 bor : Option Nat
noncomputable def coOf : CV -> Option CO
 | .list xs => some (.list xs)
 | .dict es => some (.dict es)
 | _ => none
noncomputable def bindPos : Option Nat -> List Str -> List CV -> List (Str × CV) -> Option (List (Str × Slot))
 | _, [], [], _ => some []
 | _, [], _ :: _, _ => none
 | b, p :: ps, [], d => match d.lookup p with
  | some c => match bindPos none ps [] d with
   | some l => some ((p, .val c) :: l)
   | none => none
  | none => none
 | some 0, p :: ps, c :: cs, d => match coOf c with
  | some o => match bindPos none ps cs d with
   | some l => some ((p, .bor o) :: l)
   | none => none
  | none => none
 | some (i + 1), p :: ps, c :: cs, d => match bindPos (some i) ps cs d with
  | some l => some ((p, .val c) :: l)
  | none => none
 | none, p :: ps, c :: cs, d => match bindPos none ps cs d with
  | some l => some ((p, .val c) :: l)
  | none => none
noncomputable def bindKo : List (Str × CV) -> List (Str × CV) -> List (Str × Slot)
 | [], _ => []
 | (k, d) :: r, kvs => (k, .val (match kvs.lookup k with | some c => c | none => d)) :: bindKo r kvs
noncomputable def kwFit (ko kvs : List (Str × CV)) : Bool := match kvs with
 | [] => true
 | [(k, _)] => ko.any fun x => x.1 == k
 | _ => false
noncomputable def lentBack (d : DD) (ρ : CE) : Option CO := match d.bor with
 | none => some (.list [])
 | some i => match d.ps[i]? with
  | none => none
  | some p => match ρ.get p with
   | some (.bor o) => some o
   | _ => none
noncomputable def nFloor : Str := "floor"
def fixCE (ρ : CE) : CE := match lamS ρ.scope, ρ.get nFloor with
 | true, some (.val c) => ρ.set nFloor (.fix c)
 | _, _ => ρ
def runDef (G : GE) (n : Nat) (d : DD) (pos : List CV) (kvs : List (Str × CV)) : Option (CV × CO) := match kwFit d.ko kvs with
 | false => none
 | true => match bindPos d.bor d.ps pos d.dflt with
  | none => none
  | some l => match (sem G n).xss d.body (fixCE ⟨d.scope, l ++ bindKo d.ko kvs⟩) with
   | some (.ret c, ρ) => match lentBack d ρ with
    | some o => some (c, o)
    | none => none
   | some (.next, ρ) => match lentBack d ρ with
    | some o => some (.none, o)
    | none => none
   | _ => none
noncomputable def ddOf (p : Program) (name : Str) (bor : Option Nat) : Option DD := match p.theDef name with
 | some (a, b, sc) => some { ps := a.args.map (·.arg), dflt := [("lo", .int 0), ("hi", .none)], ko := a.kwonlyargs.map fun x => (x.arg, .none), body := b, scope := sc, bor := bor }
 | none => none
abbrev FH := Addr -> Option Obj
section
variable (prog : Program) (w : World)
def LO (o : Obj) (vs : List Value) : Prop := ∃ n, o = { cls := .type "list", data := .seq vs.toArray n }
def TO (o : Obj) (vs : List Value) : Prop := o.cls = .type "tuple" ∧ ∃ n, o.data = .seq vs.toArray n
def DO (o : Obj) (kvs : List (Str × Value)) : Prop :=
 o.ExactDict ∧ ∃ es ep, o.data = .dict es ep ∧ KeysOf (strKind prog w) es ∧ Pairs (strKind prog w) es.toList kvs ∧ (kvs.map (·.1)).Nodup
def SO (o : Obj) (xs : List Int) : Prop := ∃ es ep t, o.ExactSet ∧ o.data = .set es ep t ∧ ElemsOf (intKind prog w) es.toList ∧
 (∀ k, xs.contains k = true ↔ ∃ e ∈ es.toList, (intKind prog w).is k e.2 = true) ∧ es.size < scanBound ∧ t.fits es.size = true
noncomputable def fnO (L : Lam) (clos : List (Str × Addr)) (pm cd ct : Value) (qual : Str) (name : Str) : Obj :=
 { cls := .type "function", data := .func (PySem.W.kla_fn name qual L.params L.body L.scope clos pm cd ct) }
def CLR (F : FH) (clos : List (Str × Addr)) : Prop :=
 (∀ n ca, clos.lookup n = some ca -> ∃ o v, F ca = some o ∧ o.data = .cell v) ∧ ∀ n m ca, clos.lookup n = some ca -> clos.lookup m = some ca -> n = m
set_option tactic.hygienic false
theorem CLR.mono {F F' : FH} {clos : List (Str × Addr)} (r : CLR F clos) (h : ∀ a o, F a = some o -> F' a = some o) : CLR F' clos :=
 ⟨fun n ca e => let ⟨o, v, a, b⟩ := r.1 n ca e; ⟨o, v, h _ _ a, b⟩, r.2⟩
mutual
noncomputable abbrev RV (F : FH) : CV -> Value -> Prop
 | .none, v => v = .none
 | .bool b, v => v = .bool b
 | .int i, v => ∃ t, v = .int i t
 | .str s, v => ∃ t, v = .str s.s t
 | .list xs, v => ∃ a o vs, v = .ref a ∧ F a = some o ∧ LO o vs ∧ RVs F xs vs
 | .tup xs, v => ∃ a o vs, v = .ref a ∧ F a = some o ∧ TO o vs ∧ RVs F xs vs
 | .dict es, v => ∃ a o kvs, v = .ref a ∧ F a = some o ∧ (DO prog w o kvs ∧ a ≠ sysModules) ∧ RVd F es kvs
 | .iset xs, v => ∃ a o, v = .ref a ∧ F a = some o ∧ SO prog w o xs
 | .lam L caps, v => ∃ a o clos pm cd ct qual name, v = .ref a ∧ F a = some o ∧ o = fnO L clos pm cd ct qual name ∧
  (∃ c oc vs t, cd = .ref c ∧ F c = some oc ∧ oc.data = .fields vs ∧ vs[1]? = some (.str qual t)) ∧ CLR F clos ∧ RVc F caps clos
noncomputable abbrev RVs (F : FH) : List CV -> List Value -> Prop
 | [], vs => vs = []
 | c :: cs, vs => ∃ v r, vs = v :: r ∧ RV F c v ∧ RVs F cs r
noncomputable abbrev RVd (F : FH) : List (SS × CV) -> List (Str × Value) -> Prop
 | [], kvs => kvs = []
 | (k, c) :: cs, kvs => ∃ v r, kvs = (k.s, v) :: r ∧ RV F c v ∧ RVd F cs r
noncomputable abbrev RVc (F : FH) : List (Str × CV) -> List (Str × Addr) -> Prop
 | [], _ => True
 | (n, c) :: cs, clos => (∃ ca o v, clos.lookup n = some ca ∧ F ca = some o ∧ o.data = .cell (some v) ∧ RV F c v) ∧ RVc F cs clos
end
mutual
set_option tactic.hygienic false
theorem RV.mono {F F' : FH} (h : ∀ a o, F a = some o -> F' a = some o) : ∀ (c : CV) (v : Value), RV prog w F c v -> RV prog w F' c v
 | .none, _, r => by exact r
 | .bool _, _, r => by exact r
 | .int _, _, r => by exact r
 | .str _, _, r => by exact r
 | .list xs, v, r => by
  obtain ⟨a, o, vs, e, f, l, q⟩ := r
  exact ⟨a, o, vs, e, h _ _ f, l, RVs.mono h xs vs q⟩
 | .tup xs, v, r => by
  obtain ⟨a, o, vs, e, f, l, q⟩ := r
  exact ⟨a, o, vs, e, h _ _ f, l, RVs.mono h xs vs q⟩
 | .dict es, v, r => by
  obtain ⟨a, o, vs, e, f, l, q⟩ := r
  exact ⟨a, o, vs, e, h _ _ f, l, RVd.mono h es vs q⟩
 | .iset xs, v, r => by
  obtain ⟨a, o, e, f, l⟩ := r
  exact ⟨a, o, e, h _ _ f, l⟩
 | .lam L caps, v, r => by
  obtain ⟨a, o, clos, pm, cd, ct, qual, name, e, f, l, ⟨c, oc, vs, t, e1, e2, e3, e4⟩, e5, q⟩ := r
  exact ⟨a, o, clos, pm, cd, ct, qual, name, e, h _ _ f, l, ⟨c, oc, vs, t, e1, h _ _ e2, e3, e4⟩, e5.mono h, RVc.mono h caps clos q⟩
theorem RVs.mono {F F' : FH} (h : ∀ a o, F a = some o -> F' a = some o) : ∀ (c : List CV) (v : List Value), RVs prog w F c v -> RVs prog w F' c v
 | [], _, r => by exact r
 | c :: cs, vs, r => by
  obtain ⟨v, t, e, a, b⟩ := r
  exact ⟨v, t, e, RV.mono h c v a, RVs.mono h cs t b⟩
theorem RVd.mono {F F' : FH} (h : ∀ a o, F a = some o -> F' a = some o) : ∀ (c : List (SS × CV)) (v : List (Str × Value)), RVd prog w F c v -> RVd prog w F' c v
 | [], _, r => by exact r
 | (k, c) :: cs, vs, r => by
  obtain ⟨v, t, e, a, b⟩ := r
  exact ⟨v, t, e, RV.mono h c v a, RVd.mono h cs t b⟩
theorem RVc.mono {F F' : FH} (h : ∀ a o, F a = some o -> F' a = some o) : ∀ (c : List (Str × CV)) (v : List (Str × Addr)), RVc prog w F c v -> RVc prog w F' c v
 | [], _, _ => trivial
 | (n, c) :: cs, clos, r => by
  obtain ⟨⟨ca, o, v, a, b, d, e⟩, q⟩ := r
  exact ⟨⟨ca, o, v, a, h _ _ b, d, RV.mono h c v e⟩, RVc.mono h cs clos q⟩
end
inductive ORl (F : FH) (h : Heap) (xs : List CV) (a : Addr) : Prop
 | mk (ob : Obj) (vs : List Value) (h1 : h.get? a = some ob) (h2 : LO ob vs) (h3 : RVs prog w F xs vs)
inductive ORd (F : FH) (h : Heap) (es : List (SS × CV)) (a : Addr) : Prop
 | mk (ob : Obj) (kvs : List (Str × Value)) (h1 : h.get? a = some ob) (h2 : DO prog w ob kvs ∧ a ≠ sysModules) (h3 : RVd prog w F es kvs)
def OR (F : FH) (h : Heap) (o : CO) (a : Addr) : Prop := match o with
 | .list xs => ORl prog w F h xs a
 | .dict es => ORd prog w F h es a
set_option tactic.hygienic false
theorem OR.mono {F F' : FH} {h h' : Heap} {o : CO} {a : Addr} (r : OR prog w F h o a) (hF : ∀ a o, F a = some o -> F' a = some o) (hk : ∀ ob, h.get? a = some ob -> h'.get? a = some ob) :
 OR prog w F' h' o a := by
 cases o with
 | list xs => obtain ⟨ob, vs, e, l, q⟩ := r; exact ⟨ob, vs, hk _ e, l, RVs.mono prog w hF _ _ q⟩
 | dict es => obtain ⟨ob, vs, e, l, q⟩ := r; exact ⟨ob, vs, hk _ e, l, RVd.mono prog w hF _ _ q⟩
end
structure Wd where
 prog : Program
 w : World
 F0 : FH
 mg : Str -> Option Value
 mb : Str -> Option Value
 tabs : List (Addr × Addr × Str)
 tabsNone : ∀ t ∈ tabs, F0 t.2.1 = none
 tabsOne : ∀ t ∈ tabs, ∀ u ∈ tabs, t.2.1 = u.2.1 -> t.2.2 = u.2.2
 mods : ∃ o, F0 sysModules = some o
 lent : Option Addr
def Wd.T (W : Wd) (a : Addr) : Prop := ∃ t ∈ W.tabs, t.2.1 = a
def TabOK (F : FH) (h : Heap) (P : Addr) (q : Str) : Prop := ∃ ps, h.get? P = some (PySem.W.tabObj ps) ∧ TriplesOk ps.toList ∧
 ∀ pos cv, codeAmong pos ps.toList = some cv -> ∃ c oc vs t, cv = .ref c ∧ F c = some oc ∧ oc.data = .fields vs ∧ vs[1]? = some (.str q t)
structure Inv (W : Wd) (F : FH) (s : Shared) : Prop where
 frz : ∀ a o, F a = some o -> s.heap.get? a = some o
 base : ∀ a o, W.F0 a = some o -> F a = some o
 tab : ∀ t ∈ W.tabs, TabOK F s.heap t.2.1 t.2.2 ∧ F t.2.1 = none
def Fre (h : Heap) (a : Addr) : Prop := h.get? a = none
set_option tactic.hygienic false
theorem Fre.size (h : Heap) {a : Addr} (q : h.objs.size ≤ a) : Fre h a := by
 cases e : h.get? a with
 | none => exact e
 | some o => exact absurd (Heap.lt_size e) (Nat.not_lt.mpr q)
theorem Fre.ne {h : Heap} {a b : Addr} {o : Obj} (q : Fre h a) (e : h.get? b = some o) : a ≠ b := fun z => by
 unfold Fre at q
 rw [z, e] at q; cases q
structure Stp (W : Wd) (M : Addr -> Prop) (F F' : FH) (s s' : Shared) : Prop where
 keep : ∀ a o, s.heap.get? a = some o -> ¬ M a -> ¬ W.T a -> s'.heap.get? a = some o
 live : ∀ a o, s.heap.get? a = some o -> M a -> ∃ o', s'.heap.get? a = some o'
 sub : ∀ a o, F a = some o -> F' a = some o
 new : ∀ a o, F' a = some o -> F a = some o ∨ M a ∨ Fre s.heap a
 same : s'.gens = s.gens ∧ s'.drawn = s.drawn ∧ s'.os = s.os
 inv : Inv W F' s'
theorem Stp.refl {W : Wd} {M : Addr -> Prop} {F : FH} {s : Shared} (I : Inv W F s) : Stp W M F F s s :=
 ⟨fun _ _ e _ _ => e, fun _ o e _ => ⟨o, e⟩, fun _ _ e => e, fun _ _ e => .inl e, ⟨rfl, rfl, rfl⟩, I⟩
theorem Inv.tabThere {W : Wd} {F : FH} {s : Shared} (I : Inv W F s) {a : Addr} (h : W.T a) : ∃ o, s.heap.get? a = some o := by
 obtain ⟨t, ht, q⟩ := h
 obtain ⟨⟨ps, e1, _⟩, _⟩ := I.tab t ht
 exact ⟨_, q ▸ e1⟩
theorem Stp.back {W : Wd} {M : Addr -> Prop} {F F' : FH} {s s' : Shared} (x : Stp W M F F' s s') {a : Addr} (h : Fre s'.heap a) : Fre s.heap a := by
 cases e : s.heap.get? a with
 | none => exact e
 | some o =>
  exfalso
  by_cases m : M a
  · obtain ⟨o', e'⟩ := x.live a o e m
    exact h.ne e' rfl
  · by_cases t : W.T a
    · obtain ⟨o', e'⟩ := x.inv.tabThere t
      exact h.ne e' rfl
    · exact h.ne (x.keep a o e m t) rfl
theorem Stp.there {W : Wd} {M : Addr -> Prop} {F F' : FH} {s s' : Shared} (x : Stp W M F F' s s') {a : Addr} {o : Obj} (e : s.heap.get? a = some o) : ∃ o', s'.heap.get? a = some o' := by
 cases e' : s'.heap.get? a with
 | some o' => exact ⟨o', rfl⟩
 | none => exact absurd rfl (Fre.ne (x.back e') e)
theorem Stp.trans {W : Wd} {M M' : Addr -> Prop} {F F' F'' : FH} {s s' s'' : Shared} (x : Stp W M F F' s s') (y : Stp W M' F' F'' s' s'') (hM : ∀ a, M' a -> M a ∨ Fre s.heap a) :
 Stp W M F F'' s s'' where
 keep := fun a o e m t => y.keep a o (x.keep a o e m t) (fun m' => (hM a m').elim m fun q => q.ne e rfl) t
 live := fun a o e _ => by
  obtain ⟨o', e'⟩ := x.there e
  exact y.there e'
 sub := fun a o e => y.sub a o (x.sub a o e)
 new := fun a o e => by
  rcases y.new a o e with q | q | q
  · exact x.new a o q
  · exact (hM a q).elim (fun m => .inr (.inl m)) fun m => .inr (.inr m)
  · exact .inr (.inr (x.back q))
 same := ⟨y.same.1.trans x.same.1, y.same.2.1.trans x.same.2.1, y.same.2.2.trans x.same.2.2⟩
 inv := y.inv
theorem Stp.weaken {W : Wd} {M M' : Addr -> Prop} {F F' : FH} {s s' : Shared} (x : Stp W M F F' s s') (hM : ∀ a, M a -> M' a ∨ Fre s.heap a) : Stp W M' F F' s s' where
 keep := fun a o e m t => x.keep a o e (fun q => (hM a q).elim m fun z => z.ne e rfl) t
 live := fun a o e _ => x.there e
 sub := x.sub
 new := fun a o e => by
  rcases x.new a o e with q | q | q
  · exact .inl q
  · exact .inr (hM a q)
  · exact .inr (.inr q)
 same := x.same
 inv := x.inv
theorem Stp.ofKeep {W : Wd} {F : FH} {s : Shared} {h' : Heap} {tk : Nat} (I : Inv W F s) (hk : ∀ a o, s.heap.get? a = some o -> h'.get? a = some o) :
 Stp W (fun _ => False) F F s { s with heap := h', toks := tk } :=
 ⟨fun a o e _ _ => hk a o e, fun a o e _ => ⟨o, hk a o e⟩, fun _ _ e => e, fun _ _ e => .inl e, ⟨rfl, rfl, rfl⟩, ⟨fun a o e => hk a o (I.frz a o e), I.base, fun t ht => ⟨by
  obtain ⟨⟨ps, e1, e2, e3⟩, _⟩ := I.tab t ht
  exact ⟨ps, hk _ _ e1, e2, e3⟩, (I.tab t ht).2⟩⟩⟩
theorem Stp.past {W : Wd} {M wr : Addr -> Prop} {F F' : FH} {s s1 : Shared} {h' : Heap} {tk : Nat} (x : Stp W M F F' s s1) (hw : ∀ a, wr a -> Fre s.heap a ∧ F' a = none ∧ ¬ W.T a)
 (hk : ∀ a o, ¬ wr a -> s1.heap.get? a = some o -> h'.get? a = some o) : Stp W M F F' s { s1 with heap := h', toks := tk } where
 keep := fun a o e m t => hk a o (fun q => (hw a q).1.ne e rfl) (x.keep a o e m t)
 live := fun a o e m => by
  obtain ⟨o', e'⟩ := x.there e
  exact ⟨o', hk a o' (fun q => (hw a q).1.ne e rfl) e'⟩
 sub := x.sub
 new := x.new
 same := x.same
 inv := ⟨fun a o e => hk a o (fun q => by rw [(hw a q).2.1] at e; cases e) (x.inv.frz a o e), x.inv.base, fun t ht => ⟨by
  obtain ⟨⟨ps, e1, e2, e3⟩, _⟩ := x.inv.tab t ht
  exact ⟨ps, hk _ _ (fun q => (hw _ q).2.2 ⟨t, ht, rfl⟩) e1, e2, e3⟩, (x.inv.tab t ht).2⟩⟩
noncomputable def FH.add (F : FH) (a : Addr) (o : Obj) : FH := fun b => if b = a then some o else F b
theorem FH.add_self (F : FH) (a : Addr) (o : Obj) : F.add a o a = some o := by simp [FH.add]
set_option tactic.hygienic true
theorem FH.add_sub {F : FH} {a : Addr} {o : Obj} (hn : F a = none) : ∀ b ob, F b = some ob -> F.add a o b = some ob := fun b ob e => by
 unfold FH.add
 split
 · rename_i h; subst h; rw [hn] at e; cases e
 · exact e
set_option tactic.hygienic false
theorem Inv.notTab {W : Wd} {F : FH} {s : Shared} (I : Inv W F s) {a : Addr} {o : Obj} (e : F a = some o) : ¬ W.T a := fun ⟨t, ht, q⟩ => by
 rw [<- q, (I.tab t ht).2] at e; cases e
set_option tactic.hygienic true
theorem Inv.add {W : Wd} {F : FH} {s : Shared} (I : Inv W F s) {a : Addr} {o : Obj} (hn : F a = none) (ha : s.heap.get? a = some o) (ht : ¬ W.T a) : Inv W (F.add a o) s where
 frz := fun b ob e => by
  unfold FH.add at e
  split at e
  · rename_i h; subst h; cases e; exact ha
  · exact I.frz b ob e
 base := fun b ob e => FH.add_sub hn b ob (I.base b ob e)
 tab := fun t h => by
  obtain ⟨⟨ps, e1, e2, e3⟩, e4⟩ := I.tab t h
  refine ⟨⟨ps, e1, e2, fun pos cv q => ?_⟩, ?_⟩
  · obtain ⟨c, oc, vs, t, a1, a2, a3, a4⟩ := e3 pos cv q
    exact ⟨c, oc, vs, t, a1, FH.add_sub hn _ _ a2, a3, a4⟩
  · unfold FH.add
    rw [if_neg (fun q => ht ⟨t, h, q⟩)]; exact e4
theorem Stp.freeze {W : Wd} {M : Addr -> Prop} {F F' : FH} {s s' : Shared} (x : Stp W M F F' s s') {a : Addr} {o : Obj} (hn : F' a = none) (ha : s'.heap.get? a = some o) (ht : ¬ W.T a)
 (hm : M a ∨ Fre s.heap a) : Stp W M F (F'.add a o) s s' where
 keep := x.keep
 live := x.live
 sub := fun b ob e => FH.add_sub hn b ob (x.sub b ob e)
 new := fun b ob e => by
  unfold FH.add at e
  split at e
  · rename_i h; subst h; exact .inr hm
  · exact x.new b ob e
 same := x.same
 inv := x.inv.add hn ha ht
set_option tactic.hygienic false
theorem Inv.fresh {W : Wd} {F : FH} {s : Shared} (I : Inv W F s) {a : Addr} (h : Fre s.heap a) : F a = none := by
 cases e : F a with
 | none => rfl
 | some o => exact absurd rfl (h.ne (I.frz a o e))
theorem Inv.notMods {W : Wd} {F : FH} {s : Shared} (I : Inv W F s) {a : Addr} (h : Fre s.heap a) : a ≠ sysModules := by
 obtain ⟨o, e⟩ := W.mods
 exact h.ne (I.frz _ _ (I.base _ _ e))
theorem Inv.tabOld {W : Wd} {F : FH} {s : Shared} (I : Inv W F s) {a : Addr} (h : Fre s.heap a) : ¬ W.T a := fun q => by
 obtain ⟨o, e⟩ := I.tabThere q
 exact h.ne e rfl
def VarIs (h : Heap) (env : Env) (x : Str) (v : Value) : Prop :=
 (env.kindOf x = some .local ∧ ∃ m, h.Ns env.locals m ∧ m x = some v) ∨
 ((env.kindOf x = some .cell ∨ env.kindOf x = some .free) ∧ ∃ ca, env.cells.lookup x = some ca ∧ h.IsCell ca (some v))
inductive SOwn (W : Wd) (F : FH) (h : Heap) (ad : Str -> Option Addr) (x : Str) (o : CO) (v : Value) : Prop
 | mk (a : Addr) (h1 : v = .ref a) (h2 : ad x = some a) (h3 : OR W.prog W.w F h o a)
inductive SBor (W : Wd) (F : FH) (h : Heap) (ad : Str -> Option Addr) (x : Str) (o : CO) (v : Value) : Prop
 | mk (a : Addr) (h1 : v = .ref a) (h2 : ad x = some a) (h3 : OR W.prog W.w F h o a) (h4 : W.lent = some a)
inductive SView (W : Wd) (F : FH) (h : Heap) (env : Env) (o : CO) (v : Value) : Prop
 | mk (a : Addr) (h1 : v = .ref a) (h2 : a + 1 < env.locals) (h3 : OR W.prog W.w F h o a)
inductive SFix (W : Wd) (F : FH) (env : Env) (x : Str) (c : CV) (v : Value) : Prop
 | mk (h0 : RV W.prog W.w F c v) (ca : Addr) (o : Obj) (h1 : env.kindOf x = some .cell) (h2 : env.cells.lookup x = some ca) (h3 : F ca = some o) (h4 : o.data = .cell (some v))
noncomputable def SlotR (W : Wd) (F : FH) (h : Heap) (env : Env) (ad : Str -> Option Addr) (x : Str) : Slot -> Value -> Prop
 | .val c, v => RV W.prog W.w F c v
 | .own o, v => SOwn W F h ad x o v
 | .bor o, v => SBor W F h ad x o v
 | .view o, v => SView W F h env o v
 | .fix c, v => SFix W F env x c v
inductive OwnS (W : Wd) (F : FH) (h : Heap) (env : Env) (ρ : CE) (x : Str) (a : Addr) : Prop
 | mk (h1 : (ownOf (ρ.get x)).isSome = true) (h2 : F a = none) (h3 : ¬ W.T a) (h4 : a ≠ env.locals) (h5 : ∀ y ca, env.cells.lookup y = some ca -> a ≠ ca) (h6 : ∃ o, h.get? a = some o)
inductive CellS (W : Wd) (F : FH) (h : Heap) (env : Env) (x : Str) : Prop
 | mk (ca : Addr) (v0 : Option Value) (h1 : env.cells.lookup x = some ca) (h2 : h.IsCell ca v0) (h3 : F ca = none) (h4 : ¬ W.T ca)
structure KindR (W : Wd) (env : Env) (ρ : CE) : Prop where
 fn : env.scope.kind = .function
 glo : env.globals = mainGlobals
 blt : env.builtins = builtinsNs
 loc : ∀ x, ρ.kind x = some .local -> env.kindOf x = some .local
 cell : ∀ x, ρ.kind x = some .cell -> env.kindOf x = some .cell
 free : ∀ x, ρ.kind x = some .free -> env.kindOf x = some .free ∨ env.kindOf x = some .cell
 glob : ∀ x, ρ.kind x = some .globalImplicit -> env.kindOf x = some .globalImplicit
 apart : ∀ x y ca, env.cells.lookup x = some ca -> env.cells.lookup y = some ca -> x = y
 cellF : ∀ x, ρ.kind x = some .cell -> env.frame = some env.locals
 lam : lamS ρ.scope = true -> ∃ c P, env.code = .ref c ∧ (c, P, env.qual ++ "<lambda>") ∈ W.tabs
structure Rel (W : Wd) (F : FH) (h : Heap) (env : Env) (ρ : CE) (ad : Str -> Option Addr) : Prop where
 kind : KindR W env ρ
 ns : ∃ m, h.Ns env.locals m
 nsF : F env.locals = none
 nsT : ¬ W.T env.locals
 var : ∀ x sl, ρ.get x = some sl -> ∃ v, VarIs h env x v ∧ SlotR W F h env ad x sl v
 cells : ∀ x, ρ.kind x = some .cell -> isFix (ρ.get x) = false -> CellS W F h env x
 own : ∀ x a, ad x = some a -> OwnS W F h env ρ x a
 inj : ∀ x y a, ad x = some a -> ad y = some a -> x = y
 cl : ∀ x a, env.cells.lookup x = some a -> ∃ v, h.IsCell a v
 frm : ∀ f, env.frame = some f -> ∃ o, h.get? f = some o
def ownA (ad : Str -> Option Addr) (a : Addr) : Prop := ∃ x, ad x = some a
def frmA (env : Env) (ad : Str -> Option Addr) (a : Addr) : Prop := ownA ad a ∨ a = env.locals ∨ (env.frame = some env.locals ∧ ∃ x, env.kindOf x = some .cell ∧ env.cells.lookup x = some a)
def EVR (W : Wd) (F : FH) (h : Heap) (env : Env) : EV -> Value -> Prop
 | .val c, v => RV W.prog W.w F c v
 | .ref x, v => VarIs h env x v
def Room (A : Around) (k : Nat) : Prop := A.handled = none ∧ A.depth + k < 1000 ∧ A.units + 4 * k < 9900
theorem Room.in1 {A : Around} {k : Nat} (R : Room A (k + 1)) : Room A.in1 k := ⟨R.1, by have := R.2.1; show A.depth + k < 1000; omega, by have := R.2.2; show A.units + 1 + 4 * k < 9900; omega⟩
theorem Room.deeper {A : Around} {k : Nat} (R : Room A (k + 1)) (env : Env) : Room (A.deeper env) k := ⟨R.1, by have := R.2.1; show A.depth + 1 + k < 1000; omega, by have := R.2.2; show A.units + 3 + 4 * k < 9900; omega⟩
theorem Room.le {A : Around} {k j : Nat} (R : Room A k) (h : j ≤ k) : Room A j := ⟨R.1, by have := R.2.1; omega, by have := R.2.2; omega⟩
theorem Room.hh {A : Around} {k : Nat} (R : Room A k) : A.handled = none := R.1
theorem Room.dep {A : Around} {k : Nat} (R : Room A k) : A.depth < recursionLimit := by have := R.2.1; show A.depth < 1000; omega
theorem Room.uni {A : Around} {k : Nat} (R : Room A k) : A.units < cLine := by have := R.2.2; show A.units < 9900; omega
theorem abd {h : Heap} {a ca : Addr} {m : Str -> Option Value} {v : Option Value} (x : h.Ns a m) (y : h.IsCell ca v) : ca ≠ a := fun e => by
 obtain ⟨o, es, ep, e1, e2, _⟩ := x
 obtain ⟨o', e3, e4⟩ := y
 subst e
 rw [e1] at e3
 cases e3
 rw [e2] at e4; cases e4
section
variable {W : Wd} {F F' : FH} {s s' : Shared} {env : Env} {ρ : CE} {ad : Str -> Option Addr} {M : Addr -> Prop}
set_option tactic.hygienic false
theorem VarIs.keep {h h' : Heap} {x : Str} {v : Value} (r : VarIs h env x v) (hk : ∀ a o, (a = env.locals ∨ ∃ y, env.cells.lookup y = some a) -> h.get? a = some o -> h'.get? a = some o) : VarIs h' env x v := by
 refine hid fun z0 => ?_
 rcases r with ⟨k, m, ⟨o, es, ep, e, r⟩, q⟩ | ⟨k, ca, c, ⟨o, e, r⟩⟩
 · refine z0 ?_
   exact .inl ⟨k, m, ⟨o, es, ep, hk _ _ (.inl rfl) e, r⟩, q⟩
 · refine z0 ?_
   exact .inr ⟨k, ca, c, ⟨o, hk _ _ (.inr ⟨x, c⟩) e, r⟩⟩
theorem VarIs.uniq {h : Heap} {x : Str} {v v' : Value} (r : VarIs h env x v) (r' : VarIs h env x v') : v = v' := by
 rcases r with ⟨k, m, n, q⟩ | ⟨k, ca, c, ⟨o, e, d⟩⟩ <;> rcases r' with ⟨k', m', n', q'⟩ | ⟨k', ca', c', ⟨o', e', d'⟩⟩
 · obtain ⟨o, es, ep, e, e2, _, e3⟩ := n
   refine hid fun z1 => ?_
   obtain ⟨o', es', ep', e', e2', _, e3'⟩ := n'
   rw [e] at e'; cases e'
   rw [e2] at e2'; cases e2'
   rw [<- e3, e3' x, q'] at q
   refine z1 ?_
   exact (Option.some.inj q).symm
 · rw [k] at k'; rcases k' with k' | k' <;> cases k'
 · rw [k'] at k; rcases k with k | k <;> cases k
 · rw [c] at c'; cases c'
   rw [e] at e'; cases e'
   rw [d] at d'; cases d'; rfl
theorem Rel.own_apart (R : Rel W F s.heap env ρ ad) {a : Addr} (h : a = env.locals ∨ ∃ y, env.cells.lookup y = some a) : ¬ ownA ad a := fun ⟨x, e⟩ => by
 obtain ⟨_, _, _, q1, q2, _⟩ := R.own x a e
 rcases h with h | ⟨y, h⟩
 · exact q1 h
 · exact q2 y a h rfl
theorem OR.cls {h : Heap} {o : CO} {a : Addr} (r : OR W.prog W.w F h o a) : ∃ ob, h.get? a = some ob ∧ ob.cls ≠ .none := by
 refine hid fun z0 => ?_
 cases o with
 | list xs => obtain ⟨ob, vs, e, ⟨n, l⟩, _⟩ := r; refine z0 ?_; exact ⟨ob, e, by rw [l]; exact fun q => by cases q⟩
 | dict es => obtain ⟨ob, vs, e, ⟨⟨⟨l, _⟩, _⟩, _⟩, _⟩ := r; refine z0 ?_; exact ⟨ob, e, by rw [l]; exact fun q => by cases q⟩
theorem Inv.tabCls (I : Inv W F s) {a : Addr} (h : W.T a) {ob : Obj} (e : s.heap.get? a = some ob) : ob.cls = .none := by
 obtain ⟨t, ht, q⟩ := h
 refine hid fun z1 => ?_
 obtain ⟨⟨ps, e1, _⟩, _⟩ := I.tab t ht
 rw [q, e] at e1
 cases e1; refine z1 ?_; rfl
theorem Inv.notTabOR (I : Inv W F s) {o : CO} {a : Addr} (r : OR W.prog W.w F s.heap o a) : ¬ W.T a := fun h => by
 obtain ⟨ob, e, q⟩ := OR.cls r
 exact q (I.tabCls h e)
theorem Inv.notTabNs (I : Inv W F s) {a : Addr} {m} (n : s.heap.Ns a m) : ¬ W.T a := fun ⟨t, ht, q⟩ => by
 obtain ⟨o, es, ep, e, d, _⟩ := n
 obtain ⟨⟨ps, e1, _⟩, _⟩ := I.tab t ht
 rw [q, e] at e1
 cases e1; cases d
theorem Inv.notTabCell (I : Inv W F s) {a : Addr} {v} (n : s.heap.IsCell a v) : ¬ W.T a := fun ⟨t, ht, q⟩ => by
 obtain ⟨o, e, d⟩ := n
 obtain ⟨⟨ps, e1, _⟩, _⟩ := I.tab t ht
 rw [q, e] at e1
 cases e1; cases d
theorem Rel.keep (R : Rel W F s.heap env ρ ad) (I : Inv W F s) (S : Stp W M F F' s s')
 (hM : ∀ a, M a -> ¬ ownA ad a ∧ a ≠ env.locals ∧ (∀ y, env.cells.lookup y ≠ some a) ∧ ∀ x o v, ρ.get x = some (.view o) -> VarIs s.heap env x v -> v ≠ .ref a) : Rel W F' s'.heap env ρ ad where
 kind := R.kind
 ns := let ⟨m, o, es, ep, e, r⟩ := R.ns; ⟨m, o, es, ep, S.keep _ _ e (fun q => (hM _ q).2.1 rfl) R.nsT, r⟩
 nsF := by
  cases e : F' env.locals with
  | none => rfl
  | some o => rcases S.new _ _ e with q | q | q
              · rw [R.nsF] at q; cases q
              · exact absurd rfl (hM _ q).2.1
              · obtain ⟨m, o', es, ep, e', _⟩ := R.ns; exact absurd rfl (q.ne e')
 nsT := R.nsT
 var := fun x sl h => by
  obtain ⟨v, hv, hs⟩ := R.var x sl h
  have hv' : VarIs s'.heap env x v := by
   rcases hv with ⟨k, m, n, q⟩ | ⟨k, ca, c, y⟩
   · have nt := I.notTabNs n
     obtain ⟨o, es, ep, e, r⟩ := n
     exact .inl ⟨k, m, ⟨o, es, ep, S.keep _ _ e (fun q => (hM _ q).2.1 rfl) nt, r⟩, q⟩
   · have nt := I.notTabCell y
     obtain ⟨o, e, r⟩ := y
     exact .inr ⟨k, ca, c, ⟨o, S.keep _ _ e (fun q => (hM _ q).2.2.1 x c) nt, r⟩⟩
  refine ⟨v, hv', ?_⟩
  cases sl with
  | val c => exact RV.mono _ _ S.sub _ _ hs
  | own o =>
   obtain ⟨a, e1, e2, e3⟩ := hs
   exact ⟨a, e1, e2, OR.mono _ _ e3 S.sub fun ob q => S.keep _ _ q (fun m => (hM _ m).1 ⟨x, e2⟩) (I.notTabOR e3)⟩
  | bor o =>
   obtain ⟨a, e1, e2, e3, e4⟩ := hs
   exact ⟨a, e1, e2, OR.mono _ _ e3 S.sub fun ob q => S.keep _ _ q (fun m => (hM _ m).1 ⟨x, e2⟩) (I.notTabOR e3), e4⟩
  | view o =>
   obtain ⟨a, e1, e0, e3⟩ := hs
   exact ⟨a, e1, e0, OR.mono _ _ e3 S.sub fun ob q => S.keep _ _ q (fun m => (hM _ m).2.2.2 x o v h hv e1) (I.notTabOR e3)⟩
  | fix c =>
   obtain ⟨e1, ca, o, e2, e3, e4, e5⟩ := hs
   exact ⟨RV.mono _ _ S.sub _ _ e1, ca, o, e2, e3, S.sub _ _ e4, e5⟩
 cells := fun x hk hf => by
  obtain ⟨ca, v0, e1, e2, e3, e4⟩ := R.cells x hk hf
  obtain ⟨o, e, r⟩ := e2
  refine ⟨ca, v0, e1, ⟨o, S.keep _ _ e (fun q => (hM _ q).2.2.1 x e1) e4, r⟩, ?_, e4⟩
  cases e' : F' ca with
  | none => rfl
  | some o' => rcases S.new _ _ e' with q | q | q
               · rw [e3] at q; cases q
               · exact absurd e1 ((hM _ q).2.2.1 x)
               · exact absurd rfl (q.ne e)
 own := fun x a e => by
  obtain ⟨q1, q2, q3, q4, q5, q6⟩ := R.own x a e
  obtain ⟨oq, q6⟩ := q6
  refine ⟨q1, ?_, q3, q4, q5, S.there q6⟩
  cases e' : F' a with
  | none => rfl
  | some o' => rcases S.new _ _ e' with q | q | q
               · rw [q2] at q; cases q
               · exact absurd ⟨x, e⟩ (hM _ q).1
               · exact absurd rfl (q.ne q6)
 inj := R.inj
 cl := fun x a e => by
  obtain ⟨v, y⟩ := R.cl x a e
  have nt := I.notTabCell y
  obtain ⟨o, e1, e2⟩ := y
  exact ⟨v, o, S.keep _ _ e1 (fun q => (hM _ q).2.2.1 x e) nt, e2⟩
 frm := fun f e => let ⟨_, q⟩ := R.frm f e; S.there q
theorem Rel.keep0 (R : Rel W F s.heap env ρ ad) (I : Inv W F s) (S : Stp W (fun _ => False) F F' s s') : Rel W F' s'.heap env ρ ad := R.keep I S fun _ m => m.elim
end
def EvOK (W : Wd) (k : Nat) (ev : Expr -> CE -> Option (EV × CE)) : Prop :=
 ∀ e ρ r ρ', ev e ρ = some (r, ρ') -> ∀ (A : Around) (env : Env) (F : FH) (s : Shared) (ad : Str -> Option Addr), Room A k -> Inv W F s -> Rel W F s.heap env ρ ad ->
  ∀ (Q : VP) (E : VP),
   (∀ v F' s' ad', Stp W (ownA ad) F F' s s' -> Rel W F' s'.heap env ρ' ad' -> (∀ x a, ad' x = some a -> ad x = some a) -> EVR W F' s'.heap env r v -> Q v s') ->
   wpAny (model W.prog W.w) A (eval e env) Q E s
def ItOK (W : Wd) (k : Nat) (it : Expr -> CE -> Option (Bool × CE)) : Prop :=
 ∀ e ρ b ρ', it e ρ = some (b, ρ') -> ∀ (A : Around) (env : Env) (F : FH) (s : Shared) (ad : Str -> Option Addr), Room A k -> Inv W F s -> Rel W F s.heap env ρ ad ->
  ∀ (Q : Bool -> Shared -> Prop) (E : VP),
   (∀ F' s' ad', Stp W (ownA ad) F F' s s' -> Rel W F' s'.heap env ρ' ad' -> (∀ x a, ad' x = some a -> ad x = some a) -> Q b s') ->
   wpAny (model W.prog W.w) A (isTrue e env (eval e env)) Q E s
def FlR (W : Wd) (F : FH) : FC -> Flow -> Prop
 | .next, f => f = .next
 | .brk, f => f = .brk
 | .cont, f => f = .cont
 | .ret c, f => ∃ v, f = .ret v ∧ RV W.prog W.w F c v
def XsOK (W : Wd) (k : Nat) (xs : Stmt -> CE -> Option (FC × CE)) : Prop :=
 ∀ st ρ r ρ', xs st ρ = some (r, ρ') -> ∀ (A : Around) (env : Env) (F : FH) (s : Shared) (ad : Str -> Option Addr), Room A k -> Inv W F s -> Rel W F s.heap env ρ ad ->
  ∀ (Q : Flow -> Shared -> Prop) (E : VP),
   (∀ f F' s' ad', Stp W (frmA env ad) F F' s s' -> Rel W F' s'.heap env ρ' ad' -> (∀ x a, ad' x = some a -> ad x = some a ∨ Fre s.heap a) -> FlR W F' r f -> Q f s') ->
   wpAny (model W.prog W.w) A (exec st env) Q E s
structure SmOK (W : Wd) (k : Nat) (S : SM) : Prop where
 ev : EvOK W k S.ev
 it : ItOK W k S.it
 xs : XsOK W k S.xs
set_option tactic.hygienic false
theorem afv (l : List (Str × Slot)) (x y : Str) (s : Slot) : (upd l x s).lookup y = if y = x then some s else l.lookup y := by
 induction l with
 | nil =>
  show List.lookup y [(x, s)] = _
  by_cases h : y = x
  · subst h; simp [List.lookup]
  · have : (y == x) = false := beq_eq_false_iff_ne.mpr h
    simp [List.lookup, this, h]
 | cons p r ih =>
  obtain ⟨k, t⟩ := p
  rw [amo]
  cases hk : x == k with
  | true =>
   have e : x = k := beq_iff_eq.mp hk
   subst e
   by_cases h : y = x
   · subst h; simp [List.lookup]
   · have : (y == x) = false := beq_eq_false_iff_ne.mpr h
     simp [List.lookup, this, h]
  | false =>
   have e : x ≠ k := beq_eq_false_iff_ne.mp hk
   by_cases h : y = k
   · subst h
     have : y ≠ x := fun q => e q.symm
     simp [List.lookup, this]
   · have : (y == k) = false := beq_eq_false_iff_ne.mpr h
     simp only [List.lookup, this]
     exact ih
theorem aaN (ρ : CE) (x y : Str) (s : Slot) : (ρ.set x s).get y = if y = x then some s else ρ.get y := afv _ _ _ _
theorem aha (ρ : CE) (x : Str) (s : Slot) (y : Str) : (ρ.set x s).kind y = ρ.kind y := rfl
section
variable {W : Wd} {F F' : FH} {s s' : Shared} {env : Env} {ρ : CE} {ad : Str -> Option Addr} {M : Addr -> Prop} {A : Around} {E : VP}
set_option tactic.hygienic false
theorem adm {x : Str} {v : Value} {Q : VP} (hk : env.scope.kind = .function) (r : VarIs s.heap env x v) (h : Q v s) (hn : (x == ("__classdict__" : Str)) = false) :
 wpAny (model W.prog W.w) A (loadName env x) Q E s := by
 refine hid fun z0 => ?_
 rcases r with ⟨k, m, n, q⟩ | ⟨k | k, ca, c, y⟩
 · refine z0 ?_
   exact wpAny_loadName_local hk k n q h
 · refine z0 ?_
   exact wpAny_loadName_cell hk k c y h
 · refine z0 ?_
   exact wpAny_loadName_free hk k c y h hn
theorem OR.toRV {h : Heap} {o : CO} {a : Addr} (r : OR W.prog W.w F h o a) (hn : F a = none) : ∃ ob, h.get? a = some ob ∧ RV W.prog W.w (F.add a ob) o.cv (.ref a) := by
 refine hid fun z0 => ?_
 cases o with
 | list xs =>
  obtain ⟨ob, vs, e, l, q⟩ := r
  refine z0 ?_
  refine ⟨ob, e, ?_⟩
  simp only [CO.cv]
  exact ⟨a, ob, vs, rfl, FH.add_self .., l, RVs.mono _ _ (FH.add_sub hn) _ _ q⟩
 | dict es =>
  obtain ⟨ob, vs, e, l, q⟩ := r
  refine z0 ?_
  refine ⟨ob, e, ?_⟩
  simp only [CO.cv]
  exact ⟨a, ob, vs, rfl, FH.add_self .., l, RVd.mono _ _ (FH.add_sub hn) _ _ q⟩
noncomputable def without1 (ad : Str -> Option Addr) (x : Str) : Str -> Option Addr := fun y => if y = x then none else ad y
set_option tactic.hygienic true
theorem aa4 {ad : Str -> Option Addr} {x y : Str} {a : Addr} (h : without1 ad x y = some a) : y ≠ x ∧ ad y = some a := by
 unfold without1 at h
 refine hid fun z0 => ?_
 split at h
 · cases h
 · rename_i q; refine z0 ?_; exact ⟨q, h⟩
set_option tactic.hygienic false
theorem adn {F : FH} {a b : Addr} {ob : Obj} (h : F b = none) (hab : b ≠ a) : F.add a ob b = none := by
 unfold FH.add; rw [if_neg hab]; exact h
theorem afw (I : Inv W F s) (R : Rel W F s.heap env ρ ad) {x : Str} {o : CO} {v : Value} (hx : ρ.get x = some (.own o)) (hv : VarIs s.heap env x v) :
 ∃ F', Stp W (ownA ad) F F' s s ∧ Rel W F' s.heap env (ρ.set x (.val o.cv)) (without1 ad x) ∧ RV W.prog W.w F' o.cv v := by
 refine hid fun z0 => ?_
 obtain ⟨v', hv', a, e1, e2, e3⟩ := R.var x _ hx
 obtain rfl := hv.uniq hv'
 subst e1
 obtain ⟨_, q2, q3, q4, q5, q6⟩ := R.own x a e2
 obtain ⟨ob, e4, e5⟩ := e3.toRV q2
 have S : Stp W (ownA ad) F (F.add a ob) s s := (Stp.refl I).freeze q2 e4 q3 (.inl ⟨x, e2⟩)
 refine z0 ?_
 refine ⟨F.add a ob, S, ?_, e5⟩
 have sub := S.sub
 refine ⟨⟨R.kind.fn, R.kind.glo, R.kind.blt, R.kind.loc, R.kind.cell, R.kind.free, R.kind.glob, R.kind.apart, R.kind.cellF, R.kind.lam⟩, R.ns, adn R.nsF (Ne.symm q4), R.nsT, fun y sl hy => ?_, fun y hk hf => ?_, fun y b hb => ?_, fun y z b h1 h2 => R.inj y z b (aa4 h1).2 (aa4 h2).2, R.cl, R.frm⟩
 · rw [aaN] at hy
   refine hid fun z1 => ?_
   by_cases hyx : y = x
   · subst hyx
     rw [if_pos rfl] at hy; cases hy
     refine z1 ?_
     exact ⟨_, hv, e5⟩
   · rw [if_neg hyx] at hy
     obtain ⟨u, hu, hs⟩ := R.var y sl hy
     refine z1 ?_
     refine ⟨u, hu, ?_⟩
     cases sl with
     | val c => exact RV.mono _ _ sub _ _ hs
     | own o' => obtain ⟨b, f1, f2, f3⟩ := hs; exact ⟨b, f1, by unfold without1; rw [if_neg hyx]; exact f2, f3.mono _ _ sub fun _ q => q⟩
     | bor o' => obtain ⟨b, f1, f2, f3, f4⟩ := hs; exact ⟨b, f1, by unfold without1; rw [if_neg hyx]; exact f2, f3.mono _ _ sub fun _ q => q, f4⟩
     | view o' => obtain ⟨b, f1, f0, f3⟩ := hs; exact ⟨b, f1, f0, f3.mono _ _ sub fun _ q => q⟩
     | fix c => obtain ⟨f1, ca, oc, f2, f3, f4, f5⟩ := hs; exact ⟨RV.mono _ _ sub _ _ f1, ca, oc, f2, f3, sub _ _ f4, f5⟩
 · rw [aaN] at hf
   have hf' : isFix (ρ.get y) = false := by
    refine hid fun z3 => ?_
    by_cases hyx : y = x
    · subst hyx; refine z3 ?_; rw [hx]; rfl
    · rw [if_neg hyx] at hf; refine z3 ?_; exact hf
   obtain ⟨ca, v0, f1, f2, f3, f4⟩ := R.cells y hk hf'
   exact ⟨ca, v0, f1, f2, adn f3 (Ne.symm (q5 y ca f1)), f4⟩
 · obtain ⟨hyx, hb⟩ := aa4 hb
   refine hid fun z6 => ?_
   obtain ⟨p1, p2, p3, p4, p5, p6⟩ := R.own y b hb
   refine z6 ?_
   refine ⟨by rw [aaN, if_neg hyx]; exact p1, adn p2 (fun q => hyx (R.inj y x a (q ▸ hb) e2)), p3, p4, p5, p6⟩
inductive FzV (W : Wd) (env : Env) (ad : Str -> Option Addr) (F : FH) (s : Shared) (ρ' : CE) (c : CV) (v : Value) : Prop
 | mk (F' : FH) (ad' : Str -> Option Addr) (h1 : Stp W (ownA ad) F F' s s) (h2 : Rel W F' s.heap env ρ' ad') (h3 : ∀ x a, ad' x = some a -> ad x = some a) (h4 : RV W.prog W.w F' c v)
theorem abP (I : Inv W F s) (R : Rel W F s.heap env ρ ad) {a : EV} {c : CV} {ρ' : CE} {v : Value} (h : freeze ρ a = some (c, ρ')) (hv : EVR W F s.heap env a v) :
 FzV W env ad F s ρ' c v := by
 cases a with
 | val c' => simp only [freeze, Option.some.injEq, Prod.mk.injEq] at h; obtain ⟨rfl, rfl⟩ := h; exact ⟨F, ad, .refl I, R, fun _ _ e => e, hv⟩
 | ref x =>
  unfold freeze at h
  dsimp only at h
  refine hid fun z1 => ?_
  cases hx : ρ.get x with
  | none => rw [hx] at h; cases h
  | some sl =>
   rw [hx] at h
   have hu := R.var x sl hx
   cases sl with
   | val c' => cases h; obtain ⟨u, hu, hs⟩ := hu; refine z1 ?_; exact ⟨F, ad, .refl I, R, fun _ _ e => e, by rw [VarIs.uniq hv hu]; exact hs⟩
   | fix c' => cases h; obtain ⟨u, hu, hs⟩ := hu; refine z1 ?_; exact ⟨F, ad, .refl I, R, fun _ _ e => e, by rw [VarIs.uniq hv hu]; exact hs.1⟩
   | own o => cases h; obtain ⟨F', S, R', q⟩ := afw I R hx hv; refine z1 ?_; exact ⟨F', _, S, R', fun _ _ e => (aa4 e).2, q⟩
   | bor o => cases h
   | view o => cases h
def CvAt (W : Wd) (F : FH) (h : Heap) (c : CV) (v : Value) : Prop := RV W.prog W.w F c v ∨ ∃ o a, c = CO.cv o ∧ v = .ref a ∧ OR W.prog W.w F h o a
theorem aaV (R : Rel W F s.heap env ρ ad) {a : EV} {c : CV} {v : Value} (h : deref ρ a = some c) (hv : EVR W F s.heap env a v) : CvAt W F s.heap c v := by
 refine hid fun z0 => ?_
 cases a with
 | val c' => cases h; refine z0 ?_; exact .inl hv
 | ref x =>
  unfold deref at h
  dsimp only at h
  cases hx : ρ.get x with
  | none => rw [hx] at h; cases h
  | some sl =>
   rw [hx] at h; cases h
   obtain ⟨u, hu, hs⟩ := R.var x sl hx
   obtain rfl := VarIs.uniq hv hu
   cases sl with
   | val c' => refine z0 ?_; exact .inl hs
   | fix c' => refine z0 ?_; exact .inl hs.1
   | own o => obtain ⟨b, e1, _, e3⟩ := hs; refine z0 ?_; exact .inr ⟨o, b, rfl, e1, e3⟩
   | bor o => obtain ⟨b, e1, _, e3, _⟩ := hs; refine z0 ?_; exact .inr ⟨o, b, rfl, e1, e3⟩
   | view o => obtain ⟨b, e1, _, e3⟩ := hs; refine z0 ?_; exact .inr ⟨o, b, rfl, e1, e3⟩
theorem EVR.step (I : Inv W F s) (R : Rel W F s.heap env ρ ad) (S : Stp W (ownA ad) F F' s s') {a : EV} {v : Value} (h : EVR W F s.heap env a v) : EVR W F' s'.heap env a v := by
 cases a with
 | val c => exact RV.mono _ _ S.sub _ _ h
 | ref x =>
  refine hid fun z1 => ?_
  rcases h with ⟨k, m, n, q⟩ | ⟨k, ca, c, y⟩
  · have nt := I.notTabNs n
    obtain ⟨o, es, ep, e, r⟩ := n
    refine z1 ?_
    exact .inl ⟨k, m, ⟨o, es, ep, S.keep _ _ e (R.own_apart (.inl rfl)) nt, r⟩, q⟩
  · have nt := I.notTabCell y
    obtain ⟨o, e, r⟩ := y
    refine z1 ?_
    exact .inr ⟨k, ca, c, ⟨o, S.keep _ _ e (R.own_apart (.inr ⟨x, c⟩)) nt, r⟩⟩
theorem aag {ad ad' : Str -> Option Addr} (h : ∀ x a, ad' x = some a -> ad x = some a) : ∀ a, ownA ad' a -> ownA ad a ∨ Fre s.heap a := fun a ⟨x, e⟩ => .inl ⟨x, h x a e⟩
inductive NewOwn (W : Wd) (F : FH) (h : Heap) (env : Env) (ad : Str -> Option Addr) (x : Str) (o : CO) (v : Value) (A' : Option Addr) : Prop
 | mk (a : Addr) (h1 : v = .ref a) (h2 : A' = some a) (h3 : OR W.prog W.w F h o a) (h4 : F a = none) (h5 : ¬ W.T a) (h6 : a ≠ env.locals) (h7 : ∀ y ca, env.cells.lookup y = some ca -> a ≠ ca) (h8 : ∀ y, y ≠ x -> ad y ≠ some a)
def NewSlot (W : Wd) (F : FH) (h : Heap) (env : Env) (ad : Str -> Option Addr) (x : Str) (sl : Slot) (v : Value) (A' : Option Addr) : Prop := match sl with
 | .val c => RV W.prog W.w F c v ∧ A' = none
 | .own o => NewOwn W F h env ad x o v A'
 | _ => False
noncomputable def with1 (ad : Str -> Option Addr) (x : Str) (A' : Option Addr) : Str -> Option Addr := fun y => if y = x then A' else ad y
theorem ac3 (I : Inv W F s) (R : Rel W F s.heap env ρ ad) {x : Str} {v : Value} {sl : Slot} {A' : Option Addr} (hn : NewSlot W F s.heap env ad x sl v A') (hc : isFix (ρ.get x) = false)
 {P : Addr} (hP : F P = none) (hPT : ¬ W.T P) (hPo : ¬ ownA ad P) (hPA : A' ≠ some P) (hb : Heap.SameBut P s.heap s'.heap) (hsm : s'.gens = s.gens ∧ s'.drawn = s.drawn ∧ s'.os = s.os)
 (hPl : (P = env.locals ∧ ∃ m, s.heap.Ns P m ∧ env.kindOf x = some .local ∧ s'.heap.Ns P fun y => if y = x then some v else m y) ∨
  (env.kindOf x = some .cell ∧ env.cells.lookup x = some P ∧ s'.heap.IsCell P (some v) ∧ ∃ v0, s.heap.IsCell P v0))
 (hPv : ∀ b o, b ≠ env.locals -> OR W.prog W.w F s.heap o b -> b ≠ P) :
 Stp W (· = P) F F s s' ∧ Rel W F s'.heap env (ρ.set x sl) (with1 ad x A') := by
 have hkeep : ∀ a o, s.heap.get? a = some o -> a ≠ P -> s'.heap.get? a = some o := fun a o e q => (hb.2 a q).trans e
 have I' : Inv W F s' := ⟨fun a o e => hkeep a o (I.frz a o e) (fun q => by rw [q, hP] at e; cases e), I.base, fun t ht => by
  refine hid fun z0 => ?_
  obtain ⟨⟨ps, e1, e2, e3⟩, e4⟩ := I.tab t ht
  refine z0 ?_
  exact ⟨⟨ps, hkeep _ _ e1 (fun q => hPT ⟨t, ht, q⟩), e2, e3⟩, e4⟩⟩
 have hPx : ∃ o', s'.heap.get? P = some o' := by
  refine hid fun z1 => ?_
  rcases hPl with ⟨_, m, _, _, o, es, ep, e, _⟩ | ⟨_, _, ⟨o, e, _⟩, _⟩
  · refine z1 ?_
    exact ⟨o, e⟩
  · refine z1 ?_
    exact ⟨o, e⟩
 refine ⟨⟨fun a o e m _ => hkeep a o e m, fun a o _ m => m ▸ hPx, fun _ _ e => e, fun _ _ e => .inl e, hsm, I'⟩, ?_⟩
 have hcellK : ∀ y ca u, env.cells.lookup y = some ca -> y ≠ x -> s.heap.IsCell ca u -> s'.heap.IsCell ca u := fun y ca u h1 h2 ⟨o, e, r⟩ => by
  refine ⟨o, hkeep _ _ e ?_, r⟩
  refine hid fun z2 => ?_
  rcases hPl with ⟨q, m, n, _⟩ | ⟨_, q, _, _⟩
  · refine z2 ?_
    exact abd n ⟨o, e, r⟩
  · refine z2 ?_
    exact fun z => h2 (R.kind.apart y x ca h1 (z ▸ q))
 have hvar : ∀ y u, y ≠ x -> VarIs s.heap env y u -> VarIs s'.heap env y u := fun y u hy hu => by
  refine hid fun z3 => ?_
  rcases hu with ⟨k, m, n, q⟩ | ⟨k, ca, c, cl⟩
  · rcases hPl with ⟨e, m', n', _, n2⟩ | ⟨_, _, _, v0, cP⟩
    · subst e
      refine z3 ?_
      refine .inl ⟨k, _, n2, ?_⟩
      show (if y = x then some v else m' y) = some u
      rw [if_neg hy]
      have : m y = m' y := by
       refine hid fun z4 => ?_
       obtain ⟨o, es, ep, a1, a2, _, a3⟩ := n
       obtain ⟨o', es', ep', b1, b2, _, b3⟩ := n'
       rw [a1] at b1; cases b1
       rw [a2] at b2; cases b2
       refine z4 ?_
       rw [<- a3 y, b3 y]
      rw [<- this]; exact q
    · obtain ⟨o, es, ep, a1, a2⟩ := id n
      refine z3 ?_
      exact .inl ⟨k, m, ⟨o, es, ep, hkeep _ _ a1 (fun z => by exact (abd n cP) z.symm), a2⟩, q⟩
  · refine z3 ?_
    exact .inr ⟨k, ca, c, hcellK y ca _ c hy cl⟩
 refine ⟨⟨R.kind.fn, R.kind.glo, R.kind.blt, R.kind.loc, R.kind.cell, R.kind.free, R.kind.glob, R.kind.apart, R.kind.cellF, R.kind.lam⟩, ?_, R.nsF, R.nsT, fun y t hy => ?_, fun y hk hf => ?_, fun y b hb' => ?_, fun y z b h1 h2 => ?_, fun y b e => ?_, fun f e => ?_⟩
 · refine hid fun z5 => ?_
   rcases hPl with ⟨e, m', n', _, n2⟩ | ⟨_, _, _, v0, cP⟩
   · subst e; refine z5 ?_; exact ⟨_, n2⟩
   · obtain ⟨m, n⟩ := R.ns
     obtain ⟨o, es, ep, a1, a2⟩ := id n
     refine z5 ?_
     exact ⟨m, o, es, ep, hkeep _ _ a1 (fun z => (abd n cP) z.symm), a2⟩
 · rw [aaN] at hy
   refine hid fun z6 => ?_
   by_cases hyx : y = x
   · subst hyx
     rw [if_pos rfl] at hy; cases hy
     refine z6 ?_
     refine ⟨v, ?_, ?_⟩
     · refine hid fun z7 => ?_
       rcases hPl with ⟨e, m', n', k, n2⟩ | ⟨k, c, cl, _⟩
       · subst e; refine z7 ?_; exact .inl ⟨k, _, n2, by simp⟩
       · refine z7 ?_
         exact .inr ⟨.inl k, P, c, cl⟩
     · refine hid fun z8 => ?_
       cases sl with
       | val c => refine z8 ?_; exact hn.1
       | own o =>
        obtain ⟨a, f1, f2, f3, f4, f5, f6, f7, f8⟩ := hn
        refine z8 ?_
        exact ⟨a, f1, by unfold with1; rw [if_pos rfl]; exact f2, f3.mono _ _ (fun _ _ e => e) fun ob q => hkeep _ _ q (fun z => hPA (z ▸ f2))⟩
       | bor o => refine z8 ?_; exact hn.elim
       | view o => refine z8 ?_; exact hn.elim
       | fix c => refine z8 ?_; exact hn.elim
   · rw [if_neg hyx] at hy
     obtain ⟨u, hu, hs⟩ := R.var y t hy
     refine z6 ?_
     refine ⟨u, hvar y u hyx hu, ?_⟩
     cases t with
     | val c => exact hs
     | own o => obtain ⟨b, f1, f2, f3⟩ := hs; exact ⟨b, f1, by unfold with1; rw [if_neg hyx]; exact f2, f3.mono _ _ (fun _ _ e => e) fun ob q => hkeep _ _ q (fun z => hPo ⟨y, z ▸ f2⟩)⟩
     | bor o => obtain ⟨b, f1, f2, f3, f4⟩ := hs; exact ⟨b, f1, by unfold with1; rw [if_neg hyx]; exact f2, f3.mono _ _ (fun _ _ e => e) fun ob q => hkeep _ _ q (fun z => hPo ⟨y, z ▸ f2⟩), f4⟩
     | view o => obtain ⟨b, f1, f0, f3⟩ := hs; exact ⟨b, f1, f0, f3.mono _ _ (fun _ _ e => e) fun ob q => hkeep _ _ q (hPv b o (Nat.ne_of_lt (Nat.lt_of_succ_lt f0)) f3)⟩
     | fix c => exact hs
 · refine hid fun z10 => ?_
   by_cases hyx : y = x
   · subst hyx
     obtain ⟨ca, v0, f1, f2, f3, f4⟩ := R.cells y hk hc
     rcases hPl with ⟨_, _, _, k, _⟩ | ⟨_, c, cl, _⟩
     · rw [R.kind.cell y hk] at k; cases k
     · rw [c] at f1; cases f1; refine z10 ?_; exact ⟨P, some v, c, cl, f3, f4⟩
   · rw [aaN, if_neg hyx] at hf
     obtain ⟨ca, v0, f1, f2, f3, f4⟩ := R.cells y hk hf
     refine z10 ?_
     exact ⟨ca, v0, f1, hcellK y ca _ f1 hyx f2, f3, f4⟩
 · unfold with1 at hb'
   refine hid fun z11 => ?_
   by_cases hyx : y = x
   · subst hyx
     rw [if_pos rfl] at hb'
     cases sl with
     | val c => rw [hn.2] at hb'; cases hb'
     | own o =>
      obtain ⟨a, f1, f2, f3, f4, f5, f6, f7, f8⟩ := hn
      rw [f2] at hb'; cases hb'
      refine z11 ?_
      refine ⟨by rw [aaN, if_pos rfl]; rfl, f4, f5, f6, f7, ?_⟩
      obtain ⟨ob, e, _⟩ := OR.cls f3
      exact ⟨ob, hkeep _ _ e (fun z => hPA (z ▸ f2))⟩
     | bor o => refine z11 ?_; exact hn.elim
     | view o => refine z11 ?_; exact hn.elim
     | fix c => refine z11 ?_; exact hn.elim
   · rw [if_neg hyx] at hb'
     obtain ⟨p1, p2, p3, p4, p5, p6⟩ := R.own y b hb'
     refine z11 ?_
     exact ⟨by rw [aaN, if_neg hyx]; exact p1, p2, p3, p4, p5, let ⟨o, e⟩ := p6; ⟨o, hkeep _ _ e (fun z => hPo ⟨y, z ▸ hb'⟩)⟩⟩
 · unfold with1 at h1 h2
   by_cases hyx : y = x <;> by_cases hzx : z = x
   · exact hyx.trans hzx.symm
   · rw [if_pos hyx] at h1; rw [if_neg hzx] at h2
     refine hid fun z13 => ?_
     cases sl with
     | val c => rw [hn.2] at h1; cases h1
     | own o => obtain ⟨a, f1, f2, f3, f4, f5, f6, f7, f8⟩ := hn; rw [f2] at h1; cases h1; exact absurd h2 (f8 z hzx)
     | bor o => refine z13 ?_; exact hn.elim
     | view o => refine z13 ?_; exact hn.elim
     | fix c => refine z13 ?_; exact hn.elim
   · rw [if_neg hyx] at h1; rw [if_pos hzx] at h2
     refine hid fun z14 => ?_
     cases sl with
     | val c => rw [hn.2] at h2; cases h2
     | own o => obtain ⟨a, f1, f2, f3, f4, f5, f6, f7, f8⟩ := hn; rw [f2] at h2; cases h2; exact absurd h1 (f8 y hyx)
     | bor o => refine z14 ?_; exact hn.elim
     | view o => refine z14 ?_; exact hn.elim
     | fix c => refine z14 ?_; exact hn.elim
   · rw [if_neg hyx] at h1; rw [if_neg hzx] at h2; exact R.inj y z b h1 h2
 · obtain ⟨u, hu⟩ := R.cl y b e
   by_cases hyx : y = x
   · refine hid fun z17 => ?_
     subst hyx
     rcases hPl with ⟨q, m, n, _, _⟩ | ⟨_, c, cl, _⟩
     · obtain ⟨o, e1, e2⟩ := id hu
       refine z17 ?_
       exact ⟨u, o, hkeep _ _ e1 (abd n hu), e2⟩
     · rw [c] at e; cases e; refine z17 ?_; exact ⟨_, cl⟩
   · exact ⟨u, hcellK y b u e hyx hu⟩
 · refine hid fun z18 => ?_
   obtain ⟨o, q⟩ := R.frm f e
   by_cases hfP : f = P
   · refine z18 ?_; rw [hfP]; exact hPx
   · refine z18 ?_
     exact ⟨o, hkeep _ _ q hfP⟩
theorem OR.notCell {h : Heap} {o : CO} {b ca : Addr} {v : Option Value} (r : OR W.prog W.w F h o b) (y : h.IsCell ca v) : b ≠ ca := fun e => by
 obtain ⟨ob, a1, a2⟩ := y
 subst e
 cases o with
 | list xs => obtain ⟨ob', vs, e, ⟨n, l⟩, _⟩ := r; rw [a1] at e; cases e; rw [l] at a2; cases a2
 | dict es => obtain ⟨ob', vs, e, ⟨⟨_, es', ep, l, _⟩, _⟩, _⟩ := r; rw [a1] at e; cases e; rw [l] at a2; cases a2
theorem acz {k : Option NameKind} (h : mayStore k = true) : k = some .local ∨ k = some .cell := by
 rcases k with _ | y
 · first | (cases h; done) | exact .inl rfl | exact .inr rfl
 cases y <;> first | (cases h; done) | exact .inl rfl | exact .inr rfl
theorem aep {x : Str} (h : canSet ρ x = true) : (ρ.kind x = some .local ∨ ρ.kind x = some .cell) ∧ isFix (ρ.get x) = false := by
 unfold canSet at h
 obtain ⟨h1, h2⟩ := Bool.and_eq_true_iff.mp h
 exact ⟨acz h1, by simpa using h2⟩
theorem abE (I : Inv W F s) (R : Rel W F s.heap env ρ ad) {x : Str} {v : Value} {sl : Slot} {A' : Option Addr} (hc : canSet ρ x = true) (hn : NewSlot W F s.heap env ad x sl v A')
 {Q : Unit -> Shared -> Prop} (h : ∀ s', Stp W (frmA env ad) F F s s' -> Rel W F s'.heap env (ρ.set x sl) (with1 ad x A') -> Q () s') :
 wpAny (model W.prog W.w) A (storeName env x v) Q E s := by
 obtain ⟨hk, hf⟩ := aep hc
 refine hid fun z1 => ?_
 rcases hk with hk | hk
 · have hl := R.kind.loc x hk
   obtain ⟨m, n⟩ := R.ns
   refine z1 ?_
   refine wpAny_storeName_local hl n (fun h' hn' hs' => ?_) (by rw [R.kind.fn]; rfl)
   obtain ⟨S, R'⟩ := ac3 (s' := { s with heap := h', toks := s.toks + 1 }) I R hn hf R.nsF R.nsT (R.own_apart (.inl rfl)) (by
    intro q
    cases sl with
    | val c => rw [hn.2] at q; cases q
    | own o => obtain ⟨a, _, f2, _, _, _, f6, _⟩ := hn; rw [f2] at q; cases q; exact f6 rfl
    | bor o => exact hn.elim
    | view o => exact hn.elim
    | fix c => exact hn.elim) hs' ⟨rfl, rfl, rfl⟩ (.inl ⟨rfl, m, n, hl, hn'⟩) (fun b o q _ => q)
   exact h _ (S.weaken fun a e => .inl (.inr (.inl e))) R'
 · obtain ⟨ca, v0, e1, e2, e3, e4⟩ := R.cells x hk hf
   refine z1 ?_
   refine wpAny_storeName_cell R.kind.fn (R.kind.cell x hk) e1 e2 fun h' hc' hs' => ?_
   obtain ⟨S, R'⟩ := ac3 (s' := { s with heap := h' }) I R hn hf e3 e4 (R.own_apart (.inr ⟨x, e1⟩)) (by
    intro q
    refine hid fun z3 => ?_
    cases sl with
    | val c => rw [hn.2] at q; cases q
    | own o => obtain ⟨a, _, f2, _, _, _, _, f7, _⟩ := hn; rw [f2] at q; cases q; refine z3 ?_; exact f7 x ca e1 rfl
    | bor o => refine z3 ?_; exact hn.elim
    | view o => refine z3 ?_; exact hn.elim
    | fix c => refine z3 ?_; exact hn.elim) hs' ⟨rfl, rfl, rfl⟩ (.inr ⟨R.kind.cell x hk, e1, hc', v0, e2⟩) (fun b o _ r => r.notCell e2)
   exact h _ (S.weaken fun a e => .inl (.inr (.inr ⟨R.kind.cellF x hk, x, R.kind.cell x hk, e ▸ e1⟩))) R'
theorem abw {A' : Option Addr} {x : Str} {c : CV} {v : Value} (hn : NewSlot W F s.heap env ad x (.val c) v A') : ∀ y a, with1 ad x A' y = some a -> ad y = some a := fun y a e => by
 unfold with1 at e
 split at e
 · rw [hn.2] at e; cases e
 · exact e
end
inductive D (R : Type) : Type 1
 | ret (r : R)
 | fail
 | raw (o : Option R)
 | opt {α : Type} (o : Option α) (k : α -> D R)
 | opt2 {α β : Type} (o : Option (α × β)) (k : α -> β -> D R)
 | opt3 {α β γ : Type} (o : Option (α × β × γ)) (k : α -> β -> γ -> D R)
 | val (o : Option (EV × CE)) (k : CV -> CE -> D R)
 | grd (b : Bool) (d : D R)
 | ite (b : Bool) (t e : D R)
 | alt {α : Type} (o : Option α) (k : α -> D R) (d : D R)
noncomputable def D.run {R : Type} (d : D R) : Option R := D.rec (motive := fun _ => Option R) some none (fun o => o)
 (fun o _ k => match o with | none => none | some a => k a)
 (fun o _ k => match o with | none => none | some (a, b) => k a b)
 (fun o _ k => match o with | none => none | some (a, b, c) => k a b c)
 (fun o _ k => match o with | some (.val c, ρ) => k c ρ | _ => none)
 (fun b _ k => match b with | true => k | false => none)
 (fun b _ _ t e => match b with | true => t | false => e)
 (fun o _ _ k e => match o with | some a => k a | none => e) d
noncomputable def D.runZ {R : Type} (z : R) (d : D R) : R := D.rec (motive := fun _ => R) (fun r => r) z (fun o => match o with | none => z | some a => a)
 (fun o _ k => match o with | none => z | some a => k a)
 (fun o _ k => match o with | none => z | some (a, b) => k a b)
 (fun o _ k => match o with | none => z | some (a, b, c) => k a b c)
 (fun o _ k => match o with | some (.val c, ρ) => k c ρ | _ => z)
 (fun b _ k => match b with | true => k | false => z)
 (fun b _ _ t e => match b with | true => t | false => e)
 (fun o _ _ k e => match o with | some a => k a | none => e) d
def D.inv {R : Type} (P : R -> Prop) (d : D R) : Prop := D.rec (motive := fun _ => Prop) P True (fun o => ∀ r, o = some r -> P r)
 (fun o _ k => ∀ a, o = some a -> k a)
 (fun o _ k => ∀ a b, o = some (a, b) -> k a b)
 (fun o _ k => ∀ a b c, o = some (a, b, c) -> k a b c)
 (fun o _ k => ∀ a b, o = some (.val a, b) -> k a b)
 (fun b _ k => b = true -> k)
 (fun b _ _ t e => (b = true -> t) ∧ (b = false -> e))
 (fun o _ _ k e => (∀ a, o = some a -> k a) ∧ (o = none -> e)) d
set_option tactic.hygienic false
theorem D.ok {R : Type} {P : R -> Prop} {d : D R} : ∀ {r : R}, d.run = some r -> d.inv P -> P r := by
 induction d with
 | ret x => intro r h k; cases h; exact k
 | fail => intro r h; exact aab h
 | raw o => exact fun h k => k _ h
 | opt o f ih =>
  intro r h k
  rcases o with _ | a
  · exact aab h
  · exact ih a h (k a rfl)
 | opt2 o f ih =>
  intro r h k
  rcases o with _ | ⟨a, b⟩
  · exact aab h
  · exact ih a b h (k a b rfl)
 | opt3 o f ih =>
  intro r h k
  rcases o with _ | ⟨a, b, c⟩
  · exact aab h
  · exact ih a b c h (k a b c rfl)
 | val o f ih =>
  intro r h k
  rcases o with _ | ⟨⟨a⟩ | ⟨x⟩, b⟩
  · exact aab h
  · exact ih a b h (k a b rfl)
  · exact aab h
 | grd b d ih =>
  intro r h k
  cases b with
  | true => exact ih h (k rfl)
  | false => exact aab h
 | ite b t e i j =>
  intro r h k
  cases b with
  | true => exact i h (k.1 rfl)
  | false => exact j h (k.2 rfl)
 | alt o f e i j =>
  intro r h k
  cases o with
  | some a => exact i a h (k.1 a rfl)
  | none => exact j h (k.2 rfl)
theorem D.okZ {R : Type} {P : R -> Prop} {z : R} (hz : P z) {d : D R} : d.inv P -> P (d.runZ z) := by
 induction d with
 | ret x => exact fun k => k
 | fail => exact fun _ => hz
 | raw o =>
  intro k
  rcases o with _ | a
  · exact hz
  · exact k a rfl
 | opt o f ih =>
  intro k
  rcases o with _ | a
  · exact hz
  · exact ih a (k a rfl)
 | opt2 o f ih =>
  intro k
  rcases o with _ | ⟨a, b⟩
  · exact hz
  · exact ih a b (k a b rfl)
 | opt3 o f ih =>
  intro k
  rcases o with _ | ⟨a, b, c⟩
  · exact hz
  · exact ih a b c (k a b c rfl)
 | val o f ih =>
  intro k
  rcases o with _ | ⟨⟨a⟩ | ⟨x⟩, b⟩
  · exact hz
  · exact ih a b (k a b rfl)
  · exact hz
 | grd b d ih =>
  intro k
  cases b with
  | true => exact ih (k rfl)
  | false => exact hz
 | ite b t e i j =>
  intro k
  cases b with
  | true => exact i (k.1 rfl)
  | false => exact j (k.2 rfl)
 | alt o f e i j =>
  intro k
  cases o with
  | some a => exact i a (k.1 a rfl)
  | none => exact j (k.2 rfl)
theorem D.el {R : Type} {o : Option (R × CE)} {r : R} {ρ' : CE} (d : D (R × CE)) (h : o = some (r, ρ')) {P : Prop} {C : R -> CE -> Prop} (c : C r ρ') (k : d.inv (fun z => C z.1 z.2 -> P)) (e : d.run = o := by ext) : P :=
 D.ok (P := fun z => C z.1 z.2 -> P) (e.trans h) k c
theorem D.el1 {R : Type} {o : Option R} {r : R} (d : D R) (h : o = some r) {P : Prop} {C : R -> Prop} (c : C r) (k : d.inv (fun z => C z -> P)) (e : d.run = o := by ext) : P :=
 D.ok (P := fun z => C z -> P) (e.trans h) k c
section
variable {W : Wd} {F F' : FH} {s s' : Shared} {env : Env} {ρ : CE} {ad : Str -> Option Addr} {M : Addr -> Prop} {A : Around} {E : VP}
set_option tactic.hygienic false
theorem abk {sl : Option Slot} {o : CO} (h : ownOf sl = some o) : sl = some (.own o) ∨ sl = some (.bor o) := by
 rcases sl with _ | y
 · first | exact aab h | (cases h; first | exact .inl rfl | exact .inr rfl)
 cases y <;> first | exact aab h | (cases h; first | exact .inl rfl | exact .inr rfl)
inductive OwnR (W : Wd) (F : FH) (h : Heap) (env : Env) (ad : Str -> Option Addr) (x : Str) (o : CO) : Prop
 | mk (a : Addr) (h1 : ad x = some a) (h2 : VarIs h env x (.ref a)) (h3 : OR W.prog W.w F h o a)
theorem abH (R : Rel W F s.heap env ρ ad) {x : Str} {o : CO} (h : ownOf (ρ.get x) = some o) : OwnR W F s.heap env ad x o := by
 refine hid fun z0 => ?_
 rcases abk h with q | q
 · obtain ⟨v, hv, a, e1, e2, e3⟩ := R.var x _ q; subst e1; refine z0 ?_; exact ⟨a, e2, hv, e3⟩
 · obtain ⟨v, hv, a, e1, e2, e3, _⟩ := R.var x _ q; subst e1; refine z0 ?_; exact ⟨a, e2, hv, e3⟩
theorem af2 {sl : Option Slot} {o : CO} (h : ownOf sl = some o) : isFix sl = false := by
 rcases abk h with q | q <;> subst q <;> rfl
theorem af3 {sl : Option Slot} {o o' : CO} (h : ownOf sl = some o) : ownOf (some (reown sl o')) = some o' ∧ isFix (some (reown sl o')) = false := by
 rcases abk h with q | q <;> subst q <;> exact ⟨rfl, rfl⟩
theorem ain (I : Inv W F s) (R : Rel W F s.heap env ρ ad) {x : Str} {o o' : CO} {a : Addr} (h : ownOf (ρ.get x) = some o) (ha : ad x = some a) (S : Stp W (· = a) F F' s s')
 (ho : OR W.prog W.w F' s'.heap o' a) (hF : F' a = none)
 (hvw : ∀ y o v, ρ.get y = some (.view o) -> VarIs s.heap env y v -> v ≠ .ref a) : Rel W F' s'.heap env (ρ.set x (reown (ρ.get x) o')) ad := by
 refine hid fun z0 => ?_
 obtain ⟨p1, p2, p3, p4, p5, p6⟩ := R.own x a ha
 have nloc : ∀ b, (b = env.locals ∨ ∃ y, env.cells.lookup y = some b) -> b ≠ a := fun b hb e => R.own_apart hb ⟨x, e ▸ ha⟩
 have hvar : ∀ y u, VarIs s.heap env y u -> VarIs s'.heap env y u := fun y u hu => by
  rcases hu with ⟨k, m, n, q⟩ | ⟨k, ca, c, cl⟩
  · have nt := I.notTabNs n
    obtain ⟨ob, es, ep, e, r⟩ := n
    exact .inl ⟨k, m, ⟨ob, es, ep, S.keep _ _ e (nloc _ (.inl rfl)) nt, r⟩, q⟩
  · have nt := I.notTabCell cl
    obtain ⟨ob, e, r⟩ := cl
    exact .inr ⟨k, ca, c, ⟨ob, S.keep _ _ e (nloc _ (.inr ⟨y, c⟩)) nt, r⟩⟩
 have hFn : ∀ b, F b = none -> b ≠ a -> (∃ ob, s.heap.get? b = some ob) -> F' b = none := fun b hb hne ⟨obb, hlt⟩ => by
  cases e' : F' b with
  | none => rfl
  | some ob => rcases S.new _ _ e' with q | q | q
               · rw [hb] at q; cases q
               · exact absurd q hne
               · exact absurd rfl (q.ne hlt)
 refine z0 ?_
 refine ⟨⟨R.kind.fn, R.kind.glo, R.kind.blt, R.kind.loc, R.kind.cell, R.kind.free, R.kind.glob, R.kind.apart, R.kind.cellF, R.kind.lam⟩, ?_, ?_, R.nsT, fun y t hy => ?_, fun y hk hf => ?_, fun y b hb => ?_, R.inj, fun y b e => ?_, fun f e => let ⟨_, q⟩ := R.frm f e; S.there q⟩
 · refine hid fun z1 => ?_
   obtain ⟨m, ob, es, ep, e, r⟩ := R.ns
   refine z1 ?_
   exact ⟨m, ob, es, ep, S.keep _ _ e (nloc _ (.inl rfl)) R.nsT, r⟩
 · refine hid fun z2 => ?_
   obtain ⟨m, ob, es, ep, e, r⟩ := R.ns
   refine z2 ?_
   exact hFn _ R.nsF (nloc _ (.inl rfl)) ⟨_, e⟩
 · rw [aaN] at hy
   refine hid fun z3 => ?_
   by_cases hyx : y = x
   · subst hyx
     rw [if_pos rfl] at hy; cases hy
     obtain ⟨a', ha', hv, _⟩ := abH R h
     rw [ha] at ha'; cases ha'
     refine z3 ?_
     refine ⟨.ref a, hvar y _ hv, ?_⟩
     refine hid fun z4 => ?_
     rcases abk h with q | q
     · refine z4 ?_; rw [q]; exact ⟨a, rfl, ha, ho⟩
     · refine z4 ?_
       rw [q]
       refine ⟨a, rfl, ha, ho, ?_⟩
       refine hid fun z5 => ?_
       obtain ⟨v', hv', a', e1, e2, e3, e4⟩ := R.var y _ q
       rw [ha] at e2; cases e2; refine z5 ?_; exact e4
   · rw [if_neg hyx] at hy
     obtain ⟨u, hu, hs⟩ := R.var y t hy
     refine z3 ?_
     refine ⟨u, hvar y u hu, ?_⟩
     refine hid fun z6 => ?_
     cases t with
     | val c => refine z6 ?_; exact RV.mono _ _ S.sub _ _ hs
     | own o => obtain ⟨b, f1, f2, f3⟩ := hs; refine z6 ?_; exact ⟨b, f1, f2, f3.mono _ _ S.sub fun ob q => S.keep _ _ q (fun z => hyx (R.inj y x a (z ▸ f2) ha)) (I.notTabOR f3)⟩
     | bor o => obtain ⟨b, f1, f2, f3, f4⟩ := hs; refine z6 ?_; exact ⟨b, f1, f2, f3.mono _ _ S.sub fun ob q => S.keep _ _ q (fun z => hyx (R.inj y x a (z ▸ f2) ha)) (I.notTabOR f3), f4⟩
     | view o => obtain ⟨b, f1, f0, f3⟩ := hs; refine z6 ?_; exact ⟨b, f1, f0, f3.mono _ _ S.sub fun ob q => S.keep _ _ q (fun z => hvw y o u hy hu (by rw [f1, z])) (I.notTabOR f3)⟩
     | fix c => obtain ⟨f1, ca, oc, f2, f3, f4, f5⟩ := hs; refine z6 ?_; exact ⟨RV.mono _ _ S.sub _ _ f1, ca, oc, f2, f3, S.sub _ _ f4, f5⟩
 · have hf' : isFix (ρ.get y) = false := by
    refine hid fun z7 => ?_
    by_cases hyx : y = x
    · subst hyx; refine z7 ?_; exact af2 h
    · rw [aaN, if_neg hyx] at hf; refine z7 ?_; exact hf
   refine hid fun z8 => ?_
   obtain ⟨ca, v0, f1, ⟨ob, f2, f2'⟩, f3, f4⟩ := R.cells y hk hf'
   refine z8 ?_
   exact ⟨ca, v0, f1, ⟨ob, S.keep _ _ f2 (nloc _ (.inr ⟨y, f1⟩)) f4, f2'⟩, hFn _ f3 (nloc _ (.inr ⟨y, f1⟩)) ⟨_, f2⟩, f4⟩
 · refine hid fun z9 => ?_
   obtain ⟨q1, q2, q3, q4, q5, q6⟩ := R.own y b hb
   refine z9 ?_
   refine ⟨?_, ?_, q3, q4, q5, let ⟨_, e⟩ := q6; S.there e⟩
   · rw [aaN]
     refine hid fun z10 => ?_
     by_cases hyx : y = x
     · subst hyx; refine z10 ?_; rw [if_pos rfl, (af3 h).1]; rfl
     · refine z10 ?_; rw [if_neg hyx]; exact q1
   · refine hid fun z11 => ?_
     by_cases hba : b = a
     · subst hba; refine z11 ?_; exact hF
     · refine z11 ?_
       exact hFn b q2 hba q6
 · refine hid fun z12 => ?_
   obtain ⟨u, cl⟩ := R.cl y b e
   have nt := I.notTabCell cl
   obtain ⟨o, e1, e2⟩ := cl
   refine z12 ?_
   exact ⟨u, o, S.keep _ _ e1 (nloc _ (.inr ⟨y, e⟩)) nt, e2⟩
def EVRs (W : Wd) (F : FH) (h : Heap) (env : Env) : List EV -> List Value -> Prop
 | [], vs => vs = []
 | a :: as, vs => ∃ v r, vs = v :: r ∧ EVR W F h env a v ∧ EVRs W F h env as r
theorem EVRs.step (I : Inv W F s) (R : Rel W F s.heap env ρ ad) (S : Stp W (ownA ad) F F' s s') : ∀ {as : List EV} {vs : List Value}, EVRs W F s.heap env as vs -> EVRs W F' s'.heap env as vs
 | [], _, h => h
 | _ :: _, _, ⟨v, r, e, a, b⟩ => ⟨v, r, e, EVR.step I R S a, EVRs.step I R S b⟩
theorem aao {Q : List Value -> Shared -> Prop} (h : Q [] s) : wpAny (model W.prog W.w) A (spliced []) Q E s := wpAny_pure h
theorem aax {x : Sem Value} {rest : List (Bool × Sem Value)} {Q : List Value -> Shared -> Prop}
 (h : wpAny (model W.prog W.w) A x (fun v s1 => wpAny (model W.prog W.w) A (spliced rest) (fun vs s2 => Q (v :: vs) s2) E s1) E s) :
 wpAny (model W.prog W.w) A (spliced ((false, x) :: rest)) Q E s := by
 show wpAny _ A (do
  let v <- x
  let here <- if false = true then do
   if <- notIterableAtAll v then
    rule "star.not-iterable"; raiseError "TypeError" s!"Value after * must be an iterable, not {← typeNameOf v}"
   collect v
   else pure [v]
  return here ++ (<- holding here (spliced rest))) Q E s
 refine wpAny_bind (wpAny_mono h (fun v s1 h1 => ?_) fun _ _ e => e)
 refine wpAny_bind (m := pure [v]) (wpAny_pure ?_)
 exact wpAny_bind (wpAny_holding (wpAny_mono h1 (fun vs s2 h2 => wpAny_pure h2) fun _ _ e => e))
theorem aat {e : Expr} {r : List Expr} (h : ∀ x p, e ≠ .Starred x p) : starEach (e :: r) env = (false, eval e env) :: starEach r env := by
 cases e <;> first | rfl | exact absurd rfl (h _ _)
theorem aio {S : SM} (hst : ∀ x p ρ, S.ev (.Starred x p) ρ = none) {e : Expr} {r : List Expr} {ρ ρ' : CE} {as : List EV} (h : S.evs (e :: r) ρ = some (as, ρ')) (x : Expr) (p : Pos) (q : e = .Starred x p) : False :=
 D.el (.opt2 (S.ev e ρ) fun a ρ => .opt2 (S.evs r ρ) fun as ρ => .ret (a :: as, ρ)) h (C := fun _ _ => True) trivial fun a ρ1 h _ _ _ _ => by rw [q, hst] at h; cases h
theorem adQ {k : Nat} {S : SM} (H : EvOK W k S.ev) (hst : ∀ x p ρ, S.ev (.Starred x p) ρ = none) : ∀ (es : List Expr) (ρ : CE) (as : List EV) (ρ' : CE), S.evs es ρ = some (as, ρ') ->
 ∀ (A : Around) (env : Env) (F : FH) (s : Shared) (ad : Str -> Option Addr) (pos : Pos), Room A k -> Inv W F s -> Rel W F s.heap env ρ ad -> ∀ (Q : List Value -> Shared -> Prop) (E : VP),
  (∀ vs F' s' ad', Stp W (ownA ad) F F' s s' -> Rel W F' s'.heap env ρ' ad' -> (∀ x a, ad' x = some a -> ad x = some a) -> EVRs W F' s'.heap env as vs -> Q vs s') ->
  wpAny (model W.prog W.w) A (spliced (backTo pos (starEach es env))) Q E s
 | [], ρ, as, ρ', h, A, env, F, s, ad, pos, _, I, R, Q, E, hQ => by
  cases h
  exact aao (hQ [] F s ad (.refl I) R (fun _ _ e => e) rfl)
 | e :: r, ρ, as, ρ', h, A, env, F, s, ad, pos, Rm, I, R, Q, E, hQ => by
  refine D.el (.opt2 (S.ev e ρ) fun a ρ => .opt2 (S.evs r ρ) fun as ρ => .ret (a :: as, ρ)) h (C := fun as ρ' => ∀ vs F' s' ad', Stp W (ownA ad) F F' s s' -> Rel W F' s'.heap env ρ' ad' -> (∀ x a, ad' x = some a -> ad x = some a) -> EVRs W F' s'.heap env as vs -> Q vs s') hQ fun a ρ1 h1 as' ρ2 h2 hQ => ?_
  rw [aat fun x p q => by rw [q, hst] at h1; cases h1]
  refine aax (H e ρ a ρ1 h1 A env F s ad Rm I R _ _ fun v F1 s1 ad1 S1 R1 sub1 r1 => ?_)
  refine adQ H hst r ρ1 as' _ h2 A env F1 s1 ad1 pos Rm S1.inv R1 _ _ fun vs F2 s2 ad2 S2 R2 sub2 r2 => ?_
  exact hQ (v :: vs) F2 s2 ad2 (S1.trans S2 (aag sub1)) R2 (fun x a q => sub1 x a (sub2 x a q)) ⟨v, vs, rfl, EVR.step S1.inv R1 S2 r1, r2⟩
inductive FzVs (W : Wd) (env : Env) (ad : Str -> Option Addr) (F : FH) (s : Shared) (ρ' : CE) (cs : List CV) (vs : List Value) : Prop
 | mk (F' : FH) (ad' : Str -> Option Addr) (h1 : Stp W (ownA ad) F F' s s) (h2 : Rel W F' s.heap env ρ' ad') (h3 : ∀ x a, ad' x = some a -> ad x = some a) (h4 : RVs W.prog W.w F' cs vs)
theorem abe : ∀ (as : List EV) (ρ : CE) (cs : List CV) (ρ' : CE) (F : FH) (ad : Str -> Option Addr), freezes as ρ = some (cs, ρ') -> Inv W F s -> Rel W F s.heap env ρ ad ->
 ∀ vs, EVRs W F s.heap env as vs -> FzVs W env ad F s ρ' cs vs
 | [], ρ, cs, ρ', F, ad, h, I, R, vs, hv => by
  cases h
  exact ⟨F, ad, .refl I, R, fun _ _ e => e, by exact hv⟩
 | a :: as, ρ, cs, ρ', F, ad, h, I, R, vs, hv => by
  refine hid fun ng => ?_
  obtain ⟨v, r, rfl, ha, hr⟩ := hv
  refine D.el (.opt2 (freeze ρ a) fun c ρ => .opt2 (freezes as ρ) fun cs ρ => .ret (c :: cs, ρ)) h (C := fun cs ρ' => ¬FzVs W env ad F s ρ' cs (v :: r)) ng fun c ρ1 h1 cs' ρ2 h2 ng => ?_
  obtain ⟨F1, ad1, S1, R1, sub1, rv1⟩ := abP I R h1 ha
  obtain ⟨F2, ad2, S2, R2, sub2, rv2⟩ := abe as ρ1 cs' _ F1 ad1 h2 S1.inv R1 r (EVRs.step I R S1 hr)
  exact ng ⟨F2, ad2, S1.trans S2 (aag sub1), R2, fun x a q => sub1 x a (sub2 x a q), v, r, rfl, RV.mono _ _ S2.sub _ _ rv1, rv2⟩
end
def EvfPost (W : Wd) (env : Env) (ad : Str -> Option Addr) (F : FH) (s : Shared) (c : CV) (ρ' : CE) (Q : VP) : Prop :=
 ∀ v F' s' ad', Stp W (ownA ad) F F' s s' -> Rel W F' s'.heap env ρ' ad' -> (∀ x a, ad' x = some a -> ad x = some a) -> RV W.prog W.w F' c v -> Q v s'
set_option tactic.hygienic false
theorem aeW {W : Wd} {k : Nat} {S : SM} (H : EvOK W k S.ev) {e : Expr} {ρ ρ' : CE} {c : CV} (h : S.evf e ρ = some (c, ρ')) {A : Around} {env : Env} {F : FH} {s : Shared} {ad : Str -> Option Addr}
 (Rm : Room A k) (I : Inv W F s) (R : Rel W F s.heap env ρ ad) {Q : VP} {E : VP} (hQ : EvfPost W env ad F s c ρ' Q) :
 wpAny (model W.prog W.w) A (eval e env) Q E s := by
 unfold SM.evf at h
 refine hid fun z0 => ?_
 cases h1 : S.ev e ρ with
 | none => rw [h1] at h; cases h
 | some p =>
  obtain ⟨a, ρ1⟩ := p
  rw [h1] at h
  dsimp only at h
  refine z0 ?_
  refine H e ρ a ρ1 h1 A env F s ad Rm I R _ _ fun v F1 s1 ad1 S1 R1 sub1 r1 => ?_
  obtain ⟨F2, ad2, S2, R2, sub2, rv⟩ := abP S1.inv R1 h r1
  exact hQ v F2 s1 ad2 (S1.trans S2 (aag sub1)) R2 (fun x a q => sub1 x a (sub2 x a q)) rv
theorem af4 {W : Wd} {k : Nat} {S : SM} (H : EvOK W k S.ev) {e : Expr} {ρ ρ' : CE} {c : CV} (h : S.evd e ρ = some (c, ρ')) {A : Around} {env : Env} {F : FH} {s : Shared} {ad : Str -> Option Addr}
 (Rm : Room A k) (I : Inv W F s) (R : Rel W F s.heap env ρ ad) {Q : VP} {E : VP}
 (hQ : ∀ v F' s' ad', Stp W (ownA ad) F F' s s' -> Rel W F' s'.heap env ρ' ad' -> (∀ x a, ad' x = some a -> ad x = some a) -> CvAt W F' s'.heap c v -> Q v s') :
 wpAny (model W.prog W.w) A (eval e env) Q E s := by
 unfold SM.evd at h
 refine hid fun z0 => ?_
 cases h1 : S.ev e ρ with
 | none => rw [h1] at h; cases h
 | some p =>
  obtain ⟨a, ρ1⟩ := p
  rw [h1] at h
  dsimp only at h
  cases h2 : deref ρ1 a with
  | none => rw [h2] at h; cases h
  | some c' =>
   rw [h2] at h
   cases h
   refine z0 ?_
   exact H e ρ a _ h1 A env F s ad Rm I R _ _ fun v F1 s1 ad1 S1 R1 sub1 r1 => hQ v F1 s1 ad1 S1 R1 sub1 (aaV R1 h2 r1)
theorem aeX {W : Wd} {k : Nat} {S : SM} (H : EvOK W k S.ev) {l r : Expr} {ρ ρ' : CE} {c d : CV} (h : S.ev2 l r ρ = some (c, d, ρ')) {A : Around} {env : Env} {F : FH} {s : Shared} {ad : Str -> Option Addr}
 (Rm : Room A k) (I : Inv W F s) (R : Rel W F s.heap env ρ ad) {Q : Value -> Value -> Shared -> Prop} {E : VP}
 (hQ : ∀ v u F' s' ad', Stp W (ownA ad) F F' s s' -> Rel W F' s'.heap env ρ' ad' -> (∀ x a, ad' x = some a -> ad x = some a) -> CvAt W F' s'.heap c v -> CvAt W F' s'.heap d u -> Q v u s') :
 wpAny (model W.prog W.w) A (eval l env) (fun v s1 => wpAny (model W.prog W.w) A (eval r env) (fun u s2 => Q v u s2) E s1) E s := by
 unfold SM.ev2 at h
 refine hid fun z0 => ?_
 cases h1 : S.ev l ρ with
 | none => rw [h1] at h; cases h
 | some p =>
  obtain ⟨a, ρ1⟩ := p
  rw [h1] at h
  dsimp only at h
  cases h2 : S.ev r ρ1 with
  | none => rw [h2] at h; cases h
  | some p =>
   obtain ⟨b, ρ2⟩ := p
   rw [h2] at h
   dsimp only at h
   cases h3 : deref ρ2 a with
   | none => rw [h3] at h; cases h
   | some x =>
    cases h4 : deref ρ2 b with
    | none => rw [h3, h4] at h; cases h
    | some y =>
     rw [h3, h4] at h
     cases h
     refine z0 ?_
     refine H l ρ a ρ1 h1 A env F s ad Rm I R _ _ fun v F1 s1 ad1 S1 R1 sub1 r1 => ?_
     refine H r ρ1 b _ h2 A env F1 s1 ad1 Rm S1.inv R1 _ _ fun u F2 s2 ad2 S2 R2 sub2 r2 => ?_
     exact hQ v u F2 s2 ad2 (S1.trans S2 (aag sub1)) R2 (fun x a q => sub1 x a (sub2 x a q)) (aaV R2 h3 (EVR.step S1.inv R1 S2 r1)) (aaV R2 h4 r2)
end
section
open PySem PySem.Calls PyProof.Rows PySem.SeqAt
section
variable {W : Wd} {F F' : FH} {s s' : Shared} {env : Env} {ρ : CE} {ad : Str -> Option Addr} {M : Addr -> Prop} {A : Around} {E : VP}
set_option tactic.hygienic false
theorem abK {h : Heap} {v : Value} (r : CvAt W F h .none v) : v = .none := by
 rcases r with r | ⟨o, a, e, _⟩
 · simpa only [RV] using r
 · cases o <;> cases e
theorem acA {h : Heap} {v : Value} {b : Bool} (r : CvAt W F h (.bool b) v) : v = .bool b := by
 rcases r with r | ⟨o, a, e, _⟩
 · simpa only [RV] using r
 · cases o <;> cases e
theorem aa0 {h : Heap} {v : Value} {i : Int} (r : CvAt W F h (.int i) v) : ∃ t, v = .int i t := by
 rcases r with r | ⟨o, a, e, _⟩
 · simpa only [RV] using r
 · cases o <;> cases e
theorem aaz {h : Heap} {v : Value} {x : SS} (r : CvAt W F h (.str x) v) : ∃ t, v = .str x.s t := by
 rcases r with r | ⟨o, a, e, _⟩
 · simpa only [RV] using r
 · cases o <;> cases e
inductive CvL (W : Wd) (F : FH) (h : Heap) (v : Value) (xs : List CV) : Prop
 | mk (a : Addr) (ob : Obj) (vs : List Value) (h1 : v = .ref a) (h2 : h.get? a = some ob) (h3 : LO ob vs) (h4 : RVs W.prog W.w F xs vs)
inductive CvD (W : Wd) (F : FH) (h : Heap) (v : Value) (es : List (SS × CV)) : Prop
 | mk (a : Addr) (ob : Obj) (kvs : List (Str × Value)) (h1 : v = .ref a) (h2 : h.get? a = some ob) (h3 : DO W.prog W.w ob kvs ∧ a ≠ sysModules) (h4 : RVd W.prog W.w F es kvs)
theorem aaK (I : Inv W F s) {v : Value} {xs : List CV} (r : CvAt W F s.heap (.list xs) v) : CvL W F s.heap v xs := by
 rcases r with r | ⟨o, a, e, e2, r⟩
 · simp only [RV] at r
   obtain ⟨a, o, vs, e, f, l, q⟩ := r
   exact ⟨a, o, vs, e, I.frz _ _ f, l, q⟩
 · cases o with
   | list ys =>
    cases e
    obtain ⟨ob, vs, e, l, q⟩ := r
    exact ⟨a, ob, vs, e2, e, l, q⟩
   | dict es => cases e
theorem abL (I : Inv W F s) {v : Value} {es : List (SS × CV)} (r : CvAt W F s.heap (.dict es) v) : CvD W F s.heap v es := by
 rcases r with r | ⟨o, a, e, e2, r⟩
 · simp only [RV] at r
   obtain ⟨a, o, vs, e, f, l, q⟩ := r
   exact ⟨a, o, vs, e, I.frz _ _ f, l, q⟩
 · cases o with
   | dict ys =>
    cases e
    obtain ⟨ob, vs, e, l, q⟩ := r
    exact ⟨a, ob, vs, e2, e, l, q⟩
   | list es => cases e
theorem aiS {v : Value} {xs : List Int} {h : Heap} (r : CvAt W F h (.iset xs) v) : ∃ a o, v = .ref a ∧ F a = some o ∧ SO W.prog W.w o xs := by
 rcases r with r | ⟨o, a, e, _⟩
 · simpa only [RV] using r
 · cases o <;> cases e
theorem LO.isList {a : Addr} {ob : Obj} {vs : List Value} {h : Heap} (e : h.get? a = some ob) (l : LO ob vs) : h.IsList a vs.toArray := by
 obtain ⟨n, l⟩ := l
 exact ⟨ob, e, by rw [l], n, by rw [l]⟩
theorem LO.plain {a : Addr} {ob : Obj} {vs : List Value} {h : Heap} (e : h.get? a = some ob) (l : LO ob vs) : h.PlainList a vs.toArray := by
 obtain ⟨n, l⟩ := l
 exact ⟨n, by rw [e, l]⟩
theorem SO.setOf {a : Addr} {ob : Obj} {xs : List Int} {h : Heap} (e : h.get? a = some ob) (l : SO W.prog W.w ob xs) : ∃ n, h.SetOf (intKind W.prog W.w) a (fun k => xs.contains k) n := by
 obtain ⟨es, ep, t, a1, a2, a3, a4, a5, a6⟩ := l
 exact ⟨_, ob, es, ep, t, e, a1, a2, a3, a4, a5, a6, rfl⟩
theorem DO.dictOf {a : Addr} {ob : Obj} {kvs : List (Str × Value)} {h : Heap} (e : h.get? a = some ob) (l : DO W.prog W.w ob kvs) : h.DictOf (strKind W.prog W.w) a kvs := by
 obtain ⟨x, es, ep, d, k, p, n⟩ := l
 exact ⟨ob, es, ep, e, x, d, k, p, n⟩
theorem RVs.len {F : FH} {prog : Program} {w : World} : ∀ {cs : List CV} {vs : List Value}, RVs prog w F cs vs -> vs.length = cs.length
 | [], vs, h => by subst h; rfl
 | c :: cs, vs, h => by
  obtain ⟨v, r, rfl, _, h⟩ := h
  rw [List.length_cons, List.length_cons, RVs.len h]
theorem RVs.get {F : FH} {prog : Program} {w : World} : ∀ {cs : List CV} {vs : List Value}, RVs prog w F cs vs -> ∀ {i : Nat} {c : CV}, cs[i]? = some c -> ∃ v, vs[i]? = some v ∧ RV prog w F c v
 | [], _, _, i, c, e => by simp at e
 | c :: cs, vs, h, i, d, e => by
  obtain ⟨v, r, rfl, h1, h⟩ := h
  cases i with
  | zero => simp only [List.getElem?_cons_zero, Option.some.injEq] at e; subst e; exact ⟨v, by simp, h1⟩
  | succ i => simp only [List.getElem?_cons_succ] at e ⊢; exact RVs.get h e
theorem RVs.append {F : FH} {prog : Program} {w : World} : ∀ {cs ds : List CV} {vs us : List Value}, RVs prog w F cs vs -> RVs prog w F ds us -> RVs prog w F (cs ++ ds) (vs ++ us)
 | [], ds, vs, us, h, h' => by subst h; exact h'
 | c :: cs, ds, vs, us, h, h' => by
  obtain ⟨v, r, rfl, h1, h⟩ := h
  simp only [List.cons_append]
  exact ⟨v, r ++ us, rfl, h1, RVs.append h h'⟩
theorem RVs.one {F : FH} {prog : Program} {w : World} {c : CV} {v : Value} (h : RV prog w F c v) : RVs prog w F [c] [v] := ⟨v, [], rfl, h, rfl⟩
theorem RVs.take {F : FH} {prog : Program} {w : World} : ∀ {cs : List CV} {vs : List Value}, RVs prog w F cs vs -> ∀ n, RVs prog w F (cs.take n) (vs.take n)
 | [], vs, h, n => by subst h; simp
 | c :: cs, vs, h, 0 => rfl
 | c :: cs, vs, h, n + 1 => by
  obtain ⟨v, r, rfl, h1, h⟩ := h
  simp only [List.take_succ_cons]
  exact ⟨v, r.take n, rfl, h1, RVs.take h n⟩
theorem RVs.drop {F : FH} {prog : Program} {w : World} : ∀ {cs : List CV} {vs : List Value}, RVs prog w F cs vs -> ∀ n, RVs prog w F (cs.drop n) (vs.drop n)
 | [], vs, h, n => by subst h; simp
 | c :: cs, vs, h, 0 => h
 | c :: cs, vs, h, n + 1 => by
  obtain ⟨v, r, rfl, h1, h⟩ := h
  simp only [List.drop_succ_cons]
  exact RVs.drop h n
theorem RVs.erase {F : FH} {prog : Program} {w : World} : ∀ {cs : List CV} {vs : List Value}, RVs prog w F cs vs -> ∀ n, RVs prog w F (cs.eraseIdx n) (vs.eraseIdx n)
 | [], vs, h, n => by subst h; simp
 | c :: cs, vs, h, 0 => by
  obtain ⟨v, r, rfl, h1, h⟩ := h
  exact h
 | c :: cs, vs, h, n + 1 => by
  obtain ⟨v, r, rfl, h1, h⟩ := h
  simp only [List.eraseIdx_cons_succ]
  exact ⟨v, r.eraseIdx n, rfl, h1, RVs.erase h n⟩
theorem RVs.set {F : FH} {prog : Program} {w : World} {d : CV} {u : Value} (hd : RV prog w F d u) : ∀ {cs : List CV} {vs : List Value}, RVs prog w F cs vs -> ∀ n, RVs prog w F (cs.set n d) (vs.set n u)
 | [], vs, h, n => by subst h; simp
 | c :: cs, vs, h, 0 => by
  obtain ⟨v, r, rfl, h1, h⟩ := h
  simp only [List.set_cons_zero]
  exact ⟨u, r, rfl, hd, h⟩
 | c :: cs, vs, h, n + 1 => by
  obtain ⟨v, r, rfl, h1, h⟩ := h
  simp only [List.set_cons_succ]
  exact ⟨v, r.set n u, rfl, h1, RVs.set hd h n⟩
theorem RVs.ints {F : FH} {prog : Program} {w : World} : ∀ {cs : List CV} {vs : List Value} {ns : List Int}, intsC cs = some ns -> RVs prog w F cs vs -> IntsAre vs ns
 | [], vs, ns, e, h => by cases e; subst h; exact .nil
 | c :: cs, vs, ns, e, h => by
  obtain ⟨v, r, rfl, hv, h⟩ := h
  cases c with
  | int i =>
   obtain ⟨t, rfl⟩ := hv
   exact D.el1 (.opt (intsC cs) fun l => .ret (i :: l)) e (C := fun ns => IntsAre (.int i t :: r) ns -> IntsAre (.int i t :: r) _) id fun l e1 k => k (.cons i t (RVs.ints e1 h))
  | _ => exact aab e
theorem RVs.strs {F : FH} {prog : Program} {w : World} : ∀ {cs : List CV} {vs : List Value} {ns : List SS}, strsC cs = some ns -> RVs prog w F cs vs -> StrsAre vs (ns.map (·.s))
 | [], vs, ns, e, h => by cases e; subst h; exact .nil
 | c :: cs, vs, ns, e, h => by
  obtain ⟨v, r, rfl, hv, h⟩ := h
  cases c with
  | str i =>
   obtain ⟨t, rfl⟩ := hv
   exact hid fun ng => D.el1 (.opt (strsC cs) fun l => .ret (i :: l)) e (C := fun (ns : List SS) => ¬StrsAre (.str i.s t :: r) (ns.map SS.s)) ng fun l e1 ng => ng (.cons i.s t (RVs.strs e1 h))
  | _ => exact aab e
set_option tactic.hygienic true
theorem akt {c d : CV} {b : Bool} (h : eqC c d = some b) (I : Inv W F s) (Rm : Room A 20) {v u : Value} (hv : CvAt W F s.heap c v) (hu : CvAt W F s.heap d u) {Q : VP} :
 (Q (.bool b) s -> wpAny (model W.prog W.w) A (compareOp .Eq v u) Q E s) ∧ (Q (.bool (!b)) s -> wpAny (model W.prog W.w) A (compareOp .NotEq v u) Q E s) := by
 have hroom : A.units + 64 < cLine := by have := Rm.2.2; show A.units + 64 < 9900; lia
 unfold eqC at h
 cases c with
 | int x =>
  dsimp only at h
  split at h
  rotate_left
  · exact aab h
  rename_i hy
  obtain rfl := aaj hy
  cases h
  obtain ⟨t, rfl⟩ := aa0 hv
  obtain ⟨t', rfl⟩ := aa0 hu
  exact ⟨fun q => wpAny_eq_int q, fun q => IsLeap.wpAny_ne_int (by simpa [bne] using q)⟩
 | str x =>
  dsimp only at h
  split at h
  rotate_left
  · exact aab h
  rename_i hy
  obtain rfl := aam hy
  cases h
  obtain ⟨t, rfl⟩ := aaz hv
  obtain ⟨t', rfl⟩ := aaz hu
  exact ⟨fun q => eq_str q, fun q => ne_str (by simpa [bne] using q)⟩
 | list xs =>
  dsimp only at h
  split at h
  rotate_left
  · exact aab h
  rename_i ys hy
  obtain rfl := aaJ hy
  obtain ⟨a, oa, vs, rfl, ea, la, ra⟩ := aaK I hv
  obtain ⟨b', ob, us, rfl, eb, lb, rb⟩ := aaK I hu
  split at h
  · rename_i n m e1 e2
    cases h
    have e : decide (n = m) = (n == m) := by rw [Bool.eq_iff_iff]; simp
    exact ⟨fun q => PySem.W.eq_intsK (la.isList ea) (RVs.ints e1 ra) (lb.isList eb) (RVs.ints e2 rb) hroom (by rw [e]; exact q),
     fun q => PySem.W.ne_intsK (la.isList ea) (RVs.ints e1 ra) (lb.isList eb) (RVs.ints e2 rb) hroom (by rw [e]; exact q)⟩
  · rename_i hn
    split at h
    · cases h
      have hne : (xs.length == 0) = false := by
       cases xs with
       | nil => exact absurd rfl (hn [] [] rfl)
       | cons x r => rfl
      have hsz : (vs.toArray.size != us.toArray.size) = true := by
       rw [List.size_toArray, List.size_toArray, RVs.len ra, RVs.len rb]
       simp only [List.length_nil, bne_iff_ne, ne_eq]
       exact fun q => by rw [q] at hne; cases hne
      rw [hne]
      exact ⟨fun q => eq_list_lengthsAt (la.isList ea) (lb.isList eb) hsz Rm.uni q, fun q => RcNeAt.lists_lengths (la.isList ea) (lb.isList eb) hsz Rm.uni W.prog W.w E Q q⟩
    · cases h
 | _ => exact aab h
end
section
variable {W : Wd} {F F' : FH} {s s' : Shared} {env : Env} {ρ : CE} {ad : Str -> Option Addr} {M : Addr -> Prop} {A : Around} {E : VP}
set_option tactic.hygienic false
theorem Stp.toks (I : Inv W F s) (tk : Nat) : Stp W (fun _ => False) F F s { s with toks := tk } := Stp.ofKeep (tk := tk) I (fun _ _ e => e)
def PV (W : Wd) (F : FH) (s : Shared) (c : CV) (Q : VP) : Prop := ∀ v F' s', Stp W (fun _ => False) F F' s s' -> RV W.prog W.w F' c v -> Q v s'
theorem PV.same {c : CV} {Q : VP} (h : PV W F s c Q) (I : Inv W F s) {v : Value} (r : RV W.prog W.w F c v) : Q v s := h v F s (.refl I) r
theorem PV.tk {c : CV} {Q : VP} (h : PV W F s c Q) (I : Inv W F s) {v : Value} (r : RV W.prog W.w F c v) (tk : Nat) : Q v { s with toks := tk } := h v F _ (Stp.toks I tk) r
theorem PV.int {i : Int} {Q : VP} (h : PV W F s (.int i) Q) (I : Inv W F s) (t : Tok) (tk : Nat) : Q (.int i t) { s with toks := tk } := h.tk I (⟨t, rfl⟩) tk
theorem PV.str {x : SS} {Q : VP} (h : PV W F s (.str x) Q) (I : Inv W F s) (t : Tok) (tk : Nat) : Q (.str x.s t) { s with toks := tk } := h.tk I (⟨t, rfl⟩) tk
theorem PV.newList {cs : List CV} {vs : List Value} {Q : VP} (h : PV W F s (.list cs) Q) (I : Inv W F s) (r : RVs W.prog W.w F cs vs) {h' : Heap} {a : Addr} (tk : Nat)
 (hk : ∀ b o, s.heap.get? b = some o -> h'.get? b = some o) (ha : Fre s.heap a) (hp : h'.PlainList a vs.toArray) :
 Q (.ref a) { s with heap := h', toks := tk } := by
 obtain ⟨n, hp⟩ := hp
 have S := Stp.ofKeep (tk := tk) I hk
 have hn := I.fresh ha
 refine h _ _ _ (S.freeze hn hp (I.tabOld ha) (.inr ha)) ?_
 exact ⟨a, _, vs, rfl, FH.add_self .., ⟨n, rfl⟩, RVs.mono _ _ (FH.add_sub hn) _ _ r⟩
theorem PV.pushList {cs : List CV} {vs : List Value} {Q : VP} (h : PV W F s (.list cs) Q) (I : Inv W F s) (r : RVs W.prog W.w F cs vs) (tk : Nat) (n : Nat) :
 Q (.ref s.heap.objs.size) { s with heap := s.heap.push { cls := .type "list", data := .seq vs.toArray n }, toks := tk } :=
 h.newList I r tk (fun _ _ e => Heap.get?_push_of_some _ e) (Fre.size _ (Nat.le_refl _)) ⟨n, Heap.get?_push_size _ rfl⟩
theorem aku {c d : CV} {b : Bool} (h : isC c d = some b) {hp : Heap} {v u : Value} (hv : CvAt W F hp c v) (hu : CvAt W F hp d u) {Q : VP} :
 (Q (.bool b) s -> wpAny (model W.prog W.w) A (compareOp .Is v u) Q E s) ∧ (Q (.bool (!b)) s -> wpAny (model W.prog W.w) A (compareOp .IsNot v u) Q E s) := by
 have pn : ∀ v : Value, plainIs v .none = true -> (v == .none) = b -> (Q (.bool b) s -> wpAny (model W.prog W.w) A (compareOp .Is v .none) Q E s) ∧ (Q (.bool (!b)) s -> wpAny (model W.prog W.w) A (compareOp .IsNot v .none) Q E s) :=
  fun v hp e => ⟨fun q => wpAny_is_plain hp (by rw [e]; exact q), fun q => wpAny_isNot_plain hp (by rw [e]; exact q)⟩
 cases c with
 | bool a =>
  cases d with
  | bool d =>
   cases h
   obtain rfl := acA hv
   obtain rfl := acA hu
   have e : (Value.bool a == Value.bool d) = (a == d) := by cases a <;> cases d <;> rfl
   exact ⟨fun q => wpAny_is_plain rfl (by rw [e]; exact q), fun q => wpAny_isNot_plain rfl (by rw [e]; exact q)⟩
  | none => cases h; obtain rfl := acA hv; obtain rfl := abK hu; exact pn _ rfl rfl
  | _ => exact aab h
 | none =>
  cases d with
  | none => cases h; obtain rfl := abK hv; obtain rfl := abK hu; exact pn _ rfl rfl
  | bool d =>
   cases h; obtain rfl := abK hv; obtain rfl := acA hu
   exact ⟨fun q => wpAny_is_plain rfl q, fun q => wpAny_isNot_plain rfl q⟩
  | _ => exact aab h
 | int i =>
  cases d with
  | none => cases h; obtain ⟨t, rfl⟩ := aa0 hv; obtain rfl := abK hu; exact pn _ rfl rfl
  | _ => exact aab h
 | lam L caps =>
  cases d with
  | none =>
   cases h; obtain rfl := abK hu
   rcases hv with r | ⟨o, a, e, _⟩
   · simp only [RV] at r
     refine hid fun z11 => ?_
     obtain ⟨a, o, _, _, _, _, _, _, rfl, _⟩ := r
     refine z11 ?_
     exact pn _ rfl rfl
   · cases o <;> cases e
  | _ => exact aab h
 | _ => exact aab h
theorem akv {c d : CV} {b : Bool} (h : inC c d = some b) (I : Inv W F s) {v u : Value} (hv : CvAt W F s.heap c v) (hu : CvAt W F s.heap d u) {Q : VP}  :
 ((∀ tk, Q (.bool b) { s with toks := tk }) -> wpAny (model W.prog W.w) A (compareOp .In v u) Q E s) ∧ ((∀ tk, Q (.bool (!b)) { s with toks := tk }) -> wpAny (model W.prog W.w) A (compareOp .NotIn v u) Q E s) := by
 unfold inC at h
 refine hid fun z0 => ?_
 cases d with
 | str x =>
  dsimp only at h
  cases h1 : cvStr c with
  | none => rw [h1] at h; exact aab h
  | some y =>
   rw [h1] at h; cases h
   obtain rfl := aam h1
   obtain ⟨t, rfl⟩ := aaz hv
   obtain ⟨t', rfl⟩ := aaz hu
   refine z0 ?_
   exact ⟨fun q => in_str (q s.toks), fun q => notIn_str (q s.toks)⟩
 | iset xs =>
  dsimp only at h
  cases h1 : cvInt c with
  | none => rw [h1] at h; exact aab h
  | some i =>
   rw [h1] at h; cases h
   obtain rfl := aaj h1
   obtain ⟨t, rfl⟩ := aa0 hv
   obtain ⟨a, o, rfl, e, so⟩ := aiS hu
   obtain ⟨n, hs⟩ := so.setOf (I.frz _ _ e)
   refine z0 ?_
   exact ⟨fun q => wpAny_inSet_of (by simp [intKind, Value.isInt]) rfl hs (q _), fun q => wpAny_notInSet_of (by simp [intKind, Value.isInt]) rfl hs (q _)⟩
 | _ => exact aab h
theorem aaW {c d : CV} {hp : Heap} {v u : Value} (hv : CvAt W F hp c v) (hu : CvAt W F hp d u) {P : Prop} {α : Type} {f : Int -> Int -> Option α} {r : α}
 (h : (match cvInt c, cvInt d with | some x, some y => f x y | _, _ => none) = some r) (k : ∀ x y t t', f x y = some r -> v = .int x t -> u = .int y t' -> P) : P := by
 refine hid fun z0 => ?_
 cases h1 : cvInt c with
 | none => rw [h1] at h; exact aab h
 | some x =>
  cases h2 : cvInt d with
  | none => rw [h1, h2] at h; exact aab h
  | some y =>
   rw [h1, h2] at h
   obtain rfl := aaj h1
   obtain rfl := aaj h2
   obtain ⟨t, rfl⟩ := aa0 hv
   obtain ⟨t', rfl⟩ := aa0 hu
   refine z0 ?_
   exact k x y t t' h rfl rfl
theorem aip {op : CmpOp} {c d : CV} {b : Bool} (h : cmpC op c d = some b) (I : Inv W F s) (Rm : Room A 20) {v u : Value} (hv : CvAt W F s.heap c v) (hu : CvAt W F s.heap d u) {Q : VP}
 (hQ : ∀ tk, Q (.bool b) { s with toks := tk }) : wpAny (model W.prog W.w) A (compareOp op v u) Q E s := by
 have hn : ∀ o : Option Bool, onot o = some b -> ∃ a, o = some a ∧ b = !a := fun o e => by
  cases o with
  | none => cases e
  | some a => exact ⟨a, rfl, (Option.some.inj e).symm⟩
 cases op with
 | Eq => exact (akt h I Rm hv hu).1 (hQ s.toks)
 | NotEq => obtain ⟨a, e, rfl⟩ := hn _ h; exact (akt e I Rm hv hu).2 (hQ s.toks)
 | Is => exact (aku h hv hu).1 (hQ s.toks)
 | IsNot => obtain ⟨a, e, rfl⟩ := hn _ h; exact (aku e hv hu).2 (hQ s.toks)
 | In => exact (akv h I hv hu).1 hQ
 | NotIn => obtain ⟨a, e, rfl⟩ := hn _ h; exact (akv e I hv hu).2 hQ
 | Lt => exact aaW hv hu (f := fun x y => some (decide (x < y))) h fun x y t t' e e1 e2 => by cases e; subst e1 e2; exact wpAny_lt_int (hQ s.toks)
 | LtE => exact aaW hv hu (f := fun x y => some (decide (x ≤ y))) h fun x y t t' e e1 e2 => by cases e; subst e1 e2; exact le_int (hQ s.toks)
 | Gt => exact aaW hv hu (f := fun x y => some (decide (x > y))) h fun x y t t' e e1 e2 => by cases e; subst e1 e2; exact SiftDown.gt_int (hQ s.toks)
 | GtE => exact aaW hv hu (f := fun x y => some (decide (x ≥ y))) h fun x y t t' e e1 e2 => by cases e; subst e1 e2; exact ge_int (hQ s.toks)
theorem aeY {c : CV} {b : Bool} (h : truthC c = some b) {v : Value} (hv : CvAt W F s.heap c v) {Q : Bool -> Shared -> Prop} (hQ : ∀ tk, Q b { s with toks := tk }) :
 wpAny (model W.prog W.w) A (truthy v) Q E s := by
 refine hid fun z0 => ?_
 cases c with
 | none => cases h; obtain rfl := abK hv; exact z0 (wpAny_pure (hQ s.toks))
 | bool b => cases h; obtain rfl := acA hv; exact z0 (wpAny_truthy_bool (hQ s.toks))
 | str x =>
  refine D.el1 (.grd (Nat.ble x.b 16777216) (.ret (!(x.s.length == 0)))) h (C := fun b => ∀ tk, Q b { s with toks := tk }) hQ fun hle hQ => ?_
  obtain ⟨t, rfl⟩ := aaz hv
  refine z0 (P.truthy_str (fun q => absurd (Int.le_trans q (Int.ofNat_le.mpr (Nat.le_trans x.h (Nat.le_of_ble_eq_true hle)))) (by decide)) ?_)
  have e : ((x.s.length : Int) != 0) = !(x.s.length == 0) := by rw [Bool.eq_iff_iff]; simp
  rw [e]; exact hQ _
 | _ => exact aab h
theorem ado {y : Int} (h : small y = true) : y.natAbs < 1073741824 ∧ y.natAbs < 2 ^ 64 := by
 unfold small at h
 simp only [Bool.and_eq_true, decide_eq_true_eq] at h
 omega
set_option tactic.hygienic true
theorem akw {op : Operator} {c d r : CV} (h : binC op c d = some r) (I : Inv W F s) {v u : Value} (hv : CvAt W F s.heap c v) (hu : CvAt W F s.heap d u) {Q : VP}
 (hQ : PV W F s r Q) : wpAny (model W.prog W.w) A (binaryOp op v u) Q E s := by
 cases op with
 | Add =>
  replace h : addV c d = some r := h
  unfold addV at h
  refine hid fun z1 => ?_
  cases c with
  | int x =>
   dsimp only at h
   cases h1 : cvInt d with
   | none => rw [h1] at h; exact aab h
   | some y =>
    rw [h1] at h; cases h; obtain rfl := aaj h1
    obtain ⟨t, rfl⟩ := aa0 hv; obtain ⟨t', rfl⟩ := aa0 hu; refine z1 ?_; exact wpAny_add_int (hQ.int I _ _)
  | str x =>
   dsimp only at h
   cases h1 : cvStr d with
   | none => rw [h1] at h; exact aab h
   | some y =>
    rw [h1] at h; obtain rfl := aam h1
    dsimp only at h
    split at h
    · rename_i hle
      cases h
      have hle := Nat.le_of_ble_eq_true hle
      obtain ⟨t, rfl⟩ := aaz hv; obtain ⟨t', rfl⟩ := aaz hu
      refine z1 ?_
      refine add_str (fun t' tk => hQ.str I _ _) ?_
      have h1 := x.h; have h2 := y.h
      show _ ≤ 16777216
      unfold LIM at hle; lia
    · exact aab h
  | list xs =>
   dsimp only at h
   cases h1 : cvList d with
   | none => rw [h1] at h; exact aab h
   | some ys =>
    rw [h1] at h; obtain rfl := aaJ h1
    dsimp only at h
    split at h
    · rename_i hle
      cases h
      have hle := Nat.le_of_ble_eq_true hle
      obtain ⟨a, oa, vs, rfl, ea, ⟨n, la⟩, ra⟩ := aaK I hv
      obtain ⟨b, ob, us, rfl, eb, ⟨m, lb⟩, rb⟩ := aaK I hu
      subst la lb
      refine z1 ?_
      refine P.add_list ea eb ?_ ?_
      · rw [List.append_toArray]
        exact hQ.pushList I (ra.append rb) _ 0
      · rw [List.size_toArray, List.size_toArray, ra.len, rb.len]; exact hle
    · exact aab h
  | _ => exact aab h
 | Sub => exact aaW (α := CV) hv hu (f := fun x y => some (.int (x - y))) h fun x y t t' e e1 e2 => by cases e; subst e1 e2; exact sub_int' (hQ.int I _ _)
 | FloorDiv =>
  refine aaW (α := CV) hv hu (f := fun x y => match decide (y = 0) || !small y with | true => none | false => some (.int (Int.fdiv x y))) h fun x y t t' e e1 e2 => ?_
  refine hid fun z2 => ?_
  subst e1 e2
  split at e
  · exact aab e
  · rename_i hle
    cases e
    simp only [Bool.or_eq_false_iff, decide_eq_false_iff_not, Bool.not_eq_false'] at hle
    refine z2 ?_
    exact floordiv_int hle.1 (hQ.int I _ _) (.inl (PyProof.noPylong_small (ado hle.2).1))
 | Mod =>
  refine aaW (α := CV) hv hu (f := fun x y => match decide (y = 0) with | true => none | false => some (.int (Int.fmod x y))) h fun x y t t' e e1 e2 => ?_
  refine hid fun z3 => ?_
  subst e1 e2
  split at e
  · exact aab e
  · rename_i hle
    cases e
    simp only [decide_eq_false_iff_not] at hle
    refine z3 ?_
    exact IsLeap.wpAny_mod_int hle (hQ.int I _ _)
 | Pow =>
  refine aaW (α := CV) hv hu (f := fun x j => match j with | .ofNat k => (match small x && Nat.ble k 60 with | true => some (.int (x ^ k)) | false => none) | .negSucc _ => none) h fun x j t t' e e1 e2 => ?_
  refine hid fun z4 => ?_
  subst e1 e2
  cases j with
  | negSucc _ => exact aab e
  | ofNat k =>
   dsimp only at e
   split at e
   · rename_i hle
     cases e
     simp only [Bool.and_eq_true] at hle
     have h2 := Nat.le_of_ble_eq_true hle.2
     refine z4 ?_
     exact pow_int_small (Int.natCast_nonneg k) (by simp only [Int.ofNat_eq_natCast]; lia) (ado hle.1).2 (hQ.int I _ _)
   · exact aab e
 | _ => exact aab h
theorem aiq {op : Operator} {c d r : CV} (h : augC op c d = some r) (I : Inv W F s) {v u : Value} (hv : CvAt W F s.heap c v) (hu : CvAt W F s.heap d u) {Q : VP}
 (hQ : PV W F s r Q) : wpAny (model W.prog W.w) A (inplaceOp op v u) Q E s := by
 cases op with
 | Add =>
  refine hid fun z1 => ?_
  cases c with
  | int x =>
   replace h : addV (.int x) d = some r := h
   unfold addV at h
   dsimp only at h
   cases h1 : cvInt d with
   | none => rw [h1] at h; exact aab h
   | some y =>
    rw [h1] at h; cases h; obtain rfl := aaj h1
    obtain ⟨t, rfl⟩ := aa0 hv; obtain ⟨t', rfl⟩ := aa0 hu; refine z1 ?_; exact wpAny_iadd_int (hQ.int I _ _)
  | str x =>
   replace h : addV (.str x) d = some r := h
   unfold addV at h
   dsimp only at h
   cases h1 : cvStr d with
   | none => rw [h1] at h; exact aab h
   | some y =>
    rw [h1] at h; obtain rfl := aam h1
    dsimp only at h
    split at h
    · rename_i hle
      cases h
      have hle := Nat.le_of_ble_eq_true hle
      obtain ⟨t, rfl⟩ := aaz hv; obtain ⟨t', rfl⟩ := aaz hu
      refine z1 ?_
      refine iadd_str (fun t' tk => hQ.str I _ _) ?_
      have h1 := x.h; have h2 := y.h
      show _ ≤ 16777216
      unfold LIM at hle; lia
    · exact aab h
  | _ => exact aab h
 | Sub => exact aaW (α := CV) hv hu (f := fun x y => some (.int (x - y))) h fun x y t t' e e1 e2 => by cases e; subst e1 e2; exact isub_int (hQ.int I _ _)
 | FloorDiv =>
  refine aaW (α := CV) hv hu (f := fun x y => match decide (y = 0) || !small y with | true => none | false => some (.int (Int.fdiv x y))) h fun x y t t' e e1 e2 => ?_
  refine hid fun z2 => ?_
  subst e1 e2
  split at e
  · exact aab e
  · rename_i hle
    cases e
    simp only [Bool.or_eq_false_iff, decide_eq_false_iff_not, Bool.not_eq_false'] at hle
    refine z2 ?_
    exact ifloordiv_int hle.1 (hQ.int I _ _) (.inl (PyProof.noPylong_small (ado hle.2).1))
 | _ => exact aab h
set_option tactic.hygienic false
theorem akx {op : UnaryOp} {c r : CV} (h : negC op c = some r) (I : Inv W F s) {v : Value} (hv : CvAt W F s.heap c v) {Q : VP}
 (hQ : PV W F s r Q) : wpAny (model W.prog W.w) A (unaryOp op v) Q E s := by
 refine hid fun z0 => ?_
 cases op <;> first | exact aab h | skip
 cases c <;> first | exact aab h | skip
 cases h; obtain ⟨t, rfl⟩ := aa0 hv; exact z0 (neg_int (hQ.int I _ _))
end
section
variable {W : Wd} {F F' : FH} {s s' : Shared} {env : Env} {ρ : CE} {ad : Str -> Option Addr} {M : Addr -> Prop} {A : Around} {E : VP}
set_option tactic.hygienic false
theorem abl {i : Int} {n k : Nat} (h : seqIndex? i n = some k) : (0 ≤ i ∧ i.toNat = k ∧ k < n) ∨ (i < 0 ∧ -(n : Int) ≤ i ∧ (i + n).toNat = k ∧ k < n) := by
 unfold seqIndex? at h
 dsimp only at h
 refine hid fun z0 => ?_
 by_cases hi : i < 0
 · simp only [if_pos hi] at h
   by_cases hj : (decide (0 ≤ i + (n : Int)) && decide (i + (n : Int) < (n : Int))) = true
   · rw [if_pos hj] at h
     simp only [Bool.and_eq_true, decide_eq_true_eq] at hj
     have h := Option.some.inj h
     refine z0 ?_
     exact .inr ⟨hi, by omega, h, by omega⟩
   · rw [if_neg hj] at h; cases h
 · simp only [if_neg hi] at h
   by_cases hj : (decide (0 ≤ i) && decide (i < (n : Int))) = true
   · rw [if_pos hj] at h
     simp only [Bool.and_eq_true, decide_eq_true_eq] at hj
     have h := Option.some.inj h
     refine z0 ?_
     exact .inl ⟨by lia, h, by omega⟩
   · rw [if_neg hj] at h; cases h
theorem RVd.at {F : FH} {prog : Program} {w : World} : ∀ {es : List (SS × CV)} {kvs : List (Str × Value)}, RVd prog w F es kvs -> ∀ k,
 (∀ c, dget es k = some c -> ∃ v, valueAt kvs k = some v ∧ RV prog w F c v) ∧ (dget es k = none -> valueAt kvs k = none)
 | [], kvs, h, k => by subst h; exact ⟨fun c e => (by cases e), fun _ => rfl⟩
 | (x, d) :: es, kvs, h, k => by
  obtain ⟨v, r, rfl, h1, h2⟩ := h
  have ih := RVd.at h2 k
  rw [adP]; unfold valueAt
  cases hk : k == x.s with
  | true =>
   have e : x.s = k := (beq_iff_eq.mp hk).symm
   refine ⟨fun c q => ?_, fun q => by cases q⟩
   cases q
   exact ⟨v, by simp [List.find?, e], h1⟩
  | false =>
   have e : ¬ x.s = k := fun q => (beq_eq_false_iff_ne.mp hk) q.symm
   have e2 : List.find? (fun kv => decide (kv.1 = k)) ((x.s, v) :: r) = List.find? (fun kv => decide (kv.1 = k)) r := by simp [List.find?, e]
   rw [e2]; exact ih
theorem RVd.len {F : FH} {prog : Program} {w : World} : ∀ {es : List (SS × CV)} {kvs : List (Str × Value)}, RVd prog w F es kvs -> kvs.length = es.length
 | [], kvs, h => by subst h; rfl
 | (x, d) :: es, kvs, h => by
  obtain ⟨v, r, rfl, h1, h2⟩ := h
  rw [List.length_cons, List.length_cons, RVd.len h2]
theorem acW {kvs : List (Str × Value)} {k x : Str} {v u : Value} (h : x ≠ k) : stored ((x, u) :: kvs) k v = (x, u) :: stored kvs k v := by
 unfold stored
 have e : decide (x = k) = false := decide_eq_false h
 simp only [List.any_cons, e, Bool.false_or, List.map_cons, if_neg h, List.cons_append]
 split <;> rfl
theorem afx {kvs : List (Str × Value)} {k : Str} {v : Value} (h : k ∉ kvs.map (·.1)) : kvs.map (fun kv => if kv.1 = k then (kv.1, v) else kv) = kvs := by
 induction kvs with
 | nil => rfl
 | cons p r ih =>
  simp only [List.map_cons, List.mem_cons, not_or] at h ⊢
  rw [if_neg (fun q => h.1 q.symm), ih h.2]
theorem RVd.put {F : FH} {prog : Program} {w : World} {k : SS} {c : CV} {v : Value} (hc : RV prog w F c v) : ∀ {es : List (SS × CV)} {kvs : List (Str × Value)}, (kvs.map (·.1)).Nodup -> RVd prog w F es kvs ->
 RVd prog w F (dput es k c) (stored kvs k.s v)
 | [], kvs, _, h => by
  subst h
  unfold stored; rw [show dput [] _ _ = [(_, _)] from rfl]
  simp only [List.any_nil, List.nil_append]
  exact ⟨v, [], rfl, hc, rfl⟩
 | (x, d) :: es, kvs, hn, h => by
  obtain ⟨u, r, rfl, h1, h2⟩ := h
  simp only [List.map_cons, List.nodup_cons] at hn
  rw [aeU]
  cases hk : k.s == x.s with
  | true =>
   have e : x.s = k.s := (beq_iff_eq.mp hk).symm
   refine ⟨v, r, ?_, hc, h2⟩
   unfold stored
   simp only [List.any_cons, e, decide_true, Bool.true_or, if_true, List.map_cons]
   rw [afx (by rw [<- e]; exact hn.1)]
  | false =>
   have e : x.s ≠ k.s := fun q => (beq_eq_false_iff_ne.mp hk) q.symm
   rw [acW e]
   exact ⟨u, _, rfl, h1, RVd.put hc hn.2 h2⟩
set_option tactic.hygienic true
theorem air {c d r : CV} (h : subC c d = some r) (I : Inv W F s) {v u : Value} (hv : CvAt W F s.heap c v) (hu : CvAt W F s.heap d u) {Q : VP} (hQ : PV W F s r Q) :
 SubscriptOn (model W.prog W.w) A v u Q E s := by
 unfold subC at h
 refine hid fun z0 => ?_
 cases c with
 | list xs =>
  dsimp only at h
  split at h
  refine z0 ?_
  rotate_left
  · exact aab h
  rename_i i hy
  refine hid fun z1 => ?_
  obtain rfl := aaj hy
  obtain ⟨a, oa, vs, rfl, ea, la, ra⟩ := aaK I hv
  obtain ⟨t, rfl⟩ := aa0 hu
  unfold subAtList at h
  split at h
  · rename_i k hk
    split at h
    · rename_i hle
      have hle := Nat.le_of_ble_eq_true hle
      unfold LIM at hle
      obtain ⟨x, hx, rx⟩ := ra.get h
      have hl := la.isList ea
      refine z1 ?_
      refine ⟨"list", _, PySem.F.slot_list_getitem.lookup, ⟨oa, ea, by obtain ⟨n, q⟩ := la; rw [q]⟩, ?_⟩
      have hsz : (vs.toArray.size : Int) = xs.length := by rw [List.size_toArray, ra.len]
      refine hid fun z2 => ?_
      rcases abl hk with ⟨h0, h1, h2⟩ | ⟨h0, h1, h2, h3⟩
      · refine z2 ?_
        exact wpAny_getItem_list hl h0 (by lia) (by rw [h1]; simpa using hx) (hQ.same I rx)
      · refine z2 ?_
        exact wpAny_getItem_list_neg hl h0 (by rw [hsz]; exact h1) (by lia) (by rw [hsz, h2]; simpa using hx) (hQ.same I rx)
    · cases h
  · cases h
 | str x =>
  dsimp only at h
  split at h
  refine z0 ?_
  rotate_left
  · exact aab h
  rename_i i hy
  refine hid fun z3 => ?_
  obtain rfl := aaj hy
  obtain ⟨t, rfl⟩ := aaz hv
  obtain ⟨t', rfl⟩ := aa0 hu
  unfold subAtStr at h
  split at h
  · rename_i ch hc
    split at h
    · cases h
    · rename_i hr
      cases h
      refine z3 ?_
      exact ⟨"str", _, PySem.F.slot_str_getitem.lookup, typeIs_str _ _ _, getItem_str hr hc (hQ.str I _ _)⟩
  · cases h
 | dict es =>
  dsimp only at h
  split at h
  refine z0 ?_
  rotate_left
  · exact aab h
  rename_i k hy
  refine hid fun z4 => ?_
  obtain rfl := aam hy
  obtain ⟨a, oa, kvs, rfl, ea, la, ra⟩ := abL I hv
  obtain ⟨t', rfl⟩ := aaz hu
  have hd := DO.dictOf (W := W) ea la.1
  obtain ⟨x, hx, rx⟩ := (RVd.at ra k.s).1 _ h
  refine z4 ?_
  refine ⟨"dict", _, PySem.F.slot_dict_getitem.lookup, ⟨oa, ea, la.1.1.1⟩, ?_⟩
  exact wpAny_getItem_of (knd := PySem.strKind W.prog W.w) (k := k.s) (by simp [PySem.strKind, Value.isStrOf]) hd.mapOf hx (hQ.tk I rx _)
 | _ => exact aab h
set_option tactic.hygienic false
theorem abQ {prog : Program} {w : World} {value slice : Expr} {pos : Pos} {Q : VP}
 (h : wpAny (model prog w) A (eval value env) (fun o s1 => wpAny (model prog w) A (eval slice env) (fun i s2 => SubscriptOn (model prog w) A o i Q E s2) E s1) E s) :
 wpAny (model prog w) A (eval (.Subscript value slice pos) env) Q E s := by
 rw [eval_Subscript]
 refine wpAny_bind (wpAny_mono h (fun o s1 h1 => wpAny_bind (wpAny_holding (wpAny_mono h1 (fun i s2 h2 => wpAny_bind (wpAny_standAt ?_)) fun _ _ x => x))) fun _ _ x => x)
 obtain ⟨T, id, hl, hT, hg⟩ := h2
 refine wpAny_bind ?_
 rw [getitemInPython_of_ne hT.not_modules]
 refine wpAny_bind (wpAny_specialOf hT hl ?_)
 have fin : wpAny (model prog w) A (subscripted slice false o i) (fun r s3 => wpAny (model prog w) A (letTemporaryGo value o r >>= fun _ => pure r) Q E s3) E s2 := by
  have k : wpAny (model prog w) A (getItem o i) (fun r s3 => wpAny (model prog w) A (letTemporaryGo value o r >>= fun _ => pure r) Q E s3) E s2 :=
   wpAny_mono hg (fun r s3 h3 => wpAny_bind (wpAny_letTemporaryGo (wpAny_pure h3))) fun _ _ x => x
  have k' : ∀ l, wpAny (model prog w) A (operate l (getItem o i)) (fun r s3 => wpAny (model prog w) A (letTemporaryGo value o r >>= fun _ => pure r) Q E s3) E s2 := fun l => wpAny_operating k
  cases slice with
  | Slice a b c p => cases c <;> exact k' _
  | _ => exact k' _
 exact wpAny_pure (wpAny_bind fin)
theorem abR {F : FH} {prog : Program} {w : World} {cs : List CV} {vs : List Value} (h : RVs prog w F cs vs) : ∀ l : List Nat, RVs prog w F (l.filterMap (cs[·]?)) (l.filterMap (vs[·]?))
 | [] => rfl
 | k :: l => by
  have ih := abR h l
  have e := h.len
  rw [List.filterMap_cons, List.filterMap_cons]
  cases hc : cs[k]? with
  | none =>
   have : vs[k]? = none := by rw [List.getElem?_eq_none_iff] at hc ⊢; lia
   rw [this]; exact ih
  | some c =>
   obtain ⟨v, hv, rv⟩ := h.get hc
   rw [hv]
   exact ⟨v, _, rfl, rv, ih⟩
def PartIs (v : Value) (o : Option Int) : Prop := match o with
 | none => v = .none
 | some i => ∃ t, v = .int i t
theorem PartIs.isPart {v : Value} {o : Option Int} (h : PartIs v o) : IsPart v o := by
 cases o with
 | none => cases h; exact .none
 | some i => obtain ⟨t, rfl⟩ := h; exact .int i t
theorem PartIs.pv {v : Value} {o : Option Int} (h : PartIs v o) : ∃ p, v = partValue p ∧ p.map (·.1) = o := by
 cases o with
 | none => cases h; exact ⟨none, rfl, rfl⟩
 | some i => obtain ⟨t, rfl⟩ := h; exact ⟨some (i, t), rfl, rfl⟩
set_option tactic.hygienic true
theorem acl {c r : CV} {lo hi : Option Int} (h : sliceC c lo hi = some r) (I : Inv W F s) {v vl vu : Value} (hv : CvAt W F s.heap c v) (hl : PartIs vl lo) (hu : PartIs vu hi) {Q : VP} (hQ : PV W F s r Q) :
 SubscriptOn (model W.prog W.w) A v (.ref s.heap.objs.size) Q E { s with heap := s.heap.push { cls := .type "slice", data := .fields #[vl, vu, .none] } } := by
 have I' := (Stp.ofKeep (tk := s.toks) I (h' := s.heap.push { cls := .type "slice", data := .fields #[vl, vu, .none] }) (fun _ _ e => Heap.get?_push_of_some _ e))
 unfold sliceC at h
 refine hid fun z0 => ?_
 split at h
 · rename_i xs
   split at h
   · rename_i hle
     have hle := Nat.le_of_ble_eq_true hle
     cases h
     obtain ⟨a, oa, vs, rfl, ea, la, ra⟩ := aaK I hv
     have ea' : (s.heap.push { cls := .type "slice", data := .fields #[vl, vu, .none] }).get? a = some oa := Heap.get?_push_of_some _ ea
     refine z0 ?_
     refine ⟨"list", _, PySem.F.slot_list_getitem.lookup, ⟨oa, ea', by obtain ⟨n, q⟩ := la; rw [q]⟩, ?_⟩
     refine wpAny_getItem_list_slice (la.isList ea') ⟨_, Heap.get?_push_size _ rfl, rfl, rfl⟩ hl.isPart hu.isPart .none (by intro q; cases q) ?_ (by rw [List.size_toArray, ra.len]; exact hle)
     refine hQ.newList I (vs := (slicePick vs.toArray lo hi none).toList) ?_ s.toks (fun _ _ e => Heap.get?_push_of_some _ (Heap.get?_push_of_some _ e)) ?_ ⟨0, ?_⟩
     · unfold slicePick pickC
       rw [List.size_toArray, ra.len]
       simpa using abR ra _
     · exact Fre.size _ (by rw [Heap.size_push]; exact Nat.le_succ _)
     · rw [Heap.get?_push_size _ rfl]
   · cases h
 · rename_i x
   split at h
   · rename_i hle
     cases h
     obtain ⟨t, rfl⟩ := aaz hv
     obtain ⟨pl, rfl, rfl⟩ := hl.pv
     obtain ⟨pu, rfl, rfl⟩ := hu.pv
     refine z0 ?_
     refine ⟨"str", _, PySem.F.slot_str_getitem.lookup, typeIs_str _ _ _, ?_⟩
     refine wpAny_getItem_str_slice (l := pl) (u := pu) (st := none) ⟨_, Heap.get?_push_size _ rfl, rfl, rfl⟩ rfl ?_
     have fin : ∀ t tk, Q (.str (Txt.slice x.s (pl.map (·.1)) (pu.map (·.1))) t) { s with heap := s.heap.push { cls := .type "slice", data := .fields #[partValue pl, partValue pu, .none] }, toks := tk } := fun t tk =>
      hQ _ _ _ (Stp.ofKeep (tk := tk) I (fun _ _ e => Heap.get?_push_of_some _ e)) (⟨t, rfl⟩)
     have hx := x.h
     have hle := Nat.le_of_ble_eq_true hle
     have hz := Nat.le_trans (Txt.slice_le x.s (pl.map (·.1)) (pu.map (·.1))) (Nat.le_trans hx hle)
     have e : Txt.slice x.s (pl.map (·.1)) (pu.map (·.1)) = if ((1 : Int) == 1 && (slicePicked x.s pl pu none).length == x.s.length) = true then x.s else ⟨((slicePicked x.s pl pu none).filterMap (x.s.cps[·]?)).toArray⟩ := rfl
     rw [e] at fin hz
     have e2 : sliceMade x.s t pl pu none = if ((1 : Int) == 1 && (slicePicked x.s pl pu none).length == x.s.length) = true then Made.val (.str x.s t) else Made.str ⟨((slicePicked x.s pl pu none).filterMap (x.s.cps[·]?)).toArray⟩ := rfl
     rw [e2]
     generalize ((1 : Int) == 1 && (slicePicked x.s pl pu none).length == x.s.length) = cc at fin hz ⊢
     generalize (⟨((slicePicked x.s pl pu none).filterMap (x.s.cps[·]?)).toArray⟩ : Str) = zz at fin hz ⊢
     exact post_val_or_str ⟨hz, fin⟩
   · cases h
 · cases h
end
section
variable {W : Wd} {F F' : FH} {s s' : Shared} {env : Env} {ρ : CE} {ad : Str -> Option Addr} {M : Addr -> Prop} {A : Around} {E : VP}
set_option tactic.hygienic false
theorem Stp.turn (I : Inv W F s) {a : Addr} (hF : F a = none) (hT : ¬ W.T a) {h' : Heap} (hb : Heap.SameBut a s.heap h') (hl : ∃ o, h'.get? a = some o) (tk : Nat) : Stp W (· = a) F F s { s with heap := h', toks := tk } where
 keep := fun b o e hne _ => (hb.2 b hne).trans e
 live := fun b o e m => by
  rw [m]; exact hl
 sub := fun _ _ e => e
 new := fun _ _ e => .inl e
 same := ⟨rfl, rfl, rfl⟩
 inv := ⟨fun b o e => (hb.2 b (fun q => by rw [q, hF] at e; cases e)).trans (I.frz b o e), I.base, fun t ht => by
  obtain ⟨⟨ps, e1, e2, e3⟩, e4⟩ := I.tab t ht
  exact ⟨⟨ps, (hb.2 _ (fun q => hT ⟨t, ht, q⟩)).trans e1, e2, e3⟩, e4⟩⟩
def TurnV (W : Wd) (F : FH) (s : Shared) (a : Addr) (o' : CO) {α : Type} (v : α) (Q : α -> Shared -> Prop) : Prop := ∀ h' tk, Heap.SameBut a s.heap h' -> OR W.prog W.w F h' o' a -> Q v { s with heap := h', toks := tk }
theorem adR (f : Array Value -> Array Value) (its : Array Value) (n : Nat) :
 ∃ m, Obj.mapSeq f { cls := .type "list", data := .seq its n } = { cls := .type "list", data := .seq (f its) m } := by
 unfold Obj.mapSeq; exact ⟨_, rfl⟩
theorem abx {h : Heap} {l : Addr} {items : Array Value} (hl : h.PlainList l items) (f : Array Value -> Array Value) : (h.update l (Obj.mapSeq f)).PlainList l (f items) := by
 obtain ⟨n, ho⟩ := hl
 refine hid fun z1 => ?_
 obtain ⟨m, e⟩ := adR f items n
 refine z1 ?_
 refine ⟨m, ?_⟩
 rw [Heap.get?_update_self _ ho (by rw [e]; rfl), e]
theorem adp {l : Addr} {items : Array Value} {k : Int} {t : Tok} {v : Value} {Q : Unit -> Shared -> Prop} (hl : s.heap.PlainList l items)
 (h0 : 0 ≤ k) (hfit : k < 2 ^ 63) (hn : k < items.size)
 (hQ : ∀ h', h'.PlainList l (items.setIfInBounds k.toNat v) -> Heap.SameBut l s.heap h' -> Q () { s with heap := h' }) :
 wpAny (model W.prog W.w) A (setItem (.ref l) (.int k t) v) Q E s := by
 have hp := abx hl (·.setIfInBounds k.toNat v)
 have hT : s.TypeIs (.ref l) "list" := hl.isList.typeIs
 obtain ⟨n, ho⟩ := hl
 unfold setItem
 refine wpAny_holding ?_
 refine wpAny_bind (wpAny_sequenceKey hT (by decide) ?_)
 refine wpAny_bind (wpAny_callSpecial?_slot (name := Str.ofString "__setitem__") hT slot_list_setitem (wpAny_call_entry slot_list_setitem hT entry_list_setitem ?_ (args_list_setitem _ _ _)))
 show wpAny _ _ (Builtin.List.listSubscript? (.int k t) >>= _) _ _ s
 refine wpAny_bind (wpAny_listSubscript_int (fitsIndex_of h0 hfit) ?_)
 clear hfit
 obtain ⟨j, rfl⟩ := Int.eq_ofNat_of_zero_le h0
 have hj : j < items.size := by omega
 have hx : items[j]? = some items[j] := Array.getElem?_eq_getElem hj
 show wpAny _ _ ((seqItemAt l j >>= fun r => pure (r.map (j, ·))) >>= _) _ _ s
 refine wpAny_bind (wpAny_bind (wpAny_seqItemAt ho rfl (wpAny_pure ?_)))
 rw [hx]
 show wpAny _ _ (setSeqItemAt l j v >>= _) _ _ s
 refine wpAny_bind (wpAny_setSeqItemAt ho rfl ?_)
 exact wpAny_pure ⟨.none, rfl, wpAny_pure (hQ _ hp (Heap.SameBut.update ..))⟩
theorem OR.list_at {h : Heap} {xs : List CV} {a : Addr} (r : OR W.prog W.w F h (.list xs) a) : ∃ vs, h.PlainList a vs.toArray ∧ RVs W.prog W.w F xs vs := by
 obtain ⟨ob, vs, e, l, q⟩ := r; exact ⟨vs, l.plain e, q⟩
theorem OR.ofList {h : Heap} {xs : List CV} {a : Addr} {vs : List Value} (hp : h.PlainList a vs.toArray) (q : RVs W.prog W.w F xs vs) : OR W.prog W.w F h (.list xs) a := by
 obtain ⟨n, e⟩ := hp; exact ⟨_, vs, e, ⟨n, rfl⟩, q⟩
theorem OR.dict_at {h : Heap} {es : List (SS × CV)} {a : Addr} (r : OR W.prog W.w F h (.dict es) a) : ∃ kvs, h.DictOf (PySem.strKind W.prog W.w) a kvs ∧ a ≠ sysModules ∧ RVd W.prog W.w F es kvs := by
 refine hid fun z0 => ?_
 obtain ⟨ob, kvs, e, l, q⟩ := r; refine z0 ?_; exact ⟨kvs, l.1.dictOf e, l.2, q⟩
theorem OR.ofDict {h : Heap} {es : List (SS × CV)} {a : Addr} {kvs : List (Str × Value)} (hp : h.DictOf (PySem.strKind W.prog W.w) a kvs) (hs : a ≠ sysModules) (q : RVd W.prog W.w F es kvs) : OR W.prog W.w F h (.dict es) a := by
 refine hid fun z0 => ?_
 obtain ⟨o, es', ep, e, x, d, k, p, n⟩ := hp; refine z0 ?_; exact ⟨o, kvs, e, ⟨⟨x, es', ep, d, k, p, n⟩, hs⟩, q⟩
set_option tactic.hygienic true
theorem ais {o o' : CO} {i c : CV} (h : setC o i c = some o') {a : Addr} (ho : OR W.prog W.w F s.heap o a) {v u : Value} (hi : RV W.prog W.w F i u) (hc : RV W.prog W.w F c v) {Q : Unit -> Shared -> Prop}
 (hQ : TurnV W F s a o' () Q) : wpAny (model W.prog W.w) A (setItem (.ref a) u v) Q E s := by
 unfold setC at h
 refine hid fun z0 => ?_
 cases o with
 | list xs =>
  dsimp only at h
  split at h
  refine z0 ?_
  rotate_left
  · exact aab h
  rename_i i hy
  refine hid fun z1 => ?_
  obtain rfl := aaj hy
  split at h
  · rename_i hg
    cases h
    simp only [Bool.and_eq_true, decide_eq_true_eq] at hg
    have hle := Nat.le_of_ble_eq_true hg.2
    unfold LIM at hle
    obtain ⟨t, rfl⟩ := hi
    obtain ⟨vs, hp, q⟩ := ho.list_at
    refine z1 ?_
    refine adp hp hg.1.1 (by omega) (by rw [List.size_toArray, q.len]; exact hg.1.2) fun h' hp' hb => ?_
    refine hQ h' s.toks hb (OR.ofList (vs := vs.set i.toNat v) ?_ (q.set hc _))
    rw [List.setIfInBounds_toArray] at hp'; exact hp'
  · cases h
 | dict es =>
  dsimp only at h
  split at h
  refine z0 ?_
  rotate_left
  · exact aab h
  rename_i k hy
  refine hid fun z2 => ?_
  obtain rfl := aam hy
  split at h
  · rename_i hle
    cases h
    have hle := Nat.le_of_ble_eq_true hle
    obtain ⟨t, rfl⟩ := hi
    obtain ⟨kvs, hd, hsm, q⟩ := ho.dict_at
    refine z2 ?_
    refine wpAny_setItem_pairs (knd := PySem.strKind W.prog W.w) (k := k.s) (by simp [PySem.strKind, Value.isStrOf]) hd (fun h' hd' hb => ?_) (by rw [q.len]; exact hle)
    exact hQ h' _ hb (OR.ofDict hd' hsm (RVd.put hc (let ⟨_, _, _, _, _, _, _, _, n⟩ := hd; n) q))
  · cases h
theorem aky {o o' : CO} {i : CV} (h : delC o i = some o') {a : Addr} (ho : OR W.prog W.w F s.heap o a) {u : Value} (hi : RV W.prog W.w F i u) {Q : Unit -> Shared -> Prop}
 (hQ : TurnV W F s a o' () Q) : wpAny (model W.prog W.w) A (delItem (.ref a) u) Q E s := by
 unfold delC at h
 refine hid fun z0 => ?_
 cases o with
 | dict es => exact aab h
 | list xs =>
  dsimp only at h
  split at h
  refine z0 ?_
  rotate_left
  · exact aab h
  rename_i i hy
  refine hid fun z1 => ?_
  obtain rfl := aaj hy
  split at h
  · rename_i k hk
    split at h
    · rename_i hle
      cases h
      have hle := Nat.le_of_ble_eq_true hle
      obtain ⟨t, rfl⟩ := hi
      obtain ⟨vs, hp, q⟩ := ho.list_at
      have e := q.len
      have hkk := abl hk
      have hfit : Builtin.List.listFitsIndex i = true := by
       unfold LIM at hle
       exact fitsIndex_both (by omega) (by omega)
      refine z1 ?_
      refine wpAny_delItem_plain hp hfit (by rw [List.size_toArray, e]; exact hk) (fun h' hp' hb => ?_) (by rw [List.size_toArray, e]; exact hle)
      refine hQ h' s.toks hb (OR.ofList (vs := vs.eraseIdx k) ?_ (q.erase _))
      have e3 : vs.toArray.eraseIdxIfInBounds k = (vs.eraseIdx k).toArray := by
       rw [List.eraseIdxIfInBounds_toArray]
      rw [<- e3]; exact hp'
    · cases h
  · cases h
end
section
variable {W : Wd} {F F' : FH} {s s' : Shared} {env : Env} {ρ : CE} {ad : Str -> Option Addr} {M : Addr -> Prop} {A : Around} {E : VP}
noncomputable def MK.ty : MK -> String
 | .append => "list"
 | .insert => "list"
 | .pop => "list"
 | .startswith => "str"
 | .endswith => "str"
 | .find => "str"
 | .join => "str"
 | .get => "dict"
noncomputable def MK.id : MK -> String
 | .append => "list.append"
 | .insert => "list.insert"
 | .pop => "list.pop"
 | .startswith => "str.startswith"
 | .endswith => "str.endswith"
 | .find => "str.find"
 | .join => "str.join"
 | .get => "dict.get"
def MethIs (k : MK) (m : Str) (v : Value) (s : Shared) : Prop := PlainAttrs k.ty ∧ PySem.Slot k.ty m k.id ∧ typeOf (.builtin k.id) = pure (.type "method_descriptor") ∧ s.TypeIs v k.ty ∧ ∀ a, v = .ref a -> ∃ ob, s.heap.get? a = some ob ∧ ob.dict = none
set_option tactic.hygienic true
theorem afy {c : CV} {m : Str} {k : MK} (h : mkindOf c m = some k) (I : Inv W F s) {v : Value} (hv : CvAt W F s.heap c v) : MethIs k m v s := by
 unfold mkindOf at h
 refine hid fun z0 => ?_
 split at h
 · obtain ⟨a, ob, vs, rfl, e, ⟨n, rfl⟩, _⟩ := aaK I hv
   have hT : s.TypeIs (.ref a) "list" := ⟨_, e, rfl⟩
   have hd : ∀ b, Value.ref a = .ref b -> ∃ ob, s.heap.get? b = some ob ∧ ob.dict = none := fun b q => by cases q; exact ⟨_, e, rfl⟩
   split at h
   · rename_i q; cases h; refine z0 ?_; rw [beq_iff_eq.mp q]; exact ⟨PySem.F.plainAttrs_list, PySem.F.slot_list_append, PySem.F.type_list_append, hT, hd⟩
   · split at h
     · rename_i q; cases h; refine z0 ?_; rw [beq_iff_eq.mp q]; exact ⟨PySem.F.plainAttrs_list, PySem.F.slot_list_insert, PySem.F.type_list_insert, hT, hd⟩
     · split at h
       · rename_i q; cases h; refine z0 ?_; rw [beq_iff_eq.mp q]; exact ⟨PySem.F.plainAttrs_list, PySem.F.slot_list_pop, PySem.F.type_list_pop, hT, hd⟩
       · cases h
 · obtain ⟨t, rfl⟩ := aaz hv
   have hT := typeIs_str s
   have hd : ∀ x t, ∀ b, Value.str x t = .ref b -> ∃ ob, s.heap.get? b = some ob ∧ ob.dict = none := fun x t b q => by cases q
   split at h
   · rename_i q; cases h; refine z0 ?_; rw [beq_iff_eq.mp q]; exact ⟨PySem.F.plainAttrs_str, PySem.F.slot_str_startswith, PySem.F.type_str_startswith, hT _ _, hd _ _⟩
   · split at h
     · rename_i q; cases h; refine z0 ?_; rw [beq_iff_eq.mp q]; exact ⟨PySem.F.plainAttrs_str, PySem.F.slot_str_endswith, PySem.F.type_str_endswith, hT _ _, hd _ _⟩
     · split at h
       · rename_i q; cases h; refine z0 ?_; rw [beq_iff_eq.mp q]; exact ⟨PySem.F.plainAttrs_str, PySem.F.slot_str_find, PySem.F.type_str_find, hT _ _, hd _ _⟩
       · split at h
         · rename_i q; cases h; refine z0 ?_; rw [beq_iff_eq.mp q]; exact ⟨PySem.F.plainAttrs_str, PySem.F.slot_str_join, PySem.F.type_str_join, hT _ _, hd _ _⟩
         · cases h
 · obtain ⟨a, ob, kvs, rfl, e, ⟨⟨l, _⟩, _⟩, _⟩ := abL I hv
   have hT : s.TypeIs (.ref a) "dict" := ⟨_, e, l.1⟩
   have hd : ∀ b, Value.ref a = .ref b -> ∃ ob, s.heap.get? b = some ob ∧ ob.dict = none := fun b q => by cases q; exact ⟨_, e, l.2.1⟩
   split at h
   · rename_i q; cases h; refine z0 ?_; rw [beq_iff_eq.mp q]; exact ⟨PySem.F.plainAttrs_dict, PySem.F.slot_dict_get, PySem.F.type_dict_get, hT, hd⟩
   · cases h
 · cases h
set_option tactic.hygienic false
theorem aeq (x y : Str) (i j : Int) (t u v z : Tok) : Gives (Builtin.«str.find» ⟨[.str x t, .str y u, .int i v, .int j z], []⟩)
 (.int (match Builtin.Str.occurrences x y (fromIndex x.length i) (min x.length (fromIndex x.length j)) 1 with | k :: _ => (k : Int) | [] => -1)) := by
 rw [Nat.min_comm]
 show Gives (match Builtin.Str.occurrences x y (fromIndex x.length i) (min (fromIndex x.length j) x.length) 1 with | k :: _ => retInt k | [] => (do rule "str.find.not-found"; retInt (-1))) _
 cases Builtin.Str.occurrences x y (fromIndex x.length i) (min (fromIndex x.length j) x.length) 1 with
 | nil => exact .rule (.of_eq rfl)
 | cons k _ => exact .of_eq rfl
def CvAts (W : Wd) (F : FH) (h : Heap) : List CV -> List Value -> Prop
 | [], vs => vs = []
 | c :: cs, vs => ∃ v r, vs = v :: r ∧ CvAt W F h c v ∧ CvAts W F h cs r
theorem adS {o : CV} {args : List CV} {f : SS -> SS -> Option CV} {r : CV} (h : (match cvStr o, l1 args with
 | some x, some c => match cvStr c with
  | some y => f x y
  | none => none
 | _, _ => none) = some r) : ∃ x y, o = .str x ∧ args = [.str y] ∧ f x y = some r := by
 cases h1 : cvStr o with
 | none => rw [h1] at h; exact aab h
 | some x => cases h2 : l1 args with
  | none => rw [h1, h2] at h; exact aab h
  | some c => cases h3 : cvStr c with
   | none => rw [h1, h2] at h; dsimp only at h; rw [h3] at h; exact aab h
   | some y =>
    rw [h1, h2] at h; dsimp only at h; rw [h3] at h
    exact ⟨x, y, aam h1, by rw [aaI h2, aam h3], h⟩
theorem ahb (x : SS) : ∀ l : List SS, ((l.map (·.s)).map (·.length)).sum + (l.map (·.s)).length * x.s.length ≤ joinB x.b l := by
 intro l
 induction l with
 | nil => simp
 | cons y r ih =>
  have h1 := y.h
  have h2 := x.h
  simp only [List.map_cons, List.sum_cons, List.length_cons, joinB] at ih ⊢
  rw [Nat.succ_mul]
  lia
set_option tactic.hygienic true
theorem ahc {k : MK} {c r : CV} {cs : List CV} (h : methC k c cs = some r) (I : Inv W F s) {v : Value} {vs : List Value} (hv : CvAt W F s.heap c v) (hvs : CvAts W F s.heap cs vs) {Q : VP}
 (hQ : PV W F s r Q) : wpAny (model W.prog W.w) A (call (.builtin k.id) (v :: vs)) Q E s := by
 cases k with
 | startswith =>
  refine hid fun z1 => ?_
  obtain ⟨x, y, rfl, rfl, e⟩ := adS (f := fun x y => some (.bool (Txt.startswith x.s y.s))) h
  cases e
  obtain ⟨t, rfl⟩ := aaz hv
  obtain ⟨_, _, rfl, hu, rfl⟩ := hvs
  obtain ⟨t', rfl⟩ := aaz hu
  refine z1 ?_
  exact SC.startswith (hQ.same I (rfl))
 | endswith =>
  refine hid fun z2 => ?_
  obtain ⟨x, y, rfl, rfl, e⟩ := adS (f := fun x y => some (.bool (Txt.endswith x.s y.s))) h
  cases e
  obtain ⟨t, rfl⟩ := aaz hv
  obtain ⟨_, _, rfl, hu, rfl⟩ := hvs
  obtain ⟨t', rfl⟩ := aaz hu
  refine z2 ?_
  exact SC.endswith (hQ.same I (rfl))
 | find =>
  unfold methC at h
  dsimp only at h
  refine hid fun z3 => ?_
  split at h
  · rename_i x a b d h1
    split at h
    · rename_i y i j h2 h3 h4
      obtain rfl := aam h1; obtain rfl := aam h2; obtain rfl := aaj h3; obtain rfl := aaj h4
      split at h
      · cases h
        obtain ⟨t, rfl⟩ := aaz hv
        obtain ⟨_, _, rfl, hu, _, _, rfl, hi, _, _, rfl, hj, rfl⟩ := hvs
        obtain ⟨t', rfl⟩ := aaz hu
        obtain ⟨t2, rfl⟩ := aa0 hi
        obtain ⟨t3, rfl⟩ := aa0 hj
        refine z3 ?_
        exact call_gives PySem.F.slot_str_find (typeIs_str _ _ _) PySem.F.entry_str_find (PySem.F.args_str_find_4 _ _ _ _) (aeq _ _ _ _ _ _ _ _) (hQ.int I _ _)
      · exact aab h
    · exact aab h
  · exact aab h
 | join =>
  unfold methC at h
  dsimp only at h
  refine hid fun z4 => ?_
  split at h
  · rename_i x d h1 h2
    split at h
    · rename_i l h3
      obtain rfl := aam h1; obtain rfl := aaI h2; obtain rfl := aaJ h3
      split at h
      · rename_i ss hs
        unfold joinC at h
        split at h
        · rename_i hle
          cases h
          simp only [Bool.and_eq_true] at hle
          have hle := Nat.le_of_ble_eq_true hle.1
          obtain ⟨t, rfl⟩ := aaz hv
          obtain ⟨_, _, rfl, hu, rfl⟩ := hvs
          obtain ⟨a, ob, us, rfl, e, l, q⟩ := aaK I hu
          refine z4 ?_
          refine join_list (l.isList e) (q.strs hs) ?_ fun t' k => hQ.str I _ _
          exact Nat.le_trans (ahb x ss) hle
        · exact aab h
      · exact aab h
    · exact aab h
  · exact aab h
 | get =>
  unfold methC at h
  dsimp only at h
  refine hid fun z5 => ?_
  split at h
  · rename_i es d h1
    split at h
    · rename_i kk h2
      obtain rfl := abJ h1; obtain rfl := aam h2
      obtain ⟨a, ob, kvs, rfl, e, ⟨l, hne⟩, q⟩ := abL I hv
      obtain ⟨_, _, rfl, hu, rfl⟩ := hvs
      obtain ⟨t', rfl⟩ := aaz hu
      have hd := (DO.dictOf (W := W) e l)
      have hm : (a == sysModules) = false := by simpa using hne
      refine z5 ?_
      refine call_meetsIn PySem.F.slot_dict_get ⟨_, e, l.1.1⟩ PySem.F.entry_dict_get (PySem.F.args_dict_get_2 _ _) (meets_dict_get (PySem.strKind W.prog W.w) a (key := .str kk.s t') (k := kk.s) (by simp [PySem.strKind, Value.isStrOf]) hm) ⟨_, hd.mapOf, ?_⟩
      have hat := RVd.at q kk.s
      refine hid fun z6 => ?_
      split at h
      · rename_i c hc
        cases h
        obtain ⟨v, hv, rv⟩ := hat.1 _ hc
        refine z6 ?_
        rw [hv]
        exact hQ.tk I rv _
      · rename_i hc
        cases h
        refine z6 ?_
        rw [hat.2 hc]
        exact hQ.tk I (by simp only [RV, Option.getD]) _
    · exact aab h
  · rename_i es d0 d1 h1
    split at h
    · rename_i kk d h2 h3
      obtain rfl := abJ h1; obtain rfl := aam h2; obtain rfl := aaj h3
      obtain ⟨a, ob, kvs, rfl, e, ⟨l, hne⟩, q⟩ := abL I hv
      obtain ⟨_, _, rfl, hu, dv, _, rfl, hdv, rfl⟩ := hvs
      obtain ⟨t', rfl⟩ := aaz hu
      have hd := (DO.dictOf (W := W) e l)
      have hm : (a == sysModules) = false := by simpa using hne
      refine z5 ?_
      refine call_meetsIn PySem.F.slot_dict_get ⟨_, e, l.1.1⟩ PySem.F.entry_dict_get (PySem.F.args_dict_get_3 _ _ _) (meets_dict_get_default (PySem.strKind W.prog W.w) a (key := .str kk.s t') (k := kk.s) (by simp [PySem.strKind, Value.isStrOf]) hm dv) ⟨_, hd.mapOf, ?_⟩
      have hat := RVd.at q kk.s
      refine hid fun z7 => ?_
      split at h
      · rename_i c hc
        cases h
        obtain ⟨v, hv, rv⟩ := hat.1 _ hc
        refine z7 ?_
        rw [hv]
        exact hQ.tk I rv _
      · rename_i hc
        cases h
        refine z7 ?_
        rw [hat.2 hc]
        refine hid fun z8 => ?_
        obtain ⟨t2, rfl⟩ := aa0 hdv
        refine z8 ?_
        exact hQ.tk I (by simp only [RV, Option.getD]; exact ⟨t2, rfl⟩) _
    · exact aab h
  · exact aab h
 | _ => exact aab h
end
section
variable {W : Wd} {F F' : FH} {s s' : Shared} {env : Env} {ρ : CE} {ad : Str -> Option Addr} {M : Addr -> Prop} {A : Around} {E : VP}
set_option tactic.hygienic false
theorem acX (vs : List Value) (v : Value) (n : Nat) : (vs.toArray.extract 0 n).push v ++ vs.toArray.extract n = (vs.take n ++ v :: vs.drop n).toArray := by
 simp
 rw [List.take_of_length_le (by simp)]
set_option tactic.hygienic true
theorem aiT {k : MK} {o o' : CO} {c : CV} {cs : List CV} (h : mutC k o cs = some (c, o')) {a : Addr} (ho : OR W.prog W.w F s.heap o a) {vs : List Value} (hvs : RVs W.prog W.w F cs vs) {Q : VP}
 (hQ : ∀ v, RV W.prog W.w F c v -> TurnV W F s a o' v Q) : wpAny (model W.prog W.w) A (call (.builtin k.id) (.ref a :: vs)) Q E s := by
 cases o with
 | dict es => exact aab h
 | list xs =>
 unfold mutC at h
 cases k with
 | append =>
  dsimp only at h
  refine hid fun z2 => ?_
  split at h
  · rename_i d h1
    obtain rfl := aaI h1
    split at h
    · rename_i hle
      cases h
      have hle := Nat.le_of_ble_eq_true hle
      obtain ⟨u, r, rfl, hu, rfl⟩ := hvs
      obtain ⟨us, hp, q⟩ := ho.list_at
      refine z2 ?_
      refine wpAny_list_append_plain hp (fun h' hp' hb => hQ .none (rfl) h' s.toks hb (OR.ofList (vs := us ++ [u]) ?_ (q.append (.one hu)))) (by rw [List.size_toArray, q.len]; exact hle)
      rw [List.push_toArray] at hp'; exact hp'
    · exact aab h
  · exact aab h
 | pop =>
  dsimp only at h
  refine hid fun z3 => ?_
  split at h
  · rename_i d h1
    split at h
    · rename_i i h2
      obtain rfl := aaI h1; obtain rfl := aaj h2
      split at h
      · rename_i j hk
        split at h
        · rename_i y hy
          split at h
          · rename_i hle
            cases h
            have hle := Nat.le_of_ble_eq_true hle
            obtain ⟨u, r, rfl, ⟨t, rfl⟩, rfl⟩ := hvs
            obtain ⟨us, hp, q⟩ := ho.list_at
            have e := q.len
            have hkk := abl hk
            obtain ⟨y', hy', ry⟩ := q.get hy
            have hfit : Builtin.List.listFitsIndex i = true := by
             unfold LIM at hle
             exact fitsIndex_both (by omega) (by omega)
            have hpu := abx hp fun xs => xs.eraseIdxIfInBounds j
            obtain ⟨n, hp0⟩ := hp
            refine z3 ?_
            refine call_meets PySem.F.slot_list_pop ⟨_, hp0, rfl⟩ PySem.F.entry_list_pop (PySem.F.args_list_pop_2 _ _) (MeetsSeq.list_pop_at a us.toArray n i t j y' hfit (by rw [List.size_toArray, e]; exact hk) (by simpa using hy') (by rw [List.size_toArray, e]; exact hle)) ⟨hp0, ?_⟩
            refine hQ y' ry _ s.toks (Heap.SameBut.update ..) (OR.ofList (vs := us.eraseIdx j) ?_ (q.erase _))
            rw [List.eraseIdxIfInBounds_toArray] at hpu; exact hpu
          · exact aab h
        · exact aab h
      · exact aab h
    · exact aab h
  · exact aab h
 | insert =>
  dsimp only at h
  split at h
  · rename_i d d2 h1
    split at h
    · rename_i i h2
      obtain rfl := acy h1; obtain rfl := aaj h2
      split at h
      · rename_i hg
        cases h
        simp only [Bool.and_eq_true, decide_eq_true_eq] at hg
        have hle := Nat.le_of_ble_eq_true hg.1.1
        obtain ⟨u, r, rfl, ⟨t, rfl⟩, ⟨u2, _, rfl, hu, rfl⟩⟩ := hvs
        obtain ⟨us, hp, q⟩ := ho.list_at
        have e := q.len
        have hfit : Builtin.List.listFitsIndex i = true := by
         unfold LIM at hle
         exact fitsIndex_both (by omega) (by omega)
        have hpu := abx hp fun xs => have k := if i < 0 then (i + (xs.size : Int)).toNat else min i.toNat xs.size; (xs.extract 0 k).push u2 ++ xs.extract k
        obtain ⟨n, hp0⟩ := hp
        refine call_meets PySem.F.slot_list_insert ⟨_, hp0, rfl⟩ PySem.F.entry_list_insert (PySem.F.args_list_insert_3 _ _ _) (AutoSeq1.list_insert_list_int_val_1 a us.toArray n i t u2 (by rw [hfit]; decide) (by rw [List.size_toArray, e]; exact hle)) ⟨hp0, ?_⟩
        refine hQ .none (rfl) _ s.toks (Heap.SameBut.update ..) (OR.ofList (vs := us.take i.toNat ++ u2 :: us.drop i.toNat) ?_ ?_)
        · have hm : (if i < 0 then (i + (us.toArray.size : Int)).toNat else min i.toNat us.toArray.size) = i.toNat := by
           rw [if_neg (by omega), List.size_toArray, Nat.min_eq_left (by omega)]
          have e2 : (us.take i.toNat ++ u2 :: us.drop i.toNat).toArray = (us.toArray.extract 0 i.toNat).push u2 ++ us.toArray.extract i.toNat := (acX us u2 i.toNat).symm
          rw [e2]
          have e3 : (have k := if i < 0 then (i + (us.toArray.size : Int)).toNat else min i.toNat us.toArray.size; (us.toArray.extract 0 k).push u2 ++ us.toArray.extract k) = (us.toArray.extract 0 i.toNat).push u2 ++ us.toArray.extract i.toNat := by
           dsimp only
           rw [hm]
          rw [<- e3]
          exact hpu
        · refine (q.take _).append ?_
          exact ⟨u2, _, rfl, hu, q.drop _⟩
      · exact aab h
    · exact aab h
  · exact aab h
 | _ => exact aab h
set_option tactic.hygienic false
theorem aa6 {o : Expr} {m : Str} {whole : Sem Value} (h : baseOk o = true) : attributeBase o m env whole = whole := by
 cases o with
 | Call f as ks p =>
  rcases as with _ | ⟨a, as⟩
  · rcases ks with _ | ⟨k, ks⟩
    · cases h
    · cases f <;> rfl
  · cases f <;> rfl
 | _ => rfl
theorem ahd {o : Expr} {m : Str} {apos pos : Pos} {args : List Expr} {Q : VP} (hok : methOk o args.length apos pos = true) (hplain : (backTo pos (starEach args env)).all (fun x => !x.1) = true)
 (h : wpAny (model W.prog W.w) A (eval o env) (fun ov s1 => ∃ k : MK, MethIs k m ov s1 ∧
  wpAny (model W.prog W.w) A (spliced (backTo pos (starEach args env))) (fun vs s2 => wpAny (model W.prog W.w) A (call (.builtin k.id) (ov :: vs)) Q E s2) E s1) E s) :
 wpAny (model W.prog W.w) A (eval (.Call (.Attribute o m apos) args [] pos) env) Q E s := by
 unfold methOk at hok
 simp only [Bool.and_eq_true, decide_eq_true_eq] at hok
 refine wpAny_Call_method_late (aa6 hok.1.1) ?_ hok.1.2 rfl (wpAny_mono h (fun ov s1 h1 => ?_) fun _ _ e => e)
 · rw [hplain]
   rw [show backToKw pos (keywordEach [] env) = [] from rfl]
   simp only [List.all_nil, Bool.and_self, List.length_nil, List.isEmpty_nil, if_true, Nat.add_zero, Bool.true_and, decide_eq_true_eq]
   exact hok.2
 · refine hid fun z0 => ?_
   obtain ⟨k, ⟨pa, slot, hty, hT, hd⟩, hc⟩ := h1
   refine z0 ?_
   refine ⟨k.ty, k.id, pa, slot, hty, hT, hd, ?_⟩
   have hany : (backTo pos (starEach args env)).any (·.1) = false := by
    rw [List.any_eq_false]
    intro x hx
    have := List.all_eq_true.mp hplain x hx
    simpa using this
   refine callWith_builtin hany ?_
   cases hb : backTo pos (starEach args env) with
   | nil =>
    rw [hb] at hc
    exact PySem.evalArgs_none (fun Γ p hΓ => by
     have q := hc Γ p hΓ
     simp only [spliced, Sem.wp_pure'] at q
     exact q Γ p hΓ)
   | cons p r =>
    rw [hb] at hc hplain
    obtain ⟨b, x⟩ := p
    simp only [List.all_cons, Bool.and_eq_true, Bool.not_eq_true'] at hplain
    obtain rfl := hplain.1
    exact evalArgs_plain (wpAny_mono hc (fun vs s2 h2 => h2) fun _ _ e => e)
end
noncomputable def bltV (x : Str) : Option Value := match x == nLen with
 | true => some (.builtin "len")
 | false => match x == nOrd with
  | true => some (.builtin "ord")
  | false => match x == nChr with
   | true => some (.builtin "chr")
   | false => match x == nSorted with
    | true => some (.builtin "sorted")
    | false => match x == nRange with
     | true => some (.type "range")
     | false => match x == nEnumerate with
      | true => some (.type "enumerate")
      | false => match x == nZip with
       | true => some (.type "zip")
       | false => match x == nList with
        | true => some (.type "list")
        | false => match x == nDict with
         | true => some (.type "dict")
         | false => none
noncomputable abbrev ArgsR (W : Wd) (F : FH) (h : Heap) : Option Nat -> Addr -> List CV -> List Value -> Prop
 | none, _, cs, vs => RVs W.prog W.w F cs vs
 | some 0, la, c :: cs, vs => ∃ o r, c = CO.cv o ∧ vs = .ref la :: r ∧ OR W.prog W.w F h o la ∧ RVs W.prog W.w F cs r
 | some (i + 1), la, c :: cs, vs => ∃ v r, vs = v :: r ∧ RV W.prog W.w F c v ∧ ArgsR W F h (some i) la cs r
 | some _, _, [], _ => False
set_option tactic.hygienic false
theorem ArgsR.of {W : Wd} {F : FH} {h : Heap} {la : Addr} {cs : List CV} {vs : List Value} (r : RVs W.prog W.w F cs vs) : ArgsR W F h none la cs vs := by cases cs <;> exact r
abbrev KwsR (W : Wd) (F : FH) : List (Str × CV) -> List (Str × Value) -> Prop
 | [], kws => kws = []
 | (n, c) :: cs, kws => ∃ v r, kws = (n, v) :: r ∧ RV W.prog W.w F c v ∧ KwsR W F cs r
def FunOK (W : Wd) (k : Nat) (f : FS) (a : Addr) : Prop :=
 (∃ o fd, W.F0 a = some o ∧ o.data = .func fd) ∧
 ∀ cs kvs c o', f.run cs kvs = some (c, o') -> ∀ (A : Around) (F : FH) (s : Shared) (la : Addr) (vs : List Value) (kws : List (Str × Value)), Room A k -> Inv W F s ->
  ArgsR W F s.heap f.bor la cs vs -> KwsR W F kvs kws -> (f.bor.isSome = true -> F la = none) -> ∀ (Q : VP) (E : VP),
  (∀ v F' s', Stp W (fun b => f.bor.isSome = true ∧ b = la) F F' s s' -> RV W.prog W.w F' c v -> (f.bor.isSome = true -> OR W.prog W.w F' s'.heap o' la ∧ F' la = none) -> Q v s') ->
  wpAny (model W.prog W.w) A (call (.ref a) vs kws) Q E s
structure GOK (W : Wd) (k : Nat) (G : GE) : Prop where
 tabs : ∀ t ∈ W.tabs, ∀ h : Heap, (∀ a o, W.F0 a = some o -> h.get? a = some o) -> PySem.W.CodeHd h t.1 t.2.1 ∧ h.BuiltinsAt W.mg t.2.1 ∧ mainGlobals ≠ t.2.1
 nolim : ∀ h : Heap, (∀ a o, W.F0 a = some o -> h.get? a = some o) -> h.NoLimit
 ns : ∀ h : Heap, (∀ a o, W.F0 a = some o -> h.get? a = some o) -> h.Ns mainGlobals W.mg ∧ h.Ns builtinsNs W.mb
 const : ∀ x c, G.glob x = some (.const c) -> ∃ v, W.mg x = some v ∧ RV W.prog W.w W.F0 c v
 blt : ∀ x, G.glob x = some .blt -> W.mg x = none ∧ W.mb x = bltV x
 fn : ∀ x f, G.glob x = some (.fn f) -> ∃ a, W.mg x = some (.ref a) ∧ FunOK W k f a
section
variable {W : Wd} {F F' : FH} {s s' : Shared} {env : Env} {ρ : CE} {ad : Str -> Option Addr} {M : Addr -> Prop} {A : Around} {E : VP} {G : GE} {k : Nat}
set_option tactic.hygienic false
theorem Inv.heap0 (I : Inv W F s) : ∀ a o, W.F0 a = some o -> s.heap.get? a = some o := fun a o e => I.frz a o (I.base a o e)
theorem aa5 {x : Str} (h : nameOk x = true) : (x == ("__debug__" : Str)) = false ∧ (x == ("__classdict__" : Str)) = false := by
 unfold nameOk at h
 simp only [Bool.and_eq_true, Bool.not_eq_true'] at h
 exact h
theorem af5 (hG : GOK W k G) (I : Inv W F s) (R : Rel W F s.heap env ρ ad) {x : Str} {p : Pos} {v : Value} (hk : ρ.kind x = some .globalImplicit) (hx : nameOk x = true) (hv : W.mg x = some v) {Q : VP} (h : Q v s) :
 wpAny (model W.prog W.w) A (eval (.Name x p) env) Q E s := by
 refine Name_function_global R.kind.fn (R.kind.glob x hk) ?_ (aa5 hx).1
 refine loadGlobal_global (mg := W.mg) ?_ hv h
 rw [R.kind.glo]
 exact (hG.ns _ I.heap0).1
theorem akz (hG : GOK W k G) (I : Inv W F s) (R : Rel W F s.heap env ρ ad) {x : Str} {p : Pos} {v : Value} (hk : ρ.kind x = some .globalImplicit) (hx : nameOk x = true) (hb : G.glob x = some .blt) (hv : bltV x = some v) {Q : VP} (h : Q v s) :
 wpAny (model W.prog W.w) A (eval (.Name x p) env) Q E s := by
 refine hid fun z0 => ?_
 obtain ⟨h1, h2⟩ := hG.blt x hb
 refine z0 ?_
 refine Name_function_global R.kind.fn (R.kind.glob x hk) ?_ (aa5 hx).1
 refine loadGlobal_builtin (mg := W.mg) (mb := W.mb) ?_ h1 ?_ (h2.trans hv) h
 · rw [R.kind.glo]; exact (hG.ns _ I.heap0).1
 · rw [R.kind.blt]; exact (hG.ns _ I.heap0).2
theorem afz {x : Str} (h : isBlt G ρ x = true) : ρ.kind x = some .globalImplicit ∧ G.glob x = some .blt := by
 unfold isBlt at h
 revert h
 generalize ρ.kind x = k
 generalize G.glob x = g
 intro h
 rcases k with _ | y
 · cases h
 cases y <;> first | (cases h; done) | skip
 rcases g with _ | y
 · first | (cases h; done) | exact ⟨rfl, rfl⟩
 cases y <;> first | (cases h; done) | exact ⟨rfl, rfl⟩
def EvPost (W : Wd) (env : Env) (ad : Str -> Option Addr) (F : FH) (s : Shared) (r : EV) (ρ' : CE) (Q : VP) : Prop :=
 ∀ v F' s' ad', Stp W (ownA ad) F F' s s' -> Rel W F' s'.heap env ρ' ad' -> (∀ x a, ad' x = some a -> ad x = some a) -> EVR W F' s'.heap env r v -> Q v s'
theorem EvPost.pv {c : CV} {Q : VP} (h : EvPost W env ad F s (.val c) ρ Q) (I : Inv W F s) (R : Rel W F s.heap env ρ ad) : PV W F s c Q :=
 fun v F' s' S r => h v F' s' ad (S.weaken fun _ q => q.elim) (R.keep0 I S) (fun _ _ e => e) r
theorem EvPost.step {r : EV} {ρ' : CE} {F1 : FH} {s1 : Shared} {ad1 : Str -> Option Addr} {Q : VP} (h : EvPost W env ad F s r ρ' Q) (S : Stp W (ownA ad) F F1 s s1) (sub : ∀ x a, ad1 x = some a -> ad x = some a) :
 EvPost W env ad1 F1 s1 r ρ' Q :=
 fun v F' s' ad' S' R' sub' r' => h v F' s' ad' (S.trans S' (aag sub)) R' (fun x a q => sub x a (sub' x a q)) r'
set_option tactic.hygienic true
theorem aiU (hG : GOK W k G) {x : Str} {p : Pos} {r : EV} {ρ' : CE} (I : Inv W F s) (R : Rel W F s.heap env ρ ad) {Q : VP} (hx : nameOk x = true)
 (h : (match ρ.kind x with
  | some .globalImplicit => match G.glob x with
   | some (.const c) => some (.val c, ρ)
   | _ => none
  | k => match isVar k with
   | true => match ρ.get x with
    | some (.val c) => some (EV.val c, ρ)
    | some (.fix c) => some (.val c, ρ)
    | some _ => some (.ref x, ρ)
    | none => none
   | false => none) = some (r, ρ')) (hQ : EvPost W env ad F s r ρ' Q) : wpAny (model W.prog W.w) A (eval (.Name x p) env) Q E s := by
 have hn := aa5 hx
 refine hid fun z0 => ?_
 split at h
 · rename_i hk
   split at h
   · rename_i c hc
     cases h
     obtain ⟨v, hv, rv⟩ := hG.const x c hc
     refine z0 ?_
     exact af5 hG I R hk hx hv (hQ v F s ad (.refl I) R (fun _ _ e => e) (RV.mono _ _ I.base _ _ rv))
   · cases h
 · split at h
   · cases hg : ρ.get x with
     | none => rw [hg] at h; cases h
     | some sl =>
      rw [hg] at h
      obtain ⟨v, hv, hs⟩ := R.var x sl hg
      refine z0 ?_
      refine wpAny_Name (adm R.kind.fn hv ?_ hn.2) hn.1
      cases sl with
      | val c => cases h; exact hQ v F s ad (.refl I) R (fun _ _ e => e) hs
      | fix c => cases h; exact hQ v F s ad (.refl I) R (fun _ _ e => e) hs.1
      | own c => cases h; exact hQ v F s ad (.refl I) R (fun _ _ e => e) hv
      | bor c => cases h; exact hQ v F s ad (.refl I) R (fun _ _ e => e) hv
      | view c => cases h; exact hQ v F s ad (.refl I) R (fun _ _ e => e) hv
   · cases h
set_option tactic.hygienic false
theorem ahe {c : Const} {v : CV} {kd : Nat} {p : Pos} (h : constC c = some v) (I : Inv W F s) {Q : VP} (hQ : PV W F s v Q) : wpAny (model W.prog W.w) A (eval (.Constant c kd p) env) Q E s := by
 refine hid fun z0 => ?_
 cases c with
 | none => cases h; exact z0 (wpAny_pure (hQ.same I rfl))
 | bool _ => cases h; exact z0 (wpAny_pure (hQ.same I rfl))
 | int _ => cases h; exact z0 (wpAny_Constant_int (hQ.int I _ _))
 | str x => cases h; exact z0 (Constant_str (hQ.str (x := SS.of _) I _ _))
 | _ => exact aab h
theorem acB {S : SM} (H : EvOK W k S.ev) {op : BoolOp} {pos : Pos} : ∀ (es : List Expr) (ρ : CE) (r : EV) (ρ' : CE), S.boolOp op es ρ = some (r, ρ') ->
 ∀ (F : FH) (s : Shared) (ad : Str -> Option Addr), Room A k -> Inv W F s -> Rel W F s.heap env ρ ad -> ∀ (Q : VP), EvPost W env ad F s r ρ' Q ->
  wpAny (model W.prog W.w) A (boolOp pos op (evalEach es env)) Q E s
 | [], _, _, _, h, _, _, _, _, _, _, _, _ => by cases h
 | e :: [], ρ, r, ρ', h, F, s, ad, Rm, I, R, Q, hQ => H e ρ r ρ' h A env F s ad Rm I R Q E hQ
 | e :: e' :: es, ρ, r, ρ', h, F, s, ad, Rm, I, R, Q, hQ => by
  refine D.el (.opt2 (S.ev e ρ) fun a ρ => .opt (deref ρ a) fun c => .opt (truthC c) fun t => .raw (match op, t with | .And, false => some (a, ρ) | .Or, true => some (a, ρ) | _, _ => S.boolOp op (e' :: es) ρ)) h (C := fun r ρ' => EvPost W env ad F s r ρ' Q) hQ fun a ρ1 h1 c h2 t h3 z h hQ => ?_
  refine wpAny_bind (H e ρ a ρ1 h1 A env F s ad Rm I R _ _ fun v F1 s1 ad1 S1 R1 sub1 r1 => wpAny_bind (wpAny_standAt (wpAny_bind (wpAny_holding ?_))))
  refine aeY h3 (aaV R1 h2 r1) fun tk => ?_
  have S2 := Stp.toks S1.inv tk
  have R2 := R1.keep0 S1.inv S2
  have hr2 := EVR.step S1.inv R1 (S2.weaken (M' := ownA ad1) fun _ q => q.elim) r1
  have S12 : Stp W (ownA ad) F F1 s { s1 with toks := tk } := S1.trans S2 fun _ q => q.elim
  cases op <;> cases t
  · cases h; exact wpAny_pure (hQ v F1 _ ad1 S12 R2 sub1 hr2)
  · exact acB H (e' :: es) ρ1 z.1 z.2 h F1 _ ad1 Rm S2.inv R2 Q (hQ.step S12 sub1)
  · exact acB H (e' :: es) ρ1 z.1 z.2 h F1 _ ad1 Rm S2.inv R2 Q (hQ.step S12 sub1)
  · cases h; exact wpAny_pure (hQ v F1 _ ad1 S12 R2 sub1 hr2)
end
section
variable {W : Wd} {F F' : FH} {s s' : Shared} {env : Env} {ρ : CE} {ad : Str -> Option Addr} {M : Addr -> Prop} {A : Around} {E : VP} {G : GE} {k : Nat} {S : SM}
set_option tactic.hygienic false
theorem EvPost.pvAt {c : CV} {Q : VP} {ρ' : CE} {F1 : FH} {s1 : Shared} {ad1 : Str -> Option Addr} (h : EvPost W env ad F s (.val c) ρ' Q) (S : Stp W (ownA ad) F F1 s s1) (R1 : Rel W F1 s1.heap env ρ' ad1)
 (sub : ∀ x a, ad1 x = some a -> ad x = some a) : PV W F1 s1 c Q := EvPost.pv (h.step S sub) S.inv R1
theorem afA (H : EvOK W k S.ev) {l r : Expr} {op : CmpOp} {pos : Pos} {ρ' : CE} {a b : CV} {t : Bool} (hm : behindInMarks op r = false) (h : S.ev2 l r ρ = some (a, b, ρ')) (hc : cmpC op a b = some t) (Rm : Room A k) (hk : 20 ≤ k)
 (I : Inv W F s) (R : Rel W F s.heap env ρ ad) {Q : VP} (hQ : EvPost W env ad F s (.val (.bool t)) ρ' Q) : wpAny (model W.prog W.w) A (eval (.Compare l [op] [r] pos) env) Q E s := by
 refine wpAny_Compare1 (aeX H h Rm I R fun v u F1 s1 ad1 S1 R1 sub1 hv hu => ?_) hm
 exact aip hc S1.inv (Rm.le hk) hv hu fun tk => (hQ.pvAt S1 R1 sub1).tk S1.inv (rfl) tk
theorem ahf (H : EvOK W k S.ev) {l r : Expr} {op : Operator} {pos : Pos} {ρ' : CE} {a b c : CV} (h : S.ev2 l r ρ = some (a, b, ρ')) (hc : binC op a b = some c) (Rm : Room A k)
 (I : Inv W F s) (R : Rel W F s.heap env ρ ad) {Q : VP} (hQ : EvPost W env ad F s (.val c) ρ' Q) : wpAny (model W.prog W.w) A (eval (.BinOp l op r pos) env) Q E s := by
 refine wpAny_BinOp (aeX H h Rm I R fun v u F1 s1 ad1 S1 R1 sub1 hv hu => ?_)
 exact akw hc S1.inv hv hu (hQ.pvAt S1 R1 sub1)
theorem aiV (H : EvOK W k S.ev) {x : Expr} {op : UnaryOp} {pos : Pos} {ρ' : CE} {a c : CV} (h : S.ev x ρ = some (.val a, ρ')) (hc : negC op a = some c) (Rm : Room A k)
 (I : Inv W F s) (R : Rel W F s.heap env ρ ad) {Q : VP} (hQ : EvPost W env ad F s (.val c) ρ' Q) : wpAny (model W.prog W.w) A (eval (.UnaryOp op x pos) env) Q E s := by
 rw [arm_eval_UnaryOp]
 refine wpAny_bind (H x ρ _ ρ' h A env F s ad Rm I R _ _ fun v F1 s1 ad1 S1 R1 sub1 r1 => wpAny_bind (wpAny_standAt (wpAny_holding ?_)))
 exact akx hc S1.inv (.inl r1) (hQ.pvAt S1 R1 sub1)
theorem afB (H : EvOK W k S.ev) {l r : Expr} {pos : Pos} {ρ' : CE} {a b c : CV} (h : S.ev2 l r ρ = some (a, b, ρ')) (hc : subC a b = some c) (Rm : Room A k)
 (I : Inv W F s) (R : Rel W F s.heap env ρ ad) {Q : VP} (hQ : EvPost W env ad F s (.val c) ρ' Q) : wpAny (model W.prog W.w) A (eval (.Subscript l r pos) env) Q E s := by
 refine abQ (aeX H h Rm I R fun v u F1 s1 ad1 S1 R1 sub1 hv hu => ?_)
 exact air hc S1.inv hv hu (hQ.pvAt S1 R1 sub1)
set_option tactic.hygienic true
theorem af6 (H : EvOK W k S.ev) {e : Option Expr} {ρ' : CE} {o : Option Int} (h : S.oint e ρ = some (o, ρ')) (Rm : Room A k) (I : Inv W F s) (R : Rel W F s.heap env ρ ad) {Q : VP}
 (hQ : ∀ v F' s' ad', Stp W (ownA ad) F F' s s' -> Rel W F' s'.heap env ρ' ad' -> (∀ x a, ad' x = some a -> ad x = some a) -> PartIs v o -> Q v s') : wpAny (model W.prog W.w) A (evalPart e env) Q E s := by
 refine hid fun z0 => ?_
 cases e with
 | none => cases h; refine z0 ?_; exact wpAny_pure (hQ .none F s ad (.refl I) R (fun _ _ e => e) rfl)
 | some e =>
  unfold SM.oint at h
  dsimp only at h
  split at h
  · cases h
  · rename_i i ρ1 h1
    replace h1 := adk h1
    cases h
    refine z0 ?_
    rw [evalPart_some]
    refine H e ρ _ _ h1 A env F s ad Rm I R _ _ fun v F1 s1 ad1 S1 R1 sub1 r1 => hQ v F1 s1 ad1 S1 R1 sub1 ?_
    have r1 : RV W.prog W.w F1 (.int i) v := r1
    exact r1
set_option tactic.hygienic false
theorem adT (H : EvOK W k S.ev) {x : Expr} {lo hi : Option Expr} {p pos : Pos} {ρ1 ρ2 ρ' : CE} {a : EV} {l u : Option Int} {o c : CV} (h1 : S.ev x ρ = some (a, ρ1)) (h2 : S.oint lo ρ1 = some (l, ρ2))
 (h3 : S.oint hi ρ2 = some (u, ρ')) (h4 : deref ρ' a = some o) (hc : sliceC o l u = some c) (Rm : Room A k)
 (I : Inv W F s) (R : Rel W F s.heap env ρ ad) {Q : VP} (hQ : EvPost W env ad F s (.val c) ρ' Q) : wpAny (model W.prog W.w) A (eval (.Subscript x (.Slice lo hi none p) pos) env) Q E s := by
 refine abQ (H x ρ _ _ h1 A env F s ad Rm I R _ _ fun v F1 s1 ad1 S1 R1 sub1 r1 => ?_)
 refine wpAny_Slice (af6 H h2 Rm S1.inv R1 fun vl F2 s2 ad2 S2 R2 sub2 pl => ?_)
 refine af6 H h3 Rm S2.inv R2 fun vu F3 s3 ad3 S3 R3 sub3 pu => ?_
 rw [evalPart_none]
 refine wpAny_pure ?_
 have r3 := EVR.step S2.inv R2 S3 (EVR.step S1.inv R1 S2 r1)
 have S12 : Stp W (ownA ad) F F2 s s2 := S1.trans S2 (aag sub1)
 have sub12 : ∀ x a, ad2 x = some a -> ad x = some a := fun x a q => sub1 x a (sub2 x a q)
 have S13 : Stp W (ownA ad) F F3 s s3 := S12.trans S3 (aag sub12)
 have sub13 : ∀ x a, ad3 x = some a -> ad x = some a := fun x a q => sub12 x a (sub3 x a q)
 exact acl hc S3.inv (aaV R3 h4 r3) pl pu (hQ.pvAt S13 R3 sub13)
theorem abf {pos : Pos} (hst : ∀ x p ρ, S.ev (.Starred x p) ρ = none) : ∀ {es : List Expr} {ρ : CE} {as : List EV} {ρ' : CE}, S.evs es ρ = some (as, ρ') ->
 (backTo pos (starEach es env)).all (fun x => !x.1) = true := by
 intro es
 induction es with
 | nil => intros; rfl
 | cons e r ih =>
  intro ρ as ρ' h
  rw [aat (aio hst h)]
  exact D.el (.opt2 (S.ev e ρ) fun a ρ => .opt2 (S.evs r ρ) fun as ρ => .ret (a :: as, ρ)) h (C := fun _ _ => True) trivial fun a ρ1 h1 as ρ2 h2 _ => ih h2
theorem adU (R : Rel W F s.heap env ρ ad) : ∀ {as : List EV} {cs : List CV} {vs : List Value}, derefs ρ as = some cs -> EVRs W F s.heap env as vs -> CvAts W F s.heap cs vs
 | [], cs, vs, h, hv => by cases h; exact hv
 | a :: as, cs, vs, h, ⟨v, r, e, hv, hr⟩ => D.el1 (.opt (deref ρ a) fun c => .opt (derefs ρ as) fun cs => .ret (c :: cs)) h (C := fun cs => CvAts W F s.heap cs vs -> _) id fun c h1 cs h2 k => k ⟨v, r, e, aaV R h1 hv, adU R h2 hr⟩
theorem ac4 {l : List (Str × Slot)} {x : Str} {sl : Slot} (h : l.lookup x = some sl) : ∃ y, (y, sl) ∈ l := by
 induction l with
 | nil => cases h
 | cons p r ih =>
  obtain ⟨z, t⟩ := p
  unfold List.lookup at h
  refine hid fun z1 => ?_
  split at h
  · cases h; refine z1 ?_; exact ⟨z, .head _⟩
  · obtain ⟨y, hy⟩ := ih h; refine z1 ?_; exact ⟨y, .tail _ hy⟩
set_option tactic.hygienic true
theorem aaS {x : Str} {o : CO} (h : ownAt ρ x = some o) : ownOf (ρ.get x) = some o ∧ ∀ y o, ρ.get y ≠ some (.view o) := by
 unfold ownAt at h
 refine hid fun z0 => ?_
 split at h
 · rename_i hn
   refine z0 ?_
   refine ⟨h, fun y o q => ?_⟩
   refine hid fun z1 => ?_
   obtain ⟨z, hz⟩ := ac4 q
   have := List.all_eq_true.mp hn _ hz
   cases this
 · cases h
set_option tactic.hygienic false
theorem aeZ (I : Inv W F s) (R : Rel W F s.heap env ρ ad) {x : Str} {o o' : CO} {a : Addr} (h : ownOf (ρ.get x) = some o) (ha : ad x = some a) {h' : Heap} {tk : Nat} (hb : Heap.SameBut a s.heap h') (ho : OR W.prog W.w F h' o' a)
 (hvw : ∀ y o, ρ.get y ≠ some (.view o)) :
 Stp W (ownA ad) F F s { s with heap := h', toks := tk } ∧ Rel W F h' env (ρ.set x (reown (ρ.get x) o')) ad := by
 refine hid fun z0 => ?_
 obtain ⟨_, q2, q3, _⟩ := R.own x a ha
 have S := Stp.turn I q2 q3 hb (let ⟨ob, e, _⟩ := OR.cls ho; ⟨ob, e⟩) tk
 refine z0 ?_
 exact ⟨S.weaken fun b e => .inl ⟨x, e ▸ ha⟩, ain I R h ha S ho q2 fun y o _ q => absurd q (hvw y o)⟩
end
section
variable {W : Wd} {F F' : FH} {s s' : Shared} {env : Env} {ρ : CE} {ad : Str -> Option Addr} {M : Addr -> Prop} {A : Around} {E : VP} {G : GE} {k : Nat} {S : SM}
set_option tactic.hygienic false
theorem aiW (H : EvOK W k S.ev) (hst : ∀ x p ρ, S.ev (.Starred x p) ρ = none) {o : Expr} {m : Str} {args : List Expr} {apos pos : Pos} {r : EV} {ρ' : CE} (hok : methOk o args.length apos pos = true) (h : S.meth o m args ρ = some (r, ρ')) (Rm : Room A k)
 (I : Inv W F s) (R : Rel W F s.heap env ρ ad) {Q : VP} (hQ : EvPost W env ad F s r ρ' Q) : wpAny (model W.prog W.w) A (eval (.Call (.Attribute o m apos) args [] pos) env) Q E s := by
 unfold SM.meth at h
 refine hid fun z0 => ?_
 cases h1 : S.ev o ρ with
 | none => rw [h1] at h; cases h
 | some p =>
 obtain ⟨ov, ρ1⟩ := p
 rw [h1] at h
 dsimp only at h
 cases h2 : deref ρ1 ov with
 | none => rw [h2] at h; cases h
 | some c0 =>
 rw [h2] at h
 dsimp only at h
 cases h3 : mkindOf c0 m with
 | none => rw [h3] at h; cases h
 | some kd =>
 rw [h3] at h
 dsimp only at h
 cases h4 : S.evs args ρ1 with
 | none => rw [h4] at h; cases h
 | some p =>
 obtain ⟨avs, ρ2⟩ := p
 rw [h4] at h
 dsimp only at h
 refine z0 ?_
 refine ahd hok (abf hst h4) (H o ρ ov ρ1 h1 A env F s ad Rm I R _ _ fun v F1 s1 ad1 S1 R1 sub1 r1 => ?_)
 refine ⟨kd, afy h3 S1.inv (aaV R1 h2 r1), ?_⟩
 refine adQ H hst args ρ1 avs ρ2 h4 A env F1 s1 ad1 pos Rm S1.inv R1 _ _ fun vs F2 s2 ad2 S2 R2 sub2 r2 => ?_
 have q1 := EVR.step S1.inv R1 S2 r1
 have S12 : Stp W (ownA ad) F F2 s s2 := S1.trans S2 (aag sub1)
 have sub12 : ∀ x a, ad2 x = some a -> ad x = some a := fun x a q => sub1 x a (sub2 x a q)
 refine hid fun z1 => ?_
 cases hm : kd.isMut with
 | true =>
  rw [hm] at h
  dsimp only at h
  cases ov with
  | val c => cases h
  | ref x =>
  dsimp only at h
  cases h5 : freezes avs ρ2 with
  | none => rw [h5] at h; cases h
  | some p =>
  obtain ⟨cs, ρ3⟩ := p
  rw [h5] at h
  dsimp only at h
  obtain ⟨F3, ad3, S3, R3, sub3, r3⟩ := abe avs ρ2 cs ρ3 F2 ad2 h5 S2.inv R2 vs r2
  have q3 := EVR.step S2.inv R2 S3 q1
  cases h6 : ownAt ρ3 x with
  | none => rw [h6] at h; cases h
  | some ob =>
  rw [h6] at h
  dsimp only at h
  cases h7 : mutC kd ob cs with
  | none => rw [h7] at h; cases h
  | some p =>
  obtain ⟨c, o'⟩ := p
  rw [h7] at h
  dsimp only at h
  cases h
  obtain ⟨hown, hvw⟩ := aaS h6
  obtain ⟨a, ha, hva, hor⟩ := abH R3 hown
  obtain rfl := VarIs.uniq q3 hva
  refine z1 ?_
  refine aiT h7 hor r3 fun v hv h' tk hb ho => ?_
  obtain ⟨S4, R4⟩ := aeZ (tk := tk) S3.inv R3 hown ha hb ho hvw
  have sub13 : ∀ x a, ad3 x = some a -> ad x = some a := fun x a q => sub12 x a (sub3 x a q)
  have S13 : Stp W (ownA ad) F F3 s s2 := S12.trans S3 (aag sub12)
  exact hQ v F3 _ ad3 (S13.trans S4 (aag sub13)) R4 sub13 (RV.mono _ _ S4.sub _ _ hv)
 | false =>
  rw [hm] at h
  dsimp only at h
  cases h5 : deref ρ2 ov with
  | none => rw [h5] at h; cases h
  | some oc =>
  cases h6 : derefs ρ2 avs with
  | none => rw [h5, h6] at h; cases h
  | some cs =>
  rw [h5, h6] at h
  dsimp only at h
  cases h7 : methC kd oc cs with
  | none => rw [h7] at h; cases h
  | some c =>
  rw [h7] at h
  cases h
  refine z1 ?_
  exact ahc h7 S2.inv (aaV R2 h5 q1) (adU R2 h6 r2) (hQ.pvAt S12 R2 sub12)
def ItPost (W : Wd) (env : Env) (ad : Str -> Option Addr) (F : FH) (s : Shared) (b : Bool) (ρ' : CE) (Q : Bool -> Shared -> Prop) : Prop :=
 ∀ F' s' ad', Stp W (ownA ad) F F' s s' -> Rel W F' s'.heap env ρ' ad' -> (∀ x a, ad' x = some a -> ad x = some a) -> Q b s'
theorem ItPost.step {r : Bool} {ρ' : CE} {F1 : FH} {s1 : Shared} {ad1 : Str -> Option Addr} {Q : Bool -> Shared -> Prop} (h : ItPost W env ad F s r ρ' Q) (S : Stp W (ownA ad) F F1 s s1) (sub : ∀ x a, ad1 x = some a -> ad x = some a) :
 ItPost W env ad1 F1 s1 r ρ' Q :=
 fun F' s' ad' S' R' sub' => h F' s' ad' (S.trans S' (aag sub)) R' (fun x a q => sub x a (sub' x a q))
theorem aer (H : ItOK W k S.it) {op : BoolOp} : ∀ (es : List Expr) (ρ : CE) (b : Bool) (ρ' : CE), S.allT op es ρ = some (b, ρ') ->
 ∀ (F : FH) (s : Shared) (ad : Str -> Option Addr), Room A k -> Inv W F s -> Rel W F s.heap env ρ ad -> ∀ (Q : Bool -> Shared -> Prop), ItPost W env ad F s b ρ' Q ->
  wpAny (model W.prog W.w) A (allTrue op es env) Q E s
 | [], ρ, b, ρ', h, F, s, ad, Rm, I, R, Q, hQ => by
  cases h
  have := hQ F s ad (.refl I) R (fun _ _ e => e)
  cases op <;> exact wpAny_pure this
 | e :: es, ρ, b, ρ', h, F, s, ad, Rm, I, R, Q, hQ => by
  refine D.el (.opt2 (S.it e ρ) fun t ρ => .raw (match op, t with | .And, false => some (false, ρ) | .Or, true => some (true, ρ) | _, _ => S.allT op es ρ)) h (C := fun b ρ' => ItPost W env ad F s b ρ' Q) hQ fun t ρ1 h1 r h hQ => ?_
  refine wpAny_bind (H e ρ t ρ1 h1 A env F s ad Rm I R _ _ fun F1 s1 ad1 S1 R1 sub1 => ?_)
  cases op <;> cases t
  · cases h; exact wpAny_pure (hQ F1 _ ad1 S1 R1 sub1)
  · exact aer H es ρ1 r.1 r.2 h F1 _ ad1 Rm S1.inv R1 Q (hQ.step S1 sub1)
  · exact aer H es ρ1 r.1 r.2 h F1 _ ad1 Rm S1.inv R1 Q (hQ.step S1 sub1)
  · cases h; exact wpAny_pure (hQ F1 _ ad1 S1 R1 sub1)
set_option tactic.hygienic true
theorem af7 (H : SmOK W k S) (hk : 20 ≤ k) : ItOK W k (itStep S) := by
 intro e ρ b ρ' h A env F s ad Rm I R Q E hQ
 have plain : ∀ (e : Expr), isTrue e env (eval e env) = (do let v <- eval e env; standAt e.pos; holding [v] (truthy v)) -> (match S.evd e ρ with
  | some (c, ρ) => match truthC c with
   | some t => some (t, ρ)
   | none => none
  | none => none) = some (b, ρ') -> wpAny (model W.prog W.w) A (isTrue e env (eval e env)) Q E s := by
  intro e he h
  refine hid fun z0 => ?_
  cases h1 : S.evd e ρ with
  | none => rw [h1] at h; cases h
  | some p =>
   obtain ⟨c, ρ1⟩ := p
   rw [h1] at h
   dsimp only at h
   cases h2 : truthC c with
   | none => rw [h2] at h; cases h
   | some t =>
    rw [h2] at h
    cases h
    refine z0 ?_
    refine isTrue_plain (af4 H.ev h1 Rm I R fun v F1 s1 ad1 S1 R1 sub1 hv => ?_) he
    refine aeY h2 hv fun tk => ?_
    have S2 := Stp.toks S1.inv tk
    exact hQ F1 _ ad1 (S1.trans S2 fun _ q => q.elim) (R1.keep0 S1.inv S2) sub1
 cases e with
 | UnaryOp op x pos =>
  refine hid fun z2 => ?_
  cases op with
  | Not =>
   have h : (match S.it x ρ with | some (b, ρ) => some (!b, ρ) | none => none) = some (b, ρ') := h
   cases h1 : S.it x ρ with
   | none => rw [h1] at h; exact aab h
   | some p =>
    obtain ⟨t, ρ1⟩ := p
    rw [h1] at h
    cases h
    refine z2 ?_
    exact wpAny_isTrue_Not (H.it x ρ t _ h1 A env F s ad Rm I R _ _ hQ)
  | _ => exact aab h
 | BoolOp op es p => exact wpAny_isTrue_BoolOp (aer H.it _ _ _ _ h F s ad Rm I R Q hQ)
 | IfExp _ _ _ _ => exact aab h
 | Compare l ops rs pos =>
  unfold itStep at h
  dsimp only at h
  refine hid fun z3 => ?_
  split at h
  · rename_i op r e1 e2
    obtain rfl := aaI e1; obtain rfl := aaI e2
    split at h
    · exact aab h
    · rename_i hm
      split at h
      · rename_i a c ρ1 h1
        split at h
        · rename_i t h2
          cases h
          refine z3 ?_
          refine wpAny_isTrue_Compare1 (aeX H.ev h1 Rm I R fun v u F1 s1 ad1 S1 R1 sub1 hv hu => ?_) hm
          refine aip h2 S1.inv (Rm.le hk) hv hu fun tk => wpAny_truthy_bool ?_
          have S2 := Stp.toks S1.inv tk
          exact hQ F1 _ ad1 (S1.trans S2 fun _ q => q.elim) (R1.keep0 S1.inv S2) sub1
        · exact aab h
      · exact aab h
  · exact aab h
 | _ => exact plain _ rfl h
end
section
variable {W : Wd} {F F' : FH} {s s' : Shared} {env : Env} {ρ : CE} {ad : Str -> Option Addr} {M : Addr -> Prop} {A : Around} {E : VP} {G : GE} {k : Nat} {S : SM}
def MkPost (W : Wd) (env : Env) (ad : Str -> Option Addr) (F : FH) (s : Shared) (o : CO) (ρ' : CE) (Q : VP) : Prop :=
 ∀ a F' s' ad', Stp W (ownA ad) F F' s s' -> Rel W F' s'.heap env ρ' ad' -> (∀ x a, ad' x = some a -> ad x = some a) -> OR W.prog W.w F' s'.heap o a -> F' a = none -> Fre s.heap a -> Q (.ref a) s'
set_option tactic.hygienic false
theorem MkPost.made {o : CO} {ρ' : CE} {F1 : FH} {s1 : Shared} {ad1 : Str -> Option Addr} {Q : VP} (h : MkPost W env ad F s o ρ' Q) (S1 : Stp W (ownA ad) F F1 s s1) (R1 : Rel W F1 s1.heap env ρ' ad1)
 (sub : ∀ x a, ad1 x = some a -> ad x = some a) {h' : Heap} {a : Addr} {tk : Nat} (hk : ∀ b o, s1.heap.get? b = some o -> h'.get? b = some o) (ha : Fre s1.heap a)
 (ho : OR W.prog W.w F1 h' o a) : Q (.ref a) { s1 with heap := h', toks := tk } := by
 have S2 := Stp.ofKeep (tk := tk) S1.inv hk
 exact h a F1 _ ad1 (S1.trans S2 fun _ q => q.elim) (R1.keep0 S1.inv S2) sub ho (S1.inv.fresh ha) (S1.back ha)
theorem MkPost.step {o : CO} {ρ' : CE} {F1 : FH} {s1 : Shared} {ad1 : Str -> Option Addr} {Q : VP} (h : MkPost W env ad F s o ρ' Q) (S : Stp W (ownA ad) F F1 s s1) (sub : ∀ x a, ad1 x = some a -> ad x = some a) :
 MkPost W env ad1 F1 s1 o ρ' Q :=
 fun a F' s' ad' S' R' sub' ho hF ha => h a F' s' ad' (S.trans S' (aag sub)) R' (fun x a q => sub x a (sub' x a q)) ho hF (S.back ha)
theorem aal {h : Heap} (o : Obj) : ∀ b ob, h.get? b = some ob -> (h.push o).get? b = some ob := fun _ _ e => Heap.get?_push_of_some _ e
theorem ait (h : Heap) (o : Obj) : h.objs.size ≤ (h.push o).objs.size := by rw [Heap.size_push]; exact Nat.le_succ _
theorem OR.pushed {xs : List CV} {vs : List Value} (h : Heap) (n : Nat) (r : RVs W.prog W.w F xs vs) : OR W.prog W.w F (h.push { cls := .type "list", data := .seq vs.toArray n }) (.list xs) h.objs.size :=
 OR.ofList ⟨n, Heap.get?_push_size _ rfl⟩ r
theorem adV {cs : List CV} {vs : List Value} (r : RVs W.prog W.w F cs vs) (h : Nat.ble cs.length LIM = true) : vs.length ≤ sizeLine := by rw [r.len]; exact Nat.le_of_ble_eq_true h
theorem aiX (H : EvOK W k S.ev) (hst : ∀ x p ρ, S.ev (.Starred x p) ρ = none) {es : List Expr} {pos : Pos} {avs : List EV} {ρ1 ρ' : CE} {cs : List CV} (h1 : S.evs es ρ = some (avs, ρ1)) (h2 : freezes avs ρ1 = some (cs, ρ'))
 (hle : Nat.ble cs.length LIM = true) (Rm : Room A k) (I : Inv W F s) (R : Rel W F s.heap env ρ ad) {Q : VP} (hQ : MkPost W env ad F s (.list cs) ρ' Q) : wpAny (model W.prog W.w) A (eval (.List es pos) env) Q E s := by
 refine wpAny_List (adQ H hst es ρ avs ρ1 h1 A env F s ad pos Rm I R _ _ fun vs F1 s1 ad1 S1 R1 sub1 r1 => ?_)
 obtain ⟨F2, ad2, S2, R2, sub2, r2⟩ := abe avs ρ1 cs ρ' F1 ad1 h2 S1.inv R1 vs r1
 refine ⟨adV r2 hle, ?_⟩
 exact (hQ.step S1 sub1).made S2 R2 sub2 (tk := s1.toks) (aal _) (Fre.size _ (Nat.le_refl _)) (OR.pushed _ 0 r2)
theorem ahg {pos : Pos} (I : Inv W F s) (R : Rel W F s.heap env ρ ad) {Q : VP} (hQ : MkPost W env ad F s (.dict []) ρ Q) : wpAny (model W.prog W.w) A (eval (.Dict [] [] pos) env) Q E s := by
 refine wpAny_Dict_empty (hQ.made (.refl I) R (fun _ _ e => e) (tk := s.toks) (aal _) (Fre.size _ (Nat.le_refl _)) ?_)
 refine OR.ofDict (Heap.DictOf.new s.heap) (I.notMods (Fre.size _ (Nat.le_refl _))) ?_
 simp only [RVd]
theorem adq {f : Value} (hf : keeperOf f = pure .machine) {pos : Pos} {x : Sem Value} {args : List (Bool × Sem Value)} {Q : VP} (hplain : ((false, x) :: args).any (·.1) = false)
 (h : wpAny (model W.prog W.w) A (spliced ((false, x) :: args)) (fun vs s1 => wpAny (model W.prog W.w) A (call f vs) Q E s1) E s) :
 wpAny (model W.prog W.w) A (callWith pos f [] ((false, x) :: args) []) Q E s := by
 unfold callWith
 refine wpAny_bind (wpAny_holding (evalArgs_plain (wpAny_mono h (fun vs s1 h1 => wpAny_bind (wpAny_standAt ?_)) fun _ _ x => x)))
 refine wpAny_bind ?_
 rw [hf]
 refine wpAny_pure ?_
 rw [hplain]
 exact wpAny_bind (wpAny_mono h1 (fun r s2 hr => wpAny_bind (wpAny_holding (wpAny_point (wpAny_pure hr)))) fun _ _ x => x)
theorem ac5 {pos : Pos} {e : Expr} {r : List Expr} (hplain : (backTo pos (starEach (e :: r) env)).all (fun x => !x.1) = true) :
 ∃ q t, backTo pos (starEach (e :: r) env) = (false, q) :: t ∧ ((false, q) :: t).any (·.1) = false := by
 have hany : (backTo pos (starEach (e :: r) env)).any (·.1) = false := by
  rw [List.any_eq_false]
  intro x hx
  have := List.all_eq_true.mp hplain x hx
  simpa using this
 cases hb : backTo pos (starEach (e :: r) env) with
 | nil =>
  have : (backTo pos (starEach (e :: r) env)).length = 0 := by rw [hb]; rfl
  unfold backTo at this
  rw [List.length_map] at this
  cases e <;> cases this
 | cons p t =>
  obtain ⟨b, q⟩ := p
  rw [hb] at hplain hany
  simp only [List.all_cons, Bool.and_eq_true, Bool.not_eq_true'] at hplain
  obtain rfl := hplain.1
  exact ⟨q, t, rfl, hany⟩
theorem aaX (hG : GOK W k G) {f : Str} {p pos : Pos} {e : Expr} {r : List Expr} {id : Value} (hid : keeperOf id = pure .machine) (hb : isBlt G ρ f = true) (hn : nameOk f = true) (hv : bltV f = some id)
 (I : Inv W F s) (R : Rel W F s.heap env ρ ad) (hplain : (backTo pos (starEach (e :: r) env)).all (fun x => !x.1) = true) {Q : VP}
 (h : wpAny (model W.prog W.w) A (spliced (backTo pos (starEach (e :: r) env))) (fun vs s2 => wpAny (model W.prog W.w) A (call id vs) Q E s2) E s) :
 wpAny (model W.prog W.w) A (eval (.Call (.Name f p) (e :: r) [] pos) env) Q E s := by
 obtain ⟨h1, h2⟩ := afz hb
 refine wpAny_Call_Name_kw (akz hG I R h1 hn h2 hv ?_)
 obtain ⟨q, t, hqt, hany⟩ := ac5 hplain
 rw [hqt] at h ⊢
 exact adq hid hany h
theorem adr (H : EvOK W k S.ev) (hst : ∀ x p ρ, S.ev (.Starred x p) ρ = none) {e : Expr} {pos : Pos} {ρ' : CE} {c : CV} (h : S.evd e ρ = some (c, ρ')) (Rm : Room A k) (I : Inv W F s) (R : Rel W F s.heap env ρ ad)
 {Q : List Value -> Shared -> Prop}
 (hQ : ∀ v F' s' ad', Stp W (ownA ad) F F' s s' -> Rel W F' s'.heap env ρ' ad' -> (∀ x a, ad' x = some a -> ad x = some a) -> CvAt W F' s'.heap c v -> Q [v] s') :
 (backTo pos (starEach [e] env)).all (fun x => !x.1) = true ∧ wpAny (model W.prog W.w) A (spliced (backTo pos (starEach [e] env))) Q E s := by
 have hne : ∀ x p, e ≠ .Starred x p := fun x p q => by unfold SM.evd at h; rw [q, hst] at h; cases h
 rw [aat hne]
 refine ⟨rfl, ?_⟩
 exact aax (af4 H h Rm I R fun v F1 s1 ad1 S1 R1 sub1 hv => aao (hQ v F1 s1 ad1 S1 R1 sub1 hv))
set_option tactic.hygienic true
theorem aiY {f : Str} {c r : CV} {id : Value} (h : bltC f c = some r) (hv : bltV f = some id) (I : Inv W F s) {v : Value} (hc : CvAt W F s.heap c v) {Q : VP} (hQ : PV W F s r Q) :
 keeperOf id = pure .machine ∧ wpAny (model W.prog W.w) A (call id [v]) Q E s := by
 unfold bltC at h
 unfold bltV at hv
 split at h
 · rename_i hf
   rw [hf] at hv
   cases hv
   refine ⟨rfl, ?_⟩
   unfold lenC at h
   split at h
   · rename_i n hn
     split at h
     · rename_i hle
       cases h
       simp only [decide_eq_true_eq] at hle
       split at hn
       · cases hn
         obtain ⟨a, ob, vs, rfl, e, l, q⟩ := aaK I hc
         refine call_len_list (l.isList e) (by rw [List.size_toArray, q.len]; omega) ?_
         rw [List.size_toArray, q.len]
         exact hQ.int I _ _
       · cases hn
         obtain ⟨t, rfl⟩ := aaz hc
         exact P.len_str (by omega) (hQ.int I _ _)
       · cases hn
         obtain ⟨a, ob, kvs, rfl, e, ⟨l, hne⟩, q⟩ := abL I hc
         have hm : (a == sysModules) = false := by simpa using hne
         refine call_len_dict (knd := PySem.strKind W.prog W.w) hm (DO.dictOf (W := W) e l) (by rw [q.len]; omega) ?_
         rw [q.len]
         exact hQ.int I _ _
       · cases hn
     · cases h
   · cases h
 · rename_i hf
   rw [hf] at hv
   dsimp only at hv
   split at h
   · rename_i hf2
     rw [hf2] at hv
     cases hv
     refine ⟨rfl, ?_⟩
     split at h
     · rename_i x
       split at h
       · rename_i n hn
         cases h
         obtain ⟨t, rfl⟩ := aaz hc
         have e : x.s = ⟨#[n]⟩ := by
          obtain ⟨⟨l⟩, b, hb⟩ := x
          simp only at hn
          have e : l = #[n] := Array.toList_inj.mp hn
          subst e; rfl
         rw [e]
         exact P.ord_of_char (hQ.int I _ _)
       · cases h
     · cases h
   · rename_i hf2
     rw [hf2] at hv
     dsimp only at hv
     split at h
     · rename_i hf3
       rw [hf3] at hv
       cases hv
       refine ⟨rfl, ?_⟩
       split at h
       · rename_i n
         split at h
         · rename_i hle
           cases h
           obtain ⟨t, rfl⟩ := aa0 hc
           simp only [Bool.or_eq_true, Bool.and_eq_true] at hle
           refine P.chr_of_int ?_ ?_
           · simp only [Int.ofNat_eq_natCast, Bool.or_eq_false_iff, decide_eq_false_iff_not]
             rcases hle with h1 | ⟨_, h1⟩ <;> have := Nat.le_of_ble_eq_true h1 <;> lia
           · exact hQ.str (x := ⟨⟨#[n]⟩, 1, Nat.le_refl 1⟩) I _ _
         · cases h
       · cases h
     · cases h
end
section
variable {W : Wd} {F F' : FH} {s s' : Shared} {env : Env} {ρ : CE} {ad : Str -> Option Addr} {M : Addr -> Prop} {A : Around} {E : VP} {G : GE} {k : Nat} {S : SM}
set_option tactic.hygienic false
theorem abS {i : Int} (h : small i = true) : -1000000 ≤ i ∧ i ≤ 1000000 := by
 unfold small at h
 simpa only [Bool.and_eq_true, decide_eq_true_eq] using h
theorem ac6 (H : EvOK W k S.ev) (hst : ∀ x p ρ, S.ev (.Starred x p) ρ = none) {e : Expr} {es : List Expr} {pos : Pos} {ρ' : CE} {r : EV} (h : S.ev e ρ = some (r, ρ')) (Rm : Room A k) (I : Inv W F s) (R : Rel W F s.heap env ρ ad)
 {Q : List Value -> Shared -> Prop}
 (hQ : ∀ v F' s' ad', Stp W (ownA ad) F F' s s' -> Rel W F' s'.heap env ρ' ad' -> (∀ x a, ad' x = some a -> ad x = some a) -> EVR W F' s'.heap env r v ->
  wpAny (model W.prog W.w) A (spliced (backTo pos (starEach es env))) (fun vs s2 => Q (v :: vs) s2) E s') :
 wpAny (model W.prog W.w) A (spliced (backTo pos (starEach (e :: es) env))) Q E s := by
 have hne : ∀ x p, e ≠ .Starred x p := fun x p q => by rw [q, hst] at h; cases h
 rw [aat hne]
 exact aax (H e ρ r ρ' h A env F s ad Rm I R _ _ hQ)
set_option tactic.hygienic true
theorem ae0 (H : EvOK W k S.ev) (hst : ∀ x p ρ, S.ev (.Starred x p) ρ = none) (hG : GOK W k G) {f : Str} {p pos : Pos} {args : List Expr} {a b : Int} {ρ' : CE} (hb : isBlt G ρ f = true) (hf : (f == nRange) = true)
 (h : S.range args ρ = some (a, b, ρ')) (Rm : Room A k) (I : Inv W F s) (R : Rel W F s.heap env ρ ad) {Q : VP}
 (hQ : ∀ r t u v F' s' ad', Stp W (ownA ad) F F' s s' -> Rel W F' s'.heap env ρ' ad' -> (∀ x a, ad' x = some a -> ad x = some a) -> IsRange s'.heap r a b 1 t u v -> Fre s.heap r -> small a = true -> small b = true -> Q (.ref r) s') :
 wpAny (model W.prog W.w) A (eval (.Call (.Name f p) args [] pos) env) Q E s := by
 refine hid fun z0 => ?_
 obtain rfl := beq_iff_eq.mp hf
 have h0 : small 0 = true := by decide
 unfold SM.range at h
 rcases args with _ | ⟨e, args⟩
 · exact aab h
 dsimp only at h
 split at h
 · exact aab h
 rename_i x ρ1 h1
 replace h1 := adk h1
 rcases args with _ | ⟨e', args⟩
 · dsimp only at h
   split at h
   · rename_i hs
     cases h
     have hp := abf (env := env) (pos := pos) hst (es := [e]) (ρ := ρ) (as := [.val (.int b)]) (ρ' := ρ') (aaU h1 rfl)
     refine z0 ?_
     refine aaX hG (id := .type "range") rfl hb (by decide) (by decide) I R hp (ac6 H hst h1 Rm I R fun v F1 s1 ad1 S1 R1 sub1 r1 => aao ?_)
     have r1 : RV W.prog W.w F1 (.int b) v := r1
     obtain ⟨t, rfl⟩ := r1
     refine call_range_1 ?_
     have S2 := Stp.ofKeep (tk := s1.toks + 1 + 1) S1.inv (h' := s1.heap.push { cls := .type "range", data := .fields #[.int 0 s1.toks, .int b t, .int 1 (s1.toks + 1)] }) (aal _)
     exact hQ _ _ _ _ F1 _ ad1 (S1.trans S2 fun _ q => q.elim) (R1.keep0 S1.inv S2) sub1 (Heap.get?_push_size _ rfl) (S1.back (Fre.size _ (Nat.le_refl _))) h0 hs
   · exact aab h
 · dsimp only at h
   split at h
   · exact aab h
   rename_i y ρ2 h2
   replace h2 := adk h2
   split at h
   · rename_i hs
     simp only [Bool.and_eq_true] at hs
     obtain rfl := List.isEmpty_iff.mp hs.2
     cases h
     have hp := abf (env := env) (pos := pos) hst (es := [e, e']) (ρ := ρ) (as := [.val (.int a), .val (.int b)]) (ρ' := ρ') (aaU h1 (aaU h2 rfl))
     refine z0 ?_
     refine aaX hG (id := .type "range") rfl hb (by decide) (by decide) I R hp (ac6 H hst h1 Rm I R fun v F1 s1 ad1 S1 R1 sub1 r1 => ?_)
     refine ac6 H hst h2 Rm S1.inv R1 fun v' F2 s2 ad2 S2 R2 sub2 r2 => aao ?_
     have r1 : RV W.prog W.w F1 (.int a) v := r1
     obtain ⟨t, rfl⟩ := r1
     have r2 : RV W.prog W.w F2 (.int b) v' := r2
     refine hid fun z3 => ?_
     obtain ⟨t', rfl⟩ := r2
     refine z3 ?_
     refine call_range_2 ?_
     have S3 := Stp.ofKeep (tk := s2.toks + 1) S2.inv (h' := s2.heap.push { cls := .type "range", data := .fields #[.int a t, .int b t', .int 1 s2.toks] }) (aal _)
     have S12 := S1.trans S2 (aag sub1)
     exact hQ _ _ _ _ F2 _ ad2 (S12.trans S3 fun _ q => q.elim) (R2.keep0 S2.inv S3) (fun x a q => sub1 x a (sub2 x a q)) (Heap.get?_push_size _ rfl) (S12.back (Fre.size _ (Nat.le_refl _))) hs.1.1 hs.1.2
   · exact aab h
set_option tactic.hygienic false
theorem abm (a b : Int) : Builtin.Range.rangeSize a b 1 = ((b - a).toNat : Int) := by
 unfold Builtin.Range.rangeSize
 rw [if_pos (by decide)]
 split <;> lia
theorem acC {a b : Int} (ha : small a = true) (hb : small b = true) : Builtin.Range.small a b 1 = true := by
 have h1 := abS ha
 have h2 := abS hb
 unfold Builtin.Range.small
 rw [abm]
 simp only [Builtin.Range.rangeFitsLong, Bool.and_eq_true, Bool.or_eq_true, decide_eq_true_eq, beq_iff_eq, show (1 : Int) > 0 by decide, if_true]
 omega
theorem acD {a : Int} : ∀ {n : Nat} {vs : List Value} {o : Nat}, vs.length = n -> (∀ i v, vs[i]? = some v -> ∃ t, v = Value.int (a + ((o + i : Nat) : Int)) t) ->
 RVs W.prog W.w F ((List.range' o n).map fun (i : Nat) => CV.int (a + (i : Int))) vs
 | 0, vs, o, hl, _ => by
  have : vs = [] := List.length_eq_zero_iff.mp hl
  subst this
  simp
 | n + 1, [], o, hl, _ => by cases hl
 | n + 1, v :: vs, o, hl, h => by
  simp only [List.range'_succ, List.map_cons]
  obtain ⟨t, e⟩ := h 0 v rfl
  refine ⟨v, vs, rfl, ⟨t, by simpa using e⟩, acD (by simpa using hl) fun i u hu => ?_⟩
  obtain ⟨t, e⟩ := h (i + 1) u (by simpa using hu)
  exact ⟨t, by rw [e]; congr 2; lia⟩
theorem ahh (H : EvOK W k S.ev) (hst : ∀ x p ρ, S.ev (.Starred x p) ρ = none) (hG : GOK W k G) {f g : Str} {p pos p' pos' : Pos} {args : List Expr} {a b : Int} {ρ' : CE} (hb : isBlt G ρ f = true) (hf : (f == nList) = true)
 (hb' : isBlt G ρ g = true) (hg : (g == nRange) = true)
 (h : S.range args ρ = some (a, b, ρ')) (Rm : Room A k) (I : Inv W F s) (R : Rel W F s.heap env ρ ad) {Q : VP} (hQ : MkPost W env ad F s (.list (rangeC a b)) ρ' Q) :
 wpAny (model W.prog W.w) A (eval (.Call (.Name f p) [.Call (.Name g p') args [] pos'] [] pos) env) Q E s := by
 obtain rfl := beq_iff_eq.mp hf
 refine aaX hG (id := .type "list") rfl hb (by decide) (by decide) I R rfl ?_
 refine aax (ae0 H hst hG hb' hg h Rm I R fun r t u v F1 s1 ad1 S1 R1 sub1 hr hrs ha hbs => aao ?_)
 have hsz := abm a b
 have h1 := abS ha
 have h2 := abS hbs
 refine call_list_range Rm.hh hr (acC ha hbs) hsz (by omega) fun h' tk acc' c' hk hn hit => ?_
 refine hQ.made S1 R1 sub1 hk (Fre.size _ (Nat.le_refl _)) (OR.ofList (vs := acc'.toList) ⟨c', by simpa using hn⟩ ?_)
 unfold rangeC
 rw [List.range_eq_range']
 refine acD (by simpa using hit.1) fun i v hv => ?_
 obtain ⟨t, e⟩ := hit.2 i v (by simpa using hv)
 exact ⟨t, by rw [e]; congr 1⟩
theorem ab3 : ∀ l : List Int, (sortI l).Perm l
 | [] => .nil
 | a :: r => by
  have h : ∀ (n : Int) (l : List Int), (insI n l).Perm (n :: l) := by
   intro n l
   induction l with
   | nil => exact .refl _
   | cons b t ih =>
    rw [af0]
    split
    · exact .refl _
    · exact (List.Perm.cons b ih).trans (List.Perm.swap n b t)
  rw [af1]
  exact (h a _).trans (List.Perm.cons a (ab3 r))
set_option tactic.hygienic true
theorem aby : ∀ l : List Int, (sortI l).Pairwise (· ≤ ·)
 | [] => .nil
 | a :: r => by
  have hp : ∀ (n : Int) (l : List Int) (x : Int), x ∈ insI n l -> x = n ∨ x ∈ l := by
   intro n l
   induction l with
   | nil => intro x hx; exact .inl (List.mem_singleton.mp hx)
   | cons b t ih =>
    intro x hx
    rw [af0] at hx
    split at hx
    · rcases List.mem_cons.mp hx with h | h
      · exact .inl h
      · exact .inr h
    · rcases List.mem_cons.mp hx with h | h
      · exact .inr (h ▸ .head _)
      · rcases ih x h with h | h
        · exact .inl h
        · exact .inr (.tail _ h)
  have h : ∀ (n : Int) (l : List Int), l.Pairwise (· ≤ ·) -> (insI n l).Pairwise (· ≤ ·) := by
   intro n l
   induction l with
   | nil => intro _; exact List.pairwise_singleton _ _
   | cons b t ih =>
    intro hs
    rw [af0]
    obtain ⟨h1, h2⟩ := List.pairwise_cons.mp hs
    split
    · rename_i hd
      have hd := of_decide_eq_true hd
      refine List.pairwise_cons.mpr ⟨fun x hx => ?_, hs⟩
      rcases List.mem_cons.mp hx with h | h
      · omega
      · have := h1 x h; omega
    · rename_i hd
      have hd := of_decide_eq_false hd
      refine List.pairwise_cons.mpr ⟨fun x hx => ?_, ih h2⟩
      rcases hp n t x hx with h | h
      · omega
      · exact h1 x h
  rw [af1]
  exact h a _ (aby r)
set_option tactic.hygienic false
theorem RVs.ofInts {vs : List Value} {ns : List Int} (h : IntsAre vs ns) : RVs W.prog W.w F (ns.map CV.int) vs := by
 induction h with
 | nil => simp
 | cons n t h ih => simp only [List.map_cons]; exact ⟨_, _, rfl, ⟨_, rfl⟩, ih⟩
theorem ahi (H : EvOK W k S.ev) (hst : ∀ x p ρ, S.ev (.Starred x p) ρ = none) (hG : GOK W k G) {f : Str} {p pos : Pos} {e : Expr} {cs : List CV} {ρ' : CE} (hb : isBlt G ρ f = true) (hf : (f == nList) = true)
 (h : S.evd e ρ = some (.list cs, ρ')) (hle : Nat.ble cs.length LIM = true) (Rm : Room A k) (I : Inv W F s) (R : Rel W F s.heap env ρ ad) {Q : VP} (hQ : MkPost W env ad F s (.list cs) ρ' Q) :
 wpAny (model W.prog W.w) A (eval (.Call (.Name f p) [e] [] pos) env) Q E s := by
 obtain rfl := beq_iff_eq.mp hf
 obtain ⟨hp, hw⟩ := adr (pos := pos) (E := E) (Q := fun vs s2 => wpAny (model W.prog W.w) A (call (.type "list") vs) Q E s2) H hst h Rm I R fun v F1 s1 ad1 S1 R1 sub1 hv => by
  refine hid fun z1 => ?_
  obtain ⟨a, ob, vs, rfl, e, ⟨n, rfl⟩, q⟩ := aaK S1.inv hv
  refine z1 ?_
  refine call_list_seq a (T := "list") (.inl rfl) e rfl rfl (fun h' c' hk hn => ?_) (by rw [List.size_toArray]; exact adV q hle)
  exact hQ.made S1 R1 sub1 (tk := s1.toks) hk (Fre.size _ (Nat.le_refl _)) (OR.ofList (vs := vs) ⟨c', by simpa using hn⟩ q)
 exact aaX hG (id := .type "list") rfl hb (by decide) (by decide) I R hp hw
theorem ahj (H : EvOK W k S.ev) (hst : ∀ x p ρ, S.ev (.Starred x p) ρ = none) (hG : GOK W k G) {f : Str} {p pos : Pos} {e : Expr} {es : List (SS × CV)} {ρ' : CE} (hb : isBlt G ρ f = true) (hf : (f == nDict) = true)
 (h : S.evd e ρ = some (.dict es, ρ')) (hle : Nat.ble es.length LIM = true) (Rm : Room A k) (I : Inv W F s) (R : Rel W F s.heap env ρ ad) {Q : VP} (hQ : MkPost W env ad F s (.dict es) ρ' Q) :
 wpAny (model W.prog W.w) A (eval (.Call (.Name f p) [e] [] pos) env) Q E s := by
 obtain rfl := beq_iff_eq.mp hf
 obtain ⟨hp, hw⟩ := adr (pos := pos) (E := E) (Q := fun vs s2 => wpAny (model W.prog W.w) A (call (.type "dict") vs) Q E s2) H hst h Rm I R fun v F1 s1 ad1 S1 R1 sub1 hv => by
  refine hid fun z1 => ?_
  obtain ⟨a, ob, kvs, rfl, e, ⟨l, hne⟩, q⟩ := abL S1.inv hv
  have hm : (a == sysModules) = false := by simpa using hne
  refine z1 ?_
  refine kt_call_dict (knd := PySem.strKind W.prog W.w) hm (DO.dictOf (W := W) e l) (by rw [q.len]; exact Nat.le_of_ble_eq_true hle) fun h' hd hb => ?_
  refine hQ.made S1 R1 sub1 (tk := s1.toks) (fun b o e => (hb.2 b (Nat.ne_of_lt (Heap.lt_size e))).trans (aal _ b o e)) (Fre.size _ (Nat.le_refl _)) (OR.ofDict hd (S1.inv.notMods (Fre.size _ (Nat.le_refl _))) q)
 exact aaX hG (id := .type "dict") rfl hb (by decide) (by decide) I R hp hw
theorem af8 (H : EvOK W k S.ev) (hst : ∀ x p ρ, S.ev (.Starred x p) ρ = none) (hG : GOK W k G) {f : Str} {p pos : Pos} {e : Expr} {cs : List CV} {ns : List Int} {ρ' : CE} (hb : isBlt G ρ f = true) (hf : (f == nSorted) = true)
 (h : S.evd e ρ = some (.list cs, ρ')) (hi : intsC cs = some ns) (hle : Nat.ble ns.length 63 = true) (Rm : Room A k) (I : Inv W F s) (R : Rel W F s.heap env ρ ad) {Q : VP} (hQ : MkPost W env ad F s (.list ((sortI ns).map CV.int)) ρ' Q) :
 wpAny (model W.prog W.w) A (eval (.Call (.Name f p) [e] [] pos) env) Q E s := by
 refine hid fun z0 => ?_
 obtain rfl := beq_iff_eq.mp hf
 obtain ⟨hp, hw⟩ := adr (pos := pos) (E := E) (Q := fun vs s2 => wpAny (model W.prog W.w) A (call (.builtin "sorted") vs) Q E s2) H hst h Rm I R fun v F1 s1 ad1 S1 R1 sub1 hv => by
  obtain ⟨a, ob, vs, rfl, e, l, q⟩ := aaK S1.inv hv
  have hI := q.ints hi
  have hlen : vs.length < 64 := by rw [hI.length]; exact Nat.lt_succ_of_le (Nat.le_of_ble_eq_true hle)
  refine sorted_ints (l.isList e) hI hlen fun out ns' h1 h2 h3 => ?_
  obtain rfl := PySem.W.lks_uniq (h2.trans (ab3 ns).symm) h3 (aby ns)
  obtain ⟨c, hc⟩ := sortedAll_at s1.heap vs out
  exact hQ.made S1 R1 sub1 (tk := s1.toks) (fun b o e => sortedAll_old e) (Fre.size _ (Nat.le_succ _)) (OR.ofList (vs := out.toList) ⟨c, by rw [hc]⟩ (RVs.ofInts h1))
 refine z0 ?_
 exact aaX hG (id := .builtin "sorted") rfl hb (by decide) (by decide) I R hp hw
theorem RVs.ofStrs : ∀ (l : List Str) (tk : Nat), RVs W.prog W.w F (l.map fun p => CV.str (SS.pad p)) (strsFrom tk l)
 | [], _ => by simp [strsFrom]
 | x :: r, tk => by simp only [List.map_cons, strsFrom, RVs, RV, SS.pad_s]; exact ⟨_, _, rfl, ⟨_, rfl⟩, RVs.ofStrs r _⟩
theorem afC {x : SS} {y : Str} {t u : Tok} {Q : VP} (hle : Nat.ble (x.b + 2) LIM = true) (hy : (y.length == 0) = false)
 (h : ∀ vs tk, RVs W.prog W.w F (splitC x y) vs -> Q (.ref s.heap.objs.size) { s with heap := s.heap.push { cls := .type "list", data := .seq vs.toArray }, toks := tk }) :
 wpAny (model W.prog W.w) A (call (.builtin "str.split") [.str x.s t, .str y u]) Q E s := by
 have hle := Nat.le_of_ble_eq_true hle
 have hx := x.h
 have hxs : x.s.length ≤ sizeLine := by show x.s.length ≤ 16777216; unfold LIM at hle; lia
 have hlen := split_le x.s y
 unfold splitC at h
 unfold Txt.split at h hlen
 refine hid fun z0 => ?_
 cases h1 : (decide (x.s.length < y.length) || decide (Builtin.Str.strKind x.s < Builtin.Str.strKind y)) with
 | true =>
  rw [if_pos h1] at h
  refine z0 ?_
  exact call_meets PySem.F.slot_str_split (typeIs_str _ _ _) PySem.F.entry_str_split (PySem.F.args_str_split_2 _ _) (meets_str_split_cannot_occur x.s y t u h1)
   (h [.str x.s t] s.toks (by simp only [List.map_cons, List.map_nil, RVs, RV, SS.pad_s]; exact ⟨_, _, rfl, ⟨_, rfl⟩, rfl⟩))
 | false =>
  rw [if_neg (ne_true_of_eq_false h1)] at h hlen
  cases hf : (Builtin.Str.occurrences x.s y 0 x.s.length (x.s.length + 1)).isEmpty with
  | true =>
   rw [if_pos hf] at h
   refine z0 ?_
   exact call_meets PySem.F.slot_str_split (typeIs_str _ _ _) PySem.F.entry_str_split (PySem.F.args_str_split_2 _ _) (meets_str_split_not_found x.s y t u h1 hy hf)
    (h [.str x.s t] s.toks (by simp only [List.map_cons, List.map_nil, RVs, RV, SS.pad_s]; exact ⟨_, _, rfl, ⟨_, rfl⟩, rfl⟩))
  | false =>
   rw [if_neg (ne_true_of_eq_false hf)] at h hlen
   refine z0 ?_
   exact call_meets PySem.F.slot_str_split (typeIs_str _ _ _) PySem.F.entry_str_split (PySem.F.args_str_split_2 _ _)
    (meets_str_split_sep x.s y t u h1 hy hf hxs (by show _ ≤ 16777216; unfold LIM at hle; lia)) (h _ _ (RVs.ofStrs _ _))
set_option tactic.hygienic true
theorem ahk (H : EvOK W k S.ev) (hst : ∀ x p ρ, S.ev (.Starred x p) ρ = none) {o e : Expr} {m : Str} {apos pos : Pos} {x y : SS} {ρ' : CE} (hm : (m == nSplit) = true) (hok : methOk o 1 apos pos = true)
 (h : S.evv2 o e ρ = some (.str x, .str y, ρ')) (hle : (Nat.ble (x.b + 2) LIM && !(y.s.length == 0)) = true) (Rm : Room A k) (I : Inv W F s) (R : Rel W F s.heap env ρ ad) {Q : VP} (hQ : MkPost W env ad F s (.list (splitC x y.s)) ρ' Q) :
 wpAny (model W.prog W.w) A (eval (.Call (.Attribute o m apos) [e] [] pos) env) Q E s := by
 refine hid fun z0 => ?_
 obtain rfl := beq_iff_eq.mp hm
 simp only [Bool.and_eq_true, Bool.not_eq_true'] at hle
 unfold SM.evv2 at h
 split at h
 · rename_i a ρ1 h1
   split at h
   · rename_i b ρ2 h2
     cases h
     unfold methOk at hok
     simp only [Bool.and_eq_true, decide_eq_true_eq] at hok
     have hp := abf (env := env) (pos := pos) hst (es := [e]) (ρ := ρ1) (as := [.val (.str y)]) (ρ' := ρ') (aaU h2 rfl)
     refine z0 ?_
     refine wpAny_Call_method_late (aa6 hok.1.1) (by rw [hp]; rfl) hok.1.2 rfl (H o ρ _ ρ1 h1 A env F s ad Rm I R _ _ fun v F1 s1 ad1 S1 R1 sub1 r1 => ?_)
     have r1 : RV W.prog W.w F1 (.str x) v := r1
     obtain ⟨t, rfl⟩ := r1
     refine ⟨"str", "str.split", PySem.F.plainAttrs_str, PySem.F.slot_str_split, PySem.F.type_str_split, typeIs_str _ _ _, fun b q => (by cases q), ?_⟩
     obtain ⟨q, tt, hqt, hany⟩ := ac5 hp
     have hw := ac6 (pos := pos) (es := []) (E := E) (Q := fun vs s2 => wpAny (model W.prog W.w) A (call (.builtin "str.split") (.str x.s t :: vs)) Q E s2) H hst h2 Rm S1.inv R1 fun v' F2 s2 ad2 S2 R2 sub2 r2 => by
      have r2 : RV W.prog W.w F2 (.str y) v' := r2
      obtain ⟨t', rfl⟩ := r2
      refine aao (afC (F := F2) hle.1 hle.2 fun vs tk r => ?_)
      exact (hQ.step S1 sub1).made S2 R2 sub2 (aal _) (Fre.size _ (Nat.le_refl _)) (OR.pushed _ 0 r)
     rw [hqt] at hw ⊢
     exact callWith_builtin hany (evalArgs_plain (wpAny_mono hw (fun vs s2 h2z => h2z) fun _ _ e => e))
   · cases h
 · cases h
end
section
variable {W : Wd} {F F' : FH} {s s' : Shared} {env : Env} {ρ : CE} {ad : Str -> Option Addr} {M : Addr -> Prop} {A : Around} {E : VP} {G : GE} {k : Nat} {S : SM}
def ItemR (W : Wd) (F : FH) (h : Heap) (c : CV) (v : Value) : Prop := match c with
 | .tup ds => ∃ T vals, v = .ref T ∧ h.IsTuple T vals ∧ RVs W.prog W.w F ds vals.toList
 | c => RV W.prog W.w F c v
set_option tactic.hygienic false
theorem ItemR.mono {h : Heap} {c : CV} {v : Value} (r : ItemR W F h c v) (hF : ∀ a o, F a = some o -> F' a = some o) : ItemR W F' h c v := by
 cases c with
 | tup ds => exact match r with | ⟨T, vals, e1, e2, e3⟩ => ⟨T, vals, e1, e2, RVs.mono _ _ hF _ _ e3⟩
 | _ => exact RV.mono _ _ hF _ _ r
theorem aaE {ad ad' : Str -> Option Addr} (h : ∀ x a, ad' x = some a -> ad x = some a ∨ Fre s.heap a) : ∀ a, frmA env ad' a -> frmA env ad a ∨ Fre s.heap a := fun a q => by
 rcases q with ⟨x, e⟩ | q
 · rcases h x a e with q | q
   · exact .inl (.inl ⟨x, q⟩)
   · exact .inr q
 · exact .inl (.inr q)
def BPost (W : Wd) (env : Env) (ad : Str -> Option Addr) (F : FH) (s : Shared) (ρ' : CE) (Q : Unit -> Shared -> Prop) : Prop :=
 ∀ s' ad', Stp W (frmA env ad) F F s s' -> Rel W F s'.heap env ρ' ad' -> (∀ x a, ad' x = some a -> ad x = some a) -> Q () s'
theorem acE {x : Str} {pos : Pos} {c : CV} {v : Value} (hc : canSet ρ x = true) (I : Inv W F s) (R : Rel W F s.heap env ρ ad) (hv : RV W.prog W.w F c v) {Q : Unit -> Shared -> Prop} (hQ : BPost W env ad F s (ρ.set x (.val c)) Q) :
 wpAny (model W.prog W.w) A (assign (.Name x pos) env v) Q E s := by
 rw [arm_assign_Name]
 have hn : NewSlot W F s.heap env ad x (.val c) v none := ⟨hv, rfl⟩
 exact wpAny_bind (wpAny_standAt (wpAny_bindName (abE I R hc hn fun s' S' R' => hQ s' _ S' R' (abw hn))))
theorem acF {t : Expr} {ts : List Expr} {c : CV} {cs : List CV} {ρ' : CE} (h : bindNs (t :: ts) (c :: cs) ρ = some ρ') : ∃ x p, t = .Name x p ∧ canSet ρ x = true ∧ bindNs ts cs (ρ.set x (.val c)) = some ρ' := by
 replace h : (match eName t with | none => none | some (x, _) => match canSet ρ x with | true => bindNs ts cs (ρ.set x (.val c)) | false => none) = some ρ' := h
 refine hid fun z0 => ?_
 cases hn : eName t with
 | none => rw [hn] at h; exact aab h
 | some q =>
  rw [hn] at h
  cases hc : canSet ρ q.1 with
  | false => dsimp only at h; rw [hc] at h; exact aab h
  | true => dsimp only at h; rw [hc] at h; refine z0 ?_; exact ⟨q.1, q.2, aai hn, hc, h⟩
theorem adW : ∀ (ts : List Expr) (cs : List CV) (ρ ρ' : CE), bindNs ts cs ρ = some ρ' -> (assignEach ts env).length = cs.length ∧ (assignEach ts env).findIdx? (·.1) = none := by
 intro ts
 induction ts with
 | nil =>
  intro cs ρ ρ' h
  cases cs with
  | nil => exact ⟨rfl, rfl⟩
  | cons _ _ => cases h
 | cons t ts ih =>
  intro cs ρ ρ' h
  cases cs with
  | nil => exact aab h
  | cons c cs =>
   refine hid fun z2 => ?_
   obtain ⟨y, p, rfl, _, h⟩ := acF h
   obtain ⟨a, b⟩ := ih _ _ _ h
   have e : assignEach (.Name y p :: ts) env = (false, assign (.Name y p) env) :: assignEach ts env := rfl
   refine z2 ?_
   rw [e]
   exact ⟨congrArg (· + 1) a, by rw [List.findIdx?_cons, b]; rfl⟩
theorem af9 : ∀ (ts : List Expr) {cs : List CV} {ρ ρ' : CE} {vs : List Value} {s : Shared} {ad : Str -> Option Addr}, bindNs ts cs ρ = some ρ' -> Inv W F s -> Rel W F s.heap env ρ ad -> RVs W.prog W.w F cs vs ->
 ∀ {Q : Unit -> Shared -> Prop}, BPost W env ad F s ρ' Q -> wpAny (model W.prog W.w) A (assignInOrder ((assignEach ts env).map (·.2)) vs) Q E s := by
 intro ts
 induction ts with
 | nil =>
  intro cs ρ ρ' vs s ad h I R hv Q hQ
  refine hid fun z0 => ?_
  cases cs with
  | nil =>
   cases h
   subst hv
   refine z0 ?_
   exact wpAny_pure (hQ s ad (.refl I) R fun _ _ e => e)
  | cons _ _ => cases h
 | cons t ts ih =>
  intro cs ρ ρ' vs s ad h I R hv Q hQ
  refine hid fun z1 => ?_
  cases cs with
  | nil => exact aab h
  | cons c cs =>
   obtain ⟨x, pos, rfl, hc, h⟩ := acF h
   obtain ⟨v, r, rfl, h1, h2⟩ := hv
   refine z1 ?_
   show wpAny _ A (do holding r (assign (.Name x pos) env v); assignInOrder ((assignEach ts env).map (·.2)) r) Q E s
   refine wpAny_bind (wpAny_holding (acE hc I R h1 fun s1 ad1 S1 R1 sub1 => ?_))
   exact ih h S1.inv R1 h2 fun s2 ad2 S2 R2 sub2 => hQ s2 ad2 (S1.trans S2 (aaE fun x a q => .inl (sub1 x a q))) R2 fun x a q => sub1 x a (sub2 x a q)
theorem ae1 {h h' : Heap} (hx : Heap.ExtBut h.objs.size h h') : ∀ a o, h.get? a = some o -> h'.get? a = some o := fun a o e => hx a o (Nat.ne_of_lt (Heap.lt_size e)) e
set_option tactic.hygienic true
theorem ae2 {t : Expr} {c : CV} {ρ' : CE} (h : bindT t c ρ = some ρ') (hh : A.handled = none) (I : Inv W F s) (R : Rel W F s.heap env ρ ad) {v : Value} (hv : ItemR W F s.heap c v) {Q : Unit -> Shared -> Prop} (hQ : BPost W env ad F s ρ' Q) :
 wpAny (model W.prog W.w) A (assign t env v) Q E s := by
 unfold bindT at h
 refine hid fun z0 => ?_
 split at h
 · rename_i x pos ht
   obtain rfl := aai ht
   split at h
   · rename_i hc
     cases h
     simp only [Bool.and_eq_true, Bool.not_eq_true'] at hc
     refine z0 ?_
     refine acE hc.1 I R ?_ hQ
     cases c with
     | tup ds => cases hc.2
     | _ => exact hv
   · cases h
 split at h
 · rename_i ts ht
   obtain ⟨kd, pos, rfl⟩ := acx ht
   have go : ∀ (cs : List CV) (vs : List Value) (h' : Heap), bindNs ts cs ρ = some ρ' -> RVs W.prog W.w F cs vs -> Heap.ExtBut s.heap.objs.size s.heap h' ->
    (assignEach ts env).length = vs.length ∧ (assignEach ts env).findIdx? (·.1) = none ∧ wpAny (model W.prog W.w) A (assignInOrder ((assignEach ts env).map (·.2)) vs) Q E { s with heap := h' } := fun cs vs h' hb hr hx => by
    have S1 := Stp.ofKeep (tk := s.toks) I (ae1 hx)
    have R1 := R.keep0 I S1
    obtain ⟨g1, g2⟩ := adW (env := env) ts cs ρ ρ' hb
    refine ⟨by rw [g1, hr.len], g2, ?_⟩
    exact af9 ts hb S1.inv R1 hr fun s2 ad2 S2 R2 sub2 => hQ s2 ad2 (Stp.trans (M := frmA env ad) (S1.weaken fun _ q => q.elim) S2 fun _ q => .inl q) R2 sub2
   cases c with
   | list cs =>
    have hv : RV W.prog W.w F (.list cs) v := hv
    obtain ⟨a, o, vs, rfl, e, l, q⟩ := hv
    have hl := l.isList (I.frz _ _ e)
    obtain ⟨g1, g2, _⟩ := go cs vs s.heap h q (fun b o _ e => e)
    refine z0 ?_
    rw [arm_assign_Tuple]
    refine wpAny_bind (wpAny_standAt ?_)
    unfold unpack
    rw [g1, g2]
    have e2 : vs.length = vs.toArray.size := by simp
    rw [e2]
    exact wpAny_bind (wpAny_holding (PySem.W.kun_itemsOf hh hl fun h' hx => (go cs vs h' h q hx).2.2))
   | tup cs =>
    obtain ⟨T, vals, rfl, ht, q⟩ := hv
    obtain ⟨g1, g2, _⟩ := go cs vals.toList s.heap h q (fun b o _ e => e)
    refine z0 ?_
    exact wpAny_assign_Tuple hh ht (by rw [g1]; simp) g2 fun h' hx => (go cs vals.toList h' h q hx).2.2
   | _ => exact aab h
 · exact aab h
end
section
variable {W : Wd} {F F' : FH} {s s' : Shared} {env : Env} {ρ : CE} {ad : Str -> Option Addr} {M : Addr -> Prop} {A : Around} {E : VP} {G : GE} {k : Nat} {S : SM}
set_option tactic.hygienic false
set_option backward.match.sparseCases true in
theorem acG {target : Expr} {I : Addr} {o : Obj} {n : String} {v : Value} {Q : Unit -> Shared -> Prop} (ho : s.heap.get? I = some o) (hc : o.cls = .type n)
 (hn : ["enumerate", "zip", "dict_itemiterator", "dict_reverseitemiterator", "odict_iterator", "itertools.zip_longest", "itertools.pairwise"].contains n = false) (h : Q () s) :
 wpAny (model W.prog W.w) A (letOwnedTupleGo target (.ref I) v) Q E s := by
 have key : ∀ a : Addr, wpAny (model W.prog W.w) A (do
  let o <- load I
  match o.cls, o.data with
  | .type n, .fields vs =>
   if ["enumerate", "zip", "dict_itemiterator", "dict_reverseitemiterator", "odict_iterator", "itertools.zip_longest", "itertools.pairwise"].contains n && vs[0]? == some (rawInt a) then
    rule "for.unpacks-the-owned-tuple"
    updateField I 0 .none
  | _, _ => pure () : Sem Unit) Q E s := fun a => by
  refine wpAny_bind (wpAny_load ho ?_)
  rw [hc]
  cases o.data with
  | fields vs =>
   dsimp only
   rw [hn]
   exact wpAny_pure h
  | _ => exact wpAny_pure h
 cases target with
 | Tuple ts kd p =>
  cases v with
  | ref a => exact key a
  | _ => exact wpAny_pure h
 | List ts p =>
  cases v with
  | ref a => exact key a
  | _ => exact wpAny_pure h
 | _ => exact wpAny_pure h
inductive SrcAt (W : Wd) (k : Bool) (A : Around) (F : FH) (h0 : Heap) (target : Expr) (it : Value) (cs : List CV) (s : Shared) : Prop
 | mk (I : Addr) (fp wr : List Addr) (n : Nat) (P Md : Nat -> Value -> Heap -> Prop) (St : Nat -> Heap -> Prop) (h1 : it = .ref I) (h2 : n = cs.length) (h3 : ∀ i (s : Shared) (Q : VP) (E : VP), St i s.heap -> Q (.ref I) s -> wpAny (model W.prog W.w) A (pyIter (.ref I)) Q E s) (h4 : PySem.W.KTurns W.prog W.w A target I fp wr n P Md St) (h5 : St 0 s.heap)
  (h6 : ∀ b ∈ wr, Fre h0 b ∧ F b = none ∧ ¬ W.T b) (h7 : ∀ i h, St i h -> ∀ b ∈ wr, ∃ o vs, h.get? b = some o ∧ o.data = .fields vs)
  (h8 : ∀ b ∈ fp, b ∈ wr ∨ (k = true ∧ ∃ o, F b = some o) ∨ (k = false ∧ ¬ W.T b ∧ ∃ o, s.heap.get? b = some o))
  (h9 : ∀ i v h c, (∀ a o, F a = some o -> h.get? a = some o) -> P i v h -> cs[i]? = some c -> ItemR W F h c v)
def CvK (W : Wd) (k : Bool) (F : FH) (h : Heap) (c : CV) (v : Value) : Prop := match k with
 | true => RV W.prog W.w F c v
 | false => CvAt W F h c v
theorem CvK.at {k : Bool} {c : CV} {v : Value} {h : Heap} (r : CvK W k F h c v) : CvAt W F h c v := by
 cases k with
 | true => exact .inl r
 | false => exact r
theorem CvK.keepable (I : Inv W F s) {k : Bool} {c : CV} {a : Addr} (r : CvK W k F s.heap c (.ref a)) (hc : (∃ xs, c = .list xs) ∨ ∃ es, c = .dict es) :
 (k = true ∧ ∃ o, F a = some o) ∨ (k = false ∧ ¬ W.T a ∧ ∃ o, s.heap.get? a = some o) := by
 cases k with
 | true =>
  refine .inl ⟨rfl, ?_⟩
  rcases hc with ⟨xs, rfl⟩ | ⟨es, rfl⟩
  · have r : RV W.prog W.w F (.list xs) (.ref a) := r
    obtain ⟨b, o, _, e, f, _⟩ := r
    cases e; exact ⟨o, f⟩
  · have r : RV W.prog W.w F (.dict es) (.ref a) := r
    obtain ⟨b, o, _, e, f, _⟩ := r
    cases e; exact ⟨o, f⟩
 | false =>
  refine .inr ⟨rfl, ?_⟩
  rcases r with r | ⟨o, b, e1, e2, r⟩
  · rcases hc with ⟨xs, rfl⟩ | ⟨es, rfl⟩
    · simp only [RV] at r
      obtain ⟨b, o, _, e, f, _⟩ := r
      cases e; exact ⟨I.notTab f, o, I.frz _ _ f⟩
    · simp only [RV] at r
      obtain ⟨b, o, _, e, f, _⟩ := r
      cases e; exact ⟨I.notTab f, o, I.frz _ _ f⟩
  · cases e2
    obtain ⟨ob, e, _⟩ := OR.cls r
    exact ⟨I.notTabOR r, ob, e⟩
theorem RVs.at {cs : List CV} {vs : List Value} (h : RVs W.prog W.w F cs vs) {i : Nat} {c : CV} {v : Value} (hc : cs[i]? = some c) (hv : vs[i]? = some v) : RV W.prog W.w F c v := by
 obtain ⟨u, hu, r⟩ := h.get hc
 rw [hv] at hu; cases hu; exact r
theorem ItemR.ofRV {h : Heap} {c : CV} {v : Value} (hc : isTup c = false) (r : RV W.prog W.w F c v) : ItemR W F h c v := by
 cases c with
 | tup ds => cases hc
 | _ => exact r
theorem ItemR.ofRV' {h : Heap} (I : ∀ a o, F a = some o -> h.get? a = some o) {c : CV} {v : Value} (r : RV W.prog W.w F c v) : ItemR W F h c v := by
 cases c with
 | tup ds =>
  obtain ⟨a, o, vs, rfl, e, ⟨h1, n, h2⟩, q⟩ := r
  exact ⟨a, vs.toArray, rfl, ⟨o, I _ _ e, h1, n, h2⟩, by simpa using q⟩
 | _ => exact r
def SrcPost (W : Wd) (k : Bool) (A : Around) (F : FH) (h0 : Heap) (target : Expr) (cs : List CV) (s : Shared) (Q : VP) : Prop :=
 ∀ it s', Stp W (fun _ => False) F F s s' -> SrcAt W k A F h0 target it cs s' -> Q it s'
theorem ahl {kb : Bool} {h0 : Heap} {target : Expr} {cs : List CV} {v : Value} {A' : Around} (hh : A'.handled = none) (I : Inv W F s) (hb : ∀ a, Fre s.heap a -> Fre h0 a) (hv : CvK W kb F s.heap (.list cs) v) {Q : VP}
 (hQ : SrcPost W kb A' F h0 target cs s Q) : wpAny (model W.prog W.w) A (pyIter v) Q E s := by
 obtain ⟨a, ob, vs, rfl, e, l, q⟩ := aaK I hv.at
 have hl := l.isList e
 have hf : Fre s.heap s.heap.objs.size := Fre.size _ (Nat.le_refl _)
 have hne : a ≠ s.heap.objs.size := (hf.ne e).symm
 refine wpAny_pyIter_list hl ?_
 have S := Stp.ofKeep (tk := s.toks) I (aal { cls := .type "list_iterator", data := .fields #[.ref a, .int 0 0] })
 have hit : (s.heap.push { cls := .type "list_iterator", data := .fields #[.ref a, .int 0 0] }).get? s.heap.objs.size = some { cls := .type "list_iterator", data := .fields #[.ref a, .int 0 0] } := Heap.get?_push_size _ rfl
 refine hQ _ _ S ⟨_, _, _, _, _, _, _, rfl, ?_, (Walks.list hh s.heap.objs.size a hne vs.toArray).self, PySem.W.KTurns.ofWalks (Walks.list hh s.heap.objs.size a hne vs.toArray) fun i v s Q E st q => letGo_listiter st.1 q, ⟨⟨_, hit, rfl, rfl⟩, hl.push _⟩, ?_, fun i h st b hb' => ?_, ?_, ?_⟩
 · rw [List.size_toArray, q.len]
 · intro b hb'
   simp only [List.mem_cons, List.not_mem_nil, or_false] at hb'
   subst hb'
   exact ⟨hb _ hf, I.fresh hf, I.tabOld hf⟩
 · simp only [List.mem_cons, List.not_mem_nil, or_false] at hb'
   subst hb'
   obtain ⟨⟨o, e1, e2, e3⟩, _⟩ := st
   exact ⟨o, _, e1, e3⟩
 · intro b hb'
   simp only [List.mem_cons, List.not_mem_nil, or_false] at hb'
   rcases hb' with rfl | rfl
   · exact .inl (.head _)
   · rcases hv.keepable I (.inl ⟨cs, rfl⟩) with h | ⟨h1, h2, o, h3⟩
     · exact .inr (.inl h)
     · exact .inr (.inr ⟨h1, h2, o, aal _ _ _ h3⟩)
 · intro i v h c hfz hp hc
   exact ItemR.ofRV' hfz (q.at hc (by simpa using hp))
theorem aga {kb : Bool} {h0 : Heap} {target : Expr} {r : Addr} {a b : Int} {t u v : Tok} {A' : Around} (hh : A'.handled = none) (I : Inv W F s) (hb : ∀ a, Fre s.heap a -> Fre h0 a) (hr : IsRange s.heap r a b 1 t u v) (ha : small a = true) (hbs : small b = true)
 {Q : VP} (hQ : SrcPost W kb A' F h0 target (rangeC a b) s Q) : wpAny (model W.prog W.w) A (pyIter (.ref r)) Q E s := by
 have hf : Fre s.heap s.heap.objs.size := Fre.size _ (Nat.le_refl _)
 refine wpAny_pyIter_range hr (acC ha hbs) ?_
 rw [abm]
 have S := Stp.ofKeep (tk := s.toks) I (aal { cls := .type "range_iterator", data := .fields #[rawInt a, rawInt ((b - a).toNat : Int), rawInt 1] })
 have hit : (s.heap.push { cls := .type "range_iterator", data := .fields #[rawInt a, rawInt ((b - a).toNat : Int), rawInt 1] }).get? s.heap.objs.size = some { cls := .type "range_iterator", data := .fields #[rawInt a, rawInt ((b - a).toNat : Int), rawInt 1] } := Heap.get?_push_size _ rfl
 refine hQ _ _ S ⟨_, _, _, _, _, _, _, rfl, ?_, (Walks.range hh s.heap.objs.size a 1 (b - a).toNat).self, PySem.W.KTurns.ofWalks (Walks.range hh s.heap.objs.size a 1 (b - a).toNat) fun i v s Q E st q => acG st rfl (by decide) q, ?_, ?_, fun i h st b hb' => ?_, ?_, ?_⟩
 · unfold rangeC; simp
 · show IsRangeIter _ _ _ _ _
   unfold IsRangeIter
   rw [hit]; simp
 · intro b hb'
   simp only [List.mem_cons, List.not_mem_nil, or_false] at hb'
   subst hb'
   exact ⟨hb _ hf, I.fresh hf, I.tabOld hf⟩
 · simp only [List.mem_cons, List.not_mem_nil, or_false] at hb'
   subst hb'
   exact ⟨_, _, st, rfl⟩
 · intro b hb'
   exact .inl hb'
 · intro i v h c hfz hp hc
   obtain ⟨t, rfl⟩ := hp
   unfold rangeC at hc
   rw [List.getElem?_map] at hc
   cases hi : (List.range (b - a).toNat)[i]? with
   | none => rw [hi] at hc; cases hc
   | some j =>
    rw [hi] at hc
    have hj : j = i := by
     rw [List.getElem?_eq_some_iff] at hi
     obtain ⟨_, e⟩ := hi
     simpa using e.symm
    subst hj
    simp only [Option.map_some, Option.some.injEq] at hc
    subst hc
    show RV W.prog W.w F (.int (a + (j : Int))) _
    exact ⟨t, by rw [Int.mul_one]⟩
theorem ae3 {x : SS} {i : Nat} {v : Value} {c : CV} (hp : SignAt x.s i v) (hc : (signsC x)[i]? = some c) : RV W.prog W.w F c v := by
 obtain ⟨ch, u, h1, rfl⟩ := hp
 unfold signsC at hc
 rw [List.getElem?_map, Array.getElem?_toList, h1] at hc
 simp only [Option.map_some, Option.some.injEq] at hc
 subst hc
 exact ⟨u, rfl⟩
theorem aiZ {kb : Bool} {h0 : Heap} {target : Expr} {x : SS} {t : Tok} {A' : Around} (hh : A'.handled = none) (I : Inv W F s) (hb : ∀ a, Fre s.heap a -> Fre h0 a) {Q : VP}
 (hQ : SrcPost W kb A' F h0 target (signsC x) s Q) : wpAny (model W.prog W.w) A (pyIter (.str x.s t)) Q E s := by
 have hf : Fre s.heap s.heap.objs.size := Fre.size _ (Nat.le_refl _)
 have hn : x.s.cps.size = (signsC x).length := by unfold signsC; simp
 have fin : ∀ n : String, (n = "str_ascii_iterator" ∨ n = "str_iterator") -> Q (.ref s.heap.objs.size) { s with heap := s.heap.push { cls := .type n, data := .fields #[.str x.s t, .int 0 0] } } := by
  intro n hn'
  have S := Stp.ofKeep (tk := s.toks) I (aal { cls := .type n, data := .fields #[.str x.s t, .int 0 0] })
  have hit : (s.heap.push { cls := .type n, data := .fields #[.str x.s t, .int 0 0] }).get? s.heap.objs.size = some { cls := .type n, data := .fields #[.str x.s t, .int 0 0] } := Heap.get?_push_size _ rfl
  have W1 : ∀ b ∈ [s.heap.objs.size], Fre h0 b ∧ F b = none ∧ ¬ W.T b := by
   intro b hb'
   simp only [List.mem_cons, List.not_mem_nil, or_false] at hb'
   subst hb'
   exact ⟨hb _ hf, I.fresh hf, I.tabOld hf⟩
  rcases hn' with rfl | rfl
  · refine hQ _ _ S ⟨_, _, _, _, _, _, _, rfl, hn, (Walks.strAscii hh s.heap.objs.size x.s t).self, PySem.W.KTurns.ofWalks (Walks.strAscii hh s.heap.objs.size x.s t) fun i v s Q E st q => ?_, ⟨_, hit, rfl, rfl⟩, W1, fun i h st b hb' => (by
     simp only [List.mem_cons, List.not_mem_nil, or_false] at hb'
     subst hb'
     obtain ⟨o, e1, e2, e3⟩ := st
     exact ⟨o, _, e1, e3⟩), fun b hb' => .inl hb', fun i v h c hfz hp hc => ItemR.ofRV' hfz (ae3 hp hc)⟩
    obtain ⟨o, e1, e2, _⟩ := st
    exact acG e1 e2 (by decide) q
  · refine hQ _ _ S ⟨_, _, _, _, _, _, _, rfl, hn, (Walks.strWide hh s.heap.objs.size x.s t).self, PySem.W.KTurns.ofWalks (Walks.strWide hh s.heap.objs.size x.s t) fun i v s Q E st q => ?_, ⟨_, hit, rfl, rfl⟩, W1, fun i h st b hb' => (by
     simp only [List.mem_cons, List.not_mem_nil, or_false] at hb'
     subst hb'
     obtain ⟨o, e1, e2, e3⟩ := st
     exact ⟨o, _, e1, e3⟩), fun b hb' => .inl hb', fun i v h c hfz hp hc => ItemR.ofRV' hfz (ae3 hp hc)⟩
    obtain ⟨o, e1, e2, _⟩ := st
    exact acG e1 e2 (by decide) q
 refine wpAny_pyIter_strU (fin _ ?_)
 unfold strIterType
 split
 · exact .inl rfl
 · exact .inr rfl
theorem ae4 : ∀ {es : List (SS × CV)} {kvs : List (Str × Value)}, RVd W.prog W.w F es kvs -> ∀ {i : Nat} {c : CV} {k : Str} {x v : Value}, (keysC es)[i]? = some c -> kvs[i]? = some (k, x) ->
 (PySem.strKind W.prog W.w).is k v = true -> RV W.prog W.w F c v
 | [], kvs, h, i, c, k, x, v, hc, _, _ => aab hc
 | (y, d) :: es, kvs, h, i, c, k, x, v, hc, hk, hv => by
  obtain ⟨u, r, rfl, h1, h2⟩ := h
  cases i with
  | zero =>
   simp only [afX, List.getElem?_cons_zero, Option.some.injEq] at hc hk
   subst hc
   cases hk
   cases v with
   | str z t =>
    have e : (z == y.s) = true := hv
    exact ⟨t, by rw [beq_iff_eq.mp e]⟩
   | _ => cases hv
  | succ i =>
   simp only [afX, List.getElem?_cons_succ] at hc hk
   exact ae4 h2 hc hk hv
theorem adX : ∀ (es : List (SS × CV)), (keysC es).length = es.length
 | [] => rfl
 | (_, _) :: es => congrArg (· + 1) (adX es)
theorem ahm {kb : Bool} {h0 : Heap} {target : Expr} {es : List (SS × CV)} {v : Value} {A' : Around} (hh : A'.handled = none) (I : Inv W F s) (hb : ∀ a, Fre s.heap a -> Fre h0 a) (hv : CvK W kb F s.heap (.dict es) v) {Q : VP}
 (hQ : SrcPost W kb A' F h0 target (keysC es) s Q) : wpAny (model W.prog W.w) A (pyIter v) Q E s := by
 obtain ⟨a, ob, kvs, rfl, e, ⟨l, hm⟩, q⟩ := abL I hv.at
 have hf : Fre s.heap s.heap.objs.size := Fre.size _ (Nat.le_refl _)
 have hne : a ≠ s.heap.objs.size := (hf.ne e).symm
 have hms : (a == sysModules) = false := by simpa using hm
 obtain ⟨ep, hd⟩ := (DO.dictOf (W := W) e l).dictAt
 refine wpAny_pyIter_dict (knd := PySem.strKind W.prog W.w) hms hd ?_
 have S := Stp.ofKeep (tk := s.toks) I (aal { cls := .type "dict_keyiterator", data := .fields #[.ref a, .int 0 0, .int kvs.length 0, .int ep 0] })
 have hit : (s.heap.push { cls := .type "dict_keyiterator", data := .fields #[.ref a, .int 0 0, .int kvs.length 0, .int ep 0] }).get? s.heap.objs.size = some { cls := .type "dict_keyiterator", data := .fields #[.ref a, .int 0 0, .int kvs.length 0, .int ep 0] } := Heap.get?_push_size _ rfl
 refine hQ _ _ S ⟨_, _, _, _, _, _, _, rfl, ?_, (Walks.dictKeys (knd := PySem.strKind W.prog W.w) hh s.heap.objs.size a hne kvs ep).self, PySem.W.KTurns.ofWalks (Walks.dictKeys (knd := PySem.strKind W.prog W.w) hh s.heap.objs.size a hne kvs ep) fun i v s Q E st q => letGo_keyiter st.1 q, ⟨⟨_, hit, rfl, rfl⟩, hd.keep (aal _)⟩, ?_, fun i h st b hb' => ?_, ?_, ?_⟩
 · rw [adX, q.len]
 · intro b hb'
   simp only [List.mem_cons, List.not_mem_nil, or_false] at hb'
   subst hb'
   exact ⟨hb _ hf, I.fresh hf, I.tabOld hf⟩
 · simp only [List.mem_cons, List.not_mem_nil, or_false] at hb'
   subst hb'
   obtain ⟨⟨o, e1, e2, e3⟩, _⟩ := st
   exact ⟨o, _, e1, e3⟩
 · intro b hb'
   simp only [List.mem_cons, List.not_mem_nil, or_false] at hb'
   rcases hb' with rfl | rfl
   · exact .inl (.head _)
   · rcases hv.keepable I (.inr ⟨es, rfl⟩) with h | ⟨h1, h2, o, h3⟩
     · exact .inr (.inl h)
     · exact .inr (.inr ⟨h1, h2, o, aal _ _ _ h3⟩)
 · intro i v h c hfz hp hc
   obtain ⟨k, x, h1, h2⟩ := hp
   exact ItemR.ofRV' hfz (ae4 q hc h1 h2)
theorem ae5 : ∀ {cs : List CV} {j i : Nat} {c : CV}, (enumC j cs)[i]? = some c -> ∃ d, cs[i]? = some d ∧ c = .tup [.int ((j + i : Nat) : Int), d]
 | [], j, i, c, h => aab h
 | d :: cs, j, 0, c, h => by
  simp only [aeo, List.getElem?_cons_zero, Option.some.injEq] at h
  exact ⟨d, rfl, h.symm⟩
 | d :: cs, j, i + 1, c, h => by
  simp only [aeo, List.getElem?_cons_succ] at h
  obtain ⟨e, h1, h2⟩ := ae5 h
  exact ⟨e, by simpa using h1, by rw [h2]; congr 3; lia⟩
theorem adY : ∀ (cs : List CV) (j : Nat), (enumC j cs).length = cs.length
 | [], _ => rfl
 | _ :: es, j => by simp only [aeo, List.length_cons, adY es]
end
section
variable {W : Wd} {F F' : FH} {s s' : Shared} {env : Env} {ρ : CE} {ad : Str -> Option Addr} {M : Addr -> Prop} {A : Around} {E : VP} {G : GE} {k : Nat} {S : SM}
set_option tactic.hygienic false
theorem aiu (H : EvOK W k S.ev) {kb : Bool} {e : Expr} {ρ' : CE} {c : CV} (h : S.evk kb e ρ = some (c, ρ')) (Rm : Room A k) (I : Inv W F s) (R : Rel W F s.heap env ρ ad) {Q : VP}
 (hQ : ∀ v F' s' ad', Stp W (ownA ad) F F' s s' -> Rel W F' s'.heap env ρ' ad' -> (∀ x a, ad' x = some a -> ad x = some a) -> CvK W kb F' s'.heap c v -> Q v s') :
 wpAny (model W.prog W.w) A (eval e env) Q E s := by
 unfold SM.evk at h
 cases kb with
 | true => exact aeW H h Rm I R hQ
 | false => exact af4 H h Rm I R hQ
theorem abM {e : Expr} (h : ∀ es kd p, e ≠ .Set es kd p) (x : Value) : foldedSetIterable e env x = pure x := by
 cases e <;> first | rfl | exact absurd rfl (h _ _ _)
set_option tactic.hygienic true
theorem ads (H : EvOK W k S.ev) (hst : ∀ x p ρ, S.ev (.Starred x p) ρ = none) (hset : ∀ x kd p ρ, S.ev (.Set x kd p) ρ = none) (hG : GOK W k G) {kb : Bool} {t e : Expr} {ρ' : CE} {cs : List CV} (h : S.items G kb t e ρ = some (cs, ρ')) (Rm : Room A k)
 (I : Inv W F s) (R : Rel W F s.heap env ρ ad) (A' : Around) (hA' : A'.handled = none) {Q : VP}
 (hQ : ∀ it F' s' ad', Stp W (ownA ad) F F' s s' -> Rel W F' s'.heap env ρ' ad' -> (∀ x a, ad' x = some a -> ad x = some a) -> SrcAt W kb A' F' s.heap t it cs s' -> Q it s') :
 (∀ x, foldedSetIterable e env x = pure x) ∧ wpAny (model W.prog W.w) A (eval e env) (fun x s1z => wpAny (model W.prog W.w) A (pyIter x) Q E s1z) E s := by
 have hns : ∀ {q}, S.evk kb e ρ = some q -> ∀ es kd p, e ≠ .Set es kd p := fun h es kd p q => by
  unfold SM.evk at h
  subst q
  cases kb with
  | true => dsimp only at h; unfold SM.evf at h; rw [hset] at h; cases h
  | false => dsimp only at h; unfold SM.evd at h; rw [hset] at h; cases h
 unfold SM.items at h
 rcases aeV G (ρ := ρ) (e := e) rfl with hz | ⟨f, p, args, pos, rfl, hb, ⟨hf, hz⟩ | ⟨hf, x, rfl, hz⟩⟩ <;> rw [hz] at h <;> dsimp only at h
 · refine hid fun z2 => ?_
   cases h1 : S.evk kb e ρ with
   | none => rw [h1] at h; cases h
   | some p =>
    obtain ⟨c, ρ1⟩ := p
    rw [h1] at h
    dsimp only at h
    refine z2 ?_
    refine ⟨abM (hns h1), aiu H h1 Rm I R fun v F1 s1z ad1 S1 R1 sub1 hv => ?_⟩
    refine hid fun z3 => ?_
    cases h2 : itemsC c with
    | none => rw [h2] at h; cases h
    | some cs' =>
     rw [h2] at h
     dsimp only at h
     split at h
     · rename_i hle
       cases h
       have fin : SrcPost W kb A' F1 s.heap t cs s1z Q := fun it s2z S2 hs => hQ it F1 s2z ad1 (S1.trans S2 fun _ q => q.elim) (R1.keep0 S1.inv S2) sub1 hs
       unfold itemsC at h2
       cases c with
       | list xs => cases h2; refine z3 ?_; exact ahl hA' S1.inv (fun a q => S1.back q) hv fin
       | str x =>
        cases h2
        obtain ⟨t', rfl⟩ := aaz hv.at
        refine z3 ?_
        exact aiZ hA' S1.inv (fun a q => S1.back q) fin
       | dict es => cases h2; refine z3 ?_; exact ahm hA' S1.inv (fun a q => S1.back q) hv fin
       | _ => exact aab h2
     · cases h
 · refine hid fun z4 => ?_
   cases h1 : S.range args ρ with
   | none => rw [h1] at h; cases h
   | some q =>
    obtain ⟨a, b, ρ1⟩ := q
    rw [h1] at h
    cases h
    refine z4 ?_
    refine ⟨abM (by intros; intro q; cases q), ae0 H hst hG hb hf h1 Rm I R fun r t' u v F1 s1z ad1 S1 R1 sub1 hr _ ha hbs => ?_⟩
    exact aga hA' S1.inv (fun a q => S1.back q) hr ha hbs fun it s2z S2 hs => hQ it F1 s2z ad1 (S1.trans S2 fun _ q => q.elim) (R1.keep0 S1.inv S2) sub1 hs
 · obtain rfl := beq_iff_eq.mp hf
   refine hid fun z6 => ?_
   split at h
   · cases h
   · rename_i ht
     cases h1 : S.evk kb x ρ with
     | none => rw [h1] at h; cases h
     | some q =>
      obtain ⟨c, ρ1⟩ := q
      rw [h1] at h
      cases c with
      | list ds =>
       dsimp only at h
       split at h
       · cases h
         have hne : ∀ y p, x ≠ .Starred y p := fun y p q => by
          subst q
          unfold SM.evk at h1
          cases kb with
          | true => dsimp only at h1; unfold SM.evf at h1; rw [hst] at h1; cases h1
          | false => dsimp only at h1; unfold SM.evd at h1; rw [hst] at h1; cases h1
         have hp : (backTo pos (starEach [x] env)).all (fun x => !x.1) = true := by rw [aat hne]; rfl
         refine z6 ?_
         refine ⟨abM (by intros; intro q; cases q), aaX hG (id := .type "enumerate") rfl hb (by decide) (by decide) I R hp ?_⟩
         rw [aat hne]
         refine aax (aiu H h1 Rm I R fun v F1 s1z ad1 S1 R1 sub1 hv => aao ?_)
         obtain ⟨a, ob, vs, rfl, ea, l, q⟩ := aaK S1.inv hv.at
         have hl := l.isList ea
         have hf : ∀ n, Fre s1z.heap (s1z.heap.objs.size + n) := fun n => Fre.size _ (Nat.le_add_right _ _)
         have hne0 : a ≠ s1z.heap.objs.size := ((hf 0).ne ea).symm
         have hne1 : a ≠ s1z.heap.objs.size + 1 := ((hf 1).ne ea).symm
         refine call_enumerate_list hl fun h' hen hli hsz hk => ?_
         have Wk := (WalksT.enumerate (prog := W.prog) (w := W.w) (A := A) Rm.hh (s1z.heap.objs.size + 1) s1z.heap.objs.size a (Nat.succ_ne_self _) hne1 hne0 vs.toArray)
         have Wk' := (WalksT.enumerate (prog := W.prog) (w := W.w) (A := A') hA' (s1z.heap.objs.size + 1) s1z.heap.objs.size a (Nat.succ_ne_self _) hne1 hne0 vs.toArray).toU
         have hl' : h'.IsList a vs.toArray := by obtain ⟨o, e, r⟩ := hl; exact ⟨o, hk _ _ e, r⟩
         have st0 : (∃ old, IsEnum h' (s1z.heap.objs.size + 1) s1z.heap.objs.size ((0 : Nat) : Int) old) ∧ h'.IsListIter s1z.heap.objs.size a 0 ∧ h'.IsList a vs.toArray := ⟨⟨_, hen⟩, hli, hl'⟩
         refine Wk.self 0 _ _ _ st0 ?_
         have S2 := Stp.ofKeep (tk := s1z.toks) S1.inv hk
         refine hid fun z8 => ?_
         cases t with
         | Tuple ts kd tp =>
          refine z8 ?_
          refine hQ _ F1 _ ad1 (S1.trans S2 fun _ q => q.elim) (R1.keep0 S1.inv S2) sub1 ⟨_, _, _, _, _, _, _, rfl, ?_, Wk'.self, PySem.W.KTurns.ofWalksU Wk', st0, ?_, fun i h st b hb' => ?_, ?_, ?_⟩
          · rw [adY, List.size_toArray, q.len]
          · intro b hb'
            simp only [List.mem_cons, List.not_mem_nil, or_false] at hb'
            rcases hb' with rfl | rfl
            · exact ⟨S1.back (hf 1), S1.inv.fresh (hf 1), S1.inv.tabOld (hf 1)⟩
            · exact ⟨S1.back (hf 0), S1.inv.fresh (hf 0), S1.inv.tabOld (hf 0)⟩
          · refine hid fun z10 => ?_
            obtain ⟨⟨old, s1⟩, ⟨o2, s2, s3, s4⟩, _⟩ := st
            simp only [List.mem_cons, List.not_mem_nil, or_false] at hb'
            rcases hb' with rfl | rfl
            · refine z10 ?_
              exact ⟨_, _, s1, rfl⟩
            · refine z10 ?_
              exact ⟨o2, _, s2, s4⟩
          · intro b hb'
            simp only [List.mem_cons, List.not_mem_nil, or_false] at hb'
            refine hid fun z11 => ?_
            rcases hb' with rfl | rfl | rfl
            · refine z11 ?_
              exact .inl (.head _)
            · refine z11 ?_
              exact .inl (.tail _ (.head _))
            · rcases hv.keepable S1.inv (.inl ⟨ds, rfl⟩) with h | ⟨h1, h2, o, h3⟩
              · refine z11 ?_
                exact .inr (.inl h)
              · refine z11 ?_
                exact .inr (.inr ⟨h1, h2, o, hk _ _ h3⟩)
          · intro i v h c hfz hp hc
            refine hid fun z12 => ?_
            obtain ⟨T, vals, rfl, ⟨t', x', hx', rfl⟩, hT⟩ := hp
            obtain ⟨d, hd, rfl⟩ := ae5 hc
            refine z12 ?_
            refine ⟨T, _, rfl, hT, ?_⟩
            refine ⟨_, _, rfl, ⟨t', by simp⟩, _, _, rfl, q.at hd (by simpa using hx'), rfl⟩
         | _ => cases ht
       · cases h
      | _ => cases h
end
section
variable {W : Wd} {F F' : FH} {s s' : Shared} {env : Env} {ρ : CE} {ad : Str -> Option Addr} {M : Addr -> Prop} {A : Around} {E : VP} {G : GE} {k : Nat} {S : SM}
set_option tactic.hygienic false
theorem OR.data {h : Heap} {o : CO} {a : Addr} (r : OR W.prog W.w F h o a) : ∃ ob, h.get? a = some ob ∧ ∀ vs, ob.data ≠ .fields vs := by
 refine hid fun z0 => ?_
 cases o with
 | list xs => obtain ⟨ob, vs, e, ⟨n, l⟩, _⟩ := r; refine z0 ?_; exact ⟨ob, e, fun vs q => by rw [l] at q; cases q⟩
 | dict es => obtain ⟨ob, vs, e, ⟨⟨_, es', ep, l, _⟩, _⟩, _⟩ := r; refine z0 ?_; exact ⟨ob, e, fun vs q => by rw [l] at q; cases q⟩
theorem Rel.raw (R : Rel W F s.heap env ρ ad) {h' : Heap} {wr : Addr -> Prop} (hk : ∀ a o, ¬ wr a -> s.heap.get? a = some o -> h'.get? a = some o)
 (hw : ∀ a, wr a -> ∃ o vs, s.heap.get? a = some o ∧ o.data = .fields vs) (hf : ∀ f, env.frame = some f -> ¬ wr f) : Rel W F h' env ρ ad := by
 have key : ∀ {a : Addr} {o : Obj}, s.heap.get? a = some o -> (∀ vs, o.data ≠ .fields vs) -> h'.get? a = some o := fun {a o} e hd => hk a o (fun q => by
  obtain ⟨o', vs, e', d⟩ := hw a q
  rw [e] at e'; cases e'; exact hd vs d) e
 have kns : ∀ {a m}, s.heap.Ns a m -> h'.Ns a m := fun ⟨o, es, ep, e, d, r⟩ => ⟨o, es, ep, key e (fun vs q => by rw [d] at q; cases q), d, r⟩
 have kcl : ∀ {a v}, s.heap.IsCell a v -> h'.IsCell a v := fun ⟨o, e, d⟩ => ⟨o, key e (fun vs q => by rw [d] at q; cases q), d⟩
 have kor : ∀ {o a}, OR W.prog W.w F s.heap o a -> OR W.prog W.w F h' o a := fun {o a} r => r.mono _ _ (fun _ _ e => e) fun ob e => by
  obtain ⟨ob', e', hd⟩ := r.data
  rw [e] at e'; cases e'; exact key e hd
 refine ⟨R.kind, let ⟨m, n⟩ := R.ns; ⟨m, kns n⟩, R.nsF, R.nsT, fun x sl h => ?_, fun x h1 h2 => ?_, fun x a e => ?_, R.inj, fun x a e => let ⟨v, c⟩ := R.cl x a e; ⟨v, kcl c⟩, fun f e => let ⟨o, q⟩ := R.frm f e; ⟨o, hk f o (hf f e) q⟩⟩
 · obtain ⟨v, hv, hs⟩ := R.var x sl h
   refine ⟨v, ?_, ?_⟩
   · rcases hv with ⟨q, m, n, e⟩ | ⟨q, ca, c, y⟩
     · exact .inl ⟨q, m, kns n, e⟩
     · exact .inr ⟨q, ca, c, kcl y⟩
   · cases sl with
     | val c => exact hs
     | own o => obtain ⟨a, e1, e2, e3⟩ := hs; exact ⟨a, e1, e2, kor e3⟩
     | bor o => obtain ⟨a, e1, e2, e3, e4⟩ := hs; exact ⟨a, e1, e2, kor e3, e4⟩
     | view o => obtain ⟨a, e1, e2, e3⟩ := hs; exact ⟨a, e1, e2, kor e3⟩
     | fix c => exact hs
 · obtain ⟨ca, v0, e1, e2, e3, e4⟩ := R.cells x h1 h2
   exact ⟨ca, v0, e1, kcl e2, e3, e4⟩
 · obtain ⟨q1, q2, q3, q4, q5, q6⟩ := R.own x a e
   refine ⟨q1, q2, q3, q4, q5, ?_⟩
   obtain ⟨o, ho⟩ := Option.isSome_iff_exists.mp q1
   refine hid fun z8 => ?_
   obtain ⟨a', e', _, r⟩ := abH R ho
   rw [e] at e'; cases e'
   obtain ⟨ob, e3, _⟩ := (kor r).data
   refine z8 ?_
   exact ⟨ob, e3⟩
def XsPost (W : Wd) (env : Env) (ad : Str -> Option Addr) (F : FH) (s : Shared) (r : FC) (ρ' : CE) (Q : Flow -> Shared -> Prop) : Prop :=
 ∀ f F' s' ad', Stp W (frmA env ad) F F' s s' -> Rel W F' s'.heap env ρ' ad' -> (∀ x a, ad' x = some a -> ad x = some a ∨ Fre s.heap a) -> FlR W F' r f -> Q f s'
theorem XsPost.step {r : FC} {ρ' : CE} {F1 : FH} {s1 : Shared} {ad1 : Str -> Option Addr} {Q : Flow -> Shared -> Prop} (h : XsPost W env ad F s r ρ' Q) (S : Stp W (frmA env ad) F F1 s s1) (sub : ∀ x a, ad1 x = some a -> ad x = some a ∨ Fre s.heap a) :
 XsPost W env ad1 F1 s1 r ρ' Q :=
 fun f F' s' ad' S' R' sub' r' => h f F' s' ad' (S.trans S' (aaE sub)) R' (fun x a q => (sub' x a q).elim (sub x a) fun z => .inr (S.back z)) r'
theorem aap (h : Stp W (ownA ad) F F' s s') : Stp W (frmA env ad) F F' s s' := h.weaken fun _ q => .inl (.inl q)
set_option tactic.hygienic true
theorem ac7 (H : XsOK W k S.xs) : ∀ (b : List Stmt) (ρ : CE) (r : FC) (ρ' : CE), S.xss b ρ = some (r, ρ') ->
 ∀ (A : Around) (env : Env) (F : FH) (s : Shared) (ad : Str -> Option Addr), Room A k -> Inv W F s -> Rel W F s.heap env ρ ad -> ∀ (Q : Flow -> Shared -> Prop) (E : VP), XsPost W env ad F s r ρ' Q ->
  wpAny (model W.prog W.w) A (execs b env) Q E s
 | [], ρ, r, ρ', h, A, env, F, s, ad, Rm, I, R, Q, E, hQ => by
  cases h
  exact wpAny_execs_nil (hQ .next F s ad (.refl I) R (fun _ _ e => .inl e) rfl)
 | st :: b, ρ, r, ρ', h, A, env, F, s, ad, Rm, I, R, Q, E, hQ => by
  refine D.el (.opt2 (S.xs st ρ) fun f ρ => .raw (match (f, ρ) with | (.next, ρ) => S.xss b ρ | (f, ρ) => some (f, ρ))) h (C := fun r ρ' => XsPost W env ad F s r ρ' Q) hQ fun f ρ1 h1 r h hQ => ?_
  refine wpAny_execs_cons (H st ρ f ρ1 h1 A env F s ad Rm I R _ _ fun fl F1 s1 ad1 S1 R1 sub1 r1 => ?_)
  cases f with
  | next =>
   obtain rfl : fl = .next := r1
   exact ac7 H b ρ1 r.1 r.2 h A env F1 s1 ad1 Rm S1.inv R1 Q E (hQ.step S1 sub1)
  | brk =>
   obtain rfl : fl = .brk := r1
   cases h; exact hQ _ F1 s1 ad1 S1 R1 sub1 rfl
  | cont =>
   obtain rfl : fl = .cont := r1
   cases h; exact hQ _ F1 s1 ad1 S1 R1 sub1 rfl
  | ret c =>
   obtain ⟨v, rfl, rv⟩ := r1
   cases h; exact hQ _ F1 s1 ad1 S1 R1 sub1 ⟨v, rfl, rv⟩
set_option tactic.hygienic false
theorem acY {α : Type} {q : Str -> Bool} {l : List (Str × α)} {x : Str} : (l.filter fun p => q p.1).lookup x = if q x then l.lookup x else none := by
 induction l with
 | nil => cases q x <;> rfl
 | cons p r ih =>
  obtain ⟨n, v⟩ := p
  cases hq : q n with
  | true =>
   rw [List.filter_cons_of_pos (by exact hq), List.lookup_cons, List.lookup_cons, ih]
   cases hx : x == n with
   | true => rw [beq_iff_eq.mp hx, hq]; rfl
   | false => rfl
  | false =>
   rw [List.filter_cons_of_neg (by simp [hq]), List.lookup_cons, ih]
   cases hx : x == n with
   | true => rw [beq_iff_eq.mp hx, hq]; rfl
   | false => rfl
theorem adt {ds : Str -> Bool} {ρ : CE} {x : Str} : (ρ.drop ds).get x = ρ.get x ∨ ((ρ.drop ds).get x = none ∧ isVal (ρ.get x) = true) := by
 have e : (ρ.drop ds).get x = if (!(ds x && isVal (ρ.get x))) then ρ.get x else none := acY (q := fun x => !(ds x && isVal (ρ.get x)))
 rw [e]
 cases h1 : ds x with
 | false => exact .inl rfl
 | true => cases h2 : isVal (ρ.get x) with
  | false => exact .inl rfl
  | true => exact .inr ⟨rfl, rfl⟩
theorem Rel.drop {h : Heap} (R : Rel W F h env ρ ad) (ds : Str -> Bool) : Rel W F h env (ρ.drop ds) ad where
 kind := ⟨R.kind.fn, R.kind.glo, R.kind.blt, R.kind.loc, R.kind.cell, R.kind.free, R.kind.glob, R.kind.apart, R.kind.cellF, R.kind.lam⟩
 ns := R.ns
 nsF := R.nsF
 nsT := R.nsT
 var := fun x sl e => by
  rcases adt (ds := ds) (ρ := ρ) (x := x) with q | ⟨q, _⟩
  · exact R.var x sl (q ▸ e)
  · rw [q] at e; cases e
 cells := fun x hk hf => R.cells x hk (by
  rcases adt (ds := ds) (ρ := ρ) (x := x) with q | ⟨_, q⟩
  · rw [<- q]; exact hf
  · cases e : ρ.get x with
    | none => rfl
    | some sl => rw [e] at q; cases sl <;> first | rfl | cases q)
 own := fun x a e => by
  obtain ⟨q1, q2, q3, q4, q5, q6⟩ := R.own x a e
  refine ⟨?_, q2, q3, q4, q5, q6⟩
  rcases adt (ds := ds) (ρ := ρ) (x := x) with q | ⟨_, q⟩
  · rw [q]; exact q1
  · cases e' : ρ.get x with
    | none => rw [e'] at q; cases q
    | some sl => rw [e'] at q q1; cases sl <;> first | exact Bool.noConfusion q | exact Bool.noConfusion q1
 inj := R.inj
 cl := R.cl
 frm := R.frm
inductive ForJ (W : Wd) (env : Env) (ad : Str -> Option Addr) (F F1 : FH) (s : Shared) (lp : List CV -> CE -> Option (FC × CE)) (z : Option (FC × CE)) (cs : List CV) (n : Nat) (St : Nat -> Heap -> Prop) (wr : List Addr) (m : Nat) (s' : Shared) : Prop
 | mk (i : Nat) (ρi : CE) (Fi : FH) (adi : Str -> Option Addr) (h1 : m = n - i) (h2 : i ≤ n) (h3 : lp (cs.drop i) ρi = z) (h4 : St i s'.heap)
  (h5 : Stp W (frmA env ad) F Fi s s') (h6 : ∀ a o, F1 a = some o -> Fi a = some o) (h7 : Rel W Fi s'.heap env ρi adi) (h8 : ∀ x a, adi x = some a -> ad x = some a ∨ Fre s.heap a) (h9 : ∀ b ∈ wr, Fi b = none)
def fS (S : SM) (t : Expr) (b : List Stmt) (c : CV) (ρ : CE) : Option (FC × CE) := match bindT t c ρ with | some ρ => S.xss b ρ | none => none
theorem Rel.notFields {ad ad' : Str -> Option Addr} {s : Shared} (R : Rel W F s.heap env ρ ad) (sub : ∀ x a, ad' x = some a -> ad x = some a) {a : Addr} (hd : ∃ o vs, s.heap.get? a = some o ∧ o.data = .fields vs) : ¬ frmA env ad' a := fun q => by
 obtain ⟨o, vs, e, d⟩ := hd
 rcases q with ⟨x, q⟩ | q | ⟨_, x, _, q⟩
 · obtain ⟨q1, _⟩ := R.own x a (sub x a q)
   obtain ⟨o', ho⟩ := Option.isSome_iff_exists.mp q1
   obtain ⟨a', e', _, r'⟩ := abH R ho
   rw [sub x a q] at e'; cases e'
   obtain ⟨ob, e3, hnd⟩ := r'.data
   rw [e] at e3; cases e3
   exact hnd vs d
 · obtain ⟨m, o', es, ep, e', d', _⟩ := R.ns
   rw [q, e'] at e; cases e; rw [d'] at d; cases d
 · obtain ⟨u, o', e', d'⟩ := R.cl x a q
   rw [e] at e'; cases e'; rw [d'] at d; cases d
set_option tactic.hygienic true
theorem akA (H : SmOK W k S) (hst : ∀ x p ρ, S.ev (.Starred x p) ρ = none) (hset : ∀ x kd p ρ, S.ev (.Set x kd p) ρ = none) (hG : GOK W k G) {t e : Expr} {b : List Stmt} {pos : Pos} {cs : List CV} {r : FC} {ρ1 ρ' : CE}
 (h1 : S.items G true t e ρ = some (cs, ρ1))
 (h2 : loopL (fun c ρ => match bindT t c ρ with | some ρ => S.xss b ρ | none => none) cs ρ1 = some (r, ρ')) (Rm : Room A k)
 (I : Inv W F s) (R : Rel W F s.heap env ρ ad) {Q : Flow -> Shared -> Prop} (hQ : XsPost W env ad F s r ρ' Q) : wpAny (model W.prog W.w) A (exec (.For t e b [] pos) env) Q E s := by
 refine (fun z => wpAny_For (And.right z) (And.left z)) (ads H.ev hst hset hG h1 Rm I R A Rm.hh (Q := fun it s2 => codeAny (model W.prog W.w) A (.forLoop t it b [] env) (fun r s' => match r with | .ok f => Q f s' | .error e => cameBackBy (model W.prog W.w) A env E e s') s2)
  fun it F1 s1 ad1 S1 R1 sub1 hsrc => ?_)
 obtain ⟨I0, fp, wr, n, P, Md, St, rfl, hn, _, K, hst0, hwr, hshape, hfp, hitem⟩ := hsrc
 let J : Nat -> Shared -> Prop := ForJ W env ad F F1 s (loopL (fS S t b)) (some (r, ρ')) cs n St wr
 refine codeAny_forLoop_any J ?_ n ⟨0, ρ1, F1, ad1, rfl, Nat.zero_le _, by rw [List.drop_zero]; exact h2, hst0, aap S1, fun _ _ e => e, R1, fun x a q => .inl (sub1 x a q), fun b hb => (hwr b hb).2.1⟩
 rintro m s' ⟨i, ρi, Fi, adi, rfl, hi, hl, hSt, Si, hFi, Ri, subi, hFw⟩
 have hws : ∀ a, a ∈ wr -> ∃ o vs, s'.heap.get? a = some o ∧ o.data = .fields vs := fun a ha => hshape i _ hSt a ha
 have hfr : ∀ f, env.frame = some f -> ¬ f ∈ wr := fun f e q => let ⟨_, z⟩ := R.frm f e; (hwr f q).1.ne z rfl
 have hwx : ∀ a, a ∈ wr -> Fre s.heap a ∧ Fi a = none ∧ ¬ W.T a := fun a ha => ⟨(hwr a ha).1, hFw a ha, (hwr a ha).2.2⟩
 by_cases hlt : i < n
 · have hlt' : i < cs.length := hn ▸ hlt
   have hd : cs.drop i = cs[i] :: cs.drop (i + 1) := List.drop_eq_getElem_cons hlt'
   rw [hd] at hl
   refine K.item i _ _ _ hlt hSt fun v h1z tk1 hMd hk1 => ?_
   refine K.go i v _ _ _ hMd fun h2z hP hSt2 hk2 => ?_
   have hk : ∀ a o, a ∉ wr -> s'.heap.get? a = some o -> h2z.get? a = some o := fun a o ha e => hk2 a o ha (hk1 a o ha e)
   have S2 : Stp W (frmA env ad) F Fi s { s' with heap := h2z, toks := tk1 } := Si.past (wr := (· ∈ wr)) hwx hk
   have R2 : Rel W Fi h2z env ρi adi := Ri.raw (wr := (· ∈ wr)) hk hws hfr
   have hci : cs[i]? = some cs[i] := List.getElem?_eq_getElem hlt'
   have hit : ItemR W Fi h2z cs[i] v := (hitem i v h2z cs[i] (fun a o e => S2.inv.frz a o (hFi a o e)) hP hci).mono hFi
   refine hid fun z5 => ?_
   refine Mine.D.el (.opt2 (fS S t b cs[i] ρi) fun f ρ => .raw (match f with
    | .next => loopL (fS S t b) (cs.drop (i + 1)) ρ
    | .cont => loopL (fS S t b) (cs.drop (i + 1)) ρ
    | .brk => some (.next, ρ)
    | .ret v => some (.ret v, ρ))) hl (C := fun a b => ∀ q, q = some (a, b) -> q = some (r, ρ')) (fun _ h => h) fun f ρ3 hx z hz hl => ?_
   replace hl := hl _ hz
   refine Mine.D.el (.opt (bindT t cs[i] ρi) fun ρ => .raw (S.xss b ρ)) hx (C := fun a b => ∀ q, q = some (a, b) -> q = some (f, ρ3)) (fun _ h => h) fun ρ2 hb z hz hx => ?_
   replace hx := hx _ hz
   refine z5 (ae2 (s := { s' with heap := h2z, toks := tk1 }) hb Rm.hh S2.inv R2 hit fun s3 ad3 S3 R3 sub3 => ?_)
   have sub3' : ∀ x a, ad3 x = some a -> ad x = some a ∨ Fre s.heap a := fun x a q => subi x a (sub3 x a q)
   have S23 : Stp W (frmA env ad) F Fi s s3 := S2.trans S3 (aaE subi)
   have out : ∀ a, a ∈ wr -> ¬ frmA env ad3 a := fun a ha => R2.notFields (s := { s' with heap := h2z, toks := tk1 }) sub3 (hshape (i + 1) _ hSt2 a ha)
   have out' : ∀ a, a ∈ fp -> ∀ (F4 : FH) (s4 : Shared), Stp W (frmA env ad3) Fi F4 s3 s4 -> ∀ o, h2z.get? a = some o -> s4.heap.get? a = some o := fun a ha F4 s4 S4 o e => by
    refine hid fun z7 => ?_
    rcases hfp a ha with hw | ⟨_, o', hf⟩ | ⟨q, _⟩
    · have nT := (hwr a hw).2.2
      have n2 : ¬ frmA env adi a := Ri.notFields (fun _ _ e => e) (hws a hw)
      refine z7 ?_
      exact S4.keep a o (S3.keep a o e n2 nT) (out a hw) nT
    · have h3 : h2z.get? a = some o' := S2.inv.frz a o' (hFi a o' hf)
      rw [e] at h3; cases h3
      refine z7 ?_
      exact S4.inv.frz a o (S4.sub a o (hFi a o hf))
    · cases q
   have go : ∀ (F4 : FH) (s4 : Shared) (ad4 : Str -> Option Addr), Stp W (frmA env ad3) Fi F4 s3 s4 -> Rel W F4 s4.heap env ρ3 ad4 -> (∀ x a, ad4 x = some a -> ad3 x = some a ∨ Fre s3.heap a) ->
    loopL (fS S t b) (cs.drop (i + 1)) ρ3 = some (r, ρ') -> ∃ m, m < n - i ∧ J m s4 := fun F4 s4 ad4 S4 R4 sub4 hl' => by
    refine ⟨n - (i + 1), Nat.sub_lt_sub_left hlt (Nat.lt_succ_self i), i + 1, ρ3, F4, ad4, rfl, hlt, hl', K.frame _ _ _ hSt2 fun a ha o e => out' a ha F4 s4 S4 o e, S23.trans S4 (aaE sub3'), fun a o e => S4.sub a o (hFi a o e), R4, fun x a q => ?_, fun a ha => ?_⟩
    · rcases sub4 x a q with q | q
      · exact sub3' x a q
      · exact .inr (S23.back q)
    · cases e : F4 a with
      | none => rfl
      | some o =>
       rcases S4.new a o e with q | q | q
       · rw [hFw a ha] at q; cases q
       · exact absurd q (out a ha)
       · obtain ⟨o', vs, e', _⟩ := hshape (i + 1) _ hSt2 a ha
         obtain ⟨o'', e''⟩ := S3.there (s := { s' with heap := h2z, toks := tk1 }) e'
         exact absurd rfl (q.ne e'')
   refine ac7 H.xs b ρ2 f ρ3 hx A env Fi s3 ad3 Rm S3.inv R3 _ _ fun fl F4 s4 ad4 S4 R4 sub4 r4 => ?_
   have sub4' : ∀ x a, ad4 x = some a -> ad x = some a ∨ Fre s.heap a := fun x a q => (sub4 x a q).elim (sub3' x a) fun z => .inr (S23.back z)
   refine hid fun z8 => ?_
   cases f with
   | next =>
    obtain rfl : fl = .next := r4
    refine z8 ?_
    exact go F4 s4 ad4 S4 R4 sub4 hl
   | cont =>
    obtain rfl : fl = .cont := r4
    refine z8 ?_
    exact go F4 s4 ad4 S4 R4 sub4 hl
   | brk =>
    obtain rfl : fl = .brk := r4
    cases hl
    refine z8 ?_
    exact hQ _ F4 s4 ad4 (S23.trans S4 (aaE sub3')) R4 sub4' rfl
   | ret c =>
    obtain ⟨v', rfl, rv⟩ := r4
    cases hl
    refine z8 ?_
    exact hQ _ F4 s4 ad4 (S23.trans S4 (aaE sub3')) R4 sub4' ⟨v', rfl, rv⟩
 · have hin : i = n := Nat.le_antisymm hi (Nat.not_lt.mp hlt)
   have hd : cs.drop i = [] := by rw [hin, hn]; exact List.drop_length
   rw [hd] at hl
   refine hid fun z9 => ?_
   cases hl
   refine z9 ?_
   refine K.done _ _ _ (hin ▸ hSt) fun h1z tk1 hk1 => wpAny_execs_nil ?_
   exact hQ .next Fi _ adi (Si.past (wr := (· ∈ wr)) hwx fun a o ha e => hk1 a o ha e) (Ri.raw (wr := (· ∈ wr)) (fun a o ha e => hk1 a o ha e) hws hfr) subi rfl
end
section
variable {prog : Program} {w : World} {s : Shared} {env : Env} {A : Around} {E : VP} {R : Result -> Shared -> Prop}
noncomputable def testsS (ifs : List Expr) (env : Env) : Sem Bool :=
 forIn ifs true fun c r => if r = true then do let ok <- isTrue c env (eval c env); pure (ForInStep.yield ok) else pure (ForInStep.yield r)
set_option tactic.hygienic false
theorem abT {elt : Expr} {gens : List Comprehension} {scope : Scope} {pos : Pos} {d : Nat} {it acc : Value} {g : Comprehension} (hg : gens[d]? = some g) (ha : g.is_async = 0)
 (h0 : codeAny (model prog w) A (.compLoop (.ListComp elt gens scope pos) d it acc env) R s)
 (h : wpAny (model prog w) A (pyIter it) (fun it' s' => codeAny (model prog w) A (.compLoop (.ListComp elt gens scope pos) d it' acc env) R s') (notedBy (model prog w) A env fun x s' => R (.error x) s') s) :
 codeAny (model prog w) A (.compStart (.ListComp elt gens scope pos) d it acc env) R s := by
 have hc : (clausesOf (.ListComp elt gens scope pos))[d]? = some g := hg
 refine codeAny_of_tree ?_
 show wpAny _ _ ((compStart (.ListComp elt gens scope pos) d it acc env).onRaise (fun x => do noteFrame x env; standAt theWindowsPlace)) _ _ s
 refine wpAny_notedAt ?_
 unfold compStart
 rw [hc]
 simp only [Option.elim, ha]
 show wpAny _ _ (ask >>= _) _ _ s
 refine wpAny_bind (wpAny_askSetting (wpAny_ite ?_))
 split
 · first
    | exact wpAny_bind (wpAny_pure (wpAny_pure (And.intro rfl h0)))
    | exact wpAny_pure (And.intro rfl h0)
 · first
    | exact wpAny_bind (wpAny_rule (wpAny_bind (wpAny_standAt (wpAny_bind (wpAny_mono h (fun it' s' h' => wpAny_pure (And.intro rfl h')) fun _ _ x => x)))))
    | (refine wpAny_bind (wpAny_rule ?_); show wpAny _ _ (standAt g.iter.pos >>= _) _ _ s; exact wpAny_bind (wpAny_standAt (wpAny_bind (wpAny_mono h (fun it' s' h' => wpAny_pure (And.intro rfl h')) fun _ _ x => x))))
set_option tactic.hygienic true
theorem adZ {elt : Expr} {gens : List Comprehension} {scope : Scope} {pos : Pos} {d : Nat} {it acc : Value} {g : Comprehension} (hg : gens[d]? = some g) (ha : g.is_async = 0) (I : Nat -> Shared -> Prop)
 (turn : ∀ n s, I n s -> wpAny (model prog w) A (pyNext it) (fun r s1 => match r with
  | none => R (.ok .next) s1
  | some v => wpAny (model prog w) A (letOwnedTupleGo g.target it v) (fun _ s1' => wpAny (model prog w) A (assign g.target env v) (fun _ s2 =>
   wpAny (model prog w) A (testsS g.ifs env) (fun ok s3 => match ok with
    | false => ∃ m, m < n ∧ I m s3
    | true => match gens[d + 1]? with
     | none => wpAny (model prog w) A (eval elt env) (fun x s4 => wpAny (model prog w) A (call (.builtin "list.append") [acc, x]) (fun _ s5 => ∃ m, m < n ∧ I m s5) (notedBy (model prog w) A env fun e s' => R (.error e) s') s4)
      (notedBy (model prog w) A env fun e s' => R (.error e) s') s3
     | some g' => g'.is_async = 0 ∧ (∀ x, foldedSetIterable g'.iter env x = pure x) ∧ wpAny (model prog w) A (eval g'.iter env) (fun x s4 => wpAny (model prog w) A (pyIter x) (fun it' s5 =>
      codeAny (model prog w) A (.compStart (.ListComp elt gens scope pos) (d + 1) it' acc env) (fun r s' => match r with
       | .ok _ => ∃ m, m < n ∧ I m s'
       | .error e => cameBackBy (model prog w) A env (notedBy (model prog w) A env fun e s' => R (.error e) s') e s') s5)
      (notedBy (model prog w) A env fun e s' => R (.error e) s') s4) (notedBy (model prog w) A env fun e s' => R (.error e) s') s3)
    (notedBy (model prog w) A env fun e s' => R (.error e) s') s2) (notedBy (model prog w) A env fun e s' => R (.error e) s') s1') (notedBy (model prog w) A env fun e s' => R (.error e) s') s1)
  (notedBy (model prog w) A env fun e s' => R (.error e) s') s)
 (n : Nat) (h : I n s) : codeAny (model prog w) A (.compLoop (.ListComp elt gens scope pos) d it acc env) R s := by
 refine codeAny_loop rfl I (fun n s hI => ?_) n h
 show wpAny _ A ((compTurn (.ListComp elt gens scope pos) d it acc env).onRaise (fun x => do noteFrame x env; theTreesLotGoes x)) _ _ s
 refine wpAny_noted ?_
 unfold compTurn
 simp only [hg, ha, bne_self_eq_false, Bool.false_eq_true, if_false]
 refine wpAny_bind (wpAny_standAt (wpAny_bind (wpAny_mono (turn n s hI) (fun r s1 h1 => ?_) fun _ _ h' => h')))
 cases r with
 | none => exact wpAny_pure h1
 | some v =>
  refine wpAny_bind (wpAny_mono h1 (fun _ s1' h1' => ?_) fun _ _ h' => h')
  refine wpAny_bind (wpAny_mono h1' (fun _ s2 h2 => wpAny_bind (wpAny_mono h2 (fun ok s3 h3 => ?_) fun _ _ h' => h')) fun _ _ h' => h')
  cases ok with
  | false => exact wpAny_pure ⟨rfl, h3⟩
  | true =>
   dsimp only at h3
   simp only [if_true]
   cases hn : gens[d + 1]? with
   | none =>
    rw [hn] at h3
    dsimp only at h3 ⊢
    exact wpAny_bind (wpAny_bind (wpAny_mono h3 (fun x s4 h4 => wpAny_bind (wpAny_mono h4 (fun _ s5 h5 => wpAny_pure (wpAny_pure ⟨rfl, h5⟩)) fun _ _ h' => h')) fun _ _ h' => h'))
   | some g' =>
    rw [hn] at h3
    dsimp only at h3 ⊢
    obtain ⟨ha', hf, h3⟩ := h3
    simp only [ha', bne_self_eq_false, Bool.false_eq_true, if_false]
    refine wpAny_bind (wpAny_mono h3 (fun x s4 h4 => wpAny_bind (wpAny_standAt ?_)) fun _ _ h' => h')
    refine wpAny_bind (wpAny_of_eq (hf x) (wpAny_bind (wpAny_holding (wpAny_mono h4 (fun it' s5 h5 => ?_) fun _ _ h' => h'))))
    refine wpAny_bind (wpAny_runOwn (codeAny_mono h5 fun r s' hr => ?_))
    cases r with
    | ok f => exact wpAny_pure ⟨rfl, hr⟩
    | error e => exact hr
end
section
variable {W : Wd} {F F' : FH} {s s' : Shared} {env : Env} {ρ : CE} {ad : Str -> Option Addr} {M : Addr -> Prop} {A : Around} {E : VP} {G : GE} {k : Nat} {S : SM}
set_option tactic.hygienic false
theorem ahn (H : ItOK W k S.it) {ifs : List Expr} {b : Bool} {ρ' : CE} (h : ifsL S ifs ρ = some (b, ρ')) (Rm : Room A k) (I : Inv W F s) (R : Rel W F s.heap env ρ ad) {Q : Bool -> Shared -> Prop} (hQ : ItPost W env ad F s b ρ' Q) :
 wpAny (model W.prog W.w) A (testsS ifs env) Q E s := by
 unfold testsS
 refine wpAny_forIn_list _ (fun rest t s' => (t = false ∧ Q false s') ∨ (t = true ∧ ∃ ρi Fi adi, ifsL S rest ρi = some (b, ρ') ∧ Stp W (ownA ad) F Fi s s' ∧ Rel W Fi s'.heap env ρi adi ∧ ∀ x a, adi x = some a -> ad x = some a)) Q ?_ ?_ ifs true
  (.inr ⟨rfl, ρ, F, ad, h, .refl I, R, fun _ _ e => e⟩)
 · rintro x rest t s' (⟨rfl, q⟩ | ⟨rfl, ρi, Fi, adi, hl, Si, Ri, subi⟩)
   · exact wpAny_pure (.inl ⟨rfl, q⟩)
   · rw [aim] at hl
     refine hid fun z0 => ?_
     cases h1 : S.it x ρi with
     | none => rw [h1] at hl; cases hl
     | some p =>
      obtain ⟨t, ρ1⟩ := p
      rw [h1] at hl
      refine z0 ?_
      refine wpAny_bind (H x ρi t ρ1 h1 A env Fi s' adi Rm Si.inv Ri _ _ fun F1 s1 ad1 S1 R1 sub1 => wpAny_pure ?_)
      have S' : Stp W (ownA ad) F F1 s s1 := Si.trans S1 (aag subi)
      have sub' : ∀ x a, ad1 x = some a -> ad x = some a := fun x a q => subi x a (sub1 x a q)
      refine hid fun z1 => ?_
      cases t with
      | true => refine z1 ?_; exact .inr ⟨rfl, ρ1, F1, ad1, hl, S', R1, sub'⟩
      | false => cases hl; refine z1 ?_; exact .inl ⟨rfl, hQ F1 s1 ad1 S' R1 sub'⟩
 · rintro t s' (⟨rfl, q⟩ | ⟨rfl, ρi, Fi, adi, hl, Si, Ri, subi⟩)
   · exact q
   · cases hl; exact hQ Fi s' adi Si Ri subi
noncomputable def noAd : Str -> Option Addr := fun _ => none
theorem adu {ad : Str -> Option Addr} (h : ∀ x a, ad x = some a -> noAd x = some a) : ad = noAd := funext fun x => by
 cases e : ad x with
 | none => rfl
 | some a => cases h x a e
theorem abn (a : Addr) : ¬ ownA noAd a := fun ⟨_, e⟩ => by cases e
inductive SrcIn (W : Wd) (A : Around) (F : FH) (C D : Addr) (hB : Heap) (target : Expr) (it : Value) (cs : List CV) (s : Shared) : Prop
 | mk (I : Addr) (fp wr : List Addr) (n : Nat) (P Md : Nat -> Value -> Heap -> Prop) (St : Nat -> Heap -> Prop) (h1 : it = .ref I) (h2 : n = cs.length)
  (h3 : ∀ i (s : Shared) (Q : VP) (E : VP), St i s.heap -> Q (.ref I) s -> wpAny (model W.prog W.w) A (pyIter (.ref I)) Q E s)
  (h4 : PySem.W.KTurns W.prog W.w A target I fp wr n P Md St) (h5 : St 0 s.heap)
  (h6 : ∀ b ∈ wr, Fre hB b ∧ F b = none ∧ ¬ W.T b) (h7 : ∀ i h, St i h -> ∀ b ∈ wr, ∃ o vs, h.get? b = some o ∧ o.data = .fields vs)
  (h8 : ∀ b ∈ fp, b ≠ D ∧ b ≠ C ∧ ¬ W.T b) (h9 : ∀ i v h c, (∀ a o, F a = some o -> h.get? a = some o) -> P i v h -> cs[i]? = some c -> ItemR W F h c v)
inductive CompJ (W : Wd) (MB : Addr -> Prop) (FB F : FH) (sB : Shared) (cenv : Env) (D : Addr) (Z : FH -> Shared -> Prop) (lp : List CV -> CE -> List CV -> Option (List CV × CE)) (z : Option (List CV × CE)) (cs : List CV) (n : Nat) (St : Nat -> Heap -> Prop) (wr : List Addr) (m : Nat) (s' : Shared) : Prop
 | mk (i : Nat) (ρi : CE) (acci : List CV) (Fi : FH) (vsi : List Value) (h1 : m = n - i) (h2 : i ≤ n) (h3 : lp (cs.drop i) ρi acci = z) (h4 : St i s'.heap) (h5 : Stp W MB FB Fi sB s')
  (h6 : ∀ a o, F a = some o -> Fi a = some o) (h7 : Rel W Fi s'.heap cenv ρi noAd) (h8 : Fi D = none) (h9 : s'.heap.PlainList D vsi.toArray) (h10 : RVs W.prog W.w Fi acci vsi) (h11 : ∀ b ∈ wr, Fi b = none) (h12 : Z Fi s')
set_option tactic.hygienic true
theorem agb (H : SmOK W k S) (hst : ∀ x p ρ, S.ev (.Starred x p) ρ = none) (hset : ∀ x kd p ρ, S.ev (.Set x kd p) ρ = none) (hG : GOK W k G) {elt : Expr} {gens : List Comprehension} {sc : Scope} {pos : Pos} {D : Addr} {cenv : Env}
 (hfr : cenv.frame ≠ some cenv.locals) (hDC1 : D + 1 = cenv.locals) (hDT : ¬ W.T D) (Rm : Room A k) :
 ∀ (gs : List Comprehension) (d : Nat), gens.drop d = gs -> asyncNone gs = true -> ∀ (g : Comprehension) (gs' : List Comprehension), gs = g :: gs' ->
 ∀ {MB : Addr -> Prop}, (∀ a, (a = cenv.locals ∨ a = D) -> MB a) -> ∀ {Z : FH -> Shared -> Prop},
  (∀ F s h' tk (wr : List Addr), Z F s -> (∀ f, cenv.frame = some f -> f ∉ wr) -> (∀ a o, a ∉ wr -> s.heap.get? a = some o -> h'.get? a = some o) -> (∀ a, a ∈ wr -> ∃ o vs, s.heap.get? a = some o ∧ o.data = .fields vs) -> Z F { s with heap := h', toks := tk }) ->
  (∀ F F' s s', Z F s -> Inv W F s -> Stp W (fun a => a = cenv.locals ∨ a = D) F F' s s' -> Z F' s') -> ∀ {cs : List CV} {ρ ρ' : CE} {acc acc' : List CV} {FB F : FH} {sB s : Shared} {it : Value} {vs : List Value} {R : Result -> Shared -> Prop}, accL (compL G S elt gs) cs ρ acc = some (acc', ρ') ->
  Stp W MB FB F sB s -> (∀ f, cenv.frame = some f -> ∃ o, sB.heap.get? f = some o) -> Rel W F s.heap cenv ρ noAd -> F D = none -> s.heap.PlainList D vs.toArray -> RVs W.prog W.w F acc vs -> SrcIn W A F cenv.locals D sB.heap g.target it cs s -> Z F s ->
  (∀ F' s' vs', Stp W MB FB F' sB s' -> Z F' s' -> Rel W F' s'.heap cenv ρ' noAd -> F' D = none -> s'.heap.PlainList D vs'.toArray -> RVs W.prog W.w F' acc' vs' -> R (.ok .next) s') ->
  codeAny (model W.prog W.w) A (.compLoop (.ListComp elt gens sc pos) d it (.ref D) cenv) R s := by
 have hDC : D ≠ cenv.locals := fun q => by rw [<- hDC1] at q; exact (Nat.ne_of_lt (Nat.lt_succ_self _)) q
 intro gs
 induction gs with
 | nil => intro d _ _ g gs' h; cases h
 | cons g0 gs0 ih =>
  intro d hd hasy g gs' hgs
  cases hgs
  intro MB hMB Z hZ1 hZ2 cs ρ ρ' acc acc' FB F sB s it vs R hacc SB hfB RB hFD hD hvs hsrc hZ0 hR
  obtain ⟨I0, fp, wr, n, P, Md, St, rfl, hn, hself, K, hst0, hwr, hshape, hfp, hitem⟩ := hsrc
  have hgd : gens[d]? = some g0 := by
   have := congrArg (fun l : List Comprehension => l[0]?) hd
   simpa using this
  have hgd1 : gens.drop (d + 1) = gs0 := by
   have := congrArg List.tail hd
   simpa using this
  have hasy' : g0.is_async = 0 ∧ asyncNone gs0 = true := by
   unfold asyncNone at hasy ⊢
   simpa using hasy
  let J : Nat -> Shared -> Prop := CompJ W MB FB F sB cenv D Z (accL (compL G S elt (g0 :: gs0))) (some (acc', ρ')) cs n St wr
  refine adZ hgd hasy'.1 J ?_ n ⟨0, ρ, acc, F, vs, rfl, Nat.zero_le _, by rw [List.drop_zero]; exact hacc, hst0, SB, fun _ _ e => e, RB, hFD, hD, hvs, fun b hb => (hwr b hb).2.1, hZ0⟩
  rintro m s' ⟨i, ρi, acci, Fi, vsi, rfl, hi, hl, hSt, Si, hFi, Ri, hFDi, hDi, hvi, hFw, hZi⟩
  have hDn : ∀ {h : Heap} {l : List Value}, h.PlainList D l.toArray -> ∀ a ∈ wr, (∃ o us, h.get? a = some o ∧ o.data = .fields us) -> a ≠ D := fun {h l} hp a _ ⟨o, us, e, dd⟩ q => by
   obtain ⟨nn, e'⟩ := hp
   rw [q, e'] at e; cases e; cases dd
  have hws : ∀ a, a ∈ wr -> ∃ o vs, s'.heap.get? a = some o ∧ o.data = .fields vs := fun a ha => hshape i _ hSt a ha
  have hwx : ∀ a, a ∈ wr -> Fre sB.heap a ∧ Fi a = none ∧ ¬ W.T a := fun a ha => ⟨(hwr a ha).1, hFw a ha, (hwr a ha).2.2⟩
  have hfrw : ∀ f, cenv.frame = some f -> ¬ f ∈ wr := fun f e q => let ⟨_, z⟩ := hfB f e; (hwr f q).1.ne z rfl
  by_cases hlt : i < n
  · have hlt' : i < cs.length := hn ▸ hlt
    have hdr : cs.drop i = cs[i] :: cs.drop (i + 1) := List.drop_eq_getElem_cons hlt'
    rw [hdr] at hl
    refine K.item i _ _ _ hlt hSt fun v h1 tk1 hMd hk1 => ?_
    refine K.go i v _ _ _ hMd fun h2 hP hSt2 hk2 => ?_
    have hk : ∀ a o, a ∉ wr -> s'.heap.get? a = some o -> h2.get? a = some o := fun a o ha e => hk2 a o ha (hk1 a o ha e)
    have S2 : Stp W MB FB Fi sB { s' with heap := h2, toks := tk1 } := Si.past (wr := (· ∈ wr)) hwx hk
    have R2 : Rel W Fi h2 cenv ρi noAd := Ri.raw (wr := (· ∈ wr)) hk hws hfrw
    have hD2 : h2.PlainList D vsi.toArray := hDi.at fun o e => hk D o (fun q => hDn hDi D q (hws D q) rfl) e
    have hci : cs[i]? = some cs[i] := List.getElem?_eq_getElem hlt'
    have hit : ItemR W Fi h2 cs[i] v := (hitem i v h2 cs[i] (fun a o e => S2.inv.frz a o (hFi a o e)) hP hci).mono hFi
    have frmC : ∀ a, frmA cenv noAd a -> a = cenv.locals ∨ a = D := fun a q => by
     rcases q with q | q | ⟨q, _⟩
     · exact absurd q (abn a)
     · exact .inl q
     · exact absurd q hfr
    have ownC : ∀ a, ownA noAd a -> a = cenv.locals ∨ a = D := fun a q => absurd q (abn a)
    have Dkeep : ∀ {Fa Fb : FH} {sa sb : Shared} {l : List Value}, Stp W (ownA noAd) Fa Fb sa sb -> Fa D = none -> sa.heap.PlainList D l.toArray -> Fb D = none ∧ sb.heap.PlainList D l.toArray := fun {Fa Fb sa sb l} X hf hp => by
     refine ⟨?_, hp.at fun o e => X.keep D o e (abn D) hDT⟩
     cases e : Fb D with
     | none => rfl
     | some o =>
      obtain ⟨nn, e'⟩ := hp
      rcases X.new D o e with q | q | q
      · rw [hf] at q; cases q
      · exact absurd q (abn D)
      · exact absurd rfl (q.ne e')
    have go : ∀ (F5 : FH) (s5 : Shared) (ρ5 : CE) (acc5 : List CV) (vs5 : List Value), Stp W (fun a => a = cenv.locals ∨ a = D) Fi F5 { s' with heap := h2, toks := tk1 } s5 -> Rel W F5 s5.heap cenv ρ5 noAd -> F5 D = none ->
     s5.heap.PlainList D vs5.toArray -> RVs W.prog W.w F5 acc5 vs5 -> accL (compL G S elt (g0 :: gs0)) (cs.drop (i + 1)) ρ5 acc5 = some (acc', ρ') -> ∃ m, m < n - i ∧ J m s5 := fun F5 s5 ρ5 acc5 vs5 T5 R5 hF5 hD5 hv5 hl5 => by
     refine ⟨n - (i + 1), Nat.sub_lt_sub_left hlt (Nat.lt_succ_self i), i + 1, ρ5, acc5, F5, vs5, rfl, hlt, hl5, K.frame _ _ _ hSt2 fun b hb o e => T5.keep b o e (fun q => q.elim (hfp b hb).2.1 (hfp b hb).1) (hfp b hb).2.2, S2.trans T5 fun a q => .inl (hMB a q),
      fun a o e => T5.sub a o (hFi a o e), R5, hF5, hD5, hv5, fun b hb => ?_, hZ2 _ _ _ _ (hZ1 Fi s' h2 tk1 wr hZi hfrw hk hws) S2.inv T5⟩
     cases e : F5 b with
     | none => rfl
     | some o =>
      have hb' := hfp b (K.sub b hb)
      rcases T5.new b o e with q | q | q
      · rw [hFw b hb] at q; cases q
      · exact absurd q fun q => q.elim hb'.2.1 hb'.1
      · obtain ⟨o', us, e', _⟩ := hshape (i + 1) _ hSt2 b hb
        exact absurd rfl (q.ne e')
    refine hid fun z10 => ?_
    refine Mine.D.el (.opt2 (compL G S elt (g0 :: gs0) cs[i] ρi acci) fun acc ρ => .raw (accL (compL G S elt (g0 :: gs0)) (cs.drop (i + 1)) ρ acc)) hl (C := fun a b => ∀ q, q = some (a, b) -> q = some (acc', ρ')) (fun _ h => h) fun acc5 ρ5 hstep z hz hl => ?_
    replace hl := hl _ hz
    refine Mine.D.el (.opt (bindT g0.target cs[i] ρi) fun ρ => .opt2 (ifsL S g0.ifs ρ) fun ok ρ => .raw (match ok with
     | false => some (acci, ρ)
     | true => match (generalizing := false) gs0 with
      | [] => match S.ev elt ρ with
       | some (.val v, ρ) => match Nat.ble acci.length LIM with
        | true => some (acci ++ [v], ρ)
        | false => none
       | _ => none
      | g' :: _ => match S.items G true g'.target g'.iter ρ with
       | none => none
       | some (cs, ρ) => accL (compL G S elt gs0) cs ρ acci)) hstep (C := fun a b => accL (compL G S elt (g0 :: gs0)) (cs.drop (i + 1)) b a = some (acc', ρ')) hl fun ρ2 hb ok ρ3 hi z hstep hl => ?_
    refine z10 ?_
    refine ae2 (s := { s' with heap := h2, toks := tk1 }) hb Rm.hh S2.inv R2 hit fun s3 ad3 S3 R3 sub3 => ?_
    have had3 := adu sub3
    refine hid fun z12 => ?_
    subst had3
    have hD3 : s3.heap.PlainList D vsi.toArray := hD2.at fun o e => S3.keep D o e (fun q => by
     rcases q with q | q | ⟨q, _⟩
     · exact abn D q
     · exact hDC q
     · exact hfr q) hDT
    have T3 : Stp W (fun a => a = cenv.locals ∨ a = D) Fi Fi { s' with heap := h2, toks := tk1 } s3 := S3.weaken fun a q => .inl (frmC a q)
    refine z12 ?_
    refine ahn H.it hi Rm S3.inv R3 fun F4 s4 ad4 S4 R4 sub4 => ?_
    have had4 := adu sub4
    refine hid fun z14 => ?_
    subst had4
    obtain ⟨hF4, hD4⟩ := Dkeep S4 hFDi hD3
    have T4 : Stp W (fun a => a = cenv.locals ∨ a = D) Fi F4 { s' with heap := h2, toks := tk1 } s4 := T3.trans S4 fun a q => .inl (ownC a q)
    have hv4 : RVs W.prog W.w F4 acci vsi := RVs.mono _ _ S4.sub _ _ hvi
    cases ok with
    | false =>
     cases hstep
     refine z14 ?_
     exact go F4 s4 _ _ vsi T4 R4 hF4 hD4 hv4 hl
    | true =>
     cases hgs : gs0 with
     | nil =>
      rw [hgs] at hstep
      have hnx : gens[d + 1]? = none := by
       have := congrArg (fun l : List Comprehension => l[0]?) (hgd1.trans hgs)
       simpa using this
      refine z14 ?_
      rw [hnx]
      refine Mine.D.el1 (.val (S.ev elt ρ3) fun v ρ => .grd (Nat.ble acci.length LIM) (.ret (acci ++ [v], ρ))) hstep (C := fun r => accL (compL G S elt (g0 :: gs0)) (cs.drop (i + 1)) r.2 r.1 = some (acc', ρ')) hl fun c ρ4 he hle hl => ?_
      refine H.ev elt ρ3 _ _ he A cenv F4 s4 noAd Rm S4.inv R4 _ _ fun u F5 s5 ad5 S5 R5 sub5 r5 => ?_
      have had5 := adu sub5
      subst had5
      obtain ⟨hF5, hD5⟩ := Dkeep S5 hF4 hD4
      have hv5 : RVs W.prog W.w F5 acci vsi := RVs.mono _ _ S5.sub _ _ hv4
      refine wpAny_list_append_plain hD5 (fun h' hp' hb' => ?_) (by rw [List.size_toArray, hv5.len]; exact Nat.le_of_ble_eq_true hle)
      have hp'' : h'.PlainList D (vsi ++ [u]).toArray := by rw [List.push_toArray] at hp'; exact hp'
      have S6 : Stp W (· = D) F5 F5 s5 { s5 with heap := h', toks := s5.toks } := Stp.turn S5.inv hF5 hDT hb' (let ⟨nn, e⟩ := hp''; ⟨_, e⟩) s5.toks
      have T5 : Stp W (fun a => a = cenv.locals ∨ a = D) Fi F5 { s' with heap := h2, toks := tk1 } s5 := T4.trans S5 fun a q => .inl (ownC a q)
      have R6 : Rel W F5 h' cenv ρ4 noAd := R5.keep (s' := { s5 with heap := h', toks := s5.toks }) S5.inv S6 fun a q => by
       obtain rfl : a = D := q
       refine ⟨abn _, hDC, fun y e => ?_, fun x o v hx hv q => ?_⟩
       · obtain ⟨u', o', e', d'⟩ := R5.cl y _ e
         obtain ⟨nn, e''⟩ := hD5
         rw [e''] at e'; cases e'; cases d'
       · obtain ⟨v', hv', b, e1, e2, _⟩ := R5.var x _ hx
         obtain rfl := VarIs.uniq hv hv'
         rw [e1] at q; cases q
         rw [<- hDC1] at e2
         exact Nat.lt_irrefl _ e2
      exact go F5 _ _ _ (vsi ++ [u]) (T5.trans S6 fun a q => .inl (.inr q)) R6 hF5 hp'' (hv5.append (.one r5)) hl
     | cons g' gs' =>
      rw [hgs] at hstep
      have hnx : gens[d + 1]? = some g' := by
       have := congrArg (fun l : List Comprehension => l[0]?) (hgd1.trans hgs)
       simpa using this
      refine z14 ?_
      rw [hnx]
      have ha' : g'.is_async = 0 := by
       have := hasy'.2
       rw [hgs] at this
       unfold asyncNone at this
       simp only [List.all_cons, Bool.and_eq_true, beq_iff_eq] at this
       exact this.1
      refine Mine.D.el1 (.opt2 (S.items G true g'.target g'.iter ρ3) fun its ρ => .raw (accL (compL G S elt (g' :: gs')) its ρ acci)) hstep (C := fun r => accL (compL G S elt (g0 :: gs0)) (cs.drop (i + 1)) r.2 r.1 = some (acc', ρ')) hl fun cs' ρ4 hit' z hz hl' => ?_
      refine ⟨ha', ads H.ev hst hset hG hit' Rm S4.inv R4 A Rm.hh fun it' F5 s5 ad5 S5 R5 sub5 hsrc' => ?_⟩
      have had5 := adu sub5
      subst had5
      obtain ⟨hF5, hD5⟩ := Dkeep S5 hF4 hD4
      have hv5 : RVs W.prog W.w F5 acci vsi := RVs.mono _ _ S5.sub _ _ hv4
      obtain ⟨I1, fp1, wr1, n1, P1, Md1, St1, rfl, hn1, hself1, K1, hst1, hwr1, hshape1, hfp1, hitem1⟩ := hsrc'
      have hsin : SrcIn W A F5 cenv.locals D s4.heap g'.target (.ref I1) cs' s5 := by
       refine ⟨I1, fp1, wr1, n1, P1, Md1, St1, rfl, hn1, hself1, K1, hst1, hwr1, hshape1, fun b hb => ?_, hitem1⟩
       refine hid fun z29 => ?_
       rcases hfp1 b hb with q | ⟨_, o, q⟩ | ⟨q, _⟩
       · obtain ⟨q1, q2, q3⟩ := hwr1 b q
         refine z29 ?_
         refine ⟨fun e => ?_, fun e => ?_, q3⟩
         · obtain ⟨nn, e'⟩ := hD4
           exact q1.ne e' e
         · obtain ⟨m, o, es, ep, e', _⟩ := R4.ns
           exact q1.ne e' e
       · refine z29 ?_
         exact ⟨fun e => (by rw [e, hF5] at q; cases q), fun e => (by rw [e, R5.nsF] at q; cases q), S5.inv.notTab q⟩
       · cases q
      have SB' : Stp W (fun a => a = cenv.locals ∨ a = D) F4 F5 s4 s5 := S5.weaken fun a q => .inl (ownC a q)
      have body : codeAny (model W.prog W.w) A (.compLoop (.ListComp elt gens sc pos) (d + 1) (.ref I1) (.ref D) cenv) (fun r s' => match r with
       | .ok _ => ∃ m, m < n - i ∧ J m s'
       | .error e => cameBackBy (model W.prog W.w) A cenv (notedBy (model W.prog W.w) A cenv fun e s' => R (.error e) s') e s') s5 :=
       ih (d + 1) hgd1 hasy'.2 g' gs' hgs (fun _ q => q) (Z := fun _ _ => True) (fun _ _ _ _ _ _ _ _ _ => trivial) (fun _ _ _ _ _ _ _ => trivial) (by rw [hgs]; exact hz) SB' (fun f e => R4.frm f e) R5 hF5 hD5 hv5 hsin trivial fun F6 s6 vs6 S6 _ R6 hF6 hD6 hv6 => go F6 s6 _ _ vs6 (T4.trans S6 fun _ q => .inl q) R6 hF6 hD6 hv6 hl'
      exact abT hnx ha' body (hself1 0 _ _ _ hst1 body)
  · have hin : i = n := Nat.le_antisymm hi (Nat.not_lt.mp hlt)
    have hd0 : cs.drop i = [] := by rw [hin, hn]; exact List.drop_length
    rw [hd0] at hl
    refine hid fun z32 => ?_
    cases hl
    refine z32 ?_
    refine K.done _ _ _ (hin ▸ hSt) fun h1 tk1 hk1 => ?_
    exact hR Fi _ vsi (Si.past (wr := (· ∈ wr)) hwx fun a o ha e => hk1 a o ha e) (hZ1 Fi s' h1 tk1 wr hZi hfrw (fun a o ha e => hk1 a o ha e) hws) (Ri.raw (wr := (· ∈ wr)) (fun a o ha e => hk1 a o ha e) hws hfrw) hFDi (hDi.at fun o e => hk1 D o (fun q => hDn hDi D q (hws D q) rfl) e) hvi
end
section
variable {W : Wd} {F F' : FH} {s s' : Shared} {env : Env} {ρ : CE} {ad : Str -> Option Addr} {M : Addr -> Prop} {A : Around} {E : VP} {G : GE} {k : Nat} {S : SM}
noncomputable def closOf (cells : List (Str × Addr)) : List (Str × NameKind) -> List (Str × Addr) -> List (Str × Addr)
 | [], cs => cs
 | (n, k) :: r, cs => closOf cells r (match k == .free with
  | true => (n, (cells.lookup n).getD 0) :: cs
  | false => cs)
set_option tactic.hygienic false
theorem abU (cells : List (Str × Addr)) (n : Str) (k : NameKind) (r : List (Str × NameKind)) (cs : List (Str × Addr)) : closOf cells ((n, k) :: r) cs = closOf cells r (match k == .free with | true => (n, (cells.lookup n).getD 0) :: cs | false => cs) := rfl
theorem abV {sc : Scope} (h : ∀ x ∈ sc.names, x.2 = .free -> ∃ ca, env.cells.lookup x.1 = some ca) : closureFor sc env = pure (closOf env.cells sc.names []) := by
 have key : ∀ (l : List (Str × NameKind)) (cs : List (Str × Addr)), (∀ x ∈ l, x.2 = .free -> ∃ ca, env.cells.lookup x.1 = some ca) ->
  (forIn l cs fun x r => match x with
   | (name, kind) => if (kind == NameKind.free) = true then do let a <- cellOf env name; pure (ForInStep.yield ((name, a) :: r)) else pure (ForInStep.yield r) : Sem (List (Str × Addr))) = pure (closOf env.cells l cs) := by
  intro l
  induction l with
  | nil => intro cs _; rfl
  | cons x r ih =>
   intro cs hl
   obtain ⟨n, kd⟩ := x
   rw [List.forIn_cons]
   dsimp only
   cases hk : kd == NameKind.free with
   | true =>
    obtain ⟨ca, hca⟩ := hl (n, kd) (.head _) (by simpa using hk)
    have hc : cellOf env n = pure ca := by
     have hca : env.cells.lookup n = some ca := hca
     unfold cellOf; rw [hca]
    simp only [if_true, hc, pure_bind]
    rw [ih _ fun y hy => hl y (.tail _ hy)]
    have hca : env.cells.lookup n = some ca := hca
    simp only [abU, hk, hca, Option.getD_some]
   | false =>
    simp only [Bool.false_eq_true, if_false, pure_bind]
    rw [ih _ fun y hy => hl y (.tail _ hy)]
    simp only [abU, hk]
 unfold closureFor
 simp only [bind_pure]
 exact key sc.names [] h
theorem aaF {cells : List (Str × Addr)} : ∀ (l : List (Str × NameKind)) (cs : List (Str × Addr)) (n : Str) (a : Addr), (∀ x ∈ l, x.2 = .free -> ∃ ca, cells.lookup x.1 = some ca) -> (∀ n a, cs.lookup n = some a -> cells.lookup n = some a) ->
 (closOf cells l cs).lookup n = some a -> cells.lookup n = some a
 | [], cs, n, a, _, hcs, h => hcs n a h
 | (m, kd) :: r, cs, n, a, hl, hcs, h => by
  rw [abU] at h
  refine aaF r _ n a (fun y hy => hl y (.tail _ hy)) ?_ h
  cases hk : kd == NameKind.free with
  | false => exact hcs
  | true =>
   obtain ⟨ca, hca⟩ := hl (m, kd) (.head _) (by simpa using hk)
   have hca : cells.lookup m = some ca := hca
   intro n' a' h'
   simp only [hca, Option.getD_some, List.lookup_cons] at h'
   cases hn : n' == m with
   | true => rw [hn] at h'; cases h'; rw [beq_iff_eq.mp hn]; exact hca
   | false => rw [hn] at h'; exact hcs n' a' h'
theorem ab4 {cells : List (Str × Addr)} : ∀ (l : List (Str × NameKind)) (cs : List (Str × Addr)) (n : Str), ((∃ a, cs.lookup n = some a) ∨ (n, NameKind.free) ∈ l) -> ∃ a, (closOf cells l cs).lookup n = some a
 | [], cs, n, h => by
  rcases h with h | h
  · exact h
  · cases h
 | (m, kd) :: r, cs, n, h => by
  rw [abU]
  refine ab4 r _ n ?_
  rcases h with ⟨a, h⟩ | h
  · left
    cases hk : kd == NameKind.free with
    | false => exact ⟨a, h⟩
    | true =>
     simp only [List.lookup_cons]
     cases hn : n == m with
     | true => exact ⟨_, rfl⟩
     | false => exact ⟨a, h⟩
  · rcases List.mem_cons.mp h with h | h
    · cases h
      left
      refine ⟨(cells.lookup m).getD 0, ?_⟩
      simp [List.lookup_cons]
    · exact .inr h
end
section
variable {W : Wd} {F F' : FH} {s s' : Shared} {env : Env} {ρ : CE} {ad : Str -> Option Addr} {M : Addr -> Prop} {A : Around} {E : VP} {G : GE} {k : Nat} {S : SM}
set_option tactic.hygienic false
theorem Rel.but (R : Rel W F s.heap env ρ ad) {h' : Heap} {C : Addr} (hk : ∀ a o, a ≠ C -> s.heap.get? a = some o -> h'.get? a = some o)
 (hL : env.locals < C) (ho : ∀ x a, ad x = some a -> a ≠ C) (hc : ∀ x a, env.cells.lookup x = some a -> a ≠ C) (hf : ∀ f, env.frame = some f -> f ≠ C) : Rel W F h' env ρ ad := by
 have kns : ∀ {m}, s.heap.Ns env.locals m -> h'.Ns env.locals m := fun ⟨o, es, ep, e, d, r⟩ => ⟨o, es, ep, hk _ o (Nat.ne_of_lt hL) e, d, r⟩
 have kcl : ∀ {x a v}, env.cells.lookup x = some a -> s.heap.IsCell a v -> h'.IsCell a v := fun {x a v} e ⟨o, q, d⟩ => ⟨o, hk a o (hc x a e) q, d⟩
 have kor : ∀ {o a}, a ≠ C -> OR W.prog W.w F s.heap o a -> OR W.prog W.w F h' o a := fun {o a} n r => r.mono _ _ (fun _ _ e => e) fun ob e => hk a ob n e
 refine ⟨R.kind, let ⟨m, n⟩ := R.ns; ⟨m, kns n⟩, R.nsF, R.nsT, fun x sl h => ?_, fun x h1 h2 => ?_, fun x a e => ?_, R.inj, fun x a e => let ⟨v, c⟩ := R.cl x a e; ⟨v, kcl e c⟩,
  fun f e => let ⟨o, q⟩ := R.frm f e; ⟨o, hk f o (hf f e) q⟩⟩
 · obtain ⟨v, hv, hs⟩ := R.var x sl h
   refine ⟨v, ?_, ?_⟩
   · rcases hv with ⟨q, m, n, e⟩ | ⟨q, ca, c, y⟩
     · exact .inl ⟨q, m, kns n, e⟩
     · exact .inr ⟨q, ca, c, kcl c y⟩
   · cases sl with
     | val c => exact hs
     | own o => obtain ⟨a, e1, e2, e3⟩ := hs; exact ⟨a, e1, e2, kor (ho x a e2) e3⟩
     | bor o => obtain ⟨a, e1, e2, e3, e4⟩ := hs; exact ⟨a, e1, e2, kor (ho x a e2) e3, e4⟩
     | view o => obtain ⟨a, e1, e2, e3⟩ := hs; exact ⟨a, e1, e2, kor (Nat.ne_of_lt (Nat.lt_trans (Nat.lt_of_succ_lt e2) hL)) e3⟩
     | fix c => exact hs
 · obtain ⟨ca, v0, e1, e2, e3, e4⟩ := R.cells x h1 h2
   exact ⟨ca, v0, e1, kcl e1 e2, e3, e4⟩
 · obtain ⟨q1, q2, q3, q4, q5, o, q6⟩ := R.own x a e
   exact ⟨q1, q2, q3, q4, q5, o, hk a o (ho x a e) q6⟩
theorem acZ {names : List (Str × NameKind)} {x : Str} {kd : NameKind} (h : names.lookup x = some kd) :
 (names.map fun (n, k) => if (k == NameKind.free && env.scope.kind == .function && env.kindOf n == some .cell) then (n, NameKind.cell) else (n, k)).lookup x =
  some (if (kd == NameKind.free && env.scope.kind == .function && env.kindOf x == some .cell) then NameKind.cell else kd) := by
 induction names with
 | nil => cases h
 | cons p r ih =>
  obtain ⟨n, k'⟩ := p
  simp only [List.lookup_cons] at h
  cases hx : x == n with
  | true =>
   rw [hx] at h
   cases h
   have e := beq_iff_eq.mp hx
   subst e
   simp only [List.map_cons]
   split <;> simp [List.lookup_cons]
  | false =>
   rw [hx] at h
   simp only [List.map_cons]
   split
   · simp only [List.lookup_cons, hx]; exact ih h
   · simp only [List.lookup_cons, hx]; exact ih h
end
section
variable {W : Wd} {F F' : FH} {s s' : Shared} {env : Env} {ρ : CE} {ad : Str -> Option Addr} {M : Addr -> Prop} {A : Around} {E : VP} {G : GE} {k : Nat} {S : SM}
set_option tactic.hygienic false
theorem acH : ∀ {l : List (Str × NameKind)} {r : List (Str × Slot)}, taken ρ l = some r -> ∀ {x : Str} {sl : Slot}, r.lookup x = some sl -> (x, NameKind.free) ∈ l ∧ isCellK (ρ.kind x) = true ∧ ∃ sl0, ρ.get x = some sl0 ∧ sl = viewOf sl0
 | [], r, h, x, sl, hx => by cases h; cases hx
 | (n, kd) :: l, r, h, x, sl, hx => by
  cases kd with
  | free =>
   refine D.el1 (.grd (isCellK (ρ.kind n)) (.opt (ρ.get n) fun sl => .opt (taken ρ l) fun l => .ret ((n, viewOf sl) :: l))) h (C := fun r => r.lookup x = some sl) hx fun hc sl0 h1 r' h2 hx => ?_
   rw [List.lookup_cons] at hx
   cases hn : x == n with
   | true =>
    rw [hn] at hx; cases hx
    obtain rfl := beq_iff_eq.mp hn
    exact ⟨.head _, hc, sl0, h1, rfl⟩
   | false =>
    rw [hn] at hx
    exact (acH h2 hx).imp (.tail _) id
  | _ => exact (acH (l := l) h hx).imp (.tail _) id
theorem abW : ∀ {l : List (Str × NameKind)} {r : List (Str × Slot)}, taken ρ l = some r -> ∀ {x : Str}, (x, NameKind.free) ∈ l -> isCellK (ρ.kind x) = true ∧ ∃ sl0, ρ.get x = some sl0
 | [], r, h, x, hx => by cases hx
 | (n, kd) :: l, r, h, x, hx => by
  cases kd with
  | free =>
   refine D.el1 (.grd (isCellK (ρ.kind n)) (.opt (ρ.get n) fun sl => .opt (taken ρ l) fun l => .ret ((n, viewOf sl) :: l))) h (C := fun _ => True) trivial fun hc sl0 h1 r' h2 _ => ?_
   rcases List.mem_cons.mp hx with q | q
   · cases q; exact ⟨hc, sl0, h1⟩
   · exact abW h2 q
  | _ =>
   rcases List.mem_cons.mp hx with q | q
   · cases q
   · exact abW (l := l) h q
theorem afD {k : Option NameKind} (h : isCellK k = true) : k = some .cell ∨ k = some .free := by
 rcases k with _ | y
 · first | (cases h; done) | exact .inl rfl | exact .inr rfl
 cases y <;> first | (cases h; done) | exact .inl rfl | exact .inr rfl
theorem aes (R : Rel W F s.heap env ρ ad) {x : Str} {sl : Slot} (hk : isCellK (ρ.kind x) = true) (h : ρ.get x = some sl) : ∃ ca v, env.cells.lookup x = some ca ∧ s.heap.IsCell ca (some v) ∧ SlotR W F s.heap env ad x sl v := by
 refine hid fun z0 => ?_
 obtain ⟨v, hv, hs⟩ := R.var x sl h
 have hne : env.kindOf x ≠ some .local := by
  rcases afD hk with q | q
  · rw [R.kind.cell x q]; exact fun z => by cases z
  · rcases R.kind.free x q with z | z <;> rw [z] <;> exact fun z => by cases z
 rcases hv with ⟨q, _⟩ | ⟨_, ca, c, y⟩
 · exact absurd q hne
 · refine z0 ?_
   exact ⟨ca, v, c, y, hs⟩
end
section
variable {W : Wd} {F F' : FH} {s s' : Shared} {env : Env} {ρ : CE} {ad : Str -> Option Addr} {M : Addr -> Prop} {A : Around} {E : VP} {G : GE} {k : Nat} {S : SM}
set_option tactic.hygienic false
theorem adv {sc : Scope} (h : scOk sc = true) : sc.kind = .function ∧ (∀ x ∈ sc.names, x.2 ≠ .cell) ∧ ∀ x ∈ sc.names, sc.names.lookup x.1 = some x.2 := by
 unfold scOk at h
 simp only [Bool.and_eq_true, beq_iff_eq, List.all_eq_true, bne_iff_ne, ne_eq] at h
 exact ⟨h.1.1, h.1.2, h.2⟩
theorem aa7 {l : List (Str × NameKind)} {x : Str} {kd : NameKind} (h : l.lookup x = some kd) : (x, kd) ∈ l := by
 induction l with
 | nil => cases h
 | cons p r ih =>
  obtain ⟨n, k'⟩ := p
  simp only [List.lookup_cons] at h
  refine hid fun z1 => ?_
  cases hx : x == n with
  | true => rw [hx] at h; cases h; refine z1 ?_; rw [beq_iff_eq.mp hx]; exact .head _
  | false => rw [hx] at h; refine z1 ?_; exact .tail _ (ih h)
set_option tactic.hygienic true
theorem ai0 (R : Rel W F s.heap env ρ ad) {sc : Scope} {l : List (Str × Slot)} (hsc : scOk sc = true) (ht : taken ρ sc.names = some l) {h' : Heap} {C : Addr} (hk : ∀ a o, s.heap.get? a = some o -> h'.get? a = some o)
 (hC : Fre s.heap C) (hsz : s.heap.objs.size + 1 ≤ C) (hFC : F C = none) (hTC : ¬ W.T C) {m : Str -> Option Value} (hn : h'.Ns C m) :
 Rel W F h' (compEnvC sc (closOf env.cells sc.names []) C env) ⟨sc, l⟩ noAd ∧ env.frame ≠ some C := by
 refine hid fun z0 => ?_
 obtain ⟨h1, h2, h3⟩ := adv hsc
 have hfree : ∀ x ∈ sc.names, x.2 = .free -> ∃ ca, env.cells.lookup x.1 = some ca := fun x hx he => by
  obtain ⟨n, kd⟩ := x
  cases he
  obtain ⟨hc, sl, hg⟩ := abW ht hx
  obtain ⟨ca, v, e, _⟩ := aes R hc hg
  exact ⟨ca, e⟩
 have hcl : ∀ n a, (closOf env.cells sc.names []).lookup n = some a -> env.cells.lookup n = some a := fun n a e => aaF sc.names [] n a hfree (fun _ _ q => by cases q) e
 have kcl : ∀ {a v}, s.heap.IsCell a v -> h'.IsCell a v := fun {a v} ⟨o, e, d⟩ => ⟨o, hk a o e, d⟩
 have hkind : ∀ x kd, CE.kind ⟨sc, l⟩ x = some kd -> Env.kindOf (compEnvC sc (closOf env.cells sc.names []) C env) x =
  some (if (kd == NameKind.free && env.scope.kind == .function && env.kindOf x == some .cell) then NameKind.cell else kd) := fun x kd q => acZ q
 have hnc : ∀ x, CE.kind ⟨sc, l⟩ x ≠ some .cell := fun x q => h2 _ (aa7 q) rfl
 refine z0 ?_
 refine ⟨⟨⟨?_, R.kind.glo, R.kind.blt, fun x q => ?_, fun x q => absurd q (hnc x), fun x q => ?_, fun x q => ?_, fun x y ca a b => R.kind.apart x y ca (hcl _ _ a) (hcl _ _ b), fun x q => absurd q (hnc x), fun q => ?_⟩,
  ⟨m, hn⟩, hFC, hTC, fun x sl q => ?_, fun x q _ => absurd q (hnc x), fun x a q => (by cases q), fun x y a q _ => (by cases q), fun x a q => ?_, fun f q => ?_⟩, fun q => ?_⟩
 · exact h1
 · rw [hkind x _ q]; rfl
 · rw [hkind x _ q]
   split
   · exact .inr rfl
   · exact .inl rfl
 · rw [hkind x _ q]; rfl
 · exfalso
   unfold lamS at q
   refine hid fun z1 => ?_
   split at q
   · rename_i e; refine z1 ?_; exact hnc _ e
   · cases q
 · refine hid fun z2 => ?_
   obtain ⟨hm, hc, sl0, hg, rfl⟩ := acH ht q
   obtain ⟨ca, v, e, y, hs⟩ := aes R hc hg
   have hkx : CE.kind ⟨sc, l⟩ x = some .free := h3 _ hm
   have hkk := hkind x _ hkx
   obtain ⟨a', ha'⟩ := ab4 (cells := env.cells) sc.names [] x (.inr hm)
   have hee := hcl _ _ ha'
   rw [e] at hee; cases hee
   refine z2 ?_
   refine ⟨v, .inr ⟨?_, ca, ha', kcl y⟩, ?_⟩
   · rw [hkk]
     split
     · exact .inl rfl
     · exact .inr rfl
   · have view : ∀ {o : CO} {a : Addr}, OR W.prog W.w F s.heap o a -> a + 1 < C ∧ OR W.prog W.w F h' o a := fun {o a} r => by
      refine hid fun z3 => ?_
      obtain ⟨ob, e, _⟩ := OR.cls r
      refine z3 ?_
      exact ⟨Nat.lt_of_lt_of_le (Nat.succ_lt_succ (Heap.lt_size e)) hsz, r.mono _ _ (fun _ _ e => e) fun ob q => hk a ob q⟩
     cases sl0 with
     | val c => exact hs
     | fix c => obtain ⟨hs, _⟩ := hs; exact hs
     | own o => obtain ⟨a, e1, _, r⟩ := hs; exact ⟨a, e1, (view r).1, (view r).2⟩
     | bor o => obtain ⟨a, e1, _, r, _⟩ := hs; exact ⟨a, e1, (view r).1, (view r).2⟩
     | view o => obtain ⟨a, e1, _, r⟩ := hs; exact ⟨a, e1, (view r).1, (view r).2⟩
 · obtain ⟨v, y⟩ := R.cl x a (hcl _ _ q)
   exact ⟨v, kcl y⟩
 · obtain ⟨o, e⟩ := R.frm f q
   exact ⟨o, hk f o e⟩
 · obtain ⟨o, e⟩ := R.frm C q
   exact hC.ne e rfl
end
section
variable {W : Wd} {F F' : FH} {s s' : Shared} {env : Env} {ρ : CE} {ad : Str -> Option Addr} {M : Addr -> Prop} {A : Around} {E : VP} {G : GE} {k : Nat} {S : SM}
structure CompEnd (W : Wd) (env : Env) (ad : Str -> Option Addr) (F : FH) (s : Shared) (cs : List CV) (ρ' : CE) (D C : Addr) (F' : FH) (s' : Shared) (ad1 : Str -> Option Addr) : Prop where
 stp : Stp W (ownA ad) F F' s s'
 rel : Rel W F' s'.heap env ρ' ad1
 sub : ∀ x a, ad1 x = some a -> ad x = some a
 lst : OR W.prog W.w F' s'.heap (.list cs) D
 fd : F' D = none
 dD : Fre s.heap D
 dc : D ≠ C
 dC : Fre s.heap C
 loc : env.locals < C
 own : ∀ x a, ad1 x = some a -> a ≠ C
 cells : ∀ x a, env.cells.lookup x = some a -> a ≠ C
 frame : ∀ f, env.frame = some f -> f ≠ C
 fc : F' C = none
 tc : ¬ W.T C
 ns : ∃ m, s'.heap.Ns C m
set_option tactic.hygienic true
theorem ad0 (H : SmOK W k S) (hst : ∀ x p ρ, S.ev (.Starred x p) ρ = none) (hset : ∀ x kd p ρ, S.ev (.Set x kd p) ρ = none) (hG : GOK W k G) {elt : Expr} {g : Comprehension} {gs : List Comprehension} {sc : Scope} {pos : Pos}
 {cs : List CV} {ρ' : CE} (h : S.comp G elt (g :: gs) sc ρ = some (cs, ρ')) (Rm : Room A k) (I : Inv W F s) (R : Rel W F s.heap env ρ ad) {use : Option (Value -> Sem Unit)} {Q : VP} {newPos : Pos}
 (hQ : ∀ D C F' s' ad1, CompEnd W env ad F s cs ρ' D C F' s' ad1 -> compPost (model W.prog W.w) A E use Q (.ref D) C (.ok .next) s') :
 wpAny (model W.prog W.w) A (comprehension (.ListComp elt (g :: gs) sc pos) sc env newPos (newList []) false (eval g.iter env) use) Q E s := by
 unfold SM.comp at h
 refine hid fun z0 => ?_
 split at h
 · cases h
 · rename_i hok
   simp only [Bool.and_eq_true] at hok
   obtain ⟨hsc, hasy⟩ := hok
   dsimp only at h
   cases ht0 : taken ρ sc.names with
   | none => rw [ht0] at h; cases h
   | some l0 =>
   rw [ht0] at h
   dsimp only at h
   cases hit : S.items G false g.target g.iter ρ with
   | none => rw [hit] at h; cases h
   | some p =>
   obtain ⟨its, ρ1⟩ := p
   rw [hit] at h
   dsimp only at h
   cases ht : taken ρ1 sc.names with
   | none => rw [ht] at h; cases h
   | some l =>
   rw [ht] at h
   dsimp only at h
   cases hacc : accL (compL G S elt (g :: gs)) its ⟨sc, l⟩ [] with
   | none => rw [hacc] at h; cases h
   | some p =>
   obtain ⟨acc, ρ2⟩ := p
   rw [hacc] at h
   cases h
   have hsc' := adv hsc
   have hfree : ∀ x ∈ sc.names, x.2 = .free -> ∃ ca, env.cells.lookup x.1 = some ca := fun x hx he => by
    obtain ⟨n, kd⟩ := x
    cases he
    obtain ⟨hc, sl, hg⟩ := abW ht0 hx
    obtain ⟨ca, v, e, _⟩ := aes R hc hg
    exact ⟨ca, e⟩
   have hasy' : g.is_async = 0 := by
    unfold asyncNone at hasy
    simp only [List.all_cons, Bool.and_eq_true, beq_iff_eq] at hasy
    exact hasy.1
   refine z0 ?_
   refine (fun z => wpAny_comprehension_free rfl (And.left z) (abV hfree) hsc'.1 (fun x hx e => (hsc'.2.2 x hx).trans (congrArg some e)) (And.right z)) (ads (A := A) (E := E) H.ev hst hset hG hit Rm I R A Rm.hh (Q := fun it s2 => wpAny (model W.prog W.w) A (newList []) (fun acc s3 =>
    wpAny (model W.prog W.w) A (newFunctionEnv sc env.globals (closOf env.cells sc.names []) [] env.qual none .none (some env)) (fun cenv s4 =>
     codeAny (model W.prog W.w) A (.compStart (.ListComp elt (g :: gs) sc pos) 0 it acc { cenv with scope := relabel sc env }) (compPost (model W.prog W.w) A E use Q acc cenv.locals) s4) E s3) E s2)
    (fun it F1 s1 ad1 S1 R1 sub1 hsrc => ?_))
   · refine wpAny_newObj_type (wpAny_newFunctionEnv hsc'.2.1 (by intro y hy; simp at hy) (fun h1z hns1 hsb1 => ?_) hsc'.1)
     dsimp only at hns1 hsb1 ⊢
     generalize hH2 : s1.heap.push { cls := .type "list", dict := none, data := .seq ([] : List Value).toArray } = H2 at hns1 hsb1 ⊢
     have hC : H2.objs.size = s1.heap.objs.size + 1 := by rw [<- hH2, Heap.size_push]
     generalize hCC : H2.objs.size = C at hns1 hsb1 hC ⊢
     generalize hDD : s1.heap.objs.size = D at hC ⊢
     have hDC : D ≠ C := by rw [hC]; exact Nat.ne_of_lt (Nat.lt_succ_self _)
     have fD : Fre s1.heap D := Fre.size _ (hDD ▸ Nat.le_refl _)
     have fC : Fre s1.heap C := Fre.size _ (by rw [hDD, hC]; exact Nat.le_succ _)
     have old : ∀ b o, s1.heap.get? b = some o -> h1z.get? b = some o := fun b o e => hsb1.extBut b o (fun q => fC.ne e q.symm) (Heap.get?_push_of_some _ (hH2 ▸ Heap.get?_push_of_some _ e))
     have hacc1 : h1z.PlainList D #[] := ⟨_, hsb1.extBut _ _ hDC (Heap.get?_push_of_some _ (by rw [<- hH2, <- hDD]; exact Heap.get?_push_size _ rfl))⟩
     obtain ⟨compR, frC⟩ := ai0 R1 hsc ht old fC (by rw [hDD, hC]; exact Nat.le_refl _) (S1.inv.fresh fC) (S1.inv.tabOld fC) hns1
     generalize hs3 : ({ s1 with heap := h1z, toks := s1.toks + ([] : List (Str × Value)).length } : Shared) = s3
     have hs3h : s3.heap = h1z := by rw [<- hs3]
     have S2 : Stp W (fun _ => False) F1 F1 s1 s3 := by rw [<- hs3]; exact Stp.ofKeep S1.inv old
     have R3 : Rel W F1 s3.heap env ρ' ad1 := R1.keep0 S1.inv S2
     have S13 : Stp W (fun a => ownA ad a ∨ a = C ∨ a = D) F F1 s s3 := (S1.trans S2 fun _ q => q.elim).weaken fun a q => .inl (.inl q)
     refine hid fun z2 => ?_
     obtain ⟨mL, oL, esL, epL, eL, rL⟩ := R1.ns
     have locD : env.locals < D := hDD ▸ Heap.lt_size eL
     have locC : env.locals < C := hC ▸ Nat.lt_succ_of_lt locD
     have ownC : ∀ x a, ad1 x = some a -> a ≠ C ∧ a ≠ D := fun x a e => by
      obtain ⟨_, _, _, _, _, o, q⟩ := R1.own x a e
      exact ⟨fun z => fC.ne q z.symm, fun z => fD.ne q z.symm⟩
     have cellC : ∀ x a, env.cells.lookup x = some a -> a ≠ C ∧ a ≠ D := fun x a e => by
      obtain ⟨v, o, q, _⟩ := R1.cl x a e
      exact ⟨fun z => fC.ne q z.symm, fun z => fD.ne q z.symm⟩
     have Z2 : ∀ F F' s s', Rel W F s.heap env ρ' ad1 -> Inv W F s -> Stp W (fun a => a = C ∨ a = D) F F' s s' -> Rel W F' s'.heap env ρ' ad1 := fun Fa Fb sa sb Ra Ia Sa => Ra.keep Ia Sa fun a q => by
      refine ⟨fun ⟨x, e⟩ => ?_, fun e => ?_, fun y e => ?_, fun x o v hx hv e => ?_⟩
      · exact q.elim (ownC x a e).1 (ownC x a e).2
      · rcases q with q | q
        · exact Nat.ne_of_lt locC (e.symm.trans q)
        · exact Nat.ne_of_lt locD (e.symm.trans q)
      · exact q.elim (cellC y a e).1 (cellC y a e).2
      · obtain ⟨v', hv', b, e1, e2, _⟩ := Ra.var x _ hx
        obtain rfl := VarIs.uniq hv hv'
        rw [e1] at e; cases e
        have h1 : a < D := Nat.lt_trans (Nat.lt_of_succ_lt e2) locD
        rcases q with q | q
        · rw [q, hC] at h1; exact Nat.lt_irrefl _ (Nat.lt_of_succ_lt h1)
        · rw [q] at h1; exact Nat.lt_irrefl _ h1
     obtain ⟨I0, fp, wr, n, P, Md, St, rfl, hn, hself, K, hst0, hwr, hshape, hfp, hitem⟩ := hsrc
     have hst1 : St 0 h1z := K.frame _ _ _ hst0 fun b _ o e => old b o e
     have hsin : SrcIn W A F1 C D s.heap g.target (.ref I0) its s3 := by
      refine ⟨I0, fp, wr, n, P, Md, St, rfl, hn, hself, K, hs3h ▸ hst1, hwr, hshape, fun b hb => ?_, hitem⟩
      rcases hfp b hb with q | ⟨q, _⟩ | ⟨_, q, o, e⟩
      · obtain ⟨o, vs, e, _⟩ := hshape 0 _ hst0 b q
        exact ⟨fun z => fD.ne e z.symm, fun z => fC.ne e z.symm, (hwr b q).2.2⟩
      · cases q
      · exact ⟨fun z => fD.ne e z.symm, fun z => fC.ne e z.symm, q⟩
     have body : codeAny (model W.prog W.w) A (.compLoop (.ListComp elt (g :: gs) sc pos) 0 (.ref I0) (.ref D) (compEnvC sc (closOf env.cells sc.names []) C env)) (compPost (model W.prog W.w) A E use Q (.ref D) C) s3 := by
      refine agb (cenv := compEnvC sc (closOf env.cells sc.names []) C env) H hst hset hG frC hC.symm (S1.inv.tabOld fD) Rm (g :: gs) 0 rfl hasy g gs rfl (MB := fun a => ownA ad a ∨ a = C ∨ a = D) (fun a q => .inr q)
       (Z := fun F s => Rel W F s.heap env ρ' ad1) (fun Fa sa h' tk wr Ra hf hk hs => Ra.raw hk hs hf) Z2 hacc S13 (fun f e => R.frm f e) (hs3h ▸ compR) (S1.inv.fresh fD) (vs := []) (hs3h ▸ hacc1) (rfl) hsin R3
       fun F' s' vs' S' Rz R' hF' hD' hv' => ?_
      refine hQ D C F' s' ad1 ⟨S'.weaken fun a q => ?_, Rz, sub1, OR.ofList hD' hv', hF', S1.back fD, hDC, S1.back fC, locC, fun x a e => (ownC x a e).1, fun x a e => (cellC x a e).1, fun f e => ?_, R'.nsF, R'.nsT, R'.ns⟩
      · rcases q with q | q | q
        · exact .inl q
        · exact .inr (q ▸ S1.back fC)
        · exact .inr (q ▸ S1.back fD)
      · obtain ⟨o, q⟩ := R1.frm f e
        exact fun z => fC.ne q z.symm
     have fin := abT rfl hasy' body (hself 0 _ _ _ (hs3h ▸ hst1) body)
     refine z2 ?_
     exact fin
end
section
variable {W : Wd} {F F' : FH} {s s' : Shared} {env : Env} {ρ : CE} {ad : Str -> Option Addr} {M : Addr -> Prop} {A : Around} {E : VP} {G : GE} {k : Nat} {S : SM}
set_option tactic.hygienic false
theorem CompEnd.go {cs : List CV} {ρ' : CE} {D C : Addr} {ad1 : Str -> Option Addr} (c : CompEnd W env ad F s cs ρ' D C F' s' ad1) {h' : Heap} (hb : Heap.SameBut C s'.heap h') :
 Stp W (ownA ad) F F' s { s' with heap := h' } ∧ Rel W F' h' env ρ' ad1 ∧ OR W.prog W.w F' h' (.list cs) D :=
 have hk : ∀ a o, a ≠ C -> s'.heap.get? a = some o -> h'.get? a = some o := fun a o q e => (hb.2 a q).trans e
 ⟨Stp.past (tk := s'.toks) (wr := (· = C)) c.stp (fun a q => q ▸ ⟨c.dC, c.fc, c.tc⟩) hk, c.rel.but hk c.loc c.own c.cells c.frame, c.lst.mono _ _ (fun _ _ e => e) fun ob e => hk D ob c.dc e⟩
set_option tactic.hygienic true
theorem aho (H : SmOK W k S) (hst : ∀ x p ρ, S.ev (.Starred x p) ρ = none) (hset : ∀ x kd p ρ, S.ev (.Set x kd p) ρ = none) (hG : GOK W k G) {elt : Expr} {gens : List Comprehension} {sc : Scope} {pos : Pos}
 {cs : List CV} {ρ' : CE} (h : S.comp G elt gens sc ρ = some (cs, ρ')) (Rm : Room A k) (I : Inv W F s) (R : Rel W F s.heap env ρ ad) {Q : VP} (hQ : MkPost W env ad F s (.list cs) ρ' Q) :
 wpAny (model W.prog W.w) A (eval (.ListComp elt gens sc pos) env) Q E s := by
 cases gens with
 | nil =>
  unfold SM.comp at h
  split at h <;> cases h
 | cons g gs =>
  rw [eval_ListComp]
  have ha : firstAsync (g :: gs) = false := by
   obtain ⟨t, i, f, a⟩ := g
   unfold SM.comp at h
   split at h
   · cases h
   · rename_i hok
     simp only [Bool.and_eq_true, asyncNone, List.all_cons, beq_iff_eq] at hok
     obtain rfl : a = 0 := hok.2.1
     rfl
  rw [ha]
  have hf : firstIter (g :: gs) env = eval g.iter env := by obtain ⟨t, i, f, a⟩ := g; first | rfl | simp only [firstIter]
  rw [hf]
  refine ad0 H hst hset hG h Rm I R fun D C F' s' ad1 c => ?_
  obtain ⟨m, hn⟩ := c.ns
  refine ⟨m, hn, fun h' hb => ?_⟩
  obtain ⟨S', R', L'⟩ := c.go hb
  exact hQ D F' _ ad1 S' R' c.sub L' c.fd c.dD
end
section
variable {W : Wd} {F F' : FH} {s s' : Shared} {env : Env} {ρ : CE} {ad : Str -> Option Addr} {M : Addr -> Prop} {A : Around} {E : VP} {G : GE} {k : Nat} {S : SM}
set_option tactic.hygienic false
theorem akB (I : Inv W F s) (R : Rel W F s.heap env ρ ad) {ad1 : Str -> Option Addr} (sub : ∀ x a, ad1 x = some a -> ad x = some a) {D : Addr} (hD : Fre s.heap D) {o : CO} {h' : Heap} (ho : OR W.prog W.w F' h' o D) (hF : F' D = none) (x : Str) :
 NewSlot W F' h' env ad1 x (.own o) (.ref D) (some D) := by
 refine ⟨D, rfl, rfl, ho, hF, I.tabOld hD, fun q => ?_, fun y ca e q => ?_, fun y _ e => ?_⟩
 · obtain ⟨m, o, es, ep, e, _⟩ := R.ns
   exact hD.ne e q
 · obtain ⟨v, o, e', _⟩ := R.cl y ca e
   exact hD.ne e' q
 · obtain ⟨_, _, _, _, _, o, e'⟩ := R.own y D (sub y D e)
   exact hD.ne e' rfl
theorem ad6 (I : Inv W F s) (R : Rel W F s.heap env ρ ad) {ρ1 : CE} {ad1 : Str -> Option Addr} {F1 : FH} {s1 : Shared} {D : Addr} {o : CO} {x : Str} {b : Bool} (S1 : Stp W (ownA ad) F F1 s s1) (R1 : Rel W F1 s1.heap env ρ1 ad1)
 (sub1 : ∀ x a, ad1 x = some a -> ad x = some a) (ho : OR W.prog W.w F1 s1.heap o D) (hF : F1 D = none) (hD : Fre s.heap D) (hc : canSet ρ1 x = true) (hv : ∀ y o, ρ1.get y ≠ some (.view o)) {Q : Unit -> Shared -> Prop}
 (hQ : ∀ F' s' ad', Stp W (frmA env ad) F F' s s' -> Rel W F' s'.heap env (ρ1.set x (match b with | true => .own o | false => .val o.cv)) ad' -> (∀ x a, ad' x = some a -> ad1 x = some a ∨ a = D) -> Stp W (fun a => frmA env ad1 a ∨ a = D) F1 F' s1 s' -> Q () s') :
 wpAny (model W.prog W.w) A (storeName env x (.ref D)) Q E s1 := by
 refine hid fun z0 => ?_
 cases b with
 | true =>
  refine z0 ?_
  refine abE S1.inv R1 hc (akB I R sub1 hD ho hF x) fun s' S' R' => hQ F1 s' _ ((aap S1).trans S' (aaE fun x a q => .inl (sub1 x a q))) R' (fun y a e => ?_) (S'.weaken fun a q => .inl (.inl q))
  unfold with1 at e
  refine hid fun z1 => ?_
  split at e
  · cases e; refine z1 ?_; exact .inr rfl
  · refine z1 ?_
    exact .inl e
 | false =>
  obtain ⟨ob, e, rv⟩ := ho.toRV hF
  have hT : ¬ W.T D := I.tabOld hD
  have S2 : Stp W (ownA ad) F (F1.add D ob) s s1 := S1.freeze hF e hT (.inr hD)
  have S12 : Stp W (· = D) F1 (F1.add D ob) s1 s1 := ((Stp.refl (M := fun _ => False) S1.inv).weaken fun a (q : False) => q.elim).freeze hF e hT (.inl rfl)
  have R2 : Rel W (F1.add D ob) s1.heap env ρ1 ad1 := R1.keep S1.inv S12 fun a q => by
   obtain rfl : a = D := q
   refine ⟨fun ⟨x, e⟩ => ?_, fun e => ?_, fun y e => ?_, fun y o v hy _ => absurd hy (hv y o)⟩
   · obtain ⟨_, _, _, _, _, o, e'⟩ := R.own x _ (sub1 x _ e); exact hD.ne e' rfl
   · obtain ⟨m, o, es, ep, e', _⟩ := R.ns; exact hD.ne e' e
   · obtain ⟨v, o, e', _⟩ := R.cl y _ e; exact hD.ne e' rfl
  have hn : NewSlot W (F1.add D ob) s1.heap env ad1 x (.val o.cv) (.ref D) none := ⟨rv, rfl⟩
  refine z0 ?_
  refine abE S2.inv R2 hc hn fun s' S' R' => hQ _ s' _ ((aap S2).trans S' (aaE fun x a q => .inl (sub1 x a q))) R' (fun y a e => .inl (abw hn y a e)) ?_
  exact (S12.weaken fun a q => .inl (.inr q)).trans S' fun a q => .inl (.inl q)
set_option tactic.hygienic true
theorem afE (H : SmOK W k S) (hst : ∀ x p ρ, S.ev (.Starred x p) ρ = none) (hset : ∀ x kd p ρ, S.ev (.Set x kd p) ρ = none) (hG : GOK W k G) {elt : Expr} {gens : List Comprehension} {sc : Scope} {pos apos npos : Pos} {x : Str} {b : Bool}
 {cs : List CV} {ρ' : CE} (h : S.comp G elt gens sc ρ = some (cs, ρ')) (hc : canSet ρ' x = true) (hv : ∀ y o, ρ'.get y ≠ some (.view o)) (Rm : Room A k) (I : Inv W F s) (R : Rel W F s.heap env ρ ad)
 (hsw : swapsWith (.ListComp elt gens sc pos) (some (.Name x npos)) apos.line env = pure true) {Q : Flow -> Shared -> Prop}
 (hQ : XsPost W env ad F s .next (ρ'.set x (match b with | true => .own (.list cs) | false => .val (.list cs))) Q) :
 wpAny (model W.prog W.w) A (exec (.Assign [.Name x npos] (.ListComp elt gens sc pos) apos) env) Q E s := by
 cases gens with
 | nil =>
  unfold SM.comp at h
  split at h <;> cases h
 | cons g gs =>
  have ha : firstAsync (g :: gs) = false := by
   refine hid fun z1 => ?_
   obtain ⟨t, i, f, a⟩ := g
   unfold SM.comp at h
   split at h
   · cases h
   · rename_i hok
     simp only [Bool.and_eq_true, asyncNone, List.all_cons, beq_iff_eq] at hok
     obtain rfl : a = 0 := hok.2.1
     refine z1 ?_
     rfl
  have hf : firstIter (g :: gs) env = eval g.iter env := by obtain ⟨t, i, f, a⟩ := g; rfl
  rw [exec_Assign_Name_used _ _ _ _ hsw]
  refine wpAny_bind (wpAny_standAt (wpAny_bind ?_))
  show wpAny _ A (do let _ <- comprehension (.ListComp elt (g :: gs) sc pos) sc env _ (newList []) (firstAsync (g :: gs)) (firstIter (g :: gs) env) (some (assign (.Name x npos) env))) _ _ s
  rw [ha, hf]
  refine wpAny_bind (wpAny_mono (ad0 (use := some (assign (.Name x npos) env)) (Q := fun _ s' => Q .next s') H hst hset hG h Rm I R fun D C F1 s1 ad1 c => ?_) (fun _ s' hq => wpAny_pure (wpAny_pure hq)) fun _ _ e => e)
  show wpAny _ A (assign (.Name x npos) env (.ref D)) _ _ _
  rw [arm_assign_Name]
  refine wpAny_bind (wpAny_standAt (wpAny_bindName (ad6 (b := b) I R c.stp c.rel c.sub c.lst c.fd c.dD hc hv fun F' s' ad' S' R' sub' S1 => ?_)))
  have nC : ¬ (frmA env ad1 C ∨ C = D) := fun q => by
   rcases q with (⟨y, e⟩ | e | ⟨_, y, _, e⟩) | e
   · exact c.own y C e rfl
   · exact Nat.ne_of_gt c.loc e
   · exact c.cells y C e rfl
   · exact c.dc e.symm
  refine hid fun z3 => ?_
  obtain ⟨m, oC, es, ep, eC, rC⟩ := c.ns
  have hn : s'.heap.Ns C m := ⟨oC, es, ep, S1.keep C oC eC nC c.tc, rC⟩
  have fC : F' C = none := by
   cases e : F' C with
   | none => rfl
   | some o =>
    rcases S1.new C o e with q | q | q
    · rw [c.fc] at q; cases q
    · exact absurd q nC
    · exact absurd rfl (q.ne eC)
  refine z3 ?_
  refine ⟨m, hn, fun h' hb => ?_⟩
  have hk : ∀ a o, a ≠ C -> s'.heap.get? a = some o -> h'.get? a = some o := fun a o q e => (hb.2 a q).trans e
  refine hQ .next F' _ ad' (S'.past (wr := (· = C)) (tk := s'.toks) (fun a q => q ▸ ⟨c.dC, fC, c.tc⟩) hk) ?_ (fun y a e => (sub' y a e).elim (fun q => .inl (c.sub y a q)) fun q => .inr (q ▸ c.dD)) rfl
  have R'' := R'.but hk c.loc (fun y a e => (sub' y a e).elim (c.own y a) fun q z => c.dc (q.symm.trans z)) c.cells c.frame
  cases b <;> exact R''
end
end
section
open PySem PySem.Calls PyProof.Rows
open Sem (wp)
set_option tactic.hygienic false
theorem acm : typeLookup (.type "zip") "__getattr__" = pure none := by rw [typeLookup_type, builtinLookup_eq_fast]; ext
theorem adw : typeLookup (.type "zip") "keys" = pure none := by rw [typeLookup_type, builtinLookup_eq_fast]; ext
theorem ad7 : entryFor table "zip.__getattribute__" = some Builtin.«object.__getattribute__» :=
 entryFor_alias (id' := "object.__getattribute__") (by ext) (by decide +kernel) (by decide +kernel) (by ext)
theorem ad8 (a : Addr) (xs : Array Value) (sl : Array (Option Value)) (name : Str) (u : Tok) (hmiss : typeLookup (.type "zip") name = pure none) (hname : (["__module__", "__name__", "__qualname__", "__doc__", "__annotations__"] : List Str).contains name = false) (hsz : name.length + 100 ≤ sizeLine := by size_fits) :
 Meets (Builtin.«object.__getattribute__» ⟨[.ref a, .str name u], []⟩) (fun A R s => s.heap.get? a = some { cls := .type "zip", dict := none, data := .fields xs, slots := sl } ∧ raisesAttr (.ref a) name A R s) :=
 Meets.of_wp fun prog w A R s hs => by
  obtain ⟨hp, g, d, tk, os⟩ := s
  obtain ⟨hx, hs⟩ := hs
  have hT : (⟨hp, g, d, tk, os⟩ : Shared).TypeIs (.ref a) "zip" := ⟨_, hx, rfl⟩
  unfold Builtin.«object.__getattribute__»
  repeat (any_goals (first | assumption | wp_step))
  simp only [hname, Bool.false_eq_true, if_false]
  repeat (any_goals (first | assumption | wp_step))
  exact wpAny_raiseAttrError hs.1 hs.2 (attrMsg_fits (by decide +kernel) hsz)
set_option maxRecDepth 100000 in
theorem ahp {prog : Program} {w : World} {A : Around} {E : VP} {s : Shared} {a : Addr} {o : Obj} {xs : Array Value} {name : Str} {Q : Option Value -> Shared -> Prop}
 (hx : s.heap.get? a = some o) (hc : o.cls = .type "zip") (hdat : o.data = .fields xs) (hd : o.dict = none) (hmiss : typeLookup (.type "zip") name = pure none) (hname : (["__module__", "__name__", "__qualname__", "__doc__", "__annotations__"] : List Str).contains name = false) (hA : A.handled = none)
 (h : ∀ h' tk e, Heap.NewExcOf s.heap h' e "AttributeError" -> Q none { s with heap := h', toks := tk }) (hsz : name.length + 100 ≤ sizeLine := by size_fits) :
 wpAny (model prog w) A (getAttr? (.ref a) name) Q E s := by
 obtain ⟨c, dct, dat, sl⟩ := o
 simp only at hc hdat hd
 subst hc hdat hd
 obtain ⟨hp, g, d, tk, os⟩ := s
 have hT : ∀ tk', (⟨hp, g, d, tk', os⟩ : Shared).TypeIs (.ref a) "zip" := fun _ => ⟨_, hx, rfl⟩
 have f1 := sub_AttributeError
 have f3 := F.slot_zip_getattribute.lookup
 have f4 := F.slot_zip_getattribute.bind (.ref a)
 have f5 := acm
 unfold getAttr? getAttrBy? getAttrBy
 repeat (any_goals (first | assumption | exact hT _ | ((with_reducible show wpAny _ _ (call (Value.builtin "zip.__getattribute__") _ _) _ _ _); refine call_meets F.slot_zip_getattribute (hT _) ad7 (F.args_zip_getattribute_2 _ _) (ad8 a xs sl name _ hmiss hname hsz) ⟨hx, hA, fun h' tk' e hx' => ?_⟩) | wp_step))
 obtain ⟨t', u', he⟩ := hx'.there
 show wpAny _ _ (getattributeRaised _ _ _ _ _ _ _) _ _ _
 unfold getattributeRaised
 repeat (any_goals (first | assumption | wp_step))
 exact h _ _ _ hx'.of
open Sem (wp)
section
variable {prog : Program} {w : World} {A : Around} {E : VP} {s : Shared}
abbrev IsZipL (h : Heap) (z TI TO T : Addr) (f : Bool) : Prop :=
 h.get? z = some { cls := .type "zip", dict := none, data := .fields #[rawInt T, .bool f, .bool false, .ref TI, .ref TO], slots := #[] }
set_option tactic.hygienic false
theorem ahq {M : Model} {a : Addr} {Q : Option Obj -> Shared -> Prop} (h : Q (s.heap.get? a) s) : wpAny M A (loadIfAlive a) Q E s := fun Γ p hΓ => by
 exact h
theorem agc {z TI TO T : Addr} {f : Bool} {o : Obj} {Q : Bool -> Shared -> Prop} (hz : IsZipL s.heap z TI TO T f) (hT : s.heap.get? T = some o) (hTz : T ≠ z)
 (hQ : ∀ h', IsZipL h' z TI TO T true -> Heap.SameBut z s.heap h' -> Q false { s with heap := h' }) : wpAny (model prog w) A (Builtin.SmallTypes.ownedTupleIsFree (.ref z)) Q E s := by
 unfold Builtin.SmallTypes.ownedTupleIsFree
 refine wpAny_bind (wpAny_field hz rfl (x := rawInt T) rfl ?_)
 show wpAny _ _ (loadIfAlive ((T : Int).toNat) >>= _) _ _ _
 refine wpAny_bind (ahq ?_)
 rw [Int.toNat_natCast, hT]
 simp only [Option.isNone_some, Bool.false_eq_true, if_false]
 refine wpAny_bind (wpAny_field hz rfl (x := .bool f) rfl ?_)
 cases f with
 | true =>
  rw [if_neg (by simp)]
  exact wpAny_pure (hQ s.heap hz (Heap.SameBut.refl _ _))
 | false =>
  rw [if_pos (by simp)]
  exact wpAny_bind (wpAny_setField_rec hz (by simp) fun h' hz' hs' => wpAny_pure (hQ h' hz' hs'))
theorem agd {z TI TO T i1 i2 l1 l2 : Addr} {f : Bool} {o : Obj} {k1 k2 : Nat} {xs ys : Array Value} {x y : Value} {Q : VP} (D : ZipApart z TI TO i1 i2 l1 l2)
 (hz : IsZipL s.heap z TI TO T f) (hT : s.heap.get? T = some o) (hTz : T ≠ z) (hTI : IsPair s.heap TI (.ref i1) (.ref i2))
 (h1 : s.heap.IsListIter i1 l1 k1) (h2 : s.heap.IsListIter i2 l2 k2) (hl1 : s.heap.IsList l1 xs) (hl2 : s.heap.IsList l2 ys) (hx : xs[k1]? = some x) (hy : ys[k2]? = some y)
 (hQ : ∀ h', IsZipL h' z TI TO T true -> h'.IsListIter i1 l1 (k1 + 1) -> h'.IsListIter i2 l2 (k2 + 1) -> IsPair h' s.heap.objs.size x y -> h'.objs.size = s.heap.objs.size + 1 ->
  (∀ c o, c ≠ z -> c ≠ i1 -> c ≠ i2 -> s.heap.get? c = some o -> h'.get? c = some o) -> Q (.ref s.heap.objs.size) { s with heap := h' }) :
 wpAny (model prog w) A (Builtin.«zip.__next__» ⟨[.ref z], []⟩) (fun fin s' => ∃ v, fin = .done (.ret v) ∧ Q v s') E s := by
 show wpAny _ _ (field (.ref z) 2 >>= _) _ _ _
 refine wpAny_bind (wpAny_field hz rfl (x := .bool false) rfl ?_)
 show wpAny _ _ (field (.ref z) 3 >>= _) _ _ _
 refine wpAny_bind (wpAny_field hz rfl (x := .ref TI) rfl ?_)
 refine wpAny_bind (wpAny_seqItems hTI rfl ?_)
 show wpAny _ _ (Builtin.SmallTypes.ownedTupleIsFree (.ref z) >>= _) _ _ _
 refine wpAny_bind (agc hz hT hTz fun h1z hz1 hs1 => ?_)
 simp only [Bool.false_eq_true, if_false]
 refine wpAny_bind ?_
 simp only [<- Array.forIn_toList, List.forIn_cons, List.forIn_nil]
 refine wpAny_bind (wpAny_bind (wpAny_holding ?_))
 show wpAny _ _ (Builtin.SmallTypes.nextOf (.ref i1) >>= _) _ _ _
 refine wpAny_bind (wpAny_nextOf_list_item (h1.extBut hs1.extBut D.i1z) (hl1.extBut hs1.extBut D.l1z) hx fun h2z h12 hs2 => wpAny_pure ?_)
 refine wpAny_pure ?_
 dsimp only
 refine wpAny_bind (wpAny_bind (wpAny_holding ?_))
 show wpAny _ _ (Builtin.SmallTypes.nextOf (.ref i2) >>= _) _ _ _
 refine wpAny_bind (wpAny_nextOf_list_item ((h2.extBut hs1.extBut D.i2z).extBut hs2.extBut D.i12.symm) ((hl2.extBut hs1.extBut D.l2z).extBut hs2.extBut D.l2i1) hy fun h4 h24 hs4 => wpAny_pure ?_)
 refine wpAny_pure ?_
 dsimp only
 refine wpAny_pure ?_
 dsimp only
 refine wpAny_bind (wpAny_newTuple ?_ (by show 2 ≤ sizeLine; decide))
 have hsz : h4.objs.size = s.heap.objs.size := by rw [hs4.1, hs2.1, hs1.1]
 have hz4 : IsZipL h4 z TI TO T true := hs4.extBut _ _ D.i2z.symm (hs2.extBut _ _ D.i1z.symm hz1)
 have hk4 : ∀ c o, c ≠ z -> c ≠ i1 -> c ≠ i2 -> s.heap.get? c = some o -> h4.get? c = some o := fun c o c1 c3 c4 e => hs4.extBut _ _ c4 (hs2.extBut _ _ c3 (hs1.extBut _ _ c1 e))
 have h14 : h4.IsListIter i1 l1 (k1 + 1) := h12.extBut hs4.extBut D.i12
 refine wpAny_pure ⟨_, rfl, ?_⟩
 show Q (.ref h4.objs.size) _
 have hT8 : IsPair (h4.push { cls := .type "tuple", data := .seq #[x, y] }) h4.objs.size x y := Heap.get?_push_size _ rfl
 rw [hsz] at hT8 ⊢
 exact hQ _ (Heap.get?_push_of_some _ hz4) (h14.at fun o e => Heap.get?_push_of_some _ e) (h24.at fun o e => Heap.get?_push_of_some _ e) hT8 (by rw [Heap.size_push, hsz]) fun c o c1 c3 c4 e => Heap.get?_push_of_some _ (hk4 c o c1 c3 c4 e)
theorem ahr {z TI TO T i1 i2 l1 l2 : Addr} {f : Bool} {o : Obj} {k1 : Nat} {xs : Array Value} {Q : Fin -> Shared -> Prop} (hh : A.handled = none) (D : ZipApart z TI TO i1 i2 l1 l2)
 (hz : IsZipL s.heap z TI TO T f) (hT : s.heap.get? T = some o) (hTz : T ≠ z) (hTI : IsPair s.heap TI (.ref i1) (.ref i2))
 (h1 : s.heap.IsListIter i1 l1 k1) (hl1 : s.heap.IsList l1 xs) (hx : xs[k1]? = none)
 (hE : ∀ h' e, (∀ c o, c ≠ z -> c ≠ i1 -> s.heap.get? c = some o -> h'.get? c = some o) -> (∃ o, h'.get? e = some o ∧ o.cls = .type "StopIteration") -> E (.ref e) { s with heap := h' }) :
 wpAny (model prog w) A (Builtin.«zip.__next__» ⟨[.ref z], []⟩) Q E s := by
 show wpAny _ _ (field (.ref z) 2 >>= _) _ _ _
 refine wpAny_bind (wpAny_field hz rfl (x := .bool false) rfl ?_)
 show wpAny _ _ (field (.ref z) 3 >>= _) _ _ _
 refine wpAny_bind (wpAny_field hz rfl (x := .ref TI) rfl ?_)
 refine wpAny_bind (wpAny_seqItems hTI rfl ?_)
 show wpAny _ _ (Builtin.SmallTypes.ownedTupleIsFree (.ref z) >>= _) _ _ _
 refine wpAny_bind (agc hz hT hTz fun h1z hz1 hs1 => ?_)
 simp only [Bool.false_eq_true, if_false]
 refine wpAny_bind ?_
 simp only [<- Array.forIn_toList, List.forIn_cons, List.forIn_nil]
 refine wpAny_bind (wpAny_bind (wpAny_holding ?_))
 show wpAny _ _ (Builtin.SmallTypes.nextOf (.ref i1) >>= _) _ _ _
 refine wpAny_bind (wpAny_nextOf_list_end hh (h1.extBut hs1.extBut D.i1z) (hl1.extBut hs1.extBut D.l1z) hx fun h2 e hs2 he => ?_)
 exact hE h2 e (fun c o c1 c3 x => hs2 _ _ c3 (hs1.extBut _ _ c1 x)) he
theorem afF {z TI TO T i1 i2 l1 l2 : Addr} {f : Bool} {o : Obj} {k1 k2 : Nat} {xs ys : Array Value} {x y : Value} {Q : Option Value -> Shared -> Prop} (D : ZipApart z TI TO i1 i2 l1 l2)
 (hz : IsZipL s.heap z TI TO T f) (hT : s.heap.get? T = some o) (hTz : T ≠ z) (hTI : IsPair s.heap TI (.ref i1) (.ref i2))
 (h1 : s.heap.IsListIter i1 l1 k1) (h2 : s.heap.IsListIter i2 l2 k2) (hl1 : s.heap.IsList l1 xs) (hl2 : s.heap.IsList l2 ys) (hx : xs[k1]? = some x) (hy : ys[k2]? = some y)
 (hQ : ∀ h', IsZipL h' z TI TO T true -> h'.IsListIter i1 l1 (k1 + 1) -> h'.IsListIter i2 l2 (k2 + 1) -> IsPair h' s.heap.objs.size x y -> h'.objs.size = s.heap.objs.size + 1 ->
  (∀ c o, c ≠ z -> c ≠ i1 -> c ≠ i2 -> s.heap.get? c = some o -> h'.get? c = some o) -> Q (some (.ref s.heap.objs.size)) { s with heap := h' }) :
 wpAny (model prog w) A (pyNext (.ref z)) Q E s := by
 have hTT : s.TypeIs (.ref z) "zip" := ⟨_, hz, rfl⟩
 unfold pyNext
 exact wpAny_bind (wpAny_attempt (wpAny_callSpecial?_slot (name := Str.ofString "__next__") hTT F.slot_zip_next
  (wpAny_call_entry F.slot_zip_next hTT F.entry_zip_next
   (agd D hz hT hTz hTI h1 h2 hl1 hl2 hx hy fun h' a1 a2 a3 a4 a5 a6 => wpAny_pure (hQ h' a1 a2 a3 a4 a5 a6)) (F.args_zip_next_1 _))))
theorem age {z TI TO T i1 i2 l1 l2 : Addr} {f : Bool} {o : Obj} {k1 : Nat} {xs : Array Value} {Q : Option Value -> Shared -> Prop} (hh : A.handled = none) (D : ZipApart z TI TO i1 i2 l1 l2)
 (hz : IsZipL s.heap z TI TO T f) (hT : s.heap.get? T = some o) (hTz : T ≠ z) (hTI : IsPair s.heap TI (.ref i1) (.ref i2))
 (h1 : s.heap.IsListIter i1 l1 k1) (hl1 : s.heap.IsList l1 xs) (hx : xs[k1]? = none)
 (hQ : ∀ h', (∀ c o, c ≠ z -> c ≠ i1 -> s.heap.get? c = some o -> h'.get? c = some o) -> Q none { s with heap := h' }) : wpAny (model prog w) A (pyNext (.ref z)) Q E s := by
 have hTT : s.TypeIs (.ref z) "zip" := ⟨_, hz, rfl⟩
 unfold pyNext
 refine wpAny_bind (wpAny_attempt (wpAny_callSpecial?_slot (name := Str.ofString "__next__") hTT F.slot_zip_next
  (wpAny_call_entry F.slot_zip_next hTT F.entry_zip_next (ahr hh D hz hT hTz hTI h1 hl1 hx fun h' e hk he => ?_) (F.args_zip_next_1 _))))
 obtain ⟨o, ho, hc⟩ := he
 refine wpAny_bind (wpAny_isInstance (T := "StopIteration") (b := true) ⟨o, ho, hc⟩ isSubtype_stop ?_)
 exact wpAny_pure (hQ _ hk)
end
set_option tactic.hygienic false
theorem agf (kvs : List (Str × Value)) (k : Str) (v : Value) : (stored kvs k v).length ≤ kvs.length + 1 := by
 unfold stored
 split
 · rw [List.length_map]; exact Nat.le_succ _
 · rw [List.length_append]; exact Nat.le_refl _
structure ZSt (z TI TO i1 i2 l1 l2 : Addr) (xs ys : Array Value) (i : Nat) (h : Heap) : Prop where
 ti : IsPair h TI (.ref i1) (.ref i2)
 it1 : h.IsListIter i1 l1 i
 it2 : h.IsListIter i2 l2 i
 ls1 : h.IsList l1 xs
 ls2 : h.IsList l2 ys
 z0 : (IsZip h z TI TO .none ∧ ∃ a b, IsPair h TO a b) ∨ ∃ T f o, IsZipL h z TI TO T f ∧ h.get? T = some o ∧ T ≠ z
section
variable {W : Wd} {F : FH} {A : Around} {E : VP} {z TI TO i1 i2 l1 l2 d : Addr} {xs ys : Array Value}
set_option tactic.hygienic true
theorem ZSt.next {i : Nat} {s : Shared} (D : ZipApart z TI TO i1 i2 l1 l2) (Z : ZSt z TI TO i1 i2 l1 l2 xs ys i s.heap) {x y : Value} (hx : xs[i]? = some x) (hy : ys[i]? = some y) {Q : Option Value -> Shared -> Prop}
 (hQ : ∀ h', ZSt z TI TO i1 i2 l1 l2 xs ys (i + 1) h' -> IsPair h' s.heap.objs.size x y -> (∀ c o, c ≠ z -> c ≠ TO -> c ≠ i1 -> c ≠ i2 -> s.heap.get? c = some o -> h'.get? c = some o) -> Q (some (.ref s.heap.objs.size)) { s with heap := h' }) :
 wpAny (model W.prog W.w) A (pyNext (.ref z)) Q E s := by
 have fresh : ∀ {c o}, s.heap.get? c = some o -> s.heap.objs.size ≠ c := fun e => Nat.ne_of_gt (Heap.lt_size e)
 refine hid fun z0 => ?_
 rcases Z.z0 with ⟨hz, a, b, hTO⟩ | ⟨T, f, o, hz, hT, hTz⟩
 · refine z0 ?_
   refine wpAny_pyNext_zip_item D hz Z.ti hTO Z.it1 Z.it2 Z.ls1 Z.ls2 hx hy fun h' a1 a2 a3 a4 a5 a6 hk => ?_
   refine hQ h' ⟨hk _ _ D.TIz D.TITO D.TIi1 D.TIi2 Z.ti, a3, a4, Z.ls1.at fun o e => hk _ o D.l1z D.l1TO D.l1i1 D.l1i2 e, Z.ls2.at fun o e => hk _ o D.l2z D.l2TO D.l2i1 D.l2i2 e,
    .inr ⟨s.heap.objs.size, false, _, a1, a5, fresh hz⟩⟩ a5 hk
 · refine z0 ?_
   refine afF D hz hT hTz Z.ti Z.it1 Z.it2 Z.ls1 Z.ls2 hx hy fun h' a1 a3 a4 a5 a6 hk => ?_
   have hT' : ∃ o, h'.get? T = some o := by
    refine hid fun z1 => ?_
    by_cases h1 : T = i1
    · obtain ⟨o', e, _⟩ := a3; refine z1 ?_; exact ⟨o', h1 ▸ e⟩
    · by_cases h2 : T = i2
      · obtain ⟨o', e, _⟩ := a4; refine z1 ?_; exact ⟨o', h2 ▸ e⟩
      · refine z1 ?_
        exact ⟨o, hk T o hTz h1 h2 hT⟩
   obtain ⟨o', hT'⟩ := hT'
   exact hQ h' ⟨hk _ _ D.TIz D.TIi1 D.TIi2 Z.ti, a3, a4, Z.ls1.at fun o e => hk _ o D.l1z D.l1i1 D.l1i2 e, Z.ls2.at fun o e => hk _ o D.l2z D.l2i1 D.l2i2 e,
    .inr ⟨T, true, o', a1, hT', hTz⟩⟩ a5 fun c o c1 _ c3 c4 e => hk c o c1 c3 c4 e
set_option tactic.hygienic false
theorem ZSt.stop {i : Nat} {s : Shared} (hh : A.handled = none) (D : ZipApart z TI TO i1 i2 l1 l2) (Z : ZSt z TI TO i1 i2 l1 l2 xs ys i s.heap) (hx : xs[i]? = none) {Q : Option Value -> Shared -> Prop}
 (hQ : ∀ h', (∀ c o, c ≠ z -> c ≠ TO -> c ≠ i1 -> c ≠ i2 -> s.heap.get? c = some o -> h'.get? c = some o) -> Q none { s with heap := h' }) :
 wpAny (model W.prog W.w) A (pyNext (.ref z)) Q E s := by
 refine hid fun z0 => ?_
 rcases Z.z0 with ⟨hz, a, b, hTO⟩ | ⟨T, f, o, hz, hT, hTz⟩
 · refine z0 ?_
   exact wpAny_pyNext_zip_end hh D hz Z.ti hTO Z.it1 Z.it2 Z.ls1 Z.ls2 (.inl hx) hQ
 · refine z0 ?_
   exact age hh D hz hT hTz Z.ti Z.it1 Z.ls1 hx fun h' hk => hQ h' fun c o c1 _ c3 _ e => hk c o c1 c3 e
theorem ZSt.but {i : Nat} {h h' : Heap} (Z : ZSt z TI TO i1 i2 l1 l2 xs ys i h) (hs : Heap.SameBut d h h') (hd : ∃ o, h'.get? d = some o) (n1 : z ≠ d) (n2 : TI ≠ d) (n3 : TO ≠ d) (n4 : i1 ≠ d) (n5 : i2 ≠ d) (n6 : l1 ≠ d) (n7 : l2 ≠ d) :
 ZSt z TI TO i1 i2 l1 l2 xs ys i h' := by
 refine ⟨hs.extBut _ _ n2 Z.ti, Z.it1.extBut hs.extBut n4, Z.it2.extBut hs.extBut n5, Z.ls1.extBut hs.extBut n6, Z.ls2.extBut hs.extBut n7, ?_⟩
 refine hid fun z0 => ?_
 rcases Z.z0 with ⟨hz, a, b, hTO⟩ | ⟨T, f, o, hz, hT, hTz⟩
 · refine z0 ?_
   exact .inl ⟨hs.extBut _ _ n1 hz, a, b, hs.extBut _ _ n3 hTO⟩
 · by_cases e : T = d
   · obtain ⟨o', q⟩ := hd
     refine z0 ?_
     exact .inr ⟨T, f, o', hs.extBut _ _ n1 hz, e ▸ q, hTz⟩
   · refine z0 ?_
     exact .inr ⟨T, f, o, hs.extBut _ _ n1 hz, hs.extBut _ _ e hT, hTz⟩
theorem abI : entryFor table "dict.update.loop" = some Builtin.«dict.update.loop» := entryFor_of_tree (by ext)
theorem aaY : plainId "dict.update.loop" = true := by decide +kernel
set_option tactic.hygienic true
theorem ai1 (D : ZipApart z TI TO i1 i2 l1 l2) (n1 : z ≠ d) (n2 : TI ≠ d) (n3 : TO ≠ d) (n4 : i1 ≠ d) (n5 : i2 ≠ d) (n6 : l1 ≠ d) (n7 : l2 ≠ d) (hh : A.handled = none) :
 ∀ (cks cvs : List CV) (es es' : List (SS × CV)) (i : Nat) (s : Shared) (kvs : List (Str × Value)) (R : Result -> Shared -> Prop), cks.length = cvs.length -> dictOf cks cvs (some es) = some es' ->
  RVs W.prog W.w F cks (xs.toList.drop i) -> RVs W.prog W.w F cvs (ys.toList.drop i) -> ZSt z TI TO i1 i2 l1 l2 xs ys i s.heap -> s.heap.DictOf (PySem.strKind W.prog W.w) d kvs -> RVd W.prog W.w F es kvs -> kvs.length + cks.length ≤ sizeLine ->
  (∀ h' tk kvs', h'.DictOf (PySem.strKind W.prog W.w) d kvs' -> RVd W.prog W.w F es' kvs' -> (∀ c o, c ≠ z -> c ≠ TO -> c ≠ i1 -> c ≠ i2 -> c ≠ d -> s.heap.get? c = some o -> h'.get? c = some o) -> R (.ok (.ret .none)) { s with heap := h', toks := tk }) ->
  codeAny (model W.prog W.w) A (.builtin "dict.update.loop" ⟨[.ref d, .ref z, rawInt i, .none], []⟩) R s := by
 intro cks
 induction cks with
 | nil =>
  intro cvs es es' i s kvs R hl hdo hks hvs Z hd hr hsz hR
  refine hid fun z0 => ?_
  obtain rfl : cvs = [] := List.length_eq_zero_iff.mp hl.symm
  cases hdo
  have hx : xs[i]? = none := by
   simp only [RVs, List.drop_eq_nil_iff] at hks
   exact Array.getElem?_eq_none (by simpa using hks)
  refine z0 ?_
  refine codeAny_builtin abI ?_
  rw [Around.under_plainId aaY]
  show wpAny _ _ (pyNext (.ref z) >>= _) _ _ _
  refine wpAny_bind (ZSt.stop (W := W) (A := A.in1) hh D Z hx fun h' hk => ?_)
  show wpAny _ _ (Builtin.Dict.addKeywords d [] >>= _) _ _ _
  refine wpAny_bind (wpAny_pure (wpAny_pure ?_))
  exact hR h' s.toks kvs (hd.at fun o e => hk d o (Ne.symm n1) (Ne.symm n3) (Ne.symm n4) (Ne.symm n5) e) hr fun c o c1 c2 c3 c4 _ e => hk c o c1 c2 c3 c4 e
 | cons ck cks ih =>
  intro cvs es es' i s kvs R hl hdo hks hvs Z hd hr hsz hR
  refine hid fun z1 => ?_
  cases cvs with
  | nil => cases hl
  | cons cv cvs =>
  have hck : ∃ k, ck = .str k := by
   cases ck with
   | str k => exact ⟨k, rfl⟩
   | _ => cases hdo
  obtain ⟨k, rfl⟩ := hck
  replace hdo : dictOf cks cvs (some (dput es k cv)) = some es' := hdo
  obtain ⟨x, xr, ex, rx, hks⟩ := hks
  obtain ⟨y, yr, ey, ry, hvs⟩ := hvs
  obtain ⟨t, rfl⟩ := rx
  have hx : xs[i]? = some (.str k.s t) := by
   have := congrArg (fun l : List Value => l[0]?) ex
   simpa using this
  have hy : ys[i]? = some y := by
   have := congrArg (fun l : List Value => l[0]?) ey
   simpa using this
  have exr : xs.toList.drop (i + 1) = xr := by rw [<- List.tail_drop, ex]; rfl
  have eyr : ys.toList.drop (i + 1) = yr := by rw [<- List.tail_drop, ey]; rfl
  refine z1 ?_
  refine codeAny_builtin abI ?_
  rw [Around.under_plainId aaY]
  show wpAny _ _ (pyNext (.ref z) >>= _) _ _ _
  refine wpAny_bind (ZSt.next (W := W) (A := A.in1) D Z hx hy fun h' Z' hT hk => ?_)
  generalize s.heap.objs.size = T at hT
  have hd' : h'.DictOf (PySem.strKind W.prog W.w) d kvs := hd.at fun o e => hk d o (Ne.symm n1) (Ne.symm n3) (Ne.symm n4) (Ne.symm n5) e
  dsimp only
  refine wpAny_bind (wpAny_holding (wpAny_bind (wpAny_tryCatch ?_)))
  unfold Builtin.Dict.pairItems
  refine wpAny_bind (wpAny_typeOf (s := { s with heap := h' }) ⟨_, hT, rfl⟩ ?_)
  rw [if_pos (by decide)]
  refine wpAny_bind (wpAny_seqItems hT rfl (wpAny_pure ?_))
  show wpAny _ _ (PySem.holding _ (dictSet d (.str k.s t) y)) _ _ _
  refine wpAny_holding (wpAny_dictSet_pairs (knd := PySem.strKind W.prog W.w) (k := k.s) (by simp [PySem.strKind, Value.isStrOf]) hd' (fun h'' hd'' hs'' => wpAny_pure ?_) (Nat.le_trans (Nat.le_add_right _ _) hsz))
  refine ⟨plainId_quiet aaY _, ?_⟩
  have hdx : ∃ o, h''.get? d = some o := by obtain ⟨o, _, _, e, _⟩ := hd''; exact ⟨o, e⟩
  have hnd : (kvs.map (·.1)).Nodup := let ⟨_, _, _, _, _, _, _, _, n⟩ := hd; n
  refine ih cvs (dput es k cv) es' (i + 1) { s with heap := h'', toks := s.toks + 1 } (stored kvs k.s y) R (by simpa using hl) hdo (exr ▸ hks) (eyr ▸ hvs) (Z'.but hs'' hdx n1 n2 n3 n4 n5 n6 n7) hd'' (RVd.put ry hnd hr) ?_ ?_
  · have := agf kvs k.s y
    simp only [List.length_cons] at hsz
    lia
  · intro hf tk kvs' a b c
    exact hR hf tk kvs' a b fun c' o c1 c2 c3 c4 c5 e => c c' o c1 c2 c3 c4 c5 (hs''.extBut _ _ c5 (hk c' o c1 c2 c3 c4 e))
end
set_option tactic.hygienic false
theorem aet (n l1 l2 : Nat) (b1 : l1 < n) (b2 : l2 < n) : ZipApart (n + 4) (n + 2) (n + 3) n (n + 1) l1 l2 := by
 constructor <;> first | exact Nat.ne_of_gt (by lia) | exact Nat.ne_of_lt (by lia)
section
variable {W : Wd} {F F' : FH} {s s' : Shared} {env : Env} {ρ : CE} {ad : Str -> Option Addr} {M : Addr -> Prop} {A : Around} {E : VP} {G : GE} {k : Nat} {S : SM}
set_option tactic.hygienic false
theorem ai2 (H : EvOK W k S.ev) (hst : ∀ x p ρ, S.ev (.Starred x p) ρ = none) {x y : Expr} {pos : Pos} {ρ' : CE} {c d : CV} (h : S.ev2 x y ρ = some (c, d, ρ')) (Rm : Room A k) (I : Inv W F s) (R : Rel W F s.heap env ρ ad)
 {Q : List Value -> Shared -> Prop}
 (hQ : ∀ v u F' s' ad', Stp W (ownA ad) F F' s s' -> Rel W F' s'.heap env ρ' ad' -> (∀ x a, ad' x = some a -> ad x = some a) -> CvAt W F' s'.heap c v -> CvAt W F' s'.heap d u -> Q [v, u] s') :
 (backTo pos (starEach [x, y] env)).all (fun x => !x.1) = true ∧ wpAny (model W.prog W.w) A (spliced (backTo pos (starEach [x, y] env))) Q E s := by
 unfold SM.ev2 at h
 refine hid fun z0 => ?_
 cases h1 : S.ev x ρ with
 | none => rw [h1] at h; cases h
 | some p =>
  obtain ⟨a, ρ1⟩ := p
  rw [h1] at h
  dsimp only at h
  cases h2 : S.ev y ρ1 with
  | none => rw [h2] at h; cases h
  | some p =>
   obtain ⟨b, ρ2⟩ := p
   rw [h2] at h
   dsimp only at h
   cases h3 : deref ρ2 a with
   | none => rw [h3] at h; cases h
   | some u =>
    cases h4 : deref ρ2 b with
    | none => rw [h3, h4] at h; cases h
    | some v =>
     rw [h3, h4] at h
     cases h
     refine z0 ?_
     refine ⟨abf hst (es := [x, y]) (ρ := ρ) (as := [a, b]) (ρ' := ρ') (aaU h1 (aaU h2 rfl)), ?_⟩
     refine ac6 H hst h1 Rm I R fun v F1 s1 ad1 S1 R1 sub1 r1 => ?_
     refine ac6 H hst h2 Rm S1.inv R1 fun u F2 s2 ad2 S2 R2 sub2 r2 => aao ?_
     exact hQ v u F2 s2 ad2 (S1.trans S2 (aag sub1)) R2 (fun x a q => sub1 x a (sub2 x a q)) (aaV R2 h3 (EVR.step S1.inv R1 S2 r1)) (aaV R2 h4 r2)
theorem adx {z TI TO i1 i2 l1 l2 : Addr} {xs ys : Array Value} {cks cvs : List CV} {es : List (SS × CV)} {Q : VP} (D : ZipApart z TI TO i1 i2 l1 l2) (hh : A.handled = none)
 (hl : cks.length = cvs.length) (hdo : dictOf cks cvs (some []) = some es) (hks : RVs W.prog W.w F cks xs.toList) (hvs : RVs W.prog W.w F cvs ys.toList) (Z : ZSt z TI TO i1 i2 l1 l2 xs ys 0 s.heap) (hz : IsZip s.heap z TI TO .none) (hTO : ∃ a b, IsPair s.heap TO a b)
 (hsz : cks.length ≤ sizeLine)
 (hQ : ∀ h' tk d kvs', Fre s.heap d -> h'.DictOf (PySem.strKind W.prog W.w) d kvs' -> RVd W.prog W.w F es kvs' -> (∀ c o, c ≠ z -> c ≠ TO -> c ≠ i1 -> c ≠ i2 -> s.heap.get? c = some o -> h'.get? c = some o) -> Q (.ref d) { s with heap := h', toks := tk }) :
 wpAny (model W.prog W.w) A (call (.type "dict") [.ref z]) Q E s := by
 refine callType_codes (Q₁ := fun obj s1 => obj = .ref s.heap.objs.size ∧ s1 = { s with heap := s.heap.push { cls := .type "dict", data := .dict #[] } }) PySem.F.kt_called_dict (PySem.F.kt_typeCall_dict_1 _) PySem.F.entry_dict_init (kt_code_dict_new _ ⟨rfl, rfl⟩) ?_
 rintro obj s1 ⟨rfl, rfl⟩
 generalize hd : s.heap.objs.size = d
 have fd : Fre s.heap d := Fre.size _ (hd ▸ Nat.le_refl _)
 have hnew : (s.heap.push { cls := .type "dict", data := .dict #[] }).DictOf (PySem.strKind W.prog W.w) d [] := hd ▸ Heap.DictOf.new s.heap
 have hk : ∀ c o, s.heap.get? c = some o -> (s.heap.push { cls := .type "dict", data := .dict #[] }).get? c = some o := aal _
 generalize s.heap.push { cls := .type "dict", data := .dict #[] } = h1 at hnew hk ⊢
 have hz1 := hk _ _ hz
 have hTz : ({ s with heap := h1 } : Shared).TypeIs (.ref z) "zip" := ⟨_, hz1, rfl⟩
 refine ⟨hnew.typeIs, PySem.F.args_dict_init_2 _ _, ?_⟩
 unfold Builtin.«dict.__init__»
 refine wpAny_bind ?_
 unfold Builtin.Dict.selfAndRest
 refine wpAny_bind (wpAny_notOrdered_dict hnew.typeIs ?_)
 show wpAny _ _ (pure (d, [Value.ref z])) _ _ _
 refine wpAny_pure ?_
 show wpAny _ _ (Builtin.Dict.updateFrom "dict.__init__" d (.ref z) [] .none) _ _ _
 unfold Builtin.Dict.updateFrom
 refine wpAny_bind (wpAny_typeOf hTz ?_)
 rw [if_pos (by decide)]
 refine wpAny_bind (ahp hz1 rfl rfl rfl adw (by decide) hh fun h2 tk e hx => ?_)
 have hk2 : ∀ c o, s.heap.get? c = some o -> h2.get? c = some o := fun c o q => hx.keeps c o (hk c o q)
 have ne : ∀ {c o}, s.heap.get? c = some o -> c ≠ d := fun q z => fd.ne q z.symm
 simp only [Option.isNone_none, if_true]
 refine wpAny_bind (wpAny_rule (wpAny_bind (wpAny_pyIter_zip (hk2 _ _ hz) ?_)))
 refine wpAny_pure ⟨plainId_quiet aaY _, ?_⟩
 obtain ⟨a, b, hTO⟩ := hTO
 refine ai1 (A := A.in1) (F := F) D (ne hz) (ne Z.ti) (ne hTO) (let ⟨_, e, _⟩ := Z.it1; ne e) (let ⟨_, e, _⟩ := Z.it2; ne e) (let ⟨_, e, _⟩ := Z.ls1; ne e) (let ⟨_, e, _⟩ := Z.ls2; ne e) hh cks cvs [] es 0
  { s with heap := h2, toks := tk } [] _ hl hdo hks hvs ?_ (hnew.at fun o q => hx.keeps _ o q) (rfl) (by simpa using hsz) fun h' tk' kvs' a b c => ?_
 · exact ⟨hk2 _ _ Z.ti, Z.it1.at fun o q => hk2 _ o q, Z.it2.at fun o q => hk2 _ o q, Z.ls1.at fun o q => hk2 _ o q, Z.ls2.at fun o q => hk2 _ o q, .inl ⟨hk2 _ _ hz, a, b, hk2 _ _ hTO⟩⟩
 · exact ⟨rfl, hQ h' tk' d kvs' fd a b fun c' o c1 c2 c3 c4 q => c c' o c1 c2 c3 c4 (ne q) (hk2 c' o q)⟩
theorem ahs (H : EvOK W k S.ev) (hst : ∀ x p ρ, S.ev (.Starred x p) ρ = none) (hG : GOK W k G) {f g : Str} {p pos p' pos' : Pos} {x y : Expr} {ks vs : List CV} {es : List (SS × CV)} {ρ' : CE} (hb : isBlt G ρ f = true) (hf : (f == nDict) = true)
 (hbg : isBlt G ρ g = true) (hg : (g == nZip) = true)
 (h : S.ev2 x y ρ = some (.list ks, .list vs, ρ')) (hle : Nat.ble ks.length LIM = true) (hl : ks.length = vs.length) (hdo : dictOf ks vs (some []) = some es) (Rm : Room A k) (I : Inv W F s) (R : Rel W F s.heap env ρ ad) {Q : VP} (hQ : MkPost W env ad F s (.dict es) ρ' Q) :
 wpAny (model W.prog W.w) A (eval (.Call (.Name f p) [.Call (.Name g p') [x, y] [] pos'] [] pos) env) Q E s := by
 obtain rfl := beq_iff_eq.mp hf
 obtain rfl := beq_iff_eq.mp hg
 refine aaX hG (id := .type "dict") rfl hb (by decide) (by decide) I R rfl ?_
 rw [aat (by intro _ _ q; cases q)]
 obtain ⟨hp, hw⟩ := ai2 (pos := pos') (E := E) (Q := fun us s2 => wpAny (model W.prog W.w) A (call (.type "zip") us) (fun v s3 => wpAny (model W.prog W.w) A (call (.type "dict") [v]) Q E s3) E s2) H hst h Rm I R fun v u F1 s1 ad1 S1 R1 sub1 hv hu => by
  refine hid fun z2 => ?_
  obtain ⟨l1, ob1, vs1, rfl, e1, L1, q1⟩ := aaK S1.inv hv
  obtain ⟨l2, ob2, vs2, rfl, e2, L2, q2⟩ := aaK S1.inv hu
  have b1 := Heap.lt_size e1
  have b2 := Heap.lt_size e2
  refine z2 ?_
  refine call_zip_2 (L1.isList e1) (L2.isList e2) fun h' z1 z2 z3 z4 z5 z6 hk => ?_
  have S2 := Stp.ofKeep (tk := s1.toks) S1.inv hk
  have D : ZipApart (s1.heap.objs.size + 4) (s1.heap.objs.size + 2) (s1.heap.objs.size + 3) s1.heap.objs.size (s1.heap.objs.size + 1) l1 l2 := aet _ _ _ b1 b2
  refine adx (F := F1) (cks := ks) (cvs := vs) (xs := vs1.toArray) (ys := vs2.toArray) D Rm.hh hl hdo (by simpa using q1) (by simpa using q2)
   ⟨z2, z4, z5, (L1.isList e1).at fun o q => hk _ o q, (L2.isList e2).at fun o q => hk _ o q, .inl ⟨z1, _, _, z3⟩⟩ z1 ⟨_, _, z3⟩ (Nat.le_of_ble_eq_true hle) fun h'' tk d kvs' fd hd hr hk' => ?_
  have nw : ∀ {c o} (n : Nat), s1.heap.get? c = some o -> c ≠ s1.heap.objs.size + n := fun n q z => absurd (z ▸ Heap.lt_size q) (Nat.not_lt.mpr (Nat.le_add_right _ n))
  refine hQ.made (tk := tk) S1 R1 sub1 (fun c o q => hk' c o (nw 4 q) (nw 3 q) (nw 0 q) (nw 1 q) (hk c o q)) (S2.back fd) (OR.ofDict hd (S1.inv.notMods (S2.back fd)) hr)
 have hw' := aaX hG (p := p') (id := .type "zip") rfl hbg (by decide) (by decide) I R hp hw
 exact aax (wpAny_mono hw' (fun v s1 h1 => aao h1) fun _ _ x => x)
end
section
variable {W : Wd} {F F' : FH} {s s' : Shared} {env : Env} {ρ : CE} {ad : Str -> Option Addr} {M : Addr -> Prop} {A : Around} {E : VP} {G : GE} {k : Nat} {S : SM}
set_option tactic.hygienic true
theorem aht (H : SmOK W k S) (hst : ∀ x p ρ, S.ev (.Starred x p) ρ = none) (hG : GOK W k G) {f : Str} {p pos : Pos} {a : Expr} {o : CO} {ρ' : CE} (h : S.make G (mkBlt G ρ f a) ρ = some (o, ρ')) (Rm : Room A k)
 (I : Inv W F s) (R : Rel W F s.heap env ρ ad) {Q : VP} (hQ : MkPost W env ad F s o ρ' Q) : wpAny (model W.prog W.w) A (eval (.Call (.Name f p) [a] [] pos) env) Q E s := by
 have no : ∀ {P : Prop}, S.make G .no ρ = some (o, ρ') -> P := fun h => aab h
 generalize hm : mkBlt G ρ f a = mk at h
 unfold mkBlt at hm
 split at hm
 · refine hid fun z1 => ?_
   subst hm; exact no h
 · rename_i hb
   refine hid fun z2 => ?_
   split at hm
   · rename_i hf
     split at hm
     · rename_i g args kws p' hc
       obtain rfl := ab1 hc
       split at hm
       · rename_i g' p'' hg'
         obtain rfl := aai hg'
         split at hm
         · rename_i hg
           subst hm
           simp only [Bool.and_eq_true] at hg
           obtain rfl := List.isEmpty_iff.mp hg.2
           unfold SM.make at h
           dsimp only at h
           split at h
           · rename_i h1
             cases h
             refine z2 ?_
             exact ahh H.ev hst hG hb hf hg.1.1 hg.1.2 h1 Rm I R hQ
           · exact aab h
         · subst hm; exact no h
       · subst hm; exact no h
     · split at hm
       · rename_i hn
         obtain rfl := aai hn
         subst hm
         unfold SM.make at h
         dsimp only at h
         split at h
         · exact aab h
         rename_i h1
         split at h
         · exact aab h
         · rename_i hy
           obtain rfl := aaJ hy
           split at h
           · rename_i hle
             cases h
             refine z2 ?_
             exact ahi H.ev hst hG hb hf h1 hle Rm I R hQ
           · exact aab h
       · subst hm; exact no h
   · split at hm
     · rename_i hf
       split at hm
       · rename_i g args kws p' hc
         obtain rfl := ab1 hc
         split at hm
         · rename_i g' p'' x y hg' hl
           obtain rfl := aai hg'
           obtain rfl := acy hl
           split at hm
           · rename_i hg
             subst hm
             simp only [Bool.and_eq_true] at hg
             obtain rfl := List.isEmpty_iff.mp hg.2
             unfold SM.make at h
             dsimp only at h
             split at h
             · exact aab h
             rename_i h1
             split at h
             · rename_i hx hy
               obtain rfl := aaJ hx
               obtain rfl := aaJ hy
               split at h
               · rename_i hle
                 simp only [Bool.and_eq_true, beq_iff_eq] at hle
                 split at h
                 · rename_i hdo
                   cases h
                   refine z2 ?_
                   exact ahs H.ev hst hG hb hf hg.1.1 hg.1.2 h1 hle.1 hle.2 hdo Rm I R hQ
                 · exact aab h
               · exact aab h
             · exact aab h
           · subst hm; exact no h
         · subst hm; exact no h
       · split at hm
         · rename_i hn
           obtain rfl := aai hn
           subst hm
           unfold SM.make at h
           dsimp only at h
           split at h
           · exact aab h
           rename_i h1
           split at h
           · exact aab h
           · rename_i hy
             obtain rfl := abJ hy
             split at h
             · rename_i hle
               cases h
               refine z2 ?_
               exact ahj H.ev hst hG hb hf h1 hle Rm I R hQ
             · exact aab h
         · subst hm; exact no h
     · split at hm
       · rename_i hf
         subst hm
         unfold SM.make at h
         dsimp only at h
         split at h
         · exact aab h
         rename_i h1
         split at h
         · exact aab h
         · rename_i hy
           obtain rfl := aaJ hy
           split at h
           · rename_i hi
             split at h
             · rename_i hle
               cases h
               refine z2 ?_
               exact af8 H.ev hst hG hb hf h1 hi hle Rm I R hQ
             · exact aab h
           · exact aab h
       · subst hm; exact no h
theorem agg (H : SmOK W k S) (hst : ∀ x p ρ, S.ev (.Starred x p) ρ = none) (hset : ∀ x kd p ρ, S.ev (.Set x kd p) ρ = none) (hG : GOK W k G) {e : Expr} {o : CO} {ρ' : CE} (h : S.make G (mkOf G ρ e) ρ = some (o, ρ')) (Rm : Room A k)
 (I : Inv W F s) (R : Rel W F s.heap env ρ ad) {Q : VP} (hQ : MkPost W env ad F s o ρ' Q) : wpAny (model W.prog W.w) A (eval e env) Q E s := by
 have no : ∀ {P : Prop}, S.make G .no ρ = some (o, ρ') -> P := fun h => aab h
 cases e with
 | List es pos =>
  unfold mkOf SM.make at h
  dsimp only at h
  refine hid fun z1 => ?_
  split at h
  · exact aab h
  · rename_i avs ρ1 h1
    split at h
    · exact aab h
    · rename_i cs ρ2 h2
      split at h
      · rename_i hle
        cases h
        refine z1 ?_
        exact aiX H.ev hst h1 h2 hle Rm I R hQ
      · exact aab h
 | ListComp elt gens sc pos =>
  unfold mkOf SM.make at h
  dsimp only at h
  refine hid fun z2 => ?_
  split at h
  · rename_i cs ρ1 h1
    cases h
    refine z2 ?_
    exact aho H hst hset hG h1 Rm I R hQ
  · exact aab h
 | Dict ks vs pos =>
  refine hid fun z3 => ?_
  rcases ks with _ | ⟨k1, ks⟩
  · rcases vs with _ | ⟨v1, vs⟩
    · cases h
      refine z3 ?_
      exact ahg I R hQ
    · exact no h
  · exact no h
 | Call f args kws pos =>
  generalize hm : mkOf G ρ (.Call f args kws pos) = mk at h
  unfold mkOf at hm
  dsimp only at hm
  refine hid fun z4 => ?_
  split at hm
  · rename_i a ha hkw
    obtain rfl := aaI ha
    obtain rfl := List.isEmpty_iff.mp hkw
    split at hm
    · rename_i f' p hf
      obtain rfl := aai hf
      refine z4 ?_
      exact aht H hst hG (hm ▸ h) Rm I R hQ
    · split at hm
      · rename_i ob m apos hat
        obtain rfl := ac1 hat
        split at hm
        · rename_i hg
          subst hm
          simp only [Bool.and_eq_true] at hg
          unfold SM.make at h
          dsimp only at h
          split at h
          · exact aab h
          rename_i h1
          split at h
          · rename_i hx hy
            obtain rfl := aam hx
            obtain rfl := aam hy
            split at h
            · rename_i hle
              cases h
              refine z4 ?_
              exact ahk H.ev hst hg.1 hg.2 h1 hle Rm I R hQ
            · exact aab h
          · exact aab h
        · subst hm; exact no h
      · subst hm; exact no h
  · subst hm; exact no h
 | _ => exact no h
end
set_option tactic.hygienic true
theorem afG {pos p : Pos} {c cv : Value} (l : List Value) (h : TriplesOk l) (q : codeAmong pos (l ++ [rawInt p.line, rawInt p.col, c]) = some cv) : codeAmong pos l = some cv ∨ cv = c := by
 fun_induction TriplesOk l with
 | case1 =>
  right
  simp only [List.nil_append, codeAmong, rawInt] at q
  refine hid fun z0 => ?_
  split at q
  · refine z0 ?_
    exact (Option.some.inj q).symm
  · cases q
 | case2 a t b u x rest ih =>
  simp only [List.cons_append, codeAmong] at q ⊢
  split at q
  · rename_i hc; rw [if_pos hc]; exact .inl q
  · rename_i hc; rw [if_neg hc]; exact ih h q
 | case3 l h1 h2 => exact h.elim
section
variable {W : Wd} {F F' : FH} {s s' : Shared} {env : Env} {ρ : CE} {ad : Str -> Option Addr} {M : Addr -> Prop} {A : Around} {E : VP} {G : GE} {k : Nat} {S : SM}
set_option tactic.hygienic false
theorem agh {o : Option Slot} {c : CV} (h : fixO o = some c) : o = some (.fix c) := by
 rcases o with _ | ⟨_ | _ | _ | _ | x⟩ <;> cases h; rfl
def CgtR (W : Wd) (F : FH) (env : Env) (l : List (Str × NameKind)) (caps : List (Str × CV)) : Prop :=
 (∀ x ∈ l, x.2 = .free -> ∃ ca, env.cells.lookup x.1 = some ca ∧ ∃ o v, F ca = some o ∧ o.data = .cell v) ∧ ∀ clos : List (Str × Addr), (∀ x ∈ l, x.2 = .free -> clos.lookup x.1 = env.cells.lookup x.1) -> RVc W.prog W.w F caps clos
theorem acI (R : Rel W F s.heap env ρ ad) : ∀ {l : List (Str × NameKind)} {caps : List (Str × CV)}, caught ρ l = some caps -> CgtR W F env l caps
 | [], caps, h => by cases h; exact ⟨fun _ h => (nomatch h), fun _ _ => trivial⟩
 | (n, kd) :: l, caps, h => by
  refine hid fun ng => ?_
  cases kd with
  | free =>
   refine D.el1 (.grd (isCellK (ρ.kind n)) (.opt (fixO (ρ.get n)) fun c => .opt (caught ρ l) fun cs => .ret ((n, c) :: cs))) h (C := fun caps => ¬CgtR W F env _ caps) ng fun _ c h1 cs h2 ng => ?_
   obtain ⟨a, b⟩ := acI R h2
   obtain ⟨v, hv, rv, ca, o, e1, e2, e3, e4⟩ := R.var n _ (agh h1)
   refine ng ⟨fun x hx he => ?_, fun clos hc => ⟨⟨ca, o, v, (hc _ (.head _) rfl).trans e2, e3, e4, rv⟩, b clos fun x hx he => hc x (.tail _ hx) he⟩⟩
   rcases List.mem_cons.mp hx with q | q
   · cases q; exact ⟨ca, e2, o, _, e3, e4⟩
   · exact a x q he
  | _ =>
   obtain ⟨a, b⟩ := acI R (l := l) h
   refine ng ⟨fun x hx he => ?_, fun clos hc => b clos fun x hx he => hc x (.tail _ hx) he⟩
   rcases List.mem_cons.mp hx with q | q
   · cases q; cases he
   · exact a x q he
theorem ac8 {cells : List (Str × Addr)} : ∀ (l : List (Str × NameKind)) (cs : List (Str × Addr)) (n : Str) (a : Addr), (closOf cells l cs).lookup n = some a -> (n, NameKind.free) ∈ l ∨ cs.lookup n = some a
 | [], cs, n, a, h => .inr h
 | (m, kd) :: r, cs, n, a, h => by
  rw [abU] at h
  rcases ac8 r _ n a h with q | q
  · exact .inl (.tail _ q)
  · cases hk : kd == NameKind.free with
    | false => rw [hk] at q; exact .inr q
    | true =>
     rw [hk] at q
     simp only [List.lookup_cons] at q
     cases hn : n == m with
     | true =>
      obtain rfl := beq_iff_eq.mp hn
      obtain rfl := beq_iff_eq.mp hk
      exact .inl (.head _)
     | false => rw [hn] at q; exact .inr q
theorem aeu {cells : List (Str × Addr)} {l : List (Str × NameKind)} (h : ∀ x ∈ l, x.2 = .free -> ∃ ca, cells.lookup x.1 = some ca) : ∀ x ∈ l, x.2 = .free -> (closOf cells l []).lookup x.1 = cells.lookup x.1 := fun x hx he => by
 obtain ⟨n, kd⟩ := x
 cases he
 obtain ⟨a, ha⟩ := ab4 (cells := cells) l [] n (.inr hx)
 rw [ha, aaF l [] n a h (fun _ _ q => by cases q) ha]
set_option tactic.hygienic true
theorem ai3 (I : Inv W F s) {c P c' : Addr} {q : Str} (ht : (c, P, q) ∈ W.tabs) {h' : Heap} {ps : Array Value} {pos : Pos} {tk : Nat} (hx : Heap.ExtBut P s.heap h') (hps : s.heap.get? P = some (PySem.W.tabObj ps)) (hok : TriplesOk ps.toList)
 (hP : h'.get? P = some (PySem.W.tabObj (ps ++ #[rawInt pos.line, rawInt pos.col, .ref c']))) {oc : Obj} {vs : Array Value} {t : Tok} (hc : Fre s.heap c') (hco : h'.get? c' = some oc) (hd : oc.data = .fields vs) (hv : vs[1]? = some (.str q t)) :
 Stp W (fun _ => False) F (F.add c' oc) s { s with heap := h', toks := tk } := by
 have hFc := I.fresh hc
 have hT : W.T P := ⟨_, ht, rfl⟩
 have hFP : F P = none := (I.tab _ ht).2
 have sub : ∀ a o, F a = some o -> F.add c' oc a = some o := FH.add_sub hFc
 have hFP' : c' ≠ P := hc.ne hps
 have inv : Inv W (F.add c' oc) { s with heap := h', toks := tk } := by
  refine ⟨fun a o e => ?_, fun a o e => sub a o (I.base a o e), fun u hu => ?_⟩
  · unfold FH.add at e
    refine hid fun z0 => ?_
    split at e
    · rename_i z; subst z; cases e; refine z0 ?_; exact hco
    · refine z0 ?_
      exact hx a o (fun z => by rw [z, hFP] at e; cases e) (I.frz a o e)
  · refine hid fun z1 => ?_
    obtain ⟨⟨ps', e1, e2, e3⟩, e4⟩ := I.tab u hu
    refine z1 ?_
    refine ⟨?_, ?_⟩
    · by_cases z : u.2.1 = P
      · have hq : q = u.2.2 := W.tabsOne _ ht _ hu z.symm
        rw [z, hps] at e1
        obtain rfl : ps = ps' := by injection e1 with e1; injection e1 with _ _ e1; injection e1
        refine ⟨ps ++ #[rawInt pos.line, rawInt pos.col, .ref c'], z ▸ hP, ?_, fun pos' cv h => ?_⟩
        · simpa using TriplesOk_snoc _ _ _ _ e2
        · rw [Array.toList_append] at h
          rcases afG _ e2 h with h | rfl
          · refine hid fun z5 => ?_
            obtain ⟨c1, o1, v1, t1, a1, a2, a3, a4⟩ := e3 pos' cv h
            refine z5 ?_
            exact ⟨c1, o1, v1, t1, a1, sub _ _ a2, a3, a4⟩
          · exact ⟨c', oc, vs, t, rfl, FH.add_self .., hd, hq ▸ hv⟩
      · refine ⟨ps', hx _ _ z e1, e2, fun pos' cv h => ?_⟩
        refine hid fun z6 => ?_
        obtain ⟨c1, o1, v1, t1, a1, a2, a3, a4⟩ := e3 pos' cv h
        refine z6 ?_
        exact ⟨c1, o1, v1, t1, a1, sub _ _ a2, a3, a4⟩
    · unfold FH.add
      rw [if_neg (fun z => hc.ne e1 z.symm)]; exact e4
 refine ⟨fun a o e _ nt => hx a o (fun z => nt (z ▸ hT)) e, fun a o e m => m.elim, sub, fun a o e => ?_, ⟨rfl, rfl, rfl⟩, inv⟩
 unfold FH.add at e
 refine hid fun z7 => ?_
 split at e
 · rename_i z; subst z; refine z7 ?_; exact .inr (.inr hc)
 · refine z7 ?_
   exact .inl e
set_option tactic.hygienic false
theorem akC (hG : GOK W k G) {p : Arguments} {b : Expr} {sc : Scope} {pos : Pos} {caps : List (Str × CV)} (h1 : (scOk sc && lamOk p && lamS ρ.scope) = true) (h2 : caught ρ sc.names = some caps) (I : Inv W F s) (R : Rel W F s.heap env ρ ad) {Q : VP}
 (hQ : PV W F s (.lam ⟨p, b, sc⟩ caps) Q) : wpAny (model W.prog W.w) A (eval (.Lambda p b sc pos) env) Q E s := by
 simp only [Bool.and_eq_true] at h1
 obtain ⟨⟨hsc, hp⟩, hl⟩ := h1
 obtain ⟨c, P, hcode, ht⟩ := R.kind.lam hl
 obtain ⟨C, hB, hgP⟩ := hG.tabs _ ht _ I.heap0
 obtain ⟨⟨ps, e1, e2, e3⟩, e4⟩ := I.tab _ ht
 obtain ⟨hfree, hcap⟩ := acI R h2
 have hfree' : ∀ x ∈ sc.names, x.2 = .free -> ∃ ca, env.cells.lookup x.1 = some ca := fun x hx he => let ⟨ca, e, _⟩ := hfree x hx he; ⟨ca, e⟩
 have hclos := abV (sc := sc) hfree'
 have hclr : CLR F (closOf env.cells sc.names []) := by
  refine ⟨fun n ca e => ?_, fun n m ca a b => R.kind.apart n m ca (aaF _ _ _ _ hfree' (fun _ _ q => (by cases q)) a) (aaF _ _ _ _ hfree' (fun _ _ q => (by cases q)) b)⟩
  refine hid fun z5 => ?_
  rcases ac8 _ _ _ _ e with q | q
  · obtain ⟨ca', e', o, v, a, b⟩ := hfree _ q rfl
    have := aaF _ _ _ _ hfree' (fun _ _ q => (by cases q)) e
    rw [e'] at this; cases this
    refine z5 ?_
    exact ⟨o, v, a, b⟩
  · cases q
 have hcaps := hcap _ (aeu hfree')
 have hns := (hG.ns _ I.heap0).1
 have hd : p.defaults = [] ∧ p.kw_defaults = [] := by
  unfold lamOk at hp
  simp only [Bool.and_eq_true, List.isEmpty_iff] at hp
  exact ⟨hp.1.1.2, hp.1.2⟩
 obtain ⟨p1, p2, p3, p4, p5, p6, p7⟩ := p
 obtain ⟨rfl, rfl⟩ := hd
 show wpAny _ A (do let dv <- evalAll []; let kdv <- PySem.holding dv (evalAllOpt []); makeFunction "<lambda>" (env.qual ++ "<lambda>") _ (.expr b) sc env dv kdv [] pos pos.line) Q E s
 refine wpAny_bind (wpAny_pure (wpAny_bind (wpAny_holding (wpAny_pure ?_))))
 cases hf : codeAmong pos ps.toList with
 | none =>
  refine PySem.W.kla_makeFunction hclos R.kind.glo hns hcode C e1 e2 hf hgP hB fun c' ctv h' tk hx hge hlt hrec hP => ?_
  refine hid fun z9 => ?_
  obtain ⟨c1, oc, vs, t, q1, q2, q3, q4⟩ := hrec
  cases q1
  have S1 := ai3 (tk := tk) I ht hx e1 e2 hP (Fre.size _ hge) q2 q3 q4
  have S2 := Stp.ofKeep (tk := tk) S1.inv (h' := h'.push (PySem.W.kla_obj "<lambda>" (env.qual ++ "<lambda>") ⟨p1, p2, p3, p4, [], p6, []⟩ b sc (closOf env.cells sc.names []) ((W.mg "__name__").getD .none) c' ctv)) (aal _)
  have hnew : Fre h' h'.objs.size := Fre.size _ (Nat.le_refl _)
  have S3 := (S1.trans S2 fun _ q => q.elim).freeze (a := h'.objs.size) (S1.inv.fresh hnew) (Heap.get?_push_size _ rfl) (S1.inv.tabOld hnew) (.inr (S1.back hnew))
  refine z9 ?_
  refine hQ _ _ _ S3 ?_
  refine ⟨_, _, _, _, _, _, _, _, rfl, FH.add_self .., rfl, ⟨c', oc, vs, t, rfl, ?_, q3, q4⟩, hclr.mono S3.sub, ?_⟩
  · exact FH.add_sub (S1.inv.fresh hnew) _ _ (FH.add_self ..)
  · exact RVc.mono _ _ S3.sub _ _ hcaps
 | some cv =>
  refine PySem.W.kla_makeFunctionHit hclos R.kind.glo hns hcode C e1 e2 hf hB fun ctv h' tk hk hge => ?_
  refine hid fun z10 => ?_
  obtain ⟨c1, oc, vs, t, q1, q2, q3, q4⟩ := e3 pos cv hf
  have S2 := Stp.ofKeep (tk := tk) I (h' := h'.push { cls := .type "function", data := .func (PySem.W.kla_fn "<lambda>" (env.qual ++ "<lambda>") ⟨p1, p2, p3, p4, [], p6, []⟩ b sc (closOf env.cells sc.names []) ((W.mg "__name__").getD .none) cv ctv) }) (fun a o e => aal _ a o (hk a o e))
  have hnew : Fre s.heap h'.objs.size := Fre.size _ hge
  have S3 := S2.freeze (a := h'.objs.size) (I.fresh hnew) (Heap.get?_push_size _ rfl) (I.tabOld hnew) (.inr hnew)
  refine z10 ?_
  refine hQ _ _ _ S3 ?_
  refine ⟨_, _, _, _, _, _, _, _, rfl, FH.add_self .., rfl, ⟨c1, oc, vs, t, q1, ?_, q3, q4⟩, hclr.mono S3.sub, ?_⟩
  · exact FH.add_sub (I.fresh hnew) _ _ q2
  · exact RVc.mono _ _ S3.sub _ _ hcaps
end
section
variable {W : Wd} {F F' : FH} {s s' : Shared} {env : Env} {ρ : CE} {ad : Str -> Option Addr} {M : Addr -> Prop} {A : Around} {E : VP} {G : GE} {k : Nat} {S : SM}
set_option tactic.hygienic false
theorem acJ {F : FH} {clos : List (Str × Addr)} : ∀ {caps : List (Str × CV)}, RVc W.prog W.w F caps clos -> ∀ {x : Str} {sl : Slot}, (capVars caps).lookup x = some sl -> ∃ c, sl = .val c ∧ (x, c) ∈ caps ∧ ∃ ca o v, clos.lookup x = some ca ∧ F ca = some o ∧ o.data = .cell (some v) ∧ RV W.prog W.w F c v
 | [], _, x, sl, h => by cases h
 | (n, c) :: r, hc, x, sl, h => by
  simp only [afY, List.lookup_cons] at h
  cases hx : x == n with
  | true =>
   rw [hx] at h
   cases h
   obtain rfl := beq_iff_eq.mp hx
   obtain ⟨⟨ca, o, v, e⟩, _⟩ := hc
   exact ⟨c, rfl, .head _, ca, o, v, e⟩
  | false =>
   rw [hx] at h
   obtain ⟨c', e1, e2, e3⟩ := acJ hc.2 h
   exact ⟨c', e1, .tail _ e2, e3⟩
theorem amp {fd : FuncData} {a : Arg} {v : Value} (h : lamOk fd.params = true) (h2 : fd.params.args = [a]) (h3 : fd.defaults = .none) : bindArgs fd ⟨[v], []⟩ = pure [(a.arg, v)] := by
 obtain ⟨name, qual, ⟨p1, p2, p3, p4, p5, p6, p7⟩, body, scope, glo, clo, dfl, kwd, doc, pm, ann, code, ct, blt⟩ := fd
 unfold lamOk at h
 dsimp only at h h2 h3
 subst h2 h3
 simp only [Bool.and_eq_true, List.isEmpty_iff, Option.isNone_iff_eq_none] at h
 obtain ⟨⟨⟨⟨⟨⟨rfl, rfl⟩, rfl⟩, rfl⟩, rfl⟩, rfl⟩, h4⟩ := h
 obtain ⟨x, y⟩ := a
 obtain rfl := beq_iff_eq.mp (Bool.and_eq_true_iff.mp h4).1
 ext
set_option tactic.hygienic true
theorem afH (H : EvOK W k S.ev) (hG : GOK W k G) {L : Lam} {caps : List (Str × CV)} {cs : List CV} {c : CV} (h : S.callLam L caps cs = some c) (Rm : Room A (k + 1)) (I : Inv W F s) {v : Value} {vs : List Value}
 (hv : RV W.prog W.w F (.lam L caps) v) (hvs : RVs W.prog W.w F cs vs) {Q : VP} (hQ : PV W F s c Q) :
 (∃ a o fd, v = .ref a ∧ s.heap.get? a = some o ∧ o.data = .func fd) ∧ wpAny (model W.prog W.w) A (call v vs) Q E s := by
 unfold SM.callLam at h
 refine hid fun z0 => ?_
 split at h
 · cases h
 · rename_i hok
   simp only [Bool.and_eq_true, Bool.not_eq_true'] at hok
   obtain ⟨⟨⟨⟨hp, hsc⟩, hco⟩, hge⟩, hcp⟩ := hok
   split at h
   · rename_i a ca hargs
     split at h
     · rename_i hloc
       split at h
       · rename_i c' ρ' he
         cases h
         obtain ⟨fa, o, clos, pm, cd, ct, qual, name, rfl, hF, rfl, ⟨cc, oc, us, t, rfl, e2, e3, e4⟩, hclr, hcaps⟩ := by simpa only [RV] using hv
         obtain ⟨u, hu, ru⟩ : ∃ u, vs = [u] ∧ RV W.prog W.w F ca u := by
          obtain ⟨u, r, e, ru, er⟩ := hvs
          exact ⟨u, by rw [e, er], ru⟩
         subst hu
         have ho := I.frz _ _ hF
         refine z0 ?_
         refine ⟨⟨fa, _, _, rfl, ho, rfl⟩, ?_⟩
         refine hid fun z1 => ?_
         obtain ⟨hk1, hk2, hk3⟩ := adv hsc
         refine z1 ?_
         refine wpAny_call (PySem.W.kla_callFunE Rm.dep ho rfl hco hge rfl ⟨cc, oc, us, t, rfl, I.frz _ _ e2, e3, e4⟩ ?_)
         refine wpAny_of_eq (amp hp hargs rfl) ?_
         refine wpAny_newFunctionEnv hk2 (by intro x hx; simp only [List.mem_singleton] at hx; subst hx; exact hloc) (fun h1 hns hsb => ?_) hk1
         simp only [Option.isSome_none, Bool.false_eq_true, if_false, List.length_singleton] at hsb ⊢
         have hold : ∀ b o, s.heap.get? b = some o -> h1.get? b = some o := fun b o e => hsb.extBut b o (Nat.ne_of_lt (Heap.lt_size e)) (aal _ b o e)
         have fL : Fre s.heap s.heap.objs.size := Fre.size _ (Nat.le_refl _)
         have S1 : Stp W (fun _ => False) F F s { s with heap := h1, toks := s.toks + 1 } := Stp.ofKeep I hold
         refine ⟨(hG.nolim _ S1.inv.heap0), PySem.W.kla_codeExpr ?_⟩
         generalize hL : s.heap.objs.size = Lc at hns hsb fL ⊢
         generalize henv : newEnv L.scope Lc mainGlobals clos (qual ++ ".<locals>.") (some fa) (.ref cc) none builtinsNs = env'
         have hcells : env'.cells = clos := by rw [<- henv]; rfl
         have hlocs : env'.locals = Lc := by rw [<- henv]; rfl
         have hkind : ∀ x, env'.kindOf x = L.scope.names.lookup x := fun x => by rw [<- henv]; rfl
         have nfr : ∀ x, CE.kind ⟨L.scope, (a.arg, .val ca) :: capVars caps⟩ x ≠ some .cell := fun x q => hk2 _ (aa7 q) rfl
         have R1 : Rel W F h1 env' ⟨L.scope, (a.arg, .val ca) :: capVars caps⟩ noAd := by
          refine ⟨⟨by rw [<- henv]; exact hk1, by rw [<- henv]; rfl, by rw [<- henv]; rfl, fun x q => (hkind x).trans q, fun x q => absurd q (nfr x), fun x q => .inl ((hkind x).trans q), fun x q => (hkind x).trans q, fun x y ca' p q => hclr.2 x y ca' (hcells ▸ p) (hcells ▸ q), fun x q => absurd q (nfr x), fun q => ?_⟩,
           ⟨_, hlocs ▸ hns⟩, hlocs ▸ I.fresh fL, hlocs ▸ I.tabOld fL, fun x sl q => ?_, fun x q _ => absurd q (nfr x), fun x a q => (by cases q), fun x y a q _ => (by cases q), fun x a q => ?_, fun f q => ?_⟩
          · exfalso
            unfold lamS at q
            split at q
            · rename_i e; exact nfr _ e
            · cases q
          · have q : ((a.arg, Slot.val ca) :: capVars caps).lookup x = some sl := q
            simp only [List.lookup_cons] at q
            refine hid fun z4 => ?_
            cases hx : x == a.arg with
            | true =>
             rw [hx] at q
             cases q
             obtain rfl := beq_iff_eq.mp hx
             refine z4 ?_
             refine ⟨u, .inl ⟨(hkind _).trans hloc, _, hlocs ▸ hns, ?_⟩, ru⟩
             simp
            | false =>
             rw [hx] at q
             obtain ⟨c1, rfl, hm, ca', o', v', e1, e2, e3, e4⟩ := acJ hcaps q
             refine z4 ?_
             refine ⟨v', .inr ⟨.inr ?_, ca', hcells ▸ e1, o', S1.inv.frz _ _ e2, e3⟩, e4⟩
             rw [hkind]
             exact beq_iff_eq.mp (List.all_eq_true.mp hcp _ hm)
          · obtain ⟨o', v', e1, e2⟩ := hclr.1 x a (hcells ▸ q)
            exact ⟨v', o', S1.inv.frz _ _ e1, e2⟩
          · have : some Lc = some f := by rw [<- q, <- henv]; rfl
            refine hid fun z6 => ?_
            cases this
            obtain ⟨o', _, _, e, _⟩ := hns
            refine z6 ?_
            exact ⟨o', e⟩
         refine H L.body _ _ _ he (A.deeper env') env' F _ noAd (Rm.deeper env') S1.inv R1 _ _ fun v' F2 s2 ad2 S2 R2 _ r2 => ?_
         exact hQ v' F2 s2 (S1.trans (S2.weaken (M' := fun _ => False) fun a q => absurd q (abn a)) fun _ q => q.elim) r2
       · cases h
     · cases h
   · cases h
end
section
variable {W : Wd} {F F' : FH} {s s' : Shared} {env : Env} {ρ : CE} {ad : Str -> Option Addr} {M : Addr -> Prop} {A : Around} {E : VP} {G : GE} {k : Nat} {S : SM}
set_option tactic.hygienic false
theorem KwsR.mono {F F' : FH} (h : ∀ a o, F a = some o -> F' a = some o) : ∀ {kvs : List (Str × CV)} {kws : List (Str × Value)}, KwsR W F kvs kws -> KwsR W F' kvs kws
 | [], _, r => r
 | (n, c) :: r, _, ⟨v, t, e, a, b⟩ => ⟨v, t, e, RV.mono _ _ h _ _ a, KwsR.mono h b⟩
noncomputable def kwNames : List (Str × CV) -> List Str
 | [] => []
 | (n, _) :: r => n :: kwNames r
def KwsPost (W : Wd) (A : Around) (k : Nat) (env : Env) (pos : Pos) (kws : List Keyword) (ρ : CE) (kvs : List (Str × CV)) (ρ' : CE) : Prop :=
 (backToKw pos (keywordEach kws env)).all (·.1.isSome) = true ∧ (backToKw pos (keywordEach kws env)).filterMap (·.1) = kwNames kvs ∧
 ∀ (F : FH) (s : Shared) (ad : Str -> Option Addr), Room A k -> Inv W F s -> Rel W F s.heap env ρ ad -> ∀ (Q : List Value -> Shared -> Prop) (E : VP),
  (∀ ks F' s' ad', Stp W (ownA ad) F F' s s' -> Rel W F' s'.heap env ρ' ad' -> (∀ x a, ad' x = some a -> ad x = some a) -> KwsR W F' kvs ((kwNames kvs).zip ks) -> Q ks s') ->
  wpAny (model W.prog W.w) A (evalAll ((backToKw pos (keywordEach kws env)).map (·.2))) Q E s
theorem ae6 (H : EvOK W k S.ev) {pos : Pos} : ∀ (kws : List Keyword) (ρ : CE) (kvs : List (Str × CV)) (ρ' : CE), S.kws kws ρ = some (kvs, ρ') -> KwsPost W A k env pos kws ρ kvs ρ'
 | [], ρ, kvs, ρ', h => by
  cases h
  exact ⟨rfl, rfl, fun F s ad _ I R Q E hQ => wpAny_evalAll_nil (hQ [] F s ad (.refl I) R (fun _ _ e => e) rfl)⟩
 | ⟨none, e, p⟩ :: r, ρ, kvs, ρ', h => aab h
 | ⟨some n, e, p⟩ :: r, ρ, kvs, ρ', h => by
  refine hid fun ng => ?_
  refine D.el (.val (S.ev e ρ) fun c ρ => .opt2 (S.kws r ρ) fun l ρ => .ret ((n, c) :: l, ρ)) h (C := fun kvs ρ' => ¬KwsPost W A k env pos _ ρ kvs ρ') ng fun c ρ1 h1 l ρ2 h2 ng => ?_
  obtain ⟨a1, a2, a3⟩ := ae6 H r ρ1 l _ h2
  refine ng ⟨a1, congrArg (n :: ·) a2, fun F s ad Rm I R Q E hQ => ?_⟩
  refine wpAny_evalAll_cons (wpAny_bind (H e ρ _ ρ1 h1 A env F s ad Rm I R _ _ fun v F1 s1 ad1 S1 R1 sub1 r1 => wpAny_bind (wpAny_standAt (wpAny_pure ?_))))
  refine a3 F1 s1 ad1 Rm S1.inv R1 _ _ fun ks F2 s2 ad2 S2 R2 sub2 r2 => ?_
  exact hQ (v :: ks) F2 s2 ad2 (S1.trans S2 (aag sub1)) R2 (fun x a q => sub1 x a (sub2 x a q)) ⟨v, _, rfl, RV.mono _ _ S2.sub _ _ r1, r2⟩
theorem agi (H : EvOK W k S.ev) (hst : ∀ x p ρ, S.ev (.Starred x p) ρ = none) {pos : Pos} {args : List Expr} {kws : List Keyword} {ρ1 ρ' : CE} {avs : List EV} {kvs : List (Str × CV)} (h1 : S.evs args ρ = some (avs, ρ1)) (h2 : S.kws kws ρ1 = some (kvs, ρ'))
 (Rm : Room A k) (I : Inv W F s) (R : Rel W F s.heap env ρ ad) {fa : Addr} {o : Obj} {fd : FuncData} {Q : VP}
 (hQ : ∀ vs kw F' s' ad', Stp W (ownA ad) F F' s s' -> Rel W F' s'.heap env ρ' ad' -> (∀ x a, ad' x = some a -> ad x = some a) -> EVRs W F' s'.heap env avs vs -> KwsR W F' kvs kw ->
  (s'.heap.get? fa = some o ∧ o.data = .func fd) ∧ wpAny (model W.prog W.w) A (call (.ref fa) vs kw) Q E s') :
 wpAny (model W.prog W.w) A (callWith pos (.ref fa) [] (backTo pos (starEach args env)) (backToKw pos (keywordEach kws env))) Q E s := by
 refine callWith_function_kw (o := o) (fd := fd) ?_
 have hall := (ae6 (A := A) (env := env) (pos := pos) H kws ρ1 kvs ρ' h2).1
 cases args with
 | nil =>
  refine hid fun z1 => ?_
  cases h1
  obtain ⟨a1, a2, a3⟩ := ae6 (A := A) (env := env) (pos := pos) H kws ρ kvs ρ' h2
  refine z1 ?_
  refine evalArgs_kw_nil hall (a3 F s ad Rm I R _ _ fun ks F2 s2 ad2 S2 R2 sub2 r2 => ?_)
  rw [a2]
  exact hQ [] _ F2 s2 ad2 S2 R2 sub2 rfl r2
 | cons e r =>
  have hne : ∀ x p, e ≠ .Starred x p := aio hst h1
  have body : wpAny (model W.prog W.w) A (spliced (backTo pos (starEach (e :: r) env))) (fun vs s1 => wpAny (model W.prog W.w) A (evalAll ((backToKw pos (keywordEach kws env)).map (·.2)))
   (fun ks s2 => (s2.heap.get? fa = some o ∧ o.data = .func fd) ∧ wpAny (model W.prog W.w) A (call (.ref fa) ([] ++ vs) (((backToKw pos (keywordEach kws env)).filterMap (·.1)).zip ks)) Q E s2) E s1) E s := by
   refine adQ H hst (e :: r) ρ avs ρ1 h1 A env F s ad pos Rm I R _ _ fun vs F1 s1 ad1 S1 R1 sub1 r1 => ?_
   obtain ⟨a1, a2, a3⟩ := ae6 (A := A) (env := env) (pos := pos) H kws ρ1 kvs ρ' h2
   refine a3 F1 s1 ad1 Rm S1.inv R1 _ _ fun ks F2 s2 ad2 S2 R2 sub2 r2 => ?_
   rw [a2]
   exact hQ vs _ F2 s2 ad2 (S1.trans S2 (aag sub1)) R2 (fun x a q => sub1 x a (sub2 x a q)) (EVRs.step S1.inv R1 S2 r1) r2
  rw [aat hne] at body ⊢
  exact evalArgs_kw hall body
end
section
variable {W : Wd} {F F' : FH} {s s' : Shared} {env : Env} {ρ : CE} {ad : Str -> Option Addr} {M : Addr -> Prop} {A : Around} {E : VP} {G : GE} {k : Nat} {S : SM}
noncomputable abbrev RVsBut (W : Wd) (F : FH) : Option Nat -> List CV -> List Value -> Prop
 | none, cs, vs => RVs W.prog W.w F cs vs
 | some 0, c :: cs, vs => ∃ v r, vs = v :: r ∧ RVs W.prog W.w F cs r
 | some (i + 1), c :: cs, vs => ∃ v r, vs = v :: r ∧ RV W.prog W.w F c v ∧ RVsBut W F (some i) cs r
 | some _, [], vs => vs = []
set_option tactic.hygienic false
theorem RVsBut.none {cs : List CV} {vs : List Value} : RVsBut W F none cs vs = RVs W.prog W.w F cs vs := by cases cs <;> rfl
inductive FzB (W : Wd) (env : Env) (ad : Str -> Option Addr) (F : FH) (s : Shared) (ρ' : CE) (b : Option Nat) (cs : List CV) (vs : List Value) : Prop
 | mk (F' : FH) (ad' : Str -> Option Addr) (h1 : Stp W (ownA ad) F F' s s) (h2 : Rel W F' s.heap env ρ' ad') (h3 : ∀ x a, ad' x = some a -> ad x = some a) (h4 : RVsBut W F' b cs vs)
theorem abz : ∀ (b : Option Nat) (as : List EV) (ρ : CE) (cs : List CV) (ρ' : CE) (F : FH) (ad : Str -> Option Addr), frzBut b as ρ = some (cs, ρ') -> Inv W F s -> Rel W F s.heap env ρ ad ->
 ∀ vs, EVRs W F s.heap env as vs -> FzB W env ad F s ρ' b cs vs
 | b, [], ρ, cs, ρ', F, ad, h, I, R, vs, hv => by
  cases h
  obtain rfl : vs = [] := hv
  exact ⟨F, ad, .refl I, R, fun _ _ e => e, match b with | none => rfl | some 0 => rfl | some (_ + 1) => rfl⟩
 | none, a :: as, ρ, cs, ρ', F, ad, h, I, R, vs, hv => by
  refine hid fun ng => ?_
  obtain ⟨v, r, rfl, ha, hr⟩ := hv
  refine D.el (.opt2 (freeze ρ a) fun c ρ => .opt2 (frzBut none as ρ) fun cs ρ => .ret (c :: cs, ρ)) h (C := fun cs ρ' => ¬FzB W env ad F s ρ' _ cs (v :: r)) ng fun c ρ1 h1 cs' ρ2 h2 ng => ?_
  obtain ⟨F1, ad1, S1, R1, sub1, rv1⟩ := abP I R h1 ha
  obtain ⟨F2, ad2, S2, R2, sub2, rv2⟩ := abz none as ρ1 cs' _ F1 ad1 h2 S1.inv R1 r (EVRs.step I R S1 hr)
  exact ng ⟨F2, ad2, S1.trans S2 (aag sub1), R2, fun x a q => sub1 x a (sub2 x a q), v, r, rfl, RV.mono _ _ S2.sub _ _ rv1, RVsBut.none ▸ rv2⟩
 | some 0, a :: as, ρ, cs, ρ', F, ad, h, I, R, vs, hv => by
  refine hid fun ng => ?_
  obtain ⟨v, r, rfl, ha, hr⟩ := hv
  refine D.el (.opt2 (frzBut none as ρ) fun cs ρ => .ret (.none :: cs, ρ)) h (C := fun cs ρ' => ¬FzB W env ad F s ρ' _ cs (v :: r)) ng fun cs' ρ2 h2 ng => ?_
  obtain ⟨F2, ad2, S2, R2, sub2, rv2⟩ := abz none as ρ cs' _ F ad h2 I R r hr
  exact ng ⟨F2, ad2, S2, R2, sub2, v, r, rfl, RVsBut.none ▸ rv2⟩
 | some (i + 1), a :: as, ρ, cs, ρ', F, ad, h, I, R, vs, hv => by
  refine hid fun ng => ?_
  obtain ⟨v, r, rfl, ha, hr⟩ := hv
  refine D.el (.opt2 (freeze ρ a) fun c ρ => .opt2 (frzBut (some i) as ρ) fun cs ρ => .ret (c :: cs, ρ)) h (C := fun cs ρ' => ¬FzB W env ad F s ρ' _ cs (v :: r)) ng fun c ρ1 h1 cs' ρ2 h2 ng => ?_
  obtain ⟨F1, ad1, S1, R1, sub1, rv1⟩ := abP I R h1 ha
  obtain ⟨F2, ad2, S2, R2, sub2, rv2⟩ := abz (some i) as ρ1 cs' _ F1 ad1 h2 S1.inv R1 r (EVRs.step I R S1 hr)
  exact ng ⟨F2, ad2, S1.trans S2 (aag sub1), R2, fun x a q => sub1 x a (sub2 x a q), v, r, rfl, RV.mono _ _ S2.sub _ _ rv1, rv2⟩
theorem ad9 {h : Heap} {la : Addr} {o : CO} (ho : OR W.prog W.w F h o la) : ∀ {i : Nat} {cs : List CV} {vs : List Value}, RVsBut W F (some i) cs vs -> vs[i]? = some (.ref la) -> ArgsR W F h (some i) la (cs.set i o.cv) vs
 | i, [], vs, hb, hv => by
  have : vs = [] := by cases i <;> simpa only [RVsBut] using hb
  rw [this] at hv; cases hv
 | 0, c :: cs, vs, hb, hv => by
  obtain ⟨v, r, rfl, q⟩ := hb
  cases hv
  exact ⟨o, r, rfl, rfl, ho, q⟩
 | i + 1, c :: cs, vs, hb, hv => by
  obtain ⟨v, r, rfl, q1, q2⟩ := hb
  exact ⟨v, r, rfl, q1, ad9 ho q2 hv⟩
theorem EVRs.at {h : Heap} : ∀ {as : List EV} {vs : List Value}, EVRs W F h env as vs -> ∀ {i : Nat} {a : EV}, as[i]? = some a -> ∃ v, vs[i]? = some v ∧ EVR W F h env a v
 | [], _, _, i, a, e => by cases e
 | b :: as, _, ⟨v, r, e', x, y⟩, i, a, e => by
  subst e'
  cases i with
  | zero => cases e; exact ⟨v, rfl, x⟩
  | succ i => exact EVRs.at y e
theorem D.ev {o : Option (EV × CE)} {r : EV} {ρ' : CE} {Q : VP} (d : D (EV × CE)) (h : o = some (r, ρ')) (c : EvPost W env ad F s r ρ' Q) {P : Prop} (k : d.inv (fun z => EvPost W env ad F s z.1 z.2 Q -> P)) (e : d.run = o := by ext) : P :=
 D.ok (P := fun z => EvPost W env ad F s z.1 z.2 Q -> P) (e.trans h) k c
theorem afI {a : Option EV} {x : Str} (h : evRef a = some x) : a = some (.ref x) := by
 rcases a with _ | _ | y
 · exact aab h
 · exact aab h
 · cases h; rfl
theorem ae7 {k : Option NameKind} (h : isG k = true) : k = some .globalImplicit := by
 rcases k with _ | k
 · cases h
 · cases k <;> first | rfl | cases h
theorem agj {g : Option GV} {f : FS} (h : fnOf g = some f) : g = some (.fn f) := by
 rcases g with _ | _ | _ | _
 · exact aab h
 · exact aab h
 · cases h; rfl
 · exact aab h
theorem ahu {g : Option GV} (h : isB g = true) : g = some .blt := by
 rcases g with _ | _ | _ | _
 · cases h
 · cases h
 · cases h
 · rfl
theorem akD {f : Str} {c v : CV} (h : bltC f c = some v) : ∃ id, bltV f = some id ∧ keeperOf id = pure .machine := by
 unfold bltC at h
 unfold bltV
 cases q1 : f == nLen with
 | true => exact ⟨_, rfl, rfl⟩
 | false => cases q2 : f == nOrd with
  | true => exact ⟨_, rfl, rfl⟩
  | false => cases q3 : f == nChr with
   | true => exact ⟨_, rfl, rfl⟩
   | false => rw [q1, q2, q3] at h; exact aab h
theorem afJ (H : EvOK W k S.ev) (hst : ∀ x p ρ, S.ev (.Starred x p) ρ = none) {f : FS} {fa : Addr} (hf : FunOK W k f fa) {pos : Pos} {args : List Expr} {kws : List Keyword} {r : EV} {ρ' : CE} (h : S.callDef f args kws ρ = some (r, ρ'))
 (Rm : Room A k) (I : Inv W F s) (R : Rel W F s.heap env ρ ad) {Q : VP} (hQ : EvPost W env ad F s r ρ' Q) :
 wpAny (model W.prog W.w) A (callWith pos (.ref fa) [] (backTo pos (starEach args env)) (backToKw pos (keywordEach kws env))) Q E s := by
 refine hid fun z0 => ?_
 obtain ⟨⟨o, fd, hF, hd⟩, hrun⟩ := hf
 refine D.ev (.opt2 (S.evs args ρ) fun avs ρ => .opt2 (S.kws kws ρ) fun kvs ρ => .opt2 (frzBut f.bor avs ρ) fun cs ρ => .alt f.bor (fun i => .opt (evRef avs[i]?) fun x => .opt (ownAt ρ x) fun o => .opt2 (f.run (cs.set i o.cv) kvs) fun c o' => .ret (.val c, ρ.set x (reown (ρ.get x) o')))
  (.opt2 (f.run cs kvs) fun c _ => .ret (.val c, ρ))) h hQ fun avs ρ1 h1 kvs ρ2 h2 cs ρ3 h3 => ⟨fun i hb x hx ob hob c o' hr hQ => z0 ?_, fun hb c o' hr hQ => z0 ?_⟩
 · refine agi (o := o) (fd := fd) H hst h1 h2 Rm I R fun vs kw F1 s1 ad1 S1 R1 sub1 r1 k1 => ?_
   refine ⟨⟨S1.inv.heap0 _ _ hF, hd⟩, ?_⟩
   refine hid fun z1 => ?_
   obtain ⟨F2, ad2, S2, R2, sub2, rb⟩ := abz f.bor avs ρ2 cs ρ3 F1 ad1 h3 S1.inv R1 vs r1
   have S12 : Stp W (ownA ad) F F2 s s1 := S1.trans S2 (aag sub1)
   have sub12 : ∀ x a, ad2 x = some a -> ad x = some a := fun x a q => sub1 x a (sub2 x a q)
   obtain ⟨hown, hvw⟩ := aaS hob
   obtain ⟨la, hla, hva, hor⟩ := abH R2 hown
   obtain ⟨v, hv, hvr⟩ := EVRs.at (EVRs.step S1.inv R1 S2 r1) (afI hx)
   obtain rfl := VarIs.uniq hvr hva
   obtain ⟨_, hFla, _⟩ := R2.own x la hla
   rw [hb] at rb
   refine z1 ?_
   refine hrun _ kvs c o' hr A F2 s1 la vs kw Rm S2.inv (by rw [hb]; exact ad9 hor rb hv) (KwsR.mono S2.sub k1) (fun _ => hFla) _ _ fun v F3 s3 S3 rv hb' => ?_
   obtain ⟨ho', hF'⟩ := hb' (by rw [hb]; rfl)
   have S3' : Stp W (· = la) F2 F3 s1 s3 := S3.weaken fun a q => .inl q.2
   have R3 := ain S2.inv R2 hown hla S3' ho' hF' fun y o v hy _ => absurd hy (hvw y o)
   exact hQ v F3 s3 ad2 (S12.trans S3' fun a q => .inl ⟨x, sub12 x a (by rw [hla, show a = la from q])⟩) R3 sub12 rv
 · refine agi (o := o) (fd := fd) H hst h1 h2 Rm I R fun vs kw F1 s1 ad1 S1 R1 sub1 r1 k1 => ?_
   refine ⟨⟨S1.inv.heap0 _ _ hF, hd⟩, ?_⟩
   refine hid fun z1 => ?_
   obtain ⟨F2, ad2, S2, R2, sub2, rb⟩ := abz f.bor avs ρ2 cs ρ3 F1 ad1 h3 S1.inv R1 vs r1
   have S12 : Stp W (ownA ad) F F2 s s1 := S1.trans S2 (aag sub1)
   have sub12 : ∀ x a, ad2 x = some a -> ad x = some a := fun x a q => sub1 x a (sub2 x a q)
   rw [hb, RVsBut.none] at rb
   refine z1 ?_
   refine hrun cs kvs c o' hr A F2 s1 0 vs kw Rm S2.inv (by rw [hb]; unfold ArgsR; exact rb) (KwsR.mono S2.sub k1) (fun q => by rw [hb] at q; cases q) _ _ fun v F3 s3 S3 rv _ => ?_
   have S3' : Stp W (fun _ => False) F2 F3 s1 s3 := S3.weaken fun a q => by rw [hb] at q; cases q.1
   exact hQ v F3 s3 ad2 (S12.trans S3' fun _ q => q.elim) (R2.keep0 S2.inv S3') sub12 rv
theorem ai4 (H : EvOK W k S.ev) (hst : ∀ x p ρ, S.ev (.Starred x p) ρ = none) (hG : GOK W k G) {k' : Nat} (H' : EvOK W k' S.ev) (hG' : GOK W k' G) (hk : k' + 1 ≤ k) {f : Str} {p pos : Pos} {args : List Expr} {kws : List Keyword} {r : EV} {ρ' : CE} (hn : nameOk f = true) (h : S.call G f args kws ρ = some (r, ρ'))
 (Rm : Room A k) (I : Inv W F s) (R : Rel W F s.heap env ρ ad) {Q : VP} (hQ : EvPost W env ad F s r ρ' Q) :
 wpAny (model W.prog W.w) A (eval (.Call (.Name f p) args kws pos) env) Q E s := by
 refine hid fun z0 => ?_
 refine D.ev (.ite (isG (ρ.kind f)) (.alt (fnOf (G.glob f)) (fun fs => .raw (S.callDef fs args kws ρ)) (.grd (isB (G.glob f)) (.grd kws.isEmpty (.opt (l1 args) fun e => .opt2 (S.evd e ρ) fun c ρ => .opt (bltC f c) fun v => .ret (.val v, ρ)))))
  (.grd (isL (ρ.kind f)) (.grd kws.isEmpty (.opt2 (slLam (ρ.get f)) fun L caps => .opt2 (S.evs args ρ) fun avs ρ => .opt2 (freezes avs ρ) fun cs ρ => .opt (S.callLam L caps cs) fun c => .ret (.val c, ρ))))) h hQ
  ⟨fun hkd => ⟨fun fs hfs r' h hQ => z0 ?_, fun hfs hbl hkw e ha c ρ1 h1 v h2 hQ => z0 ?_⟩, fun _ hkd hkw L caps hg avs ρ1 h1 cs ρ2 h2 c h3 hQ => z0 ?_⟩
 · obtain ⟨fa, hm, hf⟩ := hG.fn f fs (agj hfs)
   exact wpAny_Call_Name_kw (af5 hG I R (ae7 hkd) hn hm (afJ H hst hf h Rm I R hQ))
 · obtain rfl := aaI ha
   obtain rfl := List.isEmpty_iff.mp hkw
   have hb : isBlt G ρ f = true := by unfold isBlt; rw [ae7 hkd, ahu hbl]
   obtain ⟨id, hid, hkeep⟩ := akD h2
   obtain ⟨hp, hw⟩ := adr (pos := pos) (E := E) (Q := fun vs s2 => keeperOf id = pure .machine ∧ wpAny (model W.prog W.w) A (call id vs) Q E s2) H hst h1 Rm I R fun v' F1 s1 ad1 S1 R1 sub1 hv =>
    aiY h2 hid S1.inv hv (hQ.pvAt S1 R1 sub1)
   exact aaX hG hkeep hb hn hid I R hp (wpAny_mono hw (fun _ _ q => q.2) fun _ _ q => q)
 · obtain rfl := List.isEmpty_iff.mp hkw
   obtain ⟨v, hv, hs⟩ := R.var f _ (afu hg)
   have hnn := aa5 hn
   refine wpAny_Call_Name_kw (wpAny_Name (adm R.kind.fn hv ?_ hnn.2) hnn.1)
   refine hid fun z1 => ?_
   have hz := hs
   obtain ⟨fa, o, clos, pm, cd, ct, qual, name, rfl, hF, rfl, _⟩ := hz
   refine z1 ?_
   refine agi (kws := []) (o := _) (fd := _) H hst h1 (show S.kws [] ρ1 = some ([], ρ1) from rfl) Rm I R fun vs kw F1 s1 ad1 S1 R1 sub1 r1 k1 => ⟨⟨S1.inv.frz _ _ (S1.sub _ _ hF), rfl⟩, ?_⟩
   obtain rfl : kw = [] := k1
   refine hid fun z3 => ?_
   obtain ⟨F2, ad2, S2, R2, sub2, rv⟩ := abe avs ρ1 cs _ F1 ad1 h2 S1.inv R1 vs r1
   have S12 : Stp W (ownA ad) F F2 s s1 := S1.trans S2 (aag sub1)
   refine z3 ?_
   exact (afH H' hG' h3 (Rm.le hk) S2.inv (RV.mono _ _ (fun a o e => S2.sub _ _ (S1.sub _ _ e)) _ _ hs) rv (hQ.pvAt S12 R2 fun x a q => sub1 x a (sub2 x a q))).2
end
set_option tactic.hygienic false
theorem EvOK.mono {W : Wd} {k k' : Nat} {ev : Expr -> CE -> Option (EV × CE)} (h : EvOK W k ev) (hk : k ≤ k') : EvOK W k' ev := fun e ρ r ρ' q A env F s ad Rm => h e ρ r ρ' q A env F s ad (Rm.le hk)
theorem ItOK.mono {W : Wd} {k k' : Nat} {ev : Expr -> CE -> Option (Bool × CE)} (h : ItOK W k ev) (hk : k ≤ k') : ItOK W k' ev := fun e ρ r ρ' q A env F s ad Rm => h e ρ r ρ' q A env F s ad (Rm.le hk)
theorem XsOK.mono {W : Wd} {k k' : Nat} {ev : Stmt -> CE -> Option (FC × CE)} (h : XsOK W k ev) (hk : k ≤ k') : XsOK W k' ev := fun e ρ r ρ' q A env F s ad Rm => h e ρ r ρ' q A env F s ad (Rm.le hk)
theorem SmOK.mono {W : Wd} {k k' : Nat} {S : SM} (h : SmOK W k S) (hk : k ≤ k') : SmOK W k' S := ⟨h.ev.mono hk, h.it.mono hk, h.xs.mono hk⟩
theorem FunOK.mono {W : Wd} {k k' : Nat} {f : FS} {a : Addr} (h : FunOK W k f a) (hk : k ≤ k') : FunOK W k' f a := ⟨h.1, fun cs kvs c o' q A F s la vs kws Rm => h.2 cs kvs c o' q A F s la vs kws (Rm.le hk)⟩
theorem GOK.mono {W : Wd} {k k' : Nat} {G : GE} (h : GOK W k G) (hk : k ≤ k') : GOK W k' G := ⟨h.tabs, h.nolim, h.ns, h.const, h.blt, fun x f q => let ⟨a, e, r⟩ := h.fn x f q; ⟨a, e, r.mono hk⟩⟩
section
variable {W : Wd} {F F' : FH} {s s' : Shared} {env : Env} {ρ : CE} {ad : Str -> Option Addr} {M : Addr -> Prop} {A : Around} {E : VP} {G : GE} {k : Nat} {S : SM}
set_option tactic.hygienic false
theorem ab5 (h : noView ρ = true) (y : Str) (o : CO) : ρ.get y ≠ some (.view o) := fun q => by
 obtain ⟨z, hz⟩ := ac4 q
 have := List.all_eq_true.mp h _ hz
 cases this
theorem ai5 {o : CO} {ρ' : CE} {Q : VP} (I : Inv W F s) (R : Rel W F s.heap env ρ ad) (hv : noView ρ' = true) (hQ : EvPost W env ad F s (.val o.cv) ρ' Q) : MkPost W env ad F s o ρ' Q := by
 intro a F' s' ad' S' R' sub' ho hF hD
 obtain ⟨ob, e, rv⟩ := ho.toRV hF
 have hT : ¬ W.T a := I.tabOld hD
 have S2 : Stp W (ownA ad) F (F'.add a ob) s s' := S'.freeze hF e hT (.inr hD)
 have S12 : Stp W (· = a) F' (F'.add a ob) s' s' := ((Stp.refl (M := fun _ => False) S'.inv).weaken fun a (q : False) => q.elim).freeze hF e hT (.inl rfl)
 refine hQ _ _ _ ad' S2 (R'.keep S'.inv S12 fun b q => ?_) sub' rv
 obtain rfl : b = a := q
 refine ⟨fun ⟨x, e⟩ => ?_, fun e => ?_, fun y e => ?_, fun y o v hy _ => absurd hy (ab5 hv y o)⟩
 · obtain ⟨_, _, _, _, _, o, e'⟩ := R.own x _ (sub' x _ e); exact hD.ne e' rfl
 · obtain ⟨m, o, es, ep, e', _⟩ := R.ns; exact hD.ne e' e
 · obtain ⟨v, o, e', _⟩ := R.cl y _ e; exact hD.ne e' rfl
set_option tactic.hygienic true
theorem agk (H : SmOK W k S) (hst : ∀ x p ρ, S.ev (.Starred x p) ρ = none) (hset : ∀ x kd p ρ, S.ev (.Set x kd p) ρ = none) (hG : GOK W k G) (hk : 20 ≤ k) : EvOK W (k + 1) (evStep G S) := by
 intro e ρ r ρ' h A env F s ad Rm I R Q E hQ
 have Rk : Room A k := Rm.le (Nat.le_succ k)
 have hQ : EvPost W env ad F s r ρ' Q := hQ
 unfold evStep at h
 refine hid fun z0 => ?_
 split at h
 · rename_i hno
   clear hno
   cases e with
   | Constant c kd p => exact D.ev (.opt (constC c) fun v => .ret (.val v, ρ)) h hQ fun v hv hQ => z0 (ahe hv I (EvPost.pv hQ I R))
   | Name x p =>
    unfold evN at h
    dsimp only at h
    split at h
    · exact aab h
    · rename_i hx
      exact z0 (aiU hG I R hx h hQ)
   | BoolOp op es p =>
    refine z0 ?_
    rw [arm_eval_BoolOp]
    exact acB H.ev _ ρ r ρ' h F s ad Rk I R Q hQ
   | Compare l ops rs p =>
    refine D.ev (.opt (l1 ops) fun op => .opt (l1 rs) fun rr => .ite (behindInMarks op rr) .fail (.opt3 (S.ev2 l rr ρ) fun a b ρ => .opt (cmpC op a b) fun t => .ret (.val (.bool t), ρ))) h hQ fun op e1 rr e2 => ⟨fun _ => trivial, fun hm _ _ _ h1 _ h2 hQ => z0 ?_⟩
    rw [aaI e1, aaI e2]
    exact afA H.ev hm h1 h2 Rk hk I R hQ
   | BinOp l op rr p => exact D.ev (.opt3 (S.ev2 l rr ρ) fun a b ρ => .opt (binC op a b) fun c => .ret (.val c, ρ)) h hQ fun _ _ _ h1 _ h2 hQ => z0 (ahf H.ev h1 h2 Rk I R hQ)
   | UnaryOp op x p => exact D.ev (.val (S.ev x ρ) fun c ρ => .opt (negC op c) fun v => .ret (.val v, ρ)) h hQ fun _ _ h1 _ h2 hQ => z0 (aiV H.ev h1 h2 Rk I R hQ)
   | Lambda pa b sc p => exact D.ev (.grd (scOk sc && lamOk pa && lamS ρ.scope) (.opt (caught ρ sc.names) fun caps => .ret (.val (.lam ⟨pa, b, sc⟩ caps), ρ))) h hQ fun h1 _ h2 hQ => z0 (akC hG h1 h2 I R (EvPost.pv hQ I R))
   | IfExp t b o p =>
    refine D.ev (.opt2 (S.it t ρ) fun t ρ => .ite t (.raw (S.ev b ρ)) (.raw (S.ev o ρ))) h hQ fun t ρ1 h1 => ⟨fun ht r h2 hQ => z0 (wpAny_IfExp ?_), fun ht r h2 hQ => z0 (wpAny_IfExp ?_)⟩
    · rw [ht] at h1
      exact H.it _ ρ true ρ1 h1 A env F s ad Rk I R _ _ fun F1 s1 ad1 S1 R1 sub1 => H.ev _ ρ1 r.1 r.2 h2 A env F1 s1 ad1 Rk S1.inv R1 _ _ (EvPost.step hQ S1 sub1)
    · rw [ht] at h1
      exact H.it _ ρ false ρ1 h1 A env F s ad Rk I R _ _ fun F1 s1 ad1 S1 R1 sub1 => H.ev _ ρ1 r.1 r.2 h2 A env F1 s1 ad1 Rk S1.inv R1 _ _ (EvPost.step hQ S1 sub1)
   | Call f args kws pos =>
    refine D.ev (.alt (eAttr f) (fun q => .grd kws.isEmpty (.grd (methOk q.1 args.length q.2.2 pos) (.raw (S.meth q.1 q.2.1 args ρ)))) (.opt2 (eName f) fun f _ => .grd (nameOk f) (.raw (S.call G f args kws ρ)))) h hQ
     ⟨fun q hat hkw hok r h hQ => z0 ?_, fun _ f _ hnm hn r h hQ => z0 ?_⟩
    · rw [ac1 hat, List.isEmpty_iff.mp hkw]
      exact aiW H.ev hst hok h Rk I R hQ
    · rw [aai hnm]
      exact ai4 (H.ev.mono (Nat.le_succ k)) hst (hG.mono (Nat.le_succ k)) H.ev hG (Nat.le_refl _) hn h Rm I R hQ
   | Subscript v i p =>
    refine D.ev (.alt (eSlice i) (fun q => .alt q.2.2 (fun _ => .fail) (.opt2 (S.ev v ρ) fun a ρ => .opt2 (S.oint q.1 ρ) fun l ρ => .opt2 (S.oint q.2.1 ρ) fun h ρ => .opt (deref ρ a) fun o => .opt (sliceC o l h) fun c => .ret (.val c, ρ)))
     (.opt3 (S.ev2 v i ρ) fun o k ρ => .opt (subC o k) fun c => .ret (.val c, ρ))) h hQ ⟨fun q hsl => ⟨fun _ _ => trivial, fun hst _ _ h1 _ _ h2 _ _ h3 _ h4 _ h5 hQ => z0 ?_⟩, fun _ _ _ _ h1 _ h2 hQ => z0 (afB H.ev h1 h2 Rk I R hQ)⟩
    obtain ⟨lo, hi, st⟩ := q
    obtain ⟨q, e⟩ := aen hsl
    rw [e, show st = none from hst]
    exact adT H.ev h1 h2 h3 h4 h5 Rk I R hQ
   | _ => exact aab h
 · exact D.ev (.opt2 (S.make G (mkOf G ρ e) ρ) fun o ρ => .grd (noView ρ) (.ret (.val o.cv, ρ))) h hQ fun _ _ h1 hv hQ => z0 (agg H hst hset hG h1 Rk I R (ai5 I R hv hQ))
set_option tactic.hygienic false
theorem ai6 (x : Expr) (p : Pos) (ρ : CE) : evStep G S (.Starred x p) ρ = none := rfl
theorem akq (x : List Expr) (kd : Nat) (p : Pos) (ρ : CE) : evStep G S (.Set x kd p) ρ = none := rfl
end
set_option tactic.hygienic false
theorem acK {e : Expr} (h : plainE e = true) (t : Option Expr) (l : Nat) (env : Env) : swapsWith e t l env = pure false := by
 cases e <;> first | rfl | cases h
theorem agl {e o i : Expr} {p : Pos} (l : Nat) (env : Env) : swapsWith e (some (.Subscript o i p)) l env = pure false := by
 cases e <;> rfl
section
variable {W : Wd} {F F' : FH} {s s' : Shared} {env : Env} {ρ : CE} {ad : Str -> Option Addr} {M : Addr -> Prop} {A : Around} {E : VP} {G : GE} {k : Nat} {S : SM}
set_option tactic.hygienic false
theorem ac0 (R : Rel W F s.heap env ρ ad) : interactive env = false := by
 unfold interactive
 rw [R.kind.fn]; rfl
set_option tactic.hygienic true
theorem acL {x : Str} {c : CV} {v : Value} {ρ1 : CE} {F1 : FH} {s1 : Shared} {ad1 : Str -> Option Addr} (S1 : Stp W (ownA ad) F F1 s s1) (R1 : Rel W F1 s1.heap env ρ1 ad1) (sub1 : ∀ x a, ad1 x = some a -> ad x = some a)
 (hc : canSet ρ1 x = true) (hv : RV W.prog W.w F1 c v) {Q : Flow -> Shared -> Prop} (hQ : XsPost W env ad F s .next (ρ1.set x (.val c)) Q) :
 wpAny (model W.prog W.w) A (storeName env x v) (fun _ => Q .next) E s1 := by
 have hn : NewSlot W F1 s1.heap env ad1 x (.val c) v none := ⟨hv, rfl⟩
 refine abE S1.inv R1 hc hn fun s' S' R' => ?_
 exact hQ .next F1 s' _ ((aap S1).trans S' (aaE fun x a q => .inl (sub1 x a q))) R' (fun y a e => .inl (sub1 y a (abw hn y a e))) rfl
set_option tactic.hygienic false
theorem aev (R : Rel W F s.heap env ρ ad) {d : Str} {o : CO} (hn : nameOk d = true) (h : ownAt ρ d = some o) {p : Pos} {Q : VP}
 (hQ : ∀ a, ad d = some a -> VarIs s.heap env d (.ref a) -> Q (.ref a) s) : wpAny (model W.prog W.w) A (eval (.Name d p) env) Q E s := by
 refine hid fun z0 => ?_
 obtain ⟨hown, _⟩ := aaS h
 obtain ⟨a, ha, hva, _⟩ := abH R hown
 have hnn := aa5 hn
 refine z0 ?_
 exact wpAny_Name (adm R.kind.fn hva (hQ a ha hva) hnn.2) hnn.1
set_option tactic.hygienic true
theorem ai7 (H : EvOK W k S.ev) {e : Expr} {pos : Pos} {ρ' : CE} (hp : plainE e = true) (h : S.ev e ρ = some (.val .none, ρ')) (Rm : Room A k) (I : Inv W F s) (R : Rel W F s.heap env ρ ad) {Q : Flow -> Shared -> Prop} (hQ : XsPost W env ad F s .next ρ' Q) :
 wpAny (model W.prog W.w) A (exec (.Expr e pos) env) Q E s := by
 refine wpAny_Expr (H e ρ _ ρ' h A env F s ad Rm I R _ _ fun v F1 s1 ad1 S1 R1 sub1 r1 => ?_) (ac0 R) (acK hp _ _ _)
 have r1 : RV W.prog W.w F1 .none v := r1
 subst r1
 exact hQ .next F1 s1 ad1 (aap S1) R1 (fun x a q => .inl (sub1 x a q)) rfl
theorem agm (H : EvOK W k S.ev) {e : Expr} {x : Str} {p pos : Pos} {c : CV} {ρ1 : CE} (hp : plainE e = true) (h : S.evf e ρ = some (c, ρ1)) (hc : canSet ρ1 x = true) (Rm : Room A k) (I : Inv W F s) (R : Rel W F s.heap env ρ ad) {Q : Flow -> Shared -> Prop}
 (hQ : XsPost W env ad F s .next (ρ1.set x (.val c)) Q) : wpAny (model W.prog W.w) A (exec (.Assign [.Name x p] e pos) env) Q E s := by
 refine wpAny_Assign_Name (aeW H h Rm I R fun v F1 s1 ad1 S1 R1 sub1 hv => ?_) (acK hp _ _ _)
 exact acL S1 R1 sub1 hc hv hQ
theorem ac9 (H : SmOK W k S) (hst : ∀ x p ρ, S.ev (.Starred x p) ρ = none) (hset : ∀ x kd p ρ, S.ev (.Set x kd p) ρ = none) (hG : GOK W k G) {e : Expr} {x : Str} {p pos : Pos} {o : CO} {ρ1 : CE} {b : Bool} (h : S.make G (mkOf G ρ e) ρ = some (o, ρ1))
 (hc : canSet ρ1 x = true) (hv : noView ρ1 = true) (Rm : Room A k) (I : Inv W F s) (R : Rel W F s.heap env ρ ad) {Q : Flow -> Shared -> Prop}
 (hQ : XsPost W env ad F s .next (ρ1.set x (match b with | true => .own o | false => .val o.cv)) Q) : wpAny (model W.prog W.w) A (exec (.Assign [.Name x p] e pos) env) Q E s := by
 have plain : swapsWith e (some (.Name x p)) pos.line env = pure false -> wpAny (model W.prog W.w) A (exec (.Assign [.Name x p] e pos) env) Q E s := fun hs => by
  refine wpAny_Assign_Name (agg H hst hset hG h Rm I R fun a F1 s1 ad1 S1 R1 sub1 ho hF hD => ?_) hs
  refine ad6 (b := b) I R S1 R1 sub1 ho hF hD hc (ab5 hv) fun F' s' ad' S' R' sub' _ => ?_
  exact hQ .next F' s' ad' S' R' (fun y c q => (sub' y c q).elim (fun z => .inl (sub1 y c z)) fun z => .inr (z ▸ hD)) rfl
 cases e with
 | ListComp elt gens sc cpos =>
  have hsw : ∃ t, swapsWith (.ListComp elt gens sc cpos) (some (.Name x p)) pos.line env = pure t := ⟨_, rfl⟩
  refine hid fun z1 => ?_
  obtain ⟨t, ht⟩ := hsw
  cases t with
  | false => refine z1 ?_; exact plain ht
  | true =>
   have h : S.make G (.comp elt gens sc) ρ = some (o, ρ1) := h
   unfold SM.make at h
   dsimp only at h
   split at h
   · rename_i cs ρ2 h1
     cases h
     refine z1 ?_
     exact afE (b := b) H hst hset hG h1 hc (ab5 hv) Rm I R ht hQ
   · cases h
 | SetComp _ _ _ _ => cases h
 | DictComp _ _ _ _ _ => cases h
 | _ => exact plain rfl
set_option tactic.hygienic false
set_option backward.match.sparseCases true in
theorem agn {a : Expr} : noStar a = true -> (match a with | .Starred .. => true | _ => false) = true -> False := by
 cases a <;> first | exact fun _ q => Bool.false_ne_true q | exact fun h _ => Bool.false_ne_true h
theorem ahv {x y : Str} {px py tp p' : Pos} {k' k'' : Nat} {a b : Expr} (h : pairOk ρ x px y py a b = true) (R : Rel W F s.heap env ρ ad) :
 swappedStores [.Tuple [.Name x px, .Name y py] k' tp] (.Tuple [a, b] k'' p') env = pure (some [x, y]) := by
 unfold pairOk at h
 simp only [Bool.and_eq_true, beq_iff_eq, Bool.not_eq_true', beq_eq_false_iff_ne, ne_eq] at h
 obtain ⟨⟨⟨⟨⟨⟨⟨h1, h2⟩, h3⟩, h4⟩, h5⟩, h6⟩, h7⟩, h8⟩ := h
 have k1 := R.kind.loc x h1
 have k2 := R.kind.loc y h2
 have hb : env.blockKind = .function := by unfold Env.blockKind; rw [R.kind.fn]; rfl
 have he : [x, y].eraseDups = [x, y] := by
  have : (y == x) = false := by simp; exact fun q => h3 q.symm
  simp [List.eraseDups_cons, this]
 unfold swappedStores
 dsimp only
 rw [if_neg (by simp [hb])]
 rw [if_neg (by
  show ¬ ([a, b].any _) = true
  rw [List.any_cons, List.any_cons, List.any_nil, Bool.or_false]
  intro q
  rcases Bool.or_eq_true_iff.mp q with q | q
  · exact agn h5 q
  · exact agn h6 q)]
 have hf : ∀ {f : Expr -> Option Str}, f (.Name x px) = some x -> f (.Name y py) = some y -> List.filterMap f [.Name x px, .Name y py] = [x, y] := fun a b => by rw [List.filterMap_cons_some a, List.filterMap_cons_some b, List.filterMap_nil]
 rw [hf (by show (if (env.kindOf x == some .local && px.line == px.line) = true then some x else none) = some x; rw [k1]; simp) (by show (if (env.kindOf y == some .local && py.line == px.line) = true then some y else none) = some y; rw [k2, h4]; simp)]
 rw [if_neg (by rw [he]; simp), h7, h8]
 rfl
end
section
variable {W : Wd} {F F' : FH} {s s' : Shared} {env : Env} {ρ : CE} {ad : Str -> Option Addr} {M : Addr -> Prop} {A : Around} {E : VP} {G : GE} {k : Nat} {S : SM}
set_option tactic.hygienic true
theorem ai8 (H : EvOK W k S.ev) (hst : ∀ x p ρ, S.ev (.Starred x p) ρ = none) {x y : Str} {px py tp p' pos : Pos} {k' k'' : Nat} {a b : Expr} {avs : List EV} {ρ1 ρ2 : CE} {c d : CV} (hp : pairOk ρ x px y py a b = true)
 (h1 : S.evs [a, b] ρ = some (avs, ρ1)) (h2 : freezes avs ρ1 = some ([c, d], ρ2)) (hcx : canSet ρ2 x = true) (hcy : canSet ρ2 y = true) (Rm : Room A k) (I : Inv W F s) (R : Rel W F s.heap env ρ ad) {Q : Flow -> Shared -> Prop}
 (hQ : XsPost W env ad F s .next ((ρ2.set y (.val d)).set x (.val c)) Q) : wpAny (model W.prog W.w) A (exec (.Assign [.Tuple [.Name x px, .Name y py] k' tp] (.Tuple [a, b] k'' p') pos) env) Q E s := by
 have hxy : x ≠ y := by
  unfold pairOk at hp
  simp only [Bool.and_eq_true, Bool.not_eq_true', beq_eq_false_iff_ne, ne_eq] at hp
  exact hp.1.1.1.1.1.2
 refine Assign_Tuple_swapped (names := [x, y]) ?_ rfl (ahv hp R)
 refine wpAny_Tuple (adQ H hst [a, b] ρ avs ρ1 h1 A env F s ad p' Rm I R _ _ fun vs F1 s1 ad1 S1 R1 sub1 r1 => ?_)
 obtain ⟨F2, ad2, S2, R2, sub2, rv⟩ := abe avs ρ1 [c, d] ρ2 F1 ad1 h2 S1.inv R1 vs r1
 obtain ⟨v, u, rfl, rc, rd⟩ : ∃ v u, vs = [v, u] ∧ RV W.prog W.w F2 c v ∧ RV W.prog W.w F2 d u := by
  obtain ⟨v, r, e, rc, u, r', e', rd, e''⟩ := rv
  exact ⟨v, u, by rw [e, e', e''], rc, rd⟩
 refine ⟨by show 2 ≤ sizeLine; decide, ?_⟩
 have S12 : Stp W (ownA ad) F F2 s s1 := S1.trans S2 (aag sub1)
 have sub12 : ∀ x a, ad2 x = some a -> ad x = some a := fun x a q => sub1 x a (sub2 x a q)
 refine unpackItems_tuple (prog := W.prog) (w := W.w) (items := #[v, u]) Rm.hh ⟨_, Heap.get?_push_size _ rfl, rfl, 0, rfl⟩ fun h' he => ?_
 have S3 : Stp W (fun _ => False) F2 F2 s1 { s1 with heap := h', toks := s1.toks } := Stp.ofKeep S2.inv fun b o e => ae1 he b o (aal _ b o e)
 have R3 := R2.keep0 S2.inv S3
 have S13 : Stp W (ownA ad) F F2 s { s1 with heap := h', toks := s1.toks } := S12.trans S3 fun _ q => q.elim
 show wpAny _ A (do PySem.holding [v] (bindName env y u); assignInOrder [fun v => bindName env x v] [v]) _ _ _
 refine wpAny_bind (wpAny_holding (wpAny_bindName ?_))
 have hn : NewSlot W F2 h' env ad2 y (.val d) u none := ⟨rd, rfl⟩
 refine abE (s := { s1 with heap := h', toks := s1.toks }) S3.inv R3 hcy hn fun s4 S4 R4 => ?_
 show wpAny _ A (do PySem.holding [] (bindName env x v); assignInOrder [] []) _ _ _
 refine wpAny_bind (wpAny_holding (wpAny_bindName ?_))
 have hn' : NewSlot W F2 s4.heap env (with1 ad2 y none) x (.val c) v none := ⟨rc, rfl⟩
 have hcx' : canSet (ρ2.set y (.val d)) x = true := by
  unfold canSet at hcx ⊢
  rw [aha, aaN, if_neg hxy]; exact hcx
 have sub4 : ∀ z a, with1 ad2 y none z = some a -> ad2 z = some a := abw (s := s1) (env := env) hn
 refine abE S4.inv R4 hcx' hn' fun s5 S5 R5 => wpAny_pure ?_
 refine hQ .next F2 s5 _ (((aap S13).trans S4 (aaE fun x a q => .inl (sub12 x a q))).trans S5 (aaE fun z a q => .inl (sub12 z a (sub4 z a q)))) R5 (fun z a e => .inl (sub12 z a (sub4 z a (abw (s := s1) (env := env) hn' z a e)))) rfl
theorem ago (H : EvOK W k S.ev) {d : Str} {i e : Expr} {dp ip pos : Pos} {c kv : CV} {ρ1 ρ2 : CE} {o0 o o' : CO} (hp : plainE e = true) (hn : nameOk d = true) (h1 : S.evf e ρ = some (c, ρ1)) (h0 : ownAt ρ1 d = some o0) (h2 : S.ev i ρ1 = some (.val kv, ρ2))
 (h3 : ownAt ρ2 d = some o) (h4 : setC o kv c = some o') (Rm : Room A k) (I : Inv W F s) (R : Rel W F s.heap env ρ ad) {Q : Flow -> Shared -> Prop} (hQ : XsPost W env ad F s .next (ρ2.set d (reown (ρ2.get d) o')) Q) :
 wpAny (model W.prog W.w) A (exec (.Assign [.Subscript (.Name d dp) i ip] e pos) env) Q E s := by
 refine wpAny_Assign_Subscript (aeW H h1 Rm I R fun v F1 s1 ad1 S1 R1 sub1 hv => ?_) (agl _ _)
 refine aev R1 hn h0 fun a ha hva => ?_
 refine H i ρ1 _ ρ2 h2 A env F1 s1 ad1 Rm S1.inv R1 _ _ fun u F2 s2 ad2 S2 R2 sub2 hu => ?_
 obtain ⟨hown, hvw⟩ := aaS h3
 obtain ⟨a', ha', hva', hor⟩ := abH R2 hown
 have hq : a' = a := by
  have e1 := sub2 d a' ha'
  rw [ha] at e1; exact (Option.some.inj e1).symm
 subst hq
 have S12 : Stp W (ownA ad) F F2 s s2 := S1.trans S2 (aag sub1)
 have sub12 : ∀ x a, ad2 x = some a -> ad x = some a := fun x a q => sub1 x a (sub2 x a q)
 refine ais h4 hor (show RV W.prog W.w F2 kv u from hu) (RV.mono _ _ S2.sub _ _ hv) fun h' tk hb ho => ?_
 obtain ⟨S3, R3⟩ := aeZ (tk := tk) S2.inv R2 hown ha' hb ho hvw
 exact hQ .next F2 _ ad2 (aap (S12.trans S3 (aag sub12))) R3 (fun x a q => .inl (sub12 x a q)) rfl
theorem afK (H : EvOK W k S.ev) {x : Str} {op : Operator} {e : Expr} {p pos : Pos} {a b c : CV} {ρ1 : CE} (hn : nameOk x = true) (hg : ρ.get x = some (.val a)) (h1 : S.ev e ρ = some (.val b, ρ1)) (h2 : augC op a b = some c) (hc : canSet ρ1 x = true)
 (Rm : Room A k) (I : Inv W F s) (R : Rel W F s.heap env ρ ad) {Q : Flow -> Shared -> Prop} (hQ : XsPost W env ad F s .next (ρ1.set x (.val c)) Q) : wpAny (model W.prog W.w) A (exec (.AugAssign (.Name x p) op e pos) env) Q E s := by
 obtain ⟨v, hv, rv⟩ := R.var x _ hg
 refine wpAny_AugAssign_Name (adm R.kind.fn hv ?_ (aa5 hn).2)
 refine H e ρ _ ρ1 h1 A env F s ad Rm I R _ _ fun u F1 s1 ad1 S1 R1 sub1 hu => ?_
 have hu : RV W.prog W.w F1 b u := hu
 refine aiq h2 S1.inv (.inl (RV.mono _ _ S1.sub _ _ rv)) (.inl hu) fun w F2 s2 S2 hw => ?_
 exact acL (S1.trans S2 fun _ q => q.elim) (R1.keep0 S1.inv S2) sub1 hc hw hQ
theorem agp (H : EvOK W k S.ev) {d : Str} {op : Operator} {i e : Expr} {dp ip pos : Pos} {a b c kv : CV} {ρ1 ρ2 : CE} {o0 o o2 o' : CO} (hn : nameOk d = true) (hi : notSlice i = true) (h0 : ownAt ρ d = some o0) (h1 : S.ev i ρ = some (.val kv, ρ1)) (h3 : ownAt ρ1 d = some o)
 (h4 : subC o.cv kv = some a) (h5 : S.ev e ρ1 = some (.val b, ρ2)) (h6 : augC op a b = some c) (h7 : ownAt ρ2 d = some o2) (h8 : setC o2 kv c = some o')
 (Rm : Room A k) (I : Inv W F s) (R : Rel W F s.heap env ρ ad) {Q : Flow -> Shared -> Prop} (hQ : XsPost W env ad F s .next (ρ2.set d (reown (ρ2.get d) o')) Q) :
 wpAny (model W.prog W.w) A (exec (.AugAssign (.Subscript (.Name d dp) i ip) op e pos) env) Q E s := by
 refine wpAny_AugAssign_SubscriptAny ?_ (fun ov iv new => by cases i <;> first | rfl | cases hi)
 refine aev R hn h0 fun la hla hva => ?_
 refine H i ρ _ ρ1 h1 A env F s ad Rm I R _ _ fun u F1 s1 ad1 S1 R1 sub1 hu => ?_
 have hu : RV W.prog W.w F1 kv u := hu
 obtain ⟨hown, _⟩ := aaS h3
 obtain ⟨a', ha', hva', hor⟩ := abH R1 hown
 have hq : a' = la := by
  have e1 := sub1 d a' ha'
  rw [hla] at e1; exact (Option.some.inj e1).symm
 subst hq
 refine (fun z : SubscriptOn (model W.prog W.w) A (.ref a') u _ E s1 => let ⟨_, _, _, _, q⟩ := z; q) (air h4 S1.inv (.inr ⟨o, a', rfl, rfl, hor⟩) (.inl hu) fun v F2 s2 S2 hv => ?_)
 have R2 := R1.keep0 S1.inv S2
 refine H e ρ1 _ ρ2 h5 A env F2 s2 ad1 Rm S2.inv R2 _ _ fun w F3 s3 ad3 S3 R3 sub3 hw => ?_
 have hw : RV W.prog W.w F3 b w := hw
 have S12 : Stp W (ownA ad) F F2 s s2 := S1.trans S2 fun _ q => q.elim
 have S13 : Stp W (ownA ad) F F3 s s3 := S12.trans S3 (aag sub1)
 have sub13 : ∀ x a, ad3 x = some a -> ad x = some a := fun x a q => sub1 x a (sub3 x a q)
 refine aiq h6 S3.inv (.inl (RV.mono _ _ S3.sub _ _ hv)) (.inl hw) fun z F4 s4 S4 hz => ?_
 have R4 := R3.keep0 S3.inv S4
 obtain ⟨hown2, hvw⟩ := aaS h7
 obtain ⟨a'', ha'', hva'', hor2⟩ := abH R4 hown2
 have hq : a'' = a' := by
  have e1 := sub13 d a'' ha''
  rw [hla] at e1; exact (Option.some.inj e1).symm
 subst hq
 have S14 : Stp W (ownA ad) F F4 s s4 := S13.trans S4 fun _ q => q.elim
 refine ais h8 hor2 (RV.mono _ _ (fun a o e => S4.sub _ _ (S3.sub _ _ (S2.sub _ _ e))) _ _ hu) hz fun h' tk hb ho => ?_
 obtain ⟨S5, R5⟩ := aeZ (tk := tk) S4.inv R4 hown2 ha'' hb ho hvw
 exact hQ .next F4 _ ad3 (aap (S14.trans S5 (aag sub13))) R5 (fun x a q => .inl (sub13 x a q)) rfl
theorem afL (H : EvOK W k S.ev) {d : Str} {i : Expr} {dp ip pos : Pos} {kv : CV} {ρ1 : CE} {o0 o o' : CO} (hn : nameOk d = true) (h0 : ownAt ρ d = some o0) (h1 : S.ev i ρ = some (.val kv, ρ1)) (h3 : ownAt ρ1 d = some o) (h4 : delC o kv = some o')
 (Rm : Room A k) (I : Inv W F s) (R : Rel W F s.heap env ρ ad) {Q : Flow -> Shared -> Prop} (hQ : XsPost W env ad F s .next (ρ1.set d (reown (ρ1.get d) o')) Q) :
 wpAny (model W.prog W.w) A (exec (.Delete [.Subscript (.Name d dp) i ip] pos) env) Q E s := by
 refine wpAny_Delete (wpAny_deleteEach_cons (wpAny_delete_Subscript ?_))
 refine aev R hn h0 fun la hla hva => ?_
 refine H i ρ _ ρ1 h1 A env F s ad Rm I R _ _ fun u F1 s1 ad1 S1 R1 sub1 hu => ?_
 have hu : RV W.prog W.w F1 kv u := hu
 obtain ⟨hown, hvw⟩ := aaS h3
 obtain ⟨a', ha', hva', hor⟩ := abH R1 hown
 have hq : a' = la := by
  have e1 := sub1 d a' ha'
  rw [hla] at e1; exact (Option.some.inj e1).symm
 subst hq
 refine aky h4 hor hu fun h' tk hb ho => wpAny_deleteEach_nil ?_
 obtain ⟨S3, R3⟩ := aeZ (tk := tk) S1.inv R1 hown ha' hb ho hvw
 exact hQ .next F1 _ ad1 (aap (S1.trans S3 (aag sub1))) R3 (fun x a q => .inl (sub1 x a q)) rfl
theorem ahw (H : SmOK W k S) {t : Expr} {b : List Stmt} {pos : Pos} {n : Nat} {r : FC} {ρ' : CE} (h : whileL (S.it t) (S.xss b) n ρ = some (r, ρ')) (Rm : Room A k) (I : Inv W F s) (R : Rel W F s.heap env ρ ad) {Q : Flow -> Shared -> Prop}
 (hQ : XsPost W env ad F s r ρ' Q) : wpAny (model W.prog W.w) A (exec (.While t b [] pos) env) Q E s := by
 refine wpAny_While ?_
 let J : Nat -> Shared -> Prop := fun m s' => ∃ ρi Fi adi, whileL (S.it t) (S.xss b) m ρi = some (r, ρ') ∧ Stp W (frmA env ad) F Fi s s' ∧ Rel W Fi s'.heap env ρi adi ∧ (∀ x a, adi x = some a -> ad x = some a ∨ Fre s.heap a)
 refine codeAny_whileLoop J ?_ n ⟨ρ, F, ad, h, .refl I, R, fun _ _ e => .inl e⟩
 rintro m s' ⟨ρi, Fi, adi, hl, Si, Ri, subi⟩
 cases m with
 | zero => cases hl
 | succ m =>
  rw [adl] at hl
  cases h1 : S.it t ρi with
  | none => rw [h1] at hl; cases hl
  | some p =>
   obtain ⟨ok, ρ1⟩ := p
   rw [h1] at hl
   refine H.it t ρi ok ρ1 h1 A env Fi s' adi Rm Si.inv Ri _ _ fun F1 s1 ad1 S1 R1 sub1 => ?_
   have S01 : Stp W (frmA env ad) F F1 s s1 := Si.trans (aap S1) (aaE subi)
   have sub01 : ∀ x a, ad1 x = some a -> ad x = some a ∨ Fre s.heap a := fun x a q => subi x a (sub1 x a q)
   cases ok with
   | false =>
    cases hl
    simp only [Bool.false_eq_true, if_false]
    exact wpAny_execs_nil (hQ .next F1 s1 ad1 S01 R1 sub01 rfl)
   | true =>
    dsimp only at hl
    simp only [if_true]
    cases h2 : S.xss b ρ1 with
    | none => rw [h2] at hl; cases hl
    | some p =>
     obtain ⟨f, ρ2⟩ := p
     rw [h2] at hl
     refine ac7 H.xs b ρ1 f ρ2 h2 A env F1 s1 ad1 Rm S1.inv R1 _ _ fun fl F2 s2 ad2 S2 R2 sub2 r2 => ?_
     have S02 : Stp W (frmA env ad) F F2 s s2 := S01.trans S2 (aaE sub01)
     have sub02 : ∀ x a, ad2 x = some a -> ad x = some a ∨ Fre s.heap a := fun x a q => (sub2 x a q).elim (sub01 x a) fun z => .inr (S01.back z)
     cases f with
     | next =>
      obtain rfl : fl = .next := r2
      exact ⟨m, Nat.lt_succ_self _, ρ2, F2, ad2, hl, S02, R2, sub02⟩
     | cont =>
      obtain rfl : fl = .cont := r2
      exact ⟨m, Nat.lt_succ_self _, ρ2, F2, ad2, hl, S02, R2, sub02⟩
     | brk =>
      obtain rfl : fl = .brk := r2
      cases hl
      exact hQ .next F2 s2 ad2 S02 R2 sub02 rfl
     | ret c =>
      obtain ⟨v, rfl, rv⟩ := r2
      cases hl
      exact hQ _ F2 s2 ad2 S02 R2 sub02 ⟨v, rfl, rv⟩
end
section
variable {W : Wd} {F F' : FH} {s s' : Shared} {env : Env} {ρ : CE} {ad : Str -> Option Addr} {A : Around} {E : VP} {G : GE} {k : Nat} {S : SM}
set_option tactic.hygienic false
theorem afM {ds : Option (Str -> Bool)} {o : Option (FC × CE)} {f : FC} {ρ' : CE} (h : dropF ds o = some (f, ρ')) : ∃ ρ1, o = some (f, ρ1) ∧ (ρ' = ρ1 ∨ ∃ d, ρ' = ρ1.drop d) := by
 cases ds with
 | none => exact ⟨ρ', h, .inl rfl⟩
 | some d => cases o with
  | none => exact aab h
  | some p => obtain ⟨g, ρ1⟩ := p; cases h; exact ⟨ρ1, rfl, .inr ⟨d, rfl⟩⟩
theorem D.xs {o : Option (FC × CE)} {r : FC} {ρ' : CE} {Q : Flow -> Shared -> Prop} (d : D (FC × CE)) (h : o = some (r, ρ')) (c : XsPost W env ad F s r ρ' Q) {P : Prop} (k : d.inv (fun z => XsPost W env ad F s z.1 z.2 Q -> P)) (e : d.run = o := by ext) : P :=
 D.ok (P := fun z => XsPost W env ad F s z.1 z.2 Q -> P) (e.trans h) k c
set_option tactic.hygienic true
theorem ai9 (H : SmOK W k S) (hst : ∀ x p ρ, S.ev (.Starred x p) ρ = none) (hset : ∀ x kd p ρ, S.ev (.Set x kd p) ρ = none) (hG : GOK W k G) {e : Expr} {x : Str} {px pos : Pos} {r : FC} {ρ' : CE} (h : asgN G S x e ρ = some (r, ρ')) (Rm : Room A k)
 (I : Inv W F s) (R : Rel W F s.heap env ρ ad) {Q : Flow -> Shared -> Prop} (hQ : XsPost W env ad F s r ρ' Q) : wpAny (model W.prog W.w) A (exec (.Assign [.Name x px] e pos) env) Q E s := by
 unfold asgN at h
 split at h
 · exact D.xs (.grd (plainE e) (.opt2 (S.evf e ρ) fun c ρ => .grd (canSet ρ x) (.ret (.next, ρ.set x (.val c))))) h hQ fun hp _ _ h1 hc hQ => agm H.ev hp h1 hc Rm I R hQ
 · exact D.xs (.opt2 (S.make G (mkOf G ρ e) ρ) fun o ρ => .grd (canSet ρ x && noView ρ) (.ite (G.owns x) (.ret (.next, ρ.set x (.own o))) (.ret (.next, ρ.set x (.val o.cv))))) h hQ fun _ _ h1 hc =>
    ⟨fun _ hQ => ac9 (b := true) H hst hset hG h1 (Bool.and_eq_true_iff.mp hc).1 (Bool.and_eq_true_iff.mp hc).2 Rm I R hQ, fun _ hQ => ac9 (b := false) H hst hset hG h1 (Bool.and_eq_true_iff.mp hc).1 (Bool.and_eq_true_iff.mp hc).2 Rm I R hQ⟩
theorem aja (H : SmOK W k S) (hst : ∀ x p ρ, S.ev (.Starred x p) ρ = none) {a b : Expr} {x y : Str} {px py pos p1 p2 : Pos} {k1 k2} {r : FC} {ρ' : CE} (h : asgP S x px y py a b ρ = some (r, ρ')) (Rm : Room A k)
 (I : Inv W F s) (R : Rel W F s.heap env ρ ad) {Q : Flow -> Shared -> Prop} (hQ : XsPost W env ad F s r ρ' Q) : wpAny (model W.prog W.w) A (exec (.Assign [.Tuple [.Name x px, .Name y py] k1 p1] (.Tuple [a, b] k2 p2) pos) env) Q E s := by
 refine D.xs (.grd (pairOk ρ x px y py a b) (.opt2 (S.evs [a, b] ρ) fun avs ρ => .opt2 (freezes avs ρ) fun cs ρ => .opt2 (l2 cs) fun c d => .grd (canSet ρ x && canSet ρ y) (.ret (.next, (ρ.set y (.val d)).set x (.val c))))) h hQ fun hp _ _ h1 _ _ h2 _ _ h3 hc hQ => ?_
 rw [acy h3] at h2
 exact ai8 H.ev hst hp h1 h2 (Bool.and_eq_true_iff.mp hc).1 (Bool.and_eq_true_iff.mp hc).2 Rm I R hQ
theorem ajb (H : SmOK W k S) {i e : Expr} {d : Str} {dp ip pos : Pos} {r : FC} {ρ' : CE} (h : asgS S d i e ρ = some (r, ρ')) (Rm : Room A k)
 (I : Inv W F s) (R : Rel W F s.heap env ρ ad) {Q : Flow -> Shared -> Prop} (hQ : XsPost W env ad F s r ρ' Q) : wpAny (model W.prog W.w) A (exec (.Assign [.Subscript (.Name d dp) i ip] e pos) env) Q E s :=
 D.xs (.grd (plainE e && nameOk d) (.opt2 (S.evf e ρ) fun c ρ => .opt (ownAt ρ d) fun _ => .val (S.ev i ρ) fun k ρ => .opt (ownAt ρ d) fun o => .opt (setC o k c) fun o' => .ret (.next, ρ.set d (reown (ρ.get d) o')))) h hQ
  fun hp _ _ h1 _ h0 _ _ h2 _ h3 _ h4 hQ => ago H.ev (Bool.and_eq_true_iff.mp hp).1 (Bool.and_eq_true_iff.mp hp).2 h1 h0 h2 h3 h4 Rm I R hQ
theorem ajc (H : SmOK W k S) {e : Expr} {op : Operator} {x : Str} {px pos : Pos} {r : FC} {ρ' : CE} (h : augN S x op e ρ = some (r, ρ')) (Rm : Room A k)
 (I : Inv W F s) (R : Rel W F s.heap env ρ ad) {Q : Flow -> Shared -> Prop} (hQ : XsPost W env ad F s r ρ' Q) : wpAny (model W.prog W.w) A (exec (.AugAssign (.Name x px) op e pos) env) Q E s := by
 unfold augN at h
 refine hid fun z0 => ?_
 split at h
 · rename_i hn hg
   simp only [Bool.and_eq_true] at hn
   split at h
   · rename_i h1
     split at h
     · rename_i h2
       split at h
       · rename_i hc
         cases h
         refine z0 ?_
         exact afK H.ev hn.1 hg h1 h2 hc Rm I R hQ
       · exact aab h
     · exact aab h
   · exact aab h
 · exact aab h
theorem ajd (H : SmOK W k S) {i e : Expr} {op : Operator} {d : Str} {dp ip pos : Pos} {r : FC} {ρ' : CE} (h : augS S d i op e ρ = some (r, ρ')) (Rm : Room A k)
 (I : Inv W F s) (R : Rel W F s.heap env ρ ad) {Q : Flow -> Shared -> Prop} (hQ : XsPost W env ad F s r ρ' Q) : wpAny (model W.prog W.w) A (exec (.AugAssign (.Subscript (.Name d dp) i ip) op e pos) env) Q E s :=
 D.xs (.grd (nameOk d && notSlice i) (.opt (ownAt ρ d) fun _ => .val (S.ev i ρ) fun k ρ => .opt (ownAt ρ d) fun o => .opt (subC o.cv k) fun a => .val (S.ev e ρ) fun b ρ => .opt (augC op a b) fun c => .opt (ownAt ρ d) fun o => .opt (setC o k c) fun o' => .ret (.next, ρ.set d (reown (ρ.get d) o')))) h hQ
  fun hn _ h0 _ _ h1 _ h3 _ h4 _ _ h5 _ h6 _ h7 _ h8 hQ => agp H.ev (Bool.and_eq_true_iff.mp hn).1 (Bool.and_eq_true_iff.mp hn).2 h0 h1 h3 h4 h5 h6 h7 h8 Rm I R hQ
theorem aje (H : SmOK W k S) {i : Expr} {d : Str} {dp ip pos : Pos} {r : FC} {ρ' : CE} (h : delS S d i ρ = some (r, ρ')) (Rm : Room A k)
 (I : Inv W F s) (R : Rel W F s.heap env ρ ad) {Q : Flow -> Shared -> Prop} (hQ : XsPost W env ad F s r ρ' Q) : wpAny (model W.prog W.w) A (exec (.Delete [.Subscript (.Name d dp) i ip] pos) env) Q E s :=
 D.xs (.grd (nameOk d) (.opt (ownAt ρ d) fun _ => .val (S.ev i ρ) fun k ρ => .opt (ownAt ρ d) fun o => .opt (delC o k) fun o' => .ret (.next, ρ.set d (reown (ρ.get d) o')))) h hQ
  fun hn _ h0 _ _ h1 _ h3 _ h4 hQ => afL H.ev hn h0 h1 h3 h4 Rm I R hQ
theorem agq (H : SmOK W k S) (hst : ∀ x p ρ, S.ev (.Starred x p) ρ = none) (hset : ∀ x kd p ρ, S.ev (.Set x kd p) ρ = none) (hG : GOK W k G) : XsOK W k (xsStep G S) := by
 intro st ρ r ρ' h A env F s ad Rm I R Q E hQ0
 have hQ : XsPost W env ad F s r ρ' Q := hQ0
 clear hQ0
 refine hid fun z => ?_
 cases st with
 | Expr e p =>
  unfold xsStep at h
  dsimp only at h
  split at h
  · exact aab h
  · rename_i hp
    split at h
    · rename_i h1
      cases h
      exact z (ai7 H.ev hp h1 Rm I R hQ)
    · exact aab h
 | Assign ts e pos =>
  refine D.xs (.opt (l1 ts) fun t => .alt (eName t) (fun q => .raw (asgN G S q.1 e ρ)) (.alt (eSub t) (fun q => .opt2 (eName q.1) fun d _ => .raw (asgS S d q.2.1 e ρ)) (.opt (eTup t) fun us => .opt (eTup e) fun vs => .opt2 (l2 us) fun u v => .opt2 (l2 vs) fun a b => .opt2 (eName u) fun x px => .opt2 (eName v) fun y py => .raw (asgP S x px y py a b ρ)))) h hQ
   fun t ht => ⟨fun q hn r h hQ => z ?_, fun _ => ⟨fun q hs d _ hn r h hQ => z ?_, fun _ us h1 vs h2 u v h3 a b h4 x px h5 y py h6 r h hQ => z ?_⟩⟩
  · rw [aaI ht, aai hn]
    exact ai9 H hst hset hG h Rm I R hQ
  · rw [aaI ht, acw hs, aai hn]
    exact ajb H h Rm I R hQ
  · obtain ⟨_, _, e1⟩ := acx h1
    obtain ⟨_, _, e2⟩ := acx h2
    rw [aaI ht, e1, e2, acy h3, acy h4, aai h5, aai h6]
    exact aja H hst h Rm I R hQ
 | AugAssign t op e pos =>
  refine D.xs (.alt (eName t) (fun q => .raw (augN S q.1 op e ρ)) (.opt3 (eSub t) fun a i _ => .opt2 (eName a) fun d _ => .raw (augS S d i op e ρ))) h hQ ⟨fun q hn r h hQ => z ?_, fun _ a i _ hs d _ hn r h hQ => z ?_⟩
  · rw [aai hn]
    exact ajc H h Rm I R hQ
  · rw [acw hs, aai hn]
    exact ajd H h Rm I R hQ
 | Return v p =>
  cases v with
  | some e =>
   exact D.xs (.opt2 (S.evf e ρ) fun c ρ => .ret (.ret c, ρ)) h hQ fun c ρ1 h1 hQ => z (wpAny_Return_some (aeW H.ev h1 Rm I R fun v F1 s1 ad1 S1 R1 sub1 hv =>
    hQ _ F1 s1 ad1 (aap S1) R1 (fun x a q => .inl (sub1 x a q)) ⟨v, rfl, hv⟩))
  | none =>
   cases h
   exact z (wpAny_Return_none (hQ _ F s ad (.refl I) R (fun _ _ e => .inl e) ⟨.none, rfl, rfl⟩))
 | If t b o p =>
  refine D.xs (.opt2 (S.it t ρ) fun t ρ => .ite t (.raw (S.xss b ρ)) (.raw (S.xss o ρ))) h hQ fun t ρ1 h1 => ⟨fun ht r h hQ => z (wpAny_If ?_), fun ht r h hQ => z (wpAny_If ?_)⟩
  · rw [ht] at h1
    exact H.it _ ρ true ρ1 h1 A env F s ad Rm I R _ _ fun F1 s1 ad1 S1 R1 sub1 => ac7 H.xs _ ρ1 r.1 r.2 h A env F1 s1 ad1 Rm S1.inv R1 _ _ (hQ.step (aap S1) fun x a q => .inl (sub1 x a q))
  · rw [ht] at h1
    exact H.it _ ρ false ρ1 h1 A env F s ad Rm I R _ _ fun F1 s1 ad1 S1 R1 sub1 => ac7 H.xs _ ρ1 r.1 r.2 h A env F1 s1 ad1 Rm S1.inv R1 _ _ (hQ.step (aap S1) fun x a q => .inl (sub1 x a q))
 | For t e b els p =>
  refine D.xs (.grd els.isEmpty (.opt2 (S.items G true t e ρ) fun cs ρ => .raw (dropF (dropsT G t) (loopL (fun c ρ => match bindT t c ρ with | some ρ => S.xss b ρ | none => none) cs ρ)))) h hQ fun he cs _ h1 r h hQ => z ?_
  rw [List.isEmpty_iff.mp he]
  obtain ⟨ρ1, h2, hd⟩ := afM (f := r.1) (ρ' := r.2) h
  exact akA H hst hset hG h1 h2 Rm I R fun fl F1 s1 ad1 S1 R1 sub1 r1 => hQ fl F1 s1 ad1 S1 (hd.elim (fun e => e ▸ R1) fun ⟨d, e⟩ => e ▸ R1.drop d) sub1 r1
 | While t b els p =>
  refine D.xs (.grd els.isEmpty (.raw (whileL (S.it t) (S.xss b) 100 ρ))) h hQ fun he r h hQ => z ?_
  rw [List.isEmpty_iff.mp he]
  exact ahw H h Rm I R hQ
 | Assert t m p =>
  cases m with
  | none =>
   exact D.xs (.opt2 (S.it t ρ) fun b ρ => .grd b (.ret (.next, ρ))) h hQ fun b ρ1 h1 hb hQ => z (wpAny_Assert Rm.hh (H.it _ ρ true _ (hb ▸ h1) A env F s ad Rm I R _ _ fun F1 s1 ad1 S1 R1 sub1 =>
    hQ .next F1 s1 ad1 (aap S1) R1 (fun x a q => .inl (sub1 x a q)) rfl))
  | some _ => exact aab h
 | Delete ts p =>
  refine D.xs (.opt (l1 ts) fun t => .opt3 (eSub t) fun a i _ => .opt2 (eName a) fun d _ => .raw (delS S d i ρ)) h hQ fun t ht a i _ hs d _ hn r h hQ => z ?_
  rw [aaI ht, acw hs, aai hn]
  exact aje H h Rm I R hQ
 | _ => exact aab h
set_option tactic.hygienic false
theorem aiv (hG : GOK W k G) (hk : 20 ≤ k) : ∀ n, SmOK W (k + n) (sem G n) ∧ (∀ x p ρ, (sem G n).ev (.Starred x p) ρ = none) ∧ ∀ x kd p ρ, (sem G n).ev (.Set x kd p) ρ = none
 | 0 => ⟨⟨fun _ _ _ _ h => (by cases h), fun _ _ _ _ h => (by cases h), fun _ _ _ _ h => (by cases h)⟩, fun _ _ _ => rfl, fun _ _ _ _ => rfl⟩
 | n + 1 => by
  obtain ⟨H, hst, hset⟩ := aiv hG hk n
  have hG' : GOK W (k + n) G := hG.mono (Nat.le_add_right _ _)
  have hk' : 20 ≤ k + n := Nat.le_trans hk (Nat.le_add_right _ _)
  exact ⟨⟨agk H hst hset hG' hk', (af7 H hk').mono (Nat.le_succ _), (agq H hst hset hG').mono (Nat.le_succ _)⟩, fun _ _ _ => rfl, fun _ _ _ _ => rfl⟩
end
set_option tactic.hygienic true
theorem aaO : ∀ (names : List (Str × NameKind)) (n : Nat) (acc : List (Str × Addr)) (x : Str), ((acc.lookup x).isSome = true ∨ (x, NameKind.cell) ∈ names) -> ((cellsFrom n names acc).lookup x).isSome = true
 | [], n, acc, x, h => by
  rcases h with h | h
  · exact h
  · cases h
 | (m, kd) :: r, n, acc, x, h => by
  unfold cellsFrom
  split
  · rename_i hk
    refine aaO r _ _ x ?_
    rcases h with h | h
    · left
      simp only [List.lookup_cons]
      cases x == m with
      | true => rfl
      | false => exact h
    · rcases List.mem_cons.mp h with q | q
      · cases q; left; simp [List.lookup_cons]
      · exact .inr q
  · rename_i hk
    refine aaO r _ _ x ?_
    rcases h with h | h
    · exact .inl h
    · rcases List.mem_cons.mp h with q | q
      · cases q; exact absurd rfl hk
      · exact .inr q
set_option tactic.hygienic false
theorem aea {kindOf : Str -> Option NameKind} : ∀ (bs : List (Str × Value)) (m : Str -> Option Value) (n : Str), n ∉ bs.map (·.1) -> bindL kindOf bs m n = m n
 | [], m, n, _ => rfl
 | (p, v) :: r, m, n, h => by
  simp only [List.map_cons, List.mem_cons, not_or] at h
  unfold bindL
  rw [aea r _ n h.2]
  split
  · exact if_neg h.1
  · rfl
theorem aeb {kindOf : Str -> Option NameKind} : ∀ (bs : List (Str × Value)) (m : Str -> Option Value) (n : Str) (v : Value), (bs.map (·.1)).Nodup -> (n, v) ∈ bs -> kindOf n = some .local -> bindL kindOf bs m n = some v
 | [], m, n, v, _, h, _ => by cases h
 | (p, u) :: r, m, n, v, hn, h, hk => by
  simp only [List.map_cons, List.nodup_cons] at hn
  unfold bindL
  rcases List.mem_cons.mp h with q | q
  · obtain ⟨rfl, rfl⟩ := Prod.mk.inj q
    rw [aea r _ _ hn.1, if_pos hk]
    exact if_pos rfl
  · exact aeb r _ n v hn.2 q hk
theorem aec {kindOf : Str -> Option NameKind} : ∀ (bs : List (Str × Value)) (m : Str -> Option Value) (n : Str), n ∉ bs.map (·.1) -> bindC kindOf bs m n = m n
 | [], m, n, _ => rfl
 | (p, v) :: r, m, n, h => by
  simp only [List.map_cons, List.mem_cons, not_or] at h
  unfold bindC
  rw [aec r _ n h.2]
  split
  · rfl
  · exact if_neg h.1
theorem aed {kindOf : Str -> Option NameKind} : ∀ (bs : List (Str × Value)) (m : Str -> Option Value) (n : Str) (v : Value), (bs.map (·.1)).Nodup -> (n, v) ∈ bs -> kindOf n = some .cell -> bindC kindOf bs m n = some v
 | [], m, n, v, _, h, _ => by cases h
 | (p, u) :: r, m, n, v, hn, h, hk => by
  simp only [List.map_cons, List.nodup_cons] at hn
  unfold bindC
  rcases List.mem_cons.mp h with q | q
  · obtain ⟨rfl, rfl⟩ := Prod.mk.inj q
    have hk' : ¬ kindOf n = some .local := by rw [hk]; decide
    rw [aec r _ _ hn.1, if_neg hk']
    exact if_pos rfl
  · exact aed r _ n v hn.2 q hk
section
variable {W : Wd} {F F' : FH} {s s' : Shared} {env : Env} {ρ : CE} {ad : Str -> Option Addr}
def SlotB (W : Wd) (F : FH) (h : Heap) (la : Addr) (sl : Slot) (v : Value) : Prop := match sl with
 | .val c => RV W.prog W.w F c v
 | .bor o => v = .ref la ∧ OR W.prog W.w F h o la ∧ W.lent = some la
 | _ => False
def BindR (W : Wd) (F : FH) (h : Heap) (la : Addr) : List (Str × Slot) -> List (Str × Value) -> Prop
 | [], bs => bs = []
 | (p, sl) :: l, bs => ∃ v r, bs = (p, v) :: r ∧ SlotB W F h la sl v ∧ BindR W F h la l r
set_option tactic.hygienic false
theorem BindR.names {h : Heap} {la : Addr} : ∀ {l : List (Str × Slot)} {bs : List (Str × Value)}, BindR W F h la l bs -> bs.map (·.1) = l.map (·.1)
 | [], bs, e => by obtain rfl : bs = [] := e; rfl
 | (p, sl) :: l, bs, ⟨v, r, e, _, q⟩ => by rw [e, List.map_cons, List.map_cons, BindR.names q]
theorem BindR.get {h : Heap} {la : Addr} : ∀ {l : List (Str × Slot)} {bs : List (Str × Value)}, BindR W F h la l bs -> ∀ {x : Str} {sl : Slot}, l.lookup x = some sl -> ∃ v, (x, v) ∈ bs ∧ SlotB W F h la sl v
 | [], bs, _, x, sl, e => by cases e
 | (p, s0) :: l, bs, ⟨v, r, e, a, q⟩, x, sl, hx => by
  simp only [List.lookup_cons] at hx
  cases hp : x == p with
  | true =>
   rw [hp] at hx; cases hx
   obtain rfl := beq_iff_eq.mp hp
   exact ⟨v, e ▸ .head _, a⟩
  | false =>
   rw [hp] at hx
   obtain ⟨v', m, b⟩ := BindR.get q hx
   exact ⟨v', e ▸ .tail _ m, b⟩
noncomputable def lentAd (l : List (Str × Slot)) (la : Addr) : Str -> Option Addr := fun x => match l.lookup x with
 | some (.bor _) => some la
 | _ => none
theorem abo {l : List (Str × Slot)} {la : Addr} {x : Str} {a : Addr} (h : lentAd l la x = some a) : a = la ∧ ∃ o, l.lookup x = some (.bor o) := by
 unfold lentAd at h
 revert h
 generalize l.lookup x = g
 intro h
 rcases g with _ | y
 · first | exact aab h | (cases h; exact ⟨rfl, _, rfl⟩)
 cases y <;> first | exact aab h | (cases h; exact ⟨rfl, _, rfl⟩)
theorem ahx (I : Inv W F s) {sc : Scope} {l : List (Str × Slot)} {la : Addr} {binds : List (Str × Value)} {qual : Str} {fa : Addr} {code : Value}
 (hk : sc.kind = .function) (hb : BindR W F s.heap la l binds) (hnd : (l.map (·.1)).Nodup) (hkinds : ∀ x ∈ l.map (·.1), sc.names.lookup x = some .local ∨ sc.names.lookup x = some .cell)
 (hone : ∀ x y o o', l.lookup x = some (.bor o) -> l.lookup y = some (.bor o') -> x = y) (hla : ∀ x o, l.lookup x = some (.bor o) -> F la = none)
 (hlam : lamS sc = true -> ∃ c P, code = .ref c ∧ (c, P, qual ++ "<lambda>") ∈ W.tabs)
 (henv : env = newEnv sc s.heap.objs.size mainGlobals (cellsFrom (s.heap.objs.size + 1) sc.names []) qual (some fa) code none builtinsNs)
 (hin : InCallC s env.locals (bindL env.kindOf binds fun _ => none) env.cells (bindC env.kindOf binds fun _ => none) s') :
 Stp W (fun _ => False) F F s s' ∧ Rel W F s'.heap env ⟨sc, l⟩ (lentAd l la) := by
 obtain ⟨h', tk, rfl⟩ := hin.toInCall.same
 have hL : env.locals = s.heap.objs.size := by rw [henv]; rfl
 have hK : ∀ x, env.kindOf x = sc.names.lookup x := fun x => by rw [henv]; rfl
 have hF : env.frame = some env.locals := by rw [henv]; rfl
 have fL : Fre s.heap env.locals := Fre.size _ (hL ▸ Nat.le_refl _)
 have S : Stp W (fun _ => False) F F s { s with heap := h', toks := tk } := Stp.ofKeep I hin.toInCall.keep
 have above : ∀ x ca, env.cells.lookup x = some ca -> Fre s.heap ca := fun x ca e => Fre.size _ (Nat.le_of_lt (hL ▸ hin.above x ca (mem_of_lookup e)))
 refine ⟨S, ⟨⟨by rw [henv]; exact hk, by rw [henv]; rfl, by rw [henv]; rfl, fun x q => (hK x).trans q, fun x q => (hK x).trans q, fun x q => .inl ((hK x).trans q), fun x q => (hK x).trans q,
  fun x y ca p q => name_of_addr hin.apart (mem_of_lookup p) (mem_of_lookup q), fun x _ => hF, fun q => ?_⟩, ⟨_, hin.toInCall.ns⟩, I.fresh fL, I.tabOld fL, fun x sl q => ?_, fun x q _ => ?_, fun x a q => ?_, fun x y a p q => ?_, fun x a q => ⟨_, hin.cell x a q⟩, fun f q => ?_⟩⟩
 · obtain ⟨c, P, e1, e2⟩ := hlam q
   refine ⟨c, P, by rw [henv]; exact e1, ?_⟩
   have : env.qual = qual := by rw [henv]; rfl
   rw [this]; exact e2
 · have q : l.lookup x = some sl := q
   obtain ⟨v, hm, hs⟩ := hb.get q
   have hx : x ∈ l.map (·.1) := by
    rw [<- hb.names]; exact List.mem_map.mpr ⟨(x, v), hm, rfl⟩
   have hnd' : (binds.map (·.1)).Nodup := by rw [hb.names]; exact hnd
   refine ⟨v, ?_, ?_⟩
   · rcases hkinds x hx with e | e
     · exact .inl ⟨(hK x).trans e, _, hin.toInCall.ns, aeb binds _ x v hnd' hm ((hK x).trans e)⟩
     · have hsome := aaO sc.names (s.heap.objs.size + 1) [] x (.inr (aa7 e))
       obtain ⟨ca, hca⟩ := Option.isSome_iff_exists.mp hsome
       have hca' : env.cells.lookup x = some ca := by rw [henv]; exact hca
       refine .inr ⟨.inl ((hK x).trans e), ca, hca', ?_⟩
       have := hin.cell x ca hca'
       rw [aed binds _ x v hnd' hm ((hK x).trans e)] at this
       exact this
   · cases sl with
     | val c => exact hs
     | bor o =>
      obtain ⟨e1, e2, e3⟩ := hs
      refine ⟨la, e1, by unfold lentAd; rw [q], e2.mono _ _ (fun _ _ e => e) fun ob e => hin.toInCall.keep _ _ e, e3⟩
     | own o => exact hs.elim
     | view o => exact hs.elim
     | fix c => exact hs.elim
 · have q : sc.names.lookup x = some .cell := q
   have hsome := aaO sc.names (s.heap.objs.size + 1) [] x (.inr (aa7 q))
   obtain ⟨ca, hca⟩ := Option.isSome_iff_exists.mp hsome
   have hca' : env.cells.lookup x = some ca := by rw [henv]; exact hca
   exact ⟨ca, _, hca', hin.cell x ca hca', I.fresh (above x ca hca'), I.tabOld (above x ca hca')⟩
 · obtain ⟨rfl, o, e⟩ := abo q
   obtain ⟨v, hm, hs⟩ := hb.get e
   obtain ⟨e1, e2, e3⟩ := hs
   obtain ⟨ob, e4, _⟩ := e2.cls
   refine ⟨?_, hla x o e, I.notTabOR e2, (fL.ne e4).symm, fun y ca p => ((above y ca p).ne e4).symm, ob, hin.toInCall.keep _ _ e4⟩
   have : CE.get ⟨sc, l⟩ x = some (.bor o) := e
   rw [this]; rfl
 · obtain ⟨_, o, e⟩ := abo p
   obtain ⟨_, o', e'⟩ := abo q
   exact hone x y o o' e e'
 · rw [hF] at q
   cases q
   obtain ⟨o, es, ep, e, _⟩ := hin.toInCall.ns
   exact ⟨o, e⟩
theorem akE (I : Inv W F s) (R : Rel W F s.heap env ρ ad) {x : Str} {c : CV} (hg : ρ.get x = some (.val c)) (hk : ρ.kind x = some .cell) : ∃ ca F', env.cells.lookup x = some ca ∧ Stp W (· = ca) F F' s s ∧ Rel W F' s.heap env (ρ.set x (.fix c)) ad := by
 obtain ⟨ca, v0, e1, e2, e3, e4⟩ := R.cells x hk (by rw [hg]; rfl)
 obtain ⟨v, hv, rv⟩ := R.var x _ hg
 have hkx := R.kind.cell x hk
 have hcv : s.heap.IsCell ca (some v) := by
  rcases hv with ⟨q, _⟩ | ⟨_, ca', q, y⟩
  · rw [hkx] at q; cases q
  · rw [e1] at q; cases q; exact y
 obtain ⟨o, ho, hd⟩ := id hcv
 have S : Stp W (· = ca) F (F.add ca o) s s := ((Stp.refl (M := fun _ => False) I).weaken fun a (q : False) => q.elim).freeze e3 ho e4 (.inl rfl)
 have sub := S.sub
 have nn : ∀ {a : Addr}, F a = none -> a ≠ ca -> F.add ca o a = none := fun h q => by unfold FH.add; rw [if_neg q]; exact h
 obtain ⟨m, hn⟩ := R.ns
 refine ⟨ca, F.add ca o, e1, S, ⟨⟨R.kind.fn, R.kind.glo, R.kind.blt, R.kind.loc, R.kind.cell, R.kind.free, R.kind.glob, R.kind.apart, R.kind.cellF, R.kind.lam⟩, R.ns, nn R.nsF (abd hn hcv).symm, R.nsT, fun y sl q => ?_, fun y q1 q2 => ?_, fun y a q => ?_, R.inj, R.cl, R.frm⟩⟩
 · rw [aaN] at q
   by_cases hyx : y = x
   · subst hyx
     rw [if_pos rfl] at q; cases q
     exact ⟨v, hv, RV.mono _ _ sub _ _ rv, ca, o, hkx, e1, FH.add_self .., hd⟩
   · rw [if_neg hyx] at q
     obtain ⟨u, hu, hs⟩ := R.var y sl q
     refine ⟨u, hu, ?_⟩
     cases sl with
     | val c => exact RV.mono _ _ sub _ _ hs
     | own o => obtain ⟨b, f1, f2, f3⟩ := hs; exact ⟨b, f1, f2, f3.mono _ _ sub fun _ q => q⟩
     | bor o => obtain ⟨b, f1, f2, f3, f4⟩ := hs; exact ⟨b, f1, f2, f3.mono _ _ sub fun _ q => q, f4⟩
     | view o => obtain ⟨b, f1, f2, f3⟩ := hs; exact ⟨b, f1, f2, f3.mono _ _ sub fun _ q => q⟩
     | fix c => obtain ⟨f1, cb, oc, f2, f3, f4, f5⟩ := hs; exact ⟨RV.mono _ _ sub _ _ f1, cb, oc, f2, f3, sub _ _ f4, f5⟩
 · rw [aaN] at q2
   have hyx : y ≠ x := fun e => by rw [if_pos e] at q2; cases q2
   rw [if_neg hyx] at q2
   obtain ⟨cb, v1, f1, f2, f3, f4⟩ := R.cells y q1 q2
   exact ⟨cb, v1, f1, f2, nn f3 fun e => hyx (R.kind.apart y x cb f1 (e ▸ e1)), f4⟩
 · obtain ⟨q1, q2, q3, q4, q5, q6⟩ := R.own y a q
   refine ⟨?_, nn q2 (q5 x ca e1), q3, q4, q5, q6⟩
   rw [aaN]
   by_cases hyx : y = x
   · subst hyx; rw [hg] at q1; cases q1
   · rw [if_neg hyx]; exact q1
end
noncomputable def Wd.lend (W : Wd) (x : Option Addr) : Wd := { W with lent := x }
section
variable {W : Wd} {F F' : FH} {s s' : Shared} {x : Option Addr} {G : GE} {k : Nat} {M : Addr -> Prop}
set_option tactic.hygienic false
theorem Inv.lend (I : Inv W F s) : Inv (W.lend x) F s := ⟨I.frz, I.base, I.tab⟩
theorem Inv.unlend (I : Inv (W.lend x) F s) : Inv W F s := ⟨I.frz, I.base, I.tab⟩
theorem Stp.lend (S : Stp W M F F' s s') : Stp (W.lend x) M F F' s s' := ⟨S.keep, S.live, S.sub, S.new, S.same, S.inv.lend⟩
theorem Stp.unlend (S : Stp (W.lend x) M F F' s s') : Stp W M F F' s s' := ⟨S.keep, S.live, S.sub, S.new, S.same, S.inv.unlend⟩
theorem ArgsR.lend {h : Heap} {la : Addr} : ∀ {b : Option Nat} {cs : List CV} {vs : List Value}, ArgsR (W.lend x) F h b la cs vs -> ArgsR W F h b la cs vs
 | none, cs, vs, q => by unfold ArgsR at q ⊢; exact q
 | some 0, c :: cs, vs, q => by exact q
 | some (i + 1), c :: cs, vs, q => by
  obtain ⟨v, r, e, a, q⟩ := q
  exact ⟨v, r, e, a, ArgsR.lend q⟩
 | some 0, [], vs, q => by exact q.elim
 | some (_ + 1), [], vs, q => by exact q.elim
theorem KwsR.lend : ∀ {kvs : List (Str × CV)} {kws : List (Str × Value)}, KwsR (W.lend x) F kvs kws -> KwsR W F kvs kws
 | [], _, q => q
 | (n, c) :: r, _, ⟨v, t, e, a, b⟩ => ⟨v, t, e, a, KwsR.lend b⟩
theorem FunOK.lend {f : FS} {a : Addr} (h : FunOK W k f a) : FunOK (W.lend x) k f a :=
 ⟨h.1, fun cs kvs c o' q A F s la vs kws Rm I ha hk hl Q E hQ => h.2 cs kvs c o' q A F s la vs kws Rm I.unlend ha.lend hk.lend hl Q E fun v F' s' S rv hb => hQ v F' s' S.lend rv hb⟩
theorem GOK.lend (h : GOK W k G) : GOK (W.lend x) k G := ⟨h.tabs, h.nolim, h.ns, h.const, h.blt, fun y f q => let ⟨a, e, r⟩ := h.fn y f q; ⟨a, e, r.lend⟩⟩
end
set_option tactic.hygienic false
theorem aaP : ∀ {b : Option Nat} {ps : List Str} {cs : List CV} {d : List (Str × CV)} {l : List (Str × Slot)}, bindPos b ps cs d = some l -> l.map (·.1) = ps
 | b, [], [], d, l, h => by cases h; rfl
 | b, [], _ :: _, d, l, h => aab h
 | b, p :: ps, [], d, l, h => D.el1 (.opt (d.lookup p) fun c => .opt (bindPos none ps [] d) fun l => .ret ((p, .val c) :: l)) h (C := fun l => l.map (·.1) = p :: ps -> _) id fun c _ l h' k => k (congrArg (p :: ·) (aaP h'))
 | some 0, p :: ps, c :: cs, d, l, h => D.el1 (.opt (coOf c) fun o => .opt (bindPos none ps cs d) fun l => .ret ((p, .bor o) :: l)) h (C := fun l => l.map (·.1) = p :: ps -> _) id fun c _ l h' k => k (congrArg (p :: ·) (aaP h'))
 | some (i + 1), p :: ps, c :: cs, d, l, h => D.el1 (.opt (bindPos (some i) ps cs d) fun l => .ret ((p, .val c) :: l)) h (C := fun l => l.map (·.1) = p :: ps -> _) id fun l h' k => k (congrArg (p :: ·) (aaP h'))
 | none, p :: ps, c :: cs, d, l, h => D.el1 (.opt (bindPos none ps cs d) fun l => .ret ((p, .val c) :: l)) h (C := fun l => l.map (·.1) = p :: ps -> _) id fun l h' k => k (congrArg (p :: ·) (aaP h'))
theorem aa8 : ∀ {b : Option Nat} {ps : List Str} {cs : List CV} {d : List (Str × CV)} {l : List (Str × Slot)}, bindPos b ps cs d = some l -> ∀ {x : Str} {o : CO}, (x, Slot.bor o) ∈ l -> ∃ i, b = some i ∧ ps[i]? = some x
 | b, [], [], d, l, h, x, o, hx => by cases h; cases hx
 | b, [], _ :: _, d, l, h, x, o, hx => aab h
 | b, p :: ps, [], d, l, h, x, o, hx => by
  refine D.el1 (.opt (d.lookup p) fun c => .opt (bindPos none ps [] d) fun l => .ret ((p, .val c) :: l)) h (C := fun l => (x, Slot.bor o) ∈ l) hx fun c _ l h' hx => ?_
  rcases List.mem_cons.mp hx with q | q
  · cases q
  · obtain ⟨i, e, _⟩ := aa8 h' q; cases e
 | some 0, p :: ps, c :: cs, d, l, h, x, o, hx => by
  refine D.el1 (.opt (coOf c) fun o => .opt (bindPos none ps cs d) fun l => .ret ((p, .bor o) :: l)) h (C := fun l => (x, Slot.bor o) ∈ l) hx fun c _ l h' hx => ?_
  rcases List.mem_cons.mp hx with q | q
  · cases q; exact ⟨0, rfl, rfl⟩
  · obtain ⟨i, e, _⟩ := aa8 h' q; cases e
 | some (i + 1), p :: ps, c :: cs, d, l, h, x, o, hx => by
  refine D.el1 (.opt (bindPos (some i) ps cs d) fun l => .ret ((p, .val c) :: l)) h (C := fun l => (x, Slot.bor o) ∈ l) hx fun l h' hx => ?_
  rcases List.mem_cons.mp hx with q | q
  · cases q
  · obtain ⟨j, e, e'⟩ := aa8 h' q
    cases e
    exact ⟨i + 1, rfl, e'⟩
 | none, p :: ps, c :: cs, d, l, h, x, o, hx => by
  refine D.el1 (.opt (bindPos none ps cs d) fun l => .ret ((p, .val c) :: l)) h (C := fun l => (x, Slot.bor o) ∈ l) hx fun l h' hx => ?_
  rcases List.mem_cons.mp hx with q | q
  · cases q
  · obtain ⟨i, e, _⟩ := aa8 h' q; cases e
theorem ace : ∀ (ko kvs : List (Str × CV)), (bindKo ko kvs).map (·.1) = ko.map (·.1)
 | [], _ => rfl
 | (k, d) :: r, kvs => by unfold bindKo; rw [List.map_cons, List.map_cons, ace r kvs]
theorem ada : ∀ (ko kvs : List (Str × CV)) {x : Str} {o : CO}, (x, Slot.bor o) ∉ bindKo ko kvs
 | [], _, x, o => fun h => by cases h
 | (k, d) :: r, kvs, x, o => fun h => by
  unfold bindKo at h
  rcases List.mem_cons.mp h with q | q
  · cases q
  · exact ada r kvs q
theorem aew {l : List (Str × Slot)} {x : Str} {sl : Slot} (h : l.lookup x = some sl) : (x, sl) ∈ l := by
 induction l with
 | nil => cases h
 | cons p r ih =>
  obtain ⟨n, k'⟩ := p
  simp only [List.lookup_cons] at h
  refine hid fun z1 => ?_
  cases hx : x == n with
  | true => rw [hx] at h; cases h; refine z1 ?_; rw [beq_iff_eq.mp hx]; exact .head _
  | false => rw [hx] at h; refine z1 ?_; exact .tail _ (ih h)
structure DefAt (W : Wd) (d : DD) (fa : Addr) (fd : FuncData) : Prop where
 at_ : ∃ o, W.F0 fa = some o ∧ o.data = .func fd
 body : fd.body = .stmts d.body
 scope : fd.scope = d.scope
 glo : fd.globals = mainGlobals
 clo : fd.closure = []
 blt : fd.builtins = builtinsNs
 code : ∃ c oc vs t, fd.code = .ref c ∧ W.F0 c = some oc ∧ oc.data = .fields vs ∧ vs[1]? = some (.str fd.qualname t)
 lam : lamS d.scope = true -> ∃ c P, fd.code = .ref c ∧ (c, P, fd.qualname ++ ".<locals>." ++ "<lambda>") ∈ W.tabs
 kind : d.scope.kind = .function
 co : d.scope.isCoroutine = false
 gen : d.scope.isGenerator = false
 nodup : (d.ps ++ d.ko.map (·.1)).Nodup
 kinds : ∀ x ∈ d.ps ++ d.ko.map (·.1), d.scope.names.lookup x = some .local ∨ d.scope.names.lookup x = some .cell
 bind : ∀ cs kvs l vs kws F s la, kwFit d.ko kvs = true -> bindPos d.bor d.ps cs d.dflt = some l -> Inv W F s -> ArgsR W F s.heap d.bor la cs vs -> KwsR W F kvs kws ->
  ∃ binds, BindsTo s fd ⟨vs, kws⟩ binds ∧ BindR (W.lend (some la)) F s.heap la (l ++ bindKo d.ko kvs) binds
set_option tactic.hygienic true
set_option backward.match.sparseCases true in
theorem aiw {W : Wd} {G : GE} {k : Nat} (hG : GOK W k G) (hk : 20 ≤ k) {d : DD} {n c : Nat} {fa : Addr} {fd : FuncData} (D : DefAt W d fa fd) : FunOK W (k + n + 1) ⟨d.bor, runDef G n d, c⟩ fa := by
 refine hid fun z0 => ?_
 obtain ⟨o, hF0, hdat⟩ := D.at_
 refine z0 ?_
 refine ⟨⟨o, fd, hF0, hdat⟩, fun cs kvs c o' hr A F s la vs kws Rm I ha hkw hla Q E hQ => ?_⟩
 have hr : runDef G n d cs kvs = some (c, o') := hr
 have ha : ArgsR W F s.heap d.bor la cs vs := ha
 have hla : d.bor.isSome = true -> F la = none := hla
 unfold runDef at hr
 refine hid fun z1 => ?_
 split at hr
 · cases hr
 · rename_i hfit
   split at hr
   · cases hr
   · rename_i l hl
     obtain ⟨binds, hbt, hbr⟩ := D.bind cs kvs l vs kws F s la hfit hl I ha hkw
     obtain ⟨cc, oc, us, t, hc1, hc2, hc3, hc4⟩ := D.code
     have hnames : (l ++ bindKo d.ko kvs).map (·.1) = d.ps ++ d.ko.map (·.1) := by rw [List.map_append, aaP hl, ace]
     have hbor : ∀ {x o}, (l ++ bindKo d.ko kvs).lookup x = some (.bor o) -> ∃ i, d.bor = some i ∧ d.ps[i]? = some x := fun {x o} e => by
      rcases List.mem_append.mp (aew e) with q | q
      · exact aa8 hl q
      · exact absurd q (ada _ _)
     refine z1 ?_
     refine wpAny_call (codeAny_call_function Rm.dep (I.heap0 _ _ hF0) hdat (D.scope ▸ D.co) (D.scope ▸ D.gen) D.body ⟨cc, oc, us, t, hc1, I.heap0 _ _ hc2, hc3, hc4⟩ (hbt _ _ _ _ ?_))
     rw [D.scope, D.glo, D.clo, D.blt, hc1]
     have hkb : ∀ x ∈ binds, d.scope.names.lookup x.1 = some .local ∨ (d.scope.names.lookup x.1 = some .cell ∧ ((cellsFrom (s.heap.objs.size + 1) d.scope.names []).lookup x.1).isSome = true) := fun x hx => by
      have hm : x.1 ∈ d.ps ++ d.ko.map (·.1) := by rw [<- hnames, <- hbr.names]; exact List.mem_map.mpr ⟨x, hx, rfl⟩
      refine hid fun z2 => ?_
      rcases D.kinds _ hm with e | e
      · refine z2 ?_
        exact .inl e
      · refine z2 ?_
        exact .inr ⟨e, aaO _ _ _ _ (.inr (aa7 e))⟩
     refine wpAny_newFunctionEnv_cells D.kind hkb fun env henv s1 hin => ?_
     obtain ⟨S1, R1⟩ := ahx (W := W.lend (some la)) I.lend D.kind hbr (by rw [hnames]; exact D.nodup) (by rw [hnames]; exact D.kinds) (fun x y o o' p q => by
      obtain ⟨i, e1, e2⟩ := hbor p
      obtain ⟨j, e3, e4⟩ := hbor q
      rw [e1] at e3; cases e3
      rw [e2] at e4; cases e4; rfl)
      (fun x o p => hla (by obtain ⟨i, e, _⟩ := hbor p; rw [e]; rfl)) (fun q => by obtain ⟨c', P, e1, e2⟩ := D.lam q; rw [hc1] at e1; exact ⟨c', P, e1, e2⟩) henv hin
     refine ⟨hG.nolim _ S1.inv.heap0, codeAny_func ?_⟩
     have hL : env.locals = s.heap.objs.size := by rw [henv]; rfl
     have above : ∀ x ca, env.cells.lookup x = some ca -> Fre s.heap ca := fun x ca e => Fre.size _ (Nat.le_of_lt (hL ▸ hin.above x ca (mem_of_lookup e)))
     have hMla : ∀ x a, lentAd (l ++ bindKo d.ko kvs) la x = some a -> d.bor.isSome = true ∧ a = la := fun x a e => by
      refine hid fun z3 => ?_
      obtain ⟨e1, o, e2⟩ := abo e
      obtain ⟨i, e3, _⟩ := hbor e2
      refine z3 ?_
      exact ⟨by rw [e3]; rfl, e1⟩
     have start : ∃ F1, Stp (W.lend (some la)) (fun _ => False) F F1 s s1 ∧ Rel (W.lend (some la)) F1 s1.heap env (fixCE ⟨d.scope, l ++ bindKo d.ko kvs⟩) (lentAd (l ++ bindKo d.ko kvs) la) := by
      unfold fixCE
      split
      · rename_i c1 hlam hget
        have hkc : CE.kind ⟨d.scope, l ++ bindKo d.ko kvs⟩ nFloor = some .cell := by
         have hlam : lamS d.scope = true := hlam
         unfold lamS at hlam
         refine hid fun z4 => ?_
         split at hlam
         · rename_i e; refine z4 ?_; exact e
         · cases hlam
        refine hid fun z5 => ?_
        obtain ⟨ca, F1, e1, S2, R2⟩ := akE S1.inv R1 hget hkc
        refine z5 ?_
        exact ⟨F1, S1.trans S2 fun a q => .inr (q ▸ above _ _ e1), R2⟩
      · exact ⟨F, S1, R1⟩
     refine hid fun z6 => ?_
     obtain ⟨F1, S2, R2⟩ := start
     have H := (aiv (W := W.lend (some la)) hG.lend hk n).1
     have fin : ∀ (fc : FC) (ρ' : CE) (c : CV) (o' : CO), (sem G n).xss d.body (fixCE ⟨d.scope, l ++ bindKo d.ko kvs⟩) = some (fc, ρ') -> lentBack d ρ' = some o' -> (fc = .ret c ∨ (fc = .next ∧ c = .none)) ->
      (∀ v F' s', Stp W (fun b => d.bor.isSome = true ∧ b = la) F F' s s' -> RV W.prog W.w F' c v -> (d.bor.isSome = true -> OR W.prog W.w F' s'.heap o' la ∧ F' la = none) -> Q v s') ->
      wpAny (model W.prog W.w) (A.deeper env) (execs d.body env) (fun f s' => Q (match f with | .ret v => v | _ => .none) s')
       (fun e s' => wpAny (model W.prog W.w) (A.deeper env) (leaving env e) (fun _ s'' => E e s'') (fun e' s'' => E e' s'') s') s1 := fun fc ρ' c o' hx hlb hfc hQ => by
      refine ac7 H.xs d.body _ fc ρ' hx (A.deeper env) env F1 s1 _ (Rm.deeper env) S2.inv R2 _ _ fun f F' s' ad' S' R' sub' hf => ?_
      have S3 : Stp W (fun b => d.bor.isSome = true ∧ b = la) F F' s s' := (Stp.trans (S2.weaken (M' := fun b => d.bor.isSome = true ∧ b = la) fun _ q => q.elim) S' (fun a q => by
       rcases q with ⟨x, q⟩ | q | ⟨_, x, _, q⟩
       · exact .inl (hMla x a q)
       · exact .inr (q ▸ Fre.size _ (hL ▸ Nat.le_refl _))
       · exact .inr (above x a q))).unlend
      have back : d.bor.isSome = true -> OR W.prog W.w F' s'.heap o' la ∧ F' la = none := fun hb => by
       unfold lentBack at hlb
       split at hlb
       · rename_i e; rw [e] at hb; cases hb
       · rename_i i e
         split at hlb
         · cases hlb
         · rename_i p hp
           split at hlb
           · rename_i ob hg
             cases hlb
             obtain ⟨v, _, a, _, e2, e3, e4⟩ := R'.var p _ hg
             have e4 : some la = some a := e4
             cases e4
             exact ⟨e3, (R'.own p la e2).2⟩
           · cases hlb
      rcases hfc with rfl | ⟨rfl, rfl⟩
      · obtain ⟨v, rfl, rv⟩ := hf
        exact hQ v F' s' S3 rv back
      · obtain rfl : f = .next := hf
        exact hQ .none F' s' S3 (rfl) back
     split at hr
     · rename_i c1 ρ' hx
       split at hr
       · rename_i o1 hlb
         cases hr
         refine z6 ?_
         exact fin _ ρ' _ _ hx hlb (.inl rfl) hQ
       · cases hr
     · rename_i ρ' hx
       split at hr
       · rename_i o1 hlb
         cases hr
         refine z6 ?_
         exact fin _ ρ' _ _ hx hlb (.inr ⟨rfl, rfl⟩) hQ
       · cases hr
     · cases hr
end
section
open PySem PySem.Calls
set_option tactic.hygienic false
theorem lt4 {P : Nat -> Prop} {i : Nat} (h : i < 4) (h0 : P 0) (h1 : P 1) (h2 : P 2) (h3 : P 3) : P i := by
 rcases i with _ | _ | _ | _ | i
 · exact h0
 · exact h1
 · exact h2
 · exact h3
 · exact absurd h (Nat.not_lt_of_le (Nat.le_add_left 4 i))
theorem nat4 {P : Nat -> Prop} (h0 : P 0) (h1 : P 1) (h2 : P 2) (h3 : ∀ i, P (i + 3)) (i : Nat) : P i := by
 rcases i with _ | _ | _ | i
 · exact h0
 · exact h1
 · exact h2
 · exact h3 i
theorem akF {f : Nat -> Int} (h0 : f 0 < f 1) (h1 : f 1 < f 2) (h2 : f 2 < f 3) {i j : Nat} (hj : j < 4) (h : i < j) : f i < f j := by
 have step : ∀ k, k < 3 -> f k < f (k + 1) := fun k hk => by
  rcases k with _ | _ | _ | k
  · exact h0
  · exact h1
  · exact h2
  · exact absurd hk (Nat.not_lt_of_le (Nat.le_add_left 3 k))
 induction j with
 | zero => exact absurd h (Nat.not_lt_zero _)
 | succ j ih =>
  rcases Nat.lt_succ_iff_lt_or_eq.mp h with q | rfl
  · exact Int.lt_trans (ih (Nat.lt_of_succ_lt hj) q) (step j (Nat.lt_of_succ_lt_succ hj))
  · exact step i (Nat.lt_of_succ_lt_succ hj)
theorem sum4 {a b : Nat -> Nat} (le : ∀ k, a k ≤ b k) {i : Nat} (hi : i < 4) (lt : a i < b i) : a 0 + a 1 + a 2 + a 3 < b 0 + b 1 + b 2 + b 3 := by
 revert lt
 refine lt4 (P := fun i => a i < b i -> a 0 + a 1 + a 2 + a 3 < b 0 + b 1 + b 2 + b 3) hi ?_ ?_ ?_ ?_ <;> intro lt
 · exact Nat.add_lt_add_of_lt_of_le (Nat.add_lt_add_of_lt_of_le (Nat.add_lt_add_of_lt_of_le lt (le 1)) (le 2)) (le 3)
 · exact Nat.add_lt_add_of_lt_of_le (Nat.add_lt_add_of_lt_of_le (Nat.add_lt_add_of_le_of_lt (le 0) lt) (le 2)) (le 3)
 · exact Nat.add_lt_add_of_lt_of_le (Nat.add_lt_add_of_le_of_lt (Nat.add_le_add (le 0) (le 1)) lt) (le 3)
 · exact Nat.add_lt_add_of_le_of_lt (Nat.add_le_add (Nat.add_le_add (le 0) (le 1)) (le 2)) lt
noncomputable abbrev p2 := PySem.Challenge.pw_uk0005_02
noncomputable def opsL : List Str := (["(", ")", "[", "]", ":", ",", ";", "+", "-", "*", "/", "|", "&", "<", ">", "=", ".", "%", "{", "}", "==", "!=", "<=", ">=", "~", "^", "<<", ">>", "**", "+=", "-=", "*=", "/=", "%=", "&=", "|=", "^=", "<<=", ">>=", "**=", "//", "//=", "@", "@=", "->", "...", ":=", "!"] : List String).map Str.ofString
noncomputable def ownsF (x : Str) : Bool := (["ws", "cells", "pool", "drawn", "numbers", "said", "grown", "new_row", "new_floor", "chains", "granted", "falls", "shares", "row"] : List String).any fun y => Str.ofString y == x
noncomputable def ddG (n : Str) (bor : Option Nat) : DD := match ddOf p2 n bor with
 | some d => d
 | none => ⟨[], [], [], [], ⟨.module, [], false, false, []⟩, none⟩
noncomputable def stA (b : List Stmt) (i : Nat) : Stmt := match b[i]? with
 | some s => s
 | none => .Pass default
variable {G : GE} {n : Nat} {ρ ρ1 ρ2 ρ3 : CE}
theorem aaB : sem G (n + 1) = stepS G (sem G n) := rfl
set_option tactic.hygienic true
theorem aaa {S : SM} {st : Stmt} {r : List Stmt} {q : Option (FC × CE)} (h : S.xs st ρ = some (.next, ρ1)) (k : S.xss r ρ1 = q) : S.xss (st :: r) ρ = q := by
 rw [akr]; rw [h]; exact k
set_option tactic.hygienic false
theorem aan {S : SM} {st : Stmt} {r : List Stmt} {c : CV} (h : S.xs st ρ = some (.ret c, ρ1)) : S.xss (st :: r) ρ = some (.ret c, ρ1) := by
 rw [akr]; rw [h]
set_option tactic.hygienic true
theorem aaf {S : SM} : S.xss [] ρ = some (.next, ρ) := rfl
set_option tactic.hygienic false
theorem aak {d : DD} {cs : List CV} {kvs : List (Str × CV)} {l : List (Str × Slot)} {c : CV} {o : CO} (h1 : kwFit d.ko kvs = true) (h2 : bindPos d.bor d.ps cs d.dflt = some l) (h3 : (sem G n).xss d.body (fixCE ⟨d.scope, l ++ bindKo d.ko kvs⟩) = some (.ret c, ρ))
 (h4 : lentBack d ρ = some o) : runDef G n d cs kvs = some (c, o) := by
 unfold runDef
 rw [h1, h2]
 dsimp only
 rw [h3]
 dsimp only
 rw [h4]
set_option tactic.hygienic true
theorem acM {d : DD} {cs : List CV} {kvs : List (Str × CV)} {l : List (Str × Slot)} {o : CO} (h1 : kwFit d.ko kvs = true) (h2 : bindPos d.bor d.ps cs d.dflt = some l) (h3 : (sem G n).xss d.body (fixCE ⟨d.scope, l ++ bindKo d.ko kvs⟩) = some (.next, ρ))
 (h4 : lentBack d ρ = some o) : runDef G n d cs kvs = some (.none, o) := by
 unfold runDef
 rw [h1, h2]
 dsimp only
 rw [h3]
 dsimp only
 rw [h4]
set_option tactic.hygienic false
theorem aee {S : SM} {l r : Expr} {a b : EV} {x y : CV} (h1 : S.ev l ρ = some (a, ρ1)) (h2 : S.ev r ρ1 = some (b, ρ2)) (d1 : deref ρ2 a = some x) (d2 : deref ρ2 b = some y) : S.ev2 l r ρ = some (x, y, ρ2) := by
 unfold SM.ev2; rw [h1]; dsimp only; rw [h2]; dsimp only; rw [d1, d2]
theorem aaH {l r : Expr} {op : CmpOp} {p : Pos} {x y : CV} {t : Bool} (hm : behindInMarks op r = false) (h : (sem G n).ev2 l r ρ = some (x, y, ρ1)) (hc : cmpC op x y = some t) : (sem G (n + 1)).it (.Compare l [op] [r] p) ρ = some (t, ρ1) := by
 rw [aaB]
 dsimp only [stepS]
 unfold itStep
 dsimp only [l1, l2]
 rw [hm]
 dsimp only
 rw [h]
 dsimp only
 rw [hc]
theorem aix {l r : Expr} {op : CmpOp} {p : Pos} {x y : CV} {t : Bool} (hm : behindInMarks op r = false) (h : (sem G n).ev2 l r ρ = some (x, y, ρ1)) (hc : cmpC op x y = some t) : (sem G (n + 1)).ev (.Compare l [op] [r] p) ρ = some (.val (.bool t), ρ1) := by
 rw [aaB]
 dsimp only [stepS]
 unfold evStep evN
 dsimp only [mkOf, l1, l2, eName, eAttr, eSub, eTup, eCall, eSlice, List.isEmpty]
 rw [hm]
 dsimp only
 rw [h]
 dsimp only
 rw [hc]
theorem acf {l r : Expr} {op : Operator} {p : Pos} {x y c : CV} (h : (sem G n).ev2 l r ρ = some (x, y, ρ1)) (hc : binC op x y = some c) : (sem G (n + 1)).ev (.BinOp l op r p) ρ = some (.val c, ρ1) := by
 rw [aaB]
 dsimp only [stepS]
 unfold evStep evN
 dsimp only [mkOf, l1, l2, eName, eAttr, eSub, eTup, eCall, eSlice, List.isEmpty]
 rw [h]
 dsimp only
 rw [hc]
theorem abA {v : Expr} {x : Str} {q p : Pos} {a b c : CV} (h : (sem G n).ev2 v (.Name x q) ρ = some (a, b, ρ1)) (hc : subC a b = some c) : (sem G (n + 1)).ev (.Subscript v (.Name x q) p) ρ = some (.val c, ρ1) := by
 rw [aaB]
 dsimp only [stepS]
 unfold evStep evN
 dsimp only [mkOf, l1, l2, eName, eAttr, eSub, eTup, eCall, eSlice, List.isEmpty]
 rw [h]
 dsimp only
 rw [hc]
theorem evs1 {S : SM} {e : Expr} {a : EV} (h : S.ev e ρ = some (a, ρ1)) : S.evs [e] ρ = some ([a], ρ1) := by
 exact aaU h rfl
theorem afN {f : Str} {p pos : Pos} {e : Expr} {L : Lam} {caps : List (Str × CV)} {a c : CV} (hm : mkOf G ρ (.Call (.Name f p) [e] [] pos) = .no) (hn : nameOk f = true) (hk : ρ.kind f = some .local) (hg : ρ.get f = some (.val (.lam L caps))) (h : (sem G n).ev e ρ = some (.val a, ρ1))
 (hc : (sem G n).callLam L caps [a] = some c) : (sem G (n + 1)).ev (.Call (.Name f p) [e] [] pos) ρ = some (.val c, ρ1) := by
 rw [aaB]
 dsimp only [stepS]
 unfold evStep evN
 rw [hm]
 dsimp only [mkOf, l1, l2, eName, eAttr, eSub, eTup, eCall, eSlice, List.isEmpty]
 rw [hn]
 dsimp only
 unfold SM.call
 rw [hk, hg]
 dsimp only [isG, isL, slLam, cvLam, List.isEmpty]
 rw [evs1 h]
 dsimp only [freezes, freeze]
 rw [hc]
theorem aa1 {S : SM} {l r : Expr} {a b : EV} {x y : CV} (h1 : S.ev l ρ = some (a, ρ)) (h2 : S.ev r ρ = some (b, ρ)) (d1 : deref ρ a = some x) (d2 : deref ρ b = some y) : S.ev2 l r ρ = some (x, y, ρ) := aee h1 h2 d1 d2
theorem abp {f : Str} {p pos : Pos} {e : Expr} {L : Lam} {caps : List (Str × CV)} {a c : CV} (hm : mkOf G ρ (.Call (.Name f p) [e] [] pos) = .no) (hn : nameOk f = true) (hk : ρ.kind f = some .local) (hg : ρ.get f = some (.val (.lam L caps))) (h : (sem G n).ev e ρ = some (.val a, ρ))
 (hc : (sem G n).callLam L caps [a] = some c) : (sem G (n + 1)).ev (.Call (.Name f p) [e] [] pos) ρ = some (.val c, ρ) := afN hm hn hk hg h hc
theorem akG {t : Expr} {b o : List Stmt} {p : Pos} {v : Bool} {q : Option (FC × CE)} (h : (sem G n).it t ρ = some (v, ρ1)) (k : (sem G n).xss (match v with | true => b | false => o) ρ1 = q) : (sem G (n + 1)).xs (.If t b o p) ρ = q := by
 rw [aaB]
 dsimp only [stepS]
 unfold xsStep
 dsimp only [l1, l2, eName, eAttr, eSub, eTup, eCall, eSlice, List.isEmpty, asgN, asgP, asgS, augN, augS, delS]
 rw [h]
 cases v <;> exact k
theorem aaM {t : Expr} {b o : List Stmt} {p : Pos} {q : Option (FC × CE)} (h : (sem G n).it t ρ = some (true, ρ1)) (k : (sem G n).xss b ρ1 = q) : (sem G (n + 1)).xs (.If t b o p) ρ = q := akG h k
theorem aaD {t : Expr} {b o : List Stmt} {p : Pos} {q : Option (FC × CE)} (h : (sem G n).it t ρ = some (false, ρ1)) (k : (sem G n).xss o ρ1 = q) : (sem G (n + 1)).xs (.If t b o p) ρ = q := akG h k
theorem xs_while {t : Expr} {b : List Stmt} {p : Pos} : (sem G (n + 1)).xs (.While t b [] p) ρ = whileL ((sem G n).it t) ((sem G n).xss b) 100 ρ := by
 rw [aaB]; dsimp only [stepS]; unfold xsStep; rfl
noncomputable def ifB : Stmt -> List Stmt | .If _ b _ _ => b | _ => []
noncomputable def ifO : Stmt -> List Stmt | .If _ _ o _ => o | _ => []
noncomputable def ifT : Stmt -> Expr | .If t _ _ _ => t | _ => default
noncomputable def whT : Stmt -> Expr | .While t _ _ _ => t | _ => default
noncomputable def whB : Stmt -> List Stmt | .While _ b _ _ => b | _ => []
noncomputable def bisR (κ : Nat -> Int) (x : Int) : Nat -> Nat -> Nat -> Nat
 | 0, lo, _ => lo
 | k + 1, lo, hi => match decide ((lo : Int) < (hi : Int)) with
  | false => lo
  | true => match decide (x < κ ((lo + hi) / 2)) with
   | true => bisR κ x k lo ((lo + hi) / 2)
   | false => bisR κ x k ((lo + hi) / 2 + 1) hi
theorem ae8 (κ : Nat -> Int) (x : Int) (k lo hi : Nat) : bisR κ x (k + 1) lo hi = match decide ((lo : Int) < (hi : Int)) with | false => lo | true => match decide (x < κ ((lo + hi) / 2)) with | true => bisR κ x k lo ((lo + hi) / 2) | false => bisR κ x k ((lo + hi) / 2 + 1) hi := rfl
noncomputable def bisL (κ : Nat -> Int) (x : Int) : Nat -> Nat -> Nat -> Nat
 | 0, lo, _ => lo
 | k + 1, lo, hi => match decide ((lo : Int) < (hi : Int)) with
  | false => lo
  | true => match decide (κ ((lo + hi) / 2) < x) with
   | true => bisL κ x k ((lo + hi) / 2 + 1) hi
   | false => bisL κ x k lo ((lo + hi) / 2)
theorem ae9 (κ : Nat -> Int) (x : Int) (k lo hi : Nat) : bisL κ x (k + 1) lo hi = match decide ((lo : Int) < (hi : Int)) with | false => lo | true => match decide (κ ((lo + hi) / 2) < x) with | true => bisL κ x k ((lo + hi) / 2 + 1) hi | false => bisL κ x k lo ((lo + hi) / 2) := rfl
def dR : DD := ddG "bisect_right" (some 0)
def dL : DD := ddG "bisect_left" (some 0)
noncomputable def frB (sc : Scope) (xs : List CV) (x : Int) (lo hi : Int) (key : CV) (tail : List (Str × Slot)) : CE :=
 ⟨sc, ("a", .bor (.list xs)) :: ("x", .val (.int x)) :: ("lo", .val (.int lo)) :: ("hi", .val (.int hi)) :: ("key", .val key) :: tail⟩
noncomputable def midT (m : Int) : List (Str × Slot) := [("mid", .val (.int m))]
def bdy (d : DD) : List Stmt := whB (stA (ifO (stA d.body 2)) 0)
def tst (d : DD) : Expr := whT (stA (ifO (stA d.body 2)) 0)
section
variable {G : GE} {xs : List CV} {x lo hi : Int} {key : CV} {tail : List (Str × Slot)}
set_option tactic.hygienic false
theorem tstR : (sem G 10).it (tst dR) (frB dR.scope xs x lo hi key tail) = some (decide (lo < hi), frB dR.scope xs x lo hi key tail) := by ext
theorem tstL : (sem G 10).it (tst dL) (frB dL.scope xs x lo hi key tail) = some (decide (lo < hi), frB dL.scope xs x lo hi key tail) := by ext
set_option tactic.hygienic true
theorem amq : (sem G 10).xs (stA (bdy dR) 0) (frB dR.scope xs x lo hi key []) = some (.next, frB dR.scope xs x lo hi key (midT (Int.fdiv (lo + hi) 2))) := by ext
theorem amr {m : Int} : (sem G 10).xs (stA (bdy dR) 0) (frB dR.scope xs x lo hi key (midT m)) = some (.next, frB dR.scope xs x lo hi key (midT (Int.fdiv (lo + hi) 2))) := by ext
theorem ams : (sem G 10).xs (stA (bdy dL) 0) (frB dL.scope xs x lo hi key []) = some (.next, frB dL.scope xs x lo hi key (midT (Int.fdiv (lo + hi) 2))) := by ext
theorem amt {m : Int} : (sem G 10).xs (stA (bdy dL) 0) (frB dL.scope xs x lo hi key (midT m)) = some (.next, frB dL.scope xs x lo hi key (midT (Int.fdiv (lo + hi) 2))) := by ext
theorem amu {m : Int} : (sem G 9).xss (ifB (stA (bdy dR) 1)) (frB dR.scope xs x lo hi key (midT m)) = some (.next, frB dR.scope xs x lo m key (midT m)) := by ext
theorem amv {m : Int} : (sem G 9).xss (ifO (stA (bdy dR) 1)) (frB dR.scope xs x lo hi key (midT m)) = some (.next, frB dR.scope xs x (m + 1) hi key (midT m)) := by ext
theorem amw {m : Int} : (sem G 9).xss (ifB (stA (bdy dL) 1)) (frB dL.scope xs x lo hi key (midT m)) = some (.next, frB dL.scope xs x (m + 1) hi key (midT m)) := by ext
theorem amx {m : Int} : (sem G 9).xss (ifO (stA (bdy dL) 1)) (frB dL.scope xs x lo hi key (midT m)) = some (.next, frB dL.scope xs x lo m key (midT m)) := by ext
set_option tactic.hygienic false
theorem acn {m : Nat} {c : CV} (h : xs[m]? = some c) (hl : xs.length ≤ 1000) : subC (.list xs) (.int (m : Int)) = some c := by
 have hlt : m < xs.length := by
  rcases Nat.lt_or_ge m xs.length with q | q
  · exact q
  · rw [List.getElem?_eq_none q] at h; cases h
 have e : seqIndex? (m : Int) xs.length = some m := by
  unfold seqIndex?
  simp
  omega
 have e2 : Nat.ble xs.length LIM = true := Nat.ble_eq_true_of_le (by unfold LIM; omega)
 show subAtList xs (m : Int) = some c
 unfold subAtList
 rw [e]; dsimp only; rw [e2]; exact h
theorem amy {L : Lam} {caps : List (Str × CV)} {m : Nat} {c : CV} {v : Int} (h : xs[m]? = some c) (hl : xs.length ≤ 1000) (hk : (sem G 7).callLam L caps [c] = some (.int v)) :
 (sem G 9).it (ifT (stA (bdy dR) 1)) (frB dR.scope xs x lo hi (.lam L caps) (midT m)) = some (decide (x < v), frB dR.scope xs x lo hi (.lam L caps) (midT m)) := by
 refine aaH (x := .int x) (y := .int v) (by ext) (aa1 (a := .val (.int x)) (b := .val (.int v)) (by ext) (abp (a := c) (L := L) (caps := caps) (by ext) (by ext) (by ext) (by ext) (abA (a := .list xs) (b := .int m) (by ext) (acn h hl)) hk) rfl rfl) rfl
theorem amz {L : Lam} {caps : List (Str × CV)} {m : Nat} {c : CV} {v : Int} (h : xs[m]? = some c) (hl : xs.length ≤ 1000) (hk : (sem G 7).callLam L caps [c] = some (.int v)) :
 (sem G 9).it (ifT (stA (bdy dL) 1)) (frB dL.scope xs x lo hi (.lam L caps) (midT m)) = some (decide (v < x), frB dL.scope xs x lo hi (.lam L caps) (midT m)) := by
 refine aaH (x := .int v) (y := .int x) (by ext) (aa1 (b := .val (.int x)) (a := .val (.int v)) (abp (a := c) (L := L) (caps := caps) (by ext) (by ext) (by ext) (by ext) (abA (a := .list xs) (b := .int m) (by ext) (acn h hl)) hk) (by ext) rfl rfl) rfl
theorem half (lo hi : Nat) : Int.fdiv ((lo : Int) + (hi : Int)) 2 = (((lo + hi) / 2 : Nat) : Int) := by
 rw [<- Int.natCast_add, show (2 : Int) = ((2 : Nat) : Int) from rfl]
 rw [Int.fdiv_eq_ediv_of_nonneg _ (by omega)]
 norm_cast
def KeyOf (G : GE) (L : Lam) (caps : List (Str × CV)) (xs : List CV) (κ : Nat -> Int) : Prop := ∀ i c, xs[i]? = some c -> ∀ m, 4 ≤ m -> (sem G m).callLam L caps [c] = some (.int (κ i))
theorem akH {m : Nat} (h : m < xs.length) : ∃ c, xs[m]? = some c := ⟨xs[m], List.getElem?_eq_getElem h⟩
set_option tactic.hygienic true
theorem amA {L : Lam} {caps : List (Str × CV)} {κ : Nat -> Int} (hκ : KeyOf G L caps xs κ) (hl : xs.length ≤ 1000) : ∀ (k lo hi : Nat) (tail : List (Str × Slot)), hi ≤ xs.length -> hi - lo < k -> lo ≤ hi -> (tail = [] ∨ ∃ m, tail = midT m) ->
 ∃ tail', whileL ((sem G 10).it (tst dR)) ((sem G 10).xss (bdy dR)) k (frB dR.scope xs x lo hi (.lam L caps) tail) = some (.next, frB dR.scope xs x (bisR κ x k lo hi) (bisR κ x k lo hi) (.lam L caps) tail') := by
 intro k
 induction k with
 | zero => intro lo hi tail _ h; omega
 | succ k ih =>
  intro lo hi tail hh hk hle ht
  rw [adl, ae8]
  rw [tstR]
  cases hd : decide ((lo : Int) < (hi : Int)) with
  | false =>
   have : ¬ (lo : Int) < (hi : Int) := of_decide_eq_false hd
   have e : hi = lo := by omega
   subst e
   exact ⟨tail, rfl⟩
  | true =>
   have hlt : lo < hi := by have := of_decide_eq_true hd; omega
   dsimp only
   have hmid : (sem G 10).xs (stA (bdy dR) 0) (frB dR.scope xs x lo hi (.lam L caps) tail) = some (.next, frB dR.scope xs x lo hi (.lam L caps) (midT ((lo + hi) / 2 : Nat))) := by
    rw [<- half]
    rcases ht with rfl | ⟨m, rfl⟩
    · exact amq
    · exact amr
   obtain ⟨c, hc⟩ := akH (xs := xs) (m := (lo + hi) / 2) (by omega)
   have ht := amy (x := x) (lo := lo) (hi := hi) hc hl (hκ _ c hc 7 (by decide))
   cases hx : decide (x < κ ((lo + hi) / 2)) with
   | true =>
    rw [hx] at ht
    have hbody : (sem G 10).xss (bdy dR) (frB dR.scope xs x lo hi (.lam L caps) tail) = some (.next, frB dR.scope xs x lo ((lo + hi) / 2 : Nat) (.lam L caps) (midT ((lo + hi) / 2 : Nat))) := aaa hmid (aaa (aaM ht amu) rfl)
    rw [hbody]
    exact ih lo ((lo + hi) / 2) _ (by omega) (by omega) (by omega) (.inr ⟨_, rfl⟩)
   | false =>
    rw [hx] at ht
    have hbody : (sem G 10).xss (bdy dR) (frB dR.scope xs x lo hi (.lam L caps) tail) = some (.next, frB dR.scope xs x ((((lo + hi) / 2 + 1 : Nat)) : Int) hi (.lam L caps) (midT ((lo + hi) / 2 : Nat))) := aaa hmid (aaa (aaD ht amv) rfl)
    rw [hbody]
    exact ih ((lo + hi) / 2 + 1) hi (midT ((lo + hi) / 2 : Nat)) (by omega) (by omega) (by omega) (.inr ⟨_, rfl⟩)
theorem akI {L : Lam} {caps : List (Str × CV)} {κ : Nat -> Int} (hκ : KeyOf G L caps xs κ) (hl : xs.length ≤ 1000) : ∀ (k lo hi : Nat) (tail : List (Str × Slot)), hi ≤ xs.length -> hi - lo < k -> lo ≤ hi -> (tail = [] ∨ ∃ m, tail = midT m) ->
 ∃ tail', whileL ((sem G 10).it (tst dL)) ((sem G 10).xss (bdy dL)) k (frB dL.scope xs x lo hi (.lam L caps) tail) = some (.next, frB dL.scope xs x (bisL κ x k lo hi) (bisL κ x k lo hi) (.lam L caps) tail') := by
 intro k
 induction k with
 | zero => intro lo hi tail _ h; omega
 | succ k ih =>
  intro lo hi tail hh hk hle ht
  rw [adl, ae9]
  rw [tstL]
  cases hd : decide ((lo : Int) < (hi : Int)) with
  | false =>
   have : ¬ (lo : Int) < (hi : Int) := of_decide_eq_false hd
   have e : hi = lo := by omega
   subst e
   exact ⟨tail, rfl⟩
  | true =>
   have hlt : lo < hi := by have := of_decide_eq_true hd; omega
   dsimp only
   have hmid : (sem G 10).xs (stA (bdy dL) 0) (frB dL.scope xs x lo hi (.lam L caps) tail) = some (.next, frB dL.scope xs x lo hi (.lam L caps) (midT ((lo + hi) / 2 : Nat))) := by
    rw [<- half]
    rcases ht with rfl | ⟨m, rfl⟩
    · exact ams
    · exact amt
   obtain ⟨c, hc⟩ := akH (xs := xs) (m := (lo + hi) / 2) (by omega)
   have ht := amz (x := x) (lo := lo) (hi := hi) hc hl (hκ _ c hc 7 (by decide))
   cases hx : decide (κ ((lo + hi) / 2) < x) with
   | true =>
    rw [hx] at ht
    have hbody : (sem G 10).xss (bdy dL) (frB dL.scope xs x lo hi (.lam L caps) tail) = some (.next, frB dL.scope xs x ((((lo + hi) / 2 + 1 : Nat)) : Int) hi (.lam L caps) (midT ((lo + hi) / 2 : Nat))) := aaa hmid (aaa (aaM ht amw) rfl)
    rw [hbody]
    exact ih ((lo + hi) / 2 + 1) hi (midT ((lo + hi) / 2 : Nat)) (by omega) (by omega) (by omega) (.inr ⟨_, rfl⟩)
   | false =>
    rw [hx] at ht
    have hbody : (sem G 10).xss (bdy dL) (frB dL.scope xs x lo hi (.lam L caps) tail) = some (.next, frB dL.scope xs x lo ((lo + hi) / 2 : Nat) (.lam L caps) (midT ((lo + hi) / 2 : Nat))) := aaa hmid (aaa (aaD ht amx) rfl)
    rw [hbody]
    exact ih lo ((lo + hi) / 2) _ (by omega) (by omega) (by omega) (.inr ⟨_, rfl⟩)
end
noncomputable def bltL : List String := ["len", "range", "ord", "chr", "list", "dict", "zip", "enumerate", "sorted"]
noncomputable def b1s : List Int := [173, 847, 6150, 6155, 6156, 6157, 8203, 8204, 8205, 8288, 65279, 65024, 65025, 65026, 65027, 65028, 65029, 65030, 65031, 65032, 65033, 65034, 65035, 65036, 65037, 65038, 65039]
noncomputable def ettI : List (String × Int) := [("!", 54), ("!=", 28), ("%", 24), ("%=", 40), ("&", 19), ("&=", 41), ("(", 7), (")", 8), ("*", 16), ("**", 35), ("**=", 46), ("*=", 38), ("+", 14), ("+=", 36), (",", 12), ("-", 15), ("-=", 37), ("->", 51), (".", 23), ("...", 52), ("/", 17), ("//", 47), ("//=", 48), ("/=", 39), (":", 11), (":=", 53), (";", 13), ("<", 20), ("<<", 33), ("<<=", 44), ("<=", 29), ("=", 22), ("==", 27), (">", 21), (">=", 30), (">>", 34), (">>=", 45), ("@", 49), ("@=", 50), ("[", 9), ("]", 10), ("^", 32), ("^=", 43), ("{", 25), ("|", 18), ("|=", 42), ("}", 26), ("~", 31)]
def ettL : List (SS × CV) := ettI.map fun x => (SS.of (Str.ofString x.1), CV.int x.2)
noncomputable def nEM : Str := "ELLIPSIS_MARKER"
noncomputable def nB1 : Str := "b1_set"
noncomputable def nETT : Str := "EXACT_TOKEN_TYPES"
noncomputable def dropsF (x : Str) : Bool := x == ("place" : Str) || x == ("number" : Str)
noncomputable def GF (fn : Str -> Option FS) : GE := ⟨fun x => match bltL.any (fun y => Str.ofString y == x) with
 | true => some .blt
 | false => match x == nEM with
  | true => some (.const (.str (SS.of "...")))
  | false => match x == nB1 with
   | true => some (.const (.iset b1s))
   | false => match x == nETT with
    | true => some (.const (.dict ettL))
    | false => match fn x with
     | some f => some (.fn f)
     | none => none, ownsF, dropsF⟩
section
variable {G : GE} {n : Nat} {ρ ρ1 ρ2 ρ3 : CE}
set_option tactic.hygienic false
theorem adb {S : SM} {e : Expr} {a : EV} {c : CV} (h : S.ev e ρ = some (a, ρ1)) (hd : deref ρ1 a = some c) : S.evd e ρ = some (c, ρ1) := by
 unfold SM.evd; rw [h]; dsimp only; rw [hd]
theorem abu {S : SM} {e : Expr} {a : EV} {c : CV} (h : S.ev e ρ = some (a, ρ1)) (hd : freeze ρ1 a = some (c, ρ2)) : S.evf e ρ = some (c, ρ2) := by
 unfold SM.evf; rw [h]; exact hd
theorem aaT {f : Str} {p pos : Pos} {e : Expr} {c v : CV} (hm : mkOf G ρ (.Call (.Name f p) [e] [] pos) = .no) (hn : nameOk f = true) (hk : ρ.kind f = some .globalImplicit) (hg : G.glob f = some .blt) (h : (sem G n).evd e ρ = some (c, ρ1)) (hv : bltC f c = some v) :
 (sem G (n + 1)).ev (.Call (.Name f p) [e] [] pos) ρ = some (.val v, ρ1) := by
 rw [aaB]
 dsimp only [stepS]
 unfold evStep evN
 rw [hm]
 dsimp only [mkOf, l1, l2, eName, eAttr, eSub, eTup, eCall, eSlice, List.isEmpty]
 rw [hn]
 dsimp only
 unfold SM.call
 rw [hk, hg]
 dsimp only [isG, isB, fnOf, l1, List.isEmpty]
 rw [h]
 dsimp only
 rw [hv]
theorem afa {f : Str} {F : FS} (hg : G.glob f = some (.fn F)) : isBlt G ρ f = false := by
 unfold isBlt
 rw [hg]
 generalize ρ.kind f = k
 rcases k with _ | k
 · rfl
 · cases k <;> rfl
theorem abN {f : Str} {F : FS} {p pos : Pos} {args : List Expr} {kws : List Keyword} (hg : G.glob f = some (.fn F)) : mkOf G ρ (.Call (.Name f p) args kws pos) = .no := by
 have hb : isBlt G ρ f = false := afa hg
 cases args with
 | nil => cases kws <;> rfl
 | cons a r =>
  cases r with
  | nil => cases kws with
   | nil => unfold mkOf; dsimp only [l1, List.isEmpty, eName, eAttr, mkBlt]; rw [hb]
   | cons _ _ => rfl
  | cons _ _ => cases kws <;> rfl
set_option tactic.hygienic true
theorem aaQ {f : Str} {p pos : Pos} {args : List Expr} {kws : List Keyword} {F : FS} {r : EV} (hn : nameOk f = true) (hk : ρ.kind f = some .globalImplicit) (hg : G.glob f = some (.fn F)) (h : (sem G n).callDef F args kws ρ = some (r, ρ1)) :
 (sem G (n + 1)).ev (.Call (.Name f p) args kws pos) ρ = some (r, ρ1) := by
 rw [aaB]
 dsimp only [stepS]
 unfold evStep evN
 rw [abN hg]
 dsimp only [mkOf, l1, l2, eName, eAttr, eSub, eTup, eCall, eSlice, List.isEmpty]
 split
 · unfold SM.call
   rw [hk, hg]
   exact h
 · rename_i q; rw [hn] at q; cases q
theorem aef {f : Str} {p pos : Pos} {args : List Expr} {kws : List Keyword} {F : FS} {r : EV} (hm : mkOf G ρ (.Call (.Name f p) args kws pos) = .no) (hn : nameOk f = true) (hk : ρ.kind f = some .globalImplicit) (hg : G.glob f = some (.fn F)) (h : (sem G n).callDef F args kws ρ = some (r, ρ1)) :
 (sem G (n + 1)).ev (.Call (.Name f p) args kws pos) ρ = some (r, ρ1) := by
 rw [aaB]
 dsimp only [stepS]
 unfold evStep evN
 rw [hm]
 dsimp only [mkOf, l1, l2, eName, eAttr, eSub, eTup, eCall, eSlice, List.isEmpty]
 split
 · unfold SM.call
   rw [hk, hg]
   exact h
 · rename_i q; rw [hn] at q; cases q
set_option tactic.hygienic false
theorem acg {S : SM} {F : FS} {args : List Expr} {kws : List Keyword} {avs : List EV} {kvs : List (Str × CV)} {cs : List CV} {c : CV} {o : CO} (hb : F.bor = none) (h1 : S.evs args ρ = some (avs, ρ1)) (h2 : S.kws kws ρ1 = some (kvs, ρ2)) (h3 : frzBut none avs ρ2 = some (cs, ρ3)) (h4 : F.run cs kvs = some (c, o)) :
 S.callDef F args kws ρ = some (.val c, ρ3) := by
 unfold SM.callDef
 rw [h1]; dsimp only; rw [h2]; dsimp only; rw [hb, h3]; dsimp only; rw [h4]
theorem acN {S : SM} {F : FS} {i : Nat} {x : Str} {args : List Expr} {kws : List Keyword} {avs : List EV} {kvs : List (Str × CV)} {cs : List CV} {c : CV} {o o' : CO} (hb : F.bor = some i) (h1 : S.evs args ρ = some (avs, ρ1)) (h2 : S.kws kws ρ1 = some (kvs, ρ2)) (h3 : frzBut (some i) avs ρ2 = some (cs, ρ3))
 (hx : avs[i]? = some (.ref x)) (ho : ownAt ρ3 x = some o) (h4 : F.run (cs.set i o.cv) kvs = some (c, o')) : S.callDef F args kws ρ = some (.val c, ρ3.set x (reown (ρ3.get x) o')) := by
 unfold SM.callDef
 rw [h1]; dsimp only; rw [h2]; dsimp only; rw [hb, h3]; dsimp only; rw [hx]; dsimp only [evRef]; rw [ho]; dsimp only; rw [h4]
theorem aac {S : SM} {e : Expr} {r : List Expr} {a : EV} {as : List EV} (h : S.ev e ρ = some (a, ρ)) (k : S.evs r ρ = some (as, ρ)) : S.evs (e :: r) ρ = some (a :: as, ρ) := aaU h k
theorem aay {S : SM} {F : FS} {i : Nat} {x : Str} {args : List Expr} {kws : List Keyword} {avs : List EV} {kvs : List (Str × CV)} {cs : List CV} {c : CV} {o o' : CO} (hb : F.bor = some i) (h1 : S.evs args ρ = some (avs, ρ)) (h2 : S.kws kws ρ = some (kvs, ρ)) (h3 : frzBut (some i) avs ρ = some (cs, ρ))
 (hx : avs[i]? = some (.ref x)) (ho : ownAt ρ x = some o) (h4 : F.run (cs.set i o.cv) kvs = some (c, o')) (he : ρ.set x (reown (ρ.get x) o') = ρ1) : S.callDef F args kws ρ = some (.val c, ρ1) := he ▸ acN hb h1 h2 h3 hx ho h4
theorem aad {S : SM} : S.evs [] ρ = some ([], ρ) := rfl
theorem adc {o : Expr} {m x : Str} {args : List Expr} {apos pos : Pos} {c0 c : CV} {k : MK} {avs : List EV} {cs : List CV} {ob ob' : CO} (hm : mkOf G ρ (.Call (.Attribute o m apos) args [] pos) = .no) (hok : methOk o args.length apos pos = true) (h1 : (sem G n).ev o ρ = some (.ref x, ρ))
 (hd : deref ρ (.ref x) = some c0) (hk : mkindOf c0 m = some k) (hmut : k.isMut = true) (h2 : (sem G n).evs args ρ = some (avs, ρ)) (h3 : freezes avs ρ = some (cs, ρ)) (ho : ownAt ρ x = some ob) (hc : mutC k ob cs = some (c, ob')) (he : ρ.set x (reown (ρ.get x) ob') = ρ1) :
 (sem G (n + 1)).ev (.Call (.Attribute o m apos) args [] pos) ρ = some (.val c, ρ1) := by
 rw [aaB]
 dsimp only [stepS]
 unfold evStep evN
 rw [hm]
 dsimp only [mkOf, l1, l2, eName, eAttr, eSub, eTup, eCall, eSlice, List.isEmpty]
 rw [hok]
 dsimp only
 unfold SM.meth
 rw [h1]; dsimp only; rw [hd]; dsimp only; rw [hk]; dsimp only; rw [h2]; dsimp only; rw [hmut]; dsimp only; rw [h3]; dsimp only; rw [ho]; dsimp only; rw [hc]; dsimp only; rw [he]
theorem aa9 {o : Expr} {m : Str} {args : List Expr} {apos pos : Pos} {ov : EV} {c0 c : CV} {k : MK} {avs : List EV} {cs : List CV} (hm : mkOf G ρ (.Call (.Attribute o m apos) args [] pos) = .no) (hok : methOk o args.length apos pos = true) (h1 : (sem G n).ev o ρ = some (ov, ρ))
 (hd : deref ρ ov = some c0) (hk : mkindOf c0 m = some k) (hmut : k.isMut = false) (h2 : (sem G n).evs args ρ = some (avs, ρ)) (h3 : derefs ρ avs = some cs) (hc : methC k c0 cs = some c) :
 (sem G (n + 1)).ev (.Call (.Attribute o m apos) args [] pos) ρ = some (.val c, ρ) := by
 rw [aaB]
 dsimp only [stepS]
 unfold evStep evN
 rw [hm]
 dsimp only [mkOf, l1, l2, eName, eAttr, eSub, eTup, eCall, eSlice, List.isEmpty]
 rw [hok]
 dsimp only
 unfold SM.meth
 rw [h1]; dsimp only; rw [hd]; dsimp only; rw [hk]; dsimp only; rw [h2]; dsimp only; rw [hmut]; dsimp only; rw [hd, h3]; dsimp only; rw [hc]
set_option tactic.hygienic true
theorem agr {x : Str} {p pos : Pos} {e : Expr} {c : CV} (hm : mkOf G ρ e = .no) (hp : plainE e = true) (h : (sem G n).evf e ρ = some (c, ρ1)) (hc : canSet ρ1 x = true) : (sem G (n + 1)).xs (.Assign [.Name x p] e pos) ρ = some (.next, ρ1.set x (.val c)) := by
 rw [aaB]
 dsimp only [stepS]
 unfold xsStep
 dsimp only [l1, l2, eName, eAttr, eSub, eTup, eCall, eSlice, List.isEmpty, asgN, asgP, asgS, augN, augS, delS]
 rw [hm]
 dsimp only
 rw [hp]
 dsimp only
 rw [h]
 dsimp only
 rw [hc]
theorem aaG {x : Str} {p pos : Pos} {e : Expr} {c : CV} (hm : mkOf G ρ e = .no) (hp : plainE e = true) (h : (sem G n).ev e ρ = some (.val c, ρ1)) (hc : canSet ρ1 x = true) (he : ρ1.set x (.val c) = ρ2) : (sem G (n + 1)).xs (.Assign [.Name x p] e pos) ρ = some (.next, ρ2) := he ▸ agr hm hp (abu h rfl) hc
theorem abB {pos : Pos} {e : Expr} (hp : plainE e = true) (h : (sem G n).ev e ρ = some (.val .none, ρ1)) : (sem G (n + 1)).xs (.Expr e pos) ρ = some (.next, ρ1) := by
 rw [aaB]
 dsimp only [stepS]
 unfold xsStep
 dsimp only [l1, l2, eName, eAttr, eSub, eTup, eCall, eSlice, List.isEmpty, asgN, asgP, asgS, augN, augS, delS]
 rw [hp]
 dsimp only
 rw [h]
set_option tactic.hygienic false
theorem abg {pos : Pos} {e : Expr} {c : CV} (h : (sem G n).evf e ρ = some (c, ρ1)) : (sem G (n + 1)).xs (.Return (some e) pos) ρ = some (.ret c, ρ1) := by
 rw [aaB]
 dsimp only [stepS]
 unfold xsStep
 dsimp only [l1, l2, eName, eAttr, eSub, eTup, eCall, eSlice, List.isEmpty, asgN, asgP, asgS, augN, augS, delS]
 rw [h]
end
section
variable {fn : Str -> Option FS} {xs : List CV} {x : Int} {L : Lam} {caps : List (Str × CV)} {κ : Nat -> Int}
noncomputable def frB0 (sc : Scope) (xs : List CV) (x : Int) (key : CV) : CE := ⟨sc, ("a", .bor (.list xs)) :: ("x", .val (.int x)) :: ("lo", .val (.int 0)) :: ("hi", .val .none) :: ("key", .val key) :: []⟩
set_option tactic.hygienic false
theorem afO (hl : xs.length ≤ 1000) : bltC nLen (.list xs) = some (.int xs.length) := by
 have e : (nLen == nLen) = true := by simp
 unfold bltC
 rw [e]
 dsimp only [lenC]
 have : decide ((xs.length : Int) ≤ 1000000) = true := decide_eq_true (by omega)
 rw [this]
set_option tactic.hygienic true
theorem ajf (hκ : KeyOf (GF fn) L caps xs κ) (hl : xs.length ≤ 90) : runDef (GF fn) 12 dR [.list xs, .int x, .int 0, .none] [("key", .lam L caps)] = some (.int (bisR κ x 100 0 xs.length), .list xs) := by
 have s0 : (sem (GF fn) 12).xs (stA dR.body 0) (frB0 dR.scope xs x (.lam L caps)) = some (.next, frB0 dR.scope xs x (.lam L caps)) := by ext
 have s1 : (sem (GF fn) 12).xs (stA dR.body 1) (frB0 dR.scope xs x (.lam L caps)) = some (.next, frB dR.scope xs x 0 xs.length (.lam L caps) []) :=
  aaM (ρ1 := frB0 dR.scope xs x (.lam L caps)) (by ext) (aaa (agr (c := .int xs.length) (ρ1 := frB0 dR.scope xs x (.lam L caps)) (by ext) (by ext) (abu (a := .val (.int xs.length)) (ρ1 := frB0 dR.scope xs x (.lam L caps)) (aaT (c := .list xs) (by ext) (by ext) (by ext) (by ext) (by ext) (afO (by omega))) rfl) (by ext)) (by ext))
 obtain ⟨tail, hw⟩ := amA (x := x) hκ (by omega) 100 0 xs.length [] (Nat.le_refl _) (by omega) (Nat.zero_le _) (.inl rfl)
 have s2 : (sem (GF fn) 12).xs (stA dR.body 2) (frB dR.scope xs x 0 xs.length (.lam L caps) []) = some (.next, frB dR.scope xs x (bisR κ x 100 0 xs.length) (bisR κ x 100 0 xs.length) (.lam L caps) tail) :=
  aaD (ρ1 := frB dR.scope xs x 0 xs.length (.lam L caps) []) (by ext) (aaa (xs_while.trans hw) aaf)
 have s3 : (sem (GF fn) 12).xs (stA dR.body 3) (frB dR.scope xs x (bisR κ x 100 0 xs.length) (bisR κ x 100 0 xs.length) (.lam L caps) tail) = some (.ret (.int (bisR κ x 100 0 xs.length)), frB dR.scope xs x (bisR κ x 100 0 xs.length) (bisR κ x 100 0 xs.length) (.lam L caps) tail) := by ext
 refine aak (l := [("a", .bor (.list xs)), ("x", .val (.int x)), ("lo", .val (.int 0)), ("hi", .val .none)]) (by ext) (by ext) (aaa s0 (aaa s1 (aaa s2 (aan s3)))) rfl
theorem ajg (hκ : KeyOf (GF fn) L caps xs κ) (hl : xs.length ≤ 90) : runDef (GF fn) 12 dL [.list xs, .int x, .int 0, .none] [("key", .lam L caps)] = some (.int (bisL κ x 100 0 xs.length), .list xs) := by
 have s0 : (sem (GF fn) 12).xs (stA dL.body 0) (frB0 dL.scope xs x (.lam L caps)) = some (.next, frB0 dL.scope xs x (.lam L caps)) := by ext
 have s1 : (sem (GF fn) 12).xs (stA dL.body 1) (frB0 dL.scope xs x (.lam L caps)) = some (.next, frB dL.scope xs x 0 xs.length (.lam L caps) []) :=
  aaM (ρ1 := frB0 dL.scope xs x (.lam L caps)) (by ext) (aaa (agr (c := .int xs.length) (ρ1 := frB0 dL.scope xs x (.lam L caps)) (by ext) (by ext) (abu (a := .val (.int xs.length)) (ρ1 := frB0 dL.scope xs x (.lam L caps)) (aaT (c := .list xs) (by ext) (by ext) (by ext) (by ext) (by ext) (afO (by omega))) rfl) (by ext)) (by ext))
 obtain ⟨tail, hw⟩ := akI (x := x) hκ (by omega) 100 0 xs.length [] (Nat.le_refl _) (by omega) (Nat.zero_le _) (.inl rfl)
 have s2 : (sem (GF fn) 12).xs (stA dL.body 2) (frB dL.scope xs x 0 xs.length (.lam L caps) []) = some (.next, frB dL.scope xs x (bisL κ x 100 0 xs.length) (bisL κ x 100 0 xs.length) (.lam L caps) tail) :=
  aaD (ρ1 := frB dL.scope xs x 0 xs.length (.lam L caps) []) (by ext) (aaa (xs_while.trans hw) aaf)
 have s3 : (sem (GF fn) 12).xs (stA dL.body 3) (frB dL.scope xs x (bisL κ x 100 0 xs.length) (bisL κ x 100 0 xs.length) (.lam L caps) tail) = some (.ret (.int (bisL κ x 100 0 xs.length)), frB dL.scope xs x (bisL κ x 100 0 xs.length) (bisL κ x 100 0 xs.length) (.lam L caps) tail) := by ext
 refine aak (l := [("a", .bor (.list xs)), ("x", .val (.int x)), ("lo", .val (.int 0)), ("hi", .val .none)]) (by ext) (by ext) (aaa s0 (aaa s1 (aaa s2 (aan s3)))) rfl
end
def iR : DD := ddG "insort_right" (some 0)
def iL : DD := ddG "insort_left" (some 0)
noncomputable def nBR : Str := "bisect_right"
noncomputable def nBL : Str := "bisect_left"
noncomputable def insAt (xs : List CV) (i : Nat) (c : CV) : List CV := xs.take i ++ c :: xs.drop i
noncomputable def frI (sc : Scope) (xs : List CV) (c : CV) (lo : Int) (key : CV) : CE := ⟨sc, ("a", .bor (.list xs)) :: ("x", .val c) :: ("lo", .val (.int lo)) :: ("hi", .val .none) :: ("key", .val key) :: []⟩
section
variable {fn : Str -> Option FS} {xs : List CV} {x : Int} {c : CV} {L : Lam} {caps : List (Str × CV)}
set_option tactic.hygienic false
theorem insC {i : Nat} (hi : i ≤ xs.length) (hl : xs.length ≤ 1000) : mutC .insert (.list xs) [.int (i : Int), c] = some (.none, .list (insAt xs i c)) := by
 unfold mutC
 dsimp only [l1, l2, cvInt]
 have e1 : Nat.ble xs.length LIM = true := Nat.ble_eq_true_of_le (by unfold LIM; omega)
 have e2 : decide (0 ≤ (i : Int)) = true := decide_eq_true (by omega)
 have e3 : decide ((i : Int) ≤ xs.length) = true := decide_eq_true (by omega)
 rw [e1, e2, e3]
 rfl
set_option tactic.hygienic true
theorem insR {F : FS} {r : Nat} (hf : fn nBR = some F) (hb : F.bor = some 0) (hrun : F.run [.list xs, .int x, .int 0, .none] [("key", .lam L caps)] = some (.int (r : Int), .list xs))
 (hk : ∀ m, 4 ≤ m -> (sem (GF fn) m).callLam L caps [c] = some (.int x)) (hr : r ≤ xs.length) (hl : xs.length ≤ 1000) (hc : isTup c = false) :
 runDef (GF fn) 12 iR [.list xs, c] [("key", .lam L caps)] = some (.none, .list (insAt xs r c)) := by
 have hg : (GF fn).glob nBR = some (.fn F) := by
  have : (GF fn).glob nBR = (match fn nBR with | some f => some (.fn f) | none => none) := by ext
  rw [this, hf]
 have s0 : (sem (GF fn) 12).xs (stA iR.body 0) (frI iR.scope xs c 0 (.lam L caps)) = some (.next, frI iR.scope xs c r (.lam L caps)) := by
  refine aaD (ρ1 := frI iR.scope xs c 0 (.lam L caps)) (by ext) (aaa (aaG (c := .int r) (ρ1 := frI iR.scope xs c 0 (.lam L caps)) (by ext) (by ext) (aef (by ext) (by ext) (by ext) hg
   (aay (x := "a") (o := .list xs) (o' := .list xs) (c := .int r) (cs := [.none, .int x, .int 0, .none]) (kvs := [("key", .lam L caps)]) (avs := [.ref "a", .val (.int x), .val (.int 0), .val .none]) hb
    (aac (by ext) (aac (abp (a := c) (L := L) (caps := caps) (by ext) (by ext) (by ext) (by ext) (by ext) (hk 8 (by decide))) (aac (by ext) (aac (by ext) aad)))) (by ext) rfl rfl (by ext) hrun (by ext)))
   (by ext) (by ext)) aaf)
 have s1 : (sem (GF fn) 12).xs (stA iR.body 1) (frI iR.scope xs c r (.lam L caps)) = some (.next, frI iR.scope (insAt xs r c) c r (.lam L caps)) := by
  refine abB (by ext) (adc (x := "a") (c0 := .list xs) (k := .insert) (avs := [.val (.int r), .val c]) (cs := [.int r, c]) (ob := .list xs) (ob' := .list (insAt xs r c)) (by ext) (by ext) (by ext) (by ext) (by ext) rfl (aac (by ext) (aac (by ext) aad)) rfl (by ext) (insC hr hl) (by ext))
 exact acM (l := [("a", .bor (.list xs)), ("x", .val c), ("lo", .val (.int 0)), ("hi", .val .none)]) (by ext) (by ext) (aaa s0 (aaa s1 aaf)) rfl
theorem insL {F : FS} {r : Nat} (hf : fn nBL = some F) (hb : F.bor = some 0) (hrun : F.run [.list xs, .int x, .int 0, .none] [("key", .lam L caps)] = some (.int (r : Int), .list xs))
 (hk : ∀ m, 4 ≤ m -> (sem (GF fn) m).callLam L caps [c] = some (.int x)) (hr : r ≤ xs.length) (hl : xs.length ≤ 1000) (hc : isTup c = false) :
 runDef (GF fn) 12 iL [.list xs, c] [("key", .lam L caps)] = some (.none, .list (insAt xs r c)) := by
 have hg : (GF fn).glob nBL = some (.fn F) := by
  have : (GF fn).glob nBL = (match fn nBL with | some f => some (.fn f) | none => none) := by ext
  rw [this, hf]
 have s0 : (sem (GF fn) 12).xs (stA iL.body 0) (frI iL.scope xs c 0 (.lam L caps)) = some (.next, frI iL.scope xs c r (.lam L caps)) := by
  refine aaD (ρ1 := frI iL.scope xs c 0 (.lam L caps)) (by ext) (aaa (aaG (c := .int r) (ρ1 := frI iL.scope xs c 0 (.lam L caps)) (by ext) (by ext) (aef (by ext) (by ext) (by ext) hg
   (aay (x := "a") (o := .list xs) (o' := .list xs) (c := .int r) (cs := [.none, .int x, .int 0, .none]) (kvs := [("key", .lam L caps)]) (avs := [.ref "a", .val (.int x), .val (.int 0), .val .none]) hb
    (aac (by ext) (aac (abp (a := c) (L := L) (caps := caps) (by ext) (by ext) (by ext) (by ext) (by ext) (hk 8 (by decide))) (aac (by ext) (aac (by ext) aad)))) (by ext) rfl rfl (by ext) hrun (by ext)))
   (by ext) (by ext)) aaf)
 have s1 : (sem (GF fn) 12).xs (stA iL.body 1) (frI iL.scope xs c r (.lam L caps)) = some (.next, frI iL.scope (insAt xs r c) c r (.lam L caps)) := by
  refine abB (by ext) (adc (x := "a") (c0 := .list xs) (k := .insert) (avs := [.val (.int r), .val c]) (cs := [.int r, c]) (ob := .list xs) (ob' := .list (insAt xs r c)) (by ext) (by ext) (by ext) (by ext) (by ext) rfl (aac (by ext) (aac (by ext) aad)) rfl (by ext) (insC hr hl) (by ext))
 exact acM (l := [("a", .bor (.list xs)), ("x", .val c), ("lo", .val (.int 0)), ("hi", .val .none)]) (by ext) (by ext) (aaa s0 (aaa s1 aaf)) rfl
end
def dLay : DD := ddG "_law_lay" (some 0)
noncomputable def nIR : Str := "insort_right"
noncomputable def nIL : Str := "insort_left"
noncomputable def retE : Stmt -> Expr | .Return (some e) _ => e | _ => default
noncomputable def kwE : Expr -> Expr | .Call _ _ [⟨_, e, _⟩] _ => e | _ => default
noncomputable def lamE : Expr -> Lam | .Lambda p b sc _ => ⟨p, b, sc⟩ | _ => ⟨⟨[], [], none, [], [], none, []⟩, default, ⟨.module, [], false, false, []⟩⟩
def lamL : Lam := lamE (kwE (retE (stA (ifB (stA dLay.body 0)) 0)))
def lamR : Lam := lamE (kwE (retE (stA dLay.body 1)))
noncomputable def argL (L : Lam) : Arg := match L.params.args with | [a] => a | _ => ⟨"", none, default⟩
section
variable {fn : Str -> Option FS} {G : GE} {xs : List CV} {es : List (SS × CV)}
set_option tactic.hygienic false
theorem ade {S : SM} {L : Lam} {caps : List (Str × CV)} {a : Arg} {c v : CV} {ρ : CE} (h1 : (lamOk L.params && scOk L.scope && !L.scope.isCoroutine && !L.scope.isGenerator && capsOk L.scope caps) = true) (h2 : L.params.args = [a]) (h3 : L.scope.names.lookup a.arg = some .local)
 (h4 : S.ev L.body ⟨L.scope, (a.arg, .val c) :: capVars caps⟩ = some (.val v, ρ)) : S.callLam L caps [c] = some v := by
 unfold SM.callLam
 rw [h1, h2]
 dsimp only
 rw [h3]
 dsimp only
 rw [h4]
theorem keyR {k : SS} {v : Int} (h : dget es k.s = some (.int v)) (m : Nat) (hm : 4 ≤ m) : (sem G m).callLam lamR [("floor", .dict es)] [.str k] = some (.int v) := by
 obtain ⟨m, rfl⟩ := Nat.exists_eq_add_of_le' hm
 exact ade (a := argL lamR) (ρ := ⟨lamR.scope, [("one", .val (.str k)), ("floor", .val (.dict es))]⟩) (by ext) (by ext) (by ext) (abA (a := .dict es) (b := .str k) (by ext) h)
theorem keyL {k : SS} {v : Int} (h : dget es k.s = some (.int v)) (m : Nat) (hm : 4 ≤ m) : (sem G m).callLam lamL [("floor", .dict es)] [.str k] = some (.int v) := by
 obtain ⟨m, rfl⟩ := Nat.exists_eq_add_of_le' hm
 exact ade (a := argL lamL) (ρ := ⟨lamL.scope, [("one", .val (.str k)), ("floor", .val (.dict es))]⟩) (by ext) (by ext) (by ext) (abA (a := .dict es) (b := .str k) (by ext) h)
def frLay (xs : List CV) (c : CV) (es : List (SS × CV)) (b : Bool) : CE := ⟨dLay.scope, ("row", .bor (.list xs)) :: ("cell", .val c) :: ("floor", .fix (.dict es)) :: ("by_left", .val (.bool b)) :: []⟩
theorem aar {x : Str} {F : FS} (h : fn x = some F) (hx : (GF fn).glob x = (match fn x with | some f => some (.fn f) | none => none)) : (GF fn).glob x = some (.fn F) := by rw [hx, h]
set_option tactic.hygienic true
theorem layR {F : FS} {c : CV} {xs' : List CV} (hf : fn nIR = some F) (hb : F.bor = some 0) (hrun : F.run [.list xs, c] [("key", .lam lamR [("floor", .dict es)])] = some (.none, .list xs')) :
 runDef (GF fn) 12 dLay [.list xs, c, .dict es, .bool false] [] = some (.none, .list xs') := by
 have s0 : (sem (GF fn) 12).xs (stA dLay.body 0) (frLay xs c es false) = some (.next, frLay xs c es false) := by ext
 have s1 : (sem (GF fn) 12).xs (stA dLay.body 1) (frLay xs c es false) = some (.ret .none, frLay xs' c es false) :=
  abg (abu (a := .val .none) (ρ1 := frLay xs' c es false) (aef (by ext) (by ext) (by ext) (aar hf (by ext))
   (aay (x := "row") (o := .list xs) (o' := .list xs') (c := .none) (cs := [.none, c]) (kvs := [("key", .lam lamR [("floor", .dict es)])]) (avs := [.ref "row", .val c]) hb (aac (by ext) (aac (by ext) aad)) (by ext) rfl rfl (by ext) hrun (by ext))) rfl)
 exact aak (l := [("row", .bor (.list xs)), ("cell", .val c), ("floor", .val (.dict es)), ("by_left", .val (.bool false))]) (by ext) (by ext) (aaa s0 (aan s1)) rfl
set_option tactic.hygienic false
theorem layL {F : FS} {c : CV} {xs' : List CV} (hf : fn nIL = some F) (hb : F.bor = some 0) (hrun : F.run [.list xs, c] [("key", .lam lamL [("floor", .dict es)])] = some (.none, .list xs')) :
 runDef (GF fn) 12 dLay [.list xs, c, .dict es, .bool true] [] = some (.none, .list xs') := by
 have s0 : (sem (GF fn) 12).xs (stA dLay.body 0) (frLay xs c es true) = some (.ret .none, frLay xs' c es true) :=
  aaM (ρ1 := frLay xs c es true) (by ext) (aan (abg (abu (a := .val .none) (ρ1 := frLay xs' c es true) (aef (by ext) (by ext) (by ext) (aar hf (by ext))
   (aay (x := "row") (o := .list xs) (o' := .list xs') (c := .none) (cs := [.none, c]) (kvs := [("key", .lam lamL [("floor", .dict es)])]) (avs := [.ref "row", .val c]) hb (aac (by ext) (aac (by ext) aad)) (by ext) rfl rfl (by ext) hrun (by ext))) rfl)))
 exact aak (l := [("row", .bor (.list xs)), ("cell", .val c), ("floor", .val (.dict es)), ("by_left", .val (.bool true))]) (by ext) (by ext) (aan s0) rfl
end
section
variable {G : GE} {n : Nat} {ρ ρ1 ρ2 ρ3 : CE}
set_option tactic.hygienic false
theorem aa2 {v w j : Expr} {q p : Pos} {a b c : CV} (h : (sem G n).ev2 v (.Subscript w j q) ρ = some (a, b, ρ1)) (hc : subC a b = some c) : (sem G (n + 1)).ev (.Subscript v (.Subscript w j q) p) ρ = some (.val c, ρ1) := by
 rw [aaB]
 dsimp only [stepS]
 unfold evStep evN
 dsimp only [mkOf, l1, l2, eName, eAttr, eSub, eTup, eCall, eSlice, List.isEmpty]
 rw [h]
 dsimp only
 rw [hc]
theorem ady {v l r : Expr} {op : Operator} {q p : Pos} {a b c : CV} (h : (sem G n).ev2 v (.BinOp l op r q) ρ = some (a, b, ρ1)) (hc : subC a b = some c) : (sem G (n + 1)).ev (.Subscript v (.BinOp l op r q) p) ρ = some (.val c, ρ1) := by
 rw [aaB]
 dsimp only [stepS]
 unfold evStep evN
 dsimp only [mkOf, l1, l2, eName, eAttr, eSub, eTup, eCall, eSlice, List.isEmpty]
 rw [h]
 dsimp only
 rw [hc]
theorem it_bool {op : BoolOp} {es : List Expr} {p : Pos} : (sem G (n + 1)).it (.BoolOp op es p) ρ = (sem G n).allT op es ρ := by
 rw [aaB]; rfl
theorem amm {S : SM} {op : BoolOp} : S.allT op [] ρ = some ((match op with | .And => true | .Or => false), ρ) := rfl
theorem ags {S : SM} {e : Expr} {es : List Expr} {t : Bool} {q : Bool} (h : S.it e ρ = some (t, ρ)) (k : t = false -> S.allT .Or es ρ = some (q, ρ)) (hq : t = true -> q = true) : S.allT .Or (e :: es) ρ = some (q, ρ) := by
 rw [aik]
 rw [h]
 cases t with
 | true => rw [hq rfl]
 | false => exact k rfl
theorem afb {S : SM} {e : Expr} {es : List Expr} {t : Bool} {q : Bool} (h : S.it e ρ = some (t, ρ)) (k : t = true -> S.allT .And es ρ = some (q, ρ)) (hq : t = false -> q = false) : S.allT .And (e :: es) ρ = some (q, ρ) := by
 rw [aik]
 rw [h]
 cases t with
 | false => rw [hq rfl]
 | true => exact k rfl
set_option tactic.hygienic true
theorem aex {x y : Str} {px py tp p' pos : Pos} {k' k'' : Nat} {a b : Expr} {avs : List EV} {c d : CV} (hp : pairOk ρ x px y py a b = true) (h1 : (sem G n).evs [a, b] ρ = some (avs, ρ1)) (h2 : freezes avs ρ1 = some ([c, d], ρ2)) (hc : (canSet ρ2 x && canSet ρ2 y) = true)
 (he : (ρ2.set y (.val d)).set x (.val c) = ρ3) : (sem G (n + 1)).xs (.Assign [.Tuple [.Name x px, .Name y py] k' tp] (.Tuple [a, b] k'' p') pos) ρ = some (.next, ρ3) := by
 rw [aaB]
 dsimp only [stepS]
 unfold xsStep
 dsimp only [l1, l2, eName, eAttr, eSub, eTup, eCall, eSlice, List.isEmpty, asgN, asgP, asgS, augN, augS, delS]
 rw [hp]
 dsimp only
 rw [h1]
 dsimp only
 rw [h2]
 dsimp only
 rw [hc, he]
set_option tactic.hygienic false
theorem agt {t i : Expr} {b : List Stmt} {p : Pos} {cs : List CV} {q : Option (FC × CE)} (h : (sem G n).items G true t i ρ = some (cs, ρ1)) (k : dropF (dropsT G t) (loopL (fun c ρ => match bindT t c ρ with | some ρ => (sem G n).xss b ρ | none => none) cs ρ1) = q) : (sem G (n + 1)).xs (.For t i b [] p) ρ = q := by
 rw [aaB]
 dsimp only [stepS]
 unfold xsStep
 dsimp only [List.isEmpty]
 rw [h]
 exact k
theorem aa3 {t i : Expr} {b : List Stmt} {p : Pos} {cs : List CV} {q : Option (FC × CE)} (h : (sem G n).items G true t i ρ = some (cs, ρ1)) (k : loopL (fun c ρ => match bindT t c ρ with | some ρ => (sem G n).xss b ρ | none => none) cs ρ1 = q) (hd : dropsT G t = none := by ext) : (sem G (n + 1)).xs (.For t i b [] p) ρ = q :=
 agt h (by rw [hd]; exact k)
end
def dKeep : DD := ddG "_law_keeps" none
noncomputable def forT : Stmt -> Expr | .For t _ _ _ _ => t | _ => default
noncomputable def forI : Stmt -> Expr | .For _ i _ _ _ => i | _ => default
noncomputable def forB : Stmt -> List Stmt | .For _ _ b _ _ => b | _ => []
def kpB : List Stmt := forB (stA dKeep.body 0)
def kpI : List Stmt := forB (stA kpB 0)
def frK (chs : List CV) (es : List (SS × CV)) (strict : Bool) (tail : List (Str × Slot)) : CE := ⟨dKeep.scope, ("chains", .val (.list chs)) :: ("floor", .val (.dict es)) :: ("strictly", .val (.bool strict)) :: tail⟩
noncomputable def t1 (c : CV) : List (Str × Slot) := [("chain", .val c)]
noncomputable def t2 (c k : CV) : List (Str × Slot) := [("chain", .val c), ("k", .val k)]
noncomputable def t4 (c k h l : CV) : List (Str × Slot) := [("chain", .val c), ("k", .val k), ("high", .val h), ("low", .val l)]
section
variable {G : GE} {chs cs : List CV} {es : List (SS × CV)} {c d k h l : CV} {st : Bool} {i : Int}
set_option tactic.hygienic false
theorem ahy : bindT (forT (stA kpB 0)) (.int i) (frK chs es st (t1 c)) = some (frK chs es st (t2 c (.int i))) := by ext
theorem ahz : bindT (forT (stA kpB 0)) (.int i) (frK chs es st (t4 c k h l)) = some (frK chs es st (t4 c (.int i) h l)) := by ext
set_option tactic.hygienic true
theorem ahA {u v a b : CV} (h1 : subC (.list cs) (.int (i - 1)) = some u) (h2 : subC (.dict es) u = some a) (h3 : subC (.list cs) (.int i) = some v) (h4 : subC (.dict es) v = some b) :
 (sem G 8).xs (stA kpI 0) (frK chs es st (t2 (.list cs) (.int i))) = some (.next, frK chs es st (t4 (.list cs) (.int i) b a)) := by
 refine aex (avs := [.val a, .val b]) (c := a) (d := b) (ρ1 := frK chs es st (t2 (.list cs) (.int i))) (ρ2 := frK chs es st (t2 (.list cs) (.int i))) (by ext) (aac ?_ (aac ?_ aad)) rfl (by ext) (by ext)
 · exact aa2 (aa1 (a := .val (.dict es)) (b := .val u) (by ext) (ady (aa1 (a := .val (.list cs)) (b := .val (.int (i - 1))) (by ext) (by ext) rfl rfl) h1) rfl rfl) h2
 · exact aa2 (aa1 (a := .val (.dict es)) (b := .val v) (by ext) (abA (aa1 (a := .val (.list cs)) (b := .val (.int i)) (by ext) (by ext) rfl rfl) h3) rfl rfl) h4
theorem ahB {u v a b : CV} (h1 : subC (.list cs) (.int (i - 1)) = some u) (h2 : subC (.dict es) u = some a) (h3 : subC (.list cs) (.int i) = some v) (h4 : subC (.dict es) v = some b) :
 (sem G 8).xs (stA kpI 0) (frK chs es st (t4 (.list cs) (.int i) h l)) = some (.next, frK chs es st (t4 (.list cs) (.int i) b a)) := by
 refine aex (avs := [.val a, .val b]) (c := a) (d := b) (ρ1 := frK chs es st (t4 (.list cs) (.int i) h l)) (ρ2 := frK chs es st (t4 (.list cs) (.int i) h l)) (by ext) (aac ?_ (aac ?_ aad)) rfl (by ext) (by ext)
 · exact aa2 (aa1 (a := .val (.dict es)) (b := .val u) (by ext) (ady (aa1 (a := .val (.list cs)) (b := .val (.int (i - 1))) (by ext) (by ext) rfl rfl) h1) rfl rfl) h2
 · exact aa2 (aa1 (a := .val (.dict es)) (b := .val v) (by ext) (abA (aa1 (a := .val (.list cs)) (b := .val (.int i)) (by ext) (by ext) rfl rfl) h3) rfl rfl) h4
noncomputable def badPair (st : Bool) (a b : Int) : Bool := decide (a > b) || (st && (a == b))
set_option tactic.hygienic false
theorem ajh {a b : Int} : (sem G 7).it (ifT (stA kpI 1)) (frK chs es st (t4 c k (.int b) (.int a))) = some (badPair st a b, frK chs es st (t4 c k (.int b) (.int a))) := by
 refine it_bool.trans ?_
 refine ags (t := decide (a > b)) (by ext) (fun e => ?_) (fun e => by unfold badPair; rw [e]; rfl)
 refine ags (t := st && (a == b)) (it_bool.trans ?_) (fun e' => by unfold badPair; rw [e, e']; rfl) (fun e' => by unfold badPair; rw [e, e']; rfl)
 refine afb (t := st) ?_ (fun e => ?_) (fun e => by rw [e]; rfl)
 · cases st <;> ext
 · subst e
   exact afb (t := (a == b)) (by ext) (fun e => by rw [e]; rfl) (fun e => by rw [e]; rfl)
end
section
variable {G : GE} {n : Nat} {ρ ρ1 ρ2 ρ3 : CE}
set_option tactic.hygienic false
theorem ach {k : Bool} {t a b : Expr} {f : Str} {p pos : Pos} {x y : Int} (hb : isBlt G ρ f = true) (hf : (f == nRange) = true) (h1 : (sem G n).ev a ρ = some (.val (.int x), ρ)) (h2 : (sem G n).ev b ρ = some (.val (.int y), ρ)) (hx : small x = true) (hy : small y = true) :
 (sem G n).items G k t (.Call (.Name f p) [a, b] [] pos) ρ = some (rangeC x y, ρ) := by
 have hs : srcOf G ρ (.Call (.Name f p) [a, b] [] pos) = .range [a, b] := by rw [ac2 G hb]; unfold srcB; rw [hf]
 unfold SM.items
 rw [hs]
 dsimp only
 unfold SM.range
 dsimp only
 rw [ail h1]
 dsimp only
 rw [ail h2]
 dsimp only
 rw [hx, hy]
 rfl
theorem aaL {k : Bool} {t e : Expr} {c : CV} {cs : List CV} (hs : (match srcOf G ρ e with | .plain _ => true | _ => false) = true) (h : (sem G n).evk k e ρ = some (c, ρ1)) (hi : itemsC c = some cs) (hl : Nat.ble cs.length LIM = true) : (sem G n).items G k t e ρ = some (cs, ρ1) := by
 have hs : srcOf G ρ e = .plain e := by
  rcases aeV G (ρ := ρ) (e := e) rfl with h | ⟨_, _, _, _, _, _, ⟨_, h⟩ | ⟨_, _, _, h⟩⟩ <;> rw [h] at hs ⊢ <;> cases hs
 unfold SM.items
 rw [hs]
 dsimp only
 rw [h]
 dsimp only
 rw [hi]
 dsimp only
 rw [hl]
theorem afP (a b : Int) (h : b ≤ a) : rangeC a b = [] := by
 unfold rangeC
 rw [show (b - a).toNat = 0 by lia]; rfl
theorem aey (a b : Int) (h : a < b) : rangeC a b = .int a :: rangeC (a + 1) b := by
 unfold rangeC
 obtain ⟨k, hk⟩ : ∃ k, (b - a).toNat = k + 1 := ⟨(b - a).toNat - 1, by lia⟩
 rw [hk, show (b - (a + 1)).toNat = k by omega, List.range_succ_eq_map, List.map_cons, List.map_map]
 congr 1
 · simp
 · apply List.map_congr_left
   intro i _
   simp only [Function.comp]
   congr 1
   lia
theorem acO {m : Nat} (h : m ≤ 1000) : small (m : Int) = true := by
 unfold small
 rw [decide_eq_true (by lia), decide_eq_true (by lia)]; rfl
end
noncomputable def kpL (st : Bool) : List Int -> Bool
 | a :: b :: r => !(badPair st a b) && kpL st (b :: r)
 | _ => true
section
variable {G : GE} {chs cs : List CV} {es : List (SS × CV)} {c d k h l : CV} {st : Bool} {i : Int}
def okT (c : CV) (tail : List (Str × Slot)) : Prop := tail = t1 c ∨ ∃ k h l, tail = t4 c k h l
def FlOf (es : List (SS × CV)) (cs : List CV) (vs : List Int) : Prop := cs.length = vs.length ∧ ∀ (i : Nat) (c : CV) (v : Int), cs[i]? = some c -> vs[i]? = some v -> subC (.dict es) c = some (.int v)
set_option tactic.hygienic true
theorem aji {u v : CV} {a b : Int} {tail : List (Str × Slot)} (ht : okT (.list cs) tail) (h1 : subC (.list cs) (.int (i - 1)) = some u) (h2 : subC (.dict es) u = some (.int a)) (h3 : subC (.list cs) (.int i) = some v) (h4 : subC (.dict es) v = some (.int b)) :
 (match bindT (forT (stA kpB 0)) (.int i) (frK chs es st tail) with | some ρ => (sem G 8).xss kpI ρ | none => none) = match badPair st a b with
  | true => some (.ret (.bool false), frK chs es st (t4 (.list cs) (.int i) (.int b) (.int a)))
  | false => some (.next, frK chs es st (t4 (.list cs) (.int i) (.int b) (.int a))) := by
 have hb : kpI = [stA kpI 0, stA kpI 1] := by ext
 have test : (sem G 8).xss [stA kpI 1] (frK chs es st (t4 (.list cs) (.int i) (.int b) (.int a))) = match badPair st a b with
  | true => some (.ret (.bool false), frK chs es st (t4 (.list cs) (.int i) (.int b) (.int a)))
  | false => some (.next, frK chs es st (t4 (.list cs) (.int i) (.int b) (.int a))) := by
  have ht := ajh (G := G) (chs := chs) (es := es) (st := st) (c := .list cs) (k := .int i) (a := a) (b := b)
  cases hbp : badPair st a b with
  | true =>
   rw [hbp] at ht
   exact aan (aaM ht (by ext))
  | false =>
   rw [hbp] at ht
   exact aaa (aaD ht (by ext)) aaf
 rw [hb]
 rcases ht with rfl | ⟨k, h, l, rfl⟩
 · rw [ahy]
   exact aaa (ahA h1 h2 h3 h4) test
 · rw [ahz]
   exact aaa (ahB h1 h2 h3 h4) test
theorem ajj {vs : List Int} (hf : FlOf es cs vs) (hl : cs.length ≤ 900) : ∀ (e j : Nat) (tail : List (Str × Slot)), cs.length - j ≤ e -> 1 ≤ j -> okT (.list cs) tail ->
 ∃ ρ', loopL (fun c ρ => match bindT (forT (stA kpB 0)) c ρ with | some ρ => (sem G 8).xss kpI ρ | none => none) (rangeC j cs.length) (frK chs es st tail) = some ((match kpL st (vs.drop (j - 1)) with | true => .next | false => .ret (.bool false)), ρ') ∧
  (kpL st (vs.drop (j - 1)) = true -> ∃ tail', okT (.list cs) tail' ∧ ρ' = frK chs es st tail') := by
 intro e
 induction e with
 | zero =>
  intro j tail he hj ht
  rw [afP _ _ (by omega)]
  have hk : kpL st (vs.drop (j - 1)) = true := by
   have : (vs.drop (j - 1)).length ≤ 1 := by rw [List.length_drop, <- hf.1]; omega
   match hv : vs.drop (j - 1) with
   | [] => rfl
   | [_] => rfl
   | _ :: _ :: _ => rw [hv] at this; simp at this
  rw [hk]
  exact ⟨_, rfl, fun _ => ⟨tail, ht, rfl⟩⟩
 | succ e ih =>
  intro j tail he hj ht
  by_cases hlt : j < cs.length
  · rw [aey _ _ (by omega)]
    have hv1 : j - 1 < vs.length := by rw [<- hf.1]; omega
    have hv2 : j < vs.length := by rw [<- hf.1]; omega
    have e1 : vs.drop (j - 1) = vs[j - 1] :: vs[j] :: vs.drop (j + 1) := by
     rw [List.drop_eq_getElem_cons hv1, show j - 1 + 1 = j by omega, List.drop_eq_getElem_cons hv2]
    have e2 : vs.drop (j + 1 - 1) = vs[j] :: vs.drop (j + 1) := by rw [show j + 1 - 1 = j by lia, List.drop_eq_getElem_cons hv2]
    have hc1 : cs[j - 1]? = some cs[j - 1] := List.getElem?_eq_getElem (by omega)
    have hc2 : cs[j]? = some cs[j] := List.getElem?_eq_getElem hlt
    have s := aji (G := G) (chs := chs) (st := st) (i := (j : Int)) ht (by rw [show (j : Int) - 1 = ((j - 1 : Nat) : Int) by omega]; exact acn hc1 (by omega)) (hf.2 _ _ _ hc1 (List.getElem?_eq_getElem hv1)) (acn hc2 (by omega)) (hf.2 _ _ _ hc2 (List.getElem?_eq_getElem hv2))
    rw [aah]
    rw [s, e1]
    cases hbp : badPair st vs[j - 1] vs[j] with
    | true =>
     have ek : kpL st (vs[j - 1] :: vs[j] :: vs.drop (j + 1)) = false := by unfold kpL; rw [hbp]; rfl
     rw [ek]
     exact ⟨frK chs es st (t4 (.list cs) (.int j) (.int vs[j]) (.int vs[j - 1])), rfl, fun q => by cases q⟩
    | false =>
     obtain ⟨ρ', h1, h2⟩ := ih (j + 1) (t4 (.list cs) (.int j) (.int vs[j]) (.int vs[j - 1])) (by omega) (by omega) (.inr ⟨_, _, _, rfl⟩)
     have ek : kpL st (vs[j - 1] :: vs[j] :: vs.drop (j + 1)) = kpL st (vs.drop (j + 1 - 1)) := by
      rw [e2]
      show (!(badPair st vs[j - 1] vs[j]) && kpL st (vs[j] :: vs.drop (j + 1))) = _
      rw [hbp]; rfl
     rw [ek]
     dsimp only
     exact ⟨ρ', h1, h2⟩
  · exact ih j tail (by omega) hj ht
def okT0 (tail : List (Str × Slot)) : Prop := tail = [] ∨ ∃ c, okT c tail
set_option tactic.hygienic false
theorem ahC {tail : List (Str × Slot)} (ht : okT0 tail) : ∃ tail', okT c tail' ∧ (isTup c = false -> bindT (forT (stA dKeep.body 0)) c (frK chs es st tail) = some (frK chs es st tail')) := by
 have key : ∀ {tail tail'}, (match canSet (frK chs es st tail) "chain" && !isTup c with | true => some ((frK chs es st tail).set "chain" (.val c)) | false => none) = (match !isTup c with | true => some (frK chs es st tail') | false => none) -> (isTup c = false -> bindT (forT (stA dKeep.body 0)) c (frK chs es st tail) = some (frK chs es st tail')) := fun {tail tail'} h hc => by
  have : bindT (forT (stA dKeep.body 0)) c (frK chs es st tail) = (match canSet (frK chs es st tail) "chain" && !isTup c with | true => some ((frK chs es st tail).set "chain" (.val c)) | false => none) := by ext
  rw [this, h, hc]; rfl
 rcases ht with rfl | ⟨c', rfl | ⟨k, h, l, rfl⟩⟩
 · exact ⟨t1 c, .inl rfl, key (by ext)⟩
 · exact ⟨t1 c, .inl rfl, key (by ext)⟩
 · exact ⟨t4 c k h l, .inr ⟨k, h, l, rfl⟩, key (by ext)⟩
inductive ChOf (es : List (SS × CV)) : List CV -> List (List Int) -> Prop
 | nil : ChOf es [] []
 | cons {cs : List CV} {vs : List Int} {r : List CV} {vr : List (List Int)} (h : FlOf es cs vs) (hl : cs.length ≤ 900) (k : ChOf es r vr) : ChOf es (.list cs :: r) (vs :: vr)
theorem ahD {fn : Str -> Option FS} {cs : List CV} (hl : cs.length ≤ 900) {tail : List (Str × Slot)} (ht : okT (.list cs) tail) :
 (sem (GF fn) 8).items (GF fn) true (forT (stA kpB 0)) (forI (stA kpB 0)) (frK chs es st tail) = some (rangeC 1 cs.length, frK chs es st tail) := by
 rcases ht with rfl | ⟨k, h, l, rfl⟩
 · exact ach (x := 1) (y := cs.length) (by ext) (by ext) (by ext) (aaT (c := .list cs) (by ext) (by ext) (by ext) (by ext) (by ext) (afO (by omega))) (by ext) (acO (by omega))
 · exact ach (x := 1) (y := cs.length) (by ext) (by ext) (by ext) (aaT (c := .list cs) (by ext) (by ext) (by ext) (by ext) (by ext) (afO (by omega))) (by ext) (acO (by omega))
set_option tactic.hygienic true
theorem ajk {fn : Str -> Option FS} {vs : List Int} {cs : List CV} (hf : FlOf es cs vs) (hl : cs.length ≤ 900) {tail : List (Str × Slot)} (ht : okT0 tail) :
 ∃ ρ', (match bindT (forT (stA dKeep.body 0)) (.list cs) (frK chs es st tail) with | some ρ => (sem (GF fn) 9).xss kpB ρ | none => none) = some ((match kpL st vs with | true => .next | false => .ret (.bool false)), ρ') ∧
  (kpL st vs = true -> ∃ tail', okT0 tail' ∧ ρ' = frK chs es st tail') := by
 refine hid fun z0 => ?_
 obtain ⟨tail', ht', hb⟩ := ahC (chs := chs) (es := es) (c := .list cs) (st := st) ht
 refine z0 ?_
 rw [hb rfl]
 have hkb : kpB = [stA kpB 0] := by ext
 refine hid fun z1 => ?_
 obtain ⟨ρ', h1, h2⟩ := ajj (G := GF fn) (chs := chs) (st := st) hf hl cs.length 1 tail' (by omega) (Nat.le_refl _) ht'
 have hit := ahD (fn := fn) (chs := chs) (es := es) (st := st) hl ht'
 have hx : (sem (GF fn) 9).xs (stA kpB 0) (frK chs es st tail') = some ((match kpL st vs with | true => .next | false => .ret (.bool false)), ρ') := aa3 hit h1
 refine z1 ?_
 rw [hkb]
 refine ⟨ρ', ?_, fun q => let ⟨t, a, b⟩ := h2 q; ⟨t, .inr ⟨_, a⟩, b⟩⟩
 cases hk : kpL st vs with
 | true => rw [hk] at hx; exact aaa hx aaf
 | false => rw [hk] at hx; exact aan hx
theorem akJ {fn : Str -> Option FS} : ∀ {cc : List CV} {vv : List (List Int)}, ChOf es cc vv -> ∀ {tail : List (Str × Slot)}, okT0 tail ->
 ∃ ρ', loopL (fun c ρ => match bindT (forT (stA dKeep.body 0)) c ρ with | some ρ => (sem (GF fn) 9).xss kpB ρ | none => none) cc (frK chs es st tail) = some ((match vv.all (kpL st) with | true => .next | false => .ret (.bool false)), ρ') ∧
  (vv.all (kpL st) = true -> ∃ tail', okT0 tail' ∧ ρ' = frK chs es st tail') := by
 intro cc vv h
 induction h with
 | nil => intro tail ht; exact ⟨_, rfl, fun _ => ⟨tail, ht, rfl⟩⟩
 | @cons cs vs r vr hf hl k ih =>
  intro tail ht
  refine hid fun z0 => ?_
  obtain ⟨ρ', h1, h2⟩ := ajk (fn := fn) (chs := chs) (st := st) hf hl ht
  refine z0 ?_
  rw [aah]
  rw [h1, List.all_cons]
  cases hk : kpL st vs with
  | false => exact ⟨ρ', rfl, fun q => by simp at q⟩
  | true =>
   refine hid fun z2 => ?_
   obtain ⟨tail', ht', rfl⟩ := h2 hk
   obtain ⟨ρ'', h3, h4⟩ := ih ht'
   refine z2 ?_
   dsimp only
   rw [Bool.true_and]
   exact ⟨ρ'', h3, h4⟩
theorem keeps {fn : Str -> Option FS} {vv : List (List Int)} (h : ChOf es chs vv) (hl : chs.length ≤ 900) : runDef (GF fn) 10 dKeep [.list chs, .dict es, .bool st] [] = some (.bool (vv.all (kpL st)), .list []) := by
 obtain ⟨ρ', h1, h2⟩ := akJ (fn := fn) (chs := chs) (st := st) h (tail := []) (.inl rfl)
 have hb : dKeep.body = [stA dKeep.body 0, stA dKeep.body 1] := by ext
 have hx : (sem (GF fn) 10).xs (stA dKeep.body 0) (frK chs es st []) = some ((match vv.all (kpL st) with | true => .next | false => .ret (.bool false)), ρ') :=
  aa3 (ρ1 := frK chs es st []) (cs := chs) (aaL (ρ1 := frK chs es st []) (c := .list chs) (by ext) (by ext) rfl (Nat.ble_eq_true_of_le (by unfold LIM; lia))) h1
 have hr : ∀ ρ, (sem (GF fn) 10).xs (stA dKeep.body 1) ρ = some (.ret (.bool true), ρ) := fun ρ => by ext
 cases hk : vv.all (kpL st) with
 | false =>
  rw [hk] at hx
  exact aak (l := [("chains", .val (.list chs)), ("floor", .val (.dict es)), ("strictly", .val (.bool st))]) (by ext) (by ext) (aan hx) rfl
 | true =>
  rw [hk] at hx
  exact aak (l := [("chains", .val (.list chs)), ("floor", .val (.dict es)), ("strictly", .val (.bool st))]) (by ext) (by ext) (aaa hx (aan (hr _))) rfl
end
section
variable {G : GE} {n : Nat} {ρ ρ1 ρ2 ρ3 : CE}
set_option tactic.hygienic true
theorem agu {x : Str} {p pos : Pos} {e : Expr} {k : Mk} {o : CO} (hm : mkOf G ρ e = k) (hk : (match k with | .no => false | _ => true) = true) (h : (sem G n).make G k ρ = some (o, ρ1)) (hc : (canSet ρ1 x && noView ρ1) = true) (ho : G.owns x = true) (he : ρ1.set x (.own o) = ρ2) :
 (sem G (n + 1)).xs (.Assign [.Name x p] e pos) ρ = some (.next, ρ2) := by
 rw [aaB]
 dsimp only [stepS]
 unfold xsStep
 dsimp only [l1, l2, eName, eAttr, eSub, eTup, eCall, eSlice, List.isEmpty, asgN, asgP, asgS, augN, augS, delS]
 rw [hm]
 cases k <;> first | (cases hk; done) | (dsimp only; rw [h]; dsimp only; rw [hc]; dsimp only; rw [ho, <- he])
theorem aez {x : Str} {p pos : Pos} {e : Expr} {k : Mk} {o : CO} (hm : mkOf G ρ e = k) (hk : (match k with | .no => false | _ => true) = true) (h : (sem G n).make G k ρ = some (o, ρ1)) (hc : (canSet ρ1 x && noView ρ1) = true) (ho : G.owns x = false) (he : ρ1.set x (.val o.cv) = ρ2) :
 (sem G (n + 1)).xs (.Assign [.Name x p] e pos) ρ = some (.next, ρ2) := by
 rw [aaB]
 dsimp only [stepS]
 unfold xsStep
 dsimp only [l1, l2, eName, eAttr, eSub, eTup, eCall, eSlice, List.isEmpty, asgN, asgP, asgS, augN, augS, delS]
 rw [hm]
 cases k <;> first | (cases hk; done) | (dsimp only; rw [h]; dsimp only; rw [hc]; dsimp only; rw [ho, <- he])
set_option tactic.hygienic false
theorem afQ {S : SM} {o e : Expr} {x y : SS} (h1 : S.ev o ρ = some (.val (.str x), ρ)) (h2 : S.ev e ρ = some (.val (.str y), ρ)) (hb : x.b + 2 ≤ LIM) (hy : (y.s.length == 0) = false) : S.make G (.split o e) ρ = some (.list (splitC x y.s), ρ) := by
 unfold SM.make
 dsimp only
 unfold SM.evv2
 rw [h1]
 dsimp only
 rw [h2]
 dsimp only [cvStr]
 rw [Nat.ble_eq_true_of_le hb, hy]
 rfl
set_option tactic.hygienic true
theorem ahE {z m : Str} {p apos pos' pos : Pos} {o e : Expr} {x y : SS} (hm : (m == nSplit && methOk o 1 apos pos') = true) (h1 : (sem G n).ev o ρ = some (.val (.str x), ρ)) (h2 : (sem G n).ev e ρ = some (.val (.str y), ρ)) (hb : x.b + 2 ≤ LIM) (hy : (y.s.length == 0) = false)
 (hc : (canSet ρ z && noView ρ) = true) (ho : G.owns z = true) (he : ρ.set z (.own (.list (splitC x y.s))) = ρ2) : (sem G (n + 1)).xs (.Assign [.Name z p] (.Call (.Attribute o m apos) [e] [] pos') pos) ρ = some (.next, ρ2) := by
 have hk : mkOf G ρ (.Call (.Attribute o m apos) [e] [] pos') = .split o e := by unfold mkOf; dsimp only [l1, List.isEmpty, eName, eAttr]; rw [hm]
 exact agu hk rfl (afQ h1 h2 hb hy) hc ho he
theorem agv {t : Expr} {pos : Pos} (h : (sem G n).it t ρ = some (true, ρ1)) : (sem G (n + 1)).xs (.Assert t none pos) ρ = some (.next, ρ1) := by
 rw [aaB]
 dsimp only [stepS]
 unfold xsStep
 dsimp only [l1, l2, eName, eAttr, eSub, eTup, eCall, eSlice, List.isEmpty, asgN, asgP, asgS, augN, augS, delS]
 rw [h]
set_option tactic.hygienic false
theorem ab6 {x : Str} {p : Pos} {c : CV} {t : Bool} (h : (sem G n).ev (.Name x p) ρ = some (.val c, ρ)) (ht : truthC c = some t) : (sem G (n + 1)).it (.Name x p) ρ = some (t, ρ) := by
 rw [aaB]
 dsimp only [stepS]
 unfold itStep
 dsimp only [l1, l2]
 rw [adb h rfl]
 dsimp only
 rw [ht]
theorem acq {o : Expr} {m : Str} {args : List Expr} {apos pos : Pos} {c : CV} {t : Bool} (h : (sem G n).ev (.Call (.Attribute o m apos) args [] pos) ρ = some (.val c, ρ)) (ht : truthC c = some t) : (sem G (n + 1)).it (.Call (.Attribute o m apos) args [] pos) ρ = some (t, ρ) := by
 rw [aaB]
 dsimp only [stepS]
 unfold itStep
 dsimp only [l1, l2]
 rw [adb h rfl]
 dsimp only
 rw [ht]
theorem abh {w : SS} (h : w.b ≤ 16777216) : truthC (.str w) = some (!(w.s.length == 0)) := by
 unfold truthC
 dsimp only
 rw [Nat.ble_eq_true_of_le h]
set_option tactic.hygienic true
theorem aiy {d : Str} {i : Expr} {dp ip pos : Pos} {o0 o' : CO} {kv : CV} (hn : nameOk d = true) (h0 : ownAt ρ d = some o0) (h1 : (sem G n).ev i ρ = some (.val kv, ρ)) (h2 : delC o0 kv = some o') (he : ρ.set d (reown (ρ.get d) o') = ρ1) :
 (sem G (n + 1)).xs (.Delete [.Subscript (.Name d dp) i ip] pos) ρ = some (.next, ρ1) := by
 rw [aaB]
 dsimp only [stepS]
 unfold xsStep
 dsimp only [l1, l2, eName, eAttr, eSub, eTup, eCall, eSlice, List.isEmpty, asgN, asgP, asgS, augN, augS, delS]
 rw [hn, h0]
 dsimp only
 rw [h1]
 dsimp only
 rw [h0]
 dsimp only
 rw [h2]
 dsimp only
 rw [he]
theorem afc {x : Str} {op : Operator} {e : Expr} {p pos : Pos} {a b c : CV} (hn : (nameOk x && isVar (ρ.kind x)) = true) (hg : ρ.get x = some (.val a)) (h : (sem G n).ev e ρ = some (.val b, ρ)) (hc : augC op a b = some c) (hs : canSet ρ x = true) (he : ρ.set x (.val c) = ρ1) :
 (sem G (n + 1)).xs (.AugAssign (.Name x p) op e pos) ρ = some (.next, ρ1) := by
 rw [aaB]
 dsimp only [stepS]
 unfold xsStep
 dsimp only [l1, l2, eName, eAttr, eSub, eTup, eCall, eSlice, List.isEmpty, asgN, asgP, asgS, augN, augS, delS]
 rw [hn, hg]
 dsimp only
 rw [h]
 dsimp only
 rw [hc]
 dsimp only
 rw [hs, he]
set_option tactic.hygienic false
theorem ajl {v x : Expr} {op : UnaryOp} {q p : Pos} {a b c : CV} (h : (sem G n).ev2 v (.UnaryOp op x q) ρ = some (a, b, ρ1)) (hc : subC a b = some c) : (sem G (n + 1)).ev (.Subscript v (.UnaryOp op x q) p) ρ = some (.val c, ρ1) := by
 rw [aaB]
 dsimp only [stepS]
 unfold evStep evN
 dsimp only [mkOf, l1, l2, eName, eAttr, eSub, eTup, eCall, eSlice, List.isEmpty]
 rw [h]
 dsimp only
 rw [hc]
theorem adz {v : Expr} {k : Const} {kd : Nat} {q p : Pos} {a b c : CV} (h : (sem G n).ev2 v (.Constant k kd q) ρ = some (a, b, ρ1)) (hc : subC a b = some c) : (sem G (n + 1)).ev (.Subscript v (.Constant k kd q) p) ρ = some (.val c, ρ1) := by
 rw [aaB]
 dsimp only [stepS]
 unfold evStep evN
 dsimp only [mkOf, l1, l2, eName, eAttr, eSub, eTup, eCall, eSlice, List.isEmpty]
 rw [h]
 dsimp only
 rw [hc]
end
set_option tactic.hygienic false
theorem ahF {l : List CV} {c : CV} (hl : l.length ≤ 1000) : subC (.list (l ++ [c])) (.int (-1)) = some c := by
 show subAtList (l ++ [c]) (-1) = some c
 have e : seqIndex? (-1) (l ++ [c]).length = some l.length := by
  unfold seqIndex?
  simp
  omega
 have e2 : Nat.ble (l ++ [c]).length LIM = true := Nat.ble_eq_true_of_le (by rw [List.length_append]; unfold LIM; simp; omega)
 unfold subAtList
 rw [e]; dsimp only; rw [e2]; dsimp only
 simp
theorem agw {l : List CV} {c : CV} (hl : l.length ≤ 1000) : delC (.list (c :: l)) (.int 0) = some (.list l) := by
 have e : seqIndex? 0 (c :: l).length = some 0 := by
  unfold seqIndex?
  simp
 have e2 : Nat.ble (c :: l).length LIM = true := Nat.ble_eq_true_of_le (by rw [List.length_cons]; unfold LIM; omega)
 unfold delC
 dsimp only [cvInt]
 rw [e]; dsimp only; rw [e2]; rfl
theorem ahG {l : List CV} {c : CV} (hl : l.length ≤ 1000) : delC (.list (l ++ [c])) (.int (-1)) = some (.list l) := by
 have e : seqIndex? (-1) (l ++ [c]).length = some l.length := by
  unfold seqIndex?
  simp
  omega
 have e2 : Nat.ble (l ++ [c]).length LIM = true := Nat.ble_eq_true_of_le (by rw [List.length_append]; unfold LIM; simp; omega)
 unfold delC
 dsimp only [cvInt]
 rw [e]; dsimp only; rw [e2]; dsimp only
 congr 2
 simp [List.eraseIdx_append_of_length_le]
def dEM : DD := ddG "_ellipsis_match" none
noncomputable def dots : Str := "..."
def frE (w g : SS) (tail : List (Str × Slot)) : CE := ⟨dEM.scope, ("want", .val (.str w)) :: ("got", .val (.str g)) :: tail⟩
noncomputable def tw (ws : Slot) : List (Str × Slot) := [("ws", ws)]
noncomputable def te (ws : Slot) (ep sp : Int) : List (Str × Slot) := [("ws", ws), ("endpos", .val (.int ep)), ("startpos", .val (.int sp))]
noncomputable def tf (ws : Slot) (ep sp : Int) (w : SS) : List (Str × Slot) := [("ws", ws), ("endpos", .val (.int ep)), ("startpos", .val (.int sp)), ("w", .val (.str w))]
noncomputable def sv (l : List SS) : List CV := l.map CV.str
section
variable {fn : Str -> Option FS} {w g x : SS} {ws : List SS} {ep sp : Int}
set_option tactic.hygienic false
theorem akK (hin : (Builtin.Str.occurrences w.s dots 0 w.s.length 1).isEmpty = true) : runDef (GF fn) 12 dEM [.str w, .str g] [] = some (.bool (w.s == g.s), .list []) := by
 have hc : cmpC .NotIn (.str (SS.of "...")) (.str w) = some true := by
  show onot (some (!(Builtin.Str.occurrences w.s dots 0 w.s.length 1).isEmpty)) = _
  rw [hin]; rfl
 have s0 : (sem (GF fn) 12).xs (stA dEM.body 0) (frE w g []) = some (.ret (.bool (w.s == g.s)), frE w g []) :=
  aaM (ρ1 := frE w g []) (aaH (x := .str (SS.of "...")) (y := .str w) (by ext) (by ext) hc) (aan (by ext))
 exact aak (l := [("want", .val (.str w)), ("got", .val (.str g))]) (by ext) (by ext) (aan s0) rfl
set_option tactic.hygienic true
theorem amB (hin : (Builtin.Str.occurrences w.s dots 0 w.s.length 1).isEmpty = false) : (sem (GF fn) 12).xs (stA dEM.body 0) (frE w g []) = some (.next, frE w g []) := by
 have hc : cmpC .NotIn (.str (SS.of "...")) (.str w) = some false := by
  show onot (some (!(Builtin.Str.occurrences w.s dots 0 w.s.length 1).isEmpty)) = _
  rw [hin]; rfl
 exact aaD (ρ1 := frE w g []) (aaH (x := .str (SS.of "...")) (y := .str w) (by ext) (by ext) hc) (by ext)
theorem amC (hb : w.b + 2 ≤ LIM) : (sem (GF fn) 12).xs (stA dEM.body 1) (frE w g []) = some (.next, frE w g (tw (.own (.list (splitC w dots))))) :=
 ahE (x := w) (y := SS.of "...") (by ext) (by ext) (by ext) hb (by ext) (by ext) (by ext) (by ext)
theorem amD (h2 : 2 ≤ ws.length) (hl : ws.length ≤ 900) : (sem (GF fn) 12).xs (stA dEM.body 2) (frE w g (tw (.own (.list (sv ws))))) = some (.next, frE w g (tw (.own (.list (sv ws))))) := by
 have hlen : (sv ws).length = ws.length := by unfold sv; rw [List.length_map]
 refine agv (aaH (x := .int (sv ws).length) (y := .int 2) (by ext) (aa1 (a := .val (.int (sv ws).length)) (b := .val (.int 2)) (aaT (c := .list (sv ws)) (by ext) (by ext) (by ext) (by ext) (by ext) (afO (by omega))) (by ext) rfl rfl) ?_)
 show some (decide (((sv ws).length : Int) ≥ 2)) = some true
 rw [decide_eq_true (by omega)]
set_option tactic.hygienic false
theorem abX (hl : x.s.length ≤ 100000) : bltC nLen (.str x) = some (.int x.s.length) := by
 have e : (nLen == nLen) = true := by simp
 unfold bltC
 rw [e]
 dsimp only [lenC]
 have : decide ((x.s.length : Int) ≤ 1000000) = true := decide_eq_true (by omega)
 rw [this]
set_option tactic.hygienic true
theorem amE (hg : g.s.length ≤ 1000) : (sem (GF fn) 12).xs (stA dEM.body 3) (frE w g (tw (.own (.list (sv ws))))) = some (.next, frE w g (te (.own (.list (sv ws))) g.s.length 0)) :=
 aex (avs := [.val (.int 0), .val (.int g.s.length)]) (c := .int 0) (d := .int g.s.length) (ρ1 := frE w g (tw (.own (.list (sv ws))))) (ρ2 := frE w g (tw (.own (.list (sv ws))))) (by ext)
  (aac (by ext) (aac (aaT (c := .str g) (by ext) (by ext) (by ext) (by ext) (by ext) (abX (by omega))) aad)) rfl (by ext) (by ext)
theorem amF (hl : ws.length ≤ 900) : (sem (GF fn) 12).xs (stA dEM.body 4) (frE w g (te (.own (.list (sv (x :: ws)))) ep sp)) = some (.next, frE w g (tf (.own (.list (sv (x :: ws)))) ep sp x)) :=
 aaG (ρ1 := frE w g (te (.own (.list (sv (x :: ws)))) ep sp)) (by ext) (by ext) (adz (a := .list (sv (x :: ws))) (b := .int 0) (by ext) (acn (m := 0) rfl (by unfold sv; simp; omega))) (by ext) (by ext)
theorem agx (hx : (x.s.length == 0) = false) (hb : x.b ≤ 16777216) (hs : Txt.startswith g.s x.s = true) (hl : ws.length ≤ 900) (hxl : x.s.length ≤ 1000) :
 (sem (GF fn) 12).xs (stA dEM.body 5) (frE w g (tf (.own (.list (sv (x :: ws)))) ep sp x)) = some (.next, frE w g (tf (.own (.list (sv ws))) ep x.s.length x)) := by
 refine aaM (ρ1 := frE w g (tf (.own (.list (sv (x :: ws)))) ep sp x)) (ab6 (c := .str x) (by ext) (by rw [abh hb, hx]; rfl)) (aaa (ρ1 := frE w g (tf (.own (.list (sv ws))) ep x.s.length x)) (aaM (ρ1 := frE w g (tf (.own (.list (sv (x :: ws)))) ep sp x)) ?_ (aaa (ρ1 := frE w g (tf (.own (.list (sv (x :: ws)))) ep x.s.length x)) ?_ (aaa (ρ1 := frE w g (tf (.own (.list (sv ws))) ep x.s.length x)) ?_ aaf))) aaf)
 · exact acq (c := .bool true) (aa9 (ov := .val (.str g)) (k := .startswith) (avs := [.val (.str x)]) (cs := [.str x]) (c0 := .str g) (by ext) (by ext) (by ext) (by ext) (by ext) rfl (aac (by ext) aad) (by ext) (by show some (CV.bool (Txt.startswith g.s x.s)) = _; rw [hs])) rfl
 · exact aaG (c := .int x.s.length) (ρ1 := frE w g (tf (.own (.list (sv (x :: ws)))) ep sp x)) (by ext) (by ext) (aaT (c := .str x) (by ext) (by ext) (by ext) (by ext) (by ext) (abX (by omega))) (by ext) (by ext)
 · exact aiy (o0 := .list (sv (x :: ws))) (o' := .list (sv ws)) (kv := .int 0) (by ext) (by ext) (by ext) (agw (by rw [List.length_map]; omega)) (by ext)
set_option tactic.hygienic false
theorem agy (hx : (x.s.length == 0) = false) (hb : x.b ≤ 16777216) (hs : Txt.startswith g.s x.s = false) :
 (sem (GF fn) 12).xs (stA dEM.body 5) (frE w g (tf (.own (.list (sv (x :: ws)))) ep sp x)) = some (.ret (.bool false), frE w g (tf (.own (.list (sv (x :: ws)))) ep sp x)) := by
 refine aaM (ρ1 := frE w g (tf (.own (.list (sv (x :: ws)))) ep sp x)) (ab6 (c := .str x) (by ext) (by rw [abh hb, hx]; rfl)) (aan (aaD (ρ1 := frE w g (tf (.own (.list (sv (x :: ws)))) ep sp x)) ?_ (by ext)))
 exact acq (c := .bool false) (aa9 (ov := .val (.str g)) (k := .startswith) (avs := [.val (.str x)]) (cs := [.str x]) (c0 := .str g) (by ext) (by ext) (by ext) (by ext) (by ext) rfl (aac (by ext) aad) (by ext) (by show some (CV.bool (Txt.startswith g.s x.s)) = _; rw [hs])) rfl
set_option tactic.hygienic true
theorem agz (hx : (x.s.length == 0) = true) (hb : x.b ≤ 16777216) :
 (sem (GF fn) 12).xs (stA dEM.body 5) (frE w g (tf (.own (.list (sv (x :: ws)))) ep sp x)) = some (.next, frE w g (tf (.own (.list (sv (x :: ws)))) ep sp x)) :=
 aaD (ρ1 := frE w g (tf (.own (.list (sv (x :: ws)))) ep sp x)) (ab6 (c := .str x) (by ext) (by rw [abh hb, hx]; rfl)) (by ext)
set_option tactic.hygienic false
theorem agA : sv (ws ++ [x]) = sv ws ++ [.str x] := by unfold sv; rw [List.map_append]; rfl
set_option tactic.hygienic true
theorem amG {y : SS} (hl : ws.length ≤ 900) : (sem (GF fn) 12).xs (stA dEM.body 6) (frE w g (tf (.own (.list (sv (ws ++ [x])))) ep sp y)) = some (.next, frE w g (tf (.own (.list (sv (ws ++ [x])))) ep sp x)) := by
 have hs : subC (.list (sv (ws ++ [x]))) (.int (-1)) = some (.str x) := by rw [agA]; exact ahF (by unfold sv; rw [List.length_map]; omega)
 exact aaG (ρ1 := frE w g (tf (.own (.list (sv (ws ++ [x])))) ep sp y)) (by ext) (by ext) (ajl (a := .list (sv (ws ++ [x]))) (b := .int (-1)) (by ext) hs) (by ext) (by ext)
theorem ajm (hx : (x.s.length == 0) = false) (hb : x.b ≤ 16777216) (hs : Txt.endswith g.s x.s = true) (hl : ws.length ≤ 900) (hxl : x.s.length ≤ 1000) :
 (sem (GF fn) 12).xs (stA dEM.body 7) (frE w g (tf (.own (.list (sv (ws ++ [x])))) ep sp x)) = some (.next, frE w g (tf (.own (.list (sv ws))) (ep - x.s.length) sp x)) := by
 have hd : delC (.list (sv (ws ++ [x]))) (.int (-1)) = some (.list (sv ws)) := by rw [agA]; exact ahG (by unfold sv; rw [List.length_map]; omega)
 refine aaM (ρ1 := frE w g (tf (.own (.list (sv (ws ++ [x])))) ep sp x)) (ab6 (c := .str x) (by ext) (by rw [abh hb, hx]; rfl)) (aaa (ρ1 := frE w g (tf (.own (.list (sv ws))) (ep - x.s.length) sp x)) (aaM (ρ1 := frE w g (tf (.own (.list (sv (ws ++ [x])))) ep sp x)) ?_ (aaa (ρ1 := frE w g (tf (.own (.list (sv (ws ++ [x])))) (ep - x.s.length) sp x)) ?_ (aaa (ρ1 := frE w g (tf (.own (.list (sv ws))) (ep - x.s.length) sp x)) ?_ aaf))) aaf)
 · exact acq (c := .bool true) (aa9 (ov := .val (.str g)) (k := .endswith) (avs := [.val (.str x)]) (cs := [.str x]) (c0 := .str g) (by ext) (by ext) (by ext) (by ext) (by ext) rfl (aac (by ext) aad) (by ext) (by show some (CV.bool (Txt.endswith g.s x.s)) = _; rw [hs])) rfl
 · exact afc (a := .int ep) (b := .int x.s.length) (c := .int (ep - x.s.length)) (by ext) (by ext) (aaT (c := .str x) (by ext) (by ext) (by ext) (by ext) (by ext) (abX (by omega))) (by ext) (by ext) (by ext)
 · exact aiy (o0 := .list (sv (ws ++ [x]))) (o' := .list (sv ws)) (kv := .int (-1)) (by ext) (by ext) (by ext) hd (by ext)
set_option tactic.hygienic false
theorem ajn (hx : (x.s.length == 0) = false) (hb : x.b ≤ 16777216) (hs : Txt.endswith g.s x.s = false) :
 (sem (GF fn) 12).xs (stA dEM.body 7) (frE w g (tf (.own (.list (sv ws))) ep sp x)) = some (.ret (.bool false), frE w g (tf (.own (.list (sv ws))) ep sp x)) := by
 refine aaM (ρ1 := frE w g (tf (.own (.list (sv ws))) ep sp x)) (ab6 (c := .str x) (by ext) (by rw [abh hb, hx]; rfl)) (aan (aaD (ρ1 := frE w g (tf (.own (.list (sv ws))) ep sp x)) ?_ (by ext)))
 exact acq (c := .bool false) (aa9 (ov := .val (.str g)) (k := .endswith) (avs := [.val (.str x)]) (cs := [.str x]) (c0 := .str g) (by ext) (by ext) (by ext) (by ext) (by ext) rfl (aac (by ext) aad) (by ext) (by show some (CV.bool (Txt.endswith g.s x.s)) = _; rw [hs])) rfl
set_option tactic.hygienic true
theorem ajo (hx : (x.s.length == 0) = true) (hb : x.b ≤ 16777216) :
 (sem (GF fn) 12).xs (stA dEM.body 7) (frE w g (tf (.own (.list (sv ws))) ep sp x)) = some (.next, frE w g (tf (.own (.list (sv ws))) ep sp x)) :=
 aaD (ρ1 := frE w g (tf (.own (.list (sv ws))) ep sp x)) (ab6 (c := .str x) (by ext) (by rw [abh hb, hx]; rfl)) (by ext)
set_option tactic.hygienic false
theorem akL (h : decide (sp > ep) = true) : (sem (GF fn) 12).xs (stA dEM.body 8) (frE w g (tf (.own (.list (sv ws))) ep sp x)) = some (.ret (.bool false), frE w g (tf (.own (.list (sv ws))) ep sp x)) :=
 aaM (ρ1 := frE w g (tf (.own (.list (sv ws))) ep sp x)) (aaH (x := .int sp) (y := .int ep) (by ext) (by ext) (by show some (decide (sp > ep)) = _; rw [h])) (by ext)
set_option tactic.hygienic true
theorem aiz (h : decide (sp > ep) = false) : (sem (GF fn) 12).xs (stA dEM.body 8) (frE w g (tf (.own (.list (sv ws))) ep sp x)) = some (.next, frE w g (tf (.own (.list (sv ws))) ep sp x)) :=
 aaD (ρ1 := frE w g (tf (.own (.list (sv ws))) ep sp x)) (aaH (x := .int sp) (y := .int ep) (by ext) (by ext) (by show some (decide (sp > ep)) = _; rw [h])) (by ext)
def emB : List Stmt := forB (stA dEM.body 9)
noncomputable def emLoop (g : SS) (ep : Int) : List SS -> Int -> Bool
 | [], _ => true
 | w :: r, sp => match decide (findC g w sp ep < 0) with
  | true => false
  | false => emLoop g ep r (findC g w sp ep + w.s.length)
set_option tactic.hygienic false
theorem aaZ (g : SS) (ep : Int) (w : SS) (r : List SS) (sp : Int) : emLoop g ep (w :: r) sp = match decide (findC g w sp ep < 0) with | true => false | false => emLoop g ep r (findC g w sp ep + w.s.length) := rfl
theorem ajp {y : SS} {c : Slot} : bindT (forT (stA dEM.body 9)) (.str x) (frE w g (tf c ep sp y)) = some (frE w g (tf c ep sp x)) := by ext
set_option tactic.hygienic true
theorem agB {c : List CV} (hs : (small sp && small ep) = true) : (sem (GF fn) 11).xs (stA emB 0) (frE w g (tf (.val (.list c)) ep sp x)) = some (.next, frE w g (tf (.val (.list c)) ep (findC g x sp ep) x)) := by
 refine aaG (c := .int (findC g x sp ep)) (ρ1 := frE w g (tf (.val (.list c)) ep sp x)) (by ext) (by ext) (aa9 (ov := .val (.str g)) (k := .find) (avs := [.val (.str x), .val (.int sp), .val (.int ep)]) (cs := [.str x, .int sp, .int ep]) (c0 := .str g) (by ext) (by ext) (by ext) (by ext) (by ext) rfl (aac (by ext) (aac (by ext) (aac (by ext) aad))) (by ext) ?_) (by ext) (by ext)
 show (match small sp && small ep with | true => some (CV.int (findC g x sp ep)) | false => none) = _
 rw [hs]
theorem akM {c : List CV} (hx : x.s.length ≤ 1000) : (sem (GF fn) 11).xs (stA emB 2) (frE w g (tf (.val (.list c)) ep sp x)) = some (.next, frE w g (tf (.val (.list c)) ep (sp + x.s.length) x)) :=
 afc (a := .int sp) (b := .int x.s.length) (c := .int (sp + x.s.length)) (by ext) (by ext) (aaT (c := .str x) (by ext) (by ext) (by ext) (by ext) (by ext) (abX (by omega))) (by ext) (by ext) (by ext)
set_option tactic.hygienic false
theorem ajq {c : List CV} (h : decide (sp < 0) = true) : (sem (GF fn) 11).xs (stA emB 1) (frE w g (tf (.val (.list c)) ep sp x)) = some (.ret (.bool false), frE w g (tf (.val (.list c)) ep sp x)) :=
 aaM (ρ1 := frE w g (tf (.val (.list c)) ep sp x)) (aaH (x := .int sp) (y := .int 0) (by ext) (by ext) (by show some (decide (sp < 0)) = _; rw [h])) (by ext)
set_option tactic.hygienic true
theorem ajr {c : List CV} (h : decide (sp < 0) = false) : (sem (GF fn) 11).xs (stA emB 1) (frE w g (tf (.val (.list c)) ep sp x)) = some (.next, frE w g (tf (.val (.list c)) ep sp x)) :=
 aaD (ρ1 := frE w g (tf (.val (.list c)) ep sp x)) (aaH (x := .int sp) (y := .int 0) (by ext) (by ext) (by show some (decide (sp < 0)) = _; rw [h])) (by ext)
theorem ajs {c : List CV} (hep : small ep = true) (hfind : ∀ w' sp', findC g w' sp' ep ≤ 1000) : ∀ (ws : List SS) (sp : Int) (y : SS), (∀ v ∈ ws, v.s.length ≤ 1000) -> 0 ≤ sp -> sp ≤ 2000 ->
 ∃ ρ', loopL (fun c ρ => match bindT (forT (stA dEM.body 9)) c ρ with | some ρ => (sem (GF fn) 11).xss emB ρ | none => none) (sv ws) (frE w g (tf (.val (.list c)) ep sp y)) = some ((match emLoop g ep ws sp with | true => .next | false => .ret (.bool false)), ρ') := by
 intro ws
 induction ws with
 | nil => intro sp y _ _ _; exact ⟨_, rfl⟩
 | cons x r ih =>
  intro sp y hl h0 h1
  have hb : emB = [stA emB 0, stA emB 1, stA emB 2] := by ext
  have hss : (small sp && small ep) = true := by
   rw [hep, Bool.and_true]
   unfold small
   rw [decide_eq_true (by omega), decide_eq_true (by omega)]; rfl
  have step : (match bindT (forT (stA dEM.body 9)) (.str x) (frE w g (tf (.val (.list c)) ep sp y)) with | some ρ => (sem (GF fn) 11).xss emB ρ | none => none) = match decide (findC g x sp ep < 0) with
   | true => some (.ret (.bool false), frE w g (tf (.val (.list c)) ep (findC g x sp ep) x))
   | false => some (.next, frE w g (tf (.val (.list c)) ep (findC g x sp ep + x.s.length) x)) := by
   rw [ajp, hb]
   cases hd : decide (findC g x sp ep < 0) with
   | true => exact aaa (agB hss) (aan (ajq hd))
   | false => exact aaa (agB hss) (aaa (ajr hd) (aaa (akM (hl x (.head _))) aaf))
  show ∃ ρ', loopL _ (.str x :: sv r) _ = _
  rw [aah, aaZ]
  rw [step]
  cases hd : decide (findC g x sp ep < 0) with
  | true => exact ⟨_, rfl⟩
  | false =>
   have hf := hfind x sp
   have hx := hl x (.head _)
   have : ¬ findC g x sp ep < 0 := of_decide_eq_false hd
   by_cases hle : findC g x sp ep + x.s.length ≤ 2000
   · exact ih _ x (fun v hv => hl v (.tail _ hv)) (by omega) hle
   · omega
end
set_option tactic.hygienic true
theorem ahH (g w : SS) (i j : Int) : findC g w i j ≤ g.s.length := by
 unfold findC
 split
 · rename_i k r h
   have hm : k ∈ Builtin.Str.occurrences g.s w.s (fromIndex g.s.length i) (min g.s.length (fromIndex g.s.length j)) 1 := by rw [h]; exact .head _
   have := (StrLaws.occ_spec _ _ _ _ _ k hm).1
   omega
 · omega
noncomputable def emP (g x0 : SS) (mid : List SS) (xk : SS) : Bool := match x0.s.length == 0, Txt.startswith g.s x0.s with
 | false, false => false
 | a, _ => match xk.s.length == 0, Txt.endswith g.s xk.s with
  | false, false => false
  | b, _ => match decide ((match a with | true => (0 : Int) | false => x0.s.length) > (match b with | true => (g.s.length : Int) | false => g.s.length - xk.s.length)) with
   | true => false
   | false => emLoop g (match b with | true => (g.s.length : Int) | false => g.s.length - xk.s.length) ((match a with | true => [x0] | false => []) ++ mid ++ (match b with | true => [xk] | false => [])) (match a with | true => (0 : Int) | false => x0.s.length)
section
variable {fn : Str -> Option FS} {w g : SS}
set_option tactic.hygienic true
theorem agC {ws : List SS} {ep sp : Int} {x : SS} (h1 : ∀ v ∈ ws, v.s.length ≤ 1000) (hep : small ep = true) (hg : g.s.length ≤ 1000) (h0 : 0 ≤ sp) (h2 : sp ≤ 2000) (hl : ws.length ≤ 900) :
 ∃ ρ', (sem (GF fn) 12).xss [stA dEM.body 8, stA dEM.body 9, stA dEM.body 10] (frE w g (tf (.own (.list (sv ws))) ep sp x)) = some (.ret (.bool (match decide (sp > ep) with | true => false | false => emLoop g ep ws sp)), ρ') := by
 cases hd : decide (sp > ep) with
 | true => exact ⟨_, aan (akL hd)⟩
 | false =>
  obtain ⟨ρ', hloop⟩ := ajs (fn := fn) (w := w) (g := g) (ep := ep) (c := sv ws) hep (fun w' sp' => Int.le_trans (ahH _ _ _ _) (by omega)) ws sp x h1 h0 h2
  have h9 : (sem (GF fn) 12).xs (stA dEM.body 9) (frE w g (tf (.own (.list (sv ws))) ep sp x)) = some ((match emLoop g ep ws sp with | true => .next | false => .ret (.bool false)), ρ') :=
   aa3 (ρ1 := frE w g (tf (.val (.list (sv ws))) ep sp x)) (cs := sv ws) (aaL (ρ1 := frE w g (tf (.val (.list (sv ws))) ep sp x)) (c := .list (sv ws)) (by ext) (by ext) rfl (Nat.ble_eq_true_of_le (by unfold sv LIM; rw [List.length_map]; omega))) hloop
  have hr : ∀ ρ, (sem (GF fn) 12).xs (stA dEM.body 10) ρ = some (.ret (.bool true), ρ) := fun ρ => by ext
  cases he : emLoop g ep ws sp with
  | false => rw [he] at h9; exact ⟨_, aaa (aiz hd) (aan h9)⟩
  | true => rw [he] at h9; exact ⟨_, aaa (aiz hd) (aaa h9 (aan (hr _)))⟩
theorem akN {x0 xk : SS} {mid : List SS} (hin : (Builtin.Str.occurrences w.s dots 0 w.s.length 1).isEmpty = false) (hsp : splitC w dots = sv (x0 :: (mid ++ [xk]))) (hw : w.b + 2 ≤ LIM) (hg : g.s.length ≤ 1000)
 (hl : ∀ v ∈ x0 :: (mid ++ [xk]), v.s.length ≤ 1000 ∧ v.b ≤ 16777216) (hm : mid.length ≤ 800) : runDef (GF fn) 12 dEM [.str w, .str g] [] = some (.bool (emP g x0 mid xk), .list []) := by
 have hx0 := hl x0 (.head _)
 have hxk := hl xk (by simp)
 have hlen : (x0 :: (mid ++ [xk])).length = mid.length + 2 := by simp
 have hs1 := amC (fn := fn) (w := w) (g := g) hw
 rw [hsp] at hs1
 have hb : dEM.body = [stA dEM.body 0, stA dEM.body 1, stA dEM.body 2, stA dEM.body 3, stA dEM.body 4, stA dEM.body 5, stA dEM.body 6, stA dEM.body 7] ++ [stA dEM.body 8, stA dEM.body 9, stA dEM.body 10] := by ext
 have fin : ∀ {r : Bool} {ρ'}, (sem (GF fn) 12).xss dEM.body (frE w g []) = some (.ret (.bool r), ρ') -> runDef (GF fn) 12 dEM [.str w, .str g] [] = some (.bool r, .list []) := fun h =>
  aak (l := [("want", .val (.str w)), ("got", .val (.str g))]) (by ext) (by ext) h rfl
 have head : ∀ {q}, (sem (GF fn) 12).xss ([stA dEM.body 5, stA dEM.body 6, stA dEM.body 7] ++ [stA dEM.body 8, stA dEM.body 9, stA dEM.body 10]) (frE w g (tf (.own (.list (sv (x0 :: (mid ++ [xk]))))) g.s.length 0 x0)) = q -> (sem (GF fn) 12).xss dEM.body (frE w g []) = q := fun h => by
  rw [hb]
  exact aaa (amB hin) (aaa hs1 (aaa (amD (by omega) (by omega)) (aaa (amE hg) (aaa (amF (by simp; omega)) h))))
 have mid1 : ∀ (a : Bool) (l1 : List SS) (sp : Int), (sem (GF fn) 12).xs (stA dEM.body 5) (frE w g (tf (.own (.list (sv (x0 :: (mid ++ [xk]))))) g.s.length 0 x0)) = some (.next, frE w g (tf (.own (.list (sv (l1 ++ [xk])))) g.s.length sp x0)) ->
  (∀ v ∈ l1, v.s.length ≤ 1000 ∧ v.b ≤ 16777216) -> 0 ≤ sp -> sp ≤ 1000 -> l1.length ≤ 801 ->
  ∀ r, r = (match xk.s.length == 0, Txt.endswith g.s xk.s with
   | false, false => false
   | b, _ => match decide (sp > (match b with | true => (g.s.length : Int) | false => g.s.length - xk.s.length)) with
    | true => false
    | false => emLoop g (match b with | true => (g.s.length : Int) | false => g.s.length - xk.s.length) (l1 ++ (match b with | true => [xk] | false => [])) sp) ->
  ∃ ρ', (sem (GF fn) 12).xss ([stA dEM.body 5, stA dEM.body 6, stA dEM.body 7] ++ [stA dEM.body 8, stA dEM.body 9, stA dEM.body 10]) (frE w g (tf (.own (.list (sv (x0 :: (mid ++ [xk]))))) g.s.length 0 x0)) = some (.ret (.bool r), ρ') := by
  intro a l1 sp h5 hl1 h0 h1 hll r hr
  have h6 := amG (fn := fn) (w := w) (g := g) (x := xk) (ws := l1) (ep := g.s.length) (sp := sp) (y := x0) (by omega)
  cases hB : (xk.s.length == 0) with
  | true =>
   rw [hB] at hr
   obtain ⟨ρ', h8⟩ := agC (fn := fn) (w := w) (g := g) (ws := l1 ++ [xk]) (ep := g.s.length) (sp := sp) (x := xk) (fun v hv => by
    rcases List.mem_append.mp hv with q | q
    · exact (hl1 v q).1
    · rw [List.mem_singleton.mp q]; exact hxk.1) (acO hg) hg h0 (by omega) (by simp; omega)
   refine ⟨ρ', ?_⟩
   rw [hr]
   refine (aaa h5 (aaa h6 (aaa (ajo hB hxk.2) h8))).trans ?_
   cases Txt.endswith g.s xk.s <;> rfl
  | false =>
   rw [hB] at hr
   cases hE : Txt.endswith g.s xk.s with
   | false =>
    rw [hE] at hr
    rw [hr]
    exact ⟨_, aaa h5 (aaa h6 (aan (ajn hB hxk.2 hE)))⟩
   | true =>
    rw [hE] at hr
    have hsm : small ((g.s.length : Int) - xk.s.length) = true := by
     have := hxk.1
     unfold small
     rw [decide_eq_true (by omega), decide_eq_true (by omega)]; rfl
    obtain ⟨ρ', h8⟩ := agC (fn := fn) (w := w) (g := g) (ws := l1) (ep := (g.s.length : Int) - xk.s.length) (sp := sp) (x := xk) (fun v hv => (hl1 v hv).1) hsm hg h0 (by omega) (by omega)
    refine ⟨ρ', ?_⟩
    rw [hr]
    refine (aaa h5 (aaa h6 (aaa (ajm hB hxk.2 hE (by omega) hxk.1) h8))).trans ?_
    simp only [List.append_nil]
 have hmid : ∀ v ∈ mid, v.s.length ≤ 1000 ∧ v.b ≤ 16777216 := fun v hv => hl v (by simp [hv])
 cases hA : (x0.s.length == 0) with
 | true =>
  obtain ⟨ρ', h⟩ := mid1 true (x0 :: mid) 0 (agz hA hx0.2) (fun v hv => by
   rcases List.mem_cons.mp hv with q | q
   · rw [q]; exact hx0
   · exact hmid v q) (by omega) (by omega) (by simp; omega) (emP g x0 mid xk) (by unfold emP; rw [hA]; cases Txt.startswith g.s x0.s <;> rfl)
  exact fin (head h)
 | false =>
  cases hS : Txt.startswith g.s x0.s with
  | false =>
   have : emP g x0 mid xk = false := by unfold emP; rw [hA, hS]
   rw [this]
   exact fin (head (aan (agy hA hx0.2 hS)))
  | true =>
   obtain ⟨ρ', h⟩ := mid1 false mid x0.s.length (agx hA hx0.2 hS (by simp; omega) hx0.1) hmid (by omega) (by have := hx0.1; omega) (by omega) (emP g x0 mid xk) (by unfold emP; rw [hA, hS]; rfl)
   exact fin (head h)
end
section
variable {G : GE} {n : Nat} {ρ ρ1 ρ2 ρ3 : CE}
set_option tactic.hygienic false
theorem aas {S : SM} {F : FS} {args : List Expr} {kws : List Keyword} {avs : List EV} {kvs : List (Str × CV)} {cs : List CV} {c : CV} {o : CO} (hb : F.bor = none) (h1 : S.evs args ρ = some (avs, ρ)) (h2 : S.kws kws ρ = some (kvs, ρ)) (h3 : frzBut none avs ρ = some (cs, ρ)) (h4 : F.run cs kvs = some (c, o)) :
 S.callDef F args kws ρ = some (.val c, ρ) := acg hb h1 h2 h3 h4
end
def dAsk : DD := ddG "_law_asked" (some 2)
noncomputable def nEMf : Str := "_ellipsis_match"
def frA (w g : SS) (said : List CV) (tail : List (Str × Slot)) : CE := ⟨dAsk.scope, ("want", .val (.str w)) :: ("got", .val (.str g)) :: ("said", .bor (.list said)) :: tail⟩
noncomputable def ta (b : Bool) : List (Str × Slot) := [("answer", .val (.bool b))]
section
variable {fn : Str -> Option FS} {w g : SS} {said : List CV} {b : Bool}
set_option tactic.hygienic false
theorem appC {xs : List CV} {c : CV} (h : xs.length ≤ LIM) : mutC .append (.list xs) [c] = some (.none, .list (xs ++ [c])) := by
 unfold mutC
 dsimp only [l1, l2, cvInt]
 rw [Nat.ble_eq_true_of_le h]
set_option tactic.hygienic true
theorem amH {F : FS} {o : CO} (hf : fn nEMf = some F) (hb : F.bor = none) (hrun : F.run [.str w, .str g] [] = some (.bool b, o)) (hs : said.length ≤ LIM) :
 runDef (GF fn) 12 dAsk [.str w, .str g, .list said] [] = some (.bool b, .list (said ++ [.bool b])) := by
 have s0 : (sem (GF fn) 12).xs (stA dAsk.body 0) (frA w g said []) = some (.next, frA w g said (ta b)) :=
  aaG (ρ1 := frA w g said []) (by ext) (by ext) (aef (by ext) (by ext) (by ext) (aar hf (by ext)) (aas (kvs := []) (cs := [.str w, .str g]) (avs := [.val (.str w), .val (.str g)]) hb (aac (by ext) (aac (by ext) aad)) (by ext) rfl hrun)) (by ext) (by ext)
 have s1 : (sem (GF fn) 12).xs (stA dAsk.body 1) (frA w g said (ta b)) = some (.next, frA w g (said ++ [.bool b]) (ta b)) :=
  abB (by ext) (adc (x := "said") (c0 := .list said) (k := .append) (avs := [.val (.bool b)]) (cs := [.bool b]) (ob := .list said) (ob' := .list (said ++ [.bool b])) (by ext) (by ext) (by ext) (by ext) (by ext) rfl (aac (by ext) aad) rfl (by ext) (appC hs) (by ext))
 have s2 : (sem (GF fn) 12).xs (stA dAsk.body 2) (frA w g (said ++ [.bool b]) (ta b)) = some (.ret (.bool b), frA w g (said ++ [.bool b]) (ta b)) := by
  cases b <;> ext
 exact aak (l := [("want", .val (.str w)), ("got", .val (.str g)), ("said", .bor (.list said))]) (by ext) (by ext) (aaa s0 (aaa s1 (aan s2))) rfl
end
noncomputable def nOps : Str := "_law_operators"
noncomputable def nUns : Str := "_law_unseen"
noncomputable def nBes : Str := "_law_beside"
def dOps : DD := ddG "_law_operators" none
def dUns : DD := ddG "_law_unseen" none
def dBes : DD := ddG "_law_beside" none
noncomputable def besL : List Int := [172, 174, 846, 848, 6149, 6151, 6154, 6158, 8202, 8206, 8287, 8289, 65278, 65280, 65023, 65040]
section
variable {fn : Str -> Option FS}
set_option tactic.hygienic false
theorem agD : runDef (GF fn) 12 dOps [] [] = some (.list (opsL.map fun s => .str (SS.pad s)), .list []) := by ext
noncomputable def chS (n : Nat) : SS := ⟨⟨#[n]⟩, 1, Nat.le_refl 1⟩
noncomputable def b1N : List Nat := [173, 847, 6150, 6155, 6156, 6157, 8203, 8204, 8205, 8288, 65279, 65024, 65025, 65026, 65027, 65028, 65029, 65030, 65031, 65032, 65033, 65034, 65035, 65036, 65037, 65038, 65039]
noncomputable def besN : List Nat := [172, 174, 846, 848, 6149, 6151, 6154, 6158, 8202, 8206, 8287, 8289, 65278, 65280, 65023, 65040]
def frU (w : Int) (tail : List (Str × Slot)) : CE := ⟨dUns.scope, ("which", .val (.int w)) :: tail⟩
def frW (w : Int) (tail : List (Str × Slot)) : CE := ⟨dBes.scope, ("which", .val (.int w)) :: tail⟩
set_option tactic.hygienic true
theorem ajt {w : Int} : (sem (GF fn) 12).xs (stA dUns.body 0) (frU w []) = some (.next, frU w [("signs", .val (.list (b1s.map .int)))]) := by ext
theorem aju {w : Int} : (sem (GF fn) 12).xs (stA dBes.body 0) (frW w []) = some (.next, frW w [("signs", .val (.list (besL.map .int)))]) := by ext
set_option tactic.hygienic false
theorem chrC {n : Nat} (h : n < 70000 ∧ ¬ (55295 < n ∧ n < 57344)) : bltC nChr (.int (n : Int)) = some (.str (chS n)) := by
 have e1 : (nChr == nLen) = false := by decide
 have e2 : (nChr == nOrd) = false := by decide
 have e3 : (nChr == nChr) = true := by simp
 unfold bltC
 rw [e1]; dsimp only; rw [e2]; dsimp only; rw [e3]; dsimp only
 have : (Nat.ble n 0xD7FF || (Nat.ble 0xE000 n && Nat.ble n 0x10FFFF)) = true := by
  simp only [Bool.or_eq_true, Bool.and_eq_true, Nat.ble_eq]
  omega
 show (match Nat.ble n 0xD7FF || (Nat.ble 0xE000 n && Nat.ble n 0x10FFFF) with | true => some (CV.str ⟨⟨#[n]⟩, 1, Nat.le_refl 1⟩) | false => none) = _
 rw [this]
 rfl
theorem aba {w : Int} {k : Nat} (hk : 0 < k) : ∃ m : Nat, m < k ∧ Int.fmod w k = m := by
 refine ⟨(Int.fmod w k).toNat, ?_, ?_⟩
 · have := Int.fmod_lt_of_pos w (show (0 : Int) < k by omega)
   have := Int.fmod_nonneg_of_pos w (show (0 : Int) < k by omega)
   omega
 · have := Int.fmod_nonneg_of_pos w (show (0 : Int) < k by omega)
   omega
theorem akO {w : Int} {m : Nat} {c : Nat} (hm : Int.fmod w 27 = m) (hc : b1N[m]? = some c) : runDef (GF fn) 12 dUns [.int w] [] = some (.str (chS c), .list []) := by
 have hb : (b1s.map CV.int)[m]? = some (.int (c : Int)) := by
  have e : b1s.map CV.int = b1N.map fun (n : Nat) => CV.int (n : Int) := by ext
  rw [e, List.getElem?_map, hc]; rfl
 have hr : c < 70000 ∧ ¬ (55295 < c ∧ c < 57344) := by
  have : ∀ c ∈ b1N, c < 70000 ∧ ¬ (55295 < c ∧ c < 57344) := by decide
  exact this c (List.mem_of_getElem? hc)
 have s1 : (sem (GF fn) 12).xs (stA dUns.body 1) (frU w [("signs", .val (.list (b1s.map .int)))]) = some (.ret (.str (chS c)), frU w [("signs", .val (.list (b1s.map .int)))]) :=
  abg (abu (ρ1 := frU w [("signs", .val (.list (b1s.map .int)))]) (aaT (c := .int c) (ρ1 := frU w [("signs", .val (.list (b1s.map .int)))]) (by ext) (by ext) (by ext) (by ext)
   (adb (ady (a := .list (b1s.map .int)) (b := .int m) (aa1 (a := .val (.list (b1s.map .int))) (b := .val (.int m)) (by ext) (acf (x := .int w) (y := .int 27) (by ext) (by show some (CV.int (Int.fmod w 27)) = _; rw [hm])) rfl rfl) (acn hb (by decide))) rfl) (chrC hr)) rfl)
 exact aak (l := [("which", .val (.int w))]) (by ext) (by ext) (aaa ajt (aan s1)) rfl
theorem akP {w : Int} {m : Nat} {c : Nat} (hm : Int.fmod w 16 = m) (hc : besN[m]? = some c) : runDef (GF fn) 12 dBes [.int w] [] = some (.str (chS c), .list []) := by
 have hb : (besL.map CV.int)[m]? = some (.int (c : Int)) := by
  have e : besL.map CV.int = besN.map fun (n : Nat) => CV.int (n : Int) := by ext
  rw [e, List.getElem?_map, hc]; rfl
 have hr : c < 70000 ∧ ¬ (55295 < c ∧ c < 57344) := by
  have : ∀ c ∈ besN, c < 70000 ∧ ¬ (55295 < c ∧ c < 57344) := by decide
  exact this c (List.mem_of_getElem? hc)
 have s1 : (sem (GF fn) 12).xs (stA dBes.body 1) (frW w [("signs", .val (.list (besL.map .int)))]) = some (.ret (.str (chS c)), frW w [("signs", .val (.list (besL.map .int)))]) :=
  abg (abu (ρ1 := frW w [("signs", .val (.list (besL.map .int)))]) (aaT (c := .int c) (ρ1 := frW w [("signs", .val (.list (besL.map .int)))]) (by ext) (by ext) (by ext) (by ext)
   (adb (ady (a := .list (besL.map .int)) (b := .int m) (aa1 (a := .val (.list (besL.map .int))) (b := .val (.int m)) (by ext) (acf (x := .int w) (y := .int 16) (by ext) (by show some (CV.int (Int.fmod w 16)) = _; rw [hm])) rfl rfl) (acn hb (by decide))) rfl) (chrC hr)) rfl)
 exact aak (l := [("which", .val (.int w))]) (by ext) (by ext) (aaa aju (aan s1)) rfl
end
def dTab : DD := ddG "in_table_b1" none
noncomputable def nTab : Str := "in_table_b1"
def dRead : DD := ddG "_law_read" none
section
variable {fn : Str -> Option FS}
set_option tactic.hygienic false
theorem ordC {c : Nat} : bltC nOrd (.str (chS c)) = some (.int c) := by
 have e1 : (nOrd == nLen) = false := by decide
 have e3 : (nOrd == nOrd) = true := by simp
 unfold bltC
 rw [e1]; dsimp only; rw [e3]; rfl
def isB1 (c : Nat) : Bool := b1s.contains (c : Int)
theorem ajv {c : Nat} : runDef (GF fn) 12 dTab [.str (chS c)] [] = some (.bool (isB1 c), .list []) := by
 have s0 : (sem (GF fn) 12).xs (stA dTab.body 0) ⟨dTab.scope, [("code", .val (.str (chS c)))]⟩ = some (.ret (.bool (isB1 c)), ⟨dTab.scope, [("code", .val (.str (chS c)))]⟩) :=
  abg (abu (ρ1 := ⟨dTab.scope, [("code", .val (.str (chS c)))]⟩) (aix (x := .int c) (y := .iset b1s) (t := isB1 c) (by ext) (aa1 (a := .val (.int c)) (b := .val (.iset b1s)) (aaT (c := .str (chS c)) (by ext) (by ext) (by ext) (by ext) (by ext) ordC) (by ext) rfl rfl) rfl) rfl)
 exact aak (l := [("code", .val (.str (chS c)))]) (by ext) (by ext) (aan s0) rfl
def emp : SS := SS.of ""
def rdB : List Stmt := forB (stA dRead.body 2)
def frR (t : SS) (ns : Slot) (p : SS) (tail : List (Str × Slot)) : CE := ⟨dRead.scope, ("text", .val (.str t)) :: ("numbers", ns) :: ("piece", .val (.str p)) :: tail⟩
noncomputable def th (c : Nat) (h : Bool) : List (Str × Slot) := [("sign", .val (.str (chS c))), ("held", .val (.bool h))]
noncomputable def th1 (c : Nat) : List (Str × Slot) := [("sign", .val (.str (chS c)))]
def okR (tail : List (Str × Slot)) : Prop := tail = [] ∨ ∃ c h, tail = th c h
variable {t p : SS} {ns : List CV} {c c' : Nat} {h b : Bool}
theorem ahI : bindT (forT (stA dRead.body 2)) (.str (chS c)) (frR t (.own (.list ns)) p []) = some (frR t (.own (.list ns)) p (th1 c)) := by ext
theorem ahJ : bindT (forT (stA dRead.body 2)) (.str (chS c)) (frR t (.own (.list ns)) p (th c' h)) = some (frR t (.own (.list ns)) p (th c h)) := by ext
set_option tactic.hygienic true
theorem ahK {F : FS} {o : CO} (hf : fn nTab = some F) (hb : F.bor = none) (hr : F.run [.str (chS c)] [] = some (.bool b, o)) : (sem (GF fn) 11).xs (stA rdB 0) (frR t (.own (.list ns)) p (th1 c)) = some (.next, frR t (.own (.list ns)) p (th c b)) :=
 aaG (ρ1 := frR t (.own (.list ns)) p (th1 c)) (abN (aar hf (by ext))) (by ext) (aaQ (by ext) (by ext) (aar hf (by ext)) (aas (kvs := []) (cs := [.str (chS c)]) (avs := [.val (.str (chS c))]) hb (aac (by ext) aad) (by ext) rfl hr)) (by ext) (by ext)
theorem ahL {F : FS} {o : CO} (hf : fn nTab = some F) (hb : F.bor = none) (hr : F.run [.str (chS c)] [] = some (.bool b, o)) : (sem (GF fn) 11).xs (stA rdB 0) (frR t (.own (.list ns)) p (th c h)) = some (.next, frR t (.own (.list ns)) p (th c b)) :=
 aaG (ρ1 := frR t (.own (.list ns)) p (th c h)) (abN (aar hf (by ext))) (by ext) (aaQ (by ext) (by ext) (aar hf (by ext)) (aas (kvs := []) (cs := [.str (chS c)]) (avs := [.val (.str (chS c))]) hb (aac (by ext) aad) (by ext) rfl hr)) (by ext) (by ext)
set_option tactic.hygienic false
theorem addC {x y : SS} (hb : x.b + y.b ≤ LIM) : augC .Add (.str x) (.str y) = some (.str (x.app y)) := by
 show (match Nat.ble (x.b + y.b) LIM with | true => some (CV.str (x.app y)) | false => none) = _
 rw [Nat.ble_eq_true_of_le hb]
set_option tactic.hygienic true
theorem akQ (hb : p.b + 1 ≤ LIM) : (sem (GF fn) 11).xs (stA rdB 1) (frR t (.own (.list ns)) p (th c false)) = some (.next, frR t (.own (.list ns)) (p.app (chS c)) (th c false)) :=
 aaM (ρ1 := frR t (.own (.list ns)) p (th c false)) (by ext) (aaa (afc (a := .str p) (b := .str (chS c)) (c := .str (p.app (chS c))) (by ext) (by ext) (by ext) (addC hb) (by ext) rfl) (by ext))
theorem akR (hp : (p.s == emp.s) = true) : (sem (GF fn) 11).xs (stA rdB 1) (frR t (.own (.list ns)) p (th c true)) = some (.next, frR t (.own (.list ns)) p (th c true)) :=
 aaD (ρ1 := frR t (.own (.list ns)) p (th c true)) (by ext) (aaa (aaM (ρ1 := frR t (.own (.list ns)) p (th c true)) (by ext) (aaa (aaD (ρ1 := frR t (.own (.list ns)) p (th c true)) (aaH (x := .str p) (y := .str emp) (by ext) (by ext) (by show some (!(p.s == emp.s)) = _; rw [hp]; rfl)) (by ext)) aaf)) aaf)
def numOf (s : Str) : Int := match dget ettL s with
 | some (.int i) => i
 | _ => 256
set_option tactic.hygienic false
theorem agE : ∀ {es : List (SS × CV)}, (∀ x ∈ es, (match x.2 with | .int _ => true | _ => false) = true) -> ∀ {s : Str} {c : CV}, dget es s = some c -> ∃ i, c = .int i
 | [], _, s, c, h => by cases h
 | (k, v) :: r, ha, s, c, h => by
  rw [adP] at h
  split at h
  · obtain rfl := Option.some.inj h
    have := ha _ (.head _)
    cases v <;> first | exact ⟨_, rfl⟩ | cases this
  · exact agE (fun x hx => ha x (.tail _ hx)) h
theorem ajw : ∀ x ∈ ettL, (match x.2 with | .int _ => true | _ => false) = true := by
 have : (ettL.all fun x => (match x.2 with | .int _ => true | _ => false)) = true := by ext
 exact List.all_eq_true.mp this
theorem getC : methC .get (.dict ettL) [.str p, .int 256] = some (.int (numOf p.s)) := by
 show (match dget ettL p.s with | some c => some c | none => some (.int 256)) = _
 unfold numOf
 cases hd : dget ettL p.s with
 | none => rfl
 | some c =>
  obtain ⟨i, rfl⟩ := agE ajw hd
  rfl
set_option tactic.hygienic true
theorem akS (hp : (p.s == emp.s) = false) (hn : ns.length ≤ LIM) : (sem (GF fn) 11).xs (stA rdB 1) (frR t (.own (.list ns)) p (th c true)) = some (.next, frR t (.own (.list (ns ++ [.int (numOf p.s)]))) emp (th c true)) := by
 refine aaD (ρ1 := frR t (.own (.list ns)) p (th c true)) (by ext) (aaa (ρ1 := frR t (.own (.list (ns ++ [.int (numOf p.s)]))) emp (th c true)) (aaM (ρ1 := frR t (.own (.list ns)) p (th c true)) (by ext) (aaa (ρ1 := frR t (.own (.list (ns ++ [.int (numOf p.s)]))) emp (th c true)) (aaM (ρ1 := frR t (.own (.list ns)) p (th c true)) (aaH (x := .str p) (y := .str emp) (by ext) (by ext) (by show some (!(p.s == emp.s)) = _; rw [hp]; rfl)) (aaa (ρ1 := frR t (.own (.list (ns ++ [.int (numOf p.s)]))) p (th c true)) ?_ (by ext))) aaf)) aaf)
 exact abB (by ext) (adc (x := "numbers") (c0 := .list ns) (k := .append) (avs := [.val (.int (numOf p.s))]) (cs := [.int (numOf p.s)]) (ob := .list ns) (ob' := .list (ns ++ [.int (numOf p.s)])) (by ext) (by ext) (by ext) (by ext) (by ext) rfl
  (aac (aa9 (ov := .val (.dict ettL)) (k := .get) (avs := [.val (.str p), .val (.int 256)]) (cs := [.str p, .int 256]) (c0 := .dict ettL) (by ext) (by ext) (by ext) (by ext) (by ext) rfl (aac (by ext) (aac (by ext) aad)) (by ext) getC) aad) rfl (by ext) (appC hn) (by ext))
noncomputable def readL : List Nat -> List Nat -> List Int
 | [], _ => []
 | c :: r, pl => match isB1 c, pl with
  | false, pl => readL r (pl ++ [c])
  | true, [] => readL r []
  | true, a :: q => numOf ⟨(a :: q).toArray⟩ :: readL r []
set_option tactic.hygienic false
theorem ajx (pl : List Nat) : readL [] pl = [] := rfl
theorem adA (c : Nat) (r pl : List Nat) : readL (c :: r) pl = match isB1 c, pl with | false, pl => readL r (pl ++ [c]) | true, [] => readL r [] | true, a :: q => numOf ⟨(a :: q).toArray⟩ :: readL r [] := rfl
theorem aiA {pl : List Nat} (h : p.s = ⟨pl.toArray⟩) : (p.s == emp.s) = pl.isEmpty := by
 rw [h]
 cases pl with
 | nil => kernel_rfl
 | cons a q =>
  have : (⟨(a :: q).toArray⟩ : Str) ≠ emp.s := fun e => by
   have := congrArg (fun s : Str => s.cps.size) e
   simp at this
   cases this
  simpa using this
set_option tactic.hygienic true
theorem agF {F : FS} (hf : fn nTab = some F) (hb : F.bor = none) (hr : ∀ c, F.run [.str (chS c)] [] = some (.bool (isB1 c), .list [])) : ∀ (l pl : List Nat) (p : SS) (ns : List CV) (tail : List (Str × Slot)), p.s = ⟨pl.toArray⟩ -> p.b + l.length ≤ 100000 -> ns.length + l.length ≤ 100000 -> okR tail ->
 ∃ p' tail', okR tail' ∧ loopL (fun c ρ => match bindT (forT (stA dRead.body 2)) c ρ with | some ρ => (sem (GF fn) 11).xss rdB ρ | none => none) (l.map fun c => .str (chS c)) (frR t (.own (.list ns)) p tail) =
  some (.next, frR t (.own (.list (ns ++ (readL l pl).map CV.int))) p' tail') := by
 intro l
 induction l with
 | nil => intro pl p ns tail _ _ _ ht; exact ⟨p, tail, ht, by simp [ab2, ajx]⟩
 | cons c r ih =>
  intro pl p ns tail hp h1 h2 ht
  simp only [List.length_cons] at h1 h2
  have hbody : rdB = [stA rdB 0, stA rdB 1] := by ext
  have step : ∀ {q}, (sem (GF fn) 11).xs (stA rdB 1) (frR t (.own (.list ns)) p (th c (isB1 c))) = some (.next, q) ->
   (match bindT (forT (stA dRead.body 2)) (.str (chS c)) (frR t (.own (.list ns)) p tail) with | some ρ => (sem (GF fn) 11).xss rdB ρ | none => none) = some (.next, q) := fun {q} hq => by
   rw [hbody]
   rcases ht with rfl | ⟨c', h', rfl⟩
   · rw [ahI]
     exact aaa (ahK hf hb (hr c)) (aaa hq aaf)
   · rw [ahJ]
     exact aaa (ahL hf hb (hr c)) (aaa hq aaf)
  show ∃ p' tail', okR tail' ∧ loopL _ (.str (chS c) :: (r.map fun c => CV.str (chS c))) _ = _
  rw [aah, adA]
  cases hc : isB1 c with
  | false =>
   rw [hc] at step
   rw [step (akQ (by unfold LIM; omega))]
   dsimp only
   have hpb : (p.app (chS c)).b = p.b + 1 := rfl
   exact ih (pl ++ [c]) _ ns _ (by
    show p.s ++ (chS c).s = _
    rw [hp]
    show (⟨pl.toArray ++ #[c]⟩ : Str) = _
    simp) (by rw [hpb]; lia) (by omega) (.inr ⟨c, _, rfl⟩)
  | true =>
   rw [hc] at step
   cases pl with
   | nil =>
    rw [step (akR (by rw [aiA hp]; rfl))]
    dsimp only
    exact ih [] p ns _ hp (by omega) (by omega) (.inr ⟨c, _, rfl⟩)
   | cons a q =>
    rw [step (akS (by rw [aiA hp]; rfl) (by unfold LIM; lia))]
    dsimp only
    obtain ⟨p', tail', ht', hl⟩ := ih [] emp (ns ++ [.int (numOf p.s)]) _ (by ext) (by show 0 + r.length ≤ 100000; lia) (by simp; lia) (.inr ⟨c, _, rfl⟩)
    refine ⟨p', tail', ht', ?_⟩
    rw [hl, hp]
    simp
theorem ajy {F : FS} (hf : fn nTab = some F) (hb : F.bor = none) (hr : ∀ c, F.run [.str (chS c)] [] = some (.bool (isB1 c), .list [])) (hl : t.s.cps.toList.length ≤ 90000) :
 runDef (GF fn) 12 dRead [.str t] [] = some (.list ((readL t.s.cps.toList []).map CV.int), .list []) := by
 obtain ⟨p', tail', ht', h⟩ := agF (t := t) hf hb hr t.s.cps.toList [] emp [] [] (by ext) (by show 0 + _ ≤ 100000; omega) (by show 0 + _ ≤ 100000; omega) (.inl rfl)
 have s01 : ∀ {q}, (sem (GF fn) 12).xss [stA dRead.body 2, stA dRead.body 3] (frR t (.own (.list [])) emp []) = q -> (sem (GF fn) 12).xss dRead.body ⟨dRead.scope, [("text", .val (.str t))]⟩ = q := fun {q} hq => by
  have hb : dRead.body = [stA dRead.body 0, stA dRead.body 1, stA dRead.body 2, stA dRead.body 3] := by ext
  have a0 : (sem (GF fn) 12).xs (stA dRead.body 0) ⟨dRead.scope, [("text", .val (.str t))]⟩ = some (.next, ⟨dRead.scope, [("text", .val (.str t)), ("numbers", .own (.list []))]⟩) := by ext
  have a1 : (sem (GF fn) 12).xs (stA dRead.body 1) ⟨dRead.scope, [("text", .val (.str t)), ("numbers", .own (.list []))]⟩ = some (.next, frR t (.own (.list [])) emp []) := by ext
  rw [hb]
  exact aaa a0 (aaa a1 hq)
 have s2 : (sem (GF fn) 12).xs (stA dRead.body 2) (frR t (.own (.list [])) emp []) = some (.next, frR t (.own (.list ((readL t.s.cps.toList []).map CV.int))) p' tail') := by
  refine aa3 (ρ1 := frR t (.own (.list [])) emp []) (cs := signsC t) (aaL (ρ1 := frR t (.own (.list [])) emp []) (c := .str t) (by ext) (by ext) rfl (Nat.ble_eq_true_of_le (by unfold signsC LIM; rw [List.length_map]; lia))) ?_
  rw [List.nil_append] at h
  exact h
 have s3 : ∀ ns, (sem (GF fn) 12).xs (stA dRead.body 3) (frR t (.own (.list ns)) p' tail') = some (.ret (.list ns), frR t (.val (.list ns)) p' tail') := fun ns => by
  rcases ht' with rfl | ⟨c, h, rfl⟩ <;> ext
 exact aak (l := [("text", .val (.str t))]) (by ext) (by ext) (s01 (aaa s2 (aan (s3 _)))) rfl
end
section
variable {G : GE} {n : Nat} {ρ ρ1 ρ2 ρ3 ρ4 : CE}
set_option tactic.hygienic false
theorem agG {o : Expr} {m x : Str} {args : List Expr} {apos pos : Pos} {c0 c : CV} {k : MK} {avs : List EV} {cs : List CV} {ob ob' : CO} (hm : mkOf G ρ (.Call (.Attribute o m apos) args [] pos) = .no) (hok : methOk o args.length apos pos = true) (h1 : (sem G n).ev o ρ = some (.ref x, ρ1))
 (hd : deref ρ1 (.ref x) = some c0) (hk : mkindOf c0 m = some k) (hmut : k.isMut = true) (h2 : (sem G n).evs args ρ1 = some (avs, ρ2)) (h3 : freezes avs ρ2 = some (cs, ρ3)) (ho : ownAt ρ3 x = some ob) (hc : mutC k ob cs = some (c, ob')) (he : ρ3.set x (reown (ρ3.get x) ob') = ρ4) :
 (sem G (n + 1)).ev (.Call (.Attribute o m apos) args [] pos) ρ = some (.val c, ρ4) := by
 rw [aaB]
 dsimp only [stepS]
 unfold evStep evN
 rw [hm]
 dsimp only [mkOf, l1, l2, eName, eAttr, eSub, eTup, eCall, eSlice, List.isEmpty]
 rw [hok]
 dsimp only
 unfold SM.meth
 rw [h1]; dsimp only; rw [hd]; dsimp only; rw [hk]; dsimp only; rw [h2]; dsimp only; rw [hmut]; dsimp only; rw [h3]; dsimp only; rw [ho]; dsimp only; rw [hc]; dsimp only; rw [he]
set_option tactic.hygienic true
theorem afd {z f y : Str} {p fp yp pos' pos : Pos} {cs : List CV} (hb : isBlt G ρ f = true) (hf : (f == nList) = true) (h : (sem G n).evd (.Name y yp) ρ = some (.list cs, ρ)) (hl : cs.length ≤ LIM) (hc : (canSet ρ z && noView ρ) = true) (ho : G.owns z = true) (he : ρ.set z (.own (.list cs)) = ρ2) :
 (sem G (n + 1)).xs (.Assign [.Name z p] (.Call (.Name f fp) [.Name y yp] [] pos') pos) ρ = some (.next, ρ2) := by
 have hk : mkOf G ρ (.Call (.Name f fp) [.Name y yp] [] pos') = .listE (.Name y yp) := by unfold mkOf; dsimp only [l1, List.isEmpty, eName, eAttr, mkBlt]; rw [hb]; dsimp only; rw [hf]; rfl
 refine agu hk rfl ?_ hc ho he
 unfold SM.make
 dsimp only
 rw [h]
 dsimp only [cvList, cvDict]
 rw [Nat.ble_eq_true_of_le hl]
theorem afe {z f y : Str} {p fp yp pos' pos : Pos} {es : List (SS × CV)} (hb : isBlt G ρ f = true) (hf : (f == nDict) = true) (h : (sem G n).evd (.Name y yp) ρ = some (.dict es, ρ)) (hl : es.length ≤ LIM) (hc : (canSet ρ z && noView ρ) = true) (ho : G.owns z = true) (he : ρ.set z (.own (.dict es)) = ρ2) :
 (sem G (n + 1)).xs (.Assign [.Name z p] (.Call (.Name f fp) [.Name y yp] [] pos') pos) ρ = some (.next, ρ2) := by
 have hf' : (f == nList) = false := by rw [beq_iff_eq.mp hf]; decide
 have hk : mkOf G ρ (.Call (.Name f fp) [.Name y yp] [] pos') = .dictE (.Name y yp) := by unfold mkOf; dsimp only [l1, List.isEmpty, eName, eAttr, mkBlt]; rw [hb]; dsimp only; rw [hf']; dsimp only; rw [hf]; rfl
 refine agu hk rfl ?_ hc ho he
 unfold SM.make
 dsimp only
 rw [h]
 dsimp only [cvList, cvDict]
 rw [Nat.ble_eq_true_of_le hl]
theorem adB {d : Str} {i e : Expr} {dp ip pos : Pos} {c kv : CV} {o o' : CO} (hp : (plainE e && nameOk d) = true) (h1 : (sem G n).evf e ρ = some (c, ρ)) (h0 : ownAt ρ d = some o) (h2 : (sem G n).ev i ρ = some (.val kv, ρ)) (h3 : setC o kv c = some o') (he : ρ.set d (reown (ρ.get d) o') = ρ1) :
 (sem G (n + 1)).xs (.Assign [.Subscript (.Name d dp) i ip] e pos) ρ = some (.next, ρ1) := by
 rw [aaB]
 dsimp only [stepS]
 unfold xsStep
 dsimp only [l1, l2, eName, eAttr, eSub, eTup, eCall, eSlice, List.isEmpty, asgN, asgP, asgS, augN, augS, delS]
 rw [hp]
 dsimp only
 rw [h1]
 dsimp only
 rw [h0]
 dsimp only
 rw [h2]
 dsimp only
 rw [h0]
 dsimp only
 rw [h3]
 dsimp only
 rw [he]
set_option tactic.hygienic false
theorem setD {es : List (SS × CV)} {k : SS} {c : CV} (h : es.length ≤ LIM) : setC (.dict es) (.str k) c = some (.dict (dput es k c)) := by
 unfold setC
 dsimp only [cvStr]
 rw [Nat.ble_eq_true_of_le h]
theorem aff (es : List (SS × CV)) (k : SS) (c : CV) : (dput es k c).length ≤ es.length + 1 := by
 induction es with
 | nil => exact Nat.le_refl _
 | cons x r ih =>
  rw [aeU]
  split
  · simp
  · simp; exact ih
end
def dPl : DD := ddG "_law_placings" none
noncomputable def nLay : Str := "_law_lay"
abbrev RF := List CV × List (SS × CV)
noncomputable def pcv (x : RF) : CV := .list [.list x.1, .dict x.2]
def plB : List Stmt := forB (stA dPl.body 1)
def plI : List Stmt := forB (stA plB 2)
def plJ : List Stmt := forB (stA plI 0)
def frP (cells : List CV) (left : Bool) (g : Slot) (tail : List (Str × Slot)) : CE := ⟨dPl.scope, ("cells", .val (.list cells)) :: ("by_left", .val (.bool left)) :: ("grown", g) :: tail⟩
noncomputable def q4 (c o r f : CV) : List (Str × Slot) := [("cell", .val c), ("older", .val o), ("row", .val r), ("floor", .val f)]
noncomputable def q7 (c o r f lv : CV) (nr nf : Slot) : List (Str × Slot) := [("cell", .val c), ("older", .val o), ("row", .val r), ("floor", .val f), ("level", .val lv), ("new_row", nr), ("new_floor", nf)]
noncomputable def q5 (c o r f lv : CV) : List (Str × Slot) := [("cell", .val c), ("older", .val o), ("row", .val r), ("floor", .val f), ("level", .val lv)]
noncomputable def q6 (c o r f lv : CV) (nr : Slot) : List (Str × Slot) := [("cell", .val c), ("older", .val o), ("row", .val r), ("floor", .val f), ("level", .val lv), ("new_row", nr)]
noncomputable def q2 (c o : CV) : List (Str × Slot) := [("cell", .val c), ("older", .val o)]
section
variable {fn : Str -> Option FS} {cells g r r' : List CV} {f : List (SS × CV)} {left : Bool} {c : SS} {o c' r0 f0 lv0 : CV} {lv : Int} {nr nf : CV}
def inn (c : SS) (o : CV) (r : List CV) (f : List (SS × CV)) (tail : List (Str × Slot)) : Prop := tail = q4 (.str c) o (.list r) (.dict f) ∨ ∃ lv nr nf, tail = q7 (.str c) o (.list r) (.dict f) lv (.val nr) (.val nf)
set_option tactic.hygienic false
theorem amI : bindT (forT (stA plI 0)) (.int lv) (frP cells left (.own (.list g)) (q4 (.str c) o (.list r) (.dict f))) = some (frP cells left (.own (.list g)) (q5 (.str c) o (.list r) (.dict f) (.int lv))) := by ext
theorem amJ : bindT (forT (stA plI 0)) (.int lv) (frP cells left (.own (.list g)) (q7 (.str c) o (.list r) (.dict f) lv0 (.val nr) (.val nf))) = some (frP cells left (.own (.list g)) (q7 (.str c) o (.list r) (.dict f) (.int lv) (.val nr) (.val nf))) := by ext
set_option tactic.hygienic true
theorem ajz (hl : r.length ≤ LIM) : (sem (GF fn) 9).xs (stA plJ 0) (frP cells left (.own (.list g)) (q5 (.str c) o (.list r) (.dict f) (.int lv))) =
 some (.next, frP cells left (.own (.list g)) (q6 (.str c) o (.list r) (.dict f) (.int lv) (.own (.list r)))) :=
 afd (cs := r) (by ext) (by ext) (by ext) hl (by ext) (by ext) (by ext)
theorem ajA (hl : r.length ≤ LIM) : (sem (GF fn) 9).xs (stA plJ 0) (frP cells left (.own (.list g)) (q7 (.str c) o (.list r) (.dict f) (.int lv) (.val nr) (.val nf))) =
 some (.next, frP cells left (.own (.list g)) (q7 (.str c) o (.list r) (.dict f) (.int lv) (.own (.list r)) (.val nf))) :=
 afd (cs := r) (by ext) (by ext) (by ext) hl (by ext) (by ext) (by ext)
theorem ajB (hl : f.length ≤ LIM) : (sem (GF fn) 9).xs (stA plJ 1) (frP cells left (.own (.list g)) (q6 (.str c) o (.list r) (.dict f) (.int lv) (.own (.list r)))) =
 some (.next, frP cells left (.own (.list g)) (q7 (.str c) o (.list r) (.dict f) (.int lv) (.own (.list r)) (.own (.dict f)))) :=
 afe (es := f) (by ext) (by ext) (by ext) hl (by ext) (by ext) (by ext)
theorem ajC (hl : f.length ≤ LIM) : (sem (GF fn) 9).xs (stA plJ 1) (frP cells left (.own (.list g)) (q7 (.str c) o (.list r) (.dict f) (.int lv) (.own (.list r)) (.val nf))) =
 some (.next, frP cells left (.own (.list g)) (q7 (.str c) o (.list r) (.dict f) (.int lv) (.own (.list r)) (.own (.dict f)))) :=
 afe (es := f) (by ext) (by ext) (by ext) hl (by ext) (by ext) (by ext)
theorem aiB (hl : f.length ≤ LIM) : (sem (GF fn) 9).xs (stA plJ 2) (frP cells left (.own (.list g)) (q7 (.str c) o (.list r) (.dict f) (.int lv) (.own (.list r)) (.own (.dict f)))) =
 some (.next, frP cells left (.own (.list g)) (q7 (.str c) o (.list r) (.dict f) (.int lv) (.own (.list r)) (.own (.dict (dput f c (.int lv)))))) :=
 adB (o := .dict f) (o' := .dict (dput f c (.int lv))) (kv := .str c) (c := .int lv) (by ext) (by ext) (by ext) (by ext) (setD hl) (by ext)
theorem akT {F : FS} {f' : List (SS × CV)} (hf : fn nLay = some F) (hb : F.bor = some 0) (hr : F.run [.list r, .str c, .dict f', .bool left] [] = some (.none, .list r')) (hg : g.length ≤ LIM) :
 (sem (GF fn) 9).xs (stA plJ 3) (frP cells left (.own (.list g)) (q7 (.str c) o (.list r) (.dict f) (.int lv) (.own (.list r)) (.own (.dict f')))) =
 some (.next, frP cells left (.own (.list (g ++ [pcv (r', f')]))) (q7 (.str c) o (.list r) (.dict f) (.int lv) (.val (.list r')) (.val (.dict f')))) := by
 have hcall : (sem (GF fn) 8).it (ifT (stA plJ 3)) (frP cells left (.own (.list g)) (q7 (.str c) o (.list r) (.dict f) (.int lv) (.own (.list r)) (.own (.dict f')))) =
  some (true, frP cells left (.own (.list g)) (q7 (.str c) o (.list r) (.dict f) (.int lv) (.own (.list r')) (.val (.dict f')))) := by
  refine aaH (x := .none) (y := .none) (by ext) (aee (a := .val .none) (b := .val .none) (ρ1 := frP cells left (.own (.list g)) (q7 (.str c) o (.list r) (.dict f) (.int lv) (.own (.list r')) (.val (.dict f')))) (aaQ (by ext) (by ext) (aar hf (by ext)) ?_) (by ext) rfl rfl) rfl
  exact (acN (x := "new_row") (o := .list r) (o' := .list r') (c := .none) (cs := [.none, .str c, .dict f', .bool left]) (kvs := []) (avs := [.ref "new_row", .val (.str c), .ref "new_floor", .val (.bool left)]) (ρ1 := frP cells left (.own (.list g)) (q7 (.str c) o (.list r) (.dict f) (.int lv) (.own (.list r)) (.own (.dict f'))))
   (ρ2 := frP cells left (.own (.list g)) (q7 (.str c) o (.list r) (.dict f) (.int lv) (.own (.list r)) (.own (.dict f')))) (ρ3 := frP cells left (.own (.list g)) (q7 (.str c) o (.list r) (.dict f) (.int lv) (.own (.list r)) (.val (.dict f')))) hb
   (aac (by ext) (aac (by ext) (aac (by ext) (aac (by ext) aad)))) (by ext) (by ext) rfl (by ext) hr).trans (by ext)
 refine aaM hcall (aaa (abB (by ext) (agG (x := "grown") (c0 := .list g) (k := .append) (avs := [.val (pcv (r', f'))]) (cs := [pcv (r', f')]) (ob := .list g) (ob' := .list (g ++ [pcv (r', f')]))
  (ρ1 := frP cells left (.own (.list g)) (q7 (.str c) o (.list r) (.dict f) (.int lv) (.own (.list r')) (.val (.dict f')))) (ρ2 := frP cells left (.own (.list g)) (q7 (.str c) o (.list r) (.dict f) (.int lv) (.val (.list r')) (.val (.dict f'))))
  (ρ3 := frP cells left (.own (.list g)) (q7 (.str c) o (.list r) (.dict f) (.int lv) (.val (.list r')) (.val (.dict f')))) (by ext) (by ext) (by ext) (by ext) (by ext) rfl
  (aaU (ρ1 := frP cells left (.own (.list g)) (q7 (.str c) o (.list r) (.dict f) (.int lv) (.val (.list r')) (.val (.dict f')))) (by ext) aad) rfl (by ext) (appC hg) (by ext))) aaf)
end
section
variable {fn : Str -> Option FS} {cells g : List CV} {left : Bool} {c : SS} {o : CV}
def LaysTo (F : FS) (left : Bool) (lay : List CV -> SS -> List (SS × CV) -> List CV) (r : List CV) (c : SS) (f : List (SS × CV)) : Prop := F.run [.list r, .str c, .dict f, .bool left] [] = some (.none, .list (lay r c f))
def two (lay : List CV -> SS -> List (SS × CV) -> List CV) (c : SS) (x : RF) : List RF := [(lay x.1 c (dput x.2 c (.int 0)), dput x.2 c (.int 0)), (lay x.1 c (dput x.2 c (.int 1)), dput x.2 c (.int 1))]
structure PlOk (F : FS) (left : Bool) (lay : List CV -> SS -> List (SS × CV) -> List CV) (c : SS) (x : RF) : Prop where
 r : x.1.length ≤ 900
 f : x.2.length ≤ 900
 l0 : LaysTo F left lay x.1 c (dput x.2 c (.int 0))
 l1 : LaysTo F left lay x.1 c (dput x.2 c (.int 1))
variable {F : FS} {lay : List CV -> SS -> List (SS × CV) -> List CV} (hf : fn nLay = some F) (hb : F.bor = some 0)
include hf hb
set_option tactic.hygienic true
theorem agH {r : List CV} {f : List (SS × CV)} {lv : Int} {tail : List (Str × Slot)} (ht : inn c o r f tail) (hr : r.length ≤ 900) (hl : f.length ≤ 900) (hlay : LaysTo F left lay r c (dput f c (.int lv))) (hg : g.length ≤ 90000) :
 (match bindT (forT (stA plI 0)) (.int lv) (frP cells left (.own (.list g)) tail) with | some ρ => (sem (GF fn) 9).xss plJ ρ | none => none) =
  some (.next, frP cells left (.own (.list (g ++ [pcv (lay r c (dput f c (.int lv)), dput f c (.int lv))]))) (q7 (.str c) o (.list r) (.dict f) (.int lv) (.val (.list (lay r c (dput f c (.int lv))))) (.val (.dict (dput f c (.int lv)))))) := by
 have hbody : plJ = [stA plJ 0, stA plJ 1, stA plJ 2, stA plJ 3] := by ext
 have e1 : r.length ≤ LIM := by unfold LIM; lia
 have e2 : f.length ≤ LIM := by unfold LIM; omega
 have e3 : g.length ≤ LIM := by unfold LIM; lia
 rw [hbody]
 rcases ht with rfl | ⟨lv0, nr, nf, rfl⟩
 · rw [amI]
   exact aaa (ajz e1) (aaa (ajB e2) (aaa (aiB e2) (aaa (akT hf hb hlay e3) aaf)))
 · rw [amJ]
   exact aaa (ajA e1) (aaa (ajC e2) (aaa (aiB e2) (aaa (akT hf hb hlay e3) aaf)))
theorem akU {x : RF} {tail : List (Str × Slot)} (ht : inn c o x.1 x.2 tail) (P : PlOk F left lay c x) (hg : g.length ≤ 80000) :
 ∃ lv nr nf, (sem (GF fn) 10).xss plI (frP cells left (.own (.list g)) tail) = some (.next, frP cells left (.own (.list (g ++ (two lay c x).map pcv))) (q7 (.str c) o (.list x.1) (.dict x.2) lv (.val nr) (.val nf))) := by
 have hbody : plI = [stA plI 0] := by ext
 have t0 := agH (cells := cells) (o := o) hf hb ht P.r P.f P.l0 (g := g) (by omega)
 have t1 := agH (cells := cells) (o := o) hf hb (tail := q7 (.str c) o (.list x.1) (.dict x.2) (.int 0) (.val (.list (lay x.1 c (dput x.2 c (.int 0))))) (.val (.dict (dput x.2 c (.int 0))))) (.inr ⟨_, _, _, rfl⟩) P.r P.f P.l1 (g := g ++ [pcv (lay x.1 c (dput x.2 c (.int 0)), dput x.2 c (.int 0))]) (by rw [List.length_append]; simp; omega)
 have hit : (sem (GF fn) 9).items (GF fn) true (forT (stA plI 0)) (forI (stA plI 0)) (frP cells left (.own (.list g)) tail) = some ([.int 0, .int 1], frP cells left (.own (.list g)) tail) := by
  rcases ht with rfl | ⟨lv0, nr, nf, rfl⟩ <;> ext
 refine ⟨.int 1, .list (lay x.1 c (dput x.2 c (.int 1))), .dict (dput x.2 c (.int 1)), ?_⟩
 have hloop : loopL (fun c ρ => match bindT (forT (stA plI 0)) c ρ with | some ρ => (sem (GF fn) 9).xss plJ ρ | none => none) [.int 0, .int 1] (frP cells left (.own (.list g)) tail) =
  some (.next, frP cells left (.own (.list (g ++ (two lay c x).map pcv))) (q7 (.str c) o (.list x.1) (.dict x.2) (.int 1) (.val (.list (lay x.1 c (dput x.2 c (.int 1))))) (.val (.dict (dput x.2 c (.int 1)))))) := by
  rw [aah]
  rw [t0]
  dsimp only
  rw [aah]
  rw [t1]
  dsimp only
  rw [ab2]
  rw [List.append_assoc]
  rfl
 rw [hbody]
 exact aaa (aa3 hit hloop) aaf
def midP (c : SS) (o : CV) (tail : List (Str × Slot)) : Prop := tail = q2 (.str c) o ∨ ∃ r f lv nr nf, tail = q7 (.str c) o r f lv (.val nr) (.val nf)
set_option tactic.hygienic false
omit hf hb in
theorem amK {x : RF} {tail : List (Str × Slot)} (ht : midP c o tail) : ∃ tail', inn c o x.1 x.2 tail' ∧ bindT (forT (stA plB 2)) (pcv x) (frP cells left (.own (.list g)) tail) = some (frP cells left (.own (.list g)) tail') := by
 obtain ⟨r', f'⟩ := x
 refine hid fun z1 => ?_
 rcases ht with rfl | ⟨r, f, lv, nr, nf, rfl⟩
 · refine z1 ?_
   exact ⟨q4 (.str c) o (.list r') (.dict f'), .inl rfl, by ext⟩
 · refine z1 ?_
   exact ⟨q7 (.str c) o (.list r') (.dict f') lv (.val nr) (.val nf), .inr ⟨_, _, _, rfl⟩, by ext⟩
set_option tactic.hygienic true
theorem akV : ∀ (l : List RF) (g : List CV) (tail : List (Str × Slot)), midP c o tail -> (∀ x ∈ l, PlOk F left lay c x) -> g.length + 2 * l.length ≤ 70000 ->
 ∃ tail', midP c o tail' ∧ loopL (fun c ρ => match bindT (forT (stA plB 2)) c ρ with | some ρ => (sem (GF fn) 10).xss plI ρ | none => none) (l.map pcv) (frP cells left (.own (.list g)) tail) =
  some (.next, frP cells left (.own (.list (g ++ (l.flatMap (two lay c)).map pcv))) tail') := by
 intro l
 induction l with
 | nil => intro g tail ht _ _; exact ⟨tail, ht, by simp [ab2]⟩
 | cons x r ih =>
  intro g tail ht hP hg
  simp only [List.length_cons] at hg
  refine hid fun z0 => ?_
  obtain ⟨t1, ht1, hb1⟩ := amK (cells := cells) (left := left) (g := g) (x := x) ht
  obtain ⟨lv, nr, nf, h2⟩ := akU (cells := cells) (o := o) (g := g) hf hb ht1 (hP x (.head _)) (by omega)
  obtain ⟨t3, ht3, h3⟩ := ih (g ++ (two lay c x).map pcv) (q7 (.str c) o (.list x.1) (.dict x.2) lv (.val nr) (.val nf)) (.inr ⟨_, _, _, _, _, rfl⟩) (fun y hy => hP y (.tail _ hy)) (by rw [List.length_append, List.length_map]; unfold two; simp only [List.length_cons, List.length_nil]; omega)
  refine z0 ?_
  refine ⟨t3, ht3, ?_⟩
  show loopL _ (pcv x :: r.map pcv) _ = _
  rw [aah]
  rw [hb1]
  dsimp only
  rw [h2]
  dsimp only
  rw [h3, List.append_assoc, List.flatMap_cons, List.map_append]
def outP (tail : List (Str × Slot)) : Prop := tail = [] ∨ (∃ c o, midP c o tail)
theorem afg {l : List RF} {tail : List (Str × Slot)} (ht : outP tail) (hP : ∀ x ∈ l, PlOk F left lay c x) (hl : l.length ≤ 30000) :
 ∃ tail', outP tail' ∧ (match bindT (forT (stA dPl.body 1)) (.str c) (frP cells left (.own (.list (l.map pcv))) tail) with | some ρ => (sem (GF fn) 11).xss plB ρ | none => none) =
  some (.next, frP cells left (.own (.list ((l.flatMap (two lay c)).map pcv))) tail') := by
 have hbody : plB = [stA plB 0, stA plB 1, stA plB 2] := by ext
 have pre : ∃ t1, midP c (.list (l.map pcv)) t1 ∧ ∀ {q}, (sem (GF fn) 11).xss [stA plB 2] (frP cells left (.own (.list [])) t1) = q -> (match bindT (forT (stA dPl.body 1)) (.str c) (frP cells left (.own (.list (l.map pcv))) tail) with | some ρ => (sem (GF fn) 11).xss plB ρ | none => none) = q := by
  generalize l.map pcv = G0
  refine hid fun z0 => ?_
  rcases ht with rfl | ⟨c', o', rfl | ⟨r, f, lv, nr, nf, rfl⟩⟩
  · refine z0 ?_
    refine ⟨q2 (.str c) (.list G0), .inl rfl, fun {q} hq => ?_⟩
    have b : bindT (forT (stA dPl.body 1)) (.str c) (frP cells left (.own (.list G0)) []) = some (frP cells left (.own (.list G0)) [("cell", .val (.str c))]) := by ext
    have a0 : (sem (GF fn) 11).xs (stA plB 0) (frP cells left (.own (.list G0)) [("cell", .val (.str c))]) = some (.next, frP cells left (.val (.list G0)) (q2 (.str c) (.list G0))) := by ext
    have a1 : (sem (GF fn) 11).xs (stA plB 1) (frP cells left (.val (.list G0)) (q2 (.str c) (.list G0))) = some (.next, frP cells left (.own (.list [])) (q2 (.str c) (.list G0))) := by ext
    rw [b, hbody]
    exact aaa a0 (aaa a1 hq)
  · refine z0 ?_
    refine ⟨q2 (.str c) (.list G0), .inl rfl, fun {q} hq => ?_⟩
    have b : bindT (forT (stA dPl.body 1)) (.str c) (frP cells left (.own (.list G0)) (q2 (.str c') o')) = some (frP cells left (.own (.list G0)) (q2 (.str c) o')) := by ext
    have a0 : (sem (GF fn) 11).xs (stA plB 0) (frP cells left (.own (.list G0)) (q2 (.str c) o')) = some (.next, frP cells left (.val (.list G0)) (q2 (.str c) (.list G0))) := by ext
    have a1 : (sem (GF fn) 11).xs (stA plB 1) (frP cells left (.val (.list G0)) (q2 (.str c) (.list G0))) = some (.next, frP cells left (.own (.list [])) (q2 (.str c) (.list G0))) := by ext
    rw [b, hbody]
    exact aaa a0 (aaa a1 hq)
  · refine z0 ?_
    refine ⟨q7 (.str c) (.list G0) r f lv (.val nr) (.val nf), .inr ⟨_, _, _, _, _, rfl⟩, fun {q} hq => ?_⟩
    have b : bindT (forT (stA dPl.body 1)) (.str c) (frP cells left (.own (.list G0)) (q7 (.str c') o' r f lv (.val nr) (.val nf))) = some (frP cells left (.own (.list G0)) (q7 (.str c) o' r f lv (.val nr) (.val nf))) := by ext
    have a0 : (sem (GF fn) 11).xs (stA plB 0) (frP cells left (.own (.list G0)) (q7 (.str c) o' r f lv (.val nr) (.val nf))) = some (.next, frP cells left (.val (.list G0)) (q7 (.str c) (.list G0) r f lv (.val nr) (.val nf))) := by ext
    have a1 : (sem (GF fn) 11).xs (stA plB 1) (frP cells left (.val (.list G0)) (q7 (.str c) (.list G0) r f lv (.val nr) (.val nf))) = some (.next, frP cells left (.own (.list [])) (q7 (.str c) (.list G0) r f lv (.val nr) (.val nf))) := by ext
    rw [b, hbody]
    exact aaa a0 (aaa a1 hq)
 refine hid fun z1 => ?_
 obtain ⟨t1, ht1, hpre⟩ := pre
 obtain ⟨t2, ht2, h2⟩ := akV (cells := cells) (left := left) (lay := lay) hf hb l [] t1 ht1 hP (by show 0 + _ ≤ _; lia)
 have hit : (sem (GF fn) 10).items (GF fn) true (forT (stA plB 2)) (forI (stA plB 2)) (frP cells left (.own (.list [])) t1) = some (l.map pcv, frP cells left (.own (.list [])) t1) := by
  refine aaL (c := .list (l.map pcv)) ?_ ?_ rfl (Nat.ble_eq_true_of_le (by rw [List.length_map]; unfold LIM; lia))
  · rcases ht1 with rfl | ⟨r, f, lv, nr, nf, rfl⟩ <;> ext
  · rcases ht1 with rfl | ⟨r, f, lv, nr, nf, rfl⟩ <;> ext
 rw [List.nil_append] at h2
 refine z1 ?_
 exact ⟨t2, .inr ⟨_, _, ht2⟩, hpre (aaa (aa3 hit h2) aaf)⟩
theorem ahM {c0 c1 c2 c3 : SS} {l1 l2 l3 l4 : List RF} (e1 : l1 = [(([] : List CV), ([] : List (SS × CV)))].flatMap (two lay c0)) (e2 : l2 = l1.flatMap (two lay c1)) (e3 : l3 = l2.flatMap (two lay c2)) (e4 : l4 = l3.flatMap (two lay c3))
 (h0 : PlOk F left lay c0 ([], [])) (h1 : ∀ x ∈ l1, PlOk F left lay c1 x) (h2 : ∀ x ∈ l2, PlOk F left lay c2 x) (h3 : ∀ x ∈ l3, PlOk F left lay c3 x) :
 runDef (GF fn) 12 dPl [.list [.str c0, .str c1, .str c2, .str c3], .bool left] [] = some (.list (l4.map pcv), .list []) := by
 have n1 : l1.length = 2 := by rw [e1]; rfl
 have dbl : ∀ (c : SS) (l : List RF), (l.flatMap (two lay c)).length = 2 * l.length := fun c l => by
  induction l with
  | nil => rfl
  | cons a r ih => rw [List.flatMap_cons, List.length_append, ih]; unfold two; simp; lia
 have n2 : l2.length = 4 := by rw [e2, dbl, n1]
 have n3 : l3.length = 8 := by rw [e3, dbl, n2]
 let cs : List CV := [.str c0, .str c1, .str c2, .str c3]
 obtain ⟨t1, ht1, s1⟩ := afg (cells := cs) (left := left) (lay := lay) (c := c0) hf hb (l := [([], [])]) (tail := []) (.inl rfl) (fun x hx => by rw [List.mem_singleton.mp hx]; exact h0) (by decide)
 rw [<- e1] at s1
 refine hid fun z1 => ?_
 obtain ⟨t2, ht2, s2⟩ := afg (cells := cs) (left := left) (lay := lay) (c := c1) hf hb (l := l1) ht1 h1 (by lia)
 rw [<- e2] at s2
 obtain ⟨t3, ht3, s3⟩ := afg (cells := cs) (left := left) (lay := lay) (c := c2) hf hb (l := l2) ht2 h2 (by lia)
 rw [<- e3] at s3
 obtain ⟨t4, ht4, s4⟩ := afg (cells := cs) (left := left) (lay := lay) (c := c3) hf hb (l := l3) ht3 h3 (by lia)
 rw [<- e4] at s4
 have hbody : dPl.body = [stA dPl.body 0, stA dPl.body 1, stA dPl.body 2] := by ext
 have a0 : (sem (GF fn) 12).xs (stA dPl.body 0) ⟨dPl.scope, [("cells", .val (.list cs)), ("by_left", .val (.bool left))]⟩ = some (.next, frP cs left (.own (.list ([([], [])].map pcv))) []) := by ext
 have hit : (sem (GF fn) 11).items (GF fn) true (forT (stA dPl.body 1)) (forI (stA dPl.body 1)) (frP cs left (.own (.list ([([], [])].map pcv))) []) = some (cs, frP cs left (.own (.list ([([], [])].map pcv))) []) := by ext
 have a1 : (sem (GF fn) 12).xs (stA dPl.body 1) (frP cs left (.own (.list ([([], [])].map pcv))) []) = some (.next, frP cs left (.own (.list (l4.map pcv))) t4) := by
  have hloop : loopL (fun c ρ => match bindT (forT (stA dPl.body 1)) c ρ with | some ρ => (sem (GF fn) 11).xss plB ρ | none => none) [.str c0, .str c1, .str c2, .str c3] (frP cs left (.own (.list ([([], [])].map pcv))) []) = some (.next, frP cs left (.own (.list (l4.map pcv))) t4) := by
   rw [aah]
   rw [s1]
   dsimp only
   rw [aah]
   rw [s2]
   dsimp only
   rw [aah]
   rw [s3]
   dsimp only
   rw [aah]
   rw [s4]
   rfl
  exact aa3 hit hloop
 have a2 : ∀ G0, (sem (GF fn) 12).xs (stA dPl.body 2) (frP cs left (.own (.list G0)) t4) = some (.ret (.list G0), frP cs left (.val (.list G0)) t4) := fun G0 => by
  rcases ht4 with rfl | ⟨c', o', rfl | ⟨r, f, lv, nr, nf, rfl⟩⟩ <;> ext
 refine z1 ?_
 exact aak (l := [("cells", .val (.list cs)), ("by_left", .val (.bool left))]) (by ext) (by ext) (by rw [hbody]; exact aaa a0 (aaa a1 (aan (a2 _)))) rfl
end
def dTold : DD := ddG "_law_told_of_dots" (some 3)
noncomputable def nAsk : Str := "_law_asked"
def tlB : List Stmt := forB (stA dTold.body 4)
def D3 : SS := SS.of "..."
def joinS (l : List SS) : SS := ⟨Txt.join (SS.of "").s (l.map (·.s)), joinB 0 l, afZ (SS.of "") l⟩
noncomputable def tail1 (x : SS) : SS := ⟨Txt.slice x.s (some 1) none, x.b, Nat.le_trans (Txt.slice_le x.s (some 1) none) x.h⟩
def casesD (a b c d o mk : SS) : List (SS × SS × Bool) :=
 [(joinS [a, b, c, d], joinS [a, b, c, d], true), (joinS [a, b, c], joinS [a, b, c, d], false), (joinS [b, c, d], joinS [a, b, c, d], false),
  (((joinS [a, b]).app D3).app (joinS [c, d]), joinS [a, b, c, d], true), (((joinS [a, b]).app D3).app (joinS [b, c, d]), joinS [a, b, c, d], false),
  (((a.app D3).app a).app D3, a, false), (((D3.app a).app D3).app a, a, false), ((((D3.app a).app D3).app a).app D3, a.app a, true),
  ((((D3.app a).app D3).app a).app D3, a.app (tail1 a), false), (((mk.app o).app mk).app D3, a, false), (((D3.app mk).app o).app mk, a, false),
  ((((D3.app mk).app (SS.of ".")).app mk).app D3, a, false), ((a.app D3).app a, (a.app (SS.of "\n")).app a, true)]
noncomputable def ccv (x : SS × SS × Bool) : CV := .list [.str x.1, .str x.2.1, .bool x.2.2]
noncomputable def sg (s : Str) (h : s.length ≤ 10) : SS := ⟨s, 10, h⟩
noncomputable def so (s : Str) (h : s.length ≤ 8) : SS := ⟨s, 8, h⟩
def frT (a b c d o : SS) (said : List CV) (tail : List (Str × Slot)) : CE := ⟨dTold.scope, ("text", .val (.list [.str a, .str b, .str c, .str d])) :: ("cell", .val (.str a)) :: ("other", .val (.str o)) :: ("said", .bor (.list said)) :: tail⟩
section
variable {fn : Str -> Option FS} {s0 s1 s2 s3 o : Str} {h0 : s0.length ≤ 10} {h1 : s1.length ≤ 10} {h2 : s2.length ≤ 10} {h3 : s3.length ≤ 10} {ho : o.length ≤ 8} {said : List CV} {m : Nat}
set_option tactic.hygienic true
theorem td_0 : (sem (GF fn) 12).xs (stA dTold.body 0) (frT (sg s0 h0) (sg s1 h1) (sg s2 h2) (sg s3 h3) (so o ho) said []) = some (.next, frT (sg s0 h0) (sg s1 h1) (sg s2 h2) (sg s3 h3) (so o ho) said [("whole", .val (.str (joinS [(sg s0 h0), (sg s1 h1), (sg s2 h2), (sg s3 h3)])))]) := by ext
theorem td_1 : (sem (GF fn) 12).xs (stA dTold.body 1) (frT (sg s0 h0) (sg s1 h1) (sg s2 h2) (sg s3 h3) (so o ho) said [("whole", .val (.str (joinS [(sg s0 h0), (sg s1 h1), (sg s2 h2), (sg s3 h3)])))]) = some (.next, frT (sg s0 h0) (sg s1 h1) (sg s2 h2) (sg s3 h3) (so o ho) said [("whole", .val (.str (joinS [(sg s0 h0), (sg s1 h1), (sg s2 h2), (sg s3 h3)]))), ("two", .val (.str (joinS [(sg s0 h0), (sg s1 h1)])))]) := by ext
theorem td_2 (hm : subC (.str (sg s0 h0)) (.int 0) = some (.str (chS m))) : (sem (GF fn) 12).xs (stA dTold.body 2) (frT (sg s0 h0) (sg s1 h1) (sg s2 h2) (sg s3 h3) (so o ho) said [("whole", .val (.str (joinS [(sg s0 h0), (sg s1 h1), (sg s2 h2), (sg s3 h3)]))), ("two", .val (.str (joinS [(sg s0 h0), (sg s1 h1)])))]) =
 some (.next, frT (sg s0 h0) (sg s1 h1) (sg s2 h2) (sg s3 h3) (so o ho) said [("whole", .val (.str (joinS [(sg s0 h0), (sg s1 h1), (sg s2 h2), (sg s3 h3)]))), ("two", .val (.str (joinS [(sg s0 h0), (sg s1 h1)]))), ("mark", .val (.str (chS m)))]) :=
 aaG (ρ1 := frT (sg s0 h0) (sg s1 h1) (sg s2 h2) (sg s3 h3) (so o ho) said [("whole", .val (.str (joinS [(sg s0 h0), (sg s1 h1), (sg s2 h2), (sg s3 h3)]))), ("two", .val (.str (joinS [(sg s0 h0), (sg s1 h1)])))]) (by ext) (by ext) (adz (a := .str (sg s0 h0)) (b := .int 0) (by ext) hm) (by ext) (by ext)
def tdT (a b c d o : SS) (m : Nat) (rest : List (Str × Slot)) : List (Str × Slot) := ("whole", .val (.str (joinS [a, b, c, d]))) :: ("two", .val (.str (joinS [a, b]))) :: ("mark", .val (.str (chS m))) :: ("cases", .val (.list ((casesD a b c d o (chS m)).map ccv))) :: rest
theorem td_3 : (sem (GF fn) 12).xs (stA dTold.body 3) (frT (sg s0 h0) (sg s1 h1) (sg s2 h2) (sg s3 h3) (so o ho) said [("whole", .val (.str (joinS [(sg s0 h0), (sg s1 h1), (sg s2 h2), (sg s3 h3)]))), ("two", .val (.str (joinS [(sg s0 h0), (sg s1 h1)]))), ("mark", .val (.str (chS m)))]) = some (.next, frT (sg s0 h0) (sg s1 h1) (sg s2 h2) (sg s3 h3) (so o ho) said (tdT (sg s0 h0) (sg s1 h1) (sg s2 h2) (sg s3 h3) (so o ho) m [])) := by ext
noncomputable def tdR (w g : SS) (b : Bool) : List (Str × Slot) := [("want", .val (.str w)), ("got", .val (.str g)), ("due", .val (.bool b))]
def okD (tail : List (Str × Slot)) : Prop := tail = [] ∨ ∃ w g b, tail = tdR w g b
set_option tactic.hygienic false
theorem ajD {w g : SS} {b : Bool} {tail : List (Str × Slot)} (ht : okD tail) : bindT (forT (stA dTold.body 4)) (ccv (w, g, b)) (frT (sg s0 h0) (sg s1 h1) (sg s2 h2) (sg s3 h3) (so o ho) said (tdT (sg s0 h0) (sg s1 h1) (sg s2 h2) (sg s3 h3) (so o ho) m tail)) = some (frT (sg s0 h0) (sg s1 h1) (sg s2 h2) (sg s3 h3) (so o ho) said (tdT (sg s0 h0) (sg s1 h1) (sg s2 h2) (sg s3 h3) (so o ho) m (tdR w g b))) := by
 rcases ht with rfl | ⟨w', g', b', rfl⟩ <;> ext
variable {F : FS} (hf : fn nAsk = some F) (hb : F.bor = some 2)
include hf hb
set_option tactic.hygienic true
theorem ajE {w g : SS} {b : Bool} (hr : F.run [.str w, .str g, .list said] [] = some (.bool b, .list (said ++ [.bool b]))) :
 (sem (GF fn) 11).xss tlB (frT (sg s0 h0) (sg s1 h1) (sg s2 h2) (sg s3 h3) (so o ho) said (tdT (sg s0 h0) (sg s1 h1) (sg s2 h2) (sg s3 h3) (so o ho) m (tdR w g b))) = some (.next, frT (sg s0 h0) (sg s1 h1) (sg s2 h2) (sg s3 h3) (so o ho) (said ++ [.bool b]) (tdT (sg s0 h0) (sg s1 h1) (sg s2 h2) (sg s3 h3) (so o ho) m (tdR w g b))) := by
 have hbody : tlB = [stA tlB 0] := by ext
 have hcall : (sem (GF fn) 10).it (ifT (stA tlB 0)) (frT (sg s0 h0) (sg s1 h1) (sg s2 h2) (sg s3 h3) (so o ho) said (tdT (sg s0 h0) (sg s1 h1) (sg s2 h2) (sg s3 h3) (so o ho) m (tdR w g b))) = some (false, frT (sg s0 h0) (sg s1 h1) (sg s2 h2) (sg s3 h3) (so o ho) (said ++ [.bool b]) (tdT (sg s0 h0) (sg s1 h1) (sg s2 h2) (sg s3 h3) (so o ho) m (tdR w g b))) := by
  refine aaH (x := .bool b) (y := .bool b) (by ext) (aee (a := .val (.bool b)) (b := .val (.bool b)) (ρ1 := frT (sg s0 h0) (sg s1 h1) (sg s2 h2) (sg s3 h3) (so o ho) (said ++ [.bool b]) (tdT (sg s0 h0) (sg s1 h1) (sg s2 h2) (sg s3 h3) (so o ho) m (tdR w g b))) (aaQ (by ext) (by ext) (aar hf (by ext)) ?_) (by ext) rfl rfl) (by cases b <;> rfl)
  exact aay (x := "said") (o := .list said) (o' := CO.list (said ++ [CV.bool b])) (c := CV.bool b) (cs := [.str w, .str g, .none]) (kvs := []) (avs := [.val (.str w), .val (.str g), .ref "said"]) hb (aac (by ext) (aac (by ext) (aac (by ext) aad))) (by ext) rfl rfl (by ext) hr (by ext)
 rw [hbody]
 exact aaa (aaD hcall (by ext)) aaf
theorem ajF : ∀ (l : List (SS × SS × Bool)) (said : List CV) (tail : List (Str × Slot)), okD tail -> (∀ x ∈ l, ∀ said : List CV, said.length ≤ 90000 -> F.run [.str x.1, .str x.2.1, .list said] [] = some (.bool x.2.2, .list (said ++ [.bool x.2.2]))) -> said.length + l.length ≤ 90000 ->
 ∃ tail', okD tail' ∧ loopL (fun c ρ => match bindT (forT (stA dTold.body 4)) c ρ with | some ρ => (sem (GF fn) 11).xss tlB ρ | none => none) (l.map ccv) (frT (sg s0 h0) (sg s1 h1) (sg s2 h2) (sg s3 h3) (so o ho) said (tdT (sg s0 h0) (sg s1 h1) (sg s2 h2) (sg s3 h3) (so o ho) m tail)) =
  some (.next, frT (sg s0 h0) (sg s1 h1) (sg s2 h2) (sg s3 h3) (so o ho) (said ++ l.map fun x => CV.bool x.2.2) (tdT (sg s0 h0) (sg s1 h1) (sg s2 h2) (sg s3 h3) (so o ho) m tail')) := by
 intro l
 induction l with
 | nil => intro said tail ht _ _; exact ⟨tail, ht, by simp [ab2]⟩
 | cons x r ih =>
  intro said tail ht hx hl
  obtain ⟨w, g, b⟩ := x
  simp only [List.length_cons] at hl
  have ht1 := ajE (s0 := s0) (s1 := s1) (s2 := s2) (s3 := s3) (h0 := h0) (h1 := h1) (h2 := h2) (h3 := h3) (o := o) (ho := ho) (m := m) hf hb (hx _ (.head _) said (by omega))
  obtain ⟨t2, ht2, h2'⟩ := ih (said ++ [.bool b]) (tdR w g b) (.inr ⟨_, _, _, rfl⟩) (fun y hy => hx y (.tail _ hy)) (by rw [List.length_append]; simp; omega)
  refine ⟨t2, ht2, ?_⟩
  show loopL _ (ccv (w, g, b) :: r.map ccv) _ = _
  rw [aah]
  rw [ajD ht]
  dsimp only
  rw [ht1]
  dsimp only
  rw [h2', List.append_assoc]
  rfl
set_option tactic.hygienic false
theorem told (hm : subC (.str (sg s0 h0)) (.int 0) = some (.str (chS m))) (hask : ∀ x ∈ casesD (sg s0 h0) (sg s1 h1) (sg s2 h2) (sg s3 h3) (so o ho) (chS m), ∀ said : List CV, said.length ≤ 90000 -> F.run [.str x.1, .str x.2.1, .list said] [] = some (.bool x.2.2, .list (said ++ [.bool x.2.2]))) (hl : said.length ≤ 80000) :
 runDef (GF fn) 12 dTold [.list [.str (sg s0 h0), .str (sg s1 h1), .str (sg s2 h2), .str (sg s3 h3)], .str (sg s0 h0), .str (so o ho), .list said] [] = some (.bool true, .list (said ++ (casesD (sg s0 h0) (sg s1 h1) (sg s2 h2) (sg s3 h3) (so o ho) (chS m)).map fun x => CV.bool x.2.2)) := by
 have hbody : dTold.body = [stA dTold.body 0, stA dTold.body 1, stA dTold.body 2, stA dTold.body 3, stA dTold.body 4, stA dTold.body 5] := by ext
 obtain ⟨t2, ht2, hloop⟩ := ajF (s0 := s0) (s1 := s1) (s2 := s2) (s3 := s3) (h0 := h0) (h1 := h1) (h2 := h2) (h3 := h3) (o := o) (ho := ho) (m := m) hf hb (casesD (sg s0 h0) (sg s1 h1) (sg s2 h2) (sg s3 h3) (so o ho) (chS m)) said [] (.inl rfl) hask (by show said.length + 13 ≤ _; omega)
 have hit : (sem (GF fn) 11).items (GF fn) true (forT (stA dTold.body 4)) (forI (stA dTold.body 4)) (frT (sg s0 h0) (sg s1 h1) (sg s2 h2) (sg s3 h3) (so o ho) said (tdT (sg s0 h0) (sg s1 h1) (sg s2 h2) (sg s3 h3) (so o ho) m [])) = some ((casesD (sg s0 h0) (sg s1 h1) (sg s2 h2) (sg s3 h3) (so o ho) (chS m)).map ccv, frT (sg s0 h0) (sg s1 h1) (sg s2 h2) (sg s3 h3) (so o ho) said (tdT (sg s0 h0) (sg s1 h1) (sg s2 h2) (sg s3 h3) (so o ho) m [])) := by ext
 have hr : ∀ ρ, (sem (GF fn) 12).xs (stA dTold.body 5) ρ = some (.ret (.bool true), ρ) := fun ρ => by ext
 refine aak (l := [("text", .val (.list [.str (sg s0 h0), .str (sg s1 h1), .str (sg s2 h2), .str (sg s3 h3)])), ("cell", .val (.str (sg s0 h0))), ("other", .val (.str (so o ho))), ("said", .bor (.list said))]) (by ext) (by ext) ?_ ?_ (ρ := frT (sg s0 h0) (sg s1 h1) (sg s2 h2) (sg s3 h3) (so o ho) (said ++ (casesD (sg s0 h0) (sg s1 h1) (sg s2 h2) (sg s3 h3) (so o ho) (chS m)).map fun x => CV.bool x.2.2) (tdT (sg s0 h0) (sg s1 h1) (sg s2 h2) (sg s3 h3) (so o ho) m t2))
 · rw [hbody]
   exact aaa td_0 (aaa td_1 (aaa (td_2 hm) (aaa td_3 (aaa (aa3 hit hloop) (aan (hr _))))))
 · rfl
end
section
variable {G : GE} {n : Nat} {ρ ρ1 ρ2 ρ3 ρ4 : CE}
set_option tactic.hygienic true
theorem agI {d : Str} {i e : Expr} {dp ip pos : Pos} {op : Operator} {kv a b c : CV} {o o' : CO} (hn : (nameOk d && notSlice i) = true) (h0 : ownAt ρ d = some o) (h1 : (sem G n).ev i ρ = some (.val kv, ρ)) (h2 : subC o.cv kv = some a) (h3 : (sem G n).ev e ρ = some (.val b, ρ)) (h4 : augC op a b = some c) (h5 : setC o kv c = some o') (he : ρ.set d (reown (ρ.get d) o') = ρ1) :
 (sem G (n + 1)).xs (.AugAssign (.Subscript (.Name d dp) i ip) op e pos) ρ = some (.next, ρ1) := by
 rw [aaB]
 dsimp only [stepS]
 unfold xsStep
 dsimp only [l1, l2, eName, eAttr, eSub, eTup, eCall, eSlice, List.isEmpty, asgN, asgP, asgS, augN, augS, delS]
 rw [hn, h0]
 dsimp only
 rw [h1]
 dsimp only
 rw [h0]
 dsimp only
 rw [h2]
 dsimp only
 rw [h3]
 dsimp only
 rw [h4]
 dsimp only
 rw [h0]
 dsimp only
 rw [h5]
 dsimp only
 rw [he]
set_option tactic.hygienic false
theorem acP {S : SM} {elt : Expr} {g : Comprehension} {gs : List Comprehension} {sc : Scope} {l0 l : List (Str × Slot)} {its acc : List CV} (h0 : (scOk sc && asyncNone (g :: gs)) = true) (ht0 : taken ρ sc.names = some l0) (hi : S.items G false g.target g.iter ρ = some (its, ρ1)) (ht : taken ρ1 sc.names = some l)
 (ha : accL (compL G S elt (g :: gs)) its ⟨sc, l⟩ [] = some (acc, ρ2)) : S.comp G elt (g :: gs) sc ρ = some (acc, ρ1) := by
 unfold SM.comp
 rw [h0]; dsimp only; rw [ht0]; dsimp only; rw [hi]; dsimp only; rw [ht]; dsimp only; rw [ha]
theorem aaA {step : CV -> CE -> List CV -> Option (List CV × CE)} {c : CV} {r acc acc1 : List CV} {q : Option (List CV × CE)} (h : step c ρ acc = some (acc1, ρ1)) (k : accL step r ρ1 acc1 = q) : accL step (c :: r) ρ acc = q := by
 rw [aks]; rw [h]; exact k
theorem adC {step : CV -> CE -> List CV -> Option (List CV × CE)} {acc : List CV} : accL step [] ρ acc = some (acc, ρ) := rfl
theorem ab7 {S : SM} {elt : Expr} {g : Comprehension} {c v : CV} {acc : List CV} (hb : bindT g.target c ρ = some ρ1) (hi : ifsL S g.ifs ρ1 = some (true, ρ2)) (he : S.ev elt ρ2 = some (.val v, ρ3)) (hl : acc.length ≤ LIM) : compL G S elt [g] c ρ acc = some (acc ++ [v], ρ3) := by
 show (match bindT g.target c ρ with | none => none | some ρ => match ifsL S g.ifs ρ with | none => none | some (false, ρ) => some (acc, ρ) | some (true, ρ) => match S.ev elt ρ with | some (.val v, ρ) => (match Nat.ble acc.length LIM with | true => some (acc ++ [v], ρ) | false => none) | _ => none) = _
 rw [hb]; dsimp only; rw [hi]; dsimp only; rw [he]; dsimp only; rw [Nat.ble_eq_true_of_le hl]
theorem ab8 {S : SM} {elt : Expr} {g : Comprehension} {gs : List Comprehension} {c : CV} {acc : List CV} (hb : bindT g.target c ρ = some ρ1) (hi : ifsL S g.ifs ρ1 = some (false, ρ2)) : compL G S elt (g :: gs) c ρ acc = some (acc, ρ2) := by
 show (match bindT g.target c ρ with | none => none | some ρ => match ifsL S g.ifs ρ with | none => none | some (false, ρ) => some (acc, ρ) | some (true, ρ) => match gs with | [] => (match S.ev elt ρ with | some (.val v, ρ) => (match Nat.ble acc.length LIM with | true => some (acc ++ [v], ρ) | false => none) | _ => none) | g' :: _ => match S.items G true g'.target g'.iter ρ with | none => none | some (cs, ρ) => accL (compL G S elt gs) cs ρ acc) = _
 rw [hb]; dsimp only; rw [hi]
set_option tactic.hygienic true
theorem afh {x : Str} {p cp pos : Pos} {elt : Expr} {gens : List Comprehension} {sc : Scope} {cs : List CV} (h : (sem G n).comp G elt gens sc ρ = some (cs, ρ1)) (hc : (canSet ρ1 x && noView ρ1) = true) (ho : G.owns x = false) (he : ρ1.set x (.val (.list cs)) = ρ2) :
 (sem G (n + 1)).xs (.Assign [.Name x p] (.ListComp elt gens sc cp) pos) ρ = some (.next, ρ2) := by
 refine aez (k := .comp elt gens sc) (o := .list cs) rfl rfl ?_ hc ho he
 unfold SM.make
 dsimp only
 rw [h]
set_option tactic.hygienic false
theorem adD {cp : Pos} {elt : Expr} {gens : List Comprehension} {sc : Scope} {cs : List CV} (h : (sem G n).comp G elt gens sc ρ = some (cs, ρ1)) (hc : noView ρ1 = true) : (sem G (n + 1)).ev (.ListComp elt gens sc cp) ρ = some (.val (.list cs), ρ1) := by
 rw [aaB]
 dsimp only [stepS]
 unfold evStep evN
 dsimp only [mkOf, l1, l2, eName, eAttr, eSub, eTup, eCall, eSlice, List.isEmpty]
 unfold SM.make
 dsimp only
 rw [h]
 dsimp only
 rw [hc]
 rfl
end
def dLaw : DD := ddG "law" none
def V0 (cs : List CV) (vs : List (Str × Slot)) : CE := ⟨dLaw.scope, ("script", .val (.list cs)) :: vs⟩
def lawS (i : Nat) : Stmt := stA dLaw.body i
section
variable {fn : Str -> Option FS} {cs : List CV} {a b : Int}
noncomputable def w1 (a b : Int) (t : List (Str × Slot)) : List (Str × Slot) := ("cells", .own (.list [.int a, .int b])) :: t
noncomputable def pn (i : Int) (x : Int) : List (Str × Slot) := [("place", .val (.int i)), ("number", .val (.int x))]
set_option tactic.hygienic true
theorem amL : (sem (GF fn) 20).xs (lawS 0) (V0 cs []) = some (.next, V0 cs (w1 1346119 1698405 [])) := by ext
def okN (t : List (Str × Slot)) : Prop := t = [] ∨ ∃ i x, t = pn i x
set_option tactic.hygienic false
theorem akW {i : Nat} {x : Int} {t : List (Str × Slot)} (ht : okN t) : bindT (forT (lawS 1)) (.tup [.int i, .int x]) (V0 cs (w1 a b t)) = some (V0 cs (w1 a b (pn i x))) := by
 rcases ht with rfl | ⟨j, y, rfl⟩ <;> ext
set_option tactic.hygienic true
theorem akX {i : Nat} {x : Int} : ∃ a' b', (sem (GF fn) 19).xss (forB (lawS 1)) (V0 cs (w1 a b (pn i x))) = some (.next, V0 cs (w1 a' b' (pn i x))) := by
 have hbody : forB (lawS 1) = [stA (forB (lawS 1)) 0] := by ext
 obtain ⟨m, hm, he⟩ := aba (w := i) (k := 2) (by decide)
 have hi : (sem (GF fn) 18).ev (.BinOp (.Name "place" default) .Mod (.Constant (.int 2) 0 default) default) (V0 cs (w1 a b (pn i x))) = some (.val (.int (Int.fmod i 2)), V0 cs (w1 a b (pn i x))) := by ext
 rw [hbody]
 match m, hm with
 | 0, _ =>
  refine ⟨a + Int.fmod x 1000000, b, aaa (agI (o := .list [.int a, .int b]) (kv := .int 0) (a := .int a) (b := .int (Int.fmod x 1000000)) (c := .int (a + Int.fmod x 1000000)) (o' := .list [.int (a + Int.fmod x 1000000), .int b]) (by ext) (by ext) (acf (x := .int i) (y := .int 2) (by ext) (by show some (CV.int (Int.fmod i 2)) = _; rw [show Int.fmod (i : Int) 2 = 0 from he])) (by ext) (by ext) (by ext) (by ext) (by ext)) aaf⟩
 | 1, _ =>
  refine ⟨a, b + Int.fmod x 1000000, aaa (agI (o := .list [.int a, .int b]) (kv := .int 1) (a := .int b) (b := .int (Int.fmod x 1000000)) (c := .int (b + Int.fmod x 1000000)) (o' := .list [.int a, .int (b + Int.fmod x 1000000)]) (by ext) (by ext) (acf (x := .int i) (y := .int 2) (by ext) (by show some (CV.int (Int.fmod i 2)) = _; rw [show Int.fmod (i : Int) 2 = 1 from he])) (by ext) (by ext) (by ext) (by ext) (by ext)) aaf⟩
theorem akY : ∀ (xs : List Int) (j : Nat) (a b : Int) (t : List (Str × Slot)), okN t -> ∃ a' b' t', okN t' ∧
 loopL (fun c ρ => match bindT (forT (lawS 1)) c ρ with | some ρ => (sem (GF fn) 19).xss (forB (lawS 1)) ρ | none => none) (enumC j (xs.map .int)) (V0 cs (w1 a b t)) = some (.next, V0 cs (w1 a' b' t')) := by
 intro xs
 induction xs with
 | nil => intro j a b t ht; exact ⟨a, b, t, ht, rfl⟩
 | cons x r ih =>
  intro j a b t ht
  refine hid fun z0 => ?_
  obtain ⟨a1, b1, h1⟩ := akX (fn := fn) (cs := cs) (a := a) (b := b) (i := j) (x := x)
  obtain ⟨a', b', t', ht', h2⟩ := ih (j + 1) a1 b1 (pn j x) (.inr ⟨_, _, rfl⟩)
  refine z0 ?_
  refine ⟨a', b', t', ht', ?_⟩
  show loopL _ (.tup [.int j, .int x] :: enumC (j + 1) (r.map .int)) _ = _
  rw [aah]
  rw [akW ht]
  dsimp only
  rw [h1]
  exact h2
set_option tactic.hygienic false
theorem afR {G : GE} {n : Nat} {ρ ρ1 : CE} {f : Str} {p pos tp : Pos} {k : Bool} {ts : List Expr} {kk : Nat} {x : Expr} {cs : List CV} (hb : isBlt G ρ f = true) (hf : (f == nEnumerate) = true) (h : (sem G n).evk k x ρ = some (.list cs, ρ1)) (hl : cs.length ≤ LIM) :
 (sem G n).items G k (.Tuple ts kk tp) (.Call (.Name f p) [x] [] pos) ρ = some (enumC 0 cs, ρ1) := by
 have hf' : (f == nRange) = false := by rw [beq_iff_eq.mp hf]; decide
 have hs : srcOf G ρ (.Call (.Name f p) [x] [] pos) = .enum x := by rw [ac2 G hb]; unfold srcB; rw [hf']; dsimp only; rw [hf]; rfl
 unfold SM.items
 rw [hs]
 dsimp only [isTupT]
 rw [h]
 dsimp only
 rw [Nat.ble_eq_true_of_le hl]
set_option tactic.hygienic true
theorem amM {xs : List Int} (hl : xs.length ≤ 63) : ∃ a b, (sem (GF fn) 20).xs (lawS 1) (V0 (xs.map .int) (w1 1346119 1698405 [])) = some (.next, V0 (xs.map .int) (w1 a b [])) := by
 refine hid fun z0 => ?_
 obtain ⟨a, b, t, ht, h⟩ := akY (fn := fn) (cs := xs.map .int) xs 0 1346119 1698405 [] (.inl rfl)
 refine z0 ?_
 refine ⟨a, b, agt (afR (ρ1 := V0 (xs.map .int) (w1 1346119 1698405 [])) (cs := xs.map .int) (by ext) (by ext) (by ext) (by rw [List.length_map]; unfold LIM; omega)) ?_⟩
 show dropF _ (loopL (fun c ρ => match bindT (forT (lawS 1)) c ρ with | some ρ => (sem (GF fn) 19).xss (forB (lawS 1)) ρ | none => none) (enumC 0 (xs.map .int)) (V0 (xs.map .int) (w1 1346119 1698405 []))) = _
 rw [h]
 rcases ht with rfl | ⟨i, y, rfl⟩ <;> ext
end
def opsV : CV := .list (opsL.map fun s => .str (SS.pad s))
noncomputable def poolN : List Nat := [0, 1, 2, 3, 4, 5, 6, 7, 8, 9, 10, 11, 12, 13, 14, 15, 17, 18, 19, 20, 21, 22, 23, 24, 25, 26, 27, 28, 29, 30, 31, 32, 33, 34, 35, 36, 37, 38, 39, 40, 41, 42, 43, 44, 46, 47]
noncomputable def iv (l : List Nat) : List CV := l.map fun (n : Nat) => CV.int (n : Int)
def U (cs : List CV) (a b : Int) (t r : List (Str × Slot)) : CE := V0 cs (("cells", .own (.list [.int a, .int b])) :: (t ++ r))
def r2 (r : List (Str × Slot)) : List (Str × Slot) := ("operators", .val opsV) :: r
def r3 (p : List Nat) (r : List (Str × Slot)) : List (Str × Slot) := r2 (("pool", .own (.list (iv p))) :: r)
def r4 (p : List Nat) (q : Int) (r : List (Str × Slot)) : List (Str × Slot) := r3 p (("rest", .val (.int q)) :: r)
def r5 (p : List Nat) (q : Int) (d : List Nat) (r : List (Str × Slot)) : List (Str × Slot) := r4 p q (("drawn", .own (.list (iv d))) :: r)
def r6 (p : List Nat) (q : Int) (d : List Nat) (k : Int) (r : List (Str × Slot)) : List (Str × Slot) := r5 p q d (("size", .val (.int k)) :: r)
section
variable {fn : Str -> Option FS} {cs : List CV} {a b q k : Int} {t : List (Str × Slot)} {p d : List Nat}
set_option tactic.hygienic true
theorem amN {F : FS} (hf : fn nOps = some F) (hb : F.bor = none) (hr : F.run [] [] = some (opsV, .list [])) : (sem (GF fn) 20).xs (lawS 2) (U cs a b [] []) = some (.next, U cs a b [] (r2 [])) := by
 exact aaG (ρ1 := U cs a b [] []) (abN (aar hf (by ext))) (by ext) (aaQ (by ext) (by ext) (aar hf (by ext)) (aas (kvs := []) (cs := []) (avs := []) hb aad (by ext) rfl hr)) (by ext) (by ext)
theorem amO : (sem (GF fn) 20).xs (lawS 3) (U cs a b [] (r2 [])) = some (.next, U cs a b [] (r3 poolN [])) := by
 ext
theorem amP : (sem (GF fn) 20).xs (lawS 4) (U cs a b [] (r3 p [])) = some (.next, U cs a b [] (r4 p a [])) := by
 ext
theorem amQ : (sem (GF fn) 20).xs (lawS 5) (U cs a b [] (r4 p q [])) = some (.next, U cs a b [] (r5 p q [] [])) := by
 ext
set_option tactic.hygienic false
theorem ajG : bindT (forT (lawS 6)) (.int k) (U cs a b [] (r5 p q d [])) = some (U cs a b [] (r6 p q d k [])) := by
 ext
theorem aeA {k' : Int} : bindT (forT (lawS 6)) (.int k) (U cs a b [] (r6 p q d k' [])) = some (U cs a b [] (r6 p q d k [])) := by
 ext
theorem popC {l : List CV} {m : Nat} {c : CV} (h : l[m]? = some c) (hl : l.length ≤ 1000) : mutC .pop (.list l) [.int (m : Int)] = some (c, .list (l.eraseIdx m)) := by
 have hlt : m < l.length := by
  rcases Nat.lt_or_ge m l.length with q | q
  · exact q
  · rw [List.getElem?_eq_none q] at h; cases h
 have e : seqIndex? (m : Int) l.length = some m := by
  unfold seqIndex?
  simp
  omega
 have e2 : Nat.ble l.length LIM = true := Nat.ble_eq_true_of_le (by unfold LIM; omega)
 unfold mutC
 dsimp only [l1, l2, cvInt]
 rw [e]; dsimp only; rw [h]; dsimp only; rw [e2]
theorem akZ {l : List Nat} {m x : Nat} (h : l[m]? = some x) : (iv l)[m]? = some (.int (x : Int)) := by
 unfold iv; rw [List.getElem?_map, h]; rfl
theorem afi : ∀ {l : List Nat} {m : Nat}, (iv l).eraseIdx m = iv (l.eraseIdx m)
 | [], m => by cases m <;> rfl
 | x :: r, 0 => rfl
 | x :: r, m + 1 => by
  show .int (x : Int) :: (iv r).eraseIdx m = .int (x : Int) :: iv (r.eraseIdx m)
  rw [afi]
theorem ajH {l : List Nat} {x : Nat} : iv l ++ [.int (x : Int)] = iv (l ++ [x]) := by
 unfold iv; rw [List.map_append]; rfl
set_option tactic.hygienic true
theorem afj {m x : Nat} (hm : Int.fmod q k = m) (hk : 0 < k ∧ k ≤ 1000) (hx : p[m]? = some x) (hp : p.length ≤ 900) (hd : d.length ≤ 900) :
 (sem (GF fn) 19).xss (forB (lawS 6)) (U cs a b [] (r6 p q d k [])) = some (.next, U cs a b [] (r6 (p.eraseIdx m) (Int.fdiv q k) (d ++ [x]) k [])) := by
 have hbody : forB (lawS 6) = [stA (forB (lawS 6)) 0, stA (forB (lawS 6)) 1] := by ext
 have hpl : (iv p).length ≤ 1000 := by unfold iv; rw [List.length_map]; omega
 have hdl : (iv d).length ≤ LIM := by unfold iv LIM; rw [List.length_map]; omega
 have hmod : binC .Mod (.int q) (.int k) = some (.int (m : Int)) := by
  show (match decide (k = 0) with | true => none | false => some (CV.int (Int.fmod q k))) = _
  rw [decide_eq_false (by omega), hm]
 have hdiv : augC .FloorDiv (.int q) (.int k) = some (.int (Int.fdiv q k)) := by
  show (match decide (k = 0) || !small k with | true => none | false => some (CV.int (Int.fdiv q k))) = _
  have : small k = true := by unfold small; rw [decide_eq_true (by omega), decide_eq_true (by omega)]; rfl
  rw [decide_eq_false (by omega), this]; rfl
 have pop := popC (akZ hx) hpl
 rw [afi] at pop
 have app := appC (c := .int (x : Int)) hdl
 rw [ajH] at app
 rw [hbody]
 refine aaa (ρ1 := U cs a b [] (r6 (p.eraseIdx m) q (d ++ [x]) k [])) (abB (by ext) (agG (x := "drawn") (c0 := .list (iv d)) (k := .append) (avs := [.val (.int x)]) (cs := [.int x]) (ob := .list (iv d)) (ob' := .list (iv (d ++ [x]))) (ρ1 := U cs a b [] (r6 p q d k [])) (ρ2 := U cs a b [] (r6 (p.eraseIdx m) q d k [])) (ρ3 := U cs a b [] (r6 (p.eraseIdx m) q d k [])) (by ext) (by ext) (by ext) (by ext) (by ext) rfl
  (aaU (ρ1 := U cs a b [] (r6 (p.eraseIdx m) q d k [])) (adc (x := "pool") (c0 := .list (iv p)) (k := .pop) (avs := [.val (.int m)]) (cs := [.int m]) (ob := .list (iv p)) (ob' := .list (iv (p.eraseIdx m))) (by ext) (by ext) (by ext) (by ext) (by ext) rfl (aac (acf (x := .int q) (y := .int k) (by ext) hmod) aad) rfl (by ext) pop (by ext)) aad) rfl (by ext) app (by ext))) (aaa (afc (a := .int q) (b := .int k) (c := .int (Int.fdiv q k)) (by ext) (by ext) (by ext) hdiv (by ext) (by ext)) aaf)
end
set_option tactic.hygienic false
theorem pick {p : List Nat} {m : Nat} (hn : p.Nodup) (hm : m < p.length) : ∃ x, p[m]? = some x ∧ x ∈ p ∧ (p.eraseIdx m).Nodup ∧ x ∉ p.eraseIdx m ∧ (∀ y ∈ p.eraseIdx m, y ∈ p) ∧ (p.eraseIdx m).length = p.length - 1 := by
 refine ⟨p[m], List.getElem?_eq_getElem hm, List.getElem_mem hm, hn.sublist (List.eraseIdx_sublist _ _), ?_, fun y hy => (List.eraseIdx_sublist _ _).subset hy, List.length_eraseIdx_of_lt hm⟩
 intro h
 obtain ⟨i, hi, hne, he⟩ := List.mem_eraseIdx_iff_getElem.mp h
 exact hne ((List.getElem_inj hn).mp he)
section
variable {fn : Str -> Option FS} {cs : List CV} {a b q k : Int} {t : List (Str × Slot)} {p d : List Nat}
set_option tactic.hygienic true
theorem amR : ∃ x0 x1 x2 x3 p' q', [x0, x1, x2, x3].Nodup ∧ (∀ x ∈ [x0, x1, x2, x3], x ∈ poolN) ∧ (sem (GF fn) 20).xs (lawS 6) (U cs a b [] (r5 poolN q [] [])) = some (.next, U cs a b [] (r6 p' q' [x0, x1, x2, x3] 43 [])) := by
 have hn : poolN.Nodup := by decide
 obtain ⟨m0, l0, e0⟩ := aba (w := q) (k := 46) (by decide)
 obtain ⟨x0, g0, i0, n0, z0, s0, c0⟩ := pick hn (m := m0) l0
 have L0 : (poolN.eraseIdx m0).length = 45 := c0
 obtain ⟨m1, l1, e1⟩ := aba (w := Int.fdiv q 46) (k := 45) (by decide)
 obtain ⟨x1, g1, i1, n1, z1, s1, c1⟩ := pick n0 (m := m1) (by omega)
 refine hid fun z4 => ?_
 obtain ⟨m2, l2, e2⟩ := aba (w := Int.fdiv (Int.fdiv q 46) 45) (k := 44) (by decide)
 obtain ⟨x2, g2, i2, n2, z2, s2, c2⟩ := pick n1 (m := m2) (by omega)
 obtain ⟨m3, l3, e3⟩ := aba (w := Int.fdiv (Int.fdiv (Int.fdiv q 46) 45) 44) (k := 43) (by decide)
 obtain ⟨x3, g3, i3, n3, z3, s3, c3⟩ := pick n2 (m := m3) (by omega)
 have t0 := afj (fn := fn) (cs := cs) (a := a) (b := b) (d := []) e0 (by decide) g0 (by decide) (by decide)
 have t1 := afj (fn := fn) (cs := cs) (a := a) (b := b) (d := [x0]) e1 (by decide) g1 (by lia) (by show 1 ≤ 900; decide)
 have t2 := afj (fn := fn) (cs := cs) (a := a) (b := b) (d := [x0, x1]) e2 (by decide) g2 (by lia) (by show 2 ≤ 900; decide)
 have t3 := afj (fn := fn) (cs := cs) (a := a) (b := b) (d := [x0, x1, x2]) e3 (by decide) g3 (by lia) (by show 3 ≤ 900; decide)
 have hit : (sem (GF fn) 19).items (GF fn) true (forT (lawS 6)) (forI (lawS 6)) (U cs a b [] (r5 poolN q [] [])) = some ([.int 46, .int 45, .int 44, .int 43], U cs a b [] (r5 poolN q [] [])) := (by ext)
 have hloop : loopL (fun c ρ => match bindT (forT (lawS 6)) c ρ with | some ρ => (sem (GF fn) 19).xss (forB (lawS 6)) ρ | none => none) [.int 46, .int 45, .int 44, .int 43] (U cs a b [] (r5 poolN q [] [])) = some (.next, U cs a b [] (r6 ((((poolN.eraseIdx m0).eraseIdx m1).eraseIdx m2).eraseIdx m3) (Int.fdiv (Int.fdiv (Int.fdiv (Int.fdiv q 46) 45) 44) 43) [x0, x1, x2, x3] 43 [])) := by
  rw [aah]
  rw [ajG]; dsimp only; erw [t0]; dsimp only
  rw [aah]
  erw [aeA]; dsimp only; erw [t1]; dsimp only
  rw [aah]
  erw [aeA]; dsimp only; erw [t2]; dsimp only
  rw [aah]
  erw [aeA]; dsimp only; erw [t3]; dsimp only
  rfl
 refine z4 ?_
 refine ⟨x0, x1, x2, x3, _, _, ?_, ?_, aa3 hit hloop⟩
 · have h01 : x1 ≠ x0 := fun e => z0 (e ▸ i1)
   have h02 : x2 ≠ x0 := fun e => z0 (e ▸ s1 _ i2)
   have h03 : x3 ≠ x0 := fun e => z0 (e ▸ s1 _ (s2 _ i3))
   have h12 : x2 ≠ x1 := fun e => z1 (e ▸ i2)
   have h13 : x3 ≠ x1 := fun e => z1 (e ▸ s2 _ i3)
   have h23 : x3 ≠ x2 := fun e => z2 (e ▸ i3)
   simp only [List.nodup_cons, List.mem_cons, List.not_mem_nil, not_or, not_false_eq_true, List.nodup_nil, and_true]
   exact ⟨⟨h01.symm, h02.symm, h03.symm⟩, ⟨h12.symm, h13.symm⟩, h23.symm⟩
 · intro x hx
   simp only [List.mem_cons, List.not_mem_nil, or_false] at hx
   rcases hx with rfl | rfl | rfl | rfl
   · exact i0
   · exact s0 _ i1
   · exact s0 _ (s1 _ i2)
   · exact s0 _ (s1 _ (s2 _ i3))
set_option tactic.hygienic false
theorem ajI {x0 x1 x2 x3 : Nat} (hn : [x0, x1, x2, x3].Nodup) (hp : ∀ x ∈ [x0, x1, x2, x3], x ∈ poolN) : ∃ s0 s1 s2 s3 : Nat, s0 < s1 ∧ s1 < s2 ∧ s2 < s3 ∧ (∀ x ∈ [s0, s1, s2, s3], x ∈ poolN) ∧ sortI [(x0 : Int), x1, x2, x3] = [(s0 : Int), s1, s2, s3] := by
 have hperm := ab3 [(x0 : Int), x1, x2, x3]
 have hs := aby [(x0 : Int), x1, x2, x3]
 have hlen := hperm.length_eq
 have hmap : [(x0 : Int), x1, x2, x3] = [x0, x1, x2, x3].map fun (n : Nat) => (n : Int) := rfl
 have hnd : (sortI [(x0 : Int), x1, x2, x3]).Nodup := hperm.nodup_iff.mpr (by rw [hmap]; exact List.Pairwise.map (S := fun (x y : Int) => x ≠ y) (fun (n : Nat) => (n : Int)) (fun a b h e => h (by exact_mod_cast e)) hn)
 match hl : sortI [(x0 : Int), x1, x2, x3], hlen with
 | [y0, y1, y2, y3], _ =>
  rw [hl] at hs hnd hperm
  have back : ∀ y ∈ [y0, y1, y2, y3], ∃ s : Nat, y = s ∧ s ∈ poolN := fun y hy => by
   have := hperm.mem_iff.mp hy
   rw [hmap] at this
   obtain ⟨s, hs, rfl⟩ := List.mem_map.mp this
   exact ⟨s, rfl, hp s hs⟩
  obtain ⟨s0, rfl, p0⟩ := back y0 (by simp)
  refine hid fun z2 => ?_
  obtain ⟨s1, rfl, p1⟩ := back y1 (by simp)
  obtain ⟨s2, rfl, p2⟩ := back y2 (by simp)
  obtain ⟨s3, rfl, p3⟩ := back y3 (by simp)
  simp only [List.pairwise_cons, List.mem_cons, List.not_mem_nil, or_false, forall_eq_or_imp, forall_eq] at hs
  simp only [List.nodup_cons, List.mem_cons, List.not_mem_nil, not_or, or_false] at hnd
  refine z2 ?_
  refine ⟨s0, s1, s2, s3, by omega, by omega, by omega, ?_, rfl⟩
  intro x hx
  simp only [List.mem_cons, List.not_mem_nil, or_false] at hx
  rcases hx with rfl | rfl | rfl | rfl <;> assumption
end
section
variable {G : GE} {n : Nat} {ρ ρ1 ρ2 ρ3 ρ4 : CE}
set_option tactic.hygienic true
theorem agJ {z f y : Str} {p fp yp pos' pos : Pos} {cs : List CV} {ns : List Int} (hb : isBlt G ρ f = true) (hf : (f == nSorted) = true) (h : (sem G n).evd (.Name y yp) ρ = some (.list cs, ρ)) (hi : intsC cs = some ns) (hl : ns.length ≤ 63) (hc : (canSet ρ z && noView ρ) = true) (ho : G.owns z = false)
 (he : ρ.set z (.val (.list ((sortI ns).map CV.int))) = ρ2) : (sem G (n + 1)).xs (.Assign [.Name z p] (.Call (.Name f fp) [.Name y yp] [] pos') pos) ρ = some (.next, ρ2) := by
 have hf1 : (f == nList) = false := by rw [beq_iff_eq.mp hf]; decide
 have hf2 : (f == nDict) = false := by rw [beq_iff_eq.mp hf]; decide
 have hk : mkOf G ρ (.Call (.Name f fp) [.Name y yp] [] pos') = .sorted (.Name y yp) := by unfold mkOf; dsimp only [l1, List.isEmpty, eName, eAttr, mkBlt]; rw [hb]; dsimp only; rw [hf1]; dsimp only; rw [hf2]; dsimp only; rw [hf]
 refine aez (o := .list ((sortI ns).map CV.int)) hk rfl ?_ hc ho he
 unfold SM.make
 dsimp only
 rw [h]
 dsimp only [cvList]
 rw [hi]
 dsimp only
 rw [Nat.ble_eq_true_of_le hl]
set_option tactic.hygienic false
theorem amn {S : SM} : ifsL S [] ρ = some (true, ρ) := rfl
end
def W7 (p : List Nat) (q : Int) (d sp : List Nat) (r : List (Str × Slot)) : List (Str × Slot) := r5 p q d (("size", .val (.int 43)) :: ("spots", .val (.list (iv sp))) :: r)
def W9 (p : List Nat) (q : Int) (d sp : List Nat) (m : Nat) (r : List (Str × Slot)) : List (Str × Slot) := W7 p q d sp (("mark", .val (.str (chS m))) :: r)
def W10 (p : List Nat) (q : Int) (d sp : List Nat) (m z : Nat) (r : List (Str × Slot)) : List (Str × Slot) := W9 p q d sp m (("strange", .val (.str (chS z))) :: r)
def W11 (p : List Nat) (q : Int) (d sp : List Nat) (m z : Nat) (sg : List CV) (r : List (Str × Slot)) : List (Str × Slot) := W10 p q d sp m z (("signs", .val (.list sg)) :: r)
def W12 (p : List Nat) (q : Int) (d sp : List Nat) (m z : Nat) (sg tl : List CV) (r : List (Str × Slot)) : List (Str × Slot) := W11 p q d sp m z sg (("told", .val (.list tl)) :: r)
section
variable {fn : Str -> Option FS} {cs : List CV} {a b q k : Int} {t : List (Str × Slot)} {p d sp : List Nat} {m z : Nat}
set_option tactic.hygienic true
theorem amS {x0 x1 x2 x3 s0 s1 s2 s3 : Nat} (hs : sortI [(x0 : Int), x1, x2, x3] = [(s0 : Int), s1, s2, s3]) :
 (sem (GF fn) 20).xs (lawS 7) (U cs a b [] (r6 p q [x0, x1, x2, x3] 43 [])) = some (.next, U cs a b [] (W7 p q [x0, x1, x2, x3] [s0, s1, s2, s3] [])) := by
 refine agJ (cs := iv [x0, x1, x2, x3]) (ns := [(x0 : Int), x1, x2, x3]) (by ext) (by ext) (by ext) rfl (by show 4 ≤ 63; decide) (by ext) (by ext) ?_
 rw [hs]
 exact (by ext)
theorem amT : (sem (GF fn) 20).xs (lawS 8) (U cs a b [] (W7 p q d sp [])) = some (.next, U cs a b [] (W7 p (Int.fdiv b 4096) d sp [])) := (by ext)
theorem amU {F : FS} (hf : fn nUns = some F) (hb : F.bor = none) (hr : F.run [.int q] [] = some (.str (chS m), .list [])) : (sem (GF fn) 20).xs (lawS 9) (U cs a b [] (W7 p q d sp [])) = some (.next, U cs a b [] (W9 p q d sp m [])) :=
 aaG (ρ1 := U cs a b [] (W7 p q d sp [])) (abN (aar hf (by ext))) (by ext) (aaQ (by ext) (by ext) (aar hf (by ext)) (aas (kvs := []) (cs := [.int q]) (avs := [.val (.int q)]) hb (aac (by ext) aad) (by ext) rfl hr)) (by ext) (by ext)
theorem ak0 {F : FS} (hf : fn nBes = some F) (hb : F.bor = none) (hr : F.run [.int (Int.fdiv q 27)] [] = some (.str (chS z), .list [])) : (sem (GF fn) 20).xs (lawS 10) (U cs a b [] (W9 p q d sp m [])) = some (.next, U cs a b [] (W10 p q d sp m z [])) :=
 aaG (ρ1 := U cs a b [] (W9 p q d sp m [])) (abN (aar hf (by ext))) (by ext) (aaQ (by ext) (by ext) (aar hf (by ext)) (aas (kvs := []) (cs := [.int (Int.fdiv q 27)]) (avs := [.val (.int (Int.fdiv q 27))]) hb (aac (by ext) aad) (by ext) rfl hr)) (by ext) (by ext)
def sgn (m : Nat) (o : Str) (h : o.length ≤ 8) : SS := ((chS m).app (so o h)).app (chS m)
set_option tactic.hygienic false
theorem ahN {s : Nat} (h : s ∈ poolN) : ∃ o hh, (opsL.map fun s => CV.str (SS.pad s))[s]? = some (.str (so o hh)) ∧ opsL[s]? = some o := by
 have key : ∀ o : Str, o.length ≤ 8 -> ∃ hh, SS.pad o = so o hh := fun o ho => ⟨ho, by unfold SS.pad so; rw [dif_pos ho]⟩
 have all : ∀ o ∈ opsL, o.length ≤ 8 := by
  have : (opsL.all fun o => Nat.ble o.length 8) = true := by ext
  intro o ho
  exact Nat.le_of_ble_eq_true (List.all_eq_true.mp this o ho)
 have hlt : s < opsL.length := by
  have : ∀ s ∈ poolN, s < 48 := by decide
  exact this s h
 obtain ⟨hh, e⟩ := key opsL[s] (all _ (List.getElem_mem hlt))
 refine ⟨opsL[s], hh, ?_, List.getElem?_eq_getElem hlt⟩
 rw [List.getElem?_map, List.getElem?_eq_getElem hlt]
 show some (CV.str (SS.pad opsL[s])) = _
 rw [e]
noncomputable def cmE : Stmt -> Expr | .Assign _ e _ => e | _ => default
noncomputable def cmSc : Expr -> Scope | .ListComp _ _ sc _ => sc | _ => ⟨.module, [], false, false, []⟩
noncomputable def cmElt : Expr -> Expr | .ListComp e _ _ _ => e | _ => default
noncomputable def cmG : Expr -> Comprehension | .ListComp _ (g :: _) _ _ => g | _ => ⟨default, default, [], 0⟩
def frS (m : Nat) (tail : List (Str × Slot)) : CE := ⟨cmSc (cmE (lawS 11)), ("mark", .val (.str (chS m))) :: ("operators", .val opsV) :: tail⟩
end
noncomputable def nRd : Str := "_law_read"
section
variable {fn : Str -> Option FS} {cs : List CV} {a b q k : Int} {t : List (Str × Slot)} {p d sp : List Nat} {m z : Nat}
noncomputable def spT (c : CV) : List (Str × Slot) := [("spot", .val c)]
def c11 : Expr := cmE (lawS 11)
set_option tactic.hygienic false
theorem acr {s : Nat} {o : Str} {h : o.length ≤ 8} {tail : List (Str × Slot)} (ht : tail = [] ∨ ∃ c, tail = spT c) (ho : (opsL.map fun s => CV.str (SS.pad s))[s]? = some (.str (so o h))) {acc : List CV} (hl : acc.length ≤ LIM) :
 compL (GF fn) (sem (GF fn) 19) (cmElt c11) [cmG c11] (.int s) (frS m tail) acc = some (acc ++ [.str (sgn m o h)], frS m (spT (.int s))) := by
 refine ab7 (ρ1 := frS m (spT (.int s))) (ρ2 := frS m (spT (.int s))) ?_ (by ext) ?_ hl
 · rcases ht with rfl | ⟨c, rfl⟩ <;> ext
 · refine acf (x := .str ((chS m).app (so o h))) (y := .str (chS m)) (aa1 (a := .val (.str ((chS m).app (so o h)))) (b := .val (.str (chS m))) (acf (x := .str (chS m)) (y := .str (so o h)) (aa1 (a := .val (.str (chS m))) (b := .val (.str (so o h))) (by ext) (abA (a := opsV) (b := .int s) (by ext) (acn ho (by decide))) rfl rfl) (by ext)) (by ext) rfl rfl) (by ext)
set_option tactic.hygienic true
theorem ak1 {s0 s1 s2 s3 : Nat} {o0 o1 o2 o3 : Str} {h0 : o0.length ≤ 8} {h1 : o1.length ≤ 8} {h2 : o2.length ≤ 8} {h3 : o3.length ≤ 8} (e0 : (opsL.map fun s => CV.str (SS.pad s))[s0]? = some (.str (so o0 h0))) (e1 : (opsL.map fun s => CV.str (SS.pad s))[s1]? = some (.str (so o1 h1)))
 (e2 : (opsL.map fun s => CV.str (SS.pad s))[s2]? = some (.str (so o2 h2))) (e3 : (opsL.map fun s => CV.str (SS.pad s))[s3]? = some (.str (so o3 h3))) :
 (sem (GF fn) 20).xs (lawS 11) (U cs a b [] (W10 p q d [s0, s1, s2, s3] m z [])) = some (.next, U cs a b [] (W11 p q d [s0, s1, s2, s3] m z [.str (sgn m o0 h0), .str (sgn m o1 h1), .str (sgn m o2 h2), .str (sgn m o3 h3)] [])) := by
 have T0 := acr (fn := fn) (m := m) (s := s0) (tail := []) (.inl rfl) e0 (acc := []) (by decide)
 have T1 := acr (fn := fn) (m := m) (s := s1) (tail := spT (.int s0)) (.inr ⟨_, rfl⟩) e1 (acc := [.str (sgn m o0 h0)]) (by show 1 ≤ LIM; decide)
 have T2 := acr (fn := fn) (m := m) (s := s2) (tail := spT (.int s1)) (.inr ⟨_, rfl⟩) e2 (acc := [.str (sgn m o0 h0), .str (sgn m o1 h1)]) (by show 2 ≤ LIM; decide)
 have T3 := acr (fn := fn) (m := m) (s := s3) (tail := spT (.int s2)) (.inr ⟨_, rfl⟩) e3 (acc := [.str (sgn m o0 h0), .str (sgn m o1 h1), .str (sgn m o2 h2)]) (by show 3 ≤ LIM; decide)
 exact afh (ρ1 := U cs a b [] (W10 p q d [s0, s1, s2, s3] m z [])) (acP (l0 := [("mark", .val (.str (chS m))), ("operators", .val opsV)]) (l := [("mark", .val (.str (chS m))), ("operators", .val opsV)]) (its := iv [s0, s1, s2, s3]) (by ext) (by ext) (by ext) (by ext) (aaA T0 (aaA T1 (aaA T2 (aaA T3 adC))))) (by ext) (by ext) (by ext)
theorem ak2 {F : FS} {x0 x1 x2 x3 : SS} {tl : List CV} (hf : fn nRd = some F) (hb : F.bor = none) (hb0 : x0.b = 10) (hb1 : x1.b = 10) (hb2 : x2.b = 10) (hb3 : x3.b = 10) (hr : F.run [.str ((chS z).app (joinS [x0, x1, x2, x3]))] [] = some (.list tl, .list [])) :
 (sem (GF fn) 20).xs (lawS 12) (U cs a b [] (W11 p q d sp m z [.str x0, .str x1, .str x2, .str x3] [])) = some (.next, U cs a b [] (W12 p q d sp m z [.str x0, .str x1, .str x2, .str x3] tl [])) := by
 obtain ⟨y0, c0, g0⟩ := x0
 obtain ⟨y1, c1, g1⟩ := x1
 obtain ⟨y2, c2, g2⟩ := x2
 obtain ⟨y3, c3, g3⟩ := x3
 dsimp only at hb0 hb1 hb2 hb3
 subst hb0 hb1 hb2 hb3
 exact aaG (ρ1 := U cs a b [] (W11 p q d sp m z [.str ⟨y0, 10, g0⟩, .str ⟨y1, 10, g1⟩, .str ⟨y2, 10, g2⟩, .str ⟨y3, 10, g3⟩] [])) (abN (aar hf (by ext))) (by ext) (aaQ (by ext) (by ext) (aar hf (by ext)) (aas (kvs := []) (cs := [.str ((chS z).app (joinS [⟨y0, 10, g0⟩, ⟨y1, 10, g1⟩, ⟨y2, 10, g2⟩, ⟨y3, 10, g3⟩]))]) (avs := [.val (.str ((chS z).app (joinS [⟨y0, 10, g0⟩, ⟨y1, 10, g1⟩, ⟨y2, 10, g2⟩, ⟨y3, 10, g3⟩])))]) hb (aac (by ext) aad) (by ext) rfl hr)) (by ext) (by ext)
theorem ak3 {s0 s1 s2 s3 : Nat} {sg : List CV} :
 (sem (GF fn) 20).xs (lawS 13) (U cs a b [] (W12 p q d [s0, s1, s2, s3] m z sg [.int 256, .int ((s0 : Int) + 7), .int ((s1 : Int) + 7), .int ((s2 : Int) + 7), .int ((s3 : Int) + 7)] [])) =
  some (.next, U cs a b [] (W12 p q d [s0, s1, s2, s3] m z sg [.int 256, .int ((s0 : Int) + 7), .int ((s1 : Int) + 7), .int ((s2 : Int) + 7), .int ((s3 : Int) + 7)] [])) := by
 refine aaD (ρ1 := U cs a b [] (W12 p q d [s0, s1, s2, s3] m z sg [.int 256, .int ((s0 : Int) + 7), .int ((s1 : Int) + 7), .int ((s2 : Int) + 7), .int ((s3 : Int) + 7)] [])) (aaH (x := .list [.int 256, .int ((s0 : Int) + 7), .int ((s1 : Int) + 7), .int ((s2 : Int) + 7), .int ((s3 : Int) + 7)]) (y := .list [.int 256, .int ((s0 : Int) + 7), .int ((s1 : Int) + 7), .int ((s2 : Int) + 7), .int ((s3 : Int) + 7)]) (by ext) (by ext) ?_) (by ext)
 show onot (some ([256, (s0 : Int) + 7, (s1 : Int) + 7, (s2 : Int) + 7, (s3 : Int) + 7] == [256, (s0 : Int) + 7, (s1 : Int) + 7, (s2 : Int) + 7, (s3 : Int) + 7])) = _
 rw [beq_self_eq_true]; rfl
end
section
variable {G : GE} {n : Nat} {ρ ρ1 ρ2 ρ3 ρ4 : CE}
set_option tactic.hygienic true
theorem afk {z f g : Str} {p fp gp gpos pos' pos : Pos} {x y : Expr} {ks vs : List CV} {es : List (SS × CV)} (hb : isBlt G ρ f = true) (hf : (f == nDict) = true) (hbg : isBlt G ρ g = true) (hg : (g == nZip) = true) (h : (sem G n).ev2 x y ρ = some (.list ks, .list vs, ρ)) (hl : (Nat.ble ks.length LIM && ks.length == vs.length) = true)
 (hd : dictOf ks vs (some []) = some es) (hc : (canSet ρ z && noView ρ) = true) (ho : G.owns z = false) (he : ρ.set z (.val (.dict es)) = ρ2) :
 (sem G (n + 1)).xs (.Assign [.Name z p] (.Call (.Name f fp) [.Call (.Name g gp) [x, y] [] gpos] [] pos') pos) ρ = some (.next, ρ2) := by
 have hf1 : (f == nList) = false := by rw [beq_iff_eq.mp hf]; decide
 have hk : mkOf G ρ (.Call (.Name f fp) [.Call (.Name g gp) [x, y] [] gpos] [] pos') = .dictZ x y := by
  unfold mkOf; dsimp only [l1, List.isEmpty, eName, eAttr, mkBlt]; rw [hb]; dsimp only; rw [hf1]; dsimp only; rw [hf]; dsimp only; dsimp only [eCall, l2]; rw [hbg, hg]; rfl
 refine aez (o := .dict es) hk rfl ?_ hc ho he
 unfold SM.make
 dsimp only
 rw [h]
 dsimp only [cvList]
 rw [hl]
 dsimp only
 rw [hd]
end
def W14 (p : List Nat) (q : Int) (d sp : List Nat) (m z : Nat) (sg tl : List CV) (nd : List (SS × CV)) (r : List (Str × Slot)) : List (Str × Slot) := W12 p q d sp m z sg tl (("number_of", .val (.dict nd)) :: r)
def W15 (p : List Nat) (q : Int) (d sp : List Nat) (m z : Nat) (sg tl : List CV) (nd : List (SS × CV)) (ch : Slot) (r : List (Str × Slot)) : List (Str × Slot) := W14 p q d sp m z sg tl nd (("chains", ch) :: r)
def W16 (p : List Nat) (q : Int) (d sp : List Nat) (m z : Nat) (sg tl : List CV) (nd : List (SS × CV)) (ch : Slot) (w : Int) (r : List (Str × Slot)) : List (Str × Slot) := W15 p q d sp m z sg tl nd ch (("which", .val (.int w)) :: r)
noncomputable def selC (w : Nat) (a b c d : CV) : List CV := (match w % 2 with | 1 => [a] | _ => []) ++ (match w / 2 % 2 with | 1 => [b] | _ => []) ++ (match w / 4 % 2 with | 1 => [c] | _ => []) ++ (match w / 8 % 2 with | 1 => [d] | _ => [])
noncomputable def selS (w : Nat) (a b c d : SS) : List SS := (match w % 2 with | 1 => [a] | _ => []) ++ (match w / 2 % 2 with | 1 => [b] | _ => []) ++ (match w / 4 % 2 with | 1 => [c] | _ => []) ++ (match w / 8 % 2 with | 1 => [d] | _ => [])
def wantS (w : Nat) (a b c d : SS) : SS := D3.app (joinS ((selS w a b c d).map fun x => x.app D3))
section
variable {fn : Str -> Option FS} {cs : List CV} {a b q k : Int} {t : List (Str × Slot)} {p d sp : List Nat} {m z : Nat} {sgs tl ch : List CV} {nd : List (SS × CV)} {x0 x1 x2 x3 : CV}
set_option tactic.hygienic true
theorem ak4 {t0 t1 t2 t3 : CV} (hd : dictOf [x0, x1, x2, x3] [t0, t1, t2, t3] (some []) = some nd) :
 (sem (GF fn) 20).xs (lawS 14) (U cs a b [] (W12 p q d sp m z [x0, x1, x2, x3] [.int 256, t0, t1, t2, t3] [])) = some (.next, U cs a b [] (W14 p q d sp m z [x0, x1, x2, x3] [.int 256, t0, t1, t2, t3] nd [])) :=
 afk (ks := [x0, x1, x2, x3]) (vs := [t0, t1, t2, t3]) (by ext) (by ext) (by ext) (by ext) (by ext) (by ext) hd (by ext) (by ext) (by ext)
theorem ak5 : (sem (GF fn) 20).xs (lawS 15) (U cs a b [] (W14 p q d sp m z sgs tl nd [])) = some (.next, U cs a b [] (W15 p q d sp m z sgs tl nd (.own (.list [])) [])) := (by ext)
set_option tactic.hygienic false
theorem ahO {w : Int} : bindT (forT (lawS 16)) (.int w) (U cs a b [] (W15 p q d sp m z sgs tl nd (.own (.list ch)) [])) = some (U cs a b [] (W16 p q d sp m z sgs tl nd (.own (.list ch)) w [])) := (by ext)
theorem afl {w w' : Int} : bindT (forT (lawS 16)) (.int w) (U cs a b [] (W16 p q d sp m z sgs tl nd (.own (.list ch)) w' [])) = some (U cs a b [] (W16 p q d sp m z sgs tl nd (.own (.list ch)) w [])) := (by ext)
noncomputable def apA : Stmt -> List Expr | .Expr (.Call _ l _ _) _ => l | _ => []
theorem ajJ {w : Nat} (hw : w < 16) : (sem (GF fn) 17).evs (apA (stA (forB (lawS 16)) 0)) (U cs a b [] (W16 p q d sp m z [x0, x1, x2, x3] tl nd (.own (.list ch)) w [])) = some ([.val (.list (selC w x0 x1 x2 x3))], U cs a b [] (W16 p q d sp m z [x0, x1, x2, x3] tl nd (.own (.list ch)) w [])) := by
 match w, hw with
 | 0, _ => exact (by ext)
 | 1, _ => exact (by ext)
 | 2, _ => exact (by ext)
 | 3, _ => exact (by ext)
 | 4, _ => exact (by ext)
 | 5, _ => exact (by ext)
 | 6, _ => exact (by ext)
 | 7, _ => exact (by ext)
 | 8, _ => exact (by ext)
 | 9, _ => exact (by ext)
 | 10, _ => exact (by ext)
 | 11, _ => exact (by ext)
 | 12, _ => exact (by ext)
 | 13, _ => exact (by ext)
 | 14, _ => exact (by ext)
 | 15, _ => exact (by ext)
 | n + 16, h => exact absurd h (by lia)
set_option tactic.hygienic true
theorem aeB {w : Nat} (hw : w < 16) (hl : ch.length ≤ 1000) : (sem (GF fn) 19).xss (forB (lawS 16)) (U cs a b [] (W16 p q d sp m z [x0, x1, x2, x3] tl nd (.own (.list ch)) w [])) = some (.next, U cs a b [] (W16 p q d sp m z [x0, x1, x2, x3] tl nd (.own (.list (ch ++ [.list (selC w x0 x1 x2 x3)]))) w [])) := by
 have hbody : forB (lawS 16) = [stA (forB (lawS 16)) 0] := by ext
 rw [hbody]
 exact aaa (abB (by ext) (adc (x := "chains") (c0 := .list ch) (k := .append) (avs := [.val (.list (selC w x0 x1 x2 x3))]) (cs := [.list (selC w x0 x1 x2 x3)]) (ob := .list ch) (ob' := .list (ch ++ [.list (selC w x0 x1 x2 x3)])) (by ext) (by ext) (by ext) (by ext) (by ext) rfl (ajJ hw) rfl (by ext) (appC (by unfold LIM; lia)) (by ext))) aaf
theorem ak6 {w0 w1 w2 : Nat} (h0 : Int.fmod b 16 = w0) (h1 : Int.fmod (Int.fdiv b 16) 16 = w1) (h2 : Int.fmod (Int.fdiv b 256) 16 = w2) (l0 : w0 < 16) (l1 : w1 < 16) (l2 : w2 < 16) :
 (sem (GF fn) 20).xs (lawS 16) (U cs a b [] (W15 p q d sp m z [x0, x1, x2, x3] tl nd (.own (.list [])) [])) = some (.next, U cs a b [] (W16 p q d sp m z [x0, x1, x2, x3] tl nd (.own (.list [.list (selC w0 x0 x1 x2 x3), .list (selC w1 x0 x1 x2 x3), .list (selC w2 x0 x1 x2 x3)])) w2 [])) := by
 have hit : (sem (GF fn) 19).items (GF fn) true (forT (lawS 16)) (forI (lawS 16)) (U cs a b [] (W15 p q d sp m z [x0, x1, x2, x3] tl nd (.own (.list [])) [])) = some ([.int (Int.fmod b 16), .int (Int.fmod (Int.fdiv b 16) 16), .int (Int.fmod (Int.fdiv b 256) 16)], U cs a b [] (W15 p q d sp m z [x0, x1, x2, x3] tl nd (.own (.list [])) [])) := (by ext)
 rw [h0, h1, h2] at hit
 have T0 := aeB (fn := fn) (cs := cs) (a := a) (b := b) (p := p) (q := q) (d := d) (sp := sp) (m := m) (z := z) (tl := tl) (nd := nd) (x0 := x0) (x1 := x1) (x2 := x2) (x3 := x3) l0 (ch := []) (by decide)
 have T1 := aeB (fn := fn) (cs := cs) (a := a) (b := b) (p := p) (q := q) (d := d) (sp := sp) (m := m) (z := z) (tl := tl) (nd := nd) (x0 := x0) (x1 := x1) (x2 := x2) (x3 := x3) l1 (ch := [.list (selC w0 x0 x1 x2 x3)]) (by show 1 ≤ 1000; decide)
 have T2 := aeB (fn := fn) (cs := cs) (a := a) (b := b) (p := p) (q := q) (d := d) (sp := sp) (m := m) (z := z) (tl := tl) (nd := nd) (x0 := x0) (x1 := x1) (x2 := x2) (x3 := x3) l2 (ch := [.list (selC w0 x0 x1 x2 x3), .list (selC w1 x0 x1 x2 x3)]) (by show 2 ≤ 1000; decide)
 have hloop : loopL (fun c ρ => match bindT (forT (lawS 16)) c ρ with | some ρ => (sem (GF fn) 19).xss (forB (lawS 16)) ρ | none => none) [.int w0, .int w1, .int w2] (U cs a b [] (W15 p q d sp m z [x0, x1, x2, x3] tl nd (.own (.list [])) [])) = some (.next, U cs a b [] (W16 p q d sp m z [x0, x1, x2, x3] tl nd (.own (.list [.list (selC w0 x0 x1 x2 x3), .list (selC w1 x0 x1 x2 x3), .list (selC w2 x0 x1 x2 x3)])) w2 [])) := by
  rw [aah]
  rw [ahO]; dsimp only; erw [T0]; dsimp only
  rw [aah]
  erw [afl]; dsimp only; erw [T1]; dsimp only
  rw [aah]
  erw [afl]; dsimp only; erw [T2]; dsimp only
  rfl
 exact aa3 hit hloop
end
def W17 (p : List Nat) (q : Int) (d sp : List Nat) (m z : Nat) (sg tl : List CV) (nd : List (SS × CV)) (ch : Slot) (w : Int) (wa : List CV) (r : List (Str × Slot)) : List (Str × Slot) := W16 p q d sp m z sg tl nd ch w (("wants", .val (.list wa)) :: r)
def W18 (p : List Nat) (q : Int) (d sp : List Nat) (m z : Nat) (sg tl : List CV) (nd : List (SS × CV)) (ch : Slot) (w : Int) (wa os : List CV) (r : List (Str × Slot)) : List (Str × Slot) := W17 p q d sp m z sg tl nd ch w wa (("orders", .val (.list os)) :: r)
def W19 (p : List Nat) (q : Int) (d sp : List Nat) (m z : Nat) (sg tl : List CV) (nd : List (SS × CV)) (ch : Slot) (w : Int) (wa os : List CV) (si : CV) (r : List (Str × Slot)) : List (Str × Slot) := W18 p q d sp m z sg tl nd ch w wa os (("sign", .val si) :: r)
noncomputable def growI (i : Nat) (ls : List (List Nat)) : List (List Nat) := ls.flatMap fun l => (List.range (l.length + 1)).map fun g => l.take g ++ [i] ++ l.drop g
noncomputable def ordI : List (List Nat) := [[3, 2, 1, 0], [2, 3, 1, 0], [2, 1, 3, 0], [2, 1, 0, 3], [3, 1, 2, 0], [1, 3, 2, 0], [1, 2, 3, 0], [1, 2, 0, 3], [3, 1, 0, 2], [1, 3, 0, 2], [1, 0, 3, 2], [1, 0, 2, 3], [3, 2, 0, 1], [2, 3, 0, 1], [2, 0, 3, 1], [2, 0, 1, 3], [3, 0, 2, 1], [0, 3, 2, 1], [0, 2, 3, 1], [0, 2, 1, 3], [3, 0, 1, 2], [0, 3, 1, 2], [0, 1, 3, 2], [0, 1, 2, 3]]
noncomputable def pick4 {α : Type} (a b c d : α) : Nat -> α
 | 0 => a
 | 1 => b
 | 2 => c
 | _ => d
def ordV (a b c d : CV) : List CV := ordI.map fun l => .list (l.map (pick4 a b c d))
section
variable {fn : Str -> Option FS} {cs : List CV} {a b q k : Int} {t : List (Str × Slot)} {p d sp : List Nat} {m z : Nat} {sgs tl ch wa : List CV} {nd : List (SS × CV)} {x0 x1 x2 x3 : CV} {s0 s1 s2 s3 : Str} {h0 : s0.length ≤ 10} {h1 : s1.length ≤ 10} {h2 : s2.length ≤ 10} {h3 : s3.length ≤ 10} {wh : Int} {chs : Slot}
def c17 : Expr := cmE (lawS 17)
def frC (tail : List (Str × Slot)) : CE := ⟨cmSc c17, tail⟩
noncomputable def chT (c : CV) : List (Str × Slot) := [("chain", .val c)]
set_option tactic.hygienic false
theorem ahP {w : Nat} (hw : w < 16) : (sem (GF fn) 19).ev (cmElt c17) (frC (chT (.list (selC w (.str (sg s0 h0)) (.str (sg s1 h1)) (.str (sg s2 h2)) (.str (sg s3 h3)))))) = some (.val (.str (wantS w (sg s0 h0) (sg s1 h1) (sg s2 h2) (sg s3 h3))), frC (chT (.list (selC w (.str (sg s0 h0)) (.str (sg s1 h1)) (.str (sg s2 h2)) (.str (sg s3 h3)))))) := by
 match w, hw with
 | 0, _ => exact (by ext)
 | 1, _ => exact (by ext)
 | 2, _ => exact (by ext)
 | 3, _ => exact (by ext)
 | 4, _ => exact (by ext)
 | 5, _ => exact (by ext)
 | 6, _ => exact (by ext)
 | 7, _ => exact (by ext)
 | 8, _ => exact (by ext)
 | 9, _ => exact (by ext)
 | 10, _ => exact (by ext)
 | 11, _ => exact (by ext)
 | 12, _ => exact (by ext)
 | 13, _ => exact (by ext)
 | 14, _ => exact (by ext)
 | 15, _ => exact (by ext)
 | n + 16, h => exact absurd h (by lia)
theorem acQ {w : Nat} (hw : w < 16) {tail : List (Str × Slot)} (ht : tail = [] ∨ ∃ c, tail = chT c) {acc : List CV} (hl : acc.length ≤ LIM) :
 compL (GF fn) (sem (GF fn) 19) (cmElt c17) [cmG c17] (.list (selC w (.str (sg s0 h0)) (.str (sg s1 h1)) (.str (sg s2 h2)) (.str (sg s3 h3)))) (frC tail) acc = some (acc ++ [.str (wantS w (sg s0 h0) (sg s1 h1) (sg s2 h2) (sg s3 h3))], frC (chT (.list (selC w (.str (sg s0 h0)) (.str (sg s1 h1)) (.str (sg s2 h2)) (.str (sg s3 h3)))))) := by
 refine ab7 (ρ1 := frC (chT (.list (selC w (.str (sg s0 h0)) (.str (sg s1 h1)) (.str (sg s2 h2)) (.str (sg s3 h3)))))) (ρ2 := frC (chT (.list (selC w (.str (sg s0 h0)) (.str (sg s1 h1)) (.str (sg s2 h2)) (.str (sg s3 h3)))))) ?_ (by ext) (ahP hw) hl
 rcases ht with rfl | ⟨c, rfl⟩ <;> ext
set_option tactic.hygienic true
theorem ak7 {w0 w1 w2 : Nat} (l0 : w0 < 16) (l1 : w1 < 16) (l2 : w2 < 16) :
 let c := fun w => CV.list (selC w (.str (sg s0 h0)) (.str (sg s1 h1)) (.str (sg s2 h2)) (.str (sg s3 h3)))
 let v := fun w => CV.str (wantS w (sg s0 h0) (sg s1 h1) (sg s2 h2) (sg s3 h3))
 (sem (GF fn) 20).xs (lawS 17) (U cs a b [] (W16 p q d sp m z sgs tl nd (.own (.list [c w0, c w1, c w2])) wh [])) = some (.next, U cs a b [] (W17 p q d sp m z sgs tl nd (.own (.list [c w0, c w1, c w2])) wh [v w0, v w1, v w2] [])) := by
 intro c v
 have T0 := acQ (fn := fn) (h0 := h0) (h1 := h1) (h2 := h2) (h3 := h3) l0 (tail := []) (.inl rfl) (acc := []) (by decide)
 have T1 := acQ (fn := fn) (h0 := h0) (h1 := h1) (h2 := h2) (h3 := h3) l1 (tail := chT (c w0)) (.inr ⟨_, rfl⟩) (acc := [v w0]) (by show 1 ≤ LIM; decide)
 have T2 := acQ (fn := fn) (h0 := h0) (h1 := h1) (h2 := h2) (h3 := h3) l2 (tail := chT (c w1)) (.inr ⟨_, rfl⟩) (acc := [v w0, v w1]) (by show 2 ≤ LIM; decide)
 exact afh (ρ1 := U cs a b [] (W16 p q d sp m z sgs tl nd (.own (.list [c w0, c w1, c w2])) wh [])) (acP (l0 := []) (l := []) (its := [c w0, c w1, c w2]) (by ext) (by ext) (by ext) (by ext) (aaA T0 (aaA T1 (aaA T2 adC)))) (by ext) (by ext) (by ext)
theorem ak8 : (sem (GF fn) 20).xs (lawS 18) (U cs a b [] (W17 p q d sp m z sgs tl nd (.own (.list ch)) wh wa [])) = some (.next, U cs a b [] (W18 p q d sp m z sgs tl nd (.own (.list ch)) wh wa [.list []] [])) := (by ext)
theorem ak9 {y0 y1 y2 y3 : SS} : (sem (GF fn) 20).xs (lawS 19) (U cs a b [] (W18 p q d sp m z [.str y0, .str y1, .str y2, .str y3] tl nd (.own (.list ch)) wh wa [.list []] [])) = some (.next, U cs a b [] (W19 p q d sp m z [.str y0, .str y1, .str y2, .str y3] tl nd (.own (.list ch)) wh wa (ordV (.str y0) (.str y1) (.str y2) (.str y3)) (.str y3) [])) := (by ext)
end
section
variable {G : GE} {n : Nat} {ρ ρ1 ρ2 ρ3 ρ4 : CE}
set_option tactic.hygienic false
theorem ala {e1 e2 : Expr} {pos : Pos} {r : EV} (h1 : (sem G n).ev e1 ρ = some (.val (.bool true), ρ)) (h2 : (sem G n).ev e2 ρ = some (r, ρ1)) : (sem G (n + 1)).ev (.BoolOp .And [e1, e2] pos) ρ = some (r, ρ1) := by
 rw [aaB]
 dsimp only [stepS]
 unfold evStep evN
 dsimp only [mkOf, l1, l2, eName, eAttr, eSub, eTup, eCall, eSlice, List.isEmpty]
 rw [ag8, h1]
 dsimp only [deref, truthC]
 rw [ag9]
 exact h2
noncomputable def addIf (t : Bool) (acc : List CV) (v : CV) : List CV := match t with | true => acc ++ [v] | false => acc
theorem adE {S : SM} {elt : Expr} {g : Comprehension} {c v : CV} {acc : List CV} {t : Bool} (hb : bindT g.target c ρ = some ρ1) (hi : ifsL S g.ifs ρ1 = some (t, ρ1)) (he : S.ev elt ρ1 = some (.val v, ρ1)) (hl : acc.length ≤ LIM) :
 compL G S elt [g] c ρ acc = some (addIf t acc v, ρ1) := by
 cases t with
 | true => exact ab7 hb hi he hl
 | false => exact ab8 hb hi
end
structure LP where
 cs : List CV
 a : Int
 b : Int
 p : List Nat
 q : Int
 d : List Nat
 sp : List Nat
 m : Nat
 z : Nat
 tl : List CV
 nd : List (SS × CV)
 ch : List CV
 w : Int
 v0 : SS
 v1 : SS
 v2 : SS
 s0 : Str
 s1 : Str
 s2 : Str
 s3 : Str
 h0 : s0.length ≤ 10
 h1 : s1.length ≤ 10
 h2 : s2.length ≤ 10
 h3 : s3.length ≤ 10
noncomputable def LP.x0 (P : LP) : SS := sg P.s0 P.h0
noncomputable def LP.x1 (P : LP) : SS := sg P.s1 P.h1
noncomputable def LP.x2 (P : LP) : SS := sg P.s2 P.h2
noncomputable def LP.x3 (P : LP) : SS := sg P.s3 P.h3
def LP.Z (P : LP) (r : List (Str × Slot)) : CE := U P.cs P.a P.b [] (W19 P.p P.q P.d P.sp P.m P.z [.str P.x0, .str P.x1, .str P.x2, .str P.x3] P.tl P.nd (.own (.list P.ch)) P.w [.str P.v0, .str P.v1, .str P.v2] (ordV (.str P.x0) (.str P.x1) (.str P.x2) (.str P.x3)) (.str P.x3) r)
def LP.K (P : LP) (sd : List CV) (gr fa : List (SS × CV)) (r : List (Str × Slot)) : CE := P.Z (("said", .own (.list sd)) :: ("granted", .own (.dict gr)) :: ("falls", .own (.dict fa)) :: r)
noncomputable def o1 (l : CV) : List (Str × Slot) := [("order", .val l)]
noncomputable def o2 (l t : CV) : List (Str × Slot) := [("order", .val l), ("text", .val t)]
noncomputable def o3 (l t k : CV) : List (Str × Slot) := [("order", .val l), ("text", .val t), ("kept", .val k)]
noncomputable def o4 (l t k w : CV) : List (Str × Slot) := [("order", .val l), ("text", .val t), ("kept", .val k), ("want", .val w)]
def b23 : List Stmt := forB (lawS 23)
def b23i : List Stmt := forB (stA b23 2)
section
variable {fn : Str -> Option FS} {P : LP} {sd : List CV} {gr fa : List (SS × CV)} {e0 e1 e2 e3 : Str} {g0 : e0.length ≤ 10} {g1 : e1.length ≤ 10} {g2 : e2.length ≤ 10} {g3 : e3.length ≤ 10} {l lo te to ko wo : CV} {k : Bool}
set_option tactic.hygienic true
theorem alb : (sem (GF fn) 20).xs (lawS 20) (P.Z []) = some (.next, P.Z [("said", .own (.list []))]) := (by ext)
theorem alc : (sem (GF fn) 20).xs (lawS 21) (P.Z [("said", .own (.list []))]) = some (.next, P.Z [("said", .own (.list [])), ("granted", .own (.dict []))]) := (by ext)
theorem ald : (sem (GF fn) 20).xs (lawS 22) (P.Z [("said", .own (.list [])), ("granted", .own (.dict []))]) = some (.next, P.K [] [] [] []) := (by ext)
set_option tactic.hygienic false
theorem ajK {c : List CV} : bindT (forT (lawS 23)) (.list c) (P.K sd gr fa []) = some (P.K sd gr fa (o1 (.list c))) := (by ext)
theorem ajL {c : List CV} : bindT (forT (lawS 23)) (.list c) (P.K sd gr fa (o4 lo to ko wo)) = some (P.K sd gr fa (o4 (.list c) to ko wo)) := (by ext)
noncomputable def l4 (e0 e1 e2 e3 : Str) (g0 : e0.length ≤ 10) (g1 : e1.length ≤ 10) (g2 : e2.length ≤ 10) (g3 : e3.length ≤ 10) : CV := .list [.str (sg e0 g0), .str (sg e1 g1), .str (sg e2 g2), .str (sg e3 g3)]
def j4 (e0 e1 e2 e3 : Str) (g0 : e0.length ≤ 10) (g1 : e1.length ≤ 10) (g2 : e2.length ≤ 10) (g3 : e3.length ≤ 10) : SS := joinS [sg e0 g0, sg e1 g1, sg e2 g2, sg e3 g3]
set_option tactic.hygienic true
theorem ajM : (sem (GF fn) 19).xs (stA b23 0) (P.K sd gr fa (o1 (l4 e0 e1 e2 e3 g0 g1 g2 g3))) = some (.next, P.K sd gr fa (o2 (l4 e0 e1 e2 e3 g0 g1 g2 g3) (.str (j4 e0 e1 e2 e3 g0 g1 g2 g3)))) := (by ext)
theorem ajN : (sem (GF fn) 19).xs (stA b23 0) (P.K sd gr fa (o4 (l4 e0 e1 e2 e3 g0 g1 g2 g3) to ko wo)) = some (.next, P.K sd gr fa (o4 (l4 e0 e1 e2 e3 g0 g1 g2 g3) (.str (j4 e0 e1 e2 e3 g0 g1 g2 g3)) ko wo)) := (by ext)
theorem ajO : (sem (GF fn) 19).xs (stA b23 1) (P.K sd gr fa (o2 l te)) = some (.next, P.K sd gr fa (o3 l te (.bool true))) := (by ext)
theorem ajP : (sem (GF fn) 19).xs (stA b23 1) (P.K sd gr fa (o4 l te ko wo)) = some (.next, P.K sd gr fa (o4 l te (.bool true) wo)) := (by ext)
set_option tactic.hygienic false
theorem ajQ {w : SS} : bindT (forT (stA b23 2)) (.str w) (P.K sd gr fa (o3 l te ko)) = some (P.K sd gr fa (o4 l te ko (.str w))) := (by ext)
theorem aeC {w : SS} : bindT (forT (stA b23 2)) (.str w) (P.K sd gr fa (o4 l te ko wo)) = some (P.K sd gr fa (o4 l te ko (.str w))) := (by ext)
noncomputable def saidN (k : Bool) (sd : List CV) (r : Bool) : List CV := match k with | true => sd ++ [.bool r] | false => sd
set_option tactic.hygienic true
theorem ajR {F : FS} {w g : SS} {r : Bool} (hf : fn nAsk = some F) (hb : F.bor = some 2) (hr : F.run [.str w, .str g, .list sd] [] = some (.bool r, .list (sd ++ [.bool r]))) :
 (sem (GF fn) 18).xss b23i (P.K sd gr fa (o4 l (.str g) (.bool k) (.str w))) = some (.next, P.K (saidN k sd r) gr fa (o4 l (.str g) (.bool (k && r)) (.str w))) := by
 have hbody : b23i = [stA b23i 0] := by ext
 rw [hbody]
 cases k with
 | false => exact aaa (by ext) aaf
 | true =>
  refine aaa (aaG (ρ1 := P.K (sd ++ [.bool r]) gr fa (o4 l (.str g) (.bool true) (.str w))) (by ext) (by ext) (ala (by ext) (aaQ (by ext) (by ext) (aar hf (by ext))
   (aay (x := "said") (o := .list sd) (o' := CO.list (sd ++ [CV.bool r])) (c := CV.bool r) (cs := [.str w, .str g, .none]) (kvs := []) (avs := [.val (.str w), .val (.str g), .ref "said"]) hb (aac (by ext) (aac (by ext) (aac (by ext) aad))) (by ext) rfl rfl (by ext) hr (by ext)))) (by ext) (by ext)) aaf
end
section
variable {fn : Str -> Option FS} {P : LP} {sd : List CV} {gr fa : List (SS × CV)} {e0 e1 e2 e3 : Str} {g0 : e0.length ≤ 10} {g1 : e1.length ≤ 10} {g2 : e2.length ≤ 10} {g3 : e3.length ≤ 10} {l lo te to ko wo : CV} {k : Bool}
noncomputable def askedBy (r0 r1 r2 : Bool) (sd : List CV) : List CV := saidN (r0 && r1) (saidN r0 (saidN true sd r0) r1) r2
set_option tactic.hygienic true
theorem ale {F : FS} {g : SS} {r0 r1 r2 : Bool} (hf : fn nAsk = some F) (hb : F.bor = some 2) (hl : sd.length ≤ 80000)
 (a0 : ∀ sd : List CV, sd.length ≤ 90000 -> F.run [.str P.v0, .str g, .list sd] [] = some (.bool r0, .list (sd ++ [.bool r0]))) (a1 : ∀ sd : List CV, sd.length ≤ 90000 -> F.run [.str P.v1, .str g, .list sd] [] = some (.bool r1, .list (sd ++ [.bool r1]))) (a2 : ∀ sd : List CV, sd.length ≤ 90000 -> F.run [.str P.v2, .str g, .list sd] [] = some (.bool r2, .list (sd ++ [.bool r2])))
 {tail : List (Str × Slot)} (ht : tail = o3 l (.str g) (.bool true) ∨ ∃ w, tail = o4 l (.str g) (.bool true) w) :
 (sem (GF fn) 19).xs (stA b23 2) (P.K sd gr fa tail) = some (.next, P.K (askedBy r0 r1 r2 sd) gr fa (o4 l (.str g) (.bool (r0 && r1 && r2)) (.str P.v2))) := by
 have hit : (sem (GF fn) 18).items (GF fn) true (forT (stA b23 2)) (forI (stA b23 2)) (P.K sd gr fa tail) = some ([.str P.v0, .str P.v1, .str P.v2], P.K sd gr fa tail) := by
  rcases ht with rfl | ⟨w, rfl⟩ <;> exact (by ext)
 have n1 : (saidN true sd r0).length ≤ 80001 := by unfold saidN; rw [List.length_append]; simp; omega
 have n2 : (saidN r0 (saidN true sd r0) r1).length ≤ 80002 := by
  cases r0
  · exact Nat.le_trans n1 (by lia)
  · show (saidN true sd true ++ [CV.bool r1]).length ≤ _
    rw [List.length_append]; simp; omega
 have T0 := ajR (P := P) (gr := gr) (fa := fa) (l := l) (k := true) hf hb (a0 sd (by lia))
 have T1 := ajR (P := P) (gr := gr) (fa := fa) (l := l) (k := r0) hf hb (a1 (saidN true sd r0) (by lia))
 have T2 := ajR (P := P) (gr := gr) (fa := fa) (l := l) (k := r0 && r1) hf hb (a2 (saidN r0 (saidN true sd r0) r1) (by lia))
 rw [Bool.true_and] at T0
 have hb0 : bindT (forT (stA b23 2)) (.str P.v0) (P.K sd gr fa tail) = some (P.K sd gr fa (o4 l (.str g) (.bool true) (.str P.v0))) := by
  rcases ht with rfl | ⟨w, rfl⟩
  · exact ajQ
  · exact aeC
 have hloop : loopL (fun c ρ => match bindT (forT (stA b23 2)) c ρ with | some ρ => (sem (GF fn) 18).xss b23i ρ | none => none) [.str P.v0, .str P.v1, .str P.v2] (P.K sd gr fa tail) = some (.next, P.K (askedBy r0 r1 r2 sd) gr fa (o4 l (.str g) (.bool (r0 && r1 && r2)) (.str P.v2))) := by
  rw [aah]
  rw [hb0]; dsimp only; rw [T0]; dsimp only
  rw [aah]
  rw [aeC]; dsimp only; rw [T1]; dsimp only
  rw [aah]
  rw [aeC]; dsimp only; rw [T2]; dsimp only
  rfl
 exact aa3 hit hloop
theorem ajS {g : SS} {w : CV} (hl : gr.length ≤ 1000) : (sem (GF fn) 19).xs (stA b23 3) (P.K sd gr fa (o4 l (.str g) (.bool k) w)) = some (.next, P.K sd (dput gr g (.bool k)) fa (o4 l (.str g) (.bool k) w)) :=
 adB (o := .dict gr) (o' := .dict (dput gr g (.bool k))) (kv := .str g) (c := .bool k) (by ext) (by ext) (by ext) (by ext) (setD (by unfold LIM; lia)) (by ext)
def c23 : Expr := match cmE (stA b23 4) with | .Call _ [e] _ _ => e | e => e
def frF (nd : List (SS × CV)) (l : CV) (tail : List (Str × Slot)) : CE := ⟨cmSc c23, ("number_of", .val (.dict nd)) :: ("order", .val l) :: tail⟩
noncomputable def kT (i : Int) : List (Str × Slot) := [("k", .val (.int i))]
variable {nd : List (SS × CV)} {v0 v1 v2 v3 : Int}
noncomputable def hdE : List Expr -> Expr | e :: _ => e | [] => default
set_option tactic.hygienic false
theorem ifs1 {S : SM} {l : List Expr} {t : Bool} {ρ ρ1 : CE} (hl : l = [hdE l]) (h : S.it (hdE l) ρ = some (t, ρ1)) : ifsL S l ρ = some (t, ρ1) := by
 rw [hl]; rw [aim]; show (match S.it (hdE l) ρ with | none => none | some (true, ρ) => _ | some (false, ρ) => _) = _; rw [h]; cases t <;> rfl
theorem fc1 (d0 : dget nd e0 = some (.int v0)) (d1 : dget nd e1 = some (.int v1)) : ifsL (sem (GF fn) 16) (cmG c23).ifs (frF nd (l4 e0 e1 e2 e3 g0 g1 g2 g3) (kT 1)) = some (decide (v1 < v0), frF nd (l4 e0 e1 e2 e3 g0 g1 g2 g3) (kT 1)) := by
 have h : (sem (GF fn) 16).it (hdE (cmG c23).ifs) (frF nd (l4 e0 e1 e2 e3 g0 g1 g2 g3) (kT 1)) = some (decide (v1 < v0), frF nd (l4 e0 e1 e2 e3 g0 g1 g2 g3) (kT 1)) :=
  aaH (x := .int v1) (y := .int v0) (by ext) (aa1 (a := .val (.int v1)) (b := .val (.int v0)) (aa2 (a := .dict nd) (b := .str (sg e1 g1)) (by ext) d1) (aa2 (a := .dict nd) (b := .str (sg e0 g0)) (by ext) d0) rfl rfl) rfl
 exact ifs1 (by ext) h
theorem fc2 (d0 : dget nd e1 = some (.int v1)) (d1 : dget nd e2 = some (.int v2)) : ifsL (sem (GF fn) 16) (cmG c23).ifs (frF nd (l4 e0 e1 e2 e3 g0 g1 g2 g3) (kT 2)) = some (decide (v2 < v1), frF nd (l4 e0 e1 e2 e3 g0 g1 g2 g3) (kT 2)) := by
 have h : (sem (GF fn) 16).it (hdE (cmG c23).ifs) (frF nd (l4 e0 e1 e2 e3 g0 g1 g2 g3) (kT 2)) = some (decide (v2 < v1), frF nd (l4 e0 e1 e2 e3 g0 g1 g2 g3) (kT 2)) :=
  aaH (x := .int v2) (y := .int v1) (by ext) (aa1 (a := .val (.int v2)) (b := .val (.int v1)) (aa2 (a := .dict nd) (b := .str (sg e2 g2)) (by ext) d1) (aa2 (a := .dict nd) (b := .str (sg e1 g1)) (by ext) d0) rfl rfl) rfl
 exact ifs1 (by ext) h
theorem fc3 (d0 : dget nd e2 = some (.int v2)) (d1 : dget nd e3 = some (.int v3)) : ifsL (sem (GF fn) 16) (cmG c23).ifs (frF nd (l4 e0 e1 e2 e3 g0 g1 g2 g3) (kT 3)) = some (decide (v3 < v2), frF nd (l4 e0 e1 e2 e3 g0 g1 g2 g3) (kT 3)) := by
 have h : (sem (GF fn) 16).it (hdE (cmG c23).ifs) (frF nd (l4 e0 e1 e2 e3 g0 g1 g2 g3) (kT 3)) = some (decide (v3 < v2), frF nd (l4 e0 e1 e2 e3 g0 g1 g2 g3) (kT 3)) :=
  aaH (x := .int v3) (y := .int v2) (by ext) (aa1 (a := .val (.int v3)) (b := .val (.int v2)) (aa2 (a := .dict nd) (b := .str (sg e3 g3)) (by ext) d1) (aa2 (a := .dict nd) (b := .str (sg e2 g2)) (by ext) d0) rfl rfl) rfl
 exact ifs1 (by ext) h
noncomputable def fallN (b1 b2 b3 : Bool) : Nat := b1.toNat + b2.toNat + b3.toNat
set_option tactic.hygienic true
theorem ajT {g : SS} {w : CV} (d0 : dget P.nd e0 = some (.int v0)) (d1 : dget P.nd e1 = some (.int v1)) (d2 : dget P.nd e2 = some (.int v2)) (d3 : dget P.nd e3 = some (.int v3)) (hl : fa.length ≤ 1000) :
 (sem (GF fn) 19).xs (stA b23 4) (P.K sd gr fa (o4 (l4 e0 e1 e2 e3 g0 g1 g2 g3) (.str g) (.bool k) w)) = some (.next, P.K sd gr (dput fa g (.int (fallN (decide (v1 < v0)) (decide (v2 < v1)) (decide (v3 < v2))))) (o4 (l4 e0 e1 e2 e3 g0 g1 g2 g3) (.str g) (.bool k) w)) := by
 have c1 : compL (GF fn) (sem (GF fn) 16) (cmElt c23) [cmG c23] (.int 1) (frF P.nd (l4 e0 e1 e2 e3 g0 g1 g2 g3) []) [] = _ := adE (ρ1 := frF P.nd (l4 e0 e1 e2 e3 g0 g1 g2 g3) (kT 1)) (v := .int 1) (by ext) (fc1 d0 d1) (by ext) (by decide)
 have c2 : ∀ {acc}, acc.length ≤ LIM -> compL (GF fn) (sem (GF fn) 16) (cmElt c23) [cmG c23] (.int 2) (frF P.nd (l4 e0 e1 e2 e3 g0 g1 g2 g3) (kT 1)) acc = _ := fun {acc} ha => adE (ρ1 := frF P.nd (l4 e0 e1 e2 e3 g0 g1 g2 g3) (kT 2)) (v := .int 2) (by ext) (fc2 d1 d2) (by ext) ha
 have c3 : ∀ {acc}, acc.length ≤ LIM -> compL (GF fn) (sem (GF fn) 16) (cmElt c23) [cmG c23] (.int 3) (frF P.nd (l4 e0 e1 e2 e3 g0 g1 g2 g3) (kT 2)) acc = _ := fun {acc} ha => adE (ρ1 := frF P.nd (l4 e0 e1 e2 e3 g0 g1 g2 g3) (kT 3)) (v := .int 3) (by ext) (fc3 d2 d3) (by ext) ha
 have hcomp : ∃ acc, acc.length = fallN (decide (v1 < v0)) (decide (v2 < v1)) (decide (v3 < v2)) ∧ accL (compL (GF fn) (sem (GF fn) 16) (cmElt c23) [cmG c23]) [.int 1, .int 2, .int 3] (frF P.nd (l4 e0 e1 e2 e3 g0 g1 g2 g3) []) [] = some (acc, frF P.nd (l4 e0 e1 e2 e3 g0 g1 g2 g3) (kT 3)) := by
  generalize decide (v1 < v0) = b1 at c1 ⊢
  generalize decide (v2 < v1) = b2 at c2 ⊢
  generalize decide (v3 < v2) = b3 at c3 ⊢
  cases b1 <;> cases b2 <;> cases b3 <;> exact ⟨_, rfl, aaA c1 (aaA (c2 (by decide)) (aaA (c3 (by decide)) adC))⟩
 obtain ⟨acc, hlen, ha⟩ := hcomp
 have hc : (sem (GF fn) 16).comp (GF fn) (cmElt c23) [cmG c23] (cmSc c23) (P.K sd gr fa (o4 (l4 e0 e1 e2 e3 g0 g1 g2 g3) (.str g) (.bool k) w)) = some (acc, P.K sd gr fa (o4 (l4 e0 e1 e2 e3 g0 g1 g2 g3) (.str g) (.bool k) w)) :=
  acP (l0 := [("number_of", .val (.dict P.nd)), ("order", .val (l4 e0 e1 e2 e3 g0 g1 g2 g3))]) (l := [("number_of", .val (.dict P.nd)), ("order", .val (l4 e0 e1 e2 e3 g0 g1 g2 g3))]) (its := [.int 1, .int 2, .int 3]) (by ext) (by ext) (by ext) (by ext) ha
 have hlt : acc.length ≤ 3 := by rw [hlen]; unfold fallN; have := fun b : Bool => Bool.toNat_le b; have a1 := this (decide (v1 < v0)); have a2 := this (decide (v2 < v1)); have a3 := this (decide (v3 < v2)); omega
 rw [<- hlen]
 exact adB (o := .dict fa) (o' := .dict (dput fa g (.int acc.length))) (kv := .str g) (c := .int acc.length) (by ext) (abu (a := .val (.int acc.length)) (aaT (c := .list acc) (by ext) (by ext) (by ext) (by ext) (adb (adD hc (by ext)) rfl) (afO (by lia))) rfl) (by ext) (by ext) (setD (by unfold LIM; lia)) (by ext)
end
abbrev Q4 := Nat × Nat × Nat × Nat
noncomputable def ordQ : List Q4 := [(3, 2, 1, 0), (2, 3, 1, 0), (2, 1, 3, 0), (2, 1, 0, 3), (3, 1, 2, 0), (1, 3, 2, 0), (1, 2, 3, 0), (1, 2, 0, 3), (3, 1, 0, 2), (1, 3, 0, 2), (1, 0, 3, 2), (1, 0, 2, 3), (3, 2, 0, 1), (2, 3, 0, 1), (2, 0, 3, 1), (2, 0, 1, 3), (3, 0, 2, 1), (0, 3, 2, 1), (0, 2, 3, 1), (0, 2, 1, 3), (3, 0, 1, 2), (0, 3, 1, 2), (0, 1, 3, 2), (0, 1, 2, 3)]
noncomputable def LP.e (P : LP) : Nat -> Str
 | 0 => P.s0
 | 1 => P.s1
 | 2 => P.s2
 | _ => P.s3
set_option tactic.hygienic false
theorem LP.he (P : LP) : ∀ i, (P.e i).length ≤ 10
 | 0 => P.h0
 | 1 => P.h1
 | 2 => P.h2
 | _ + 3 => P.h3
noncomputable def LP.x (P : LP) (i : Nat) : SS := sg (P.e i) (P.he i)
noncomputable def LP.oc (P : LP) (q : Q4) : CV := l4 (P.e q.1) (P.e q.2.1) (P.e q.2.2.1) (P.e q.2.2.2) (P.he _) (P.he _) (P.he _) (P.he _)
def LP.T (P : LP) (q : Q4) : SS := j4 (P.e q.1) (P.e q.2.1) (P.e q.2.2.1) (P.e q.2.2.2) (P.he _) (P.he _) (P.he _) (P.he _)
noncomputable def fallQ (v : Nat -> Int) (q : Q4) : Nat := fallN (decide (v q.2.1 < v q.1)) (decide (v q.2.2.1 < v q.2.1)) (decide (v q.2.2.2 < v q.2.2.1))
def okO (tail : List (Str × Slot)) : Prop := tail = [] ∨ ∃ l t k w, tail = o4 l t k w
section
variable {fn : Str -> Option FS} {P : LP} {sd : List CV} {gr fa : List (SS × CV)}
def Asks (F : FS) (w g : SS) (r : Bool) : Prop := ∀ sd : List CV, sd.length ≤ 90000 -> F.run [.str w, .str g, .list sd] [] = some (.bool r, .list (sd ++ [.bool r]))
set_option tactic.hygienic true
theorem alf {F : FS} (hf : fn nAsk = some F) (hb : F.bor = some 2) {q : Q4} {r0 r1 r2 : Bool} {v : Nat -> Int} (hv : ∀ i, dget P.nd (P.e i) = some (.int (v i))) (a0 : Asks F P.v0 (P.T q) r0) (a1 : Asks F P.v1 (P.T q) r1) (a2 : Asks F P.v2 (P.T q) r2)
 (hl : sd.length ≤ 80000) (hg : gr.length ≤ 1000) (hfa : fa.length ≤ 1000) {tail : List (Str × Slot)} (ht : okO tail) :
 (match bindT (forT (lawS 23)) (P.oc q) (P.K sd gr fa tail) with | some ρ => (sem (GF fn) 19).xss b23 ρ | none => none) =
  some (.next, P.K (askedBy r0 r1 r2 sd) (dput gr (P.T q) (.bool (r0 && r1 && r2))) (dput fa (P.T q) (.int (fallQ v q))) (o4 (P.oc q) (.str (P.T q)) (.bool (r0 && r1 && r2)) (.str P.v2))) := by
 have hbody : b23 = [stA b23 0, stA b23 1, stA b23 2, stA b23 3, stA b23 4] := by ext
 have back : ∀ {tail'}, (tail' = o3 (P.oc q) (.str (P.T q)) (.bool true) ∨ ∃ w, tail' = o4 (P.oc q) (.str (P.T q)) (.bool true) w) -> (sem (GF fn) 19).xss [stA b23 2, stA b23 3, stA b23 4] (P.K sd gr fa tail') = some (.next, P.K (askedBy r0 r1 r2 sd) (dput gr (P.T q) (.bool (r0 && r1 && r2))) (dput fa (P.T q) (.int (fallQ v q))) (o4 (P.oc q) (.str (P.T q)) (.bool (r0 && r1 && r2)) (.str P.v2))) := fun h =>
  aaa (ale hf hb hl a0 a1 a2 h) (aaa (ajS hg) (aaa (ajT (hv _) (hv _) (hv _) (hv _) hfa) aaf))
 rcases ht with rfl | ⟨l, t, k, w, rfl⟩
 · show (match bindT (forT (lawS 23)) (P.oc q) (P.K sd gr fa []) with | some ρ => (sem (GF fn) 19).xss b23 ρ | none => none) = _
   have hb0 : bindT (forT (lawS 23)) (P.oc q) (P.K sd gr fa []) = some (P.K sd gr fa (o1 (P.oc q))) := ajK
   rw [hb0, hbody]
   exact aaa ajM (aaa ajO (back (.inl rfl)))
 · have hb0 : bindT (forT (lawS 23)) (P.oc q) (P.K sd gr fa (o4 l t k w)) = some (P.K sd gr fa (o4 (P.oc q) t k w)) := ajL
   rw [hb0, hbody]
   exact aaa ajN (aaa ajP (back (.inr ⟨_, rfl⟩)))
set_option tactic.hygienic false
theorem adF (r0 r1 r2 : Bool) (sd : List CV) : ∃ bl : List Bool, bl.length ≤ 3 ∧ askedBy r0 r1 r2 sd = sd ++ bl.map CV.bool := by
 unfold askedBy saidN
 cases r0 <;> cases r1
 · exact ⟨[false], by decide, rfl⟩
 · exact ⟨[false], by decide, rfl⟩
 · exact ⟨[true, false], by decide, by simp⟩
 · exact ⟨[true, true, r2], by simp, by simp⟩
def grantsQ (P : LP) (R : Q4 -> Bool) (ls : List Q4) (gr : List (SS × CV)) : List (SS × CV) := ls.foldl (fun g q => dput g (P.T q) (.bool (R q))) gr
def fallsQ (P : LP) (v : Nat -> Int) (ls : List Q4) (fa : List (SS × CV)) : List (SS × CV) := ls.foldl (fun g q => dput g (P.T q) (.int (fallQ v q))) fa
set_option tactic.hygienic true
theorem alg {F : FS} (hf : fn nAsk = some F) (hb : F.bor = some 2) {R0 R1 R2 : Q4 -> Bool} {v : Nat -> Int} (hv : ∀ i, dget P.nd (P.e i) = some (.int (v i))) : ∀ (ls : List Q4) (sd : List CV) (gr fa : List (SS × CV)) (tail : List (Str × Slot)),
 (∀ q ∈ ls, Asks F P.v0 (P.T q) (R0 q) ∧ Asks F P.v1 (P.T q) (R1 q) ∧ Asks F P.v2 (P.T q) (R2 q)) -> sd.length + 3 * ls.length ≤ 80000 -> gr.length + ls.length ≤ 1000 -> fa.length + ls.length ≤ 1000 -> okO tail ->
 ∃ (bl : List Bool) (tail' : List (Str × Slot)), bl.length ≤ 3 * ls.length ∧ okO tail' ∧ (ls ≠ [] -> ∃ l t k w, tail' = o4 l t k w) ∧
  loopL (fun c ρ => match bindT (forT (lawS 23)) c ρ with | some ρ => (sem (GF fn) 19).xss b23 ρ | none => none) (ls.map P.oc) (P.K sd gr fa tail) = some (.next, P.K (sd ++ bl.map CV.bool) (grantsQ P (fun q => R0 q && R1 q && R2 q) ls gr) (fallsQ P v ls fa) tail') := by
 intro ls
 induction ls with
 | nil => intro sd gr fa tail _ _ _ _ ht; exact ⟨[], tail, Nat.zero_le _, ht, fun h => absurd rfl h, by simp [ab2, grantsQ, fallsQ]⟩
 | cons q r ih =>
  intro sd gr fa tail ha h1 h2 h3 ht
  simp only [List.length_cons] at h1 h2 h3
  refine hid fun z0 => ?_
  obtain ⟨a0, a1, a2⟩ := ha q (.head _)
  have T := alf hf hb hv a0 a1 a2 (sd := sd) (gr := gr) (fa := fa) (by omega) (by omega) (by omega) ht
  obtain ⟨b1, hb1, e1⟩ := adF (R0 q) (R1 q) (R2 q) sd
  rw [e1] at T
  have l2 := aff gr (P.T q) (.bool (R0 q && R1 q && R2 q))
  have l3 := aff fa (P.T q) (.int (fallQ v q))
  obtain ⟨b2, t2, hb2, ht2, _, hl⟩ := ih (sd ++ b1.map CV.bool) (dput gr (P.T q) (.bool (R0 q && R1 q && R2 q))) (dput fa (P.T q) (.int (fallQ v q))) (o4 (P.oc q) (.str (P.T q)) (.bool (R0 q && R1 q && R2 q)) (.str P.v2)) (fun q hq => ha q (.tail _ hq)) (by rw [List.length_append, List.length_map]; lia) (by lia) (by lia) (.inr ⟨_, _, _, _, rfl⟩)
  have hq4 : ∃ l t k w, t2 = o4 l t k w := by
   rcases ht2 with rfl | h
   · rename_i hne
     cases r with
     | nil =>
      rw [List.map_nil, ab2] at hl
      exact absurd (congrArg (fun x => x.map fun y => y.2.vars.length) hl) (by simp [LP.K, LP.Z, U, V0, W19, W18, W17, W16, W15, W14, W12, W11, W10, W9, W7, r5, r4, r3, r2, o4])
     | cons _ _ => exact hne (by simp)
   · exact h
  refine z0 ?_
  refine ⟨b1 ++ b2, t2, by rw [List.length_append, List.length_cons]; lia, .inr hq4, fun _ => hq4, ?_⟩
  show loopL _ (P.oc q :: r.map P.oc) _ = _
  rw [aah]
  rw [T]
  dsimp only
  rw [hl, List.map_append, List.append_assoc]
  rfl
theorem alh {F : FS} (hf : fn nAsk = some F) (hb : F.bor = some 2) {R0 R1 R2 : Q4 -> Bool} {v : Nat -> Int} (hv : ∀ i, dget P.nd (P.e i) = some (.int (v i)))
 (ha : ∀ q ∈ ordQ, Asks F P.v0 (P.T q) (R0 q) ∧ Asks F P.v1 (P.T q) (R1 q) ∧ Asks F P.v2 (P.T q) (R2 q)) :
 ∃ (bl : List Bool) (l t k w : CV), bl.length ≤ 72 ∧ (sem (GF fn) 20).xs (lawS 23) (P.K [] [] [] []) = some (.next, P.K (bl.map CV.bool) (grantsQ P (fun q => R0 q && R1 q && R2 q) ordQ []) (fallsQ P v ordQ []) (o4 l t k w)) := by
 refine hid fun z0 => ?_
 obtain ⟨bl, t', hbl, _, h4, hl⟩ := alg (fn := fn) (P := P) hf hb hv ordQ [] [] [] [] ha (by decide) (by decide) (by decide) (.inl rfl)
 obtain ⟨l, t, k, w, rfl⟩ := h4 (by decide)
 have hit : (sem (GF fn) 19).items (GF fn) true (forT (lawS 23)) (forI (lawS 23)) (P.K [] [] [] []) = some (ordQ.map P.oc, P.K [] [] [] []) := (by ext)
 rw [List.nil_append] at hl
 refine z0 ?_
 exact ⟨bl, l, t, k, w, hbl, aa3 hit hl⟩
end
def LP.Zs (P : LP) (sl : Slot) (r : List (Str × Slot)) : CE := U P.cs P.a P.b [] (W19 P.p P.q P.d P.sp P.m P.z [.str P.x0, .str P.x1, .str P.x2, .str P.x3] P.tl P.nd sl P.w [.str P.v0, .str P.v1, .str P.v2] (ordV (.str P.x0) (.str P.x1) (.str P.x2) (.str P.x3)) (.str P.x3) r)
def LP.Ks (P : LP) (sl : Slot) (sd : List CV) (gr fa : List (SS × CV)) (r : List (Str × Slot)) : CE := P.Zs sl (("said", .own (.list sd)) :: ("granted", .own (.dict gr)) :: ("falls", .own (.dict fa)) :: r)
noncomputable def LP.chO (P : LP) : Slot := .own (.list P.ch)
noncomputable def LP.chV (P : LP) : Slot := .val (.list P.ch)
noncomputable def u4 (l t k w : CV) (r : List (Str × Slot)) : List (Str × Slot) := ("order", .val l) :: ("text", .val t) :: ("kept", .val k) :: ("want", .val w) :: r
noncomputable def n1 (bl : Bool) (r : List (Str × Slot)) : List (Str × Slot) := ("by_left", .val (.bool bl)) :: r
noncomputable def n2 (bl : Bool) (sh : List (SS × CV)) (r : List (Str × Slot)) : List (Str × Slot) := ("by_left", .val (.bool bl)) :: ("shares", .own (.dict sh)) :: r
noncomputable def n4 (bl : Bool) (sh : List (SS × CV)) (ro fl : CV) (r : List (Str × Slot)) : List (Str × Slot) := ("by_left", .val (.bool bl)) :: ("shares", .own (.dict sh)) :: ("row", .val ro) :: ("floor", .val fl) :: r
noncomputable def dueT (c : CV) : List (Str × Slot) := [("due", .val c)]
def okZ (z : List (Str × Slot)) : Prop := z = [] ∨ ∃ c, z = dueT c
def b24 : List Stmt := forB (lawS 24)
def b24i : List Stmt := forB (stA b24 1)
noncomputable def LP.fd (P : LP) (f : Int × Int × Int × Int) : List (SS × CV) := [(P.x0, .int f.1), (P.x1, .int f.2.1), (P.x2, .int f.2.2.1), (P.x3, .int f.2.2.2)]
section
variable {fn : Str -> Option FS} {P : LP} {sl : Slot} {sd : List CV} {gr fa sh : List (SS × CV)} {e0 e1 e2 e3 : Str} {g0 : e0.length ≤ 10} {g1 : e1.length ≤ 10} {g2 : e2.length ≤ 10} {g3 : e3.length ≤ 10} {l te k w ro fl : CV} {bl : Bool} {z : List (Str × Slot)}
set_option tactic.hygienic false
theorem ajU : bindT (forT (lawS 24)) (.bool bl) (P.Ks P.chO sd gr fa (u4 l te k w [])) = some (P.Ks P.chO sd gr fa (u4 l te k w (n1 bl []))) := (by ext)
theorem ajV {b' : Bool} {du : CV} : bindT (forT (lawS 24)) (.bool bl) (P.Ks P.chV sd gr fa (u4 l te k w (n4 b' sh ro fl (dueT du)))) = some (P.Ks P.chV sd gr fa (u4 l te k w (n4 bl sh ro fl (dueT du)))) := (by ext)
set_option tactic.hygienic true
theorem amV : (sem (GF fn) 19).xs (stA b24 0) (P.Ks P.chO sd gr fa (u4 l te k w (n1 bl []))) = some (.next, P.Ks P.chO sd gr fa (u4 l te k w (n2 bl [] []))) := (by ext)
theorem amW {du : CV} : (sem (GF fn) 19).xs (stA b24 0) (P.Ks P.chV sd gr fa (u4 l te k w (n4 bl sh ro fl (dueT du)))) = some (.next, P.Ks P.chV sd gr fa (u4 l te k w (n4 bl [] ro fl (dueT du)))) := (by ext)
set_option tactic.hygienic false
theorem ajW {c : List CV} {d : List (SS × CV)} : bindT (forT (stA b24 1)) (.list [.list c, .dict d]) (P.Ks P.chO sd gr fa (u4 l te k w (n2 bl sh []))) = some (P.Ks P.chO sd gr fa (u4 l te k w (n4 bl sh (.list c) (.dict d) []))) := (by ext)
theorem ajX {c : List CV} {d : List (SS × CV)} (hz : okZ z) (hs : sl = P.chO ∨ sl = P.chV) : bindT (forT (stA b24 1)) (.list [.list c, .dict d]) (P.Ks sl sd gr fa (u4 l te k w (n4 bl sh ro fl z))) = some (P.Ks sl sd gr fa (u4 l te k w (n4 bl sh (.list c) (.dict d) z))) := (by rcases hz with rfl | ⟨dd, rfl⟩ <;> rcases hs with rfl | rfl <;> ext)
set_option tactic.hygienic true
theorem ali (hz : okZ z) (hs : sl = P.chO ∨ sl = P.chV) : (sem (GF fn) 18).xs (stA b24i 0) (P.Ks sl sd gr fa (u4 l te k w (n4 bl sh (l4 e0 e1 e2 e3 g0 g1 g2 g3) fl z))) = some (.next, P.Ks sl sd gr fa (u4 l (.str (j4 e0 e1 e2 e3 g0 g1 g2 g3)) k w (n4 bl sh (l4 e0 e1 e2 e3 g0 g1 g2 g3) fl z))) := (by rcases hz with rfl | ⟨dd, rfl⟩ <;> rcases hs with rfl | rfl <;> ext)
noncomputable def nKp : Str := "_law_keeps"
set_option tactic.hygienic false
theorem agK {es : List (SS × CV)} {t : SS} {c : CV} (h : dget es t.s = some c) : methC .get (.dict es) [.str t] = some c := by
 show (match dget es t.s with | some c => some c | none => some .none) = _
 rw [h]
def getN (es : List (SS × CV)) (t : Str) : Option Int := match dget es t with
 | some (.int i) => some i
 | none => some 0
 | _ => none
theorem alj {es : List (SS × CV)} {t : SS} {i : Int} (h : getN es t.s = some i) : methC .get (.dict es) [.str t, .int 0] = some (.int i) := by
 show (match dget es t.s with | some c => some c | none => some (.int 0)) = _
 unfold getN at h
 revert h
 generalize dget es t.s = g
 intro h
 rcases g with _ | y
 · first | exact aab h | (cases h; rfl)
 cases y <;> first | exact aab h | (cases h; rfl)
set_option tactic.hygienic true
theorem r_if {F : FS} {t : SS} {d : List (SS × CV)} {r : Bool} (hz : okZ z) (hs : sl = P.chO ∨ sl = P.chV) (hf : fn nKp = some F) (hb : F.bor = none) (hg : dget gr t.s = some (.bool r)) (hr : F.run [.list P.ch, .dict d, .bool bl] [] = some (.bool r, .list [])) :
 (sem (GF fn) 18).xs (stA b24i 1) (P.Ks sl sd gr fa (u4 l (.str t) k w (n4 bl sh ro (.dict d) z))) = some (.next, P.Ks P.chV sd gr fa (u4 l (.str t) k w (n4 bl sh ro (.dict d) z))) := by
 refine aaD (ρ1 := P.Ks P.chV sd gr fa (u4 l (.str t) k w (n4 bl sh ro (.dict d) z))) (aaH (x := .bool r) (y := .bool r) (by ext) (aee (a := .val (.bool r)) (b := .val (.bool r)) (ρ1 := P.Ks sl sd gr fa (u4 l (.str t) k w (n4 bl sh ro (.dict d) z)))
  (aa9 (ov := .ref "granted") (c0 := .dict gr) (k := .get) (avs := [.val (.str t)]) (cs := [.str t]) (by rcases hz with rfl | ⟨dd, rfl⟩ <;> rcases hs with rfl | rfl <;> ext) (by ext) (by rcases hz with rfl | ⟨dd, rfl⟩ <;> rcases hs with rfl | rfl <;> ext) (by rcases hz with rfl | ⟨dd, rfl⟩ <;> rcases hs with rfl | rfl <;> ext) (by ext) rfl (aac (by rcases hz with rfl | ⟨dd, rfl⟩ <;> rcases hs with rfl | rfl <;> ext) aad) rfl (agK hg))
  (aaQ (by ext) (by rcases hz with rfl | ⟨dd, rfl⟩ <;> rcases hs with rfl | rfl <;> ext) (aar hf (by ext)) (acg (ρ1 := P.Ks sl sd gr fa (u4 l (.str t) k w (n4 bl sh ro (.dict d) z))) (ρ2 := P.Ks sl sd gr fa (u4 l (.str t) k w (n4 bl sh ro (.dict d) z))) (avs := (match sl with | .own _ => EV.ref "chains" | _ => .val (.list P.ch)) :: [.val (.dict d), .val (.bool bl)]) (kvs := []) (cs := [.list P.ch, .dict d, .bool bl]) hb ?_ (by ext) ?_ hr)) rfl rfl) (by cases r <;> rfl)) (by ext)
 · exact aac (by rcases hz with rfl | ⟨dd, rfl⟩ <;> rcases hs with rfl | rfl <;> ext) (aac (by rcases hz with rfl | ⟨dd, rfl⟩ <;> rcases hs with rfl | rfl <;> ext) (aac (by rcases hz with rfl | ⟨dd, rfl⟩ <;> rcases hs with rfl | rfl <;> ext) aad))
 · exact (by rcases hz with rfl | ⟨dd, rfl⟩ <;> rcases hs with rfl | rfl <;> ext)
theorem r_sh {t : SS} {i : Int} (hz : okZ z) (hi : getN sh t.s = some i) (hl : sh.length ≤ 1000) : (sem (GF fn) 18).xs (stA b24i 2) (P.Ks P.chV sd gr fa (u4 l (.str t) k w (n4 bl sh ro fl z))) = some (.next, P.Ks P.chV sd gr fa (u4 l (.str t) k w (n4 bl (dput sh t (.int (i + 1))) ro fl z))) :=
 adB (o := .dict sh) (o' := .dict (dput sh t (.int (i + 1)))) (kv := .str t) (c := .int (i + 1)) (by rcases hz with rfl | ⟨dd, rfl⟩ <;> ext) (abu (a := .val (.int (i + 1))) (acf (x := .int i) (y := .int 1) (aa1 (a := .val (.int i)) (b := .val (.int 1)) (aa9 (ov := .ref "shares") (c0 := .dict sh) (k := .get) (avs := [.val (.str t), .val (.int 0)]) (cs := [.str t, .int 0]) (by rcases hz with rfl | ⟨dd, rfl⟩ <;> ext) (by ext) (by rcases hz with rfl | ⟨dd, rfl⟩ <;> ext) (by rcases hz with rfl | ⟨dd, rfl⟩ <;> ext) (by ext) rfl (aac (by rcases hz with rfl | ⟨dd, rfl⟩ <;> ext) (aac (by rcases hz with rfl | ⟨dd, rfl⟩ <;> ext) aad)) rfl (alj hi)) (by rcases hz with rfl | ⟨dd, rfl⟩ <;> ext) rfl rfl) rfl) rfl) (by rcases hz with rfl | ⟨dd, rfl⟩ <;> ext) (by rcases hz with rfl | ⟨dd, rfl⟩ <;> ext) (setD (by unfold LIM; lia)) (by rcases hz with rfl | ⟨dd, rfl⟩ <;> ext)
end
noncomputable def iget (s : List (Q4 × CV)) (q : Q4) : Option CV := match s with
 | [] => none
 | (a, c) :: r => match decide (q = a) with
  | true => some c
  | false => iget r q
set_option tactic.hygienic false
theorem aiC (a : Q4) (c : CV) (r : List (Q4 × CV)) (q : Q4) : iget ((a, c) :: r) q = match decide (q = a) with | true => some c | false => iget r q := rfl
noncomputable def iput (s : List (Q4 × CV)) (q : Q4) (v : CV) : List (Q4 × CV) := match s with
 | [] => [(q, v)]
 | (a, c) :: r => match decide (q = a) with
  | true => (a, v) :: r
  | false => (a, c) :: iput r q v
theorem agL (a : Q4) (c : CV) (r : List (Q4 × CV)) (q : Q4) (v : CV) : iput ((a, c) :: r) q v = match decide (q = a) with | true => (a, v) :: r | false => (a, c) :: iput r q v := rfl
def LP.im (P : LP) (s : List (Q4 × CV)) : List (SS × CV) := s.map fun x => (P.T x.1, x.2)
def LP.Tinj (P : LP) : Prop := ∀ q ∈ ordQ, ∀ q' ∈ ordQ, (P.T q).s = (P.T q').s -> q = q'
def inQ (s : List (Q4 × CV)) : Prop := ∀ x ∈ s, x.1 ∈ ordQ
section
variable {P : LP} (hT : P.Tinj)
include hT
set_option tactic.hygienic false
theorem alk {q a : Q4} (hq : q ∈ ordQ) (ha : a ∈ ordQ) : ((P.T q).s == (P.T a).s) = decide (q = a) := by
 cases h : decide (q = a) with
 | true => rw [of_decide_eq_true h]; exact beq_self_eq_true _
 | false =>
  have hne : q ≠ a := of_decide_eq_false h
  exact beq_eq_false_iff_ne.mpr fun e => hne (hT q hq a ha e)
theorem acR {q : Q4} (hq : q ∈ ordQ) : ∀ {s : List (Q4 × CV)}, inQ s -> dget (P.im s) (P.T q).s = iget s q
 | [], _ => rfl
 | (a, c) :: r, h => by
  show dget ((P.T a, c) :: P.im r) _ = _
  rw [adP, aiC]
  rw [alk hT hq (h _ (.head _)), acR hq (fun x hx => h x (.tail _ hx))]
  all_goals rfl
theorem aeD {q : Q4} (hq : q ∈ ordQ) {v : CV} : ∀ {s : List (Q4 × CV)}, inQ s -> dput (P.im s) (P.T q) v = P.im (iput s q v)
 | [], _ => rfl
 | (a, c) :: r, h => by
  show dput ((P.T a, c) :: P.im r) _ _ = _
  rw [aeU, agL]
  rw [alk hT hq (h _ (.head _))]
  cases decide (q = a) with
  | true => rfl
  | false =>
   show (P.T a, c) :: dput (P.im r) (P.T q) v = (P.T a, c) :: P.im (iput r q v)
   rw [aeD hq (fun x hx => h x (.tail _ hx))]
end
set_option tactic.hygienic false
theorem aeE {q : Q4} (hq : q ∈ ordQ) {v : CV} : ∀ {s : List (Q4 × CV)}, inQ s -> inQ (iput s q v)
 | [], _ => fun x hx => by rw [List.mem_singleton.mp hx]; exact hq
 | (a, c) :: r, h => by
  rw [agL]
  cases decide (q = a) with
  | true =>
   intro x hx
   rcases List.mem_cons.mp hx with e | e
   · rw [e]; exact h (a, c) (.head _)
   · exact h x (.tail _ e)
  | false =>
   intro x hx
   rcases List.mem_cons.mp hx with e | e
   · rw [e]; exact h (a, c) (.head _)
   · exact aeE hq (fun x hx => h x (.tail _ hx)) x e
section
variable {P : LP} (hT : P.Tinj)
include hT
set_option tactic.hygienic false
theorem aeF {f : Q4 -> CV} : ∀ {ls : List Q4} {s : List (Q4 × CV)}, (∀ q ∈ ls, q ∈ ordQ) -> inQ s -> ls.foldl (fun g q => dput g (P.T q) (f q)) (P.im s) = P.im (ls.foldl (fun g q => iput g q (f q)) s)
 | [], _, _, _ => rfl
 | q :: r, s, h, hs => by
  show r.foldl _ (dput (P.im s) (P.T q) (f q)) = _
  rw [aeD hT (h q (.head _)) hs, aeF (fun x hx => h x (.tail _ hx)) (aeE (h q (.head _)) hs)]
  rfl
theorem agM {R : Q4 -> Bool} : grantsQ P R ordQ [] = P.im (ordQ.map fun q => (q, .bool (R q))) := by
 have h := aeF hT (f := fun q => .bool (R q)) (ls := ordQ) (s := []) (fun q h => h) (fun x hx => by cases hx)
 have e : ordQ.foldl (fun g q => iput g q (.bool (R q))) [] = ordQ.map fun q => (q, .bool (R q)) := by ext
 rw [e] at h
 exact h
theorem ahQ {v : Nat -> Int} : fallsQ P v ordQ [] = P.im (ordQ.map fun q => (q, .int (fallQ v q))) := by
 have h := aeF hT (f := fun q => .int (fallQ v q)) (ls := ordQ) (s := []) (fun q h => h) (fun x hx => by cases hx)
 have e : ordQ.foldl (fun g q => iput g q (.int (fallQ v q))) [] = ordQ.map fun q => (q, .int (fallQ v q)) := by ext
 rw [e] at h
 exact h
end
set_option tactic.hygienic false
theorem aeG {f : Q4 -> CV} {ls : List Q4} (h : ∀ q ∈ ls, q ∈ ordQ) : inQ (ls.map fun q => (q, f q)) := fun x hx => by
 obtain ⟨q, hq, rfl⟩ := List.mem_map.mp hx
 exact h q hq
theorem acs {f : Q4 -> CV} {q : Q4} : ∀ {ls : List Q4}, q ∈ ls -> iget (ls.map fun q => (q, f q)) q = some (f q)
 | [], h => by cases h
 | a :: r, h => by
  show iget ((a, f a) :: r.map fun q => (q, f q)) q = _
  rw [aiC]
  cases hd : decide (q = a) with
  | true => rw [of_decide_eq_true hd]
  | false =>
   have hne : q ≠ a := of_decide_eq_false hd
   exact acs ((List.mem_cons.mp h).resolve_left hne)
abbrev F4 := Int × Int × Int × Int
abbrev Pe := Q4 × F4
noncomputable def LP.rf (P : LP) (x : Pe) : RF := ([.str (P.x x.1.1), .str (P.x x.1.2.1), .str (P.x x.1.2.2.1), .str (P.x x.1.2.2.2)], P.fd x.2)
def igN (s : List (Q4 × CV)) (q : Q4) : Option Int := match iget s q with
 | some (.int i) => some i
 | none => some 0
 | _ => none
def bumps : List Q4 -> List (Q4 × CV) -> Option (List (Q4 × CV))
 | [], s => some s
 | q :: r, s => match igN s q with
  | some i => bumps r (iput s q (.int (i + 1)))
  | none => none
theorem ahR (s : List (Q4 × CV)) (q : Q4) (v : CV) : (iput s q v).length ≤ s.length + 1 := by
 induction s with
 | nil => exact Nat.le_refl _
 | cons x r ih =>
  rw [agL]
  cases decide (q = x.1) with
  | true => simp
  | false => simp; exact ih
section
variable {fn : Str -> Option FS} {P : LP} {sl : Slot} {sd : List CV} {gr fa : List (SS × CV)} {l te k w ro fl : CV} {bl : Bool} {z : List (Str × Slot)}
set_option tactic.hygienic false
theorem agN (hT : P.Tinj) {s : List (Q4 × CV)} {q : Q4} {i : Int} (hq : q ∈ ordQ) (hs : inQ s) (h : igN s q = some i) : getN (P.im s) (P.T q).s = some i := by
 unfold getN
 rw [acR hT hq hs]
 unfold igN at h
 cases hg : iget s q with
 | none => rw [hg] at h; exact h
 | some c => rw [hg] at h; cases c <;> first | exact h | (cases h; done)
def okS (P : LP) (sl : Slot) (bl : Bool) (sh : List (SS × CV)) (z tail : List (Str × Slot)) : Prop := (tail = n2 bl sh [] ∧ z = [] ∧ sl = P.chO) ∨ ((sl = P.chO ∨ sl = P.chV) ∧ ∃ ro fl, tail = n4 bl sh ro fl z)
set_option tactic.hygienic true
theorem alm {F : FS} (hT : P.Tinj) (hz : okZ z) (hf : fn nKp = some F) (hb : F.bor = none) {x : Pe} {R : Q4 -> Bool} {s : List (Q4 × CV)} {i : Int} (hq : x.1 ∈ ordQ) (hs : inQ s) (hl : s.length ≤ 1000) (hi : igN s x.1 = some i)
 (hr : F.run [.list P.ch, .dict (P.fd x.2), .bool bl] [] = some (.bool (R x.1), .list [])) {tail : List (Str × Slot)} (ht : okS P sl bl (P.im s) z tail) :
 (match bindT (forT (stA b24 1)) (pcv (P.rf x)) (P.Ks sl sd (P.im (ordQ.map fun q => (q, .bool (R q)))) fa (u4 l te k w tail)) with | some ρ => (sem (GF fn) 18).xss b24i ρ | none => none) =
  some (.next, P.Ks P.chV sd (P.im (ordQ.map fun q => (q, .bool (R q)))) fa (u4 l (.str (P.T x.1)) k w (n4 bl (P.im (iput s x.1 (.int (i + 1)))) (P.oc x.1) (.dict (P.fd x.2)) z))) := by
 have hbody : b24i = [stA b24i 0, stA b24i 1, stA b24i 2] := by ext
 have hgr : dget (P.im (ordQ.map fun q => (q, .bool (R q)))) (P.T x.1).s = some (.bool (R x.1)) := by
  rw [acR hT hq (aeG (fun q h => h)), acs (f := fun q => .bool (R q)) hq]
 have hlen : (P.im s).length ≤ 1000 := by unfold LP.im; rw [List.length_map]; exact hl
 have hsl : sl = P.chO ∨ sl = P.chV := by
  rcases ht with ⟨_, _, h⟩ | ⟨h, _⟩
  · exact .inl h
  · exact h
 have hbind : bindT (forT (stA b24 1)) (pcv (P.rf x)) (P.Ks sl sd (P.im (ordQ.map fun q => (q, .bool (R q)))) fa (u4 l te k w tail)) = some (P.Ks sl sd (P.im (ordQ.map fun q => (q, .bool (R q)))) fa (u4 l te k w (n4 bl (P.im s) (P.oc x.1) (.dict (P.fd x.2)) z))) := by
  rcases ht with ⟨rfl, rfl, rfl⟩ | ⟨_, ro, fl, rfl⟩
  · exact ajW
  · exact ajX hz hsl
 have r2 := r_sh (fn := fn) (P := P) (sd := sd) (gr := P.im (ordQ.map fun q => (q, .bool (R q)))) (fa := fa) (l := l) (k := k) (w := w) (ro := P.oc x.1) (fl := .dict (P.fd x.2)) (bl := bl) (t := P.T x.1) hz (agN hT hq hs hi) hlen
 rw [aeD hT hq hs] at r2
 rw [hbind, hbody]
 exact aaa (ali hz hsl) (aaa (r_if hz hsl hf hb hgr hr) (aaa r2 aaf))
theorem aln {F : FS} (hT : P.Tinj) (hz : okZ z) (hf : fn nKp = some F) (hb : F.bor = none) {R : Q4 -> Bool} : ∀ (pls : List Pe) (sl : Slot) (te : CV) (s s' : List (Q4 × CV)) (tail : List (Str × Slot)), pls ≠ [] -> (∀ x ∈ pls, x.1 ∈ ordQ) -> inQ s -> s.length + pls.length ≤ 1000 -> bumps (pls.map fun x => x.1) s = some s' ->
 (∀ x ∈ pls, F.run [.list P.ch, .dict (P.fd x.2), .bool bl] [] = some (.bool (R x.1), .list [])) -> okS P sl bl (P.im s) z tail ->
 ∃ te' ro fl, inQ s' ∧ loopL (fun c ρ => match bindT (forT (stA b24 1)) c ρ with | some ρ => (sem (GF fn) 18).xss b24i ρ | none => none) (pls.map fun x => pcv (P.rf x)) (P.Ks sl sd (P.im (ordQ.map fun q => (q, .bool (R q)))) fa (u4 l te k w tail)) =
  some (.next, P.Ks P.chV sd (P.im (ordQ.map fun q => (q, .bool (R q)))) fa (u4 l te' k w (n4 bl (P.im s') ro fl z))) := by
 intro pls
 induction pls with
 | nil => intro sl te s s' tail h; exact absurd rfl h
 | cons x r ih =>
  intro sl te s s' tail _ hq hs hl hbp hr ht
  simp only [List.length_cons] at hl
  change (match igN s x.1 with | some i => bumps (r.map fun x => x.1) (iput s x.1 (.int (i + 1))) | none => none) = some s' at hbp
  cases hi : igN s x.1 with
  | none => rw [hi] at hbp; cases hbp
  | some i =>
   rw [hi] at hbp
   have T := alm (fn := fn) (sd := sd) (fa := fa) (l := l) (te := te) (k := k) (w := w) hT hz hf hb (hq x (.head _)) hs (by omega) hi (hr x (.head _)) ht
   have hs1 : inQ (iput s x.1 (.int (i + 1))) := aeE (hq x (.head _)) hs
   cases r with
   | nil =>
    have e : iput s x.1 (.int (i + 1)) = s' := Option.some.inj hbp
    rw [e] at T hs1
    refine ⟨.str (P.T x.1), P.oc x.1, .dict (P.fd x.2), hs1, ?_⟩
    show loopL _ [pcv (P.rf x)] _ = _
    rw [aah]
    rw [T]
    rfl
   | cons y r' =>
    have hlen := ahR s x.1 (.int (i + 1))
    obtain ⟨te', ro, fl, hs', h⟩ := ih P.chV (.str (P.T x.1)) (iput s x.1 (.int (i + 1))) s' (n4 bl (P.im (iput s x.1 (.int (i + 1)))) (P.oc x.1) (.dict (P.fd x.2)) z) (by simp) (fun x hx => hq x (.tail _ hx)) hs1 (by omega) hbp (fun x hx => hr x (.tail _ hx)) (.inr ⟨.inr rfl, _, _, rfl⟩)
    refine ⟨te', ro, fl, hs', ?_⟩
    show loopL _ (pcv (P.rf x) :: (y :: r').map fun x => pcv (P.rf x)) _ = _
    rw [aah]
    rw [T]
    exact h
noncomputable def nPl : Str := "_law_placings"
theorem alo {Fp Fk : FS} (hT : P.Tinj) (hz : okZ z) (hfp : fn nPl = some Fp) (hbp : Fp.bor = none) (hfk : fn nKp = some Fk) (hbk : Fk.bor = none) {R : Q4 -> Bool} {pls : List Pe} {s' : List (Q4 × CV)} (hne : pls ≠ []) (hn : pls.length ≤ 900) (hq : ∀ x ∈ pls, x.1 ∈ ordQ) (hbu : bumps (pls.map fun x => x.1) [] = some s')
 (hrp : Fp.run [.list [.str P.x0, .str P.x1, .str P.x2, .str P.x3], .bool bl] [] = some (.list (pls.map fun x => pcv (P.rf x)), .list []))
 (hrk : ∀ x ∈ pls, Fk.run [.list P.ch, .dict (P.fd x.2), .bool bl] [] = some (.bool (R x.1), .list [])) {tail : List (Str × Slot)} (ht : okS P sl bl [] z tail) :
 ∃ te' ro fl, inQ s' ∧ (sem (GF fn) 19).xs (stA b24 1) (P.Ks sl sd (P.im (ordQ.map fun q => (q, .bool (R q)))) fa (u4 l te k w tail)) = some (.next, P.Ks P.chV sd (P.im (ordQ.map fun q => (q, .bool (R q)))) fa (u4 l te' k w (n4 bl (P.im s') ro fl z))) := by
 obtain ⟨te', ro, fl, hs', hloop⟩ := aln (fn := fn) (sd := sd) (fa := fa) (l := l) (k := k) (w := w) hT hz hfk hbk pls sl te [] s' tail hne hq (fun x hx => by cases hx) (by show 0 + _ ≤ _; omega) hbu hrk ht
 have hb : isBlt (GF fn) (P.Ks sl sd (P.im (ordQ.map fun q => (q, .bool (R q)))) fa (u4 l te k w tail)) nPl = false := afa (aar hfp (by ext))
 have e : srcOf (GF fn) (P.Ks sl sd (P.im (ordQ.map fun q => (q, .bool (R q)))) fa (u4 l te k w tail)) (forI (stA b24 1)) = .plain (forI (stA b24 1)) := by
  have e1 : ∀ ρ, srcOf (GF fn) ρ (forI (stA b24 1)) = (match isBlt (GF fn) ρ nPl && true with | true => srcB (forI (stA b24 1)) nPl (match eCall (forI (stA b24 1)) with | some (_, a, _) => a | none => []) | false => .plain (forI (stA b24 1))) := fun ρ => by ext
  rw [e1, hb]; rfl
 have hit : (sem (GF fn) 18).items (GF fn) true (forT (stA b24 1)) (forI (stA b24 1)) (P.Ks sl sd (P.im (ordQ.map fun q => (q, .bool (R q)))) fa (u4 l te k w tail)) = some (pls.map (fun x => pcv (P.rf x)), P.Ks sl sd (P.im (ordQ.map fun q => (q, .bool (R q)))) fa (u4 l te k w tail)) := by
  refine aaL (c := .list (pls.map fun x => pcv (P.rf x))) (by rw [e]) ?_ rfl (Nat.ble_eq_true_of_le (by rw [List.length_map]; unfold LIM; omega))
  refine abu (a := .val (.list (pls.map fun x => pcv (P.rf x)))) (aaQ (by ext) ?_ (aar hfp (by ext)) (aas (kvs := []) (cs := [.list [.str P.x0, .str P.x1, .str P.x2, .str P.x3], .bool bl]) (avs := [.val (.list [.str P.x0, .str P.x1, .str P.x2, .str P.x3]), .val (.bool bl)]) hbp (aac ?_ (aac ?_ aad)) (by ext) rfl hrp)) rfl
  · ext
  · rcases ht with ⟨rfl, rfl, rfl⟩ | ⟨hs, ro, fl, rfl⟩
    · exact (by ext)
    · exact (by rcases hz with rfl | ⟨dd, rfl⟩ <;> rcases hs with rfl | rfl <;> ext)
  · rcases ht with ⟨rfl, rfl, rfl⟩ | ⟨hs, ro, fl, rfl⟩
    · exact (by ext)
    · exact (by rcases hz with rfl | ⟨dd, rfl⟩ <;> rcases hs with rfl | rfl <;> ext)
 exact ⟨te', ro, fl, hs', aa3 hit hloop⟩
noncomputable def due (bl : Bool) : CV := match bl with | true => .list [.int 0, .int 0, .int 1, .int 5] | false => .list [.int 5, .int 1, .int 0, .int 0]
theorem alp {sh : List (SS × CV)} (hz : okZ z) : (sem (GF fn) 19).xs (stA b24 2) (P.Ks P.chV sd gr fa (u4 l te k w (n4 bl sh ro fl z))) = some (.next, P.Ks P.chV sd gr fa (u4 l te k w (n4 bl sh ro fl (dueT (due bl))))) := by
 cases bl <;> exact (by rcases hz with rfl | ⟨dd, rfl⟩ <;> ext)
end
def t24 : Expr := ifT (stA b24 3)
def c24 : Expr := match t24 with | .Compare l _ _ _ => l | e => e
def frG (du : CV) (fa sh : List (SS × CV)) (tail : List (Str × Slot)) : CE := ⟨cmSc c24, ("due", .val du) :: ("falls", .view (.dict fa)) :: ("shares", .view (.dict sh)) :: tail⟩
noncomputable def teT (t : SS) : List (Str × Slot) := [("text", .val (.str t))]
noncomputable def dueL (bl : Bool) : List CV := match bl with | true => [.int 0, .int 0, .int 1, .int 5] | false => [.int 5, .int 1, .int 0, .int 0]
section
variable {fn : Str -> Option FS} {P : LP} {sd : List CV} {gr fa sh : List (SS × CV)} {l te k w ro fl : CV} {bl : Bool} {z : List (Str × Slot)}
set_option tactic.hygienic false
theorem alq {t : SS} {f : Nat} {n : Int} (hf : dget fa t.s = some (.int (f : Int))) (hd : (dueL bl)[f]? = some (.int n)) (hn : getN sh t.s = some n) {acc : List CV} {tail : List (Str × Slot)} (ht : tail = [] ∨ ∃ t, tail = teT t) :
 compL (GF fn) (sem (GF fn) 16) (cmElt c24) [cmG c24] (.str t) (frG (due bl) fa sh tail) acc = some (acc, frG (due bl) fa sh (teT t)) := by
 refine ab8 (ρ1 := frG (due bl) fa sh (teT t)) ?_ (ifs1 (by ext) ?_)
 · rcases ht with rfl | ⟨t', rfl⟩ <;> ext
 · have hsub : subC (due bl) (.int (f : Int)) = some (.int n) := by
    have e : due bl = .list (dueL bl) := by cases bl <;> rfl
    rw [e]
    exact acn hd (by cases bl <;> decide)
   refine aaH (x := .int n) (y := .int n) (by ext) (aa1 (a := .val (.int n)) (b := .val (.int n)) (aa9 (ov := .ref "shares") (c0 := .dict sh) (k := .get) (avs := [.val (.str t), .val (.int 0)]) (cs := [.str t, .int 0]) (by ext) (by ext) (by ext) (by ext) (by ext) rfl (aac (by ext) (aac (by ext) aad)) rfl (alj hn))
    (aa2 (a := due bl) (b := .int (f : Int)) (aa1 (a := .val (due bl)) (b := .val (.int (f : Int))) (by ext) (abA (a := .dict fa) (b := .str t) (by ext) hf) rfl rfl) hsub) rfl rfl) ?_
   show onot (some (n == n)) = some false
   rw [beq_self_eq_true]; rfl
theorem alr : ∀ (ts : List SS) (tail : List (Str × Slot)), (∀ t ∈ ts, ∃ (f : Nat) (n : Int), dget fa t.s = some (.int (f : Int)) ∧ (dueL bl)[f]? = some (.int n) ∧ getN sh t.s = some n) -> (tail = [] ∨ ∃ t, tail = teT t) ->
 ∃ tail', accL (compL (GF fn) (sem (GF fn) 16) (cmElt c24) [cmG c24]) (ts.map .str) (frG (due bl) fa sh tail) [] = some ([], frG (due bl) fa sh tail') := by
 intro ts
 induction ts with
 | nil => intro tail _ _; exact ⟨tail, rfl⟩
 | cons t r ih =>
  intro tail h ht
  obtain ⟨f, n, hf, hd, hn⟩ := h t (.head _)
  obtain ⟨tail', hl⟩ := ih (teT t) (fun t ht => h t (.tail _ ht)) (.inr ⟨t, rfl⟩)
  exact ⟨tail', aaA (alq hf hd hn ht) hl⟩
theorem agO : ∀ s : List (Q4 × CV), keysC (P.im s) = (s.map fun x => P.T x.1).map .str
 | [] => rfl
 | x :: r => by
  show .str (P.T x.1) :: keysC (P.im r) = .str (P.T x.1) :: (r.map fun x => P.T x.1).map .str
  rw [agO r]
set_option tactic.hygienic true
theorem d_if (hT : P.Tinj) {s : List (Q4 × CV)} (hs : inQ s) {g : Q4 -> Nat} (hfa : fa = P.im (ordQ.map fun q => (q, .int (g q)))) (hq : ∀ q ∈ ordQ, ∃ n : Int, (dueL bl)[g q]? = some (.int n) ∧ igN s q = some n) :
 (sem (GF fn) 19).xs (stA b24 3) (P.Ks P.chV sd gr fa (u4 l te k w (n4 bl (P.im s) ro fl (dueT (due bl))))) = some (.next, P.Ks P.chV sd gr fa (u4 l te k w (n4 bl (P.im s) ro fl (dueT (due bl))))) := by
 obtain ⟨tail', ha⟩ := alr (fn := fn) (fa := fa) (sh := P.im s) (bl := bl) (ordQ.map P.T) [] (fun t ht => by
  obtain ⟨q, hqo, rfl⟩ := List.mem_map.mp ht
  obtain ⟨n, h1, h2⟩ := hq q hqo
  refine ⟨g q, n, ?_, h1, agN hT hqo hs h2⟩
  rw [hfa, acR hT hqo (aeG (fun q h => h)), acs (f := fun q => .int (g q)) hqo]) (.inl rfl)
 have hk : keysC fa = (ordQ.map P.T).map .str := by rw [hfa, agO, List.map_map]; rfl
 have hc : (sem (GF fn) 16).comp (GF fn) (cmElt c24) [cmG c24] (cmSc c24) (P.Ks P.chV sd gr fa (u4 l te k w (n4 bl (P.im s) ro fl (dueT (due bl))))) = some ([], P.Ks P.chV sd gr fa (u4 l te k w (n4 bl (P.im s) ro fl (dueT (due bl))))) := by
  refine acP (l0 := [("due", .val (due bl)), ("falls", .view (.dict fa)), ("shares", .view (.dict (P.im s)))]) (l := [("due", .val (due bl)), ("falls", .view (.dict fa)), ("shares", .view (.dict (P.im s)))]) (its := (ordQ.map P.T).map .str) (by ext) (by ext) ?_ (by ext) ha
  rw [<- hk]
  exact aaL (c := .dict fa) (by ext) (by ext) rfl (by rw [hk]; ext)
 exact aaD (ρ1 := P.Ks P.chV sd gr fa (u4 l te k w (n4 bl (P.im s) ro fl (dueT (due bl))))) (aaH (x := .list []) (y := .list []) (by ext) (aa1 (a := .val (.list [])) (b := .val (.list [])) (adD hc (by ext)) (by ext) rfl rfl) rfl) (by ext)
end
structure Pass (P : LP) (Fp Fk : FS) (R : Q4 -> Bool) (g : Q4 -> Nat) (bl : Bool) : Prop where
 ex : ∃ (pls : List Pe) (s : List (Q4 × CV)), pls ≠ [] ∧ pls.length ≤ 900 ∧ (∀ x ∈ pls, x.1 ∈ ordQ) ∧ bumps (pls.map fun x => x.1) [] = some s ∧
  Fp.run [.list [.str P.x0, .str P.x1, .str P.x2, .str P.x3], .bool bl] [] = some (.list (pls.map fun x => pcv (P.rf x)), .list []) ∧
  (∀ x ∈ pls, Fk.run [.list P.ch, .dict (P.fd x.2), .bool bl] [] = some (.bool (R x.1), .list [])) ∧
  (∀ q ∈ ordQ, ∃ n : Int, (dueL bl)[g q]? = some (.int n) ∧ igN s q = some n)
section
variable {fn : Str -> Option FS} {P : LP} {sd : List CV} {fa : List (SS × CV)} {l te k w ro fl : CV} {z : List (Str × Slot)}
set_option tactic.hygienic true
theorem als {Fp Fk : FS} (hT : P.Tinj) (hfp : fn nPl = some Fp) (hbp : Fp.bor = none) (hfk : fn nKp = some Fk) (hbk : Fk.bor = none) {R : Q4 -> Bool} {g : Q4 -> Nat} (p0 : Pass P Fp Fk R g false) (p1 : Pass P Fp Fk R g true) (hfa : fa = P.im (ordQ.map fun q => (q, .int (g q)))) :
 ∃ te' ro fl sh, (sem (GF fn) 20).xs (lawS 24) (P.Ks P.chO sd (P.im (ordQ.map fun q => (q, .bool (R q)))) fa (u4 l te k w [])) = some (.next, P.Ks P.chV sd (P.im (ordQ.map fun q => (q, .bool (R q)))) fa (u4 l te' k w (n4 true sh ro fl (dueT (due true))))) := by
 refine hid fun z0 => ?_
 obtain ⟨pls0, s0, a1, a2, a3, a4, a5, a6, a7⟩ := p0.ex
 obtain ⟨pls1, s1, b1, b2, b3, b4, b5, b6, b7⟩ := p1.ex
 have hbody : b24 = [stA b24 0, stA b24 1, stA b24 2, stA b24 3] := by ext
 obtain ⟨t0, ro0, fl0, hs0, m0⟩ := alo (fn := fn) (sd := sd) (fa := fa) (l := l) (te := te) (k := k) (w := w) (z := []) hT (.inl rfl) hfp hbp hfk hbk a1 a2 a3 a4 a5 a6 (.inl ⟨rfl, rfl, rfl⟩)
 obtain ⟨t1, ro1, fl1, hs1, m1⟩ := alo (fn := fn) (sd := sd) (fa := fa) (l := l) (te := t0) (k := k) (w := w) (z := dueT (due false)) hT (.inr ⟨_, rfl⟩) hfp hbp hfk hbk b1 b2 b3 b4 b5 b6 (.inr ⟨.inr rfl, ro0, fl0, rfl⟩)
 have hit : (sem (GF fn) 19).items (GF fn) true (forT (lawS 24)) (forI (lawS 24)) (P.Ks P.chO sd (P.im (ordQ.map fun q => (q, .bool (R q)))) fa (u4 l te k w [])) = some ([.bool false, .bool true], P.Ks P.chO sd (P.im (ordQ.map fun q => (q, .bool (R q)))) fa (u4 l te k w [])) := (by ext)
 have pass0 : (sem (GF fn) 19).xss b24 (P.Ks P.chO sd (P.im (ordQ.map fun q => (q, .bool (R q)))) fa (u4 l te k w (n1 false []))) = some (.next, P.Ks P.chV sd (P.im (ordQ.map fun q => (q, .bool (R q)))) fa (u4 l t0 k w (n4 false (P.im s0) ro0 fl0 (dueT (due false))))) := by
  rw [hbody]
  exact aaa amV (aaa m0 (aaa (alp (.inl rfl)) (aaa (d_if hT hs0 hfa a7) aaf)))
 have pass1 : (sem (GF fn) 19).xss b24 (P.Ks P.chV sd (P.im (ordQ.map fun q => (q, .bool (R q)))) fa (u4 l t0 k w (n4 true (P.im s0) ro0 fl0 (dueT (due false))))) = some (.next, P.Ks P.chV sd (P.im (ordQ.map fun q => (q, .bool (R q)))) fa (u4 l t1 k w (n4 true (P.im s1) ro1 fl1 (dueT (due true))))) := by
  rw [hbody]
  exact aaa amW (aaa m1 (aaa (alp (.inr ⟨_, rfl⟩)) (aaa (d_if hT hs1 hfa b7) aaf)))
 have hloop : loopL (fun c ρ => match bindT (forT (lawS 24)) c ρ with | some ρ => (sem (GF fn) 19).xss b24 ρ | none => none) [.bool false, .bool true] (P.Ks P.chO sd (P.im (ordQ.map fun q => (q, .bool (R q)))) fa (u4 l te k w [])) = some (.next, P.Ks P.chV sd (P.im (ordQ.map fun q => (q, .bool (R q)))) fa (u4 l t1 k w (n4 true (P.im s1) ro1 fl1 (dueT (due true))))) := by
  rw [aah]
  rw [ajU]; dsimp only; rw [pass0]; dsimp only
  rw [aah]
  rw [ajV]; dsimp only; rw [pass1]; dsimp only
  rfl
 refine z0 ?_
 exact ⟨t1, ro1, fl1, P.im s1, aa3 hit hloop⟩
set_option tactic.hygienic false
theorem ahS {G : GE} {n : Nat} {ρ : CE} {v : Expr} {lo hi : Option Expr} {p q : Pos} {a : EV} {o c : CV} {l h : Option Int} (h1 : (sem G n).ev v ρ = some (a, ρ)) (h2 : (sem G n).oint lo ρ = some (l, ρ)) (h3 : (sem G n).oint hi ρ = some (h, ρ)) (hd : deref ρ a = some o) (hs : sliceC o l h = some c) :
 (sem G (n + 1)).ev (.Subscript v (.Slice lo hi none q) p) ρ = some (.val c, ρ) := by
 rw [aaB]
 dsimp only [stepS]
 unfold evStep evN
 dsimp only [mkOf, l1, l2, eName, eAttr, eSub, eTup, eCall, eSlice, List.isEmpty]
 rw [h1]; dsimp only; rw [h2]; dsimp only; rw [h3]; dsimp only; rw [hd]; dsimp only; rw [hs]
def w5 (l t k w : CV) (sh : List (SS × CV)) (ro fl fs : CV) (r : List (Str × Slot)) : List (Str × Slot) := u4 l t k w (n4 true sh ro fl (("due", .val (due true)) :: ("floors", .val fs) :: r))
variable {sh : List (SS × CV)} {gr : List (SS × CV)}
noncomputable def scr (xs : List Int) : List CV := xs.map CV.int
noncomputable def pick2 (xs : List Int) : List CV := pickC (scr xs) (some 2) (some 6)
set_option tactic.hygienic true
theorem alu {xs : List Int} (hcs : P.cs = scr xs) (hl : xs.length ≤ 63) : (sem (GF fn) 20).xs (lawS 25) (P.Ks P.chV sd gr fa (u4 l te k w (n4 true sh ro fl (dueT (due true))))) = some (.next, P.Ks P.chV sd gr fa (w5 l te k w sh ro fl (.list (pick2 xs)) [])) := by
 have hsl : sliceC (.list P.cs) (some 2) (some 6) = some (.list (pick2 xs)) := by
  unfold sliceC
  dsimp only
  rw [hcs, show Nat.ble (scr xs).length LIM = true from Nat.ble_eq_true_of_le (by unfold scr LIM; rw [List.length_map]; lia)]
  rfl
 refine aaG (c := .list (pick2 xs)) (ρ1 := P.Ks P.chV sd gr fa (u4 l te k w (n4 true sh ro fl (dueT (due true))))) (by ext) (by ext) (ahS (a := .val (.list P.cs)) (o := .list P.cs) (l := some 2) (h := some 6) (by ext) (by ext) (by ext) rfl hsl) (by ext) (by ext)
theorem alv {fs : List Int} (hl : fs.length ≤ 4) : ∃ f0 f1 f2 f3 : Int, (sem (GF fn) 20).xs (lawS 26) (P.Ks P.chV sd gr fa (w5 l te k w sh ro fl (.list (fs.map .int)) [])) = some (.next, P.Ks P.chV sd gr fa (w5 l te k w sh ro fl (.list [.int f0, .int f1, .int f2, .int f3]) [])) := by
 match fs, hl with
 | [], _ => exact ⟨-1, 0, 0, 5, (by ext)⟩
 | [a], _ => exact ⟨a, 0, 0, 5, (by ext)⟩
 | [a, b], _ => exact ⟨a, b, 0, 5, (by ext)⟩
 | [a, b, c], _ => exact ⟨a, b, c, 5, (by ext)⟩
 | [a, b, c, d], _ => exact ⟨a, b, c, d, (by ext)⟩
 | _ :: _ :: _ :: _ :: _ :: _, h => simp at h
set_option tactic.hygienic false
theorem afS (xs : List Int) : ∃ fs : List Int, fs.length ≤ 4 ∧ pick2 xs = fs.map .int := by
 match xs with
 | [] => exact ⟨[], by decide, by ext⟩
 | [a] => exact ⟨[], by decide, by ext⟩
 | [a, b] => exact ⟨[], by decide, by ext⟩
 | [a, b, c] => exact ⟨[c], by simp, by ext⟩
 | [a, b, c, d] => exact ⟨[c, d], by simp, by ext⟩
 | [a, b, c, d, e] => exact ⟨[c, d, e], by simp, by ext⟩
 | a :: b :: c :: d :: e :: f :: r =>
  refine ⟨[c, d, e, f], by simp, ?_⟩
  have hb : sliceBounds (some 2) (some 6) none (scr (a :: b :: c :: d :: e :: f :: r)).length = (2, 6, 1) := by
   have hlen : (scr (a :: b :: c :: d :: e :: f :: r)).length = r.length + 6 := by unfold scr; rw [List.length_map]; rfl
   rw [hlen]
   unfold sliceBounds
   simp
   lia
  unfold pick2 pickC
  rw [hb]
  ext
end
def LP.Zt (P : LP) (si : CV) (r : List (Str × Slot)) : CE := U P.cs P.a P.b [] (W19 P.p P.q P.d P.sp P.m P.z [.str P.x0, .str P.x1, .str P.x2, .str P.x3] P.tl P.nd P.chV P.w [.str P.v0, .str P.v1, .str P.v2] (ordV (.str P.x0) (.str P.x1) (.str P.x2) (.str P.x3)) si r)
noncomputable def n6 (bl : Bool) (sh : List (SS × CV)) (rs : Slot) (fl : CV) (fs : CV) : List (Str × Slot) := [("by_left", .val (.bool bl)), ("shares", .own (.dict sh)), ("row", rs), ("floor", .val fl), ("due", .val (due true)), ("floors", .val fs)]
def LP.Kt (P : LP) (si : SS) (sd : List CV) (gr fa : List (SS × CV)) (l t k w : CV) (bl : Bool) (sh : List (SS × CV)) (rs : Slot) (fl : CV) (fs : CV) : CE := P.Zt (.str si) (("said", .own (.list sd)) :: ("granted", .own (.dict gr)) :: ("falls", .own (.dict fa)) :: u4 l t k w (n6 bl sh rs fl fs))
noncomputable def LP.rowl (P : LP) (q : Q4) : List CV := [.str (P.x q.1), .str (P.x q.2.1), .str (P.x q.2.2.1), .str (P.x q.2.2.2)]
def b28 : List Stmt := forB (lawS 28)
def b28i : List Stmt := forB (stA b28 1)
section
variable {fn : Str -> Option FS} {P : LP} {si x : SS} {sd r r' : List CV} {gr fa sh : List (SS × CV)} {l te k w fs fl : CV} {bl b' : Bool} {rs : Slot} {f0 f1 f2 f3 : Int}
set_option tactic.hygienic true
theorem alw {ro fl : CV} (hd : dictOf [.str P.x0, .str P.x1, .str P.x2, .str P.x3] [.int f0, .int f1, .int f2, .int f3] (some []) = some (P.fd (f0, f1, f2, f3))) :
 (sem (GF fn) 20).xs (lawS 27) (P.Ks P.chV sd gr fa (w5 l te k w sh ro fl (.list [.int f0, .int f1, .int f2, .int f3]) [])) = some (.next, P.Kt P.x3 sd gr fa l te k w true sh (.val ro) (.dict (P.fd (f0, f1, f2, f3))) (.list [.int f0, .int f1, .int f2, .int f3])) :=
 afk (ks := [.str P.x0, .str P.x1, .str P.x2, .str P.x3]) (vs := [.int f0, .int f1, .int f2, .int f3]) (by ext) (by ext) (by ext) (by ext) (by ext) (by ext) hd (by ext) (by ext) (by ext)
set_option tactic.hygienic false
theorem aiD (hs : (∃ rr, rs = .val rr) ∨ ∃ rr, rs = .own rr) : bindT (forT (lawS 28)) (.bool bl) (P.Kt si sd gr fa l te k w b' sh rs fl fs) = some (P.Kt si sd gr fa l te k w bl sh rs fl fs) := (by rcases hs with ⟨rr, rfl⟩ | ⟨rr, rfl⟩ <;> ext)
set_option tactic.hygienic true
theorem alx (hs : (∃ rr, rs = .val rr) ∨ ∃ rr, rs = .own rr) : (sem (GF fn) 19).xs (stA b28 0) (P.Kt si sd gr fa l te k w bl sh rs fl fs) = some (.next, P.Kt si sd gr fa l te k w bl sh (.own (.list [])) fl fs) := (by rcases hs with ⟨rr, rfl⟩ | ⟨rr, rfl⟩ <;> ext)
set_option tactic.hygienic false
theorem afm : bindT (forT (stA b28 1)) (.str x) (P.Kt si sd gr fa l te k w bl sh (.own (.list r)) fl fs) = some (P.Kt x sd gr fa l te k w bl sh (.own (.list r)) fl fs) := (by ext)
set_option tactic.hygienic true
theorem ahT {F : FS} {d : List (SS × CV)} (hf : fn nLay = some F) (hb : F.bor = some 0) (hr : F.run [.list r, .str x, .dict d, .bool bl] [] = some (.none, .list r')) :
 (sem (GF fn) 18).xss b28i (P.Kt x sd gr fa l te k w bl sh (.own (.list r)) (.dict d) fs) = some (.next, P.Kt x sd gr fa l te k w bl sh (.own (.list r')) (.dict d) fs) := by
 have hbody : b28i = [stA b28i 0] := by ext
 rw [hbody]
 exact aaa (abB (by ext) (aaQ (by ext) (by ext) (aar hf (by ext)) (aay (x := "row") (o := .list r) (o' := .list r') (c := .none) (cs := [.none, .str x, .dict d, .bool bl]) (kvs := []) (avs := [.ref "row", .val (.str x), .val (.dict d), .val (.bool bl)]) hb (aac (by ext) (aac (by ext) (aac (by ext) (aac (by ext) aad)))) (by ext) rfl rfl (by ext) hr (by ext)))) aaf
theorem aiE {F : FS} {d : List (SS × CV)} {r1 r2 r3 r4 : List CV} (hf : fn nLay = some F) (hb : F.bor = some 0) (h0 : F.run [.list [], .str P.x0, .dict d, .bool bl] [] = some (.none, .list r1)) (h1 : F.run [.list r1, .str P.x1, .dict d, .bool bl] [] = some (.none, .list r2))
 (h2 : F.run [.list r2, .str P.x2, .dict d, .bool bl] [] = some (.none, .list r3)) (h3 : F.run [.list r3, .str P.x3, .dict d, .bool bl] [] = some (.none, .list r4)) :
 (sem (GF fn) 19).xs (stA b28 1) (P.Kt si sd gr fa l te k w bl sh (.own (.list [])) (.dict d) fs) = some (.next, P.Kt P.x3 sd gr fa l te k w bl sh (.own (.list r4)) (.dict d) fs) := by
 have hit : (sem (GF fn) 18).items (GF fn) true (forT (stA b28 1)) (forI (stA b28 1)) (P.Kt si sd gr fa l te k w bl sh (.own (.list [])) (.dict d) fs) = some ([.str P.x0, .str P.x1, .str P.x2, .str P.x3], P.Kt si sd gr fa l te k w bl sh (.own (.list [])) (.dict d) fs) := (by ext)
 have hloop : loopL (fun c ρ => match bindT (forT (stA b28 1)) c ρ with | some ρ => (sem (GF fn) 18).xss b28i ρ | none => none) [.str P.x0, .str P.x1, .str P.x2, .str P.x3] (P.Kt si sd gr fa l te k w bl sh (.own (.list [])) (.dict d) fs) = some (.next, P.Kt P.x3 sd gr fa l te k w bl sh (.own (.list r4)) (.dict d) fs) := by
  rw [aah]
  rw [afm]; dsimp only; rw [ahT hf hb h0]; dsimp only
  rw [aah]
  rw [afm]; dsimp only; rw [ahT hf hb h1]; dsimp only
  rw [aah]
  rw [afm]; dsimp only; rw [ahT hf hb h2]; dsimp only
  rw [aah]
  rw [afm]; dsimp only; rw [ahT hf hb h3]; dsimp only
  rfl
 exact aa3 hit hloop
theorem y_if {F : FS} {d : List (SS × CV)} {q : Q4} {b : Bool} (hf : fn nKp = some F) (hb : F.bor = none) (hg : dget gr (P.T q).s = some (.bool b)) (hr : F.run [.list P.ch, .dict d, .bool bl] [] = some (.bool b, .list [])) :
 (sem (GF fn) 19).xs (stA b28 2) (P.Kt si sd gr fa l te k w bl sh (.own (.list (P.rowl q))) (.dict d) fs) = some (.next, P.Kt si sd gr fa l te k w bl sh (.own (.list (P.rowl q))) (.dict d) fs) := by
 refine aaD (ρ1 := P.Kt si sd gr fa l te k w bl sh (.own (.list (P.rowl q))) (.dict d) fs) (aaH (x := .bool b) (y := .bool b) (by ext) (aee (a := .val (.bool b)) (b := .val (.bool b)) (ρ1 := P.Kt si sd gr fa l te k w bl sh (.own (.list (P.rowl q))) (.dict d) fs)
  (aa9 (ov := .ref "granted") (c0 := .dict gr) (k := .get) (avs := [.val (.str (P.T q))]) (cs := [.str (P.T q)]) (by ext) (by ext) (by ext) (by ext) (by ext) rfl (aac (by ext) aad) rfl (agK hg))
  (aaQ (by ext) (by ext) (aar hf (by ext)) (aas (avs := [.val (.list P.ch), .val (.dict d), .val (.bool bl)]) (kvs := []) (cs := [.list P.ch, .dict d, .bool bl]) hb (aac (by ext) (aac (by ext) (aac (by ext) aad))) (by ext) rfl hr)) rfl rfl) (by cases b <;> rfl)) (by ext)
structure RowOk (P : LP) (Fl Fk : FS) (R : Q4 -> Bool) (d : List (SS × CV)) (bl : Bool) : Prop where
 ex : ∃ (r1 r2 r3 : List CV) (q : Q4), q ∈ ordQ ∧ Fl.run [.list [], .str P.x0, .dict d, .bool bl] [] = some (.none, .list r1) ∧ Fl.run [.list r1, .str P.x1, .dict d, .bool bl] [] = some (.none, .list r2) ∧ Fl.run [.list r2, .str P.x2, .dict d, .bool bl] [] = some (.none, .list r3) ∧
  Fl.run [.list r3, .str P.x3, .dict d, .bool bl] [] = some (.none, .list (P.rowl q)) ∧ Fk.run [.list P.ch, .dict d, .bool bl] [] = some (.bool (R q), .list [])
theorem aly {Fl Fk : FS} (hT : P.Tinj) (hfl : fn nLay = some Fl) (hbl : Fl.bor = some 0) (hfk : fn nKp = some Fk) (hbk : Fk.bor = none) {R : Q4 -> Bool} {d : List (SS × CV)} (p0 : RowOk P Fl Fk R d false) (p1 : RowOk P Fl Fk R d true) {ro : CV} :
 ∃ q, (sem (GF fn) 20).xs (lawS 28) (P.Kt P.x3 sd (P.im (ordQ.map fun q => (q, .bool (R q)))) fa l te k w true sh (.val ro) (.dict d) fs) = some (.next, P.Kt P.x3 sd (P.im (ordQ.map fun q => (q, .bool (R q)))) fa l te k w true sh (.own (.list (P.rowl q))) (.dict d) fs) := by
 refine hid fun z0 => ?_
 obtain ⟨r1, r2, r3, q0, hq0, a1, a2, a3, a4, a5⟩ := p0.ex
 obtain ⟨u1, u2, u3, q1, hq1, c1, c2, c3, c4, c5⟩ := p1.ex
 have hbody : b28 = [stA b28 0, stA b28 1, stA b28 2] := by ext
 have hgr : ∀ q ∈ ordQ, dget (P.im (ordQ.map fun q => (q, .bool (R q)))) (P.T q).s = some (.bool (R q)) := fun q hq => by
  rw [acR hT hq (aeG (fun q h => h)), acs (f := fun q => .bool (R q)) hq]
 have hit : (sem (GF fn) 19).items (GF fn) true (forT (lawS 28)) (forI (lawS 28)) (P.Kt P.x3 sd (P.im (ordQ.map fun q => (q, .bool (R q)))) fa l te k w true sh (.val ro) (.dict d) fs) = some ([.bool false, .bool true], P.Kt P.x3 sd (P.im (ordQ.map fun q => (q, .bool (R q)))) fa l te k w true sh (.val ro) (.dict d) fs) := (by ext)
 have hloop : loopL (fun c ρ => match bindT (forT (lawS 28)) c ρ with | some ρ => (sem (GF fn) 19).xss b28 ρ | none => none) [.bool false, .bool true] (P.Kt P.x3 sd (P.im (ordQ.map fun q => (q, .bool (R q)))) fa l te k w true sh (.val ro) (.dict d) fs) = some (.next, P.Kt P.x3 sd (P.im (ordQ.map fun q => (q, .bool (R q)))) fa l te k w true sh (.own (.list (P.rowl q1))) (.dict d) fs) := by
  have s0 : (sem (GF fn) 19).xss b28 (P.Kt P.x3 sd (P.im (ordQ.map fun q => (q, .bool (R q)))) fa l te k w false sh (.val ro) (.dict d) fs) = some (.next, P.Kt P.x3 sd (P.im (ordQ.map fun q => (q, .bool (R q)))) fa l te k w false sh (.own (.list (P.rowl q0))) (.dict d) fs) := by
   rw [hbody]
   exact aaa (alx (.inl ⟨_, rfl⟩)) (aaa (aiE hfl hbl a1 a2 a3 a4) (aaa (y_if hfk hbk (hgr q0 hq0) a5) aaf))
  have s1 : (sem (GF fn) 19).xss b28 (P.Kt P.x3 sd (P.im (ordQ.map fun q => (q, .bool (R q)))) fa l te k w true sh (.own (.list (P.rowl q0))) (.dict d) fs) = some (.next, P.Kt P.x3 sd (P.im (ordQ.map fun q => (q, .bool (R q)))) fa l te k w true sh (.own (.list (P.rowl q1))) (.dict d) fs) := by
   rw [hbody]
   exact aaa (alx (.inr ⟨_, rfl⟩)) (aaa (aiE hfl hbl c1 c2 c3 c4) (aaa (y_if hfk hbk (hgr q1 hq1) c5) aaf))
  rw [aah]
  rw [aiD (.inl ⟨_, rfl⟩)]; dsimp only; rw [s0]; dsimp only
  rw [aah]
  rw [aiD (.inr ⟨_, rfl⟩)]; dsimp only; rw [s1]; dsimp only
  rfl
 refine z0 ?_
 exact ⟨q1, aa3 hit hloop⟩
end
set_option tactic.hygienic false
theorem alz {G : GE} {n : Nat} {ρ ρ1 : CE} {e : Expr} {p : Pos} {b : Bool} (h : (sem G n).it e ρ = some (b, ρ1)) : (sem G (n + 1)).it (.UnaryOp .Not e p) ρ = some (!b, ρ1) := by
 rw [aaB]
 dsimp only [stepS]
 unfold itStep
 dsimp only [l1, l2]
 rw [h]
theorem ahU {G : GE} {n : Nat} {ρ ρ1 : CE} {f : Str} {fp pos : Pos} {args : List Expr} {kws : List Keyword} {c : CV} {t : Bool} (h : (sem G n).ev (.Call (.Name f fp) args kws pos) ρ = some (.val c, ρ1)) (ht : truthC c = some t) : (sem G (n + 1)).it (.Call (.Name f fp) args kws pos) ρ = some (t, ρ1) := by
 rw [aaB]
 dsimp only [stepS]
 unfold itStep
 dsimp only [l1, l2]
 rw [adb h rfl]
 dsimp only
 rw [ht]
noncomputable def nTold : Str := "_law_told_of_dots"
def e30 : Expr := retE (lawS 30)
def c30 : Expr := match e30 with | .Compare l _ _ _ => l | e => e
def frAn (tail : List (Str × Slot)) : CE := ⟨cmSc c30, tail⟩
noncomputable def anT (b : Bool) : List (Str × Slot) := [("answer", .val (.bool b))]
section
variable {fn : Str -> Option FS} {P : LP} {sd sd' : List CV} {gr fa sh : List (SS × CV)} {l te k w fs fl : CV} {rl : List CV} {n0 n1 n2 n3 : Nat} {o : Str} {ho : o.length ≤ 8}
set_option tactic.hygienic true
theorem alA {F : FS} (hf : fn nTold = some F) (hb : F.bor = some 3) (hsp : P.sp = [n0, n1, n2, n3]) (hop : (opsL.map fun s => CV.str (SS.pad s))[n1]? = some (.str (so o ho)))
 (hr : F.run [.list [.str P.x0, .str P.x1, .str P.x2, .str P.x3], .str P.x0, .str (so o ho), .list sd] [] = some (.bool true, .list sd')) :
 (sem (GF fn) 20).xs (lawS 29) (P.Kt P.x3 sd gr fa l te k w true sh (.own (.list rl)) fl fs) = some (.next, P.Kt P.x3 sd' gr fa l te k w true sh (.own (.list rl)) fl fs) := by
 have hsub : subC opsV (.int (n1 : Int)) = some (.str (so o ho)) := acn hop (by decide)
 have hs1 : subC (.list (iv P.sp)) (.int 1) = some (.int (n1 : Int)) := by rw [hsp]; exact acn (m := 1) rfl (by show 4 ≤ 1000; decide)
 have hs0 : subC (.list [.str P.x0, .str P.x1, .str P.x2, .str P.x3]) (.int 0) = some (.str P.x0) := acn (m := 0) rfl (by show 4 ≤ 1000; decide)
 refine aaD (ρ1 := P.Kt P.x3 sd' gr fa l te k w true sh (.own (.list rl)) fl fs) (alz (b := true) (ahU (c := .bool true) (aaQ (by ext) (by ext) (aar hf (by ext)) ?_) rfl)) (by ext)
 exact aay (x := "said") (o := .list sd) (o' := CO.list sd') (c := CV.bool true) (cs := [.list [.str P.x0, .str P.x1, .str P.x2, .str P.x3], .str P.x0, .str (so o ho), .none]) (kvs := []) (avs := [.val (.list [.str P.x0, .str P.x1, .str P.x2, .str P.x3]), .val (.str P.x0), .val (.str (so o ho)), .ref "said"]) hb
  (aac (by ext) (aac (adz (a := .list [.str P.x0, .str P.x1, .str P.x2, .str P.x3]) (b := .int 0) (by ext) hs0) (aac (aa2 (a := opsV) (b := .int (n1 : Int)) (aa1 (a := .val opsV) (b := .val (.int (n1 : Int))) (by ext) (adz (a := .list (iv P.sp)) (b := .int 1) (by ext) hs1) rfl rfl) hsub) (aac (by ext) aad)))) (by ext) rfl rfl (by ext) hr (by ext)
set_option tactic.hygienic false
theorem alB {b : Bool} {acc : List CV} {tail : List (Str × Slot)} (ht : tail = [] ∨ ∃ b, tail = anT b) : compL (GF fn) (sem (GF fn) 17) (cmElt c30) [cmG c30] (.bool b) (frAn tail) acc = some (acc, frAn (anT b)) := by
 refine ab8 (ρ1 := frAn (anT b)) ?_ (ifs1 (by ext) ?_)
 · rcases ht with rfl | ⟨b', rfl⟩ <;> ext
 · cases b <;> ext
theorem alC : ∀ (bl : List Bool) (tail : List (Str × Slot)), (tail = [] ∨ ∃ b, tail = anT b) -> ∃ tail', accL (compL (GF fn) (sem (GF fn) 17) (cmElt c30) [cmG c30]) (bl.map .bool) (frAn tail) [] = some ([], frAn tail') := by
 intro bl
 induction bl with
 | nil => intro tail _; exact ⟨tail, rfl⟩
 | cons b r ih =>
  intro tail ht
  obtain ⟨tail', hl⟩ := ih (anT b) (.inr ⟨b, rfl⟩)
  exact ⟨tail', aaA (alB ht) hl⟩
theorem alD {bl : List Bool} (hl : bl.length ≤ 1000) : (sem (GF fn) 20).xs (lawS 30) (P.Kt P.x3 (bl.map CV.bool) gr fa l te k w true sh (.own (.list rl)) fl fs) = some (.ret (.bool true), P.Kt P.x3 (bl.map CV.bool) gr fa l te k w true sh (.own (.list rl)) fl fs) := by
 obtain ⟨tail', ha⟩ := alC (fn := fn) bl [] (.inl rfl)
 have hc : (sem (GF fn) 17).comp (GF fn) (cmElt c30) [cmG c30] (cmSc c30) (P.Kt P.x3 (bl.map CV.bool) gr fa l te k w true sh (.own (.list rl)) fl fs) = some ([], P.Kt P.x3 (bl.map CV.bool) gr fa l te k w true sh (.own (.list rl)) fl fs) :=
  acP (l0 := []) (l := []) (its := bl.map CV.bool) (by ext) (by ext) (aaL (c := .list (bl.map CV.bool)) (by ext) (by ext) rfl (Nat.ble_eq_true_of_le (by rw [List.length_map]; unfold LIM; lia))) (by ext) ha
 exact abg (abu (a := .val (.bool true)) (aix (x := .list []) (y := .list []) (by ext) (aa1 (a := .val (.list [])) (b := .val (.list [])) (adD hc (by ext)) (by ext) rfl rfl) rfl) rfl)
end
open PySem.Builtin PySem.Builtin.Str PySem.StrLaws
noncomputable def cl (s : Str) : List Nat := s.cps.toList
noncomputable def mk (l : List Nat) : Str := ⟨l.toArray⟩
set_option tactic.hygienic false
theorem agP (l : List Nat) : cl (mk l) = l := by unfold cl mk; simp
theorem aeH (s : Str) : mk (cl s) = s := by unfold cl mk; simp
theorem aav (s : Str) : (cl s).length = s.length := by unfold cl; simp [PySem.Str.length]
theorem agQ (a b : Str) : cl (a ++ b) = cl a ++ cl b := by
 show (a.cps ++ b.cps).toList = _
 simp [cl]
theorem aiF {a b : Str} (h : cl a = cl b) : a = b := by rw [<- aeH a, <- aeH b, h]
def AtL (g w : List Nat) (hi k : Nat) : Prop := k + w.length ≤ hi ∧ w <+: g.drop k
theorem take_prefix {l w : List Nat} : (l.take w.length == w) = true ↔ w <+: l := by
 rw [beq_iff_eq]
 constructor
 · intro h; rw [<- h]; exact List.take_prefix _ _
 · intro h; exact (List.prefix_iff_eq_take.mp h).symm
theorem aci (g w : Str) (hi k : Nat) : At g w hi k ↔ AtL (cl g) (cl w) hi k := by
 unfold At AtL
 rw [StrLaws.subAt_eq, aav]
 have : ((g.cps.toList.drop k).take w.length == w.cps.toList) = true ↔ cl w <+: (cl g).drop k := by
  rw [<- aav w]; exact take_prefix
 rw [this]
theorem adG {lo n a : Nat} {pre post : List Nat} (h : List.range' lo n = pre ++ a :: post) : lo ≤ a ∧ ∀ k, lo ≤ k -> k < a -> k ∈ pre := by
 have hL : n = pre.length + (post.length + 1) := by
  have := congrArg List.length h
  simpa using this
 have hlen : a = lo + pre.length := by
  have h1 : (List.range' lo n)[pre.length]? = some a := by rw [h]; simp
  rw [List.getElem?_range' (by omega)] at h1
  have := Option.some.inj h1
  lia
 refine ⟨by lia, fun k h0 hk => ?_⟩
 have h2 : (List.range' lo n)[k - lo]? = pre[k - lo]? := by rw [h, List.getElem?_append_left (by omega)]
 rw [List.getElem?_range' (by omega)] at h2
 have h3 : pre[k - lo]? = some k := by rw [<- h2]; congr 1; omega
 exact List.mem_of_getElem? h3
theorem ahV (x y : Str) (lo hi : Nat) :
 (occurrences x y lo hi 1 = [] ∧ ∀ i, lo ≤ i -> ¬ At x y hi i) ∨ ∃ i r, occurrences x y lo hi 1 = i :: r ∧ lo ≤ i ∧ At x y hi i ∧ ∀ k, lo ≤ k -> k < i -> ¬ At x y hi k := by
 rw [occ_eq]
 refine hid fun z0 => ?_
 rcases occ_first x y hi 1 (Nat.le_refl 1) (List.range' lo (hi + 1 - lo)) lo (fun i hi' => by simp [List.mem_range'] at hi'; omega) with ⟨h0, hn⟩ | ⟨pre, a, post, e, h0, ha, hn⟩
 · refine z0 ?_
   refine .inl ⟨by rw [h0], fun i hl hi' => ?_⟩
   exact hn i (by have := hi'.1; simp [List.mem_range']; exact ⟨i - lo, by omega, by omega⟩) hi'
 · obtain ⟨hla, hpre⟩ := adG e
   refine z0 ?_
   refine .inr ⟨a, ((forIn (List.range' lo (hi + 1 - lo)) ((#[] : Array Nat), lo) (occBody x y hi 1)).run.fst.toList).tail, ?_, hla, ha, fun k h1 hk => hn k (hpre k h1 hk)⟩
   generalize (forIn (List.range' lo (hi + 1 - lo)) ((#[] : Array Nat), lo) (occBody x y hi 1)).run.fst = arr at h0
   have h1 : arr.toList[0]? = some a := by simpa using h0
   cases hL : arr.toList with
   | nil => rw [hL] at h1; cases h1
   | cons b t => rw [hL] at h1; simp at h1; rw [h1]; rfl
theorem abY (n k : Nat) : fromIndex n (k : Int) = k := by unfold fromIndex; rw [if_neg (by lia)]; lia
theorem acS (g w : SS) {lo hi : Nat} (hh : hi ≤ (cl g.s).length) :
 (findC g w lo hi = -1 ∧ ∀ i, lo ≤ i -> ¬ AtL (cl g.s) (cl w.s) hi i) ∨ ∃ i : Nat, findC g w lo hi = i ∧ lo ≤ i ∧ AtL (cl g.s) (cl w.s) hi i ∧ ∀ k, lo ≤ k -> k < i -> ¬ AtL (cl g.s) (cl w.s) hi k := by
 have e : findC g w lo hi = (match occurrences g.s w.s lo hi 1 with | k :: _ => (k : Int) | [] => -1) := by
  unfold findC
  rw [abY, abY, Nat.min_eq_right (by rw [<- aav]; exact hh)]
  all_goals rfl
 rw [e]
 refine hid fun z0 => ?_
 rcases ahV g.s w.s lo hi with ⟨h0, hn⟩ | ⟨i, r, h0, hl, ha, hn⟩
 · refine z0 ?_; rw [h0]; exact .inl ⟨rfl, fun i h hA => hn i h ((aci _ _ _ _).mpr hA)⟩
 · refine z0 ?_; rw [h0]; exact .inr ⟨i, rfl, hl, (aci _ _ _ _).mp ha, fun k h1 h2 hA => hn k h1 h2 ((aci _ _ _ _).mpr hA)⟩
theorem adH {g w : SS} {lo hi k : Nat} (hh : hi ≤ (cl g.s).length) (hk : lo ≤ k) (ha : AtL (cl g.s) (cl w.s) hi k) (hn : ∀ j, lo ≤ j -> j < k -> ¬ AtL (cl g.s) (cl w.s) hi j) : findC g w lo hi = k := by
 rcases acS g w (lo := lo) hh with ⟨h0, h⟩ | ⟨i, h0, hl, hA, h⟩
 · exact absurd ha (h k hk)
 · rw [h0]
   rcases Nat.lt_trichotomy i k with q | q | q
   · exact absurd hA (hn i hl q)
   · rw [q]
   · exact absurd ha (h k hk q)
theorem aeI {g w : SS} {lo hi : Nat} (hh : hi ≤ (cl g.s).length) (hn : ∀ j, lo ≤ j -> ¬ AtL (cl g.s) (cl w.s) hi j) : findC g w lo hi = -1 := by
 rcases acS g w (lo := lo) hh with ⟨h0, h⟩ | ⟨i, h0, hl, hA, h⟩
 · exact h0
 · exact absurd hA (hn i hl)
theorem agR {g w : SS} {lo lo' hi : Nat} (hh : hi ≤ (cl g.s).length) (hle : lo ≤ lo') (hn : ∀ j, lo ≤ j -> j < lo' -> ¬ AtL (cl g.s) (cl w.s) hi j) : findC g w lo hi = findC g w lo' hi := by
 refine hid fun z0 => ?_
 rcases acS g w (lo := lo') hh with ⟨h0, h⟩ | ⟨i, h0, hl, hA, h⟩
 · refine z0 ?_
   rw [h0]
   exact aeI hh fun j hj => by
    by_cases q : j < lo'
    · exact hn j hj q
    · exact h j (by lia)
 · refine z0 ?_
   rw [h0]
   exact adH hh (by lia) hA fun j hj hji => by
    by_cases q : j < lo'
    · exact hn j hj q
    · exact h j (by lia) hji
theorem ab9 {g w : SS} {lo hi : Nat} (hw : cl w.s = []) (hh : hi ≤ (cl g.s).length) (hl : lo ≤ hi) : findC g w lo hi = lo :=
 adH hh (Nat.le_refl _) ⟨by rw [hw]; exact hl, by rw [hw]; exact List.nil_prefix⟩ (fun j h1 h2 => by lia)
theorem abi (g w : Str) : Txt.startswith g w = true ↔ cl w <+: cl g := by
 unfold Txt.startswith
 rw [Bool.and_eq_true, decide_eq_true_iff, StrLaws.subAt_eq]
 have : ((g.cps.toList.drop 0).take w.length == w.cps.toList) = true ↔ cl w <+: cl g := by
  rw [<- aav w]; exact take_prefix
 rw [this]
 constructor
 · exact fun h => h.2
 · intro h
   have := h.length_le
   rw [aav, aav] at this
   exact ⟨by lia, h⟩
theorem abZ (g w : Str) : Txt.endswith g w = true ↔ cl w <:+ cl g := by
 unfold Txt.endswith
 rw [Bool.and_eq_true, decide_eq_true_iff, StrLaws.subAt_eq]
 have e1 : ((g.cps.toList.drop (g.length - w.length)).take w.length == w.cps.toList) = true ↔ cl w <+: (cl g).drop (g.length - w.length) := by
  have := @take_prefix ((cl g).drop (g.length - w.length)) (cl w)
  rw [aav] at this
  exact this
 rw [e1]
 constructor
 · rintro ⟨hl, h⟩
   have hlen : ((cl g).drop (g.length - w.length)).length = (cl w).length := by rw [List.length_drop, aav, aav]; omega
   rw [h.eq_of_length hlen.symm]
   exact List.drop_suffix _ _
 · intro h
   have hl := h.length_le
   rw [aav, aav] at hl
   refine ⟨by omega, ?_⟩
   have := List.suffix_iff_eq_drop.mp h
   rw [aav, aav] at this
   rw [<- this]
   exact List.prefix_refl _
open PySem.Builtin PySem.Builtin.Str PySem.StrLaws
noncomputable def DD3 : List Nat := [46, 46, 46]
theorem abb : cl dots = DD3 := by ext
def okPart (p : List Nat) : Prop := ∀ k, k < p.length -> ∃ j c, j < 3 ∧ p[k + j]? = some c ∧ c ≠ 46
noncomputable def joinL : List (List Nat) -> List Nat
 | [] => []
 | [p] => p
 | p :: q :: r => p ++ (DD3 ++ joinL (q :: r))
noncomputable def cutsOf : Nat -> List (List Nat) -> List Nat
 | _, [] => []
 | _, [_] => []
 | a, p :: q :: r => (a + p.length) :: cutsOf (a + p.length + 3) (q :: r)
theorem aaR {p : List Nat} (h : ∀ c ∈ p, c ≠ 46) : okPart p := fun k hk => ⟨0, p[k], by lia, List.getElem?_eq_getElem hk, h _ (List.getElem_mem hk)⟩
theorem agS {pre p rest : List Nat} (hp : okPart p) {k hi : Nat} (h1 : pre.length ≤ k) (h2 : k < pre.length + p.length) : ¬ AtL (pre ++ (p ++ rest)) DD3 hi k := fun hA => by
 obtain ⟨j, c, hj, hc, hne⟩ := hp (k - pre.length) (by omega)
 have hpre := hA.2
 obtain ⟨t, ht⟩ := hpre
 have e1 : ((pre ++ (p ++ rest)).drop k)[j]? = some 46 := by
  rw [<- ht]
  match j, hj with
  | 0, _ => rfl
  | 1, _ => rfl
  | 2, _ => rfl
 rw [List.getElem?_drop, List.getElem?_append_right (by lia)] at e1
 have hlt : k - pre.length + j < p.length := by
  rcases Nat.lt_or_ge (k - pre.length + j) p.length with q | q
  · exact q
  · rw [List.getElem?_eq_none q] at hc; cases hc
 rw [show k + j - pre.length = k - pre.length + j by omega, List.getElem?_append_left hlt, hc] at e1
 exact hne (Option.some.inj e1)
theorem afn (x : Str) : ∀ (parts : List (List Nat)) (pre : List Nat), parts ≠ [] -> (∀ p ∈ parts, okPart p) -> cl x = pre ++ joinL parts ->
 ∃ f, ChainG x dots x.length pre.length (cutsOf pre.length parts) f ∧ ∀ k, f ≤ k -> ¬ At x dots x.length k
 | [], _, h, _, _ => absurd rfl h
 | [p], pre, _, hp, hx => ⟨pre.length, rfl, fun k hk hA => by
  have hA := (aci _ _ _ _).mp hA
  rw [abb, hx] at hA
  have hl := hA.1
  rw [<- aav, hx] at hl
  have hj : joinL [p] = p := rfl
  rw [hj, List.length_append] at hl
  have e : pre ++ joinL [p] = pre ++ (p ++ []) := by rw [hj, List.append_nil]
  rw [e] at hA
  exact agS (hp p (.head _)) hk (by show k < _; simp [DD3] at hl; omega) hA⟩
 | p :: q :: r, pre, _, hp, hx => by
  have hx2 : cl x = (pre ++ p ++ DD3) ++ joinL (q :: r) := by
   rw [hx]
   show pre ++ (p ++ (DD3 ++ joinL (q :: r))) = _
   simp
  have hlen : (pre ++ p ++ DD3).length = pre.length + p.length + 3 := by simp [DD3]; lia
  obtain ⟨f, hc, hn⟩ := afn x (q :: r) (pre ++ p ++ DD3) (by simp) (fun y hy => hp y (.tail _ hy)) hx2
  rw [hlen] at hc
  have hd3 : dots.length = 3 := by rw [<- aav, abb]; rfl
  have hx3 : cl x = pre ++ (p ++ (DD3 ++ joinL (q :: r))) := hx
  refine ⟨f, ⟨Nat.le_add_right _ _, (aci _ _ _ _).mpr ⟨?_, ?_⟩, fun k h1 h2 hA => ?_, ?_⟩, hn⟩
  · rw [abb, <- aav, hx2, List.length_append, hlen]
    show pre.length + p.length + 3 ≤ _
    lia
  · rw [abb, hx3, <- List.append_assoc, List.drop_append_of_le_length (by simp), List.drop_eq_nil_of_le (by simp), List.nil_append]
    exact List.prefix_append _ _
  · have hA := (aci _ _ _ _).mp hA
    rw [abb, hx3] at hA
    exact agS (hp p (.head _)) h1 h2 hA
  · rw [hd3]
    exact hc
theorem acj {x y : Str} {hi : Nat} : ∀ {a : Nat} {c1 c2 : List Nat} {f1 f2 : Nat}, ChainG x y hi a c1 f1 -> (∀ k, f1 ≤ k -> ¬ At x y hi k) -> ChainG x y hi a c2 f2 -> (∀ k, f2 ≤ k -> ¬ At x y hi k) -> c1 = c2
 | a, [], [], _, _, _, _, _, _ => rfl
 | a, [], c :: r, f1, f2, h1, n1, h2, n2 => by
  have e : f1 = a := h1
  exact absurd h2.2.1 (n1 c (by rw [e]; exact h2.1))
 | a, c :: r, [], f1, f2, h1, n1, h2, n2 => by
  have e : f2 = a := h2
  exact absurd h1.2.1 (n2 c (by rw [e]; exact h1.1))
 | a, c :: r, d :: t, f1, f2, h1, n1, h2, n2 => by
  have e : c = d := by
   rcases Nat.lt_trichotomy c d with q | q | q
   · exact absurd h1.2.1 (h2.2.2.1 c h1.1 q)
   · exact q
   · exact absurd h2.2.1 (h1.2.2.1 d h2.1 q)
  subst e
  rw [acj h1.2.2.2 n1 h2.2.2.2 n2]
theorem afo (x : Str) : ∀ (parts : List (List Nat)) (pre : List Nat), parts ≠ [] -> cl x = pre ++ joinL parts -> partsFrom x 3 pre.length (cutsOf pre.length parts) = parts.map mk
 | [], _, h, _ => absurd rfl h
 | [p], pre, _, hx => by
  show [strSub x pre.length x.length] = [mk p]
  congr 1
  refine aiF ?_
  rw [agP]
  unfold cl at hx ⊢
  rw [strSub_toList, hx, List.drop_append_of_le_length (Nat.le_refl _), List.drop_length, List.nil_append]
  have : x.length - pre.length = p.length := by
   rw [<- aav]; unfold cl; rw [hx, List.length_append]; show pre.length + p.length - pre.length = _; omega
  rw [this]
  exact List.take_length
 | p :: q :: r, pre, _, hx => by
  have hx2 : cl x = (pre ++ p ++ DD3) ++ joinL (q :: r) := by
   rw [hx]
   show pre ++ (p ++ (DD3 ++ joinL (q :: r))) = _
   simp
  have hlen : (pre ++ p ++ DD3).length = pre.length + p.length + 3 := by simp [DD3]; omega
  have ih := afo x (q :: r) (pre ++ p ++ DD3) (by simp) hx2
  rw [hlen] at ih
  show strSub x pre.length (pre.length + p.length) :: partsFrom x 3 (pre.length + p.length + 3) (cutsOf (pre.length + p.length + 3) (q :: r)) = mk p :: (q :: r).map mk
  rw [ih]
  congr 1
  refine aiF ?_
  rw [agP]
  have hx3 : x.cps.toList = pre ++ (p ++ (DD3 ++ joinL (q :: r))) := hx
  unfold cl
  rw [strSub_toList, hx3, List.drop_append_of_le_length (Nat.le_refl _), List.drop_length, List.nil_append, Nat.add_sub_cancel_left, List.take_append_of_le_length (Nat.le_refl _), List.take_length]
theorem ahW {x : Str} {parts : List (List Nat)} (hne : parts ≠ []) (hp : ∀ p ∈ parts, okPart p) (hx : cl x = joinL parts) : occurrences x dots 0 x.length (x.length + 1) = cutsOf 0 parts := by
 obtain ⟨f, h1, n1⟩ := occ_tight x dots (by rw [<- aav, abb]; decide)
 obtain ⟨g, h2, n2⟩ := afn x parts [] hne hp hx
 exact acj h1 n1 h2 n2
theorem aeJ (x : Str) : Str.strKind dots ≤ Str.strKind x := by
 have h : Str.strKind dots = 1 := by ext
 rw [h]
 unfold Str.strKind
 split
 · exact Nat.le_refl _
 · split <;> lia
theorem afT {x : Str} {p q : List Nat} {r : List (List Nat)} (hp : ∀ y ∈ p :: q :: r, okPart y) (hx : cl x = joinL (p :: q :: r)) : Txt.split x dots = (p :: q :: r).map mk := by
 have ho := ahW (by simp) hp hx
 have hd3 : dots.length = 3 := by rw [<- aav, abb]; rfl
 have hlen : 3 ≤ x.length := by
  rw [<- aav, hx]
  show 3 ≤ (p ++ (DD3 ++ joinL (q :: r))).length
  simp [DD3]
  lia
 unfold Txt.split
 rw [if_neg, ho, if_neg, partsBetween_eq, hd3]
 · exact afo x (p :: q :: r) [] (by simp) hx
 · simp [cutsOf]
 · have := aeJ x
   simp
   lia
theorem ajY {x : Str} {p q : List Nat} {r : List (List Nat)} (hx : cl x = joinL (p :: q :: r)) : (occurrences x dots 0 x.length 1).isEmpty = false := by
 have h := (found_iff x dots).mpr ⟨p.length, by
  exact ((aci x dots x.length p.length).mpr ⟨by
   rw [abb, <- aav, hx]
   show p.length + 3 ≤ (p ++ (DD3 ++ joinL (q :: r))).length
   simp [DD3], by
   rw [abb, hx]
   show DD3 <+: (p ++ (DD3 ++ joinL (q :: r))).drop p.length
   rw [List.drop_append_of_le_length (Nat.le_refl _), List.drop_length, List.nil_append]
   exact List.prefix_append _ _⟩)⟩
 cases hb : (occurrences x dots 0 x.length 1).isEmpty with
 | false => rfl
 | true => rw [hb] at h; cases h
theorem agT {x : Str} (hx : okPart (cl x)) : (occurrences x dots 0 x.length 1).isEmpty = true := by
 cases hb : (occurrences x dots 0 x.length 1).isEmpty with
 | true => rfl
 | false =>
  have h : (!(occurrences x dots 0 x.length 1).isEmpty) = true := by rw [hb]; rfl
  obtain ⟨i, h1, h2⟩ := (found_iff x dots).mp h
  have hA := (aci _ _ _ _).mp (show At x dots x.length i from ⟨h1, h2⟩)
  rw [abb] at hA
  have hl := hA.1
  rw [<- aav] at hl
  refine absurd hA ?_
  have := agS (pre := []) (p := cl x) (rest := []) hx (k := i) (hi := x.length) (Nat.zero_le _) (by show i < 0 + _; simp [DD3] at hl; lia)
  rw [List.append_nil, List.nil_append] at this
  exact this
def pd (p : List Nat) : SS := SS.pad (mk p)
theorem abj (p : List Nat) : cl (pd p).s = p := by unfold pd; rw [SS.pad_s, agP]
theorem abC (p : List Nat) : (pd p).s.length = p.length := by rw [<- aav, abj]
theorem b_pd (p : List Nat) : (pd p).b ≤ p.length + 8 := by
 unfold pd SS.pad
 split
 · show 8 ≤ _; lia
 · show (mk p).length ≤ _; rw [<- aav, agP]; lia
theorem afp : ∀ (l : List (List Nat)) (p : List Nat), p ∈ l -> p.length ≤ (joinL l).length
 | [q], p, h => by rw [List.mem_singleton.mp h]; exact Nat.le_refl _
 | a :: b :: r, p, h => by
  show p.length ≤ (a ++ (DD3 ++ joinL (b :: r))).length
  rw [List.length_append, List.length_append]
  rcases List.mem_cons.mp h with e | e
  · rw [e]; lia
  · have := afp (b :: r) p e; lia
section
variable {fn : Str -> Option FS} {w g : SS} {p0 pk : List Nat} {mid : List (List Nat)}
set_option tactic.hygienic false
theorem ahX (hx : cl w.s = joinL (p0 :: (mid ++ [pk]))) (hok : ∀ p ∈ p0 :: (mid ++ [pk]), okPart p) (hw : w.b ≤ 900) (hg : g.s.length ≤ 1000) (hm : mid.length ≤ 800) :
 runDef (GF fn) 12 dEM [.str w, .str g] [] = some (.bool (emP g (pd p0) (mid.map pd) (pd pk)), .list []) := by
 have hlen : (joinL (p0 :: (mid ++ [pk]))).length ≤ 900 := by rw [<- hx, aav]; exact Nat.le_trans w.h hw
 have shape : ∃ q r, mid ++ [pk] = q :: r := by
  cases mid with
  | nil => exact ⟨_, _, rfl⟩
  | cons a t => exact ⟨_, _, rfl⟩
 obtain ⟨q, r, hqr⟩ := shape
 refine akN ?_ ?_ (by unfold LIM; lia) hg ?_ (by rw [List.length_map]; exact hm)
 · rw [hqr] at hx; exact ajY hx
 · have hs : Txt.split w.s dots = (p0 :: (mid ++ [pk])).map mk := by
    rw [hqr] at hx hok ⊢
    exact afT hok hx
   unfold splitC sv
   rw [hs, List.map_map]
   show (p0 :: (mid ++ [pk])).map (fun p => CV.str (pd p)) = (pd p0 :: (mid.map pd ++ [pd pk])).map CV.str
   rw [List.map_cons, List.map_cons, List.map_append, List.map_append, List.map_map]
   rfl
 · intro v hv
   have : ∃ p ∈ p0 :: (mid ++ [pk]), v = pd p := by
    rcases List.mem_cons.mp hv with e | e
    · exact ⟨p0, .head _, e⟩
    · rcases List.mem_append.mp e with e | e
      · obtain ⟨p, hp, rfl⟩ := List.mem_map.mp e
        exact ⟨p, by simp [hp], rfl⟩
      · exact ⟨pk, by simp, List.mem_singleton.mp e⟩
   obtain ⟨p, hp, rfl⟩ := this
   have h1 := afp _ p hp
   have h2 := b_pd p
   rw [abC]
   lia
end
noncomputable def sgL (m : Nat) (o : List Nat) : List Nat := m :: (o ++ [m])
set_option tactic.hygienic false
theorem abc (m : Nat) (o : List Nat) : (sgL m o).length = o.length + 2 := by unfold sgL; simp
theorem afq {m : Nat} : ∀ {a b rest : List Nat}, m ∉ a -> m ∉ b -> a ++ [m] <+: b ++ (m :: rest) -> a = b
 | [], [], _, _, _, _ => rfl
 | [], c :: b, _, _, hb, h => by
  have := List.cons_prefix_cons.mp h
  exact absurd this.1 (fun e => hb (by rw [e]; exact .head _))
 | c :: a, [], _, ha, _, h => by
  have := List.cons_prefix_cons.mp h
  exact absurd this.1 (fun e => ha (by rw [e]; exact .head _))
 | c :: a, d :: b, rest, ha, hb, h => by
  have := List.cons_prefix_cons.mp h
  rw [this.1, afq (fun e => ha (.tail _ e)) (fun e => hb (.tail _ e)) this.2]
theorem agU {m hi k : Nat} {pre ob oi rest : List Nat} (hb : m ∉ ob) (ho : m ∉ oi) (hn : oi ≠ []) (hne : oi ≠ ob) (hr : ∀ c, rest.head? = some c -> c = m) (h1 : pre.length ≤ k) (h2 : k < pre.length + (sgL m ob).length) : ¬ AtL (pre ++ (sgL m ob ++ rest)) (sgL m oi) hi k := fun hA => by
 have hp := hA.2
 rw [abc] at h2
 rw [List.drop_append, List.drop_eq_nil_of_le h1, List.nil_append] at hp
 obtain ⟨t, ht⟩ : ∃ t, k - pre.length = t := ⟨_, rfl⟩
 rw [ht] at hp
 have ht2 : t < ob.length + 2 := by omega
 match t, hp, ht2 with
 | 0, hp, _ =>
  have h := (List.cons_prefix_cons.mp (show m :: (oi ++ [m]) <+: m :: ((ob ++ [m]) ++ rest) from hp)).2
  rw [List.append_assoc] at h
  exact hne (afq ho hb h)
 | s + 1, hp, ht2 =>
  have hp : m :: (oi ++ [m]) <+: ((ob ++ [m]) ++ rest).drop s := hp
  rcases Nat.lt_or_ge s ob.length with q | q
  · rw [List.append_assoc, List.drop_append_of_le_length (by lia), List.drop_eq_getElem_cons q, List.cons_append] at hp
    have := (List.cons_prefix_cons.mp hp).1
    exact hb (this ▸ List.getElem_mem q)
  · have e : s = ob.length := by lia
    subst e
    rw [List.append_assoc, List.drop_append_of_le_length (Nat.le_refl _), List.drop_length, List.nil_append] at hp
    have h := (List.cons_prefix_cons.mp (show m :: (oi ++ [m]) <+: m :: rest from hp)).2
    cases oi with
    | nil => exact hn rfl
    | cons c o' =>
     cases rest with
     | nil => exact absurd h.length_le (by simp)
     | cons d rest' =>
      have h' := (List.cons_prefix_cons.mp (show c :: (o' ++ [m]) <+: d :: rest' from h)).1
      have := hr d rfl
      exact ho (by rw [<- this, <- h']; exact .head _)
noncomputable def blocks (m : Nat) (bs : List (List Nat)) : List Nat := (bs.map (sgL m)).flatten
theorem aeK (m : Nat) (bs : List (List Nat)) : ∀ c, (blocks m bs).head? = some c -> c = m := by
 cases bs with
 | nil => intro c h; cases h
 | cons b r => intro c h; exact (Option.some.inj h).symm
noncomputable def subB : List (List Nat) -> List (List Nat) -> Bool
 | [], _ => true
 | _ :: _, [] => false
 | o :: r, b :: t => match decide (o = b) with
  | true => subB r t
  | false => subB (o :: r) t
theorem agV (o : List Nat) (r : List (List Nat)) (b : List Nat) (t : List (List Nat)) : subB (o :: r) (b :: t) = match decide (o = b) with | true => subB r t | false => subB (o :: r) t := rfl
theorem adI (bs : List (List Nat)) : subB [] bs = true := by cases bs <;> rfl
theorem abq {m : Nat} {g : SS} : ∀ (bs mids : List (List Nat)) (pre : List Nat), (∀ b ∈ bs, m ∉ b) -> (∀ o ∈ mids, m ∉ o ∧ o ≠ []) -> cl g.s = pre ++ blocks m bs ->
 emLoop g ((cl g.s).length : Nat) (mids.map (fun o => pd (sgL m o)) ++ [pd []]) (pre.length : Nat) = subB mids bs
 | bs, [], pre, _, _, hg => by
  have hf : findC g (pd []) (pre.length : Nat) ((cl g.s).length : Nat) = (pre.length : Nat) := ab9 (abj []) (Nat.le_refl _) (by rw [hg, List.length_append]; lia)
  rw [adI]
  show emLoop g _ [pd []] _ = true
  rw [aaZ]
  rw [hf, decide_eq_false (by lia)]
  rfl
 | [], o :: r, pre, _, ho, hg => by
  have hf : findC g (pd (sgL m o)) (pre.length : Nat) ((cl g.s).length : Nat) = -1 := aeI (Nat.le_refl _) (fun j hj hA => by
   have := hA.1
   rw [abj, hg, abc] at this
   simp [blocks] at this
   lia)
  show emLoop g _ (pd (sgL m o) :: (r.map (fun o => pd (sgL m o)) ++ [pd []])) _ = false
  rw [aaZ]
  rw [hf]
  rfl
 | b :: t, o :: r, pre, hb, ho, hg => by
  have hg1 : cl g.s = pre ++ (sgL m b ++ blocks m t) := hg
  have hg2 : cl g.s = (pre ++ sgL m b) ++ blocks m t := by rw [hg1, List.append_assoc]
  have hL : pre.length + (sgL m b).length ≤ (cl g.s).length := by rw [hg2, List.length_append, List.length_append]; lia
  have ho' := ho o (.head _)
  rw [agV]
  cases hd : decide (o = b) with
  | true =>
   have e : o = b := of_decide_eq_true hd
   subst e
   have hf : findC g (pd (sgL m o)) (pre.length : Nat) ((cl g.s).length : Nat) = (pre.length : Nat) := adH (Nat.le_refl _) (Nat.le_refl _) ⟨by rw [abj]; exact hL, by
    rw [abj, hg1, List.drop_append_of_le_length (Nat.le_refl _), List.drop_length, List.nil_append]
    exact List.prefix_append _ _⟩ (fun j h1 h2 => by omega)
   have ih := abq t r (pre ++ sgL m o) (fun b h => hb b (.tail _ h)) (fun o h => ho o (.tail _ h)) hg2
   show emLoop g _ (pd (sgL m o) :: (r.map (fun o => pd (sgL m o)) ++ [pd []])) _ = subB r t
   rw [aaZ, hf, decide_eq_false (by lia), abC, <- ih, List.length_append]
   dsimp only
   congr 1
  | false =>
   have hne : o ≠ b := of_decide_eq_false hd
   have hf : findC g (pd (sgL m o)) (pre.length : Nat) ((cl g.s).length : Nat) = findC g (pd (sgL m o)) ((pre ++ sgL m b).length : Nat) ((cl g.s).length : Nat) := agR (Nat.le_refl _) (by rw [List.length_append]; lia) (fun j h1 h2 hA => by
    rw [abj] at hA
    rw [hg1] at hA
    rw [List.length_append] at h2
    exact agU (hb b (.head _)) ho'.1 ho'.2 hne (aeK m t) h1 h2 hA)
   have ih := abq t (o :: r) (pre ++ sgL m b) (fun b h => hb b (.tail _ h)) ho hg2
   rw [<- ih]
   show emLoop g _ (pd (sgL m o) :: (r.map (fun o => pd (sgL m o)) ++ [pd []])) _ = emLoop g _ (pd (sgL m o) :: (r.map (fun o => pd (sgL m o)) ++ [pd []])) _
   rw [aaZ, aaZ, hf]
theorem aeg {m : Nat} {g : SS} {bs mids : List (List Nat)} (hb : ∀ b ∈ bs, m ∉ b) (ho : ∀ o ∈ mids, m ∉ o ∧ o ≠ []) (hg : cl g.s = blocks m bs) :
 emP g (pd []) (mids.map fun o => pd (sgL m o)) (pd []) = subB mids bs := by
 have h := abq bs mids [] hb ho (by rw [hg]; rfl)
 have e0 : (pd []).s.length = 0 := abC []
 have hlen : (g.s.length : Int) = ((cl g.s).length : Nat) := by rw [aav]
 have hst : Txt.startswith g.s (pd []).s = true := (abi _ _).mpr (by rw [abj]; exact List.nil_prefix)
 have hen : Txt.endswith g.s (pd []).s = true := (abZ _ _).mpr (by rw [abj]; exact List.nil_suffix)
 unfold emP
 rw [e0, hst, hen]
 show (match decide ((0 : Int) > g.s.length) with | true => false | false => emLoop g g.s.length ([pd []] ++ mids.map (fun o => pd (sgL m o)) ++ [pd []]) 0) = _
 rw [decide_eq_false (by omega), hlen]
 show emLoop g _ (pd [] :: (mids.map (fun o => pd (sgL m o)) ++ [pd []])) 0 = _
 have hf : findC g (pd []) ((0 : Nat) : Int) ((cl g.s).length : Nat) = ((0 : Nat) : Int) := ab9 (abj []) (Nat.le_refl _) (Nat.zero_le _)
 have hf' : findC g (pd []) 0 ((cl g.s).length : Nat) = 0 := hf
 rw [<- h]
 conv => lhs; rw [aaZ]
 rw [hf', e0]
 rfl
theorem adf {p : List Nat} (h : p ≠ []) : ((pd p).s.length == 0) = false := by
 rw [abC]
 cases p with
 | nil => exact absurd rfl h
 | cons a r => rfl
theorem ahY : ((pd []).s.length == 0) = true := by rw [abC]; rfl
section
variable {g : SS} {p0 pk : List Nat} {mid : List SS}
set_option tactic.hygienic false
theorem st_0 : Txt.startswith g.s (pd []).s = true := (abi _ _).mpr (by rw [abj]; exact List.nil_prefix)
theorem en_0 : Txt.endswith g.s (pd []).s = true := (abZ _ _).mpr (by rw [abj]; exact List.nil_suffix)
theorem glen : (g.s.length : Int) = ((cl g.s).length : Nat) := by rw [aav]
theorem afr {hi lo : Nat} (hh : hi ≤ (cl g.s).length) (hl : lo ≤ hi) : emLoop g hi (pd [] :: mid) lo = emLoop g hi mid lo := by
 have hf : findC g (pd []) lo hi = lo := ab9 (abj []) hh hl
 conv => lhs; rw [aaZ]
 rw [hf, decide_eq_false (by lia), abC]
 show emLoop g hi mid ((lo : Int) + (0 : Nat)) = _
 congr 1
theorem aiG : emP g (pd []) mid (pd []) = emLoop g ((cl g.s).length : Nat) (mid ++ [pd []]) (0 : Nat) := by
 unfold emP
 rw [ahY, st_0, en_0]
 show (match decide ((0 : Int) > g.s.length) with | true => false | false => emLoop g g.s.length ([pd []] ++ mid ++ [pd []]) 0) = _
 rw [decide_eq_false (by lia), glen]
 exact afr (mid := mid ++ [pd []]) (lo := 0) (Nat.le_refl _) (Nat.zero_le _)
theorem ajZ (hk : pk ≠ []) (hs : ¬ pk <:+ cl g.s) : emP g (pd []) mid (pd pk) = false := by
 have he : Txt.endswith g.s (pd pk).s = false := by
  cases h : Txt.endswith g.s (pd pk).s with
  | false => rfl
  | true => have := (abZ _ _).mp h; rw [abj] at this; exact absurd this hs
 unfold emP
 rw [ahY, st_0, adf hk, he]
theorem alE (hk : pk ≠ []) (hs : pk <:+ cl g.s) : emP g (pd []) mid (pd pk) = emLoop g (((cl g.s).length - pk.length : Nat) : Int) mid (0 : Nat) := by
 have he : Txt.endswith g.s (pd pk).s = true := (abZ _ _).mpr (by rw [abj]; exact hs)
 have hl := hs.length_le
 unfold emP
 rw [ahY, st_0, adf hk, he]
 show (match decide ((0 : Int) > (g.s.length : Int) - (pd pk).s.length) with | true => false | false => emLoop g ((g.s.length : Int) - (pd pk).s.length) ([pd []] ++ mid ++ []) 0) = _
 rw [abC, glen, decide_eq_false (by omega), List.append_nil, show (((cl g.s).length : Nat) : Int) - (pk.length : Nat) = (((cl g.s).length - pk.length : Nat) : Int) by omega]
 exact afr (mid := mid) (lo := 0) (by omega) (Nat.zero_le _)
theorem aj0 (h0 : p0 ≠ []) (hs : ¬ p0 <+: cl g.s) {xk : SS} : emP g (pd p0) mid xk = false := by
 have he : Txt.startswith g.s (pd p0).s = false := by
  cases h : Txt.startswith g.s (pd p0).s with
  | false => rfl
  | true => have := (abi _ _).mp h; rw [abj] at this; exact absurd this hs
 unfold emP
 rw [adf h0, he]
theorem alF (h0 : p0 ≠ []) (hs : p0 <+: cl g.s) : emP g (pd p0) mid (pd []) = emLoop g ((cl g.s).length : Nat) (mid ++ [pd []]) (p0.length : Nat) := by
 have he : Txt.startswith g.s (pd p0).s = true := (abi _ _).mpr (by rw [abj]; exact hs)
 have hl := hs.length_le
 unfold emP
 rw [adf h0, he, ahY, en_0]
 show (match decide (((pd p0).s.length : Int) > g.s.length) with | true => false | false => emLoop g g.s.length ([] ++ mid ++ [pd []]) (pd p0).s.length) = _
 rw [abC, glen, decide_eq_false (by lia), List.nil_append]
theorem aeL (h0 : p0 ≠ []) (hk : pk ≠ []) (hs : p0 <+: cl g.s) (ht : pk <:+ cl g.s) : emP g (pd p0) [] (pd pk) = decide (p0.length + pk.length ≤ (cl g.s).length) := by
 have he : Txt.startswith g.s (pd p0).s = true := (abi _ _).mpr (by rw [abj]; exact hs)
 have hf : Txt.endswith g.s (pd pk).s = true := (abZ _ _).mpr (by rw [abj]; exact ht)
 unfold emP
 rw [adf h0, he, adf hk, hf]
 show (match decide (((pd p0).s.length : Int) > (g.s.length : Int) - (pd pk).s.length) with | true => false | false => emLoop g ((g.s.length : Int) - (pd pk).s.length) ([] ++ [] ++ []) (pd p0).s.length) = _
 rw [abC, abC, glen]
 by_cases q : p0.length + pk.length ≤ (cl g.s).length
 · rw [decide_eq_true q, decide_eq_false (by lia)]; rfl
 · rw [decide_eq_false q, decide_eq_true (by lia)]
theorem ab0 {p : List Nat} {hi lo : Nat} (hh : hi ≤ (cl g.s).length) (hn : ∀ j, lo ≤ j -> ¬ AtL (cl g.s) p hi j) : emLoop g hi (pd p :: mid) lo = false := by
 have hf : findC g (pd p) lo hi = -1 := aeI hh (by rw [abj]; exact hn)
 rw [aaZ]
 rw [hf]
 rfl
theorem agW {p : List Nat} {hi lo : Nat} (hh : hi ≤ (cl g.s).length) (ha : AtL (cl g.s) p hi lo) : emLoop g hi (pd p :: mid) lo = emLoop g hi mid ((lo + p.length : Nat) : Int) := by
 have hf : findC g (pd p) lo hi = lo := adH hh (Nat.le_refl _) (by rw [abj]; exact ha) (fun j h1 h2 => by lia)
 conv => lhs; rw [aaZ]
 rw [hf, decide_eq_false (by lia), abC]
 rfl
end
set_option tactic.hygienic false
theorem adg (m : Nat) (o : List Nat) : sgL m o ≠ [] := by unfold sgL; simp
theorem agX {m : Nat} {a b : List Nat} (ha : m ∉ a) (hb : m ∉ b) (h : sgL m a <+: sgL m b) : a = b := by
 have h := (List.cons_prefix_cons.mp (show m :: (a ++ [m]) <+: m :: (b ++ (m :: [])) from h)).2
 exact afq ha hb h
theorem agY (m : Nat) (a : List Nat) : (sgL m a).reverse = sgL m a.reverse := by unfold sgL; simp
theorem alG {m : Nat} {a b : List Nat} (ha : m ∉ a) (hb : m ∉ b) (h : sgL m a <:+ sgL m b) : a = b := by
 have h := List.reverse_prefix.mpr h
 rw [agY, agY] at h
 have := agX (by simpa using ha) (by simpa using hb) h
 simpa using congrArg List.reverse this
theorem aae (x y : SS) : cl (x.app y).s = cl x.s ++ cl y.s := agQ _ _
theorem aco : cl D3.s = DD3 := by ext
theorem aeh (m : Nat) : cl (chS m).s = [m] := by ext
theorem abr : ∀ l : List SS, cl (joinS l).s = (l.map fun x => cl x.s).flatten
 | [] => by ext
 | x :: r => by
  have ih := abr r
  have e1 : ∀ l : List SS, (joinS l).s = PySem.Str.join (SS.of "").s (l.map (·.s)) := fun l => StrLaws.glued_eq_join _ _
  rw [e1] at ih ⊢
  cases r with
  | nil => show cl x.s = _; simp
  | cons y t =>
   show cl (x.s ++ (SS.of "").s ++ PySem.Str.join (SS.of "").s ((y :: t).map (·.s))) = _
   rw [agQ, agQ, ih]
   have : cl (SS.of "").s = [] := by ext
   rw [this]
   simp
theorem abF : ∀ l : List SS, (∀ x ∈ l, x.b ≤ 10) -> (joinS l).b ≤ 10 * l.length
 | [], _ => Nat.le_refl _
 | x :: r, h => by
  have h1 := h x (.head _)
  have h2 := abF r (fun y hy => h y (.tail _ hy))
  show x.b + 0 + joinB 0 r ≤ 10 * (r.length + 1)
  have : (joinS r).b = joinB 0 r := rfl
  lia
theorem ahZ (x : SS) (a : Nat) (r : List Nat) (h : cl x.s = a :: r) : cl (tail1 x).s = r := by
 have hx : x.s.cps.toList = a :: r := h
 have e := StrLaws.sliceText_from (x := x.s) (i := 1) ⟨by lia, by rw [hx]; simp; omega⟩
 have e1 : (tail1 x).s = StrLaws.sliceText x.s (some 1) none := rfl
 rw [e1, e, hx]
 show cl (mk _) = _
 rw [agP]
 simp
theorem aaC (x y : SS) : (x.app y).b = x.b + y.b := rfl
theorem b_D3 : D3.b = 3 := by ext
structure Good (m : Nat) (o : List Nat) : Prop where
 m : m ∉ o
 d : ∀ c ∈ o, c ≠ 46
 n : o ≠ []
theorem Good.sgd {m : Nat} {o : List Nat} (h : Good m o) (hm : m ≠ 46) : ∀ c ∈ sgL m o, c ≠ 46 := fun c hc => by
 unfold sgL at hc
 rcases List.mem_cons.mp hc with e | e
 · rw [e]; exact hm
 · rcases List.mem_append.mp e with e | e
   · exact h.d c e
   · rw [List.mem_singleton.mp e]; exact hm
section
variable {fn : Str -> Option FS} {a b c d o : SS} {m : Nat} {oa ob oc od : List Nat}
set_option tactic.hygienic false
theorem aiH {w g : SS} (hw : ∀ c ∈ cl w.s, c ≠ 46) (hne : cl w.s ≠ cl g.s) : runDef (GF fn) 12 dEM [.str w, .str g] [] = some (.bool false, .list []) := by
 have h := akK (fn := fn) (w := w) (g := g) (agT (aaR hw))
 rw [h, beq_eq_false_iff_ne.mpr (fun e => hne (congrArg cl e))]
theorem aj1 {w : SS} (hw : ∀ c ∈ cl w.s, c ≠ 46) : runDef (GF fn) 12 dEM [.str w, .str w] [] = some (.bool true, .list []) := by
 have h := akK (fn := fn) (w := w) (g := w) (agT (aaR hw))
 rw [h, beq_self_eq_true]
theorem acT {w g : SS} {p0 pk : List Nat} {mid : List (List Nat)} {r : Bool} (hx : cl w.s = joinL (p0 :: (mid ++ [pk]))) (hok : ∀ p ∈ p0 :: (mid ++ [pk]), okPart p) (hw : w.b ≤ 900) (hg : g.s.length ≤ 1000) (hm : mid.length ≤ 800) (he : emP g (pd p0) (mid.map pd) (pd pk) = r) :
 runDef (GF fn) 12 dEM [.str w, .str g] [] = some (.bool r, .list []) := by rw [ahX hx hok hw hg hm, he]
theorem acp : okPart [] := fun k hk => absurd hk (by simp)
theorem aj2 (ha : cl a.s = sgL m oa) (hb : cl b.s = sgL m ob) (hc : cl c.s = sgL m oc) (hd : cl d.s = sgL m od) (ho : cl o.s = ob) (hm : m ≠ 46) (ga : Good m oa) (gb : Good m ob) (gc : Good m oc) (gd : Good m od) (hne : oa ≠ ob)
 (la : a.b ≤ 10) (lb : b.b ≤ 10) (lc : c.b ≤ 10) (ld : d.b ≤ 10) (lo : o.b ≤ 8) : ∀ x ∈ casesD a b c d o (chS m), runDef (GF fn) 12 dEM [.str x.1, .str x.2.1] [] = some (.bool x.2.2, .list []) := by
 have nA := ga.sgd hm
 have nB := gb.sgd hm
 have nC := gc.sgd hm
 have nD := gd.sgd hm
 have jw : cl (joinS [a, b, c, d]).s = sgL m oa ++ (sgL m ob ++ (sgL m oc ++ sgL m od)) := by rw [abr]; simp [ha, hb, hc, hd]
 have j3 : cl (joinS [a, b, c]).s = sgL m oa ++ (sgL m ob ++ sgL m oc) := by rw [abr]; simp [ha, hb, hc]
 have jt : cl (joinS [b, c, d]).s = sgL m ob ++ (sgL m oc ++ sgL m od) := by rw [abr]; simp [hb, hc, hd]
 have j2 : cl (joinS [a, b]).s = sgL m oa ++ sgL m ob := by rw [abr]; simp [ha, hb]
 have jd : cl (joinS [c, d]).s = sgL m oc ++ sgL m od := by rw [abr]; simp [hc, hd]
 have gl : (joinS [a, b, c, d]).s.length ≤ 1000 := Nat.le_trans (joinS [a, b, c, d]).h (Nat.le_trans (abF _ (by simp; exact ⟨la, lb, lc, ld⟩)) (by show 10 * 4 ≤ 1000; decide))
 have al : a.s.length ≤ 1000 := Nat.le_trans a.h (by lia)
 have l2 : (joinS [a, b]).b ≤ 20 := abF [a, b] (by simp; exact ⟨la, lb⟩)
 have ld2 : (joinS [c, d]).b ≤ 20 := abF [c, d] (by simp; exact ⟨lc, ld⟩)
 have lt : (joinS [b, c, d]).b ≤ 30 := abF [b, c, d] (by simp; exact ⟨lb, lc, ld⟩)
 have mem2 : ∀ {x y : List Nat}, (∀ c ∈ x, c ≠ 46) -> (∀ c ∈ y, c ≠ 46) -> ∀ c ∈ x ++ y, c ≠ 46 := fun hx hy c hc => (List.mem_append.mp hc).elim (hx c) (hy c)
 have okA : okPart (sgL m oa) := aaR nA
 have okB : okPart (sgL m ob) := aaR nB
 intro x hx
 simp only [casesD, List.mem_cons, List.not_mem_nil, or_false] at hx
 rcases hx with rfl | rfl | rfl | rfl | rfl | rfl | rfl | rfl | rfl | rfl | rfl | rfl | rfl
 · exact aj1 (by rw [jw]; exact mem2 nA (mem2 nB (mem2 nC nD)))
 · refine aiH (by rw [j3]; exact mem2 nA (mem2 nB nC)) (fun e => ?_)
   have := congrArg List.length e
   rw [j3, jw] at this
   simp [abc] at this
 · refine aiH (by rw [jt]; exact mem2 nB (mem2 nC nD)) (fun e => ?_)
   have := congrArg List.length e
   rw [jt, jw] at this
   simp [abc] at this
 · refine acT (p0 := sgL m oa ++ sgL m ob) (mid := []) (pk := sgL m oc ++ sgL m od) ?_ ?_ ?_ gl (Nat.zero_le _) ?_
   · rw [aae, aae, j2, jd, aco]; simp [joinL]
   · simp only [List.nil_append, List.mem_cons, List.not_mem_nil, or_false, forall_eq_or_imp, forall_eq]
     exact ⟨aaR (mem2 nA nB), aaR (mem2 nC nD)⟩
   · rw [aaC, aaC, b_D3]; omega
   · rw [List.map_nil, aeL (by simp [sgL]) (by simp [sgL]) (by rw [jw, <- List.append_assoc]; exact List.prefix_append _ _) (by rw [jw, <- List.append_assoc]; exact List.suffix_append _ _), jw]
     refine decide_eq_true ?_
     simp only [List.length_append]
     lia
 · refine acT (p0 := sgL m oa ++ sgL m ob) (mid := []) (pk := sgL m ob ++ (sgL m oc ++ sgL m od)) ?_ ?_ ?_ gl (Nat.zero_le _) ?_
   · rw [aae, aae, j2, jt, aco]; simp [joinL]
   · simp only [List.nil_append, List.mem_cons, List.not_mem_nil, or_false, forall_eq_or_imp, forall_eq]
     exact ⟨aaR (mem2 nA nB), aaR (mem2 nB (mem2 nC nD))⟩
   · rw [aaC, aaC, b_D3]; omega
   · rw [List.map_nil, aeL (by simp [sgL]) (by simp [sgL]) (by rw [jw, <- List.append_assoc]; exact List.prefix_append _ _) (by rw [jw]; exact List.suffix_append _ _), jw]
     refine decide_eq_false ?_
     simp only [List.length_append, abc]
     lia
 · refine acT (p0 := sgL m oa) (mid := [sgL m oa]) (pk := []) ?_ ?_ ?_ al (by simp) ?_
   · rw [aae, aae, aae, ha, aco]; simp [joinL]
   · simp only [List.cons_append, List.nil_append, List.mem_cons, List.not_mem_nil, or_false, forall_eq_or_imp, forall_eq]
     exact ⟨okA, okA, acp⟩
   · rw [aaC, aaC, aaC, b_D3]; omega
   · rw [alF (adg _ _) (by rw [ha]; exact List.prefix_refl _), ha]
     exact ab0 (mid := [pd []]) (by rw [ha]; exact Nat.le_refl _) (fun j hj hA => by have := hA.1; rw [abc] at this hj; omega)
 · refine acT (p0 := []) (mid := [sgL m oa]) (pk := sgL m oa) ?_ ?_ ?_ al (by simp) ?_
   · rw [aae, aae, aae, ha, aco]; simp [joinL]
   · simp only [List.cons_append, List.nil_append, List.mem_cons, List.not_mem_nil, or_false, forall_eq_or_imp, forall_eq]
     exact ⟨acp, okA, okA⟩
   · rw [aaC, aaC, aaC, b_D3]; omega
   · rw [alE (adg _ _) (by rw [ha]; exact List.suffix_refl _), ha, Nat.sub_self]
     exact ab0 (mid := []) (by lia) (fun j hj hA => by have := hA.1; rw [abc] at this; lia)
 · refine acT (p0 := []) (mid := [sgL m oa, sgL m oa]) (pk := []) ?_ ?_ ?_ ?_ (by simp) ?_
   · rw [aae, aae, aae, aae, ha, aco]; simp [joinL]
   · simp only [List.cons_append, List.nil_append, List.mem_cons, List.not_mem_nil, or_false, forall_eq_or_imp, forall_eq]
     exact ⟨acp, okA, okA, acp⟩
   · rw [aaC, aaC, aaC, aaC, b_D3]; omega
   · exact Nat.le_trans (a.app a).h (by rw [aaC]; omega)
   · have := aeg (g := a.app a) (m := m) (bs := [oa, oa]) (mids := [oa, oa]) (fun b hb => by simp at hb; rw [hb]; exact ga.m) (fun b hb => by simp at hb; rw [hb]; exact ⟨ga.m, ga.n⟩) (by rw [aae, ha]; simp [blocks])
     refine Eq.trans this ?_
     simp [agV, adI]
 · refine acT (p0 := []) (mid := [sgL m oa, sgL m oa]) (pk := []) ?_ ?_ ?_ ?_ (by simp) ?_
   · rw [aae, aae, aae, aae, ha, aco]; simp [joinL]
   · simp only [List.cons_append, List.nil_append, List.mem_cons, List.not_mem_nil, or_false, forall_eq_or_imp, forall_eq]
     exact ⟨acp, okA, okA, acp⟩
   · rw [aaC, aaC, aaC, aaC, b_D3]; omega
   · have e : (tail1 a).b = a.b := rfl
     exact Nat.le_trans (a.app (tail1 a)).h (by rw [aaC, e]; lia)
   · have hg : cl (a.app (tail1 a)).s = sgL m oa ++ (oa ++ [m]) := by rw [aae, ahZ a m (oa ++ [m]) ha, ha]
     have hlen : (cl (a.app (tail1 a)).s).length = (oa.length + 2) + (oa.length + 1) := by rw [hg]; simp [abc]
     rw [aiG]
     refine (agW (mid := [pd (sgL m oa), pd []]) (Nat.le_refl _) ⟨by rw [hlen, abc]; lia, by rw [hg]; exact List.prefix_append _ _⟩).trans ?_
     exact ab0 (mid := [pd []]) (Nat.le_refl _) (fun j hj hA => by
      have h1 : j + (sgL m oa).length ≤ (cl (a.app (tail1 a)).s).length := hA.1
      rw [hlen] at h1; rw [abc] at h1 hj; lia)
 · refine acT (p0 := sgL m ob) (mid := []) (pk := []) ?_ ?_ ?_ al (by simp) ?_
   · rw [aae, aae, aae, aeh, ho, aco]; simp [joinL, sgL]
   · simp only [List.nil_append, List.mem_cons, List.not_mem_nil, or_false, forall_eq_or_imp, forall_eq]
     exact ⟨okB, acp⟩
   · rw [aaC, aaC, aaC, b_D3]; show 1 + o.b + 1 + 3 ≤ 900; lia
   · exact aj0 (adg _ _) (fun h => hne (agX gb.m ga.m (by rw [ha] at h; exact h)).symm)
 · refine acT (p0 := []) (mid := []) (pk := sgL m ob) ?_ ?_ ?_ al (by simp) ?_
   · rw [aae, aae, aae, aeh, ho, aco]; simp [joinL, sgL]
   · simp only [List.nil_append, List.mem_cons, List.not_mem_nil, or_false, forall_eq_or_imp, forall_eq]
     exact ⟨acp, okB⟩
   · rw [aaC, aaC, aaC, b_D3]; show 3 + 1 + o.b + 1 ≤ 900; lia
   · exact ajZ (adg _ _) (fun h => hne (alG gb.m ga.m (by rw [ha] at h; exact h)).symm)
 · have hdot : cl (SS.of ".").s = [46] := by ext
   refine acT (p0 := []) (mid := [[m, 46, m]]) (pk := []) ?_ ?_ ?_ al (by simp) ?_
   · rw [aae, aae, aae, aae, aeh, hdot, aco]; simp [joinL]
   · simp only [List.cons_append, List.nil_append, List.mem_cons, List.not_mem_nil, or_false, forall_eq_or_imp, forall_eq]
     refine ⟨acp, fun k hk => ?_, acp⟩
     match k, hk with
     | 0, _ => exact ⟨0, m, by omega, rfl, hm⟩
     | 1, _ => exact ⟨1, m, by omega, rfl, hm⟩
     | 2, _ => exact ⟨0, m, by lia, rfl, hm⟩
   · rw [aaC, aaC, aaC, aaC, b_D3]; show 3 + 1 + 1 + 1 + 3 ≤ 900; decide
   · rw [aiG]
     refine ab0 (mid := [pd []]) (Nat.le_refl _) (fun j hj hA => ?_)
     have h1 := hA.2.subset (show 46 ∈ [m, 46, m] by simp)
     rw [ha] at h1
     exact nA 46 (List.mem_of_mem_drop h1) rfl
 · have hnl : cl (SS.of "\n").s = [10] := by ext
   refine acT (p0 := sgL m oa) (mid := []) (pk := sgL m oa) ?_ ?_ ?_ ?_ (by simp) ?_
   · rw [aae, aae, ha, aco]; simp [joinL]
   · simp only [List.nil_append, List.mem_cons, List.not_mem_nil, or_false, forall_eq_or_imp, forall_eq]
     exact ⟨okA, okA⟩
   · rw [aaC, aaC, b_D3]; lia
   · have e : (SS.of "\n").b = 1 := by ext
     exact Nat.le_trans ((a.app (SS.of "\n")).app a).h (by rw [aaC, aaC, e]; lia)
   · have hg : cl ((a.app (SS.of "\n")).app a).s = sgL m oa ++ ([10] ++ sgL m oa) := by rw [aae, aae, ha, hnl, List.append_assoc]
     rw [List.map_nil, aeL (adg _ _) (adg _ _) (by rw [hg]; exact List.prefix_append _ _) (by rw [hg, <- List.append_assoc]; exact List.suffix_append _ _), hg]
     refine decide_eq_true ?_
     simp only [List.length_append]
     lia
end
noncomputable def selI (w : Nat) : List Nat := (match w % 2 with | 1 => [0] | _ => []) ++ (match w / 2 % 2 with | 1 => [1] | _ => []) ++ (match w / 4 % 2 with | 1 => [2] | _ => []) ++ (match w / 8 % 2 with | 1 => [3] | _ => [])
set_option tactic.hygienic false
theorem ah0 {w : Nat} (hw : w < 16) (a b c d : CV) : selC w a b c d = (selI w).map (pick4 a b c d) := by
 match w, hw with
 | 0, _ => rfl
 | 1, _ => rfl
 | 2, _ => rfl
 | 3, _ => rfl
 | 4, _ => rfl
 | 5, _ => rfl
 | 6, _ => rfl
 | 7, _ => rfl
 | 8, _ => rfl
 | 9, _ => rfl
 | 10, _ => rfl
 | 11, _ => rfl
 | 12, _ => rfl
 | 13, _ => rfl
 | 14, _ => rfl
 | 15, _ => rfl
 | n + 16, h => exact absurd h (by lia)
theorem adJ {w : Nat} (hw : w < 16) (a b c d : SS) : selS w a b c d = (selI w).map (pick4 a b c d) := by
 match w, hw with
 | 0, _ => rfl
 | 1, _ => rfl
 | 2, _ => rfl
 | 3, _ => rfl
 | 4, _ => rfl
 | 5, _ => rfl
 | 6, _ => rfl
 | 7, _ => rfl
 | 8, _ => rfl
 | 9, _ => rfl
 | 10, _ => rfl
 | 11, _ => rfl
 | 12, _ => rfl
 | 13, _ => rfl
 | 14, _ => rfl
 | 15, _ => rfl
 | n + 16, h => exact absurd h (by omega)
theorem aca {w : Nat} (hw : w < 16) : ∀ i ∈ selI w, i < 4 := by
 have : ∀ w, w < 16 -> ∀ i ∈ selI w, i < 4 := by decide
 exact this w hw
theorem adK {w : Nat} (hw : w < 16) : (selI w).length ≤ 4 := by
 have : ∀ w, w < 16 -> (selI w).length ≤ 4 := by decide
 exact this w hw
noncomputable def subI : List Nat -> List Nat -> Bool
 | [], _ => true
 | _ :: _, [] => false
 | o :: r, b :: t => match decide (o = b) with
  | true => subI r t
  | false => subI (o :: r) t
theorem alH (o : Nat) (r : List Nat) (b : Nat) (t : List Nat) : subI (o :: r) (b :: t) = match decide (o = b) with | true => subI r t | false => subI (o :: r) t := rfl
noncomputable def qL (q : Q4) : List Nat := [q.1, q.2.1, q.2.2.1, q.2.2.2]
theorem ah1 (bs : List Nat) : subI [] bs = true := by cases bs <;> rfl
theorem adL {O : Nat -> List Nat} (hO : ∀ i j, i < 4 -> j < 4 -> O i = O j -> i = j) : ∀ (a b : List Nat), (∀ i ∈ a, i < 4) -> (∀ i ∈ b, i < 4) -> subB (a.map O) (b.map O) = subI a b
 | [], b, _, _ => by rw [ah1, List.map_nil, adI]
 | o :: r, [], _, _ => rfl
 | o :: r, b :: t, ha, hb => by
  show subB (O o :: r.map O) (O b :: t.map O) = subI (o :: r) (b :: t)
  rw [agV, alH]
  have h1 := adL hO r t (fun i h => ha i (.tail _ h)) (fun i h => hb i (.tail _ h))
  have h2 := adL hO (o :: r) t ha (fun i h => hb i (.tail _ h))
  have hd : decide (O o = O b) = decide (o = b) := by
   cases hq : decide (o = b) with
   | true => rw [of_decide_eq_true hq]; exact decide_eq_true rfl
   | false => exact decide_eq_false fun e => (of_decide_eq_false hq) (hO o b (ha o (.head _)) (hb b (.head _)) e)
  rw [hd, h1]
  cases decide (o = b) with
  | true => rfl
  | false => exact h2
theorem aei : ∀ l : List (List Nat), joinL (l ++ [[]]) = (l.map (· ++ DD3)).flatten
 | [] => rfl
 | p :: r => by
  have ih := aei r
  obtain ⟨q, t, hq⟩ : ∃ q t, r ++ [[]] = q :: t := by cases r with | nil => exact ⟨_, _, rfl⟩ | cons a t => exact ⟨_, _, rfl⟩
  show joinL (p :: (r ++ [[]])) = (p ++ DD3) ++ (r.map (· ++ DD3)).flatten
  rw [<- ih, hq, List.append_assoc]
  rfl
theorem afU (l : List (List Nat)) : joinL ([] :: (l ++ [[]])) = DD3 ++ (l.map (· ++ DD3)).flatten := by
 obtain ⟨q, t, hq⟩ : ∃ q t, l ++ [[]] = q :: t := by cases l with | nil => exact ⟨_, _, rfl⟩ | cons a t => exact ⟨_, _, rfl⟩
 rw [<- aei, hq]
 rfl
structure Sg (P : LP) (m : Nat) (O : Nat -> List Nat) : Prop where
 x : ∀ i, cl (P.e i) = sgL m (O i)
 g : ∀ i, Good m (O i)
 m : m ≠ 46
 inj : ∀ i j, i < 4 -> j < 4 -> O i = O j -> i = j
 top : ∀ i, O (i + 4) = O 3
section
variable {fn : Str -> Option FS} {P : LP} {m : Nat} {O : Nat -> List Nat}
set_option tactic.hygienic false
theorem cl_T (S : Sg P m O) (q : Q4) : cl (P.T q).s = blocks m ((qL q).map O) := by
 unfold LP.T j4
 rw [abr]
 simp only [List.map_cons, List.map_nil, qL, blocks]
 show ([cl (P.e q.1), cl (P.e q.2.1), cl (P.e q.2.2.1), cl (P.e q.2.2.2)]).flatten = _
 rw [S.x, S.x, S.x, S.x]
theorem adM : ∀ q ∈ ordQ, ∀ i ∈ qL q, i < 4 := by decide
theorem afV {a b : List (List Nat)} (ha : ∀ x ∈ a, m ∉ x) (hb : ∀ x ∈ b, m ∉ x) (h : blocks m a = blocks m b) : a = b := by
 induction a generalizing b with
 | nil => cases b with
  | nil => rfl
  | cons y t => exact absurd (congrArg List.length h) (by simp [blocks, sgL])
 | cons x r ih => cases b with
  | nil => exact absurd (congrArg List.length h) (by simp [blocks, sgL])
  | cons y t =>
   have h : sgL m x ++ blocks m r = sgL m y ++ blocks m t := h
   have h1 : x ++ [m] ++ blocks m r = y ++ (m :: blocks m t) := by
    have := (List.cons.inj (show m :: (x ++ [m] ++ blocks m r) = m :: (y ++ [m] ++ blocks m t) from h)).2
    rw [this]; simp
   have e : x = y := afq (ha x (.head _)) (hb y (.head _)) (h1 ▸ List.prefix_append _ _)
   subst e
   rw [ih (fun x hx => ha x (.tail _ hx)) (fun x hx => hb x (.tail _ hx)) (List.append_cancel_left h)]
theorem amX (S : Sg P m O) : P.Tinj := fun q hq q' hq' h => by
 have h := congrArg cl h
 rw [cl_T S, cl_T S] at h
 have hm : ∀ q : Q4, ∀ x ∈ (qL q).map O, m ∉ x := fun q x hx => by obtain ⟨i, _, rfl⟩ := List.mem_map.mp hx; exact (S.g i).m
 have h := afV (hm q) (hm q') h
 have hl := adM q hq
 have hl' := adM q' hq'
 obtain ⟨a, b, c, d⟩ := q
 obtain ⟨a', b', c', d'⟩ := q'
 simp only [qL, List.map_cons, List.map_nil, List.cons.injEq, and_true] at h
 simp only [qL, List.mem_cons, List.not_mem_nil, or_false, forall_eq_or_imp, forall_eq] at hl hl'
 rw [S.inj a a' hl.1 hl'.1 h.1, S.inj b b' hl.2.1 hl'.2.1 h.2.1, S.inj c c' hl.2.2.1 hl'.2.2.1 h.2.2.1, S.inj d d' hl.2.2.2 hl'.2.2.2 h.2.2.2]
theorem aj3 (S : Sg P m O) {w : Nat} (hw : w < 16) : cl (wantS w P.x0 P.x1 P.x2 P.x3).s = joinL ([] :: ((selI w).map (fun i => sgL m (O i)) ++ [[]])) := by
 unfold wantS
 rw [aae, aco, abr, afU, adJ hw, List.map_map, List.map_map, List.map_map]
 congr 2
 refine List.map_congr_left fun i hi => ?_
 show cl ((pick4 P.x0 P.x1 P.x2 P.x3 i).app D3).s = sgL m (O i) ++ DD3
 rw [aae, aco]
 congr 1
 rw [<- S.x]
 match i, aca hw i hi with
 | 0, _ => rfl
 | 1, _ => rfl
 | 2, _ => rfl
 | 3, _ => rfl
theorem alI {w : Nat} (hw : w < 16) : (wantS w P.x0 P.x1 P.x2 P.x3).b ≤ 900 := by
 have : ∀ l : List SS, (∀ x ∈ l, x.b ≤ 13) -> (joinS l).b ≤ 13 * l.length := by
  intro l
  induction l with
  | nil => intro _; exact Nat.le_refl _
  | cons x r ih =>
   intro h
   have h1 := h x (.head _)
   have h2 := ih (fun y hy => h y (.tail _ hy))
   show x.b + 0 + joinB 0 r ≤ 13 * (r.length + 1)
   have : (joinS r).b = joinB 0 r := rfl
   lia
 unfold wantS
 rw [aaC, b_D3]
 have h1 := this ((selS w P.x0 P.x1 P.x2 P.x3).map fun x => x.app D3) (fun y hy => by
  obtain ⟨x, hx, rfl⟩ := List.mem_map.mp hy
  rw [adJ hw] at hx
  obtain ⟨i, hi, rfl⟩ := List.mem_map.mp hx
  rw [aaC, b_D3]
  exact lt4 (P := fun i => (pick4 P.x0 P.x1 P.x2 P.x3 i).b + 3 ≤ 13) (aca hw i hi) (Nat.le_refl _) (Nat.le_refl _) (Nat.le_refl _) (Nat.le_refl _))
 have h2 : ((selS w P.x0 P.x1 P.x2 P.x3).map fun x => x.app D3).length = (selI w).length := by rw [List.length_map, adJ hw, List.length_map]
 rw [h2] at h1
 have := adK hw
 lia
theorem amY (q : Q4) : (P.T q).s.length ≤ 1000 := Nat.le_trans (P.T q).h (show 40 ≤ 1000 by decide)
theorem aeM (S : Sg P m O) {w : Nat} (hw : w < 16) {q : Q4} (hq : q ∈ ordQ) : runDef (GF fn) 12 dEM [.str (wantS w P.x0 P.x1 P.x2 P.x3), .str (P.T q)] [] = some (.bool (subI (selI w) (qL q)), .list []) := by
 refine acT (p0 := []) (mid := (selI w).map (fun i => sgL m (O i))) (pk := []) (aj3 S hw) ?_ (alI hw) (amY q) (by rw [List.length_map]; have := adK hw; omega) ?_
 · intro p hp
   rcases List.mem_cons.mp hp with e | e
   · rw [e]; exact acp
   · rcases List.mem_append.mp e with e | e
     · obtain ⟨i, _, rfl⟩ := List.mem_map.mp e
       exact aaR ((S.g i).sgd S.m)
     · rw [List.mem_singleton.mp e]; exact acp
 · have h := aeg (g := P.T q) (m := m) (bs := (qL q).map O) (mids := (selI w).map O) (fun b hb => by obtain ⟨i, _, rfl⟩ := List.mem_map.mp hb; exact (S.g i).m) (fun b hb => by obtain ⟨i, _, rfl⟩ := List.mem_map.mp hb; exact ⟨(S.g i).m, (S.g i).n⟩) (cl_T S q)
   rw [adL S.inj _ _ (aca hw) (adM q hq)] at h
   rw [<- h, List.map_map, List.map_map]
   rfl
end
set_option tactic.hygienic false
theorem act : ∀ (o r pl : List Nat), (∀ c ∈ o, isB1 c = false) -> readL (o ++ r) pl = readL r (pl ++ o)
 | [], r, pl, _ => by rw [List.append_nil]; rfl
 | c :: o, r, pl, h => by
  show readL (c :: (o ++ r)) pl = _
  conv => lhs; rw [adA]
  rw [h c (.head _)]
  show readL (o ++ r) (pl ++ [c]) = _
  rw [act o r _ (fun x hx => h x (.tail _ hx)), List.append_assoc]
  rfl
theorem aeN {m : Nat} (hm : isB1 m = true) (r : List Nat) {pl : List Nat} (hp : pl ≠ []) : readL (m :: r) pl = numOf (mk pl) :: readL r [] := by
 cases pl with
 | nil => exact absurd rfl hp
 | cons a q =>
  conv => lhs; rw [adA]
  rw [hm]
  rfl
theorem ah2 {m : Nat} (hm : isB1 m = true) (r : List Nat) : readL (m :: r) [] = readL r [] := by
 conv => lhs; rw [adA]
 rw [hm]
theorem agZ {m : Nat} (hm : isB1 m = true) {o : List Nat} (ho : ∀ c ∈ o, isB1 c = false) (hn : o ≠ []) (r : List Nat) : readL (sgL m o ++ r) [] = numOf (mk o) :: readL r [] := by
 show readL (m :: ((o ++ [m]) ++ r)) [] = _
 rw [ah2 hm, List.append_assoc, act o _ [] ho, List.nil_append]
 exact aeN hm r hn
theorem adh {m : Nat} (hm : isB1 m = true) : ∀ (bs : List (List Nat)), (∀ o ∈ bs, (∀ c ∈ o, isB1 c = false) ∧ o ≠ []) -> readL (blocks m bs) [] = bs.map fun o => numOf (mk o)
 | [], _ => rfl
 | o :: r, h => by
  show readL (sgL m o ++ blocks m r) [] = _
  rw [agZ hm (h o (.head _)).1 (h o (.head _)).2, adh hm r (fun x hx => h x (.tail _ hx))]
  rfl
theorem aej {m z : Nat} (hm : isB1 m = true) (hz : isB1 z = false) (o : List Nat) (bs : List (List Nat)) (h : ∀ x ∈ o :: bs, (∀ c ∈ x, isB1 c = false) ∧ x ≠ []) : readL (z :: blocks m (o :: bs)) [] = numOf (mk [z]) :: (o :: bs).map fun o => numOf (mk o) := by
 have e : z :: blocks m (o :: bs) = [z] ++ (m :: ((o ++ [m]) ++ blocks m bs)) := rfl
 rw [e, act [z] _ [] (fun c hc => by rw [List.mem_singleton.mp hc]; exact hz), List.nil_append, aeN hm _ (by simp), List.append_assoc, act o _ [] (h o (.head _)).1, List.nil_append]
 have e2 : [m] ++ blocks m bs = m :: blocks m bs := rfl
 rw [e2, aeN hm _ (h o (.head _)).2, adh hm bs (fun x hx => h x (.tail _ hx))]
 rfl
def opOk (s : Nat) : Bool := match opsL[s]? with
 | some o => (o.cps.toList.all fun c => Nat.ble c 126 && !(c == 46)) && !o.cps.toList.isEmpty && (numOf o == (s : Int) + 7)
 | none => false
theorem alJ : poolN.all opOk = true := by ext
theorem acu {s : Nat} {o : Str} (hs : s ∈ poolN) (ho : opsL[s]? = some o) : (∀ c ∈ cl o, c ≤ 126 ∧ c ≠ 46) ∧ cl o ≠ [] ∧ numOf o = (s : Int) + 7 := by
 have h := List.all_eq_true.mp alJ s hs
 unfold opOk at h
 rw [ho] at h
 simp only [Bool.and_eq_true, List.all_eq_true, Bool.not_eq_true', beq_eq_false_iff_ne, ne_eq, List.isEmpty_eq_false_iff, beq_iff_eq] at h
 exact ⟨fun c hc => ⟨Nat.le_of_ble_eq_true (h.1.1 c hc).1, (h.1.1 c hc).2⟩, h.1.2, h.2⟩
theorem ah3 : ∀ m ∈ b1N, 173 ≤ m ∧ isB1 m = true := by
 have : (b1N.all fun m => Nat.ble 173 m && isB1 m) = true := by ext
 intro m hm
 have := List.all_eq_true.mp this m hm
 simp only [Bool.and_eq_true] at this
 exact ⟨Nat.le_of_ble_eq_true this.1, this.2⟩
theorem ag0 : ∀ z ∈ besN, isB1 z = false ∧ numOf (mk [z]) = 256 := by
 have : (besN.all fun z => !(isB1 z) && (numOf (mk [z]) == 256)) = true := by ext
 intro m hm
 have := List.all_eq_true.mp this m hm
 simp only [Bool.and_eq_true, Bool.not_eq_true', beq_iff_eq] at this
 exact this
theorem alK {c : Nat} (h : c ≤ 126) : isB1 c = false := by
 have : ∀ c, c < 127 -> isB1 c = false := by decide
 exact this c (by omega)
theorem aek {m : Nat} {o : Str} {h : o.length ≤ 8} : cl (sgn m o h).s = sgL m (cl o) := by
 show cl (((chS m).app (so o h)).app (chS m)).s = _
 rw [aae, aae, aeh]
 show ([m] ++ cl o) ++ [m] = _
 rfl
noncomputable def insN (r : List Nat) (i c : Nat) : List Nat := r.take i ++ c :: r.drop i
noncomputable def atN (r : List Nat) (j : Nat) : Nat := match r[j]? with | some i => i | none => 0
noncomputable def layN (bl : Bool) (f : Nat -> Int) (r : List Nat) (c : Nat) : List Nat := insN r (match bl with | true => bisL (fun j => f (atN r j)) (f c) 100 0 r.length | false => bisR (fun j => f (atN r j)) (f c) 100 0 r.length) c
noncomputable def layAll (bl : Bool) (f : Nat -> Int) : List Nat := layN bl f (layN bl f (layN bl f (layN bl f [] 0) 1) 2) 3
theorem aeO {κ : Nat -> Int} {x : Int} : ∀ (k lo hi : Nat), lo ≤ hi -> bisR κ x k lo hi ≤ hi
 | 0, lo, hi, h => h
 | k + 1, lo, hi, h => by
  rw [ae8]
  cases hd : decide ((lo : Int) < (hi : Int)) with
  | false => exact h
  | true =>
   have hlt : lo < hi := by have := of_decide_eq_true hd; omega
   dsimp only
   cases decide (x < κ ((lo + hi) / 2)) with
   | true => exact Nat.le_trans (aeO k lo ((lo + hi) / 2) (by omega)) (by omega)
   | false => exact aeO k ((lo + hi) / 2 + 1) hi (by omega)
theorem aeP {κ : Nat -> Int} {x : Int} : ∀ (k lo hi : Nat), lo ≤ hi -> bisL κ x k lo hi ≤ hi
 | 0, lo, hi, h => h
 | k + 1, lo, hi, h => by
  rw [ae9]
  cases hd : decide ((lo : Int) < (hi : Int)) with
  | false => exact h
  | true =>
   have hlt : lo < hi := by have := of_decide_eq_true hd; omega
   dsimp only
   cases decide (κ ((lo + hi) / 2) < x) with
   | true => exact aeP k ((lo + hi) / 2 + 1) hi (by omega)
   | false => exact Nat.le_trans (aeP k lo ((lo + hi) / 2) (by omega)) (by omega)
def Alike (f g : Nat -> Int) : Prop := ∀ i j, i < 4 -> j < 4 -> decide (f i < f j) = decide (g i < g j)
theorem acb {κ κ' : Nat -> Int} {x x' : Int} (h : ∀ j, decide (x < κ j) = decide (x' < κ' j)) : ∀ (k lo hi : Nat), bisR κ x k lo hi = bisR κ' x' k lo hi
 | 0, _, _ => rfl
 | k + 1, lo, hi => by
  rw [ae8, ae8, h, acb h k lo, acb h k _ hi]
theorem acd {κ κ' : Nat -> Int} {x x' : Int} (h : ∀ j, decide (κ j < x) = decide (κ' j < x')) : ∀ (k lo hi : Nat), bisL κ x k lo hi = bisL κ' x' k lo hi
 | 0, _, _ => rfl
 | k + 1, lo, hi => by
  rw [ae9, ae9, h, acd h k lo, acd h k _ hi]
theorem aiI {r : List Nat} (hr : ∀ i ∈ r, i < 4) (j : Nat) : atN r j < 4 := by
 unfold atN
 cases h : r[j]? with
 | none => exact (by decide : 0 < 4)
 | some i => exact hr i (List.mem_of_getElem? h)
theorem abG {f g : Nat -> Int} (h : Alike f g) {bl : Bool} {r : List Nat} {c : Nat} (hr : ∀ i ∈ r, i < 4) (hc : c < 4) : layN bl f r c = layN bl g r c := by
 unfold layN
 cases bl with
 | true => dsimp only; rw [acd (κ' := fun j => g (atN r j)) (x' := g c) (fun j => h _ _ (aiI hr j) hc)]
 | false => dsimp only; rw [acb (κ' := fun j => g (atN r j)) (x' := g c) (fun j => h _ _ hc (aiI hr j))]
theorem adN {bl : Bool} {f : Nat -> Int} {r : List Nat} {c : Nat} (hr : ∀ i ∈ r, i < 4) (hc : c < 4) : ∀ i ∈ layN bl f r c, i < 4 := fun i hi => by
 unfold layN insN at hi
 rcases List.mem_append.mp hi with h | h
 · exact hr i (List.mem_of_mem_take h)
 · rcases List.mem_cons.mp h with e | h
   · rw [e]; exact hc
   · exact hr i (List.mem_of_mem_drop h)
theorem ack {f g : Nat -> Int} (h : Alike f g) (bl : Bool) : layAll bl f = layAll bl g := by
 unfold layAll
 have h0 : ∀ i ∈ ([] : List Nat), i < 4 := fun i hi => by cases hi
 rw [abG h (r := []) h0 (by decide : 0 < 4)]
 have h1 := adN (bl := bl) (f := g) h0 (by decide : 0 < 4)
 rw [abG h h1 (by decide : 1 < 4)]
 have h2 := adN (bl := bl) (f := g) h1 (by decide : 1 < 4)
 rw [abG h h2 (by decide : 2 < 4)]
 have h3 := adN (bl := bl) (f := g) h2 (by decide : 2 < 4)
 rw [abG h h3 (by decide : 3 < 4)]
theorem ah4 {f g : Nat -> Int} (h : Alike f g) {i j : Nat} (hi : i < 4) (hj : j < 4) : (f i == f j) = (g i == g j) := by
 have h1 := h i j hi hj
 have h2 := h j i hj hi
 by_cases q : f i = f j
 · have a1 : decide (f i < f j) = false := decide_eq_false (by omega)
   have a2 : decide (f j < f i) = false := decide_eq_false (by omega)
   rw [a1] at h1; rw [a2] at h2
   have b1 := of_decide_eq_false h1.symm
   have b2 := of_decide_eq_false h2.symm
   rw [q, beq_self_eq_true, show g i = g j by omega, beq_self_eq_true]
 · have : g i ≠ g j := fun e => by
    rw [show decide (g i < g j) = false from decide_eq_false (by omega)] at h1
    rw [show decide (g j < g i) = false from decide_eq_false (by omega)] at h2
    have b1 := of_decide_eq_false h1
    have b2 := of_decide_eq_false h2
    omega
   rw [beq_eq_false_iff_ne.mpr q, beq_eq_false_iff_ne.mpr this]
theorem ael {f g : Nat -> Int} (h : Alike f g) {st : Bool} : ∀ l : List Nat, (∀ i ∈ l, i < 4) -> kpL st (l.map f) = kpL st (l.map g)
 | [], _ => rfl
 | [_], _ => rfl
 | a :: b :: r, hl => by
  have ih := ael h (st := st) (b :: r) (fun i hi => hl i (.tail _ hi))
  show (!(badPair st (f a) (f b)) && kpL st ((b :: r).map f)) = (!(badPair st (g a) (g b)) && kpL st ((b :: r).map g))
  have ha := hl a (.head _)
  have hb := hl b (.tail _ (.head _))
  have e : badPair st (f a) (f b) = badPair st (g a) (g b) := by
   unfold badPair
   rw [ah4 h ha hb]
   have : decide (f a > f b) = decide (g a > g b) := h b a hb ha
   rw [this]
  rw [ih, e]
noncomputable def rk (f : Nat -> Int) (i : Nat) : Nat := (decide (f 0 < f i)).toNat + (decide (f 1 < f i)).toNat + (decide (f 2 < f i)).toNat + (decide (f 3 < f i)).toNat
noncomputable def f4 (a b c d : Int) : Nat -> Int := pick4 a b c d
theorem ag1 {f : Nat -> Int} {i j : Nat} (hi : i < 4) (h : f i < f j) : rk f i < rk f j := by
 have le : ∀ k, (decide (f k < f i)).toNat ≤ (decide (f k < f j)).toNat := fun k => by
  by_cases q : f k < f i
  · rw [decide_eq_true q, decide_eq_true (show f k < f j by omega)]; exact Nat.le_refl _
  · rw [decide_eq_false q]; exact Nat.zero_le _
 have lt : (decide (f i < f i)).toNat < (decide (f i < f j)).toNat := by
  rw [decide_eq_false (by omega), decide_eq_true h]; decide
 exact sum4 (a := fun k => (decide (f k < f i)).toNat) (b := fun k => (decide (f k < f j)).toNat) le hi lt
theorem ah5 (f : Nat -> Int) : Alike f (f4 (rk f 0 : Nat) (rk f 1 : Nat) (rk f 2 : Nat) (rk f 3 : Nat)) := fun i j hi hj => by
 have e : ∀ i, i < 4 -> f4 (rk f 0 : Nat) (rk f 1 : Nat) (rk f 2 : Nat) (rk f 3 : Nat) i = (rk f i : Nat) := fun i hi => by
  exact lt4 (P := fun i => f4 (rk f 0 : Nat) (rk f 1 : Nat) (rk f 2 : Nat) (rk f 3 : Nat) i = (rk f i : Nat)) hi rfl rfl rfl rfl
 rw [e i hi, e j hj]
 by_cases q : f i < f j
 · have := ag1 hi q
   rw [decide_eq_true q, decide_eq_true (by omega)]
 · have : ¬ ((rk f i : Nat) : Int) < (rk f j : Nat) := fun h => by
    by_cases q2 : f j < f i
    · have := ag1 hj q2; omega
    · have e : f i = f j := by omega
      unfold rk at h
      rw [e] at h
      omega
   rw [decide_eq_false q, decide_eq_false this]
theorem ah6 (f : Nat -> Int) {i : Nat} (hi : i < 4) : rk f i < 4 := by
 exact sum4 (a := fun k => (decide (f k < f i)).toNat) (b := fun _ => 1) (fun k => Bool.toNat_le _) hi (by rw [decide_eq_false (Int.lt_irrefl _)]; decide)
noncomputable def qOf : List Nat -> Q4
 | [a, b, c, d] => (a, b, c, d)
 | _ => (0, 0, 0, 0)
def chk1 (bl : Bool) (f : Nat -> Int) (r : List Nat) : Bool := (qL (qOf r) == r) && ordQ.contains (qOf r) && (List.range 16).all fun w => subI (selI w) r == kpL bl ((selI w).map f)
def chk (bl : Bool) (n : Nat) : Bool := chk1 bl (f4 (n % 4 : Nat) (n / 4 % 4 : Nat) (n / 16 % 4 : Nat) (n / 64 % 4 : Nat)) (layAll bl (f4 (n % 4 : Nat) (n / 4 % 4 : Nat) (n / 16 % 4 : Nat) (n / 64 % 4 : Nat)))
set_option maxHeartbeats 4000000 in
theorem ah7 : (List.range 256).all (chk false) = true := by ext
set_option maxHeartbeats 4000000 in
theorem ah8 : (List.range 256).all (chk true) = true := by ext
theorem dig {a x : Nat} (h : a < 4) : (a + 4 * x) % 4 = a ∧ (a + 4 * x) / 4 = x := by lia
theorem amZ {a b c d : Nat} (h0 : a < 4) (h1 : b < 4) (h2 : c < 4) (h3 : d < 4) : f4 (a : Nat) (b : Nat) (c : Nat) (d : Nat) = f4 (((a + 4 * (b + 4 * (c + 4 * d))) % 4 : Nat)) (((a + 4 * (b + 4 * (c + 4 * d))) / 4 % 4 : Nat)) (((a + 4 * (b + 4 * (c + 4 * d))) / 16 % 4 : Nat)) (((a + 4 * (b + 4 * (c + 4 * d))) / 64 % 4 : Nat)) := by
 have e2 : (a + 4 * (b + 4 * (c + 4 * d))) / 16 = c + 4 * d := by rw [show 16 = 4 * 4 from rfl, <- Nat.div_div_eq_div_mul, (dig h0).2, (dig h1).2]
 have e3 : (a + 4 * (b + 4 * (c + 4 * d))) / 64 = d := by rw [show 64 = 16 * 4 from rfl, <- Nat.div_div_eq_div_mul, e2, (dig h2).2]
 rw [e2, e3, (dig h0).1, (dig h0).2, (dig h1).1, (dig h2).1, Nat.mod_eq_of_lt h3]
theorem laid (f : Nat -> Int) (bl : Bool) : ∃ q ∈ ordQ, layAll bl f = qL q ∧ ∀ w, w < 16 -> subI (selI w) (qL q) = kpL bl ((selI w).map f) := by
 have hal := ah5 f
 have r0 := ah6 f (i := 0) (by decide)
 have r1 := ah6 f (i := 1) (by decide)
 have r2 := ah6 f (i := 2) (by decide)
 have r3 := ah6 f (i := 3) (by decide)
 obtain ⟨n, hn, hlt⟩ : ∃ n, f4 (rk f 0 : Nat) (rk f 1 : Nat) (rk f 2 : Nat) (rk f 3 : Nat) = f4 (n % 4 : Nat) (n / 4 % 4 : Nat) (n / 16 % 4 : Nat) (n / 64 % 4 : Nat) ∧ n < 256 := by
  exact ⟨rk f 0 + 4 * (rk f 1 + 4 * (rk f 2 + 4 * rk f 3)), amZ r0 r1 r2 r3, by lia⟩
 rw [hn] at hal
 have hc : chk bl n = true := by
  cases bl with
  | false => exact List.all_eq_true.mp ah7 n (List.mem_range.mpr hlt)
  | true => exact List.all_eq_true.mp ah8 n (List.mem_range.mpr hlt)
 unfold chk chk1 at hc
 rw [<- ack hal] at hc
 simp only [Bool.and_eq_true, beq_iff_eq, List.contains_iff_mem, List.all_eq_true, List.mem_range] at hc
 obtain ⟨⟨h1, h2⟩, h3⟩ := hc
 refine ⟨qOf (layAll bl f), h2, h1.symm, fun w hw => ?_⟩
 have h4 := h3 w hw
 rw [h1, h4]
 exact (ael hal (selI w) (aca hw)).symm
abbrev RN := List Nat × List Int
noncomputable def getF (l : List Int) (i : Nat) : Int := match l[i]? with | some v => v | none => 0
noncomputable def twoN (bl : Bool) (c : Nat) (x : RN) : List RN := [(layN bl (getF (x.2 ++ [0])) x.1 c, x.2 ++ [0]), (layN bl (getF (x.2 ++ [1])) x.1 c, x.2 ++ [1])]
noncomputable def plN (bl : Bool) : List RN := (((([([], [])] : List RN).flatMap (twoN bl 0)).flatMap (twoN bl 1)).flatMap (twoN bl 2)).flatMap (twoN bl 3)
noncomputable def bits : List (List Int) := [[0, 0, 0, 0], [0, 0, 0, 1], [0, 0, 1, 0], [0, 0, 1, 1], [0, 1, 0, 0], [0, 1, 0, 1], [0, 1, 1, 0], [0, 1, 1, 1], [1, 0, 0, 0], [1, 0, 0, 1], [1, 0, 1, 0], [1, 0, 1, 1], [1, 1, 0, 0], [1, 1, 0, 1], [1, 1, 1, 0], [1, 1, 1, 1]]
theorem alL (bl : Bool) : plN bl = bits.map fun l => (layAll bl (getF l), l) := by cases bl <;> ext
noncomputable def f4Of : List Int -> F4
 | [a, b, c, d] => (a, b, c, d)
 | _ => (0, 0, 0, 0)
def pls (bl : Bool) : List Pe := bits.map fun l => (qOf (layAll bl (getF l)), f4Of l)
def shN (bl : Bool) : List (Q4 × CV) := match bumps ((pls bl).map fun x => x.1) [] with | some s => s | none => []
theorem ag2 (bl : Bool) : bumps ((pls bl).map fun x => x.1) [] = some (shN bl) := by cases bl <;> ext
noncomputable def idF (i : Nat) : Int := i
def cntOk (bl : Bool) (q : Q4) : Bool := match (dueL bl)[fallQ idF q]?, igN (shN bl) q with
 | some (.int a), some b => a == b
 | _, _ => false
theorem aj4 (bl : Bool) : ordQ.all (cntOk bl) = true := by cases bl <;> ext
theorem alM {a : Option CV} {b : Option Int} (h : (match a, b with | some (.int a), some b => a == b | _, _ => false) = true) : ∃ n, a = some (.int n) ∧ b = some n := by
 rcases a with _ | y
 · cases h
 cases y <;> first | (cases h; done) | skip
 rcases b with _ | b
 · cases h
 · exact ⟨b, congrArg (some <| CV.int ·) (beq_iff_eq.mp h), rfl⟩
theorem alN (bl : Bool) : ∀ q ∈ ordQ, ∃ n : Int, (dueL bl)[fallQ idF q]? = some (.int n) ∧ igN (shN bl) q = some n := fun q hq => alM (List.all_eq_true.mp (aj4 bl) q hq)
theorem ah9 {v : Nat -> Int} (hv : ∀ i j, i < 4 -> j < 4 -> decide (v i < v j) = decide (i < j)) {q : Q4} (hq : q ∈ ordQ) : fallQ v q = fallQ idF q := by
 have hl := adM q hq
 obtain ⟨a, b, c, d⟩ := q
 simp only [qL, List.mem_cons, List.not_mem_nil, or_false, forall_eq_or_imp, forall_eq] at hl
 have hi : ∀ i j : Nat, decide (idF i < idF j) = decide (i < j) := fun i j => by unfold idF; by_cases q : i < j <;> simp [q]
 unfold fallQ
 dsimp only
 rw [hv b a hl.2.1 hl.1, hv c b hl.2.2.1 hl.2.1, hv d c hl.2.2.2 hl.2.2.1, hi, hi, hi]
def defsT : List (Str × DD × Nat) := [(nBR, dR, 12), (nBL, dL, 12), (nIR, iR, 12), (nIL, iL, 12), (nEMf, dEM, 12), (nTab, dTab, 12), (nOps, dOps, 12), (nUns, dUns, 12), (nBes, dBes, 12), (nRd, dRead, 12), (nAsk, dAsk, 12), (nLay, dLay, 12), (nPl, dPl, 12), (nTold, dTold, 12), (nKp, dKeep, 10)]
def fsOf (fn : Str -> Option FS) (d : DD) (n : Nat) : FS := ⟨d.bor, runDef (GF fn) n d, 0⟩
noncomputable def lv : Nat -> Str -> Option FS
 | 0, _ => none
 | k + 1, x => match defsT.lookup x with
  | some (d, n) => some (fsOf (lv k) d n)
  | none => none
theorem abO {k : Nat} {x : Str} {d : DD} {n : Nat} (h : defsT.lookup x = some (d, n)) : lv (k + 1) x = some (fsOf (lv k) d n) := by
 show (match defsT.lookup x with | some (d, n) => some (fsOf (lv k) d n) | none => none) = _
 rw [h]
section
variable {k : Nat}
set_option tactic.hygienic false
theorem am0 : lv (k + 1) nBR = some (fsOf (lv k) dR 12) := abO (by ext)
theorem am1 : lv (k + 1) nBL = some (fsOf (lv k) dL 12) := abO (by ext)
theorem am2 : lv (k + 1) nIR = some (fsOf (lv k) iR 12) := abO (by ext)
theorem am3 : lv (k + 1) nIL = some (fsOf (lv k) iL 12) := abO (by ext)
theorem am4 : lv (k + 1) nEMf = some (fsOf (lv k) dEM 12) := abO (by ext)
theorem alO : lv (k + 1) nTab = some (fsOf (lv k) dTab 12) := abO (by ext)
theorem alP : lv (k + 1) nOps = some (fsOf (lv k) dOps 12) := abO (by ext)
theorem alQ : lv (k + 1) nUns = some (fsOf (lv k) dUns 12) := abO (by ext)
theorem alR : lv (k + 1) nBes = some (fsOf (lv k) dBes 12) := abO (by ext)
theorem am5 : lv (k + 1) nRd = some (fsOf (lv k) dRead 12) := abO (by ext)
theorem aiJ : lv (k + 1) nAsk = some (fsOf (lv k) dAsk 12) := abO (by ext)
theorem aiK : lv (k + 1) nLay = some (fsOf (lv k) dLay 12) := abO (by ext)
theorem am6 : lv (k + 1) nPl = some (fsOf (lv k) dPl 12) := abO (by ext)
theorem aj5 : lv (k + 1) nTold = some (fsOf (lv k) dTold 12) := abO (by ext)
theorem alS : lv (k + 1) nKp = some (fsOf (lv k) dKeep 10) := abO (by ext)
end
noncomputable def LP.xs (P : LP) (r : List Nat) : List CV := r.map fun i => .str (P.x i)
section
variable {P : LP} {k : Nat} {es : List (SS × CV)} {f : Nat -> Int} {r : List Nat} {c : Nat}
set_option tactic.hygienic false
theorem aiL {G : GE} {L : Lam} (hL : ∀ {k : SS} {v : Int}, dget es k.s = some (.int v) -> ∀ m, 4 ≤ m -> (sem G m).callLam L [("floor", .dict es)] [.str k] = some (.int v)) (hes : ∀ i ∈ r, dget es (P.e i) = some (.int (f i))) :
 KeyOf G L [("floor", .dict es)] (P.xs r) (fun j => f (atN r j)) := fun j c hj m hm => by
 unfold LP.xs at hj
 rw [List.getElem?_map] at hj
 cases hr : r[j]? with
 | none => rw [hr] at hj; cases hj
 | some i =>
  rw [hr] at hj
  have e : c = .str (P.x i) := (Option.some.inj hj).symm
  have ea : atN r j = i := by unfold atN; rw [hr]
  rw [e]
  show _ = some (CV.int (f (atN r j)))
  rw [ea]
  exact hL (hes i (List.mem_of_getElem? hr)) m hm
theorem aiM (r : List Nat) (i c : Nat) : insAt (P.xs r) i (.str (P.x c)) = P.xs (insN r i c) := by
 unfold insAt insN LP.xs
 rw [List.map_append, List.map_take, List.map_cons, List.map_drop]
theorem ag3 (bl : Bool) (hes : ∀ i ∈ r, dget es (P.e i) = some (.int (f i))) (hc : dget es (P.e c) = some (.int (f c))) (hr : r.length ≤ 80) :
 (fsOf (lv (k + 2)) dLay 12).run [.list (P.xs r), .str (P.x c), .dict es, .bool bl] [] = some (.none, .list (P.xs (layN bl f r c))) := by
 have hlen : (P.xs r).length = r.length := by unfold LP.xs; rw [List.length_map]
 cases bl with
 | false =>
  have hb := ajf (fn := lv k) (xs := P.xs r) (x := f c) (L := lamR) (caps := [("floor", .dict es)]) (aiL (fun h m hm => keyR h m hm) hes) (by omega)
  have hle := aeO (κ := fun j => f (atN r j)) (x := f c) 100 0 (P.xs r).length (Nat.zero_le _)
  have hi := insR (fn := lv (k + 1)) (F := fsOf (lv k) dR 12) (c := .str (P.x c)) am0 rfl hb (fun m hm => keyR (k := P.x c) hc m hm) hle (by omega) rfl
  rw [aiM, hlen] at hi
  exact layR (fn := lv (k + 2)) (F := fsOf (lv (k + 1)) iR 12) am2 rfl hi
 | true =>
  have hb := ajg (fn := lv k) (xs := P.xs r) (x := f c) (L := lamL) (caps := [("floor", .dict es)]) (aiL (fun h m hm => keyL h m hm) hes) (by omega)
  have hle := aeP (κ := fun j => f (atN r j)) (x := f c) 100 0 (P.xs r).length (Nat.zero_le _)
  have hi := insL (fn := lv (k + 1)) (F := fsOf (lv k) dL 12) (c := .str (P.x c)) am1 rfl hb (fun m hm => keyL (k := P.x c) hc m hm) hle (by omega) rfl
  rw [aiM, hlen] at hi
  exact layL (fn := lv (k + 2)) (F := fsOf (lv (k + 1)) iL 12) am3 rfl hi
def ChSel (P : LP) (w0 w1 w2 : Nat) : Prop := P.ch = [.list (P.xs (selI w0)), .list (P.xs (selI w1)), .list (P.xs (selI w2))]
theorem aia {w0 w1 w2 : Nat} (hch : ChSel P w0 w1 w2) (l0 : w0 < 16) (l1 : w1 < 16) (l2 : w2 < 16) {bl : Bool} (hes : ∀ i, i < 4 -> dget es (P.e i) = some (.int (f i))) :
 (fsOf (lv k) dKeep 10).run [.list P.ch, .dict es, .bool bl] [] = some (.bool (kpL bl ((selI w0).map f) && kpL bl ((selI w1).map f) && kpL bl ((selI w2).map f)), .list []) := by
 have fl : ∀ {w}, w < 16 -> FlOf es (P.xs (selI w)) ((selI w).map f) := fun {w} hw => ⟨by unfold LP.xs; rw [List.length_map, List.length_map], fun i c v hc hv => by
  unfold LP.xs at hc
  rw [List.getElem?_map] at hc hv
  cases hi : (selI w)[i]? with
  | none => rw [hi] at hc; cases hc
  | some j =>
   rw [hi] at hc hv
   rw [<- Option.some.inj hc, <- Option.some.inj hv]
   exact hes j (aca hw j (List.mem_of_getElem? hi))⟩
 have ll : ∀ {w}, w < 16 -> (P.xs (selI w)).length ≤ 900 := fun {w} hw => by unfold LP.xs; rw [List.length_map]; have := adK hw; omega
 have h := keeps (fn := lv k) (st := bl) (ChOf.cons (fl l0) (ll l0) (ChOf.cons (fl l1) (ll l1) (ChOf.cons (fl l2) (ll l2) ChOf.nil))) (by show 3 ≤ 900; decide)
 rw [hch]
 refine Eq.trans h ?_
 simp only [List.all_cons, List.all_nil, Bool.and_true, Bool.and_assoc]
end
def LP.einj (P : LP) : Prop := ∀ i j, i < 4 -> j < 4 -> P.e i = P.e j -> i = j
set_option tactic.hygienic false
theorem ag4 {P : LP} {m : Nat} {O : Nat -> List Nat} (S : Sg P m O) : P.einj := fun i j hi hj h => by
 have h := congrArg cl h
 rw [S.x, S.x] at h
 exact S.inj i j hi hj (agX (S.g i).m (S.g j).m (h ▸ List.prefix_refl _))
section
variable {P : LP} (hx : P.einj)
include hx
set_option tactic.hygienic false
theorem alT {i j : Nat} (hi : i < 4) (hj : j < 4) : (P.e i == P.e j) = decide (i = j) := by
 by_cases q : i = j
 · rw [q, beq_self_eq_true, decide_eq_true rfl]
 · rw [decide_eq_false q]; exact beq_eq_false_iff_ne.mpr fun e => q (hx i j hi hj e)
noncomputable def fdA (P : LP) : Nat -> List Int -> List (SS × CV)
 | _, [] => []
 | i, v :: r => (P.x i, .int v) :: fdA P (i + 1) r
theorem acU : ∀ (fl : List Int) (i : Nat) (v : Int), i + fl.length < 4 -> dput (fdA P i fl) (P.x (i + fl.length)) (.int v) = fdA P i (fl ++ [v])
 | [], i, v, _ => rfl
 | a :: r, i, v, h => by
  have h : i + (r.length + 1) < 4 := h
  have e : (P.e (i + (r.length + 1)) == P.e i) = false := by rw [alT hx h (by lia)]; exact decide_eq_false (by lia)
  have ih := acU r (i + 1) v (by omega)
  rw [show i + 1 + r.length = i + (r.length + 1) by omega] at ih
  show dput ((P.x i, .int a) :: fdA P (i + 1) r) (P.x (i + (r.length + 1))) (.int v) = (P.x i, .int a) :: fdA P (i + 1) (r ++ [v])
  conv => lhs; rw [aeU]
  show (match P.e (i + (r.length + 1)) == P.e i with | true => _ | false => _) = _
  rw [e, <- ih]
theorem aeQ : ∀ (fl : List Int) (i j : Nat), i + fl.length ≤ 4 -> j < fl.length -> dget (fdA P i fl) (P.e (i + j)) = some (.int (getF fl j))
 | [], i, j, _, h => by cases h
 | a :: r, i, 0, h, _ => by
  show dget ((P.x i, .int a) :: fdA P (i + 1) r) (P.e i) = _
  rw [adP]
  show (match P.e i == P.e i with | true => _ | false => _) = _
  rw [beq_self_eq_true]
  rfl
 | a :: r, i, j + 1, h, hj => by
  have h : i + (r.length + 1) ≤ 4 := h
  have hj : j + 1 < r.length + 1 := hj
  have ih := aeQ r (i + 1) j (by omega) (by omega)
  rw [show i + 1 + j = i + (j + 1) by lia] at ih
  have e : (P.e (i + (j + 1)) == P.e i) = false := by rw [alT hx (by lia) (by omega)]; exact decide_eq_false (by lia)
  show dget ((P.x i, .int a) :: fdA P (i + 1) r) (P.e (i + (j + 1))) = _
  rw [adP]
  show (match P.e (i + (j + 1)) == P.e i with | true => _ | false => _) = _
  rw [e]
  exact ih
theorem aem {f : F4} {i : Nat} (hi : i < 4) : dget (P.fd f) (P.e i) = some (.int (f4 f.1 f.2.1 f.2.2.1 f.2.2.2 i)) := by
 have h := aeQ hx [f.1, f.2.1, f.2.2.1, f.2.2.2] 0 i (show 0 + 4 ≤ 4 by decide) hi
 rw [Nat.zero_add] at h
 exact Eq.trans h (lt4 (P := fun i => some (CV.int (getF [f.1, f.2.1, f.2.2.1, f.2.2.2] i)) = some (CV.int (f4 f.1 f.2.1 f.2.2.1 f.2.2.2 i))) hi rfl rfl rfl rfl)
theorem ag5 {f : F4} : dictOf [.str P.x0, .str P.x1, .str P.x2, .str P.x3] [.int f.1, .int f.2.1, .int f.2.2.1, .int f.2.2.2] (some []) = some (P.fd f) := by
 have h1 := acU hx [f.1] 0 f.2.1 (show 0 + 1 < 4 by decide)
 have h2 := acU hx [f.1, f.2.1] 0 f.2.2.1 (show 0 + 2 < 4 by decide)
 have h3 := acU hx [f.1, f.2.1, f.2.2.1] 0 f.2.2.2 (show 0 + 3 < 4 by decide)
 show dictOf [.str P.x1, .str P.x2, .str P.x3] [.int f.2.1, .int f.2.2.1, .int f.2.2.2] (some (fdA P 0 [f.1])) = _
 show dictOf [.str P.x2, .str P.x3] [.int f.2.2.1, .int f.2.2.2] (some (dput (fdA P 0 [f.1]) (P.x 1) (.int f.2.1))) = _
 rw [show dput (fdA P 0 [f.1]) (P.x 1) (.int f.2.1) = fdA P 0 [f.1, f.2.1] from h1]
 show dictOf [.str P.x3] [.int f.2.2.2] (some (dput (fdA P 0 [f.1, f.2.1]) (P.x 2) (.int f.2.2.1))) = _
 rw [show dput (fdA P 0 [f.1, f.2.1]) (P.x 2) (.int f.2.2.1) = fdA P 0 [f.1, f.2.1, f.2.2.1] from h2]
 show some (dput (fdA P 0 [f.1, f.2.1, f.2.2.1]) (P.x 3) (.int f.2.2.2)) = _
 rw [show dput (fdA P 0 [f.1, f.2.1, f.2.2.1]) (P.x 3) (.int f.2.2.2) = fdA P 0 [f.1, f.2.1, f.2.2.1, f.2.2.2] from h3]
 rfl
end
def layF (k : Nat) (bl : Bool) (r : List CV) (c : SS) (f : List (SS × CV)) : List CV := match (fsOf (lv k) dLay 12).run [.list r, .str c, .dict f, .bool bl] [] with
 | some (_, .list l) => l
 | _ => []
noncomputable def LP.toRF (P : LP) (x : RN) : RF := (P.xs x.1, fdA P 0 x.2)
def VS (c : Nat) (x : RN) : Prop := x.2.length = c ∧ (∀ i ∈ x.1, i < c) ∧ x.1.length ≤ c
section
variable {P : LP} {k c : Nat} {bl : Bool} {x : RN}
set_option tactic.hygienic false
theorem ag6 (hx : P.einj) (hv : VS c x) (hc : c < 4) (v : Int) : (fsOf (lv (k + 2)) dLay 12).run [.list (P.xs x.1), .str (P.x c), .dict (fdA P 0 (x.2 ++ [v])), .bool bl] [] = some (.none, .list (P.xs (layN bl (getF (x.2 ++ [v])) x.1 c))) := by
 obtain ⟨h1, h2, h3⟩ := hv
 have hl : (x.2 ++ [v]).length = c + 1 := by rw [List.length_append, h1]; rfl
 have hget : ∀ i, i ≤ c -> dget (fdA P 0 (x.2 ++ [v])) (P.e i) = some (.int (getF (x.2 ++ [v]) i)) := fun i hi => by
  have := aeQ hx (x.2 ++ [v]) 0 i (by lia) (by lia)
  rw [Nat.zero_add] at this
  exact this
 exact ag3 bl (fun i hi => hget i (Nat.le_of_lt (h2 i hi))) (hget c (Nat.le_refl _)) (by lia)
theorem adO (hx : P.einj) (hv : VS c x) (hc : c < 4) (v : Int) : LaysTo (fsOf (lv (k + 2)) dLay 12) bl (layF (k + 2) bl) (P.toRF x).1 (P.x c) (dput (P.toRF x).2 (P.x c) (.int v)) ∧ layF (k + 2) bl (P.toRF x).1 (P.x c) (dput (P.toRF x).2 (P.x c) (.int v)) = P.xs (layN bl (getF (x.2 ++ [v])) x.1 c) ∧ dput (P.toRF x).2 (P.x c) (.int v) = fdA P 0 (x.2 ++ [v]) := by
 have hp : dput (fdA P 0 x.2) (P.x c) (.int v) = fdA P 0 (x.2 ++ [v]) := by
  have := acU hx x.2 0 v (by rw [hv.1]; omega)
  rw [hv.1, Nat.zero_add] at this
  exact this
 have hl := ag6 (k := k) (bl := bl) hx hv hc v
 have hF : layF (k + 2) bl (P.xs x.1) (P.x c) (fdA P 0 (x.2 ++ [v])) = P.xs (layN bl (getF (x.2 ++ [v])) x.1 c) := by unfold layF; rw [hl]
 unfold LP.toRF
 dsimp only
 rw [hp]
 refine ⟨?_, hF, rfl⟩
 unfold LaysTo
 rw [hF]
 exact hl
theorem am7 (hx : P.einj) (hv : VS c x) (hc : c < 4) : PlOk (fsOf (lv (k + 2)) dLay 12) bl (layF (k + 2) bl) (P.x c) (P.toRF x) := by
 have hf : ∀ (fl : List Int) (i : Nat), (fdA P i fl).length = fl.length := fun fl => by
  induction fl with
  | nil => intro i; rfl
  | cons a r ih => intro i; show (fdA P (i + 1) r).length + 1 = r.length + 1; rw [ih]
 exact ⟨by show (P.xs x.1).length ≤ 900; unfold LP.xs; rw [List.length_map]; have := hv.2.2; lia, by show (fdA P 0 x.2).length ≤ 900; rw [hf, hv.1]; lia, (adO hx hv hc 0).1, (adO hx hv hc 1).1⟩
theorem alU (hx : P.einj) (hv : VS c x) (hc : c < 4) : two (layF (k + 2) bl) (P.x c) (P.toRF x) = (twoN bl c x).map P.toRF := by
 obtain ⟨_, a1, a2⟩ := adO (k := k) (bl := bl) hx hv hc 0
 obtain ⟨_, b1, b2⟩ := adO (k := k) (bl := bl) hx hv hc 1
 unfold two
 rw [a1, a2, b1, b2]
 rfl
theorem abt {f : Nat -> Int} {r : List Nat} : (layN bl f r c).length = r.length + 1 := by
 unfold layN insN
 rw [List.length_append, List.length_cons, List.length_take, List.length_drop]
 omega
theorem aib {f : Nat -> Int} {r : List Nat} {i : Nat} (h : i ∈ layN bl f r c) : i = c ∨ i ∈ r := by
 unfold layN insN at h
 rcases List.mem_append.mp h with h | h
 · exact .inr (List.mem_of_mem_take h)
 · rcases List.mem_cons.mp h with e | h
   · exact .inl e
   · exact .inr (List.mem_of_mem_drop h)
theorem alV (hv : VS c x) : ∀ y ∈ twoN bl c x, VS (c + 1) y := fun y hy => by
 obtain ⟨h1, h2, h3⟩ := hv
 have key : ∀ v : Int, VS (c + 1) (layN bl (getF (x.2 ++ [v])) x.1 c, x.2 ++ [v]) := fun v => ⟨by rw [List.length_append, h1]; rfl, fun i hi => by
  rcases aib hi with e | e
  · omega
  · have := h2 i e; omega, by show (layN _ _ _ _).length ≤ _; rw [abt]; lia⟩
 simp only [twoN, List.mem_cons, List.not_mem_nil, or_false] at hy
 rcases hy with rfl | rfl
 · exact key 0
 · exact key 1
theorem aeR {l : List RN} (h : ∀ x ∈ l, VS c x) : ∀ y ∈ l.flatMap (twoN bl c), VS (c + 1) y := fun y hy => by
 obtain ⟨x, hx, hy⟩ := List.mem_flatMap.mp hy
 exact alV (h x hx) y hy
theorem acV (hx : P.einj) (hc : c < 4) : ∀ {l : List RN}, (∀ x ∈ l, VS c x) -> (l.map P.toRF).flatMap (two (layF (k + 2) bl) (P.x c)) = (l.flatMap (twoN bl c)).map P.toRF
 | [], _ => rfl
 | x :: r, h => by
  rw [List.map_cons, List.flatMap_cons, List.flatMap_cons, List.map_append, alU hx (h x (.head _)) hc, acV hx hc (fun y hy => h y (.tail _ hy))]
theorem alW (P : LP) (bl : Bool) : ((plN bl).map P.toRF).map pcv = (pls bl).map fun x => pcv (P.rf x) := by
 rw [alL]
 cases bl <;> ext
theorem alX (hx : P.einj) {n0 n1 n2 n3 n4 : List RN} (hn0 : n0.map P.toRF = [([], [])]) (v0 : ∀ x ∈ n0, VS 0 x) (h1 : n0.flatMap (twoN bl 0) = n1) (h2 : n1.flatMap (twoN bl 1) = n2) (h3 : n2.flatMap (twoN bl 2) = n3) (h4 : n3.flatMap (twoN bl 3) = n4) :
 runDef (GF (lv (k + 3))) 12 dPl [.list [.str (P.x 0), .str (P.x 1), .str (P.x 2), .str (P.x 3)], .bool bl] [] = some (.list ((n4.map P.toRF).map pcv), .list []) := by
 have v1 : ∀ y ∈ n1, VS 1 y := h1 ▸ aeR (bl := bl) v0
 have v2 : ∀ y ∈ n2, VS 2 y := h2 ▸ aeR (bl := bl) v1
 have v3 : ∀ y ∈ n3, VS 3 y := h3 ▸ aeR (bl := bl) v2
 have f0 := acV (k := k) (bl := bl) hx (by decide) v0
 have f1 := acV (k := k) (bl := bl) hx (by decide) v1
 have f2 := acV (k := k) (bl := bl) hx (by decide) v2
 have f3 := acV (k := k) (bl := bl) hx (by decide) v3
 have ok : ∀ {c : Nat} {l : List RN}, c < 4 -> (∀ x ∈ l, VS c x) -> ∀ y ∈ l.map P.toRF, PlOk (fsOf (lv (k + 2)) dLay 12) bl (layF (k + 2) bl) (P.x c) y := fun hc hv y hy => by
  obtain ⟨x, hx', rfl⟩ := List.mem_map.mp hy
  exact am7 hx (hv x hx') hc
 have k0 := ok (by decide) v0
 rw [hn0] at f0 k0
 rw [h1] at f0
 rw [h2] at f1
 rw [h3] at f2
 rw [h4] at f3
 exact ahM (fn := lv (k + 3)) (left := bl) (F := fsOf (lv (k + 2)) dLay 12) (lay := layF (k + 2) bl) (l1 := n1.map P.toRF) (l2 := n2.map P.toRF) (l3 := n3.map P.toRF) (l4 := n4.map P.toRF) aiK rfl (c0 := P.x 0) (c1 := P.x 1) (c2 := P.x 2) (c3 := P.x 3) f0.symm f1.symm f2.symm f3.symm
  (k0 _ (.head _)) (ok (by decide) v1) (ok (by decide) v2) (ok (by decide) v3)
theorem alY (hx : P.einj) : (fsOf (lv (k + 3)) dPl 12).run [.list [.str P.x0, .str P.x1, .str P.x2, .str P.x3], .bool bl] [] = some (.list ((pls bl).map fun x => pcv (P.rf x)), .list []) := by
 have e0 : P.x0 = P.x 0 := rfl
 have e1 : P.x1 = P.x 1 := rfl
 have e2 : P.x2 = P.x 2 := rfl
 have e3 : P.x3 = P.x 3 := rfl
 have er : ∀ a b, (fsOf (lv (k + 3)) dPl 12).run a b = runDef (GF (lv (k + 3))) 12 dPl a b := fun _ _ => rfl
 rw [<- alW, e0, e1, e2, e3, er]
 have hm : ([([], [])] : List RN).map P.toRF = [([], [])] := rfl
 have hv : ∀ x ∈ ([([], [])] : List RN), VS 0 x := fun x hx => by rw [List.mem_singleton.mp hx]; exact ⟨rfl, (fun i hi => by cases hi), Nat.le_refl _⟩
 have hp : plN bl = (((([([], [])] : List RN).flatMap (twoN bl 0)).flatMap (twoN bl 1)).flatMap (twoN bl 2)).flatMap (twoN bl 3) := by unfold plN; rfl
 rw [hp]
 generalize h1 : ([([], [])] : List RN).flatMap (twoN bl 0) = n1
 generalize h2 : n1.flatMap (twoN bl 1) = n2
 generalize h3 : n2.flatMap (twoN bl 2) = n3
 generalize h4 : n3.flatMap (twoN bl 3) = n4
 exact alX (k := k) (bl := bl) hx hm hv h1 h2 h3 h4
end
noncomputable def RQ (w0 w1 w2 : Nat) (q : Q4) : Bool := subI (selI w0) (qL q) && subI (selI w1) (qL q) && subI (selI w2) (qL q)
set_option tactic.hygienic false
theorem alZ (q : Q4) : qOf (qL q) = q := rfl
section
variable {P : LP} {w0 w1 w2 : Nat} {k : Nat} {bl : Bool}
set_option tactic.hygienic false
theorem aiN (hx : P.einj) (hch : ChSel P w0 w1 w2) (l0 : w0 < 16) (l1 : w1 < 16) (l2 : w2 < 16) (f : F4) : ∃ q ∈ ordQ, layAll bl (f4 f.1 f.2.1 f.2.2.1 f.2.2.2) = qL q ∧ (fsOf (lv k) dKeep 10).run [.list P.ch, .dict (P.fd f), .bool bl] [] = some (.bool (RQ w0 w1 w2 q), .list []) := by
 refine hid fun z0 => ?_
 obtain ⟨q, hq, h1, h2⟩ := laid (f4 f.1 f.2.1 f.2.2.1 f.2.2.2) bl
 refine z0 ?_
 refine ⟨q, hq, h1, ?_⟩
 have h := aia (k := k) (bl := bl) (es := P.fd f) (f := f4 f.1 f.2.1 f.2.2.1 f.2.2.2) hch l0 l1 l2 (fun i hi => aem hx hi)
 rw [h]
 unfold RQ
 rw [h2 w0 l0, h2 w1 l1, h2 w2 l2]
theorem ag7 : ∀ l ∈ bits, l.length = 4 := by decide
theorem am8 {l : List Int} (h : l.length = 4) : getF l = f4 (f4Of l).1 (f4Of l).2.1 (f4Of l).2.2.1 (f4Of l).2.2.2 ∨ True := .inr trivial
theorem aeS {l : List Int} (h : l.length = 4) : layAll bl (getF l) = layAll bl (f4 (f4Of l).1 (f4Of l).2.1 (f4Of l).2.2.1 (f4Of l).2.2.2) := by
 refine ack (fun i j hi hj => ?_) bl
 match l, h with
 | [a, b, c, d], _ =>
  have e : ∀ i, i < 4 -> getF [a, b, c, d] i = f4 (f4Of [a, b, c, d]).1 (f4Of [a, b, c, d]).2.1 (f4Of [a, b, c, d]).2.2.1 (f4Of [a, b, c, d]).2.2.2 i := fun i hi => by
   match i, hi with
   | 0, _ => rfl
   | 1, _ => rfl
   | 2, _ => rfl
   | 3, _ => rfl
  rw [e i hi, e j hj]
theorem pass (hx : P.einj) (hch : ChSel P w0 w1 w2) (l0 : w0 < 16) (l1 : w1 < 16) (l2 : w2 < 16) : Pass P (fsOf (lv (k + 3)) dPl 12) (fsOf (lv (k + 3)) dKeep 10) (RQ w0 w1 w2) (fallQ idF) bl := by
 have all : ∀ x ∈ pls bl, x.1 ∈ ordQ ∧ (fsOf (lv (k + 3)) dKeep 10).run [.list P.ch, .dict (P.fd x.2), .bool bl] [] = some (.bool (RQ w0 w1 w2 x.1), .list []) := fun x hxm => by
  refine hid fun z0 => ?_
  obtain ⟨l, hl, rfl⟩ := List.mem_map.mp hxm
  obtain ⟨q, hq, h1, h2⟩ := aiN (k := k + 3) (bl := bl) hx hch l0 l1 l2 (f4Of l)
  rw [<- aeS (ag7 l hl)] at h1
  refine z0 ?_
  dsimp only
  rw [h1, alZ]
  exact ⟨hq, h2⟩
 exact ⟨⟨pls bl, shN bl, by unfold pls bits; simp, by unfold pls; rw [List.length_map]; decide, fun x h => (all x h).1, ag2 bl, alY hx, fun x h => (all x h).2, alN bl⟩⟩
theorem al0 (hx : P.einj) (hch : ChSel P w0 w1 w2) (l0 : w0 < 16) (l1 : w1 < 16) (l2 : w2 < 16) (f : F4) : RowOk P (fsOf (lv (k + 2)) dLay 12) (fsOf (lv (k + 2)) dKeep 10) (RQ w0 w1 w2) (P.fd f) bl := by
 obtain ⟨q, hq, h1, h2⟩ := aiN (k := k + 2) (bl := bl) hx hch l0 l1 l2 f
 have hlt := fun {r : List Nat} {c : Nat} (hr : ∀ i ∈ r, i < 4) (hc : c < 4) => adN (bl := bl) (f := f4 f.1 f.2.1 f.2.2.1 f.2.2.2) hr hc
 have h0 : ∀ i ∈ ([] : List Nat), i < 4 := fun i hi => by cases hi
 have a1 := hlt h0 (by decide : 0 < 4)
 have a2 := hlt a1 (by decide : 1 < 4)
 have a3 := hlt a2 (by decide : 2 < 4)
 have run : ∀ {r : List Nat} {c : Nat}, (∀ i ∈ r, i < 4) -> c < 4 -> r.length ≤ 80 -> _ := fun {r c} hr hc hl => ag3 (k := k) (es := P.fd f) (f := f4 f.1 f.2.1 f.2.2.1 f.2.2.2) (r := r) (c := c) bl (fun i hi => aem hx (hr i hi)) (aem hx hc) hl
 have s0 := run h0 (by decide : 0 < 4) (by decide)
 have s1 := run a1 (by decide : 1 < 4) (by rw [abt]; decide)
 have s2 := run a2 (by decide : 2 < 4) (by rw [abt, abt]; decide)
 have s3 := run a3 (by decide : 3 < 4) (by rw [abt, abt, abt]; decide)
 have e : layN bl (f4 f.1 f.2.1 f.2.2.1 f.2.2.2) (layN bl (f4 f.1 f.2.1 f.2.2.1 f.2.2.2) (layN bl (f4 f.1 f.2.1 f.2.2.1 f.2.2.2) (layN bl (f4 f.1 f.2.1 f.2.2.1 f.2.2.2) [] 0) 1) 2) 3 = qL q := h1
 rw [e] at s3
 have hr : P.xs (qL q) = P.rowl q := rfl
 rw [hr] at s3
 exact ⟨⟨_, _, _, q, hq, s0, s1, s2, s3, h2⟩⟩
end
set_option tactic.hygienic false
theorem afW {x : SS} {m : Nat} {r : List Nat} (h : cl x.s = m :: r) : subC (.str x) (.int 0) = some (.str (chS m)) := by
 have hl : x.s.length = r.length + 1 := by rw [<- aav, h]; rfl
 have e : seqIndex? 0 x.s.length = some 0 := by unfold seqIndex?; rw [hl]; simp
 have g : x.s.cps[0]? = some m := by
  have : x.s.cps.toList[0]? = some m := by show (cl x.s)[0]? = some m; rw [h]; rfl
  simpa using this
 show (match (seqIndex? 0 x.s.length).bind (x.s.cps[·]?) with | some c => _ | none => _) = _
 rw [e]
 show (match x.s.cps[0]? with | some c => _ | none => _) = _
 rw [g]
 rfl
theorem afs {k : Nat} {w g : SS} {r : Bool} (h : runDef (GF (lv k)) 12 dEM [.str w, .str g] [] = some (.bool r, .list [])) : Asks (fsOf (lv (k + 1)) dAsk 12) w g r := fun sd hl =>
 amH (fn := lv (k + 1)) (F := fsOf (lv k) dEM 12) am4 rfl h (by unfold LIM; omega)
theorem aic {P : LP} {m : Nat} {O : Nat -> List Nat} {xs : List Int} {w0 w1 w2 : Nat} {v : F4} {n0 n1 n2 n3 : Nat} {o : Str} {ho : o.length ≤ 8} (S : Sg P m O) (hch : ChSel P w0 w1 w2) (l0 : w0 < 16) (l1 : w1 < 16) (l2 : w2 < 16) (hnd : P.nd = P.fd v)
 (hv : v.1 < v.2.1 ∧ v.2.1 < v.2.2.1 ∧ v.2.2.1 < v.2.2.2) (v0 : P.v0 = wantS w0 P.x0 P.x1 P.x2 P.x3) (v1 : P.v1 = wantS w1 P.x0 P.x1 P.x2 P.x3) (v2 : P.v2 = wantS w2 P.x0 P.x1 P.x2 P.x3) (hcs : P.cs = scr xs) (hxs : xs.length ≤ 63)
 (hsp : P.sp = [n0, n1, n2, n3]) (hop : (opsL.map fun s => CV.str (SS.pad s))[n1]? = some (.str (so o ho))) (hO : cl o = O 1) :
 ∃ ρ, (sem (GF (lv 4)) 20).xss [lawS 20, lawS 21, lawS 22, lawS 23, lawS 24, lawS 25, lawS 26, lawS 27, lawS 28, lawS 29, lawS 30] (P.Z []) = some (.ret (.bool true), ρ) := by
 have hx := ag4 S
 have hT := amX S
 have hvi : ∀ i, dget P.nd (P.e i) = some (.int (f4 v.1 v.2.1 v.2.2.1 v.2.2.2 i)) := fun i => by
  rw [hnd]
  by_cases q : i < 4
  · exact aem hx q
  · obtain ⟨j, rfl⟩ := Nat.exists_eq_add_of_le' (show 3 ≤ i by omega)
    have h3 := aem hx (f := v) (i := 3) (by decide)
    exact h3
 have ha : ∀ q ∈ ordQ, Asks (fsOf (lv 3) dAsk 12) P.v0 (P.T q) (subI (selI w0) (qL q)) ∧ Asks (fsOf (lv 3) dAsk 12) P.v1 (P.T q) (subI (selI w1) (qL q)) ∧ Asks (fsOf (lv 3) dAsk 12) P.v2 (P.T q) (subI (selI w2) (qL q)) := fun q hq => by
  rw [v0, v1, v2]
  exact ⟨afs (aeM S l0 hq), afs (aeM S l1 hq), afs (aeM S l2 hq)⟩
 refine hid fun z2 => ?_
 obtain ⟨bl, l, t, k, w, hbl, s23⟩ := alh (fn := lv 4) (P := P) (F := fsOf (lv 3) dAsk 12) aiJ rfl (R0 := fun q => subI (selI w0) (qL q)) (R1 := fun q => subI (selI w1) (qL q)) (R2 := fun q => subI (selI w2) (qL q)) hvi ha
 rw [agM hT, ahQ hT] at s23
 have hord : ∀ i j, i < 4 -> j < 4 -> decide (f4 v.1 v.2.1 v.2.2.1 v.2.2.2 i < f4 v.1 v.2.1 v.2.2.1 v.2.2.2 j) = decide (i < j) := fun i j hi hj => by
  have m := fun {i j : Nat} => akF (f := f4 v.1 v.2.1 v.2.2.1 v.2.2.2) (i := i) (j := j) hv.1 hv.2.1 hv.2.2
  refine decide_eq_decide.mpr ⟨fun h => ?_, m hj⟩
  rcases Nat.lt_trichotomy i j with q | rfl | q
  · exact q
  · exact absurd h (Int.lt_irrefl _)
  · exact absurd h (Int.lt_asymm (m hi q))
 have hfa : P.im (ordQ.map fun q => (q, CV.int (fallQ (f4 v.1 v.2.1 v.2.2.1 v.2.2.2) q))) = P.im (ordQ.map fun q => (q, CV.int (fallQ idF q))) := by
  congr 1
  exact List.map_congr_left fun q hq => by rw [ah9 hord hq]
 rw [hfa] at s23
 obtain ⟨t2, ro, fl, sh, s24⟩ := als (fn := lv 4) (P := P) (sd := bl.map CV.bool) (fa := P.im (ordQ.map fun q => (q, .int (fallQ idF q)))) (l := l) (te := t) (k := k) (w := w) (Fp := fsOf (lv 3) dPl 12) (Fk := fsOf (lv 3) dKeep 10) hT am6 rfl alS rfl (R := RQ w0 w1 w2) (g := fallQ idF) (pass (k := 0) hx hch l0 l1 l2) (pass (k := 0) hx hch l0 l1 l2) rfl
 have s25 := alu (fn := lv 4) (P := P) (sd := bl.map CV.bool) (gr := P.im (ordQ.map fun q => (q, .bool (RQ w0 w1 w2 q)))) (fa := P.im (ordQ.map fun q => (q, .int (fallQ idF q)))) (l := l) (te := t2) (k := k) (w := w) (sh := sh) (ro := ro) (fl := fl) hcs hxs
 obtain ⟨fs, hfs, efs⟩ := afS xs
 rw [efs] at s25
 obtain ⟨f0, f1, f2, f3, s26⟩ := alv (fn := lv 4) (P := P) (sd := bl.map CV.bool) (gr := P.im (ordQ.map fun q => (q, .bool (RQ w0 w1 w2 q)))) (fa := P.im (ordQ.map fun q => (q, .int (fallQ idF q)))) (l := l) (te := t2) (k := k) (w := w) (sh := sh) (ro := ro) (fl := fl) hfs
 have s27 := alw (fn := lv 4) (P := P) (sd := bl.map CV.bool) (gr := P.im (ordQ.map fun q => (q, .bool (RQ w0 w1 w2 q)))) (fa := P.im (ordQ.map fun q => (q, .int (fallQ idF q)))) (l := l) (te := t2) (k := k) (w := w) (sh := sh) (ro := ro) (fl := fl) (ag5 hx (f := (f0, f1, f2, f3)))
 obtain ⟨q, s28⟩ := aly (fn := lv 4) (P := P) (sd := bl.map CV.bool) (fa := P.im (ordQ.map fun q => (q, .int (fallQ idF q)))) (l := l) (te := t2) (k := k) (w := w) (sh := sh) (fs := .list [.int f0, .int f1, .int f2, .int f3]) (ro := ro) (Fl := fsOf (lv 3) dLay 12) (Fk := fsOf (lv 3) dKeep 10) hT aiK rfl alS rfl (R := RQ w0 w1 w2) (d := P.fd (f0, f1, f2, f3)) (al0 (k := 1) hx hch l0 l1 l2 _) (al0 (k := 1) hx hch l0 l1 l2 _)
 have hne : O 0 ≠ O 1 := fun e => absurd (S.inj 0 1 (by decide) (by decide) e) (by decide)
 have ht := told (fn := lv 3) (s0 := P.s0) (s1 := P.s1) (s2 := P.s2) (s3 := P.s3) (h0 := P.h0) (h1 := P.h1) (h2 := P.h2) (h3 := P.h3) (o := o) (ho := ho) (said := bl.map CV.bool) (m := m) (F := fsOf (lv 2) dAsk 12) aiJ rfl (afW (x := sg P.s0 P.h0) (S.x 0))
  (fun x hx => afs (aj2 (fn := lv 1) (a := sg P.s0 P.h0) (b := sg P.s1 P.h1) (c := sg P.s2 P.h2) (d := sg P.s3 P.h3) (o := so o ho) (S.x 0) (S.x 1) (S.x 2) (S.x 3) hO S.m (S.g 0) (S.g 1) (S.g 2) (S.g 3) hne (Nat.le_refl _) (Nat.le_refl _) (Nat.le_refl _) (Nat.le_refl _) (Nat.le_refl _) x hx)) (by rw [List.length_map]; omega)
 have hmap : bl.map CV.bool ++ (casesD (sg P.s0 P.h0) (sg P.s1 P.h1) (sg P.s2 P.h2) (sg P.s3 P.h3) (so o ho) (chS m)).map (fun x => CV.bool x.2.2) = (bl ++ [true, false, false, true, false, false, false, true, false, false, false, false, true]).map CV.bool := by
  rw [List.map_append]; rfl
 rw [hmap] at ht
 have s29 := alA (fn := lv 4) (P := P) (gr := P.im (ordQ.map fun q => (q, .bool (RQ w0 w1 w2 q)))) (fa := P.im (ordQ.map fun q => (q, .int (fallQ idF q)))) (l := l) (te := t2) (k := k) (w := w) (sh := sh) (fs := .list [.int f0, .int f1, .int f2, .int f3]) (fl := .dict (P.fd (f0, f1, f2, f3))) (rl := P.rowl q) (F := fsOf (lv 3) dTold 12) aj5 rfl hsp hop ht
 have s30 := alD (fn := lv 4) (P := P) (gr := P.im (ordQ.map fun q => (q, .bool (RQ w0 w1 w2 q)))) (fa := P.im (ordQ.map fun q => (q, .int (fallQ idF q)))) (l := l) (te := t2) (k := k) (w := w) (sh := sh) (fs := .list [.int f0, .int f1, .int f2, .int f3]) (fl := .dict (P.fd (f0, f1, f2, f3))) (rl := P.rowl q) (bl := bl ++ [true, false, false, true, false, false, false, true, false, false, false, false, true]) (by rw [List.length_append]; show _ + 13 ≤ _; omega)
 refine z2 ?_
 exact ⟨_, aaa alb (aaa alc (aaa ald (aaa s23 (aaa s24 (aaa s25 (aaa s26 (aaa s27 (aaa s28 (aaa s29 (aan s30))))))))))⟩
theorem anq {m : Nat} {o : Str} {h : o.length ≤ 8} : sgn m o h = sg (sgn m o h).s (sgn m o h).h := rfl
noncomputable def opO (a b c d : Str) : Nat -> List Nat
 | 0 => cl a
 | 1 => cl b
 | 2 => cl c
 | _ => cl d
theorem al1 : b1N.length = 27 := by decide
theorem aj6 : besN.length = 16 := by decide
theorem aiO {l : List Nat} {n k : Nat} (h : l.length = n) (hk : k < n) : ∃ c, l[k]? = some c ∧ c ∈ l := ⟨l[k]'(by omega), List.getElem?_eq_getElem (by omega), List.getElem_mem _⟩
theorem al2 {cs : List CV} {a b : Int} : V0 cs (w1 a b []) = U cs a b [] [] := rfl
structure HP where
 cs : List CV
 a : Int
 b : Int
 p : List Nat
 q : Int
 d : List Nat
 n0 : Nat
 n1 : Nat
 n2 : Nat
 n3 : Nat
 m : Nat
 z : Nat
 o0 : Str
 o1 : Str
 o2 : Str
 o3 : Str
 g0 : o0.length ≤ 8
 g1 : o1.length ≤ 8
 g2 : o2.length ≤ 8
 g3 : o3.length ≤ 8
 w0 : Nat
 w1 : Nat
 w2 : Nat
def HP.X0 (H : HP) : SS := sgn H.m H.o0 H.g0
def HP.X1 (H : HP) : SS := sgn H.m H.o1 H.g1
def HP.X2 (H : HP) : SS := sgn H.m H.o2 H.g2
def HP.X3 (H : HP) : SS := sgn H.m H.o3 H.g3
noncomputable def HP.tl (H : HP) : List CV := [.int 256, .int ((H.n0 : Int) + 7), .int ((H.n1 : Int) + 7), .int ((H.n2 : Int) + 7), .int ((H.n3 : Int) + 7)]
def HP.nd (H : HP) : List (SS × CV) := [(H.X0, .int ((H.n0 : Int) + 7)), (H.X1, .int ((H.n1 : Int) + 7)), (H.X2, .int ((H.n2 : Int) + 7)), (H.X3, .int ((H.n3 : Int) + 7))]
def HP.c (H : HP) (w : Nat) : CV := .list (selC w (.str H.X0) (.str H.X1) (.str H.X2) (.str H.X3))
def HP.ch (H : HP) : List CV := [H.c H.w0, H.c H.w1, H.c H.w2]
def HP.v (H : HP) (w : Nat) : SS := wantS w H.X0 H.X1 H.X2 H.X3
def HP.P (H : HP) : LP := ⟨H.cs, H.a, H.b, H.p, H.q, H.d, [H.n0, H.n1, H.n2, H.n3], H.m, H.z, H.tl, H.nd, H.ch, H.w2, H.v H.w0, H.v H.w1, H.v H.w2, H.X0.s, H.X1.s, H.X2.s, H.X3.s, H.X0.h, H.X1.h, H.X2.h, H.X3.h⟩
noncomputable def HP.O (H : HP) : Nat -> List Nat := opO H.o0 H.o1 H.o2 H.o3
structure HOk (H : HP) : Prop where
 c0 : ∀ c ∈ cl H.o0, c ≤ 126 ∧ c ≠ 46
 c1 : ∀ c ∈ cl H.o1, c ≤ 126 ∧ c ≠ 46
 c2 : ∀ c ∈ cl H.o2, c ≤ 126 ∧ c ≠ 46
 c3 : ∀ c ∈ cl H.o3, c ≤ 126 ∧ c ≠ 46
 d0 : cl H.o0 ≠ []
 d1 : cl H.o1 ≠ []
 d2 : cl H.o2 ≠ []
 d3 : cl H.o3 ≠ []
 v0 : numOf H.o0 = (H.n0 : Int) + 7
 v1 : numOf H.o1 = (H.n1 : Int) + 7
 v2 : numOf H.o2 = (H.n2 : Int) + 7
 v3 : numOf H.o3 = (H.n3 : Int) + 7
 lt0 : H.n0 < H.n1
 lt1 : H.n1 < H.n2
 lt2 : H.n2 < H.n3
 m : 173 ≤ H.m
 m2 : isB1 H.m = true
 z1 : isB1 H.z = false
 z2 : numOf (mk [H.z]) = 256
 l0 : H.w0 < 16
 l1 : H.w1 < 16
 l2 : H.w2 < 16
 e0 : (opsL.map fun s => CV.str (SS.pad s))[H.n0]? = some (.str (so H.o0 H.g0))
 e1 : (opsL.map fun s => CV.str (SS.pad s))[H.n1]? = some (.str (so H.o1 H.g1))
 e2 : (opsL.map fun s => CV.str (SS.pad s))[H.n2]? = some (.str (so H.o2 H.g2))
 e3 : (opsL.map fun s => CV.str (SS.pad s))[H.n3]? = some (.str (so H.o3 H.g3))
 b0 : Int.fmod H.b 16 = H.w0
 b1 : Int.fmod (Int.fdiv H.b 16) 16 = H.w1
 b2 : Int.fmod (Int.fdiv H.b 256) 16 = H.w2
section
variable {H : HP} (K : HOk H)
include K
set_option tactic.hygienic false
theorem H_Sg : Sg H.P H.m H.O := by
 have good : ∀ {o : Str}, (∀ c ∈ cl o, c ≤ 126 ∧ c ≠ 46) -> cl o ≠ [] -> Good H.m (cl o) := fun h hn => ⟨fun hc => by have := (h H.m hc).1; have := K.m; lia, fun c hc => (h c hc).2, hn⟩
 have num : ∀ i, i < 4 -> numOf (mk (H.O i)) = (match i with | 0 => (H.n0 : Int) | 1 => H.n1 | 2 => H.n2 | _ => H.n3) + 7 := fun i hi => by
  refine lt4 (P := fun i => numOf (mk (H.O i)) = (match i with | 0 => (H.n0 : Int) | 1 => H.n1 | 2 => H.n2 | _ => H.n3) + 7) hi ?_ ?_ ?_ ?_
  · show numOf (mk (cl H.o0)) = _; rw [aeH, K.v0]; rfl
  · show numOf (mk (cl H.o1)) = _; rw [aeH, K.v1]; rfl
  · show numOf (mk (cl H.o2)) = _; rw [aeH, K.v2]; rfl
  · show numOf (mk (cl H.o3)) = _; rw [aeH, K.v3]; rfl
 have lt7 : ∀ {x y : Nat}, x < y -> (x : Int) + 7 < (y : Int) + 7 := fun h => by omega
 have m := fun {i j : Nat} => akF (f := fun i => (match i with | 0 => (H.n0 : Int) | 1 => H.n1 | 2 => H.n2 | _ => H.n3) + 7) (i := i) (j := j) (lt7 K.lt0) (lt7 K.lt1) (lt7 K.lt2)
 refine ⟨nat4 aek aek aek fun _ => aek, nat4 (good K.c0 K.d0) (good K.c1 K.d1) (good K.c2 K.d2) fun _ => good K.c3 K.d3, by have := K.m; omega, fun i j hi hj h => ?_, fun i => rfl⟩
 have h := congrArg (fun l => numOf (mk l)) h
 rw [num i hi, num j hj] at h
 rcases Nat.lt_trichotomy i j with q | rfl | q
 · exact absurd h (Int.ne_of_lt (m hj q))
 · rfl
 · exact absurd h.symm (Int.ne_of_lt (m hi q))
theorem am9 : ChSel H.P H.w0 H.w1 H.w2 := by
 have key : ∀ {w}, w < 16 -> H.c w = .list (H.P.xs (selI w)) := fun {w} hw => by
  unfold HP.c
  rw [ah0 hw]
  unfold LP.xs
  congr 1
  refine List.map_congr_left fun i hi => ?_
  match i, aca hw i hi with
  | 0, _ => rfl
  | 1, _ => rfl
  | 2, _ => rfl
  | 3, _ => rfl
 show H.ch = _
 unfold HP.ch
 rw [key K.l0, key K.l1, key K.l2]
theorem al3 : dictOf [.str H.X0, .str H.X1, .str H.X2, .str H.X3] [.int ((H.n0 : Int) + 7), .int ((H.n1 : Int) + 7), .int ((H.n2 : Int) + 7), .int ((H.n3 : Int) + 7)] (some []) = some H.nd := by
 have h := ag5 (ag4 (H_Sg K)) (f := ((H.n0 : Int) + 7, (H.n1 : Int) + 7, (H.n2 : Int) + 7, (H.n3 : Int) + 7))
 exact h
omit K in
theorem H_cl : cl ((chS H.z).app (joinS [H.X0, H.X1, H.X2, H.X3])).s = H.z :: blocks H.m [cl H.o0, cl H.o1, cl H.o2, cl H.o3] := by
 rw [aae, aeh, abr]
 simp only [List.map_cons, List.map_nil, blocks, HP.X0, HP.X1, HP.X2, HP.X3, aek]
 rfl
omit K in
theorem ana : (cl ((chS H.z).app (joinS [H.X0, H.X1, H.X2, H.X3])).s).length ≤ 90000 := by
 rw [aav]
 refine Nat.le_trans ((chS H.z).app (joinS [H.X0, H.X1, H.X2, H.X3])).h ?_
 rw [aaC]
 have h1 : (chS H.z).b = 1 := rfl
 have := abF [H.X0, H.X1, H.X2, H.X3] (fun x hx => by
  simp only [List.mem_cons, List.not_mem_nil, or_false] at hx
  rcases hx with rfl | rfl | rfl | rfl <;> exact Nat.le_refl 10)
 have h4 : [H.X0, H.X1, H.X2, H.X3].length = 4 := rfl
 lia
theorem al4 : (readL (H.z :: blocks H.m [cl H.o0, cl H.o1, cl H.o2, cl H.o3]) []).map CV.int = H.tl := by
 have low : ∀ {o : Str}, (∀ c ∈ cl o, c ≤ 126 ∧ c ≠ 46) -> ∀ c ∈ cl o, isB1 c = false := fun h c hc => alK (h c hc).1
 rw [aej K.m2 K.z1 (cl H.o0) [cl H.o1, cl H.o2, cl H.o3] (fun x hx => by
  simp only [List.mem_cons, List.not_mem_nil, or_false] at hx
  rcases hx with rfl | rfl | rfl | rfl
  · exact ⟨low K.c0, K.d0⟩
  · exact ⟨low K.c1, K.d1⟩
  · exact ⟨low K.c2, K.d2⟩
  · exact ⟨low K.c3, K.d3⟩)]
 simp only [List.map_cons, List.map_nil, aeH, K.z2, K.v0, K.v1, K.v2, K.v3, HP.tl]
theorem al5 : (fsOf (lv 3) dRead 12).run [.str ((chS H.z).app (joinS [H.X0, H.X1, H.X2, H.X3]))] [] = some (.list H.tl, .list []) := by
 generalize ht : (chS H.z).app (joinS [H.X0, H.X1, H.X2, H.X3]) = t
 have h1 : cl t.s = H.z :: blocks H.m [cl H.o0, cl H.o1, cl H.o2, cl H.o3] := ht ▸ H_cl
 have h2 : (cl t.s).length ≤ 90000 := ht ▸ ana
 have hrd := ajy (fn := lv 3) (t := t) (F := fsOf (lv 2) dTab 12) alO rfl (fun c => ajv (fn := lv 2)) h2
 have e : t.s.cps.toList = H.z :: blocks H.m [cl H.o0, cl H.o1, cl H.o2, cl H.o3] := h1
 rw [e, al4 K] at hrd
 exact hrd
theorem aj7 {rest : List Stmt} {r : Option (FC × CE)} (h : (sem (GF (lv 4)) 20).xss rest (H.P.Z []) = r) :
 (sem (GF (lv 4)) 20).xss (lawS 11 :: lawS 12 :: lawS 13 :: lawS 14 :: lawS 15 :: lawS 16 :: lawS 17 :: lawS 18 :: lawS 19 :: rest) (U H.cs H.a H.b [] (W10 H.p H.q H.d [H.n0, H.n1, H.n2, H.n3] H.m H.z [])) = r := by
 have s11 := ak1 (fn := lv 4) (cs := H.cs) (a := H.a) (b := H.b) (p := H.p) (q := H.q) (d := H.d) (m := H.m) (z := H.z) K.e0 K.e1 K.e2 K.e3
 have s12 := ak2 (fn := lv 4) (cs := H.cs) (a := H.a) (b := H.b) (p := H.p) (q := H.q) (d := H.d) (sp := [H.n0, H.n1, H.n2, H.n3]) (m := H.m) (z := H.z) (x0 := H.X0) (x1 := H.X1) (x2 := H.X2) (x3 := H.X3) am5 rfl rfl rfl rfl rfl (al5 K)
 have s13 := ak3 (fn := lv 4) (cs := H.cs) (a := H.a) (b := H.b) (p := H.p) (q := H.q) (d := H.d) (m := H.m) (z := H.z) (s0 := H.n0) (s1 := H.n1) (s2 := H.n2) (s3 := H.n3) (sg := [.str H.X0, .str H.X1, .str H.X2, .str H.X3])
 have s14 := ak4 (fn := lv 4) (cs := H.cs) (a := H.a) (b := H.b) (p := H.p) (q := H.q) (d := H.d) (sp := [H.n0, H.n1, H.n2, H.n3]) (m := H.m) (z := H.z) (al3 K)
 have s15 := ak5 (fn := lv 4) (cs := H.cs) (a := H.a) (b := H.b) (p := H.p) (q := H.q) (d := H.d) (sp := [H.n0, H.n1, H.n2, H.n3]) (m := H.m) (z := H.z) (sgs := [.str H.X0, .str H.X1, .str H.X2, .str H.X3]) (tl := H.tl) (nd := H.nd)
 have s16 := ak6 (fn := lv 4) (cs := H.cs) (a := H.a) (b := H.b) (p := H.p) (q := H.q) (d := H.d) (sp := [H.n0, H.n1, H.n2, H.n3]) (m := H.m) (z := H.z) (x0 := .str H.X0) (x1 := .str H.X1) (x2 := .str H.X2) (x3 := .str H.X3) (tl := H.tl) (nd := H.nd) K.b0 K.b1 K.b2 K.l0 K.l1 K.l2
 have s17 := ak7 (fn := lv 4) (cs := H.cs) (a := H.a) (b := H.b) (p := H.p) (q := H.q) (d := H.d) (sp := [H.n0, H.n1, H.n2, H.n3]) (m := H.m) (z := H.z) (s0 := H.X0.s) (s1 := H.X1.s) (s2 := H.X2.s) (s3 := H.X3.s) (h0 := H.X0.h) (h1 := H.X1.h) (h2 := H.X2.h) (h3 := H.X3.h) (sgs := [.str H.X0, .str H.X1, .str H.X2, .str H.X3]) (tl := H.tl) (nd := H.nd) (wh := H.w2) K.l0 K.l1 K.l2
 have s18 := ak8 (fn := lv 4) (cs := H.cs) (a := H.a) (b := H.b) (p := H.p) (q := H.q) (d := H.d) (sp := [H.n0, H.n1, H.n2, H.n3]) (m := H.m) (z := H.z) (sgs := [.str H.X0, .str H.X1, .str H.X2, .str H.X3]) (tl := H.tl) (nd := H.nd) (wh := H.w2) (ch := H.ch) (wa := [.str (H.v H.w0), .str (H.v H.w1), .str (H.v H.w2)])
 have s19 := ak9 (fn := lv 4) (cs := H.cs) (a := H.a) (b := H.b) (p := H.p) (q := H.q) (d := H.d) (sp := [H.n0, H.n1, H.n2, H.n3]) (m := H.m) (z := H.z) (y0 := H.X0) (y1 := H.X1) (y2 := H.X2) (y3 := H.X3) (tl := H.tl) (nd := H.nd) (wh := H.w2) (ch := H.ch) (wa := [.str (H.v H.w0), .str (H.v H.w1), .str (H.v H.w2)])
 refine aaa s11 ?_
 refine aaa s12 ?_
 refine aaa s13 ?_
 refine aaa s14 ?_
 refine aaa s15 ?_
 refine aaa s16 ?_
 refine aaa s17 ?_
 refine aaa s18 ?_
 exact aaa s19 h
theorem aj8 {xs : List Int} (hcs : H.cs = scr xs) (hxs : xs.length ≤ 63) : ∃ ρ, (sem (GF (lv 4)) 20).xss [lawS 20, lawS 21, lawS 22, lawS 23, lawS 24, lawS 25, lawS 26, lawS 27, lawS 28, lawS 29, lawS 30] (H.P.Z []) = some (.ret (.bool true), ρ) := by
 have h0 := K.lt0
 have h1 := K.lt1
 have h2 := K.lt2
 exact aic (P := H.P) (m := H.m) (O := H.O) (xs := xs) (w0 := H.w0) (w1 := H.w1) (w2 := H.w2) (v := ((H.n0 : Int) + 7, (H.n1 : Int) + 7, (H.n2 : Int) + 7, (H.n3 : Int) + 7)) (n0 := H.n0) (n1 := H.n1) (n2 := H.n2) (n3 := H.n3) (o := H.o1) (ho := H.g1) (H_Sg K) (am9 K) K.l0 K.l1 K.l2 rfl ⟨by show (H.n0 : Int) + 7 < (H.n1 : Int) + 7; omega, by show (H.n1 : Int) + 7 < (H.n2 : Int) + 7; omega, by show (H.n2 : Int) + 7 < (H.n3 : Int) + 7; omega⟩ rfl rfl rfl hcs hxs rfl K.e1 rfl
end
set_option tactic.hygienic false
theorem aid {xs : List Int} (hl : xs.length ≤ 63) : ∃ H : HP, HOk H ∧ H.cs = scr xs ∧ ∀ {rest : List Stmt} {r : Option (FC × CE)}, (sem (GF (lv 4)) 20).xss rest (U H.cs H.a H.b [] (W10 H.p H.q H.d [H.n0, H.n1, H.n2, H.n3] H.m H.z [])) = r ->
 (sem (GF (lv 4)) 20).xss (lawS 0 :: lawS 1 :: lawS 2 :: lawS 3 :: lawS 4 :: lawS 5 :: lawS 6 :: lawS 7 :: lawS 8 :: lawS 9 :: lawS 10 :: rest) (V0 (scr xs) []) = r := by
 refine hid fun z0 => ?_
 obtain ⟨a, b, s1⟩ := amM (fn := lv 4) hl
 have hc0 : V0 (xs.map CV.int) (w1 a b []) = U (scr xs) a b [] [] := al2
 rw [hc0] at s1
 have s2 := amN (fn := lv 4) (cs := scr xs) (a := a) (b := b) alP rfl (agD (fn := lv 3))
 have s3 := amO (fn := lv 4) (cs := scr xs) (a := a) (b := b)
 have s4 := amP (fn := lv 4) (cs := scr xs) (a := a) (b := b) (p := poolN)
 have s5 := amQ (fn := lv 4) (cs := scr xs) (a := a) (b := b) (p := poolN) (q := a)
 obtain ⟨y0, y1, y2, y3, p, q, hnd, hpool, s6⟩ := amR (fn := lv 4) (cs := scr xs) (a := a) (b := b) (q := a)
 obtain ⟨n0, n1, n2, n3, lt0, lt1, lt2, hn, hsort⟩ := ajI hnd hpool
 have s7 := amS (fn := lv 4) (cs := scr xs) (a := a) (b := b) (p := p) (q := q) hsort
 have s8 := amT (fn := lv 4) (cs := scr xs) (a := a) (b := b) (p := p) (q := q) (d := [y0, y1, y2, y3]) (sp := [n0, n1, n2, n3])
 obtain ⟨mi, hmi, emi⟩ := aba (w := Int.fdiv b 4096) (k := 27) (by decide)
 obtain ⟨m, hm, hmm⟩ := aiO al1 hmi
 have s9 := amU (fn := lv 4) (cs := scr xs) (a := a) (b := b) (p := p) (q := Int.fdiv b 4096) (d := [y0, y1, y2, y3]) (sp := [n0, n1, n2, n3]) (m := m) alQ rfl (akO (fn := lv 3) emi hm)
 obtain ⟨zi, hzi, ezi⟩ := aba (w := Int.fdiv (Int.fdiv b 4096) 27) (k := 16) (by decide)
 obtain ⟨z, hz, hzm⟩ := aiO aj6 hzi
 have s10 := ak0 (fn := lv 4) (cs := scr xs) (a := a) (b := b) (p := p) (q := Int.fdiv b 4096) (d := [y0, y1, y2, y3]) (sp := [n0, n1, n2, n3]) (m := m) (z := z) alR rfl (akP (fn := lv 3) ezi hz)
 obtain ⟨o0, g0, e0, k0⟩ := ahN (hn n0 (by simp))
 obtain ⟨o1, g1, e1, k1⟩ := ahN (hn n1 (by simp))
 obtain ⟨o2, g2, e2, k2⟩ := ahN (hn n2 (by simp))
 obtain ⟨o3, g3, e3, k3⟩ := ahN (hn n3 (by simp))
 obtain ⟨c0, d0, v0⟩ := acu (hn n0 (by simp)) k0
 obtain ⟨c1, d1, v1⟩ := acu (hn n1 (by simp)) k1
 obtain ⟨c2, d2, v2⟩ := acu (hn n2 (by simp)) k2
 obtain ⟨c3, d3, v3⟩ := acu (hn n3 (by simp)) k3
 obtain ⟨m1, m2⟩ := ah3 m hmm
 obtain ⟨z1, z2⟩ := ag0 z hzm
 obtain ⟨w0, l0, ew0⟩ := aba (w := b) (k := 16) (by decide)
 obtain ⟨w1, l1, ew1⟩ := aba (w := Int.fdiv b 16) (k := 16) (by decide)
 obtain ⟨w2, l2, ew2⟩ := aba (w := Int.fdiv b 256) (k := 16) (by decide)
 refine z0 ?_
 refine ⟨⟨scr xs, a, b, p, Int.fdiv b 4096, [y0, y1, y2, y3], n0, n1, n2, n3, m, z, o0, o1, o2, o3, g0, g1, g2, g3, w0, w1, w2⟩, ⟨c0, c1, c2, c3, d0, d1, d2, d3, v0, v1, v2, v3, lt0, lt1, lt2, m1, m2, z1, z2, l0, l1, l2, e0, e1, e2, e3, ew0, ew1, ew2⟩, rfl, fun {rest r} h => ?_⟩
 refine aaa amL ?_
 refine aaa s1 ?_
 refine aaa s2 ?_
 refine aaa s3 ?_
 refine aaa s4 ?_
 refine aaa s5 ?_
 refine aaa s6 ?_
 refine aaa s7 ?_
 refine aaa s8 ?_
 refine aaa s9 ?_
 exact aaa s10 h
noncomputable def scrSl (xs : List Int) : List (Str × Slot) := [("script", .val (.list (scr xs)))]
theorem aie {xs : List Int} (hl : xs.length ≤ 63) : runDef (GF (lv 4)) 20 dLaw [.list (scr xs)] [] = some (.bool true, .list []) := by
 refine hid fun z0 => ?_
 obtain ⟨H, K, hcs, hhead⟩ := aid hl
 obtain ⟨ρ, hend⟩ := aj8 K hcs hl
 have hmid := hhead (aj7 K hend)
 have hbody : dLaw.body = [lawS 0, lawS 1, lawS 2, lawS 3, lawS 4, lawS 5, lawS 6, lawS 7, lawS 8, lawS 9, lawS 10, lawS 11, lawS 12, lawS 13, lawS 14, lawS 15, lawS 16, lawS 17, lawS 18, lawS 19, lawS 20, lawS 21, lawS 22, lawS 23, lawS 24, lawS 25, lawS 26, lawS 27, lawS 28, lawS 29, lawS 30] := by ext
 have hfix : fixCE ⟨dLaw.scope, scrSl xs ++ bindKo dLaw.ko []⟩ = V0 (scr xs) [] := by ext
 have hb : bindPos dLaw.bor dLaw.ps [.list (scr xs)] dLaw.dflt = some (scrSl xs) := by ext
 have hko : kwFit dLaw.ko [] = true := by ext
 have hlb : lentBack dLaw ρ = some (.list []) := rfl
 refine z0 ?_
 refine aak hko hb (ρ := ρ) ?_ hlb
 rw [hfix, hbody]
 exact hmid
end
section
open PySem PySem.W
noncomputable def hBad : Str × Arguments × List Stmt × Scope := (Str.empty, ⟨[], [], none, [], [], none, []⟩, [], ⟨.module, [], false, false, []⟩)
noncomputable def hSt (i : Nat) : Str × Arguments × List Stmt × Scope := match p2.main.body[i]? with
 | some (.FunctionDef n a b _ _ _ sc _ _ _) => (n, a, b, sc)
 | _ => hBad
noncomputable def hS (s : String) (t : Nat) : Value := .str (Str.ofString s) t
noncomputable def hFld (c : Value) (vs : List Value) : Obj := { cls := c, data := .fields vs.toArray }
noncomputable def hTup (vs : List Value) : Obj := { cls := .type "tuple", data := .seq vs.toArray }
noncomputable def hE (P : Params) (x : String × Nat × Value) : DictEntry := ⟨PyData.keyHash P (Str.ofString x.1), hS x.1 x.2.1, x.2.2⟩
noncomputable def hDict (P : Params) (es : List (String × Nat × Value)) : Obj := { cls := .type "dict", data := .dict (es.map (hE P)).toArray es.length }
def hFn (i : Nat) (g : Addr) (dv kv pm cd : Value) : FuncData := match hSt i with
 | (n, a, b, sc) => { name := n, qualname := n, params := a, body := .stmts b, scope := sc, globals := g, closure := [], defaults := dv, kwdefaults := kv, pyModule := pm, code := cd }
def hNm (i : Nat) : Str := (hSt i).1
noncomputable def hStrs : List String -> Nat -> List Value
 | [], _ => []
 | s :: r, t => hS s t :: hStrs r (t + 1)
def hCo (i b t line na nk fl : Nat) (va vb fr : Value) (n : Nat) : Obj := hFld (.type "code") [.str (hNm i) t, .str (hNm i) (t + 1), hS "/claim/cut.py" (t + 2), .int line 0, .int na 0, .int 0 0, .int nk 0, .int fl 0, .ref b, .bool true, .int 181 0, .ref (b + 1), .none, va, vb, fr, .int (t + 3 + n : Nat) 0, .int line 0, hS "/claim/cut.py" (t + 4 + n)]
def hD (i b t line na nk fl : Nat) (pm : Value) (vs ws : List String) : List Obj := [hTup [], hFld .none [], hTup (hStrs vs (t + 3)), hTup (hStrs ws (t + 3 + vs.length)), { cls := .none, data := .func (hFn i 0 .none .none .none .none) }, hCo i b t line na nk fl (.ref (b + 2)) (.ref (b + 3)) (.ref (b + 4)) (vs.length + ws.length), { cls := .type "function", data := .func (hFn i 3 .none .none pm (.ref (b + 5))) }]
def hDL (i b t line na nk fl : Nat) (pm : Value) (_ _ : List String) : List Obj := [hTup [], hFld .none [], { cls := .none, data := .func (hFn i 0 .none .none .none .none) }, hCo i b t line na nk fl .none .none (.ref (b + 2)) 0, { cls := .type "function", data := .func (hFn i 3 .none .none pm (.ref (b + 3))) }]
def hDD (P : Params) (i b t line na nk fl : Nat) (pm : Value) (vs ws : List String) : List Obj := [hTup [.int 0 (t - 2), .none], hDict P [("key", t - 1, .none)], hTup [], hFld .none [], hTup (hStrs vs (t + 3)), hTup (hStrs ws (t + 3 + vs.length)), { cls := .none, data := .func (hFn i 0 .none .none .none .none) }, hCo i b t line na nk fl (.ref (b + 2)) (.ref (b + 3)) (.ref (b + 4)) (vs.length + ws.length), { cls := .type "function", data := .func (hFn i 3 (.ref (b - 2)) (.ref (b - 1)) pm (.ref (b + 5))) }]
noncomputable def hC (k v t : Nat) : List String -> List (String × Nat × Value)
 | [] => []
 | s :: r => (s, k, .int v t) :: hC (k + 2) (v + 1) (t + 2) r
noncomputable def hSet : List (Int × Nat) := [(65024, 277), (65025, 278), (65026, 279), (65027, 280), (65028, 281), (65029, 282), (6150, 263), (65030, 283), (65031, 284), (65032, 285), (65033, 286), (6155, 264), (6156, 265), (6157, 266), (8203, 267), (8204, 268), (8205, 269), (65034, 287), (65035, 288), (65036, 289), (65037, 290), (65038, 291), (65039, 292), (173, 261), (847, 262), (8288, 270), (65279, 271)]
noncomputable def hN : List (String × Nat × Value) := [("insort_right", 201, .ref 23), ("bisect_right", 215, .ref 32), ("insort_left", 228, .ref 41), ("bisect_left", 242, .ref 50), ("ELLIPSIS_MARKER", 246, hS "..." 245), ("_ellipsis_match", 258, .ref 57), ("b1_set", 320, .ref 65), ("in_table_b1", 327, .ref 75)] ++ hC 329 7 328 ["LPAR", "RPAR", "LSQB", "RSQB", "COLON", "COMMA", "SEMI", "PLUS", "MINUS", "STAR", "SLASH", "VBAR", "AMPER", "LESS", "GREATER", "EQUAL", "DOT", "PERCENT", "LBRACE", "RBRACE", "EQEQUAL", "NOTEQUAL", "LESSEQUAL", "GREATEREQUAL", "TILDE", "CIRCUMFLEX", "LEFTSHIFT", "RIGHTSHIFT", "DOUBLESTAR", "PLUSEQUAL", "MINEQUAL", "STAREQUAL", "SLASHEQUAL", "PERCENTEQUAL", "AMPEREQUAL", "VBAREQUAL", "CIRCUMFLEXEQUAL", "LEFTSHIFTEQUAL", "RIGHTSHIFTEQUAL", "DOUBLESTAREQUAL", "DOUBLESLASH", "DOUBLESLASHEQUAL", "AT", "ATEQUAL", "RARROW", "ELLIPSIS", "COLONEQUAL", "EXCLAMATION"] ++ [("EXACT_TOKEN_TYPES", 520, .ref 76), ("_law_operators", 529, .ref 85), ("_law_unseen", 537, .ref 92), ("_law_beside", 545, .ref 99), ("_law_read", 556, .ref 106), ("_law_asked", 566, .ref 113), ("_law_lay", 577, .ref 120), ("_law_placings", 593, .ref 127), ("_law_told_of_dots", 610, .ref 134), ("_law_keeps", 623, .ref 141), ("law", 629, .ref 146)]
noncomputable def hBoot9 : List (String × Nat × Value) := [("__doc__", 166, .none), ("__package__", 167, .none), ("__loader__", 168, .builtin "__main__.__loader__#opaque"), ("__spec__", 169, .none), ("__annotations__", 170, .ref 6), ("__builtins__", 171, .ref 4), ("__file__", 173, hS "/claim/cut.py" 172), ("__cached__", 174, .none)]
def hMain (P : Params) (n : Nat) (nm : Value) (ep : Nat) : Obj := { cls := .type "dict", data := .dict ((("__name__", 165, nm) :: hBoot9 ++ hN.take n).map (hE P)).toArray ep }
noncomputable def hEnv : Env := { scope := p2.main.scope, locals := mainNs, globals := mainNs, cells := [], code := .ref 13, frame := some 14 }
noncomputable def hCode : Code := .body (behindTheImports p2) hEnv
noncomputable def hAnn : Option Value := some (.ref 6)
noncomputable def hTab (n : Nat) : Obj := hFld .none (([(2, 22), (8, 31), (28, 40), (34, 49), (56, 56), (86, 74), (138, 84), (141, 91), (144, 98), (147, 105), (161, 112), (165, 119), (169, 126), (182, 133), (191, 140), (198, 145)].take n).flatMap fun x => [.int x.1 0, .int 0 0, .ref x.2])
noncomputable def hEtt : List (String × Nat × Value) := [("!", 424, .int 54 422), ("!=", 426, .int 28 370), ("%", 428, .int 24 362), ("%=", 430, .int 40 394), ("&", 432, .int 19 352), ("&=", 434, .int 41 396), ("(", 436, .int 7 328), (")", 438, .int 8 330), ("*", 440, .int 16 346), ("**", 442, .int 35 384), ("**=", 444, .int 46 406), ("*=", 446, .int 38 390), ("+", 448, .int 14 342), ("+=", 450, .int 36 386), (",", 452, .int 12 338), ("-", 454, .int 15 344), ("-=", 456, .int 37 388), ("->", 458, .int 51 416), (".", 460, .int 23 360), ("...", 462, .int 52 418), ("/", 464, .int 17 348), ("//", 466, .int 47 408), ("//=", 468, .int 48 410), ("/=", 470, .int 39 392), (":", 472, .int 11 336), (":=", 474, .int 53 420), (";", 476, .int 13 340), ("<", 478, .int 20 354), ("<<", 480, .int 33 380), ("<<=", 482, .int 44 402), ("<=", 484, .int 29 372), ("=", 486, .int 22 358), ("==", 488, .int 27 368), (">", 490, .int 21 356), (">=", 492, .int 30 374), (">>", 493, .int 34 382), (">>=", 494, .int 45 404), ("@", 495, .int 49 412), ("@=", 496, .int 50 414), ("[", 497, .int 9 332), ("]", 498, .int 10 334), ("^", 499, .int 32 378), ("^=", 500, .int 43 400), ("{", 501, .int 25 364), ("|", 502, .int 18 350), ("|=", 503, .int 42 398), ("}", 504, .int 26 366), ("~", 505, .int 31 376)]
def hR1 (P : Params) : List Obj := hDD P 1 17 191 2 4 1 3 (hS "cpy313.bisect" 187) ["a", "x", "lo", "hi", "key"] [] ++ hDD P 2 26 204 8 4 1 3 (hS "cpy313.bisect" 187) ["a", "x", "lo", "hi", "key", "mid"] [] ++ hDD P 3 35 218 28 4 1 3 (hS "cpy313.bisect" 187) ["a", "x", "lo", "hi", "key"] [] ++ hDD P 4 44 231 34 4 1 3 (hS "cpy313.bisect" 187) ["a", "x", "lo", "hi", "key", "mid"] [] ++ hD 7 51 247 56 2 0 3 (hS "cpy313.doctest" 243) ["want", "got", "ws", "startpos", "endpos", "w"] []
def hR2 (P : Params) : List Obj := hR1 P ++ [{ cls := .type "list", data := .seq [.int 173 261, .int 847 262, .int 6150 263, .int 6155 264, .int 6156 265, .int 6157 266, .int 8203 267, .int 8204 268, .int 8205 269, .int 8288 270, .int 65279 271].toArray }, { cls := .type "range", data := .fields [.int 65024 272, .int 65040 273, .int 1 274].toArray }, { cls := .type "list", data := .seq [.int 65024 277, .int 65025 278, .int 65026 279, .int 65027 280, .int 65028 281, .int 65029 282, .int 65030 283, .int 65031 284, .int 65032 285, .int 65033 286, .int 65034 287, .int 65035 288, .int 65036 289, .int 65037 290, .int 65038 291, .int 65039 292].toArray 18 }, { cls := .type "range_iterator", data := .fields [.int 65040 0, .int 0 0, .int 1 0].toArray }, { cls := .type "tuple", data := .seq [].toArray }, { cls := .type "StopIteration", data := .fields [.ref 62, .none, .none, .none, .bool false, .none].toArray }, { cls := .type "list", data := .seq [.int 173 261, .int 847 262, .int 6150 263, .int 6155 264, .int 6156 265, .int 6157 266, .int 8203 267, .int 8204 268, .int 8205 269, .int 8288 270, .int 65279 271, .int 65024 277, .int 65025 278, .int 65026 279, .int 65027 280, .int 65028 281, .int 65029 282, .int 65030 283, .int 65031 284, .int 65032 285, .int 65033 286, .int 65034 287, .int 65035 288, .int 65036 289, .int 65037 290, .int 65038 291, .int 65039 292].toArray }, { cls := .type "set", data := .set (hSet.map fun x => (x.1, .int x.1 x.2)).toArray 29 { mask := 127, place := [0, 1, 2, 3, 4, 5, 6, 7, 8, 9, 10, 11, 12, 13, 14, 15, 16, 17, 18, 19, 20, 21, 22, 45, 79, 96, 127].toArray, dummies := [].toArray, finger := 0, led := !P.followText "set-order", moves := 2, plain := true } }, { cls := .type "list_iterator", data := .fields [.none, .int 27 0].toArray }, { cls := .type "tuple", data := .seq [].toArray }, { cls := .type "StopIteration", data := .fields [.ref 67, .none, .none, .none, .bool false, .none].toArray }]
def hR3 (P : Params) : List Obj := hR2 P ++ hD 10 69 321 86 1 0 3 (hS "cpy313.stringprep" 259) ["code"] []
def hR4 (P : Params) : List Obj := hR3 P ++ [hDict P hEtt, hDict P ((hEtt.drop 17).take 17), hDict P ((hEtt.drop 34).take 14)]
def hR5 (P : Params) : List Obj := hR4 P ++ hD 61 79 523 138 0 0 3 (hS "law_uk0005_02" 521) ["told"] [] ++ hD 62 86 530 141 1 0 3 (hS "law_uk0005_02" 521) ["which", "signs"] [] ++ hD 63 93 538 144 1 0 3 (hS "law_uk0005_02" 521) ["which", "signs"] [] ++ hD 64 100 546 147 1 0 3 (hS "law_uk0005_02" 521) ["text", "numbers", "piece", "sign", "held"] [] ++ hD 65 107 557 161 3 0 3 (hS "law_uk0005_02" 521) ["want", "got", "said", "answer"] [] ++ hD 66 114 567 165 4 0 3 (hS "law_uk0005_02" 521) ["row", "cell", "floor", "by_left"] ["floor"] ++ hD 67 121 578 169 2 0 3 (hS "law_uk0005_02" 521) ["cells", "by_left", "grown", "cell", "older", "row", "floor", "level", "new_row", "new_floor"] [] ++ hD 68 128 594 182 4 0 3 (hS "law_uk0005_02" 521) ["text", "cell", "other", "said", "whole", "two", "mark", "cases", "want", "got", "due"] [] ++ hD 69 135 611 191 3 0 3 (hS "law_uk0005_02" 521) ["chains", "floor", "strictly", "chain", "k", "low", "high"] [] ++ hDL 70 142 624 198 1 0 3 (hS "law_uk0005_02" 521) [] []
noncomputable def hp (m t : Obj) (r : List Obj) (P : Params) : Heap := ⟨(boot_o_0 P :: boot_o_1 P :: boot_o_2 P :: m :: boot_o_4 P :: boot_o_5 P :: boot_o_6 P :: boot_o_7 P :: boot_o_8 P :: boot_o_9 P :: boot_o_10 P :: { cls := .type "tuple", data := .seq [].toArray } :: t :: { cls := .type "code", data := .fields [hS "<module>" 182, hS "<module>" 183, hS "/claim/cut.py" 184, .int 1 0, .int 0 0, .int 0 0, .int 0 0, .int 0 0, .ref 11, .bool false, .int 181 0, .ref 12, .none, .none, .none, .none, .int 185 0, .int 1 0, hS "/claim/cut.py" 186].toArray } :: { cls := .type "frame", data := .plain, slots := [some (.ref 13), some (.ref 3), some (.ref 3), none, some (hS "__main__" 164), none, some (.ref 0)].toArray } :: r).toArray, {}⟩
noncomputable def h0 (P : Params) : Heap := hp (hMain P 0 (hS "__main__" 164) 9) (hTab 0) [] P
noncomputable def h1 (P : Params) : Heap := hp (hMain P 6 (hS "cpy313.stringprep" 259) 15) (hTab 5) (hR1 P) P
noncomputable def h2 (P : Params) : Heap := hp (hMain P 7 (hS "cpy313.stringprep" 259) 16) (hTab 5) (hR2 P) P
noncomputable def h3 (P : Params) : Heap := hp (hMain P 56 (hS "cpy313.stringprep" 259) 65) (hTab 6) (hR3 P) P
noncomputable def h4 (P : Params) : Heap := hp (hMain P 57 (hS "cpy313.stringprep" 259) 66) (hTab 6) (hR4 P) P
noncomputable def h5 (P : Params) : Heap := hp (hMain P 67 (hS "law_uk0005_02" 521) 76) (hTab 16) (hR5 P) P
noncomputable def hL1 : List Stmt := (p2.main.body.drop 0).take 9
noncomputable def hL2 : List Stmt := (p2.main.body.drop 9).take 1
noncomputable def hL3 : List Stmt := (p2.main.body.drop 10).take 49
noncomputable def hL4 : List Stmt := (p2.main.body.drop 59).take 1
noncomputable def hL5 : List Stmt := (p2.main.body.drop 60).take 11
set_option tactic.hygienic true
theorem seg1 : ∀ (w : World) (os : OsState), segRun treeTable p2 w 11 hAnn 1 233 ⟨h0 w.params, #[], {}, 187, os⟩ (piecesOf hL1 hEnv hCode ⟨0, 0, 0, 0⟩ [topFrame ⟨0, 0, 0, 0⟩]) = some (.next, ⟨h1 w.params, #[], {}, 261, os⟩, hCode, ⟨84, 0, 84, 8⟩) := by
 intro w os
 rw [Fast.te14374325043358763698, Fast.te14364793385576792824]
 ext
theorem seg3 : ∀ (w : World) (os : OsState), segRun treeTable p2 w 11 hAnn 1 462 ⟨h2 w.params, #[], {}, 321, os⟩ (piecesOf hL3 hEnv hCode ⟨85, 0, 85, 6⟩ [topFrame ⟨0, 0, 0, 0⟩]) = some (.next, ⟨h3 w.params, #[], {}, 424, os⟩, hCode, ⟨135, 0, 135, 11⟩) := by
 intro w os
 rw [Fast.te14374325043358763698, Fast.te14364793385576792824]
 ext
theorem seg5 : ∀ (w : World) (os : OsState), segRun treeTable p2 w 11 hAnn 1 335 ⟨h4 w.params, #[], {}, 521, os⟩ (piecesOf hL5 hEnv hCode ⟨136, 0, 136, 17⟩ [topFrame ⟨0, 0, 0, 0⟩]) = some (.next, ⟨h5 w.params, #[], {}, 630, os⟩, hCode, ⟨198, 0, 256, 90⟩) := by
 intro w os
 rw [Fast.te14374325043358763698, Fast.te14364793385576792824]
 ext
theorem seg2 : ∀ (w : World) (os : OsState), segRun treeTable p2 w 11 hAnn 1 999 ⟨h1 w.params, #[], {}, 261, os⟩ (piecesOf hL2 hEnv hCode ⟨84, 0, 84, 8⟩ [topFrame ⟨0, 0, 0, 0⟩]) = some (.next, ⟨h2 w.params, #[], {}, 321, os⟩, hCode, ⟨85, 0, 85, 6⟩) :=
 byRow2 "special-get-raises" (by
 intro w os
 rw [Fast.te14374325043358763698, Fast.te14364793385576792824]
 kernel_rfl) (by
 intro w os
 rw [Fast.te14374325043358763698, Fast.te14364793385576792824]
 kernel_rfl)
theorem seg4 : ∀ (w : World) (os : OsState), segRun treeTable p2 w 11 hAnn 1 979 ⟨h3 w.params, #[], {}, 424, os⟩ (piecesOf hL4 hEnv hCode ⟨135, 0, 135, 11⟩ [topFrame ⟨0, 0, 0, 0⟩]) = some (.next, ⟨h4 w.params, #[], {}, 521, os⟩, hCode, ⟨136, 0, 136, 17⟩) :=
 byRow2 "special-get-raises" (by
 intro w os
 rw [Fast.te14374325043358763698, Fast.te14364793385576792824]
 kernel_rfl) (by
 intro w os
 rw [Fast.te14374325043358763698, Fast.te14364793385576792824]
 kernel_rfl)
set_option tactic.hygienic false
theorem hPre (w : World) (os : OsState) : topGo treeTable p2 w 11 hAnn 12 ⟨boot_heap w.params, #[], boot_drawn, boot_toks, os⟩ (topStub p2) = some (⟨h0 w.params, #[], {}, 187, os⟩, ⟨denote treeTable hCode, hCode, ⟨0, 0, 0, 0⟩, [topFrame ⟨0, 0, 0, 0⟩]⟩) := by
 rw [Fast.te15667345088766844465, Fast.te14364793385576792824, Fast.te11892475500146522536]
 ext
set_option tactic.hygienic true
theorem hBlk (w : World) (os : OsState) : segRun treeTable p2 w 11 hAnn 1 1 ⟨h0 w.params, #[], {}, 187, os⟩ (blockOf (behindTheImports p2) hEnv hCode ⟨0, 0, 0, 0⟩ [topFrame ⟨0, 0, 0, 0⟩]) = some (.next, ⟨h0 w.params, #[], {}, 187, os⟩, hCode, ⟨0, 0, 0, 0⟩) := by
 rw [Fast.te14374325043358763698, Fast.te14364793385576792824]
 ext
theorem hFin (w : World) (os : OsState) : topRun treeTable p2 w 11 hAnn 2 ⟨h5 w.params, #[], {}, 630, os⟩ ⟨doneF .next, hCode, ⟨198, 0, 256, 90⟩, [topFrame ⟨0, 0, 0, 0⟩]⟩ = some ⟨h5 w.params, #[], {}, 630, os⟩ := by
 rw [Fast.te14082659384304107361, Fast.te14364793385576792824]
 ext
set_option tactic.hygienic false
theorem al6 : behindTheImports p2 = hL1 ++ (hL2 ++ (hL3 ++ (hL4 ++ (hL5 ++ [])))) := by ext
theorem hRun (w : World) (os : OsState) : topRun treeTable p2 w 11 hAnn (12 + (1 + (233 + (999 + (462 + (979 + (335 + 2))))))) ⟨boot_heap w.params, #[], boot_drawn, boot_toks, os⟩ (topStub p2) = some ⟨h5 w.params, #[], {}, 630, os⟩ := by
 have k : topRun treeTable p2 w 11 hAnn (233 + (999 + (462 + (979 + (335 + 2))))) ⟨h0 w.params, #[], {}, 187, os⟩ (restOf (hL1 ++ (hL2 ++ (hL3 ++ (hL4 ++ (hL5 ++ []))))) hEnv hCode ⟨0, 0, 0, 0⟩ [topFrame ⟨0, 0, 0, 0⟩]) = some ⟨h5 w.params, #[], {}, 630, os⟩ :=
  piece_app (seg1 w os) (piece_app (seg2 w os) (piece_app (seg3 w os) (piece_app (seg4 w os) (piece_app (seg5 w os) (piece_nil (hFin w os))))))
 rw [<- al6] at k
 exact go_top (hPre w os) (piece_block (hBlk w os) k)
theorem anb : ∀ w : World, (fencedOpening treeTable p2 w 8000).map (fun s => (s.heap, s.gens, s.drawn, s.toks)) = some (boot_heap w.params, Array.mk [], boot_drawn, boot_toks) :=
 boot_open (by ext) (by decide) (fun s => by ext)
theorem anc (w : World) : ((boot_heap w.params).isNs mainGlobals && (#[] : Array GenState).size == 0, (boot_heap w.params).objs.size, (boot_heap w.params).nsMap mainGlobals "__annotations__") = (true, 11, hAnn) := by
 rw [Fast.te8920871248978507458]
 ext
end
section
open PySem PySem.W PySem.Calls PyProof.Rows
noncomputable def hQ : Program := { p2 with main := { p2.main with body := (p2.main.body.drop 70).take 1 } }
def hLoose : List Str := (hN.take 66).map fun x => Str.ofString x.1
set_option tactic.hygienic false
theorem al7 (w : World) (os : OsState) : (staticsOk (importedModules p2.main.body) (boot_heap w.params) (h5 w.params) && namesBound p2 (h5 w.params) && gensDone ⟨h5 w.params, #[], {}, 630, os⟩ && laidKept (boot_heap w.params) (h5 w.params)) = true := by
 unfold staticsOk namesBound laidKept
 rw [Fast.te8920871248978507458, Fast.te5923862056798008813]
 ext
theorem al8 (w : World) (os : OsState) : openSeen hQ hLoose (importedModules p2.main.body) (fun _ => true) true ⟨h5 w.params, #[], {}, 630, os⟩ = openGood hQ hLoose := by
 rw [Fast.te4187177175401517315, Fast.te5923862056798008813]
 ext
theorem ane : LeftO p2 hQ hLoose (fun _ => true) (fun s => s.heap) (fun w => h5 w.params) 8000 true :=
 LeftO.of_pieces (m₀ := 11) (ann := hAnn) anb anc hRun (by decide) fun w => funext fun os => by
  show (_, _, _) = _
  rw [al7 w os, al8 w os]
end
section
open PySem PySem.Calls PyProof.Rows
section
variable {W : Wd} {F : FH} {h : Heap} {la : Addr}
set_option tactic.hygienic false
theorem aj9 {o o' : CO} (e : coOf (CO.cv o) = some o') : o = o' := by cases o <;> (cases e; rfl)
theorem BindR.app : ∀ {l l' : List (Str × Slot)} {b b' : List (Str × Value)}, BindR W F h la l b -> BindR W F h la l' b' -> BindR W F h la (l ++ l') (b ++ b')
 | [], l', b, b', x, y => by obtain rfl : b = [] := x; exact y
 | (p, sl) :: l, l', b, b', ⟨v, r, e, q, x⟩, y => ⟨v, r ++ b', by rw [e]; rfl, q, BindR.app x y⟩
def BpR (W : Wd) (F : FH) (h : Heap) (la : Addr) (dv : Str -> Value) (d : List (Str × CV)) (ps : List Str) (vs : List Value) (l : List (Str × Slot)) : Prop :=
 vs.length ≤ ps.length ∧ (∀ p ∈ ps.drop vs.length, (d.lookup p).isSome = true) ∧ BindR (W.lend (some la)) F h la l (ps.zip (vs ++ (ps.drop vs.length).map dv))
theorem adj {dv : Str -> Value} {d : List (Str × CV)} : ∀ {ps : List Str} {b : Option Nat} {l : List (Str × Slot)}, (∀ p ∈ ps, ∀ c, d.lookup p = some c -> RV W.prog W.w F c (dv p)) -> bindPos b ps [] d = some l -> BpR W F h la dv d ps [] l
 | [], b, l, _, hb => by cases hb; exact ⟨Nat.le_refl _, fun _ q => (nomatch q), rfl⟩
 | p :: ps, b, l, hd, hb => by
  refine hid fun ng => ?_
  refine D.el1 (.opt (d.lookup p) fun c => .opt (bindPos none ps [] d) fun l => .ret ((p, .val c) :: l)) hb (C := fun l => ¬BpR W F h la dv d _ [] l) ng fun c hc l' hl' ng => ?_
  obtain ⟨_, i1, i2⟩ := adj (fun q m => hd q (.tail _ m)) hl'
  refine ng ⟨Nat.zero_le _, fun q hq => ?_, dv p, _, rfl, hd p (.head _) c hc, i2⟩
  rcases List.mem_cons.mp hq with rfl | hq
  · rw [hc]; rfl
  · exact i1 q hq
theorem abD {dv : Str -> Value} {d : List (Str × CV)} : ∀ {b : Option Nat} {ps : List Str} {cs : List CV} {l : List (Str × Slot)} {vs : List Value},
 (∀ p ∈ ps, ∀ c, d.lookup p = some c -> RV W.prog W.w F c (dv p)) -> bindPos b ps cs d = some l -> ArgsR W F h b la cs vs -> BpR W F h la dv d ps vs l
 | b, ps, [], l, vs, hd, hb, ha => by
  obtain rfl : vs = [] := match b with
   | none => ha
   | some 0 => ha.elim
   | some (_ + 1) => ha.elim
  exact adj hd hb
 | b, [], c :: cs, l, vs, hd, hb, ha => aab hb
 | some 0, p :: ps, c :: cs, l, vs, hd, hb, ha => by
  refine hid fun ng => ?_
  obtain ⟨o, r, rfl, rfl, ho, hr⟩ := ha
  refine D.el1 (.opt (coOf (CO.cv o)) fun o => .opt (bindPos none ps cs d) fun l => .ret ((p, .bor o) :: l)) hb (C := fun l => ¬BpR W F h la dv d _ _ l) ng fun o' ho' l' hl' ng => ?_
  obtain ⟨i1, i2, i3⟩ := abD (fun q m => hd q (.tail _ m)) (b := none) (vs := r) hl' (.of hr)
  refine ng ⟨Nat.succ_le_succ i1, i2, .ref la, _, rfl, ?_, i3⟩
  obtain rfl := aj9 ho'
  exact ⟨rfl, ho, rfl⟩
 | some (i + 1), p :: ps, c :: cs, l, vs, hd, hb, ha => by
  refine hid fun ng => ?_
  obtain ⟨v, r, rfl, hv, hr⟩ := ha
  refine D.el1 (.opt (bindPos (some i) ps cs d) fun l => .ret ((p, .val c) :: l)) hb (C := fun l => ¬BpR W F h la dv d _ _ l) ng fun l' hl' ng => ?_
  obtain ⟨i1, i2, i3⟩ := abD (fun q m => hd q (.tail _ m)) (b := some i) (vs := r) hl' hr
  exact ng ⟨Nat.succ_le_succ i1, i2, v, _, rfl, hv, i3⟩
 | none, p :: ps, c :: cs, l, vs, hd, hb, ha => by
  refine hid fun ng => ?_
  obtain ⟨v, r, rfl, hv, hr⟩ := ha
  refine D.el1 (.opt (bindPos none ps cs d) fun l => .ret ((p, .val c) :: l)) hb (C := fun l => ¬BpR W F h la dv d _ _ l) ng fun l' hl' ng => ?_
  obtain ⟨i1, i2, i3⟩ := abD (fun q m => hd q (.tail _ m)) (b := none) (vs := r) hl' (.of hr)
  exact ng ⟨Nat.succ_le_succ i1, i2, v, _, rfl, hv, i3⟩
theorem aau {d : List (Str × CV)} {b : Option Nat} {ps : List Str} {cs : List CV} {l : List (Str × Slot)} {vs : List Value} {kvs : List (Str × CV)} {kws : List (Str × Value)} {s : Shared} {fd : FuncData} (hn : ∀ p ∈ ps, d.lookup p = none)
 (hb : bindPos b ps cs d = some l) (ha : ArgsR W F s.heap b la cs vs) (hf : kwFit [] kvs = true) (hk : KwsR W F kvs kws)
 (e : vs.length = ps.length -> bindArgs fd ⟨vs, []⟩ = pure (ps.zip vs)) : ∃ binds, BindsTo s fd ⟨vs, kws⟩ binds ∧ BindR (W.lend (some la)) F s.heap la (l ++ bindKo [] kvs) binds := by
 obtain rfl : kvs = [] := by
  rcases kvs with _ | ⟨⟨k, c⟩, _ | ⟨y, r⟩⟩
  · rfl
  · cases hf
  · cases hf
 obtain rfl : kws = [] := hk
 obtain ⟨i1, i2, i3⟩ := abD (h := s.heap) (la := la) (dv := fun _ => .none) (fun p m c q => by rw [hn p m] at q; cases q) hb ha
 have hl : vs.length = ps.length := by
  cases hd : ps.drop vs.length with
  | nil => exact Nat.le_antisymm i1 (List.drop_eq_nil_iff.mp hd)
  | cons p r => have := i2 p (by rw [hd]; exact .head _); rw [hn p (List.mem_of_mem_drop (by rw [hd]; exact .head _))] at this; cases this
 rw [hl, List.drop_length, List.map_nil, List.append_nil] at i3
 refine ⟨ps.zip vs, .of_eq (e hl), ?_⟩
 show BindR _ _ _ _ (l ++ []) _
 rw [List.append_nil]
 exact i3
noncomputable def nmLo : Str := "lo"
noncomputable def nmHi : Str := "hi"
noncomputable def nmKey : Str := "key"
theorem acv {d : List (Str × CV)} {b : Option Nat} {p q : Str} {cs : List CV} {l : List (Str × Slot)} {vs : List Value} {kvs : List (Str × CV)} {kws : List (Str × Value)} {s : Shared} {fd : FuncData} {dl : Value}
 (hp : d.lookup p = none) (hq : d.lookup q = none) (hd : ∀ x c, d.lookup x = some c -> RV W.prog W.w F c (if x = nmLo then dl else .none))
 (hb : bindPos b [p, q, nmLo, nmHi] cs d = some l) (ha : ArgsR W F s.heap b la cs vs) (hf : kwFit [(nmKey, .none)] kvs = true) (hk : KwsR W F kvs kws)
 (e2 : ∀ u v, BindsTo s fd ⟨[u, v], []⟩ [(p, u), (q, v), (nmLo, dl), (nmHi, .none), (nmKey, .none)] ∧ ∀ k, BindsTo s fd ⟨[u, v], [(nmKey, k)]⟩ [(p, u), (q, v), (nmLo, dl), (nmHi, .none), (nmKey, k)])
 (e3 : ∀ u v x, BindsTo s fd ⟨[u, v, x], []⟩ [(p, u), (q, v), (nmLo, x), (nmHi, .none), (nmKey, .none)] ∧ ∀ k, BindsTo s fd ⟨[u, v, x], [(nmKey, k)]⟩ [(p, u), (q, v), (nmLo, x), (nmHi, .none), (nmKey, k)])
 (e4 : ∀ u v x y, BindsTo s fd ⟨[u, v, x, y], []⟩ [(p, u), (q, v), (nmLo, x), (nmHi, y), (nmKey, .none)] ∧ ∀ k, BindsTo s fd ⟨[u, v, x, y], [(nmKey, k)]⟩ [(p, u), (q, v), (nmLo, x), (nmHi, y), (nmKey, k)]) :
 ∃ binds, BindsTo s fd ⟨vs, kws⟩ binds ∧ BindR (W.lend (some la)) F s.heap la (l ++ bindKo [(nmKey, .none)] kvs) binds := by
 obtain ⟨i1, i2, i3⟩ := abD (h := s.heap) (la := la) (dv := fun x => if x = nmLo then dl else .none) (d := d) (fun x _ => hd x) hb ha
 have hlo : (if nmLo = nmLo then dl else Value.none) = dl := if_pos rfl
 have hhi : (if nmHi = nmLo then dl else Value.none) = .none := if_neg (by decide +kernel)
 have kb : (kws = [] ∧ bindKo [(nmKey, .none)] kvs = [(nmKey, .val .none)]) ∨ ∃ c k, kws = [(nmKey, k)] ∧ bindKo [(nmKey, .none)] kvs = [(nmKey, .val c)] ∧ RV W.prog W.w F c k := by
  rcases kvs with _ | ⟨⟨k, c⟩, _ | ⟨y, r⟩⟩
  · obtain rfl : kws = [] := hk
    exact .inl ⟨rfl, rfl⟩
  · obtain ⟨v, r, rfl, hv, hr⟩ := hk
    obtain rfl : r = [] := hr
    obtain rfl : nmKey = k := beq_iff_eq.mp ((Bool.or_false _).symm.trans hf)
    exact .inr ⟨c, v, rfl, rfl, hv⟩
  · cases hf
 have fin : ∀ {l : List (Str × Slot)} {bs : List (Str × Value)}, BindR (W.lend (some la)) F s.heap la l bs -> (BindsTo s fd ⟨vs, []⟩ (bs ++ [(nmKey, .none)]) ∧ ∀ k, BindsTo s fd ⟨vs, [(nmKey, k)]⟩ (bs ++ [(nmKey, k)])) ->
  ∃ binds, BindsTo s fd ⟨vs, kws⟩ binds ∧ BindR (W.lend (some la)) F s.heap la (l ++ bindKo [(nmKey, .none)] kvs) binds := fun hR hB => by
  rcases kb with ⟨rfl, e⟩ | ⟨c, k, rfl, e, hv⟩
  · exact ⟨_, hB.1, by rw [e]; exact hR.app ⟨.none, [], rfl, rfl, rfl⟩⟩
  · exact ⟨_, hB.2 k, by rw [e]; exact hR.app ⟨k, [], rfl, hv, rfl⟩⟩
 rcases vs with _ | ⟨u, _ | ⟨v, _ | ⟨x, _ | ⟨y, _ | ⟨z, r⟩⟩⟩⟩⟩
 · have := i2 p (.head _); rw [hp] at this; cases this
 · have := i2 q (.head _); rw [hq] at this; cases this
 · have i3 : BindR (W.lend (some la)) F s.heap la l [(p, u), (q, v), (nmLo, if nmLo = nmLo then dl else .none), (nmHi, if nmHi = nmLo then dl else .none)] := i3
   rw [hlo, hhi] at i3
   exact fin i3 (e2 u v)
 · have i3 : BindR (W.lend (some la)) F s.heap la l [(p, u), (q, v), (nmLo, x), (nmHi, if nmHi = nmLo then dl else .none)] := i3
   rw [hhi] at i3
   exact fin i3 (e3 u v x)
 · exact fin i3 (e4 u v x y)
 · exact absurd i1 (by simp)
end
end
section
open PySem PySem.W PySem.Calls PyProof.Rows
noncomputable def jF (P : Params) : FH := fun a => if a = 115 then none else (h5 P).get? a
set_option tactic.hygienic false
theorem al9 {P : Params} {a : Addr} {o : Obj} (h : jF P a = some o) : (h5 P).get? a = some o := by
 unfold jF at h
 split at h
 · cases h
 · exact h
noncomputable def jW (w : World) : Wd where
 prog := p2
 w := w
 F0 := jF w.params
 mg := (h5 w.params).nsMap mainGlobals
 mb := (h5 w.params).nsMap builtinsNs
 tabs := [(119, 115, hNm 66 ++ ".<locals>." ++ "<lambda>")]
 tabsNone := fun t ht => by obtain rfl := List.mem_singleton.mp ht; rfl
 tabsOne := fun t ht u hu _ => by obtain rfl := List.mem_singleton.mp ht; obtain rfl := List.mem_singleton.mp hu; rfl
 mods := ⟨boot_o_1 w.params, by ext⟩
 lent := none
noncomputable def codeOK (F : FH) (c : Addr) (q : Str) : Bool := match F c with
 | some o => (match o.data with
  | .fields vs => (match (vs : Array PySem.Value)[1]? with
   | some (PySem.Value.str s _) => s == q
   | _ => false)
  | _ => false)
 | none => false
theorem ama {d : PySem.Data} {f : Array PySem.Value -> Bool} (h : (match d with | .fields vs => f vs | _ => false) = true) : ∃ vs, d = .fields vs ∧ f vs = true := by
 cases d <;> first | exact ⟨_, rfl, h⟩ | cases h
theorem amb {o : Option PySem.Value} {q : Str} (h : (match o with | some (PySem.Value.str s _) => s == q | _ => false) = true) : ∃ t, o = some (.str q t) := by
 rcases o with _ | y
 · cases h
 cases y <;> first | (cases h; done) | skip
 obtain rfl := beq_iff_eq.mp h
 exact ⟨_, rfl⟩
theorem aaq {F : FH} {v : Value} {c : Addr} {q : Str} (e : v = .ref c) (h : codeOK F c q = true) : ∃ c oc vs t, v = .ref c ∧ F c = some oc ∧ oc.data = .fields vs ∧ vs[1]? = some (.str q t) := by
 unfold codeOK at h
 cases ho : F c with
 | none => rw [ho] at h; cases h
 | some o =>
  rw [ho] at h
  obtain ⟨vs, hv, h⟩ := ama h
  obtain ⟨t, hs⟩ := amb h
  exact ⟨c, o, vs, t, e, ho, hv, hs⟩
theorem aaw {ps : List Str} {names : List (Str × NameKind)} (h : (ps.all fun x => match names.lookup x with
 | some .local => true
 | some .cell => true
 | _ => false) = true) : ∀ x ∈ ps, names.lookup x = some .local ∨ names.lookup x = some .cell := fun x hx => by
 have := List.all_eq_true.mp h x hx
 exact acz this
theorem abv {ps : List Str} {d : List (Str × CV)} (h : (ps.all fun x => (d.lookup x).isNone) = true) : ∀ p ∈ ps, d.lookup p = none := fun p hp => Option.isNone_iff_eq_none.mp (List.all_eq_true.mp h p hp)
theorem vs0 {vs : List Value} (h : vs.length = 0) : vs = [] := List.length_eq_zero_iff.mp h
theorem vsC {vs : List Value} {n : Nat} (h : vs.length = n + 1) : ∃ a r, vs = a :: r ∧ r.length = n := by
 cases vs with
 | nil => cases h
 | cons a r => exact ⟨a, r, rfl, Nat.succ.inj h⟩
theorem vs1 {vs : List Value} (h : vs.length = 1) : ∃ a, vs = [a] := let ⟨a, r, e, h⟩ := vsC h; ⟨a, by rw [e, vs0 h]⟩
theorem vs2 {vs : List Value} (h : vs.length = 2) : ∃ a b, vs = [a, b] := let ⟨a, r, e, h⟩ := vsC h; let ⟨b, q⟩ := vs1 h; ⟨a, b, by rw [e, q]⟩
theorem vs3 {vs : List Value} (h : vs.length = 3) : ∃ a b c, vs = [a, b, c] := let ⟨a, r, e, h⟩ := vsC h; let ⟨b, c, q⟩ := vs2 h; ⟨a, b, c, by rw [e, q]⟩
theorem vs4 {vs : List Value} (h : vs.length = 4) : ∃ a b c d, vs = [a, b, c, d] := let ⟨a, r, e, h⟩ := vsC h; let ⟨b, c, d, q⟩ := vs3 h; ⟨a, b, c, d, by rw [e, q]⟩
set_option tactic.hygienic true
theorem in2 {h : Heap} {a b : Addr} {oa ob : Obj} (ha : h.get? a = some oa) (hb : h.get? b = some ob) : Frag.In [(a, oa), (b, ob)] h := fun c o e => by
 simp only [List.lookup_cons, List.lookup_nil] at e
 split at e
 · rename_i q; cases e; rw [beq_iff_eq.mp q]; exact ha
 · split at e
   · rename_i q; cases e; rw [beq_iff_eq.mp q]; exact hb
   · cases e
noncomputable def nmA : Str := "a"
noncomputable def nmX : Str := "x"
theorem dfl {W : Wd} {F : FH} (t : Nat) : ∀ x c, [(nmLo, CV.int 0), (nmHi, CV.none)].lookup x = some c -> RV W.prog W.w F c (if x = nmLo then .int 0 t else .none) := fun x c e => by
 simp only [List.lookup_cons, List.lookup_nil] at e
 split at e
 · rename_i q
   cases e
   rw [if_pos (beq_iff_eq.mp q)]
   exact ⟨t, rfl⟩
 · rename_i q
   split at e
   · cases e
     rw [if_neg (beq_eq_false_iff_ne.mp q)]
   · cases e
set_option tactic.hygienic false
theorem anf (w : World) : DefAt (jW w) dR 32 (hFn 2 3 (.ref 24) (.ref 25) (hS "cpy313.bisect" 187) (.ref 31)) where
 at_ := ⟨{ cls := .type "function", data := .func (hFn 2 3 (.ref 24) (.ref 25) (hS "cpy313.bisect" 187) (.ref 31)) }, by ext, rfl⟩
 body := by ext
 scope := by ext
 glo := by ext
 clo := by ext
 blt := by ext
 code := aaq (c := 31) (by ext) (by ext)
 lam := fun q => absurd q (by rw [show lamS dR.scope = false by ext]; decide)
 kind := by ext
 co := by ext
 gen := by ext
 nodup := by decide +kernel
 kinds := aaw (by ext)
 bind := fun cs kvs l vs kws F s la hf hb I ha hk => by
  have hko : dR.ko = [(nmKey, .none)] := by ext
  have hps : dR.ps = [nmA, nmX, nmLo, nmHi] := by ext
  have hdf : dR.dflt = [(nmLo, .int 0), (nmHi, .none)] := by ext
  rw [hko] at hf ⊢; rw [hps, hdf] at hb
  have X : Frag.In [(24, hTup [.int 0 202, .none]), (25, hDict w.params [("key", 203, .none)])] s.heap := in2 (I.heap0 _ _ (by ext)) (I.heap0 _ _ (by ext))
  refine acv (dl := .int 0 202) (by ext) (by ext) (dfl _) hb ha hf hk (fun u v => ⟨kp_binds X fun S => ?_, fun k => kp_binds X fun S => ?_⟩) (fun u v x => ⟨kp_binds X fun S => ?_, fun k => kp_binds X fun S => ?_⟩) (fun u v x y => ⟨kp_binds X fun S => ?_, fun k => kp_binds X fun S => ?_⟩) <;> ext
theorem ang (w : World) : DefAt (jW w) dL 50 (hFn 4 3 (.ref 42) (.ref 43) (hS "cpy313.bisect" 187) (.ref 49)) where
 at_ := ⟨{ cls := .type "function", data := .func (hFn 4 3 (.ref 42) (.ref 43) (hS "cpy313.bisect" 187) (.ref 49)) }, by ext, rfl⟩
 body := by ext
 scope := by ext
 glo := by ext
 clo := by ext
 blt := by ext
 code := aaq (c := 49) (by ext) (by ext)
 lam := fun q => absurd q (by rw [show lamS dL.scope = false by ext]; decide)
 kind := by ext
 co := by ext
 gen := by ext
 nodup := by decide +kernel
 kinds := aaw (by ext)
 bind := fun cs kvs l vs kws F s la hf hb I ha hk => by
  have hko : dL.ko = [(nmKey, .none)] := by ext
  have hps : dL.ps = [nmA, nmX, nmLo, nmHi] := by ext
  have hdf : dL.dflt = [(nmLo, .int 0), (nmHi, .none)] := by ext
  rw [hko] at hf ⊢; rw [hps, hdf] at hb
  have X : Frag.In [(42, hTup [.int 0 229, .none]), (43, hDict w.params [("key", 230, .none)])] s.heap := in2 (I.heap0 _ _ (by ext)) (I.heap0 _ _ (by ext))
  refine acv (dl := .int 0 229) (by ext) (by ext) (dfl _) hb ha hf hk (fun u v => ⟨kp_binds X fun S => ?_, fun k => kp_binds X fun S => ?_⟩) (fun u v x => ⟨kp_binds X fun S => ?_, fun k => kp_binds X fun S => ?_⟩) (fun u v x y => ⟨kp_binds X fun S => ?_, fun k => kp_binds X fun S => ?_⟩) <;> ext
theorem anh (w : World) : DefAt (jW w) iR 23 (hFn 1 3 (.ref 15) (.ref 16) (hS "cpy313.bisect" 187) (.ref 22)) where
 at_ := ⟨{ cls := .type "function", data := .func (hFn 1 3 (.ref 15) (.ref 16) (hS "cpy313.bisect" 187) (.ref 22)) }, by ext, rfl⟩
 body := by ext
 scope := by ext
 glo := by ext
 clo := by ext
 blt := by ext
 code := aaq (c := 22) (by ext) (by ext)
 lam := fun q => absurd q (by rw [show lamS iR.scope = false by ext]; decide)
 kind := by ext
 co := by ext
 gen := by ext
 nodup := by decide +kernel
 kinds := aaw (by ext)
 bind := fun cs kvs l vs kws F s la hf hb I ha hk => by
  have hko : iR.ko = [(nmKey, .none)] := by ext
  have hps : iR.ps = [nmA, nmX, nmLo, nmHi] := by ext
  have hdf : iR.dflt = [(nmLo, .int 0), (nmHi, .none)] := by ext
  rw [hko] at hf ⊢; rw [hps, hdf] at hb
  have X : Frag.In [(15, hTup [.int 0 189, .none]), (16, hDict w.params [("key", 190, .none)])] s.heap := in2 (I.heap0 _ _ (by ext)) (I.heap0 _ _ (by ext))
  refine acv (dl := .int 0 189) (by ext) (by ext) (dfl _) hb ha hf hk (fun u v => ⟨kp_binds X fun S => ?_, fun k => kp_binds X fun S => ?_⟩) (fun u v x => ⟨kp_binds X fun S => ?_, fun k => kp_binds X fun S => ?_⟩) (fun u v x y => ⟨kp_binds X fun S => ?_, fun k => kp_binds X fun S => ?_⟩) <;> ext
theorem ani (w : World) : DefAt (jW w) iL 41 (hFn 3 3 (.ref 33) (.ref 34) (hS "cpy313.bisect" 187) (.ref 40)) where
 at_ := ⟨{ cls := .type "function", data := .func (hFn 3 3 (.ref 33) (.ref 34) (hS "cpy313.bisect" 187) (.ref 40)) }, by ext, rfl⟩
 body := by ext
 scope := by ext
 glo := by ext
 clo := by ext
 blt := by ext
 code := aaq (c := 40) (by ext) (by ext)
 lam := fun q => absurd q (by rw [show lamS iL.scope = false by ext]; decide)
 kind := by ext
 co := by ext
 gen := by ext
 nodup := by decide +kernel
 kinds := aaw (by ext)
 bind := fun cs kvs l vs kws F s la hf hb I ha hk => by
  have hko : iL.ko = [(nmKey, .none)] := by ext
  have hps : iL.ps = [nmA, nmX, nmLo, nmHi] := by ext
  have hdf : iL.dflt = [(nmLo, .int 0), (nmHi, .none)] := by ext
  rw [hko] at hf ⊢; rw [hps, hdf] at hb
  have X : Frag.In [(33, hTup [.int 0 216, .none]), (34, hDict w.params [("key", 217, .none)])] s.heap := in2 (I.heap0 _ _ (by ext)) (I.heap0 _ _ (by ext))
  refine acv (dl := .int 0 216) (by ext) (by ext) (dfl _) hb ha hf hk (fun u v => ⟨kp_binds X fun S => ?_, fun k => kp_binds X fun S => ?_⟩) (fun u v x => ⟨kp_binds X fun S => ?_, fun k => kp_binds X fun S => ?_⟩) (fun u v x y => ⟨kp_binds X fun S => ?_, fun k => kp_binds X fun S => ?_⟩) <;> ext
theorem amc (w : World) : DefAt (jW w) dEM 57 (hFn 7 3 .none .none (hS "cpy313.doctest" 243) (.ref 56)) where
 at_ := ⟨{ cls := .type "function", data := .func (hFn 7 3 .none .none (hS "cpy313.doctest" 243) (.ref 56)) }, by ext, rfl⟩
 body := by ext
 scope := by ext
 glo := by ext
 clo := by ext
 blt := by ext
 code := aaq (c := 56) (by ext) (by ext)
 lam := fun q => absurd q (by rw [show lamS dEM.scope = false by ext]; decide)
 kind := by ext
 co := by ext
 gen := by ext
 nodup := by decide +kernel
 kinds := aaw (by ext)
 bind := fun cs kvs l vs kws F s la hf hb I ha hk => by
  have hko : dEM.ko = [] := by ext
  rw [hko] at hf ⊢
  refine aau (d := dEM.dflt) (ps := dEM.ps) (abv (by ext)) hb ha hf hk fun hl => ?_
  obtain ⟨a0, a1, rfl⟩ := vs2 (hl.trans (show dEM.ps.length = 2 by ext))
  ext
theorem aka (w : World) : DefAt (jW w) dTab 75 (hFn 10 3 .none .none (hS "cpy313.stringprep" 259) (.ref 74)) where
 at_ := ⟨{ cls := .type "function", data := .func (hFn 10 3 .none .none (hS "cpy313.stringprep" 259) (.ref 74)) }, by ext, rfl⟩
 body := by ext
 scope := by ext
 glo := by ext
 clo := by ext
 blt := by ext
 code := aaq (c := 74) (by ext) (by ext)
 lam := fun q => absurd q (by rw [show lamS dTab.scope = false by ext]; decide)
 kind := by ext
 co := by ext
 gen := by ext
 nodup := by decide +kernel
 kinds := aaw (by ext)
 bind := fun cs kvs l vs kws F s la hf hb I ha hk => by
  have hko : dTab.ko = [] := by ext
  rw [hko] at hf ⊢
  refine aau (d := dTab.dflt) (ps := dTab.ps) (abv (by ext)) hb ha hf hk fun hl => ?_
  obtain ⟨a0, rfl⟩ := vs1 (hl.trans (show dTab.ps.length = 1 by ext))
  ext
theorem akb (w : World) : DefAt (jW w) dOps 85 (hFn 61 3 .none .none (hS "law_uk0005_02" 521) (.ref 84)) where
 at_ := ⟨{ cls := .type "function", data := .func (hFn 61 3 .none .none (hS "law_uk0005_02" 521) (.ref 84)) }, by ext, rfl⟩
 body := by ext
 scope := by ext
 glo := by ext
 clo := by ext
 blt := by ext
 code := aaq (c := 84) (by ext) (by ext)
 lam := fun q => absurd q (by rw [show lamS dOps.scope = false by ext]; decide)
 kind := by ext
 co := by ext
 gen := by ext
 nodup := by decide +kernel
 kinds := aaw (by ext)
 bind := fun cs kvs l vs kws F s la hf hb I ha hk => by
  have hko : dOps.ko = [] := by ext
  rw [hko] at hf ⊢
  refine aau (d := dOps.dflt) (ps := dOps.ps) (abv (by ext)) hb ha hf hk fun hl => ?_
  obtain rfl := vs0 (hl.trans (show dOps.ps.length = 0 by ext))
  ext
theorem akc (w : World) : DefAt (jW w) dUns 92 (hFn 62 3 .none .none (hS "law_uk0005_02" 521) (.ref 91)) where
 at_ := ⟨{ cls := .type "function", data := .func (hFn 62 3 .none .none (hS "law_uk0005_02" 521) (.ref 91)) }, by ext, rfl⟩
 body := by ext
 scope := by ext
 glo := by ext
 clo := by ext
 blt := by ext
 code := aaq (c := 91) (by ext) (by ext)
 lam := fun q => absurd q (by rw [show lamS dUns.scope = false by ext]; decide)
 kind := by ext
 co := by ext
 gen := by ext
 nodup := by decide +kernel
 kinds := aaw (by ext)
 bind := fun cs kvs l vs kws F s la hf hb I ha hk => by
  have hko : dUns.ko = [] := by ext
  rw [hko] at hf ⊢
  refine aau (d := dUns.dflt) (ps := dUns.ps) (abv (by ext)) hb ha hf hk fun hl => ?_
  obtain ⟨a0, rfl⟩ := vs1 (hl.trans (show dUns.ps.length = 1 by ext))
  ext
theorem akd (w : World) : DefAt (jW w) dBes 99 (hFn 63 3 .none .none (hS "law_uk0005_02" 521) (.ref 98)) where
 at_ := ⟨{ cls := .type "function", data := .func (hFn 63 3 .none .none (hS "law_uk0005_02" 521) (.ref 98)) }, by ext, rfl⟩
 body := by ext
 scope := by ext
 glo := by ext
 clo := by ext
 blt := by ext
 code := aaq (c := 98) (by ext) (by ext)
 lam := fun q => absurd q (by rw [show lamS dBes.scope = false by ext]; decide)
 kind := by ext
 co := by ext
 gen := by ext
 nodup := by decide +kernel
 kinds := aaw (by ext)
 bind := fun cs kvs l vs kws F s la hf hb I ha hk => by
  have hko : dBes.ko = [] := by ext
  rw [hko] at hf ⊢
  refine aau (d := dBes.dflt) (ps := dBes.ps) (abv (by ext)) hb ha hf hk fun hl => ?_
  obtain ⟨a0, rfl⟩ := vs1 (hl.trans (show dBes.ps.length = 1 by ext))
  ext
theorem aif (w : World) : DefAt (jW w) dRead 106 (hFn 64 3 .none .none (hS "law_uk0005_02" 521) (.ref 105)) where
 at_ := ⟨{ cls := .type "function", data := .func (hFn 64 3 .none .none (hS "law_uk0005_02" 521) (.ref 105)) }, by ext, rfl⟩
 body := by ext
 scope := by ext
 glo := by ext
 clo := by ext
 blt := by ext
 code := aaq (c := 105) (by ext) (by ext)
 lam := fun q => absurd q (by rw [show lamS dRead.scope = false by ext]; decide)
 kind := by ext
 co := by ext
 gen := by ext
 nodup := by decide +kernel
 kinds := aaw (by ext)
 bind := fun cs kvs l vs kws F s la hf hb I ha hk => by
  have hko : dRead.ko = [] := by ext
  rw [hko] at hf ⊢
  refine aau (d := dRead.dflt) (ps := dRead.ps) (abv (by ext)) hb ha hf hk fun hl => ?_
  obtain ⟨a0, rfl⟩ := vs1 (hl.trans (show dRead.ps.length = 1 by ext))
  ext
theorem ake (w : World) : DefAt (jW w) dAsk 113 (hFn 65 3 .none .none (hS "law_uk0005_02" 521) (.ref 112)) where
 at_ := ⟨{ cls := .type "function", data := .func (hFn 65 3 .none .none (hS "law_uk0005_02" 521) (.ref 112)) }, by ext, rfl⟩
 body := by ext
 scope := by ext
 glo := by ext
 clo := by ext
 blt := by ext
 code := aaq (c := 112) (by ext) (by ext)
 lam := fun q => absurd q (by rw [show lamS dAsk.scope = false by ext]; decide)
 kind := by ext
 co := by ext
 gen := by ext
 nodup := by decide +kernel
 kinds := aaw (by ext)
 bind := fun cs kvs l vs kws F s la hf hb I ha hk => by
  have hko : dAsk.ko = [] := by ext
  rw [hko] at hf ⊢
  refine aau (d := dAsk.dflt) (ps := dAsk.ps) (abv (by ext)) hb ha hf hk fun hl => ?_
  obtain ⟨a0, a1, a2, rfl⟩ := vs3 (hl.trans (show dAsk.ps.length = 3 by ext))
  ext
theorem akf (w : World) : DefAt (jW w) dLay 120 (hFn 66 3 .none .none (hS "law_uk0005_02" 521) (.ref 119)) where
 at_ := ⟨{ cls := .type "function", data := .func (hFn 66 3 .none .none (hS "law_uk0005_02" 521) (.ref 119)) }, by ext, rfl⟩
 body := by ext
 scope := by ext
 glo := by ext
 clo := by ext
 blt := by ext
 code := aaq (c := 119) (by ext) (by ext)
 lam := fun _ => ⟨119, 115, by ext, by unfold jW; exact List.mem_singleton.mpr (by ext)⟩
 kind := by ext
 co := by ext
 gen := by ext
 nodup := by decide +kernel
 kinds := aaw (by ext)
 bind := fun cs kvs l vs kws F s la hf hb I ha hk => by
  have hko : dLay.ko = [] := by ext
  rw [hko] at hf ⊢
  refine aau (d := dLay.dflt) (ps := dLay.ps) (abv (by ext)) hb ha hf hk fun hl => ?_
  obtain ⟨a0, a1, a2, a3, rfl⟩ := vs4 (hl.trans (show dLay.ps.length = 4 by ext))
  ext
theorem amd (w : World) : DefAt (jW w) dPl 127 (hFn 67 3 .none .none (hS "law_uk0005_02" 521) (.ref 126)) where
 at_ := ⟨{ cls := .type "function", data := .func (hFn 67 3 .none .none (hS "law_uk0005_02" 521) (.ref 126)) }, by ext, rfl⟩
 body := by ext
 scope := by ext
 glo := by ext
 clo := by ext
 blt := by ext
 code := aaq (c := 126) (by ext) (by ext)
 lam := fun q => absurd q (by rw [show lamS dPl.scope = false by ext]; decide)
 kind := by ext
 co := by ext
 gen := by ext
 nodup := by decide +kernel
 kinds := aaw (by ext)
 bind := fun cs kvs l vs kws F s la hf hb I ha hk => by
  have hko : dPl.ko = [] := by ext
  rw [hko] at hf ⊢
  refine aau (d := dPl.dflt) (ps := dPl.ps) (abv (by ext)) hb ha hf hk fun hl => ?_
  obtain ⟨a0, a1, rfl⟩ := vs2 (hl.trans (show dPl.ps.length = 2 by ext))
  ext
theorem aig (w : World) : DefAt (jW w) dTold 134 (hFn 68 3 .none .none (hS "law_uk0005_02" 521) (.ref 133)) where
 at_ := ⟨{ cls := .type "function", data := .func (hFn 68 3 .none .none (hS "law_uk0005_02" 521) (.ref 133)) }, by ext, rfl⟩
 body := by ext
 scope := by ext
 glo := by ext
 clo := by ext
 blt := by ext
 code := aaq (c := 133) (by ext) (by ext)
 lam := fun q => absurd q (by rw [show lamS dTold.scope = false by ext]; decide)
 kind := by ext
 co := by ext
 gen := by ext
 nodup := by decide +kernel
 kinds := aaw (by ext)
 bind := fun cs kvs l vs kws F s la hf hb I ha hk => by
  have hko : dTold.ko = [] := by ext
  rw [hko] at hf ⊢
  refine aau (d := dTold.dflt) (ps := dTold.ps) (abv (by ext)) hb ha hf hk fun hl => ?_
  obtain ⟨a0, a1, a2, a3, rfl⟩ := vs4 (hl.trans (show dTold.ps.length = 4 by ext))
  ext
theorem aih (w : World) : DefAt (jW w) dKeep 141 (hFn 69 3 .none .none (hS "law_uk0005_02" 521) (.ref 140)) where
 at_ := ⟨{ cls := .type "function", data := .func (hFn 69 3 .none .none (hS "law_uk0005_02" 521) (.ref 140)) }, by ext, rfl⟩
 body := by ext
 scope := by ext
 glo := by ext
 clo := by ext
 blt := by ext
 code := aaq (c := 140) (by ext) (by ext)
 lam := fun q => absurd q (by rw [show lamS dKeep.scope = false by ext]; decide)
 kind := by ext
 co := by ext
 gen := by ext
 nodup := by decide +kernel
 kinds := aaw (by ext)
 bind := fun cs kvs l vs kws F s la hf hb I ha hk => by
  have hko : dKeep.ko = [] := by ext
  rw [hko] at hf ⊢
  refine aau (d := dKeep.dflt) (ps := dKeep.ps) (abv (by ext)) hb ha hf hk fun hl => ?_
  obtain ⟨a0, a1, a2, rfl⟩ := vs3 (hl.trans (show dKeep.ps.length = 3 by ext))
  ext
theorem akg (w : World) : DefAt (jW w) dLaw 146 (hFn 70 3 .none .none (hS "law_uk0005_02" 521) (.ref 145)) where
 at_ := ⟨{ cls := .type "function", data := .func (hFn 70 3 .none .none (hS "law_uk0005_02" 521) (.ref 145)) }, by ext, rfl⟩
 body := by ext
 scope := by ext
 glo := by ext
 clo := by ext
 blt := by ext
 code := aaq (c := 145) (by ext) (by ext)
 lam := fun q => absurd q (by rw [show lamS dLaw.scope = false by ext]; decide)
 kind := by ext
 co := by ext
 gen := by ext
 nodup := by decide +kernel
 kinds := aaw (by ext)
 bind := fun cs kvs l vs kws F s la hf hb I ha hk => by
  have hko : dLaw.ko = [] := by ext
  rw [hko] at hf ⊢
  refine aau (d := dLaw.dflt) (ps := dLaw.ps) (abv (by ext)) hb ha hf hk fun hl => ?_
  obtain ⟨a0, rfl⟩ := vs1 (hl.trans (show dLaw.ps.length = 1 by ext))
  ext
theorem jNs {P : Params} {a : Addr} (ha : a ≠ 115) (hn : (h5 P).isNs a = true) {h : Heap} (k : ∀ b o, jF P b = some o -> h.get? b = some o) : h.Ns a ((h5 P).nsMap a) := by
 obtain ⟨o, es, ep, e, r⟩ := Heap.Ns.of_isNs hn
 exact ⟨o, es, ep, k _ _ (by unfold jF; rw [if_neg ha]; exact e), r⟩
theorem jNs3 (P : Params) : (h5 P).isNs mainGlobals = true := by ext
theorem jNs0 (P : Params) : (h5 P).isNs builtinsNs = true := by ext
theorem jNs2 (P : Params) : (h5 P).isNs cStatics = true := by ext
theorem anj (P : Params) : (h5 P).nsMap cStatics "sys.recursionlimit" = none := by
 rw [Fast.te8920871248978507458]; ext
theorem jHd {P : Params} {h : Heap} (k : ∀ b o, jF P b = some o -> h.get? b = some o) : CodeHd h 119 115 :=
 ⟨hCo 66 114 567 165 4 0 3 (.ref 116) (.ref 117) (.ref 118) 5, _, _, _, _, _, _, _, _, k _ _ (by ext), rfl, rfl, rfl, rfl, rfl, rfl, rfl, rfl, by decide⟩
theorem jBi {P : Params} {h : Heap} (k : ∀ b o, jF P b = some o -> h.get? b = some o) : h.BuiltinsAt ((h5 P).nsMap mainGlobals) 115 :=
 ⟨4, boot_o_4 P, by rw [Fast.te8920871248978507458]; ext, by decide, by decide, by decide, k _ _ (by ext), by ext, by ext, by ext⟩
theorem ank (P : Params) : (h5 P).nsMap mainGlobals nEM = some (hS "..." 245) := by rw [Fast.te8920871248978507458]; ext
theorem anl (P : Params) : (h5 P).nsMap mainGlobals nB1 = some (.ref 65) := by rw [Fast.te8920871248978507458]; ext
theorem ame (P : Params) : (h5 P).nsMap mainGlobals nETT = some (.ref 76) := by rw [Fast.te8920871248978507458]; ext
noncomputable def setT (P : Params) : SetTable := { mask := 127, place := [0, 1, 2, 3, 4, 5, 6, 7, 8, 9, 10, 11, 12, 13, 14, 15, 16, 17, 18, 19, 20, 21, 22, 45, 79, 96, 127].toArray, dummies := [].toArray, finger := 0, led := !P.followText "set-order", moves := 2, plain := true }
noncomputable def setO (P : Params) : Obj := { cls := .type "set", data := .set (hSet.map fun x => (x.1, PySem.Value.int x.1 x.2)).toArray 29 (setT P) }
theorem anm (w : World) : SO p2 w (setO w.params) b1s := by
 refine ⟨_, _, _, ⟨rfl, rfl, rfl⟩, rfl, fun e he => ?_, fun k => ?_, by decide +kernel, by ext⟩
 · obtain ⟨x, hx, rfl⟩ := List.mem_map.mp he
   refine ⟨⟨x.1, beq_self_eq_true _, ?_⟩, rfl⟩
   have all : (hSet.all fun x => hashInt x.1 == x.1) = true := by decide +kernel
   exact (beq_iff_eq.mp (List.all_eq_true.mp all x hx)).symm
 · have p : b1s.Perm (hSet.map (·.1)) := by decide +kernel
   rw [List.contains_iff_mem, p.mem_iff]
   constructor
   · intro h
     obtain ⟨x, hx, rfl⟩ := List.mem_map.mp h
     exact ⟨_, List.mem_map.mpr ⟨x, hx, rfl⟩, beq_self_eq_true _⟩
   · rintro ⟨e, he, hk⟩
     obtain ⟨x, hx, rfl⟩ := List.mem_map.mp he
     have hk : (x.1 == k) = true := hk
     exact List.mem_map.mpr ⟨x, hx, beq_iff_eq.mp hk⟩
def ettC : PySem.Value -> CV
 | .int i _ => .int i
 | _ => .none
def isI : PySem.Value -> Bool
 | .int _ _ => true
 | _ => false
theorem aiP (W : Wd) (F : FH) : ∀ (l : List (String × Nat × PySem.Value)) (c : List (SS × CV)), (c.map fun x => (x.1.s, x.2)) = l.map (fun x => (Str.ofString x.1, ettC x.2.2)) -> (l.all fun x => isI x.2.2) = true ->
 RVd W.prog W.w F c (l.map fun x => (Str.ofString x.1, x.2.2))
 | [], c, e, _ => by
  obtain rfl : c = [] := List.map_eq_nil_iff.mp e
  simp only [RVd, List.map_nil]
 | (n, t, v) :: l, c, e, a => by
  cases c with
  | nil => cases e
  | cons p c =>
   obtain ⟨k, y⟩ := p
   simp only [List.map_cons, List.cons.injEq, Prod.mk.injEq] at e
   obtain ⟨⟨e1, e2⟩, e3⟩ := e
   simp only [List.all_cons, Bool.and_eq_true] at a
   obtain ⟨a1, a2⟩ := a
   simp only [RVd, List.map_cons]
   refine ⟨v, _, by rw [e1], ?_, aiP W F l c e3 a2⟩
   cases v <;> first | (cases a1; done) | skip
   subst e2
   exact ⟨_, rfl⟩
theorem ano (w : World) : DO p2 w (hDict w.params hEtt) (hEtt.map fun x => (Str.ofString x.1, x.2.2)) := by
 refine ⟨⟨rfl, rfl, rfl⟩, _, _, rfl, fun e he => ?_, ?_, by decide +kernel⟩
 · have he : e ∈ hEtt.map (hE w.params) := by simpa using he
   obtain ⟨x, hx, rfl⟩ := List.mem_map.mp he
   exact ⟨Str.ofString x.1, beq_self_eq_true _, rfl⟩
 · have : ∀ l : List (String × Nat × PySem.Value), Pairs (strKind p2 w) (l.map (hE w.params)) (l.map fun x => (Str.ofString x.1, x.2.2)) := fun l => by
    induction l with
    | nil => exact .nil
    | cons x l ih => exact .cons (beq_self_eq_true _) rfl ih
   simpa using this hEtt
theorem jBlt (P : Params) : ∀ y ∈ bltL, (h5 P).nsMap mainGlobals (Str.ofString y) = none ∧ (h5 P).nsMap builtinsNs (Str.ofString y) = bltV (Str.ofString y) := by
 rw [Fast.te8920871248978507458]
 unfold bltL
 simp only [List.forall_mem_cons, List.not_mem_nil, false_imp_iff, implies_true, and_true]
 refine ⟨⟨?_, ?_⟩, ⟨?_, ?_⟩, ⟨?_, ?_⟩, ⟨?_, ?_⟩, ⟨?_, ?_⟩, ⟨?_, ?_⟩, ⟨?_, ?_⟩, ⟨?_, ?_⟩, ⟨?_, ?_⟩⟩ <;> ext
set_option tactic.hygienic true
theorem jG (w : World) {K : Nat} {fn : Str -> Option FS} (hfn : ∀ x f, fn x = some f -> ∃ a, (jW w).mg x = some (.ref a) ∧ FunOK (jW w) K f a) : GOK (jW w) K (GF fn) where
 tabs := fun t ht h k => by
  obtain rfl := List.mem_singleton.mp ht
  exact ⟨jHd k, jBi k, by decide⟩
 nolim := fun h k => ⟨_, jNs (by decide) (jNs2 _) k, anj _⟩
 ns := fun h k => ⟨jNs (by decide) (jNs3 _) k, jNs (by decide) (jNs0 _) k⟩
 const := fun x c e => by
  unfold GF at e
  dsimp only at e
  split at e
  · cases e
  · split at e
    · rename_i q
      cases e
      obtain rfl := beq_iff_eq.mp q
      exact ⟨_, ank _, ⟨_, rfl⟩⟩
    · split at e
      · rename_i q
        cases e
        obtain rfl := beq_iff_eq.mp q
        refine ⟨_, anl _, ?_⟩
        exact ⟨_, setO w.params, rfl, by ext, anm w⟩
      · split at e
        · rename_i q
          cases e
          obtain rfl := beq_iff_eq.mp q
          refine ⟨_, ame _, ?_⟩
          exact ⟨_, hDict w.params hEtt, _, rfl, by ext, ⟨ano w, by decide⟩, aiP _ _ _ _ (by ext) (by ext)⟩
        · split at e <;> cases e
 blt := fun x e => by
  unfold GF at e
  dsimp only at e
  split at e
  · rename_i q
    obtain ⟨y, hy, hx⟩ := List.any_eq_true.mp q
    obtain rfl := beq_iff_eq.mp hx
    exact jBlt _ y hy
  · split at e
    · cases e
    · split at e
      · cases e
      · split at e
        · cases e
        · split at e <;> cases e
 fn := fun x f e => by
  unfold GF at e
  dsimp only at e
  split at e
  · cases e
  · split at e
    · cases e
    · split at e
      · cases e
      · split at e
        · cases e
        · split at e
          · rename_i g q
            cases e
            exact hfn x _ q
          · cases e
set_option tactic.hygienic false
theorem FunOK.le {W : Wd} {k j : Nat} {f : FS} {a : Addr} (h : FunOK W k f a) (hj : k ≤ j) : FunOK W j f a :=
 ⟨h.1, fun cs kvs c o' q A F s la vs kws Rm => h.2 cs kvs c o' q A F s la vs kws (Rm.le hj)⟩
theorem jMg (w : World) : (jW w).mg = (h5 w.params).nsMap mainGlobals := rfl
theorem amf (w : World) : (jW w).mg nBR = some (.ref 32) := by rw [jMg, Fast.te8920871248978507458]; ext
theorem amg (w : World) : (jW w).mg nBL = some (.ref 50) := by rw [jMg, Fast.te8920871248978507458]; ext
theorem amh (w : World) : (jW w).mg nIR = some (.ref 23) := by rw [jMg, Fast.te8920871248978507458]; ext
theorem ami (w : World) : (jW w).mg nIL = some (.ref 41) := by rw [jMg, Fast.te8920871248978507458]; ext
theorem akh (w : World) : (jW w).mg nEMf = some (.ref 57) := by rw [jMg, Fast.te8920871248978507458]; ext
theorem aki (w : World) : (jW w).mg nTab = some (.ref 75) := by rw [jMg, Fast.te8920871248978507458]; ext
theorem akj (w : World) : (jW w).mg nOps = some (.ref 85) := by rw [jMg, Fast.te8920871248978507458]; ext
theorem akk (w : World) : (jW w).mg nUns = some (.ref 92) := by rw [jMg, Fast.te8920871248978507458]; ext
theorem akl (w : World) : (jW w).mg nBes = some (.ref 99) := by rw [jMg, Fast.te8920871248978507458]; ext
theorem amj (w : World) : (jW w).mg nRd = some (.ref 106) := by rw [jMg, Fast.te8920871248978507458]; ext
theorem akm (w : World) : (jW w).mg nAsk = some (.ref 113) := by rw [jMg, Fast.te8920871248978507458]; ext
theorem akn (w : World) : (jW w).mg nLay = some (.ref 120) := by rw [jMg, Fast.te8920871248978507458]; ext
theorem amk (w : World) : (jW w).mg nPl = some (.ref 127) := by rw [jMg, Fast.te8920871248978507458]; ext
theorem aii (w : World) : (jW w).mg nTold = some (.ref 134) := by rw [jMg, Fast.te8920871248978507458]; ext
theorem aml (w : World) : (jW w).mg nKp = some (.ref 141) := by rw [jMg, Fast.te8920871248978507458]; ext
theorem aeT {β : Type} {l : List (Str × β)} {x : Str} {b : β} (h : l.lookup x = some b) : (x, b) ∈ l := by
 induction l with
 | nil => cases h
 | cons p r ih =>
  obtain ⟨n, k'⟩ := p
  simp only [List.lookup_cons] at h
  cases hx : x == n with
  | true => rw [hx] at h; cases h; rw [beq_iff_eq.mp hx]; exact .head _
  | false => rw [hx] at h; exact .tail _ (ih h)
theorem jAll {w : World} {j : Nat} (G : GOK (jW w) (20 + 13 * j) (GF (lv j))) : ∀ p ∈ defsT, ∃ a, (jW w).mg p.1 = some (.ref a) ∧ FunOK (jW w) (20 + 13 * (j + 1)) (fsOf (lv j) p.2.1 p.2.2) a := by
 have go : ∀ {x : Str} {d : DD} {n : Nat} {fa : Addr} {fd : FuncData}, n ≤ 12 -> (jW w).mg x = some (.ref fa) -> DefAt (jW w) d fa fd -> ∃ a, (jW w).mg (x, d, n).1 = some (.ref a) ∧ FunOK (jW w) (20 + 13 * (j + 1)) (fsOf (lv j) (x, d, n).2.1 (x, d, n).2.2) a := fun {x d n fa fd} hn hx D => ⟨fa, hx, (aiw (n := n) (c := 0) G (by lia) D).le (by lia)⟩
 unfold defsT
 simp only [List.forall_mem_cons]
 exact ⟨go (by decide) (amf w) (anf w), go (by decide) (amg w) (ang w), go (by decide) (amh w) (anh w), go (by decide) (ami w) (ani w), go (by decide) (akh w) (amc w), go (by decide) (aki w) (aka w), go (by decide) (akj w) (akb w), go (by decide) (akk w) (akc w), go (by decide) (akl w) (akd w), go (by decide) (amj w) (aif w), go (by decide) (akm w) (ake w), go (by decide) (akn w) (akf w), go (by decide) (amk w) (amd w), go (by decide) (aii w) (aig w), go (by decide) (aml w) (aih w), fun _ q => (nomatch q)⟩
set_option tactic.hygienic true
theorem jLv (w : World) : ∀ j x f, lv j x = some f -> ∃ a, (jW w).mg x = some (.ref a) ∧ FunOK (jW w) (20 + 13 * j) f a
 | 0, x, f, e => by cases e
 | j + 1, x, f, e => by
  have e : (match defsT.lookup x with | some (d, n) => some (fsOf (lv j) d n) | none => none) = some f := e
  split at e
  · rename_i d n q
    cases e
    exact jAll (jG w (jLv w j)) (x, d, n) (aeT q)
  · cases e
set_option tactic.hygienic false
theorem jLaw (w : World) : FunOK (jW w) 93 (fsOf (lv 4) dLaw 20) 146 :=
 (aiw (n := 20) (c := 0) (jG w (jLv w 4)) (by decide) (akg w)).le (by decide)
noncomputable def hDef : DefRec := match p2.main.body[70]? with
 | some (PySem.Stmt.FunctionDef n a b _ _ _ sc _ _ pos) => ⟨n, a, b, sc, pos⟩
 | _ => ⟨Str.empty, hBad.2.1, [], hBad.2.2.2, ⟨0, 0, 0, 0⟩⟩
theorem ako : defOf hQ PySem.Challenge.rw_uk0005_02.row.name = some (hDef, []) := by ext
theorem akp : PySem.Challenge.rw_uk0005_02.row.prog.theDef PySem.Challenge.rw_uk0005_02.row.name = some (hDef.params, hDef.body, hDef.scope) := by ext
def YPj (w : World) (h : Heap) : Prop := ∀ a o, (h5 w.params).get? a = some o -> h.get? a = some o
set_option tactic.hygienic true
theorem aij {args : List WData} (hpre : PySem.Challenge.rw_uk0005_02.row.toRowW.claim.pre args = true) : ∃ ns : List Int, args = [.list (ns.map .int)] ∧ ns.length ≤ 63 := by
 have hsh := (pre_splitW hpre).1
 have hcond := (pre_splitW hpre).2
 have hsh : WShape.hasAll [] args [.list .int] = true := hsh
 obtain ⟨d, r, rfl, h1, h2⟩ := hasAllW_cons hsh
 obtain rfl := hasAllW_nil h2
 obtain ⟨xs, rfl, hi⟩ := hasW_list h1
 obtain ⟨ns, rfl⟩ := items_int hi
 refine ⟨ns, rfl, ?_⟩
 w_cond hcond
 rename_i q _
 rw [List.length_map] at q
 omega
set_option tactic.hygienic false
theorem Ns.uniq {h : Heap} {a : Addr} {m m' : Str -> Option PySem.Value} (x : h.Ns a m) (y : h.Ns a m') : m = m' := by
 obtain ⟨o, es, ep, e, e2, _, e3⟩ := x
 obtain ⟨o', es', ep', e', e2', _, e3'⟩ := y
 rw [e] at e'; cases e'
 rw [e2] at e2'; cases e2'
 exact funext fun n => (e3 n).symm.trans (e3' n)
theorem aiQ {W : Wd} {F : FH} {P : Params} {h : Heap} : ∀ {ns : List Int} {vs : List PySem.Value}, WellAll P h vs (ns.map .int) -> RVs W.prog W.w F (scr ns) vs
 | [], vs, x => by cases x; simp only [scr, List.map_nil]
 | n :: ns, vs, x => by
  obtain ⟨v, r, rfl, hv, hr⟩ := wellAll_cons_inv x
  cases hv
  have ih := aiQ (W := W) (F := F) hr
  unfold scr at ih ⊢
  simp only [List.map_cons]
  refine ⟨_, _, rfl, ?_, ih⟩
  exact ⟨_, rfl⟩
theorem jBor : (fsOf (lv 4) dLaw 20).bor = none := by ext
set_option tactic.hygienic true
theorem anp : WalkO hQ hLoose (fun _ _ => True) YPj PySem.Challenge.rw_uk0005_02.row.toRowW hDef [] (fun f vs => PySem.call f vs) := by
 intro w s0 s1 mg mb G Y a o pm cd doc dV kV ho hd hcd hD hmg hg args vs as hpre hlay hrd hwl hlo
 obtain ⟨ns, rfl, hlen⟩ := aij hpre
 obtain ⟨v, r, rfl, hv, hr⟩ := wellAll_cons_inv hwl
 cases hr
 generalize hxs : ns.map WData.int = xs at hv
 cases hv with
 | list hla hvs =>
 rename_i la vs
 subst hxs
 have Y : ∀ a o, (h5 w.params).get? a = some o -> s1.heap.get? a = some o := Y
 have hK : ∀ b ob, jF w.params b = some ob -> s1.heap.get? b = some ob := fun b ob e => Y b ob (al9 e)
 have e115 : s1.heap.get? 115 = some (tabObj #[]) := Y _ _ (by ext)
 have hmg' : mg = (h5 w.params).nsMap mainGlobals := Ns.uniq G.T.g (jNs (by decide) (jNs3 _) hK)
 have ha : a = 146 := by
  have : (h5 w.params).nsMap mainGlobals hDef.name = some (.ref 146) := by rw [Fast.te8920871248978507458]; ext
  rw [hmg', this] at hmg
  cases hmg; rfl
 subst ha
 have hne : la ≠ 115 := fun e => by rw [e, e115] at hla; cases hla
 let F : FH := fun b => if b = 115 then none else s1.heap.get? b
 have I : Inv (jW w) F s1 := ⟨fun b ob e => by
  show s1.heap.get? b = some ob
  have e : (if b = 115 then none else s1.heap.get? b) = some ob := e
  split at e
  · cases e
  · exact e, fun b ob e => by
  have h := hK b ob e
  have hb : b ≠ 115 := fun q => by
   have e : jF w.params b = some ob := e
   unfold jF at e
   rw [if_pos q] at e; cases e
  show (if b = 115 then none else s1.heap.get? b) = some ob
  rw [if_neg hb]; exact h, fun t ht => by
  obtain rfl := List.mem_singleton.mp ht
  exact ⟨⟨#[], e115, trivial, fun pos cv q => by cases q⟩, if_pos rfl⟩⟩
 refine (jLaw w).2 [.list (scr ns)] [] (.bool true) (.list []) (aie hlen) callerA F s1 0 _ [] ⟨rfl, by decide, by decide⟩ I ?_ rfl (fun q => by rw [jBor] at q; cases q) _ _ fun v F' s' S rv _ => ?_
 · rw [jBor]
   unfold ArgsR
   refine ⟨_, _, rfl, ?_, rfl⟩
   exact ⟨la, _, vs, rfl, (if_neg hne).trans hla, ⟨_, rfl⟩, aiQ hvs⟩
 · simp only [RV] at rv
   subst rv
   refine ⟨.inl ⟨_, .bool true, [], rfl, fun _ => rfl, .bool true, by ext, fun _ => ⟨List.nodup_nil, fun _ q => (nomatch q)⟩⟩, ⟨fun b ob e => ?_, fun b ob e => S.there e⟩, S.same.2.2, .of_eq (S.same.1.trans hg)⟩
   by_cases hb : b = 115
   · subst hb
     rw [e115] at e
     cases e
     obtain ⟨⟨ps, e1, _⟩, _⟩ := S.inv.tab _ (List.mem_singleton.mpr rfl)
     refine .inr (.inl ⟨⟨119, _, _, hK _ (hCo 66 114 567 165 4 0 3 (.ref 116) (.ref 117) (.ref 118) 5) (by ext), rfl, rfl, rfl⟩, rfl, #[], ps, rfl, ?_⟩)
     rw [Array.empty_append]
     exact e1
   · refine .inl (S.keep b ob e (fun q => ?_) fun ⟨t, ht, q⟩ => ?_)
     · have q := q.1; rw [jBor] at q; cases q
     · obtain rfl := List.mem_singleton.mp ht
       exact hb q.symm
set_option tactic.hygienic false
theorem hRow (said : PySem.Challenge.rw_uk0005_02.row.wellSaid = true) : PySem.Challenge.rw_uk0005_02.row.Holds :=
 holds_open (q := hQ) (loose := hLoose) (Xt := fun _ => true) (XP := fun _ _ => True) (Yf := fun s => s.heap) (Ya := fun w => h5 w.params) (YP := YPj) (d := hDef) (kwd := []) (N := 8000)
  ane (fun w s e b o h => by rw [show s.heap = h5 w.params from e]; exact h) (fun w h h' y k b o e => k _ _ (y _ _ e)) (fun _ _ => trivial) (fun _ _ _ _ _ => trivial) ako akp (by ext) (fun _ _ => recFacts_nil rfl) rfl
  said (by decide +kernel) ⟨rfl, rfl, rfl, rfl, rfl, by decide +kernel⟩ ⟨[.list []], by decide +kernel, by decide +kernel⟩ anp
theorem hSaid : PySem.Challenge.rw_uk0005_02.wellSaid = true := by
 rw [Fast.te9446332074065402090]
 ext
end
end
end Mine
open PySem PySem.W PySem.Calls PyProof.Rows
open Mine in
theorem PySem.Challenge.cw_uk0005_02_holds : PySem.Challenge.rw_uk0005_02.Holds := by
  exact holds_law hSaid hRow
