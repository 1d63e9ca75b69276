import PyProof.Rows.All
import Wide.All
import OpenK.AllK
import Wide.FinOn
import Lean
import PySem.Challenge.RW_uk0005_01
set_option Elab.async false
set_option maxRecDepth 100000
set_option linter.unusedVariables false
set_option linter.unusedSimpArgs false
set_option backward.match.sparseCases false
set_option bootstrap.genMatcherCode false
set_option genSizeOfSpec false
set_option genInjectivity false
namespace Mine
noncomputable section
abbrev VP := PySem.Value → PySem.Shared → Prop
local macro_rules | `(tactic| ext) => `(tactic| kernel_rfl)
section
open PySem PySem.Calls PyProof.Rows
structure SS where
 s : Str
 b : Nat
 h : s.length ≤ b
noncomputable def SS.of (s : Str) : SS := ⟨s, s.length, Nat.le_refl _⟩
noncomputable def SS.pad (s : Str) : SS := if h : s.length ≤ 8 then ⟨s, 8, h⟩ else ⟨s, s.length, Nat.le_refl _⟩
set_option tactic.hygienic false
theorem hid {P : Prop} (h : ¬ P -> False) : P := Classical.byContradiction h
theorem aab {α : Type} {a : α} {P : Prop} (h : (none : Option α) = some a) : P := by cases h
noncomputable def eName (e : Expr) : Option (Str × Pos) := match e with | .Name x p => some (x, p) | _ => none
noncomputable def eSub (e : Expr) : Option (Expr × Expr × Pos) := match e with | .Subscript a i p => some (a, i, p) | _ => none
noncomputable def eTup (e : Expr) : Option (List Expr) := match e with | .Tuple es _ _ => some es | _ => none
noncomputable def eAttr (e : Expr) : Option (Expr × Str × Pos) := match e with | .Attribute o m p => some (o, m, p) | _ => none
noncomputable def eCall (e : Expr) : Option (Expr × List Expr × List Keyword × Pos) := match e with | .Call f as ks p => some (f, as, ks, p) | _ => none
noncomputable def eSlice (e : Expr) : Option (Option Expr × Option Expr × Option Expr) := match e with | .Slice lo hi st _ => some (lo, hi, st) | _ => none
theorem aav {e : Expr} {x : Str} {p : Pos} (h : eName e = some (x, p)) : e = .Name x p := by cases e <;> first | exact aab h | (cases h; rfl)
theorem adW {e a i : Expr} {p : Pos} (h : eSub e = some (a, i, p)) : e = .Subscript a i p := by cases e <;> first | exact aab h | (cases h; rfl)
theorem acL {e : Expr} {es : List Expr} (h : eTup e = some es) : ∃ k p, e = .Tuple es k p := by cases e <;> first | exact aab h | (cases h; exact ⟨_, _, rfl⟩)
theorem ade {e o : Expr} {m : Str} {p : Pos} (h : eAttr e = some (o, m, p)) : e = .Attribute o m p := by cases e <;> first | exact aab h | (cases h; rfl)
theorem adf {e f : Expr} {as : List Expr} {ks : List Keyword} {p : Pos} (h : eCall e = some (f, as, ks, p)) : e = .Call f as ks p := by cases e <;> first | exact aab h | (cases h; rfl)
theorem aeB {e : Expr} {lo hi st : Option Expr} (h : eSlice e = some (lo, hi, st)) : ∃ p, e = .Slice lo hi st p := by cases e <;> first | exact aab h | (cases h; exact ⟨_, rfl⟩)
noncomputable def l1 {α : Type} (l : List α) : Option α := match l with | [a] => some a | _ => none
noncomputable def l2 {α : Type} (l : List α) : Option (α × α) := match l with | [a, b] => some (a, b) | _ => none
theorem aaO {α : Type} {l : List α} {a : α} (h : l1 l = some a) : l = [a] := by
 rcases l with _ | ⟨x, _ | ⟨y, r⟩⟩ <;> first | exact aab h | (cases h; rfl)
theorem acM {α : Type} {l : List α} {a b : α} (h : l2 l = some (a, b)) : l = [a, b] := by
 rcases l with _ | ⟨x, _ | ⟨y, _ | ⟨z, r⟩⟩⟩ <;> first | exact aab h | (cases h; rfl)
theorem SS.pad_s (s : Str) : (SS.pad s).s = s := by
 unfold SS.pad; split <;> rfl
structure Lam where
 params : Arguments
 body : Expr
 scope : Scope
inductive CV where
 | none
 | bool (b : Bool)
 | int (i : Int)
 | str (s : SS)
 | list (xs : List CV)
 | tup (xs : List CV)
 | dict (es : List (SS × CV))
 | iset (xs : List Int)
 | lam (L : Lam)
inductive CO where
 | list (xs : List CV)
noncomputable def CO.cv : CO -> CV
 | .list xs => .list xs
inductive Slot where
 | val (c : CV)
 | own (o : CO)
 | bor (o : CO)
noncomputable def Slot.cv : Slot -> CV
 | .val c => c
 | .own o => o.cv
 | .bor o => o.cv
inductive EV where
 | val (c : CV)
 | ref (x : Str)
structure CE where
 scope : Scope
 vars : List (Str × Slot)
noncomputable def CE.kind (ρ : CE) (x : Str) : Option NameKind := ρ.scope.names.lookup x
noncomputable def CE.get (ρ : CE) (x : Str) : Option Slot := ρ.vars.lookup x
noncomputable def upd : List (Str × Slot) -> Str -> Slot -> List (Str × Slot)
 | [], x, s => [(x, s)]
 | (y, t) :: r, x, s => match x == y with
  | true => (y, s) :: r
  | false => (y, t) :: upd r x s
theorem amF (y : Str) (t : Slot) (r : List (Str × Slot)) (x : Str) (s : Slot) : upd ((y, t) :: r) x s = match x == y with | true => (y, s) :: r | false => (y, t) :: upd r x s := rfl
noncomputable def CE.set (ρ : CE) (x : Str) (s : Slot) : CE := ⟨ρ.scope, upd ρ.vars x s⟩
noncomputable def isVar (k : Option NameKind) : Bool := match k with
 | some .local => true
 | some .cell => true
 | some .free => true
 | _ => false
noncomputable def mayStore (k : Option NameKind) : Bool := match k with
 | some .local => true
 | some .cell => true
 | _ => false
noncomputable def isVal (sl : Option Slot) : Bool := match sl with
 | some (.val _) => true
 | _ => false
noncomputable def CE.drop (ds : Str -> Bool) (ρ : CE) : CE := ⟨ρ.scope, ρ.vars.filter fun p => !(ds p.1 && isVal (ρ.get p.1))⟩
noncomputable def canSet (ρ : CE) (x : Str) : Bool := mayStore (ρ.kind x)
noncomputable def deref (ρ : CE) : EV -> Option CV
 | .val c => some c
 | .ref x => match ρ.get x with
  | some sl => some sl.cv
  | none => none
noncomputable def freeze (ρ : CE) : EV -> Option (CV × CE)
 | .val c => some (c, ρ)
 | .ref x => match ρ.get x with
  | some (.val c) => some (c, ρ)
  | some (.own o) => some (o.cv, ρ.set x (.val o.cv))
  | _ => none
structure FS where
 bor : Option Nat
 run : List CV -> List (Str × CV) -> Option (CV × CO)
 cost : Nat
inductive GV where
 | const (c : CV)
 | fn (f : FS)
 | blt
structure GE where
 glob : Str -> Option GV
 owns : Str -> Bool
noncomputable def LIM : Nat := 16777216
noncomputable def constC : Const -> Option CV
 | .none => some .none
 | .bool b => some (.bool b)
 | .int i => some (.int i)
 | .str s => some (.str (SS.of s))
 | _ => none
noncomputable def cvStr (c : CV) : Option SS := match c with | .str x => some x | _ => none
noncomputable def cvInt (c : CV) : Option Int := match c with | .int i => some i | _ => none
noncomputable def cvList (c : CV) : Option (List CV) := match c with | .list l => some l | _ => none
noncomputable def cvDict (c : CV) : Option (List (SS × CV)) := match c with | .dict l => some l | _ => none
theorem aaw {c : CV} {x : SS} (h : cvStr c = some x) : c = .str x := by cases c <;> first | exact aab h | (cases h; rfl)
theorem aak {c : CV} {x : Int} (h : cvInt c = some x) : c = .int x := by cases c <;> first | exact aab h | (cases h; rfl)
theorem aay {c : CV} {x : List CV} (h : cvList c = some x) : c = .list x := by cases c <;> first | exact aab h | (cases h; rfl)
theorem aeC {c : CV} {x : List (SS × CV)} (h : cvDict c = some x) : c = .dict x := by cases c <;> first | exact aab h | (cases h; rfl)
noncomputable def truthC : CV -> Option Bool
 | .none => some false
 | .bool b => some b
 | .str s => match Nat.ble s.b 16777216 with
  | true => some (!(s.s.length == 0))
  | false => none
 | _ => none
noncomputable def intsC : List CV -> Option (List Int)
 | [] => some []
 | .int i :: r => match intsC r with
  | some l => some (i :: l)
  | none => none
 | _ :: _ => none
noncomputable def strsC : List CV -> Option (List SS)
 | [] => some []
 | .str x :: r => match strsC r with
  | some l => some (x :: l)
  | none => none
 | _ :: _ => none
noncomputable def eqAll (f : CV -> CV -> Option Bool) : List CV -> List CV -> Option Bool
 | [], ys => match ys with
  | [] => some true
  | _ :: _ => none
 | x :: xs, ys => match ys with
  | [] => none
  | y :: ys => match f x y with
   | none => none
   | some a => match eqAll f xs ys with
    | none => none
    | some b => some (a && b)
theorem acN (f : CV -> CV -> Option Bool) (x : CV) (xs : List CV) (y : CV) (ys : List CV) : eqAll f (x :: xs) (y :: ys) = match f x y with | none => none | some a => match eqAll f xs ys with | none => none | some b => some (a && b) := rfl
noncomputable def eqN : Nat -> CV -> CV -> Option Bool
 | 0, _, _ => none
 | n + 1, a, b => match a with
  | .int x => match cvInt b with
   | some y => some (x == y)
   | none => none
  | .str x => match cvStr b with
   | some y => some (x.s == y.s)
   | none => none
  | .list xs => match cvList b with
   | some ys => match xs.length == ys.length with
    | true => eqAll (eqN n) xs ys
    | false => some false
   | none => none
  | _ => none
noncomputable def eqC (a b : CV) : Option Bool := eqN 4 a b
noncomputable def eqOf (f : CV -> Option Bool) : List CV -> Option (List Bool)
 | [] => some []
 | x :: xs => match f x with
  | none => none
  | some a => match eqOf f xs with
   | none => none
   | some bs => some (a :: bs)
theorem af7 (f : CV -> Option Bool) (x : CV) (xs : List CV) : eqOf f (x :: xs) = match f x with | none => none | some a => match eqOf f xs with | none => none | some bs => some (a :: bs) := rfl
noncomputable def isC (a b : CV) : Option Bool := match a with
 | .bool x => match b with
  | .bool y => some (x == y)
  | .none => some false
  | _ => none
 | .none => match b with
  | .none => some true
  | .bool _ => some false
  | _ => none
 | .int _ => match b with
  | .none => some false
  | _ => none
 | .lam _ => match b with
  | .none => some false
  | _ => none
 | _ => none
noncomputable def inC (a b : CV) : Option Bool := match b with
 | .str x => match cvStr a with
  | some y => some (!(Builtin.Str.occurrences x.s y.s 0 x.s.length 1).isEmpty)
  | none => none
 | .iset xs => match cvInt a with
  | some i => some (xs.contains i)
  | none => none
 | .list xs => match eqOf (fun y => eqN 4 y a) xs with
  | some bs => some (bs.any id)
  | none => none
 | _ => none
noncomputable def ltL : List Int -> List Int -> Bool
 | [], b => match b with
  | [] => false
  | _ :: _ => true
 | x :: r, b => match b with
  | [] => false
  | y :: t => match decide (x = y) with
   | true => ltL r t
   | false => decide (x < y)
theorem amG (x : Int) (r : List Int) (y : Int) (t : List Int) : ltL (x :: r) (y :: t) = match decide (x = y) with | true => ltL r t | false => decide (x < y) := rfl
noncomputable def leL : List Int -> List Int -> Bool
 | [], _ => true
 | x :: r, b => match b with
  | [] => false
  | y :: t => match decide (x = y) with
   | true => leL r t
   | false => decide (x ≤ y)
theorem amH (x : Int) (r : List Int) (y : Int) (t : List Int) : leL (x :: r) (y :: t) = match decide (x = y) with | true => leL r t | false => decide (x ≤ y) := rfl
noncomputable def ordC (f : Int -> Int -> Bool) (g : List Int -> List Int -> Bool) (a b : CV) : Option Bool := match a with
 | .int x => match cvInt b with
  | some y => some (f x y)
  | none => none
 | .list xs => match cvList b with
  | some ys => match intsC xs with
   | some p => match intsC ys with
    | some q => some (g p q)
    | none => none
   | none => none
  | none => none
 | _ => none
noncomputable def onot : Option Bool -> Option Bool
 | some b => some (!b)
 | none => none
noncomputable def cmpC (op : CmpOp) (a b : CV) : Option Bool := match op with
 | .Eq => eqC a b
 | .NotEq => onot (eqC a b)
 | .Is => isC a b
 | .IsNot => onot (isC a b)
 | .In => inC a b
 | .NotIn => onot (inC a b)
 | .Lt => ordC (fun x y => decide (x < y)) ltL a b
 | .LtE => ordC (fun x y => decide (x ≤ y)) leL a b
 | .Gt => match cvInt a, cvInt b with | some x, some y => some (decide (x > y)) | _, _ => none
 | .GtE => match cvInt a, cvInt b with | some x, some y => some (decide (x ≥ y)) | _, _ => none
noncomputable def small (i : Int) : Bool := decide (-1000000 ≤ i) && decide (i ≤ 1000000)
theorem ai9 (x y : Str) : (x ++ y).length = x.length + y.length := Str.length_append x y
noncomputable def SS.app (x y : SS) : SS := ⟨x.s ++ y.s, x.b + y.b, by rw [ai9]; exact Nat.add_le_add x.h y.h⟩
noncomputable def addV (a b : CV) : Option CV := match a with
 | .int x => match cvInt b with
  | some y => some (.int (x + y))
  | none => none
 | .str x => match cvStr b with
  | some y => match Nat.ble (x.b + y.b) LIM with
   | true => some (.str (x.app y))
   | false => none
  | none => none
 | .list xs => match cvList b with
  | some ys => match Nat.ble (xs.length + ys.length) LIM with
   | true => some (.list (xs ++ ys))
   | false => none
  | none => none
 | _ => none
noncomputable def binC (op : Operator) (a b : CV) : Option CV := match op with
 | .Add => addV a b
 | .Sub => match cvInt a, cvInt b with
  | some x, some y => some (.int (x - y))
  | _, _ => none
 | .FloorDiv => match cvInt a, cvInt b with
  | some x, some y => match decide (y = 0) || !small y with
   | true => none
   | false => some (.int (Int.fdiv x y))
  | _, _ => none
 | .Mod => match cvInt a, cvInt b with
  | some x, some y => match decide (y = 0) with
   | true => none
   | false => some (.int (Int.fmod x y))
  | _, _ => none
 | .Mult => match cvInt a, cvInt b with
  | some x, some y => match small x && small y with
   | true => some (.int (x * y))
   | false => none
  | _, _ => none
 | _ => none
noncomputable def subAtList (xs : List CV) (i : Int) : Option CV := match seqIndex? i xs.length with
 | some k => match Nat.ble xs.length LIM with
  | true => xs[k]?
  | false => none
 | none => none
noncomputable def dget (es : List (SS × CV)) (k : Str) : Option CV := match es with
 | [] => none
 | (x, c) :: r => match k == x.s with
  | true => some c
  | false => dget r k
theorem aiv (x : SS) (c : CV) (r : List (SS × CV)) (k : Str) : dget ((x, c) :: r) k = match k == x.s with | true => some c | false => dget r k := rfl
noncomputable def subAtStr (x : SS) (i : Int) : Option CV := match (seqIndex? i x.s.length).bind (x.s.cps[·]?) with
 | some c => match decide (i < -(2 ^ 63 : Int)) || decide (i ≥ 2 ^ 63) with
  | true => none
  | false => some (.str ⟨⟨#[c]⟩, 1, Nat.le_refl 1⟩)
 | none => none
noncomputable def subC (o i : CV) : Option CV := match o with
 | .list xs => match cvInt i with
  | some i => subAtList xs i
  | none => none
 | .str x => match cvInt i with
  | some i => subAtStr x i
  | none => none
 | _ => none
inductive FC where
 | next
 | brk
 | cont
 | ret (c : CV)
structure SM where
 ev : Expr -> CE -> Option (EV × CE)
 it : Expr -> CE -> Option (Bool × CE)
 xs : Stmt -> CE -> Option (FC × CE)
noncomputable def SM.bot : SM := ⟨fun _ _ => none, fun _ _ => none, fun _ _ => none⟩
noncomputable def SM.evs (S : SM) : List Expr -> CE -> Option (List EV × CE)
 | [], ρ => some ([], ρ)
 | e :: r, ρ => match S.ev e ρ with
  | none => none
  | some (a, ρ) => match S.evs r ρ with
   | none => none
   | some (as, ρ) => some (a :: as, ρ)
theorem abl {S : SM} {e : Expr} {r : List Expr} {ρ ρ1 ρ2 : CE} {a : EV} {as : List EV} (h : S.ev e ρ = some (a, ρ1)) (k : S.evs r ρ1 = some (as, ρ2)) : S.evs (e :: r) ρ = some (a :: as, ρ2) := by
 show (match S.ev e ρ with | none => none | some (a, ρ) => match S.evs r ρ with | none => none | some (as, ρ) => some (a :: as, ρ)) = _
 rw [h]; dsimp only; rw [k]
noncomputable def SM.xss (S : SM) : List Stmt -> CE -> Option (FC × CE)
 | [], ρ => some (.next, ρ)
 | st :: r, ρ => match S.xs st ρ with
  | none => none
  | some (.next, ρ) => S.xss r ρ
  | some (f, ρ) => some (f, ρ)
noncomputable def news (ρ : CE) (x : Str) : Bool := !(ρ.get x).isSome
noncomputable def SM.xssD (S : SM) (d : Str -> Bool) (b : List Stmt) (ρ : CE) : Option (FC × CE) := match S.xss b ρ with
 | none => none
 | some (f, ρ) => some (f, ρ.drop d)
set_option tactic.hygienic true
theorem akK (S : SM) (st : Stmt) (r : List Stmt) (ρ : CE) : S.xss (st :: r) ρ = match S.xs st ρ with | none => none | some (.next, ρ) => S.xss r ρ | some (f, ρ) => some (f, ρ) := rfl
noncomputable def derefs (ρ : CE) : List EV -> Option (List CV)
 | [] => some []
 | a :: r => match deref ρ a with
  | none => none
  | some c => match derefs ρ r with
   | none => none
   | some cs => some (c :: cs)
noncomputable def freezes : List EV -> CE -> Option (List CV × CE)
 | [], ρ => some ([], ρ)
 | a :: r, ρ => match freeze ρ a with
  | none => none
  | some (c, ρ) => match freezes r ρ with
   | none => none
   | some (cs, ρ) => some (c :: cs, ρ)
noncomputable def SM.evd (S : SM) (e : Expr) (ρ : CE) : Option (CV × CE) := match S.ev e ρ with
 | none => none
 | some (a, ρ) => match deref ρ a with
  | none => none
  | some c => some (c, ρ)
noncomputable def SM.evf (S : SM) (e : Expr) (ρ : CE) : Option (CV × CE) := match S.ev e ρ with
 | none => none
 | some (a, ρ) => freeze ρ a
noncomputable def SM.ev2 (S : SM) (l r : Expr) (ρ : CE) : Option (CV × CV × CE) := match S.ev l ρ with
 | none => none
 | some (a, ρ) => match S.ev r ρ with
  | none => none
  | some (b, ρ) => match deref ρ a, deref ρ b with
   | some x, some y => some (x, y, ρ)
   | _, _ => none
noncomputable def SM.boolOp (S : SM) (op : BoolOp) : List Expr -> CE -> Option (EV × CE)
 | [], _ => none
 | e :: r, ρ => match r with
  | [] => S.ev e ρ
  | _ :: _ => match S.ev e ρ with
   | none => none
   | some (a, ρ) => match deref ρ a with
    | none => none
    | some c => match truthC c with
     | none => none
     | some t => match op, t with
      | .And, false => some (a, ρ)
      | .Or, true => some (a, ρ)
      | _, _ => S.boolOp op r ρ
set_option tactic.hygienic false
theorem ahl (S : SM) (op : BoolOp) (e e2 : Expr) (r : List Expr) (ρ : CE) : S.boolOp op (e :: e2 :: r) ρ = match S.ev e ρ with | none => none | some (a, ρ) => match deref ρ a with | none => none | some c => match truthC c with | none => none | some t => match op, t with | .And, false => some (a, ρ) | .Or, true => some (a, ρ) | _, _ => S.boolOp op (e2 :: r) ρ := rfl
theorem ahm (S : SM) (op : BoolOp) (e : Expr) (ρ : CE) : S.boolOp op [e] ρ = S.ev e ρ := rfl
noncomputable def SM.allT (S : SM) (op : BoolOp) : List Expr -> CE -> Option (Bool × CE)
 | [], ρ => some ((match op with | .And => true | .Or => false), ρ)
 | e :: r, ρ => match S.it e ρ with
  | none => none
  | some (t, ρ) => match op, t with
   | .And, false => some (false, ρ)
   | .Or, true => some (true, ρ)
   | _, _ => S.allT op r ρ
theorem ae2 (S : SM) (op : BoolOp) (e : Expr) (r : List Expr) (ρ : CE) : S.allT op (e :: r) ρ = match S.it e ρ with | none => none | some (t, ρ) => match op, t with | .And, false => some (false, ρ) | .Or, true => some (true, ρ) | _, _ => S.allT op r ρ := rfl
noncomputable def isTup : CV -> Bool
 | .tup _ => true
 | _ => false
noncomputable def bindNs : List Expr -> List CV -> CE -> Option CE
 | [], cs, ρ => match cs with
  | [] => some ρ
  | _ :: _ => none
 | t :: r, cs, ρ => match cs with
  | [] => none
  | c :: cs => match eName t with
   | none => none
   | some (x, _) => match canSet ρ x with
    | true => bindNs r cs (ρ.set x (.val c))
    | false => none
noncomputable def bindT (t : Expr) (c : CV) (ρ : CE) : Option CE := match eName t with
 | some (x, _) => match canSet ρ x && !isTup c with
  | true => some (ρ.set x (.val c))
  | false => none
 | none => match eTup t with
  | some ts => match c with
   | .list cs => bindNs ts cs ρ
   | .tup cs => bindNs ts cs ρ
   | _ => none
  | none => none
noncomputable def rangeC (a b : Int) : List CV := (List.range (b - a).toNat).map fun (i : Nat) => CV.int (a + (i : Int))
noncomputable def signsC (x : SS) : List CV := x.s.cps.toList.map fun c => .str ⟨⟨#[c]⟩, 1, Nat.le_refl 1⟩
noncomputable def enumC : Nat -> List CV -> List CV
 | _, [] => []
 | i, c :: r => .tup [.int i, c] :: enumC (i + 1) r
theorem adz (i : Nat) (c : CV) (r : List CV) : enumC i (c :: r) = .tup [.int i, c] :: enumC (i + 1) r := rfl
noncomputable def zipC : List CV -> List CV -> List CV
 | a :: r, b :: t => .tup [a, b] :: zipC r t
 | _, _ => []
noncomputable def itemsC : CV -> Option (List CV)
 | .list xs => some xs
 | .str x => some (signsC x)
 | _ => none
variable (G : GE)
noncomputable def isBlt (ρ : CE) (x : Str) : Bool := match ρ.kind x, G.glob x with
 | some .globalImplicit, some .blt => true
 | _, _ => false
noncomputable def nRange : Str := "range"
noncomputable def nEnumerate : Str := "enumerate"
noncomputable def nZip : Str := "zip"
noncomputable def nList : Str := "list"
noncomputable def nLen : Str := "len"
noncomputable def nOrd : Str := "ord"
noncomputable def nChr : Str := "chr"
noncomputable def nSorted : Str := "sorted"
noncomputable def nSplit : Str := "split"
noncomputable def nAppend : Str := "append"
noncomputable def nInsert : Str := "insert"
noncomputable def nPop : Str := "pop"
noncomputable def nStartswith : Str := "startswith"
noncomputable def nEndswith : Str := "endswith"
noncomputable def nFind : Str := "find"
noncomputable def nJoin : Str := "join"
noncomputable def nGet : Str := "get"
noncomputable def nCount : Str := "count"
noncomputable def nIndex : Str := "index"
noncomputable def evInt (a : EV) : Option Int := match a with
 | .val c => cvInt c
 | .ref _ => none
theorem afI {a : EV} {i : Int} (h : evInt a = some i) : a = .val (.int i) := by
 cases a with
 | val c => rw [aak h]
 | ref x => exact aab h
noncomputable def SM.evI (S : SM) (e : Expr) (ρ : CE) : Option (Int × CE) := match S.ev e ρ with
 | none => none
 | some (a, ρ) => match evInt a with
  | none => none
  | some i => some (i, ρ)
set_option tactic.hygienic true
theorem adA {S : SM} {e : Expr} {ρ ρ' : CE} {i : Int} (h : S.evI e ρ = some (i, ρ')) : S.ev e ρ = some (.val (.int i), ρ') := by
 unfold SM.evI at h
 split at h
 · exact aab h
 · rename_i h1
   split at h
   · exact aab h
   · rename_i h2
     cases h
     rw [h1, afI h2]
set_option tactic.hygienic false
theorem af8 {S : SM} {e : Expr} {ρ ρ' : CE} {i : Int} (h : S.ev e ρ = some (.val (.int i), ρ')) : S.evI e ρ = some (i, ρ') := by
 unfold SM.evI
 rw [h]
 rfl
noncomputable def SM.range (S : SM) (args : List Expr) (ρ : CE) : Option (Int × Int × CE) := match args with
 | [] => none
 | e :: r => match S.evI e ρ with
  | none => none
  | some (a, ρ) => match r with
   | [] => match small a with | true => some (0, a, ρ) | false => none
   | f :: t => match S.evI f ρ with
    | none => none
    | some (b, ρ) => match small a && small b && t.isEmpty with | true => some (a, b, ρ) | false => none
inductive Src where
 | plain (e : Expr)
 | range (args : List Expr)
 | enum (e : Expr)
 | zip (e f : Expr)
noncomputable def srcB (e : Expr) (f : Str) (args : List Expr) : Src := match f == nRange with
 | true => .range args
 | false => match f == nEnumerate with
  | true => match l1 args with
   | some x => .enum x
   | none => .plain e
  | false => match f == nZip with
   | true => match l2 args with
    | some (x, y) => .zip x y
    | none => .plain e
   | false => .plain e
noncomputable def srcOf (ρ : CE) (e : Expr) : Src := match eCall e with
 | some (f, args, ks, _) => match eName f with
  | some (f, _) => match isBlt G ρ f && ks.isEmpty with
   | true => srcB e f args
   | false => .plain e
  | none => .plain e
 | none => .plain e
theorem abL {ρ : CE} {f : Str} {p pos : Pos} {args : List Expr} (hb : isBlt G ρ f = true) : srcOf G ρ (.Call (.Name f p) args [] pos) = srcB (.Call (.Name f p) args [] pos) f args := by
 show (match isBlt G ρ f && true with | true => srcB (.Call (.Name f p) args [] pos) f args | false => .plain (.Call (.Name f p) args [] pos)) = _
 rw [hb]; rfl
theorem ae3 {ρ : CE} {e : Expr} {z : Src} (h : srcOf G ρ e = z) : z = .plain e ∨ ∃ f p args pos, e = .Call (.Name f p) args [] pos ∧ isBlt G ρ f = true ∧ (((f == nRange) = true ∧ z = .range args) ∨ ((f == nEnumerate) = true ∧ ∃ x, args = [x] ∧ z = .enum x) ∨ ((f == nZip) = true ∧ ∃ x y, args = [x, y] ∧ z = .zip x y)) := by
 unfold srcOf at h
 cases hc : eCall e with
 | none => rw [hc] at h; exact .inl h.symm
 | some q =>
  obtain ⟨f, args, ks, pos⟩ := q
  rw [hc] at h
  dsimp only at h
  cases hf : eName f with
  | none => rw [hf] at h; exact .inl h.symm
  | some q =>
   obtain ⟨f', p⟩ := q
   rw [hf] at h
   dsimp only at h
   cases hb : isBlt G ρ f' && ks.isEmpty with
   | false => rw [hb] at h; exact .inl h.symm
   | true =>
    rw [hb] at h
    obtain rfl := adf hc
    obtain rfl := aav hf
    have hb := Bool.and_eq_true_iff.mp hb
    obtain rfl := List.isEmpty_iff.mp hb.2
    dsimp only [srcB] at h
    cases hr : f' == nRange with
    | true => rw [hr] at h; exact .inr ⟨_, _, _, _, rfl, hb.1, .inl ⟨hr, h.symm⟩⟩
    | false =>
     rw [hr] at h
     dsimp only at h
     cases he : f' == nEnumerate with
     | true =>
      rw [he] at h
      dsimp only at h
      cases hl : l1 args with
      | none => rw [hl] at h; exact .inl h.symm
      | some x => rw [hl] at h; exact .inr ⟨_, _, _, _, rfl, hb.1, .inr (.inl ⟨he, x, aaO hl, h.symm⟩)⟩
     | false =>
      rw [he] at h
      dsimp only at h
      cases hz : f' == nZip with
      | false => rw [hz] at h; exact .inl h.symm
      | true =>
       rw [hz] at h
       dsimp only at h
       cases hl : l2 args with
       | none => rw [hl] at h; exact .inl h.symm
       | some x => rw [hl] at h; exact .inr ⟨_, _, _, _, rfl, hb.1, .inr (.inr ⟨hz, x.1, x.2, acM hl, h.symm⟩)⟩
noncomputable def SM.evk (S : SM) (k : Bool) (e : Expr) (ρ : CE) : Option (CV × CE) := match k with
 | true => S.evf e ρ
 | false => S.evd e ρ
noncomputable def isTupT (t : Expr) : Bool := match t with
 | .Tuple _ _ _ => true
 | _ => false
noncomputable def SM.items (S : SM) (k : Bool) (t : Expr) (e : Expr) (ρ : CE) : Option (List CV × CE) := match srcOf G ρ e with
 | .plain e => match S.evk k e ρ with
  | none => none
  | some (c, ρ) => match itemsC c with
   | none => none
   | some cs => match Nat.ble cs.length LIM with
    | true => some (cs, ρ)
    | false => none
 | .range args => match S.range args ρ with
  | none => none
  | some (a, b, ρ) => some (rangeC a b, ρ)
 | .enum e => match isTupT t with
  | false => none
  | true => match S.evk k e ρ with
   | some (.list cs, ρ) => match Nat.ble cs.length LIM with
    | true => some (enumC 0 cs, ρ)
    | false => none
   | _ => none
 | .zip e f => match isTupT t && !k with
  | false => none
  | true => match S.evf e ρ with
   | none => none
   | some (a, ρ) => match S.evf f ρ with
    | none => none
    | some (b, ρ) => match cvList a, cvList b with
     | some xs, some ys => some (zipC xs ys, ρ)
     | _, _ => none
noncomputable def loopL (step : CV -> CE -> Option (FC × CE)) : List CV -> CE -> Option (FC × CE)
 | [], ρ => some (.next, ρ)
 | c :: r, ρ => match step c ρ with
  | none => none
  | some (.next, ρ) => loopL step r ρ
  | some (.cont, ρ) => loopL step r ρ
  | some (.brk, ρ) => some (.next, ρ)
  | some (.ret v, ρ) => some (.ret v, ρ)
set_option tactic.hygienic true
theorem abU (step : CV -> CE -> Option (FC × CE)) (c : CV) (r : List CV) (ρ : CE) : loopL step (c :: r) ρ = match step c ρ with | none => none | some (.next, ρ) => loopL step r ρ | some (.cont, ρ) => loopL step r ρ | some (.brk, ρ) => some (.next, ρ) | some (.ret v, ρ) => some (.ret v, ρ) := rfl
theorem af9 (step : CV -> CE -> Option (FC × CE)) (ρ : CE) : loopL step [] ρ = some (.next, ρ) := rfl
noncomputable def whileL (test : CE -> Option (Bool × CE)) (body : CE -> Option (FC × CE)) : Nat -> CE -> Option (FC × CE)
 | 0, _ => none
 | n + 1, ρ => match test ρ with
  | none => none
  | some (false, ρ) => some (.next, ρ)
  | some (true, ρ) => match body ρ with
   | none => none
   | some (.next, ρ) => whileL test body n ρ
   | some (.cont, ρ) => whileL test body n ρ
   | some (.brk, ρ) => some (.next, ρ)
   | some (.ret v, ρ) => some (.ret v, ρ)
theorem ae4 (test : CE -> Option (Bool × CE)) (body : CE -> Option (FC × CE)) (n : Nat) (ρ : CE) : whileL test body (n + 1) ρ = match test ρ with | none => none | some (false, ρ) => some (.next, ρ) | some (true, ρ) => match body ρ with | none => none | some (.next, ρ) => whileL test body n ρ | some (.cont, ρ) => whileL test body n ρ | some (.brk, ρ) => some (.next, ρ) | some (.ret v, ρ) => some (.ret v, ρ) := rfl
noncomputable def ifsL (S : SM) : List Expr -> CE -> Option (Bool × CE)
 | [], ρ => some (true, ρ)
 | e :: r, ρ => match S.it e ρ with
  | none => none
  | some (true, ρ) => ifsL S r ρ
  | some (false, ρ) => some (false, ρ)
set_option tactic.hygienic false
theorem aiw (S : SM) (e : Expr) (r : List Expr) (ρ : CE) : ifsL S (e :: r) ρ = match S.it e ρ with | none => none | some (true, ρ) => ifsL S r ρ | some (false, ρ) => some (false, ρ) := rfl
noncomputable def accL (step : CV -> CE -> List CV -> Option (List CV × CE)) : List CV -> CE -> List CV -> Option (List CV × CE)
 | [], ρ, acc => some (acc, ρ)
 | c :: r, ρ, acc => match step c ρ acc with
  | none => none
  | some (acc, ρ) => accL step r ρ acc
theorem akL (step : CV -> CE -> List CV -> Option (List CV × CE)) (c : CV) (r : List CV) (ρ : CE) (acc : List CV) : accL step (c :: r) ρ acc = match step c ρ acc with | none => none | some (acc, ρ) => accL step r ρ acc := rfl
noncomputable def compL (S : SM) (elt : Expr) (g : Comprehension) (c : CV) (ρ : CE) (acc : List CV) : Option (List CV × CE) := match bindT g.target c ρ with
 | none => none
 | some ρ => match ifsL S g.ifs ρ with
  | none => none
  | some (false, ρ) => some (acc, ρ)
  | some (true, ρ) => match S.ev elt ρ with
   | some (.val v, ρ) => match Nat.ble acc.length LIM with
    | true => some (acc ++ [v], ρ)
    | false => none
   | _ => none
noncomputable def isCellK (k : Option NameKind) : Bool := match k with
 | some .cell => true
 | some .free => true
 | _ => false
noncomputable def valC (sl : Option Slot) : Option CV := match sl with
 | some (.val c) => some c
 | _ => none
noncomputable def taken (ρ : CE) : List (Str × NameKind) -> Option (List (Str × Slot))
 | [] => some []
 | (n, k) :: r => match k with
  | .free => match isCellK (ρ.kind n) with
   | false => none
   | true => match valC (ρ.get n) with
    | none => none
    | some c => match taken ρ r with
     | none => none
     | some l => some ((n, .val c) :: l)
  | _ => taken ρ r
noncomputable def scOk (sc : Scope) : Bool := sc.kind == .function && sc.names.all (fun x => x.2 != .cell) && sc.names.all fun x => sc.names.lookup x.1 == some x.2
noncomputable def lamS (sc : Scope) : Bool := match sc.names.lookup ("shelf" : Str) with
 | some _ => true
 | none => false
noncomputable def SM.comp (S : SM) (elt : Expr) (gens : List Comprehension) (sc : Scope) (ρ : CE) : Option (List CV × CE) := match l1 gens with
 | none => none
 | some g => match scOk sc && !lamS sc && g.is_async == 0 with
  | false => none
  | true => match taken ρ sc.names with
   | none => none
   | some _ => match S.items G false g.target g.iter ρ with
    | none => none
    | some (cs, ρ) => match taken ρ sc.names with
     | none => none
     | some l => match accL (compL S elt g) cs ⟨sc, l⟩ [] with
      | none => none
      | some (acc, _) => some (acc, ρ)
noncomputable def pickC (xs : List CV) (lo hi : Option Int) : List CV :=
 (sliceRange (sliceBounds lo hi none xs.length).1 (sliceBounds lo hi none xs.length).2.1 (sliceBounds lo hi none xs.length).2.2).filterMap (xs[·]?)
variable (G : GE)
noncomputable def frzBut : Option Nat -> List EV -> CE -> Option (List CV × CE)
 | _, [], ρ => some ([], ρ)
 | some 0, _ :: r, ρ => match frzBut none r ρ with
  | some (cs, ρ) => some (.none :: cs, ρ)
  | none => none
 | some (i + 1), a :: r, ρ => match freeze ρ a with
  | none => none
  | some (c, ρ) => match frzBut (some i) r ρ with
   | some (cs, ρ) => some (c :: cs, ρ)
   | none => none
 | none, a :: r, ρ => match freeze ρ a with
  | none => none
  | some (c, ρ) => match frzBut none r ρ with
   | some (cs, ρ) => some (c :: cs, ρ)
   | none => none
noncomputable def SM.kws (S : SM) : List Keyword -> CE -> Option (List (Str × CV) × CE)
 | [], ρ => some ([], ρ)
 | ⟨some n, e, _⟩ :: r, ρ => match S.ev e ρ with
  | some (.val c, ρ) => match S.kws r ρ with
   | some (l, ρ) => some ((n, c) :: l, ρ)
   | none => none
  | _ => none
 | ⟨none, _, _⟩ :: _, _ => none
noncomputable def ownOf (sl : Option Slot) : Option CO := match sl with
 | some (.own o) => some o
 | some (.bor o) => some o
 | _ => none
noncomputable def ownAt (ρ : CE) (x : Str) : Option CO := ownOf (ρ.get x)
noncomputable def reown (sl : Option Slot) (o : CO) : Slot := match sl with
 | some (.bor _) => .bor o
 | _ => .own o
noncomputable def evRef : Option EV -> Option Str
 | some (.ref x) => some x
 | _ => none
noncomputable def SM.callDef (S : SM) (f : FS) (args : List Expr) (kws : List Keyword) (ρ : CE) : Option (EV × CE) := match S.evs args ρ with
 | none => none
 | some (avs, ρ) => match S.kws kws ρ with
  | none => none
  | some (kvs, ρ) => match frzBut f.bor avs ρ with
   | none => none
   | some (cs, ρ) => match f.bor with
    | some i => match evRef avs[i]? with
     | none => none
     | some x => match ownAt ρ x with
      | none => none
      | some o => match f.run (cs.set i o.cv) kvs with
       | none => none
       | some (c, o') => some (.val c, ρ.set x (reown (ρ.get x) o'))
    | none => match f.run cs kvs with
     | none => none
     | some (c, _) => some (.val c, ρ)
noncomputable def lamOk (p : Arguments) : Bool := p.posonlyargs.isEmpty && p.vararg.isNone && p.kwonlyargs.isEmpty && p.kwarg.isNone && p.defaults.isEmpty && p.kw_defaults.isEmpty && p.args.all (fun a => a.arg == ("one" : Str))
noncomputable def noFree (sc : Scope) : Bool := sc.names.all fun x => x.2 != .free
noncomputable def SM.callLam (S : SM) (L : Lam) (cs : List CV) : Option CV := match lamOk L.params && scOk L.scope && !L.scope.isCoroutine && !L.scope.isGenerator && noFree L.scope && !lamS L.scope with
 | false => none
 | true => match L.params.args, cs with
  | [a], [c] => match L.scope.names.lookup a.arg with
   | some .local => match S.ev L.body ⟨L.scope, [(a.arg, .val c)]⟩ with
    | some (.val c, _) => some c
    | _ => none
   | _ => none
  | _, _ => none
noncomputable def findC (x w : SS) (i j : Int) : Int := match Builtin.Str.occurrences x.s w.s (fromIndex x.s.length i) (min x.s.length (fromIndex x.s.length j)) 1 with
 | k :: _ => (k : Int)
 | [] => -1
noncomputable def splitC (x : SS) (y : Str) : List CV := (Txt.split x.s y).map fun p => CV.str (SS.pad p)
noncomputable def joinB (b : Nat) : List SS -> Nat
 | [] => 0
 | x :: r => x.b + b + joinB b r
theorem aeD (sep : SS) : ∀ l : List SS, (Txt.join sep.s (l.map (·.s))).length ≤ joinB sep.b l := by
 intro l
 rw [show Txt.join sep.s (l.map (·.s)) = Str.join sep.s (l.map (·.s)) from StrLaws.glued_eq_join _ _]
 refine Nat.le_trans (StrLaws.join_length_le sep.s _) ?_
 induction l with
 | nil => simp
 | cons x r ih =>
  have h1 := x.h
  have h2 := sep.h
  simp only [List.map_cons, List.sum_cons, List.length_cons, joinB] at ih ⊢
  rw [Nat.succ_mul]
  omega
noncomputable def joinC (sep : SS) (l : List SS) : Option CV := match Nat.ble (joinB sep.b l) LIM && Nat.ble l.length LIM with
 | true => some (.str ⟨Txt.join sep.s (l.map (·.s)), joinB sep.b l, aeD sep l⟩)
 | false => none
noncomputable def sliceC (o : CV) (lo hi : Option Int) : Option CV := match o with
 | .list xs => match Nat.ble xs.length LIM with
  | true => some (.list (pickC xs lo hi))
  | false => none
 | .str x => match Nat.ble x.b LIM with
  | true => some (.str ⟨Txt.slice x.s lo hi, x.b, Nat.le_trans (Txt.slice_le x.s lo hi) x.h⟩)
  | false => none
 | _ => none
inductive MK where
 | append
 | insert
 | pop
 | startswith
 | endswith
 | find
 | join
 | get
 | count
 | index
noncomputable def MK.isMut : MK -> Bool
 | .append => true
 | .insert => true
 | .pop => true
 | _ => false
noncomputable def mkindOf (c : CV) (m : Str) : Option MK := match c with
 | .list _ => match m == nAppend with
  | true => some .append
  | false => match m == nInsert with
   | true => some .insert
   | false => match m == nPop with
    | true => some .pop
    | false => match m == nCount with
     | true => some .count
     | false => match m == nIndex with
      | true => some .index
      | false => none
 | .str _ => match m == nStartswith with
  | true => some .startswith
  | false => match m == nEndswith with
   | true => some .endswith
   | false => match m == nFind with
    | true => some .find
    | false => match m == nJoin with
     | true => some .join
     | false => none
 | .dict _ => match m == nGet with
  | true => some .get
  | false => none
 | _ => none
noncomputable def baseOk (o : Expr) : Bool := match eCall o with
 | some (_, as, ks, _) => !(as.isEmpty && ks.isEmpty)
 | none => true
noncomputable def methOk (o : Expr) (n : Nat) (apos pos : Pos) : Bool := baseOk o && apos.endLine == pos.line && decide (n < 30)
noncomputable def methC (k : MK) (o : CV) (args : List CV) : Option CV := match k with
 | .startswith => match cvStr o, l1 args with
  | some x, some c => match cvStr c with
   | some y => some (.bool (Txt.startswith x.s y.s))
   | none => none
  | _, _ => none
 | .endswith => match cvStr o, l1 args with
  | some x, some c => match cvStr c with
   | some y => some (.bool (Txt.endswith x.s y.s))
   | none => none
  | _, _ => none
 | .find => match cvStr o, args with
  | some x, [a, b, c] => match cvStr a, cvInt b, cvInt c with
   | some y, some i, some j => match small i && small j with
    | true => some (.int (findC x y i j))
    | false => none
   | _, _, _ => none
  | _, _ => none
 | .join => match cvStr o, l1 args with
  | some x, some c => match cvList c with
   | some l => match strsC l with
    | some ss => joinC x ss
    | none => none
   | none => none
  | _, _ => none
 | .get => match cvDict o, args with
  | some es, [a, b] => match cvStr a, cvInt b with
   | some k, some d => match dget es k.s with
    | some c => some c
    | none => some (.int d)
   | _, _ => none
  | _, _ => none
 | .count => match cvList o, l1 args with
  | some xs, some c => match eqOf (fun y => eqN 4 y c) xs with
   | some bs => some (.int (bs.countP id : Nat))
   | none => none
  | _, _ => none
 | .index => match cvList o, l1 args with
  | some xs, some c => match Nat.ble xs.length LIM with
   | true => match eqOf (fun y => eqN 4 y c) xs with
    | some bs => match bs.findIdx? id with
     | some i => some (.int (i : Nat))
     | none => none
    | none => none
   | false => none
  | _, _ => none
 | _ => none
noncomputable def mutC (k : MK) (o : CO) (args : List CV) : Option (CV × CO) := match o with
 | .list xs => match k with
  | .append => match l1 args with
   | some c => match Nat.ble xs.length LIM with
    | true => some (.none, .list (xs ++ [c]))
    | false => none
   | none => none
  | .pop => match l1 args with
   | some a => match cvInt a with
    | some i => match seqIndex? i xs.length with
     | some k => match xs[k]? with
      | some v => match Nat.ble xs.length LIM with
       | true => some (v, .list (xs.eraseIdx k))
       | false => none
      | none => none
     | none => none
    | none => none
   | none => none
  | .insert => match l2 args with
   | some (a, c) => match cvInt a with
    | some i => match Nat.ble xs.length LIM && decide (0 ≤ i) && decide (i ≤ xs.length) with
     | true => some (.none, .list (xs.take i.toNat ++ c :: xs.drop i.toNat))
     | false => none
    | none => none
   | none => none
  | _ => none
noncomputable def runT {α : Type} (n : Nat) (c : Nat -> Nat -> Bool) : PySem.W.KasT α -> Option α
 | .ret a => some a
 | .ask i j k => match Nat.blt i n && Nat.blt j n with
  | true => runT n c (k (c i j))
  | false => none
theorem ahn {α : Type} (n : Nat) (c : Nat -> Nat -> Bool) (i j : Nat) (k : Bool -> PySem.W.KasT α) : runT n c (.ask i j k) = match Nat.blt i n && Nat.blt j n with | true => runT n c (k (c i j)) | false => none := rfl
noncomputable def ltAt (ks : List (List Int)) (i j : Nat) : Bool := ltL (ks.getD i []) (ks.getD j [])
noncomputable def sortP (ks : List (List Int)) : Option (List Nat) := match Nat.ble 2 ks.length with
 | true => match runT ks.length (ltAt ks) (PySem.W.kas_sort ks.length) with
  | some p => some p.toList
  | none => none
 | false => some (List.range ks.length)
noncomputable def pickL (cs : List CV) (p : List Nat) : List CV := p.map fun i => cs.getD i .none
noncomputable def SM.keysOf (S : SM) (L : Lam) : List CV -> Option (List (List Int))
 | [] => some []
 | c :: r => match S.callLam L [c] with
  | none => none
  | some k => match cvList k with
   | none => none
   | some l => match intsC l with
    | none => none
    | some z => match S.keysOf L r with
     | none => none
     | some ks => some (z :: ks)
noncomputable def lenC : CV -> Option Int
 | .list xs => some xs.length
 | .str x => some x.s.length
 | _ => none
noncomputable def bltC (f : Str) (c : CV) : Option CV := match f == nLen with
 | true => match lenC c with
  | some n => match decide (n ≤ 1000000) with
   | true => some (.int n)
   | false => none
  | none => none
 | false => match f == nOrd with
  | true => match c with
   | .str x => match x.s.cps.toList with
    | [n] => some (.int n)
    | _ => none
   | _ => none
  | false => match f == nChr with
   | true => match c with
    | .int (.ofNat n) => match Nat.ble n 0xD7FF || (Nat.ble 0xE000 n && Nat.ble n 0x10FFFF) with
     | true => some (.str ⟨⟨#[n]⟩, 1, Nat.le_refl 1⟩)
     | false => none
    | _ => none
   | false => none
inductive Mk where
 | no
 | disp (es : List Expr)
 | comp (elt : Expr) (gens : List Comprehension) (sc : Scope)
 | listR (args : List Expr)
 | sortK (e l : Expr)
 | split (o e : Expr)
noncomputable def nKey : Str := "key"
noncomputable def kwKey (kws : List Keyword) : Option Expr := match kws with
 | [⟨some n, e, _⟩] => match n == nKey with
  | true => some e
  | false => none
 | _ => none
noncomputable def mkBlt (ρ : CE) (f : Str) (a : Expr) : Mk := match isBlt G ρ f && f == nList with
 | false => .no
 | true => match eCall a with
  | some (g, args, kws, _) => match eName g with
   | some (g, _) => match isBlt G ρ g && g == nRange && kws.isEmpty with
    | true => .listR args
    | false => .no
   | none => .no
  | none => .no
noncomputable def mkCall (ρ : CE) (f : Expr) (a : Expr) (pos : Pos) : Mk := match eName f with
 | some (f, _) => mkBlt G ρ f a
 | none => match eAttr f with
  | some (o, m, apos) => match m == nSplit && methOk o 1 apos pos with
   | true => .split o a
   | false => .no
  | none => .no
noncomputable def mkSort (ρ : CE) (f : Expr) (a : Expr) (kws : List Keyword) : Mk := match eName f with
 | some (f, _) => match isBlt G ρ f && f == nSorted with
  | true => match kwKey kws with
   | some l => .sortK a l
   | none => .no
  | false => .no
 | none => .no
noncomputable def mkOf (ρ : CE) (e : Expr) : Mk := match e with
 | .List es _ => .disp es
 | .ListComp elt gens sc _ => .comp elt gens sc
 | .Call f args kws pos => match l1 args with
  | some a => match kws.isEmpty with
   | true => mkCall G ρ f a pos
   | false => mkSort G ρ f a kws
  | none => .no
 | _ => .no
noncomputable def SM.evv2 (S : SM) (l r : Expr) (ρ : CE) : Option (CV × CV × CE) := match S.ev l ρ with
 | some (.val a, ρ) => match S.ev r ρ with
  | some (.val b, ρ) => some (a, b, ρ)
  | _ => none
 | _ => none
noncomputable def cvLam (c : CV) : Option Lam := match c with | .lam L => some L | _ => none
theorem afJ {c : CV} {L : Lam} (h : cvLam c = some L) : c = .lam L := by cases c <;> first | exact aab h | (cases h; rfl)
noncomputable def slLam (s : Option Slot) : Option Lam := match s with
 | some s => match s with | .val c => cvLam c | _ => none
 | none => none
set_option tactic.hygienic true
theorem afK {s : Option Slot} {L : Lam} (h : slLam s = some L) : s = some (.val (.lam L)) := by
 rcases s with _ | ⟨⟨⟩⟩ <;> first | exact aab h | (cases h; rfl) | (rename_i c; cases c <;> first | exact aab h | (cases h; rfl))
noncomputable def SM.make (S : SM) (k : Mk) (ρ : CE) : Option (CO × CE) := match k with
 | .no => none
 | .disp es => match S.evs es ρ with
  | none => none
  | some (avs, ρ) => match freezes avs ρ with
   | none => none
   | some (cs, ρ) => match Nat.ble cs.length LIM with
    | true => some (.list cs, ρ)
    | false => none
 | .comp elt gens sc => match S.comp G elt gens sc ρ with
  | some (cs, ρ) => some (.list cs, ρ)
  | none => none
 | .listR args => match S.range args ρ with
  | some (a, b, ρ) => some (.list (rangeC a b), ρ)
  | none => none
 | .sortK e l => match S.evf e ρ with
  | none => none
  | some (c, ρ) => match cvList c with
   | none => none
   | some cs => match S.ev l ρ with
    | some (.val d, ρ) => match cvLam d with
     | none => none
     | some L => match S.keysOf L cs with
      | none => none
      | some ks => match sortP ks with
       | none => none
       | some p => match Nat.ble cs.length 63 with
        | true => some (.list (pickL cs p), ρ)
        | false => none
    | _ => none
 | .split o e => match S.evv2 o e ρ with
  | none => none
  | some (a, b, ρ) => match cvStr a, cvStr b with
   | some x, some y => match Nat.ble (x.b + 2) LIM && !(y.s.length == 0) with
    | true => some (.list (splitC x y.s), ρ)
    | false => none
   | _, _ => none
noncomputable def SM.oint (S : SM) : Option Expr -> CE -> Option (Option Int × CE)
 | none, ρ => some (none, ρ)
 | some e, ρ => match S.evI e ρ with
  | none => none
  | some (i, ρ) => some (some i, ρ)
noncomputable def SM.meth (S : SM) (o : Expr) (m : Str) (args : List Expr) (ρ : CE) : Option (EV × CE) := match S.ev o ρ with
 | none => none
 | some (ov, ρ) => match deref ρ ov with
  | none => none
  | some c0 => match mkindOf c0 m with
   | none => none
   | some k => match S.evs args ρ with
    | none => none
    | some (avs, ρ) => match k.isMut with
     | true => match ov with
      | .val _ => none
      | .ref x => match freezes avs ρ with
       | none => none
       | some (cs, ρ) => match ownAt ρ x with
        | none => none
        | some o => match mutC k o cs with
         | some (c, o') => some (.val c, ρ.set x (reown (ρ.get x) o'))
         | none => none
     | false => match deref ρ ov, derefs ρ avs with
      | some oc, some cs => match methC k oc cs with
       | some c => some (.val c, ρ)
       | none => none
      | _, _ => none
noncomputable def isG : Option NameKind -> Bool
 | some .globalImplicit => true
 | _ => false
noncomputable def isL : Option NameKind -> Bool
 | some .local => true
 | _ => false
noncomputable def fnOf : Option GV -> Option FS
 | some (.fn f) => some f
 | _ => none
noncomputable def isB : Option GV -> Bool
 | some .blt => true
 | _ => false
noncomputable def SM.call (S : SM) (f : Str) (args : List Expr) (kws : List Keyword) (ρ : CE) : Option (EV × CE) := match isG (ρ.kind f) with
 | true => match fnOf (G.glob f) with
  | some fs => S.callDef fs args kws ρ
  | none => match isB (G.glob f) with
   | false => none
   | true => match kws.isEmpty with
    | false => none
    | true => match l1 args with
     | none => none
     | some e => match S.evd e ρ with
      | none => none
      | some (c, ρ) => match bltC f c with
       | none => none
       | some v => some (.val v, ρ)
 | false => match isL (ρ.kind f) with
  | false => none
  | true => match kws.isEmpty with
   | false => none
   | true => match slLam (ρ.get f) with
    | none => none
    | some L => match S.evs args ρ with
     | none => none
     | some (avs, ρ) => match freezes avs ρ with
      | none => none
      | some (cs, ρ) => match S.callLam L cs with
       | none => none
       | some c => some (.val c, ρ)
noncomputable def negC (op : UnaryOp) (c : CV) : Option CV := match op, c with
 | .USub, .int i => some (.int (-i))
 | _, _ => none
noncomputable def nameOk (x : Str) : Bool := !(x == ("__debug__" : Str)) && !(x == ("__classdict__" : Str))
noncomputable def evN (S : SM) (e : Expr) (ρ : CE) : Option (EV × CE) := match e with
 | .Constant c _ _ => match constC c with
  | some v => some (.val v, ρ)
  | none => none
 | .Name x _ => match nameOk x with
  | false => none
  | true => match ρ.kind x with
   | some .globalImplicit => match G.glob x with
    | some (.const c) => some (.val c, ρ)
    | _ => none
   | k => match isVar k with
    | true => match ρ.get x with
     | some (.val c) => some (.val c, ρ)
     | some _ => some (.ref x, ρ)
     | none => none
    | false => none
 | .BoolOp op es _ => S.boolOp op es ρ
 | .Compare l ops rs _ => match l1 ops, l1 rs with
  | some op, some r => match behindInMarks op r with
   | true => none
   | false => match S.ev2 l r ρ with
    | some (a, b, ρ) => match cmpC op a b with
     | some t => some (.val (.bool t), ρ)
     | none => none
    | none => none
  | _, _ => none
 | .BinOp l op r _ => match S.ev2 l r ρ with
  | some (a, b, ρ) => match binC op a b with
   | some c => some (.val c, ρ)
   | none => none
  | none => none
 | .UnaryOp op x _ => match S.ev x ρ with
  | some (.val c, ρ) => match negC op c with
   | some v => some (.val v, ρ)
   | none => none
  | _ => none
 | .Lambda p b sc _ => match scOk sc && lamOk p && lamS ρ.scope && noFree sc with
  | true => some (.val (.lam ⟨p, b, sc⟩), ρ)
  | false => none
 | .IfExp t b o _ => match S.it t ρ with
  | some (true, ρ) => S.ev b ρ
  | some (false, ρ) => S.ev o ρ
  | none => none
 | .Call f args kws pos => match eAttr f with
  | some (o, m, apos) => match kws.isEmpty with
   | true => match methOk o args.length apos pos with
    | true => S.meth o m args ρ
    | false => none
   | false => none
  | none => match eName f with
   | some (f, _) => match nameOk f with
    | true => S.call G f args kws ρ
    | false => none
   | none => none
 | .Subscript v i _ => match eSlice i with
  | some (_, _, some _) => none
  | some (lo, hi, none) => match S.ev v ρ with
   | some (a, ρ) => match S.oint lo ρ with
    | some (l, ρ) => match S.oint hi ρ with
     | some (h, ρ) => match deref ρ a with
      | some o => match sliceC o l h with
       | some c => some (.val c, ρ)
       | none => none
      | none => none
     | none => none
    | none => none
   | none => none
  | none => match S.ev2 v i ρ with
   | some (o, k, ρ) => match subC o k with
    | some c => some (.val c, ρ)
    | none => none
   | none => none
 | _ => none
noncomputable def evStep (S : SM) (e : Expr) (ρ : CE) : Option (EV × CE) := match mkOf G ρ e with
 | .no => evN G S e ρ
 | k => match S.make G k ρ with
  | some (o, ρ) => some (.val o.cv, ρ)
  | none => none
noncomputable def itStep (S : SM) (e : Expr) (ρ : CE) : Option (Bool × CE) := match e with
 | .UnaryOp op x _ => match op with
  | .Not => match S.it x ρ with
   | some (b, ρ) => some (!b, ρ)
   | none => none
  | _ => none
 | .BoolOp op es _ => S.allT op es ρ
 | .IfExp _ _ _ _ => none
 | .Compare l ops rs _ => match l1 ops, l1 rs with
  | some op, some r => match behindInMarks op r with
   | true => none
   | false => match S.ev2 l r ρ with
    | some (a, b, ρ) => match cmpC op a b with
     | some t => some (t, ρ)
     | none => none
    | none => none
  | _, _ => none
 | e => match S.evd e ρ with
  | some (c, ρ) => match truthC c with
   | some t => some (t, ρ)
   | none => none
  | none => none
noncomputable def setC (o : CO) (i : CV) (c : CV) : Option CO := match o with
 | .list xs => match cvInt i with
  | some i => match decide (0 ≤ i) && decide (i < xs.length) && Nat.ble xs.length LIM with
   | true => some (.list (xs.set i.toNat c))
   | false => none
  | none => none
noncomputable def delC (o : CO) (i : CV) : Option CO := match o with
 | .list xs => match cvInt i with
  | some i => match seqIndex? i xs.length with
   | some k => match Nat.ble xs.length LIM with
    | true => some (.list (xs.eraseIdx k))
    | false => none
   | none => none
  | none => none
noncomputable def augC (op : Operator) (a b : CV) : Option CV := match op with
 | .Add => match a with
  | .int _ => binC op a b
  | .str _ => binC op a b
  | _ => none
 | .Sub => binC op a b
 | .FloorDiv => binC op a b
 | .Mult => binC op a b
 | _ => none
noncomputable def plainE (e : Expr) : Bool := match e with
 | .ListComp _ _ _ _ => false
 | .SetComp _ _ _ _ => false
 | .DictComp _ _ _ _ _ => false
 | _ => true
noncomputable def notSlice (e : Expr) : Bool := match e with
 | .Slice _ _ _ _ => false
 | _ => true
noncomputable def noStar (e : Expr) : Bool := match e with
 | .Starred _ _ => false
 | _ => true
noncomputable def pairOk (ρ : CE) (x : Str) (px : Pos) (y : Str) (py : Pos) (a b : Expr) : Bool :=
 ρ.kind x == some .local && ρ.kind y == some .local && !(x == y) && px.line == py.line && noStar a && noStar b && !([a, b].all (foldedForSure 8)) && !([a, b].all (constantsAlone 8))
noncomputable def asgN (S : SM) (x : Str) (e : Expr) (ρ : CE) : Option (FC × CE) := match mkOf G ρ e with
 | .no => match plainE e with
  | false => none
  | true => match S.evf e ρ with
   | some (c, ρ) => match canSet ρ x with
    | true => some (.next, ρ.set x (.val c))
    | false => none
   | none => none
 | k => match S.make G k ρ with
  | some (o, ρ) => match canSet ρ x with
   | true => match G.owns x && isL (ρ.kind x) with
    | true => some (.next, ρ.set x (.own o))
    | false => some (.next, ρ.set x (.val o.cv))
   | false => none
  | none => none
noncomputable def asgP (S : SM) (x : Str) (px : Pos) (y : Str) (py : Pos) (a b : Expr) (ρ : CE) : Option (FC × CE) := match pairOk ρ x px y py a b with
 | false => none
 | true => match S.evs [a, b] ρ with
  | none => none
  | some (avs, ρ) => match freezes avs ρ with
   | none => none
   | some (cs, ρ) => match l2 cs with
    | some (c, d) => match canSet ρ x && canSet ρ y with
     | true => some (.next, (ρ.set y (.val d)).set x (.val c))
     | false => none
    | none => none
noncomputable def augN (S : SM) (x : Str) (op : Operator) (e : Expr) (ρ : CE) : Option (FC × CE) := match nameOk x && isVar (ρ.kind x), ρ.get x with
 | true, some (.val a) => match S.ev e ρ with
  | some (.val b, ρ) => match augC op a b with
   | some c => match canSet ρ x with
    | true => some (.next, ρ.set x (.val c))
    | false => none
   | none => none
  | _ => none
 | _, _ => none
noncomputable def augS (S : SM) (d : Str) (i : Expr) (op : Operator) (e : Expr) (ρ : CE) : Option (FC × CE) := match nameOk d && notSlice i, ownAt ρ d with
 | true, some _ => match S.ev i ρ with
  | some (.val k, ρ) => match ownAt ρ d with
   | none => none
   | some o => match subC o.cv k with
    | none => none
    | some a => match S.ev e ρ with
     | some (.val b, ρ) => match augC op a b with
      | none => none
      | some c => match ownAt ρ d with
       | none => none
       | some o => match setC o k c with
        | some o' => some (.next, ρ.set d (reown (ρ.get d) o'))
        | none => none
     | _ => none
  | _ => none
 | _, _ => none
noncomputable def delS (S : SM) (d : Str) (i : Expr) (ρ : CE) : Option (FC × CE) := match nameOk d, ownAt ρ d with
 | true, some _ => match S.ev i ρ with
  | some (.val k, ρ) => match ownAt ρ d with
   | some o => match delC o k with
    | some o' => some (.next, ρ.set d (reown (ρ.get d) o'))
    | none => none
   | none => none
  | _ => none
 | _, _ => none
noncomputable def xsStep (S : SM) (st : Stmt) (ρ : CE) : Option (FC × CE) := match st with
 | .Expr e _ => match plainE e with
  | false => none
  | true => match S.ev e ρ with
   | some (.val .none, ρ) => some (.next, ρ)
   | _ => none
 | .Assign ts e _ => match l1 ts with
  | none => none
  | some t => match eName t with
   | some (x, _) => asgN G S x e ρ
   | none => match eTup t, eTup e with
    | some us, some vs => match l2 us, l2 vs with
     | some (u, v), some (a, b) => match eName u, eName v with
      | some (x, px), some (y, py) => asgP S x px y py a b ρ
      | _, _ => none
     | _, _ => none
    | _, _ => none
 | .AugAssign t op e _ => match eName t with
  | some (x, _) => augN S x op e ρ
  | none => match eSub t with
   | some (a, i, _) => match eName a with
    | some (d, _) => augS S d i op e ρ
    | none => none
   | none => none
 | .Return v _ => match v with
  | some e => match S.evf e ρ with
   | some (c, ρ) => some (.ret c, ρ)
   | none => none
  | none => some (.ret .none, ρ)
 | .If t b o _ => match S.it t ρ with
  | some (true, ρ) => S.xss b ρ
  | some (false, ρ) => S.xss o ρ
  | none => none
 | .For t i b els _ => match els.isEmpty with
  | true => match S.items G true t i ρ with
   | some (cs, ρ1) => loopL (fun c ρ => match bindT t c ρ with
    | some ρ => S.xssD (news ρ1) b ρ
    | none => none) cs ρ1
   | none => none
  | false => none
 | .While t b els _ => match els.isEmpty with
  | true => whileL (S.it t) (S.xssD (news ρ) b) 100 ρ
  | false => none
 | .Assert t m _ => match m with
  | none => match S.it t ρ with
   | some (true, ρ) => some (.next, ρ)
   | _ => none
  | some _ => none
 | .Delete ts _ => match l1 ts with
  | some t => match eSub t with
   | some (a, i, _) => match eName a with
    | some (d, _) => delS S d i ρ
    | none => none
   | none => none
  | none => none
 | _ => none
noncomputable def stepS (S : SM) : SM := ⟨evStep G S, itStep S, xsStep G S⟩
noncomputable def sem : Nat -> SM
 | 0 => SM.bot
 | n + 1 => stepS G (sem n)
structure DD where
 ps : List Str
 dflt : List (Str × CV)
 ko : List (Str × CV)
 body : List Stmt
 scope : Scope
 bor : Option Nat
noncomputable def coOf : CV -> Option CO
 | .list xs => some (.list xs)
 | _ => none
noncomputable def bindPos : Option Nat -> List Str -> List CV -> List (Str × CV) -> Option (List (Str × Slot))
 | _, [], [], _ => some []
 | _, [], _ :: _, _ => none
 | b, p :: ps, [], d => match d.lookup p with
  | some c => match bindPos none ps [] d with
   | some l => some ((p, .val c) :: l)
   | none => none
  | none => none
 | some 0, p :: ps, c :: cs, d => match coOf c with
  | some o => match bindPos none ps cs d with
   | some l => some ((p, .bor o) :: l)
   | none => none
  | none => none
 | some (i + 1), p :: ps, c :: cs, d => match bindPos (some i) ps cs d with
  | some l => some ((p, .val c) :: l)
  | none => none
 | none, p :: ps, c :: cs, d => match bindPos none ps cs d with
  | some l => some ((p, .val c) :: l)
  | none => none
noncomputable def bindKo : List (Str × CV) -> List (Str × CV) -> List (Str × Slot)
 | [], _ => []
 | (k, d) :: r, kvs => (k, .val (match kvs.lookup k with | some c => c | none => d)) :: bindKo r kvs
noncomputable def kwFit (ko kvs : List (Str × CV)) : Bool := match kvs with
 | [] => true
 | [(k, _)] => ko.any fun x => x.1 == k
 | _ => false
noncomputable def lentBack (d : DD) (ρ : CE) : Option CO := match d.bor with
 | none => some (.list [])
 | some i => match d.ps[i]? with
  | none => none
  | some p => match ρ.get p with
   | some (.bor o) => some o
   | _ => none
noncomputable def runDef (G : GE) (n : Nat) (d : DD) (pos : List CV) (kvs : List (Str × CV)) : Option (CV × CO) := match kwFit d.ko kvs with
 | false => none
 | true => match bindPos d.bor d.ps pos d.dflt with
  | none => none
  | some l => match (sem G n).xss d.body ⟨d.scope, l ++ bindKo d.ko kvs⟩ with
   | some (.ret c, ρ) => match lentBack d ρ with
    | some o => some (c, o)
    | none => none
   | some (.next, ρ) => match lentBack d ρ with
    | some o => some (.none, o)
    | none => none
   | _ => none
noncomputable def ddOf (p : Program) (name : Str) (bor : Option Nat) : Option DD := match p.theDef name with
 | some (a, b, sc) => some { ps := a.args.map (·.arg), dflt := [("lo", .int 0), ("hi", .none)], ko := a.kwonlyargs.map fun x => (x.arg, .none), body := b, scope := sc, bor := bor }
 | none => none
end
section
open PySem PySem.Calls
noncomputable abbrev p1 := PySem.Challenge.pw_uk0005_01
noncomputable def opsL : List Str := (["(", ")", "[", "]", ":", ",", ";", "+", "-", "*", "/", "|", "&", "<", ">", "=", ".", "%", "{", "}", "==", "!=", "<=", ">=", "~", "^", "<<", ">>", "**", "+=", "-=", "*=", "/=", "%=", "&=", "|=", "^=", "<<=", ">>=", "**=", "//", "//=", "@", "@=", "->", "...", ":=", "!"] : List String).map Str.ofString
noncomputable def ownsF (x : Str) : Bool := (["ws", "cells", "pool", "drawn", "numbers", "said", "grown", "tails", "begins", "word", "rows", "shelf", "lefts", "rights"] : List String).any fun y => Str.ofString y == x
noncomputable def ddG (n : Str) (bor : Option Nat) : DD := match ddOf p1 n bor with
 | some d => d
 | none => ⟨[], [], [], [], ⟨.module, [], false, false, []⟩, none⟩
noncomputable def stA (b : List Stmt) (i : Nat) : Stmt := match b[i]? with
 | some s => s
 | none => .Pass default
noncomputable def ifB : Stmt -> List Stmt | .If _ b _ _ => b | _ => []
noncomputable def ifO : Stmt -> List Stmt | .If _ _ o _ => o | _ => []
noncomputable def ifT : Stmt -> Expr | .If t _ _ _ => t | _ => default
noncomputable def whT : Stmt -> Expr | .While t _ _ _ => t | _ => default
noncomputable def whB : Stmt -> List Stmt | .While _ b _ _ => b | _ => []
noncomputable def forT : Stmt -> Expr | .For t _ _ _ _ => t | _ => default
noncomputable def forI : Stmt -> Expr | .For _ i _ _ _ => i | _ => default
noncomputable def forB : Stmt -> List Stmt | .For _ _ b _ _ => b | _ => []
noncomputable def bltL : List String := ["len", "range", "ord", "chr", "list", "zip", "enumerate", "sorted"]
noncomputable def b1s : List Int := [173, 847, 6150, 6155, 6156, 6157, 8203, 8204, 8205, 8288, 65279, 65024, 65025, 65026, 65027, 65028, 65029, 65030, 65031, 65032, 65033, 65034, 65035, 65036, 65037, 65038, 65039]
noncomputable def ettI : List (String × Int) := [("!", 54), ("!=", 28), ("%", 24), ("%=", 40), ("&", 19), ("&=", 41), ("(", 7), (")", 8), ("*", 16), ("**", 35), ("**=", 46), ("*=", 38), ("+", 14), ("+=", 36), (",", 12), ("-", 15), ("-=", 37), ("->", 51), (".", 23), ("...", 52), ("/", 17), ("//", 47), ("//=", 48), ("/=", 39), (":", 11), (":=", 53), (";", 13), ("<", 20), ("<<", 33), ("<<=", 44), ("<=", 29), ("=", 22), ("==", 27), (">", 21), (">=", 30), (">>", 34), (">>=", 45), ("@", 49), ("@=", 50), ("[", 9), ("]", 10), ("^", 32), ("^=", 43), ("{", 25), ("|", 18), ("|=", 42), ("}", 26), ("~", 31)]
noncomputable def ettL : List (SS × CV) := ettI.map fun x => (SS.of (Str.ofString x.1), CV.int x.2)
noncomputable def nEM : Str := "ELLIPSIS_MARKER"
noncomputable def nB1 : Str := "b1_set"
noncomputable def nETT : Str := "EXACT_TOKEN_TYPES"
noncomputable def GF (fn : Str -> Option FS) : GE := ⟨fun x => match bltL.any (fun y => Str.ofString y == x) with
 | true => some .blt
 | false => match x == nEM with
  | true => some (.const (.str (SS.of "...")))
  | false => match x == nB1 with
   | true => some (.const (.iset b1s))
   | false => match x == nETT with
    | true => some (.const (.dict ettL))
    | false => match fn x with
     | some f => some (.fn f)
     | none => none, ownsF⟩
section
variable {G : GE} {n : Nat} {ρ ρ1 ρ2 ρ3 ρ4 : CE}
set_option tactic.hygienic false
theorem aaI : sem G (n + 1) = stepS G (sem G n) := rfl
set_option tactic.hygienic true
theorem aaa {S : SM} {st : Stmt} {r : List Stmt} {q : Option (FC × CE)} (h : S.xs st ρ = some (.next, ρ1)) (k : S.xss r ρ1 = q) : S.xss (st :: r) ρ = q := by
 rw [akK]; rw [h]; exact k
set_option tactic.hygienic false
theorem aat {S : SM} {st : Stmt} {r : List Stmt} {c : CV} (h : S.xs st ρ = some (.ret c, ρ1)) : S.xss (st :: r) ρ = some (.ret c, ρ1) := by
 rw [akK]; rw [h]
set_option tactic.hygienic true
theorem aae {S : SM} : S.xss [] ρ = some (.next, ρ) := rfl
set_option tactic.hygienic false
theorem aam {d : DD} {cs : List CV} {kvs : List (Str × CV)} {l : List (Str × Slot)} {c : CV} {o : CO} (h1 : kwFit d.ko kvs = true) (h2 : bindPos d.bor d.ps cs d.dflt = some l) (h3 : (sem G n).xss d.body (⟨d.scope, l ++ bindKo d.ko kvs⟩) = some (.ret c, ρ))
 (h4 : lentBack d ρ = some o) : runDef G n d cs kvs = some (c, o) := by
 unfold runDef
 rw [h1, h2]
 dsimp only
 rw [h3]
 dsimp only
 rw [h4]
set_option tactic.hygienic true
theorem abV {d : DD} {cs : List CV} {kvs : List (Str × CV)} {l : List (Str × Slot)} {o : CO} (h1 : kwFit d.ko kvs = true) (h2 : bindPos d.bor d.ps cs d.dflt = some l) (h3 : (sem G n).xss d.body (⟨d.scope, l ++ bindKo d.ko kvs⟩) = some (.next, ρ))
 (h4 : lentBack d ρ = some o) : runDef G n d cs kvs = some (.none, o) := by
 unfold runDef
 rw [h1, h2]
 dsimp only
 rw [h3]
 dsimp only
 rw [h4]
set_option tactic.hygienic false
theorem aga {S : SM} {l r : Expr} {a b : EV} {x y : CV} (h1 : S.ev l ρ = some (a, ρ1)) (h2 : S.ev r ρ1 = some (b, ρ2)) (d1 : deref ρ2 a = some x) (d2 : deref ρ2 b = some y) : S.ev2 l r ρ = some (x, y, ρ2) := by
 unfold SM.ev2; rw [h1]; dsimp only; rw [h2]; dsimp only; rw [d1, d2]
theorem aaB {l r : Expr} {op : CmpOp} {p : Pos} {x y : CV} {t : Bool} (hm : behindInMarks op r = false) (h : (sem G n).ev2 l r ρ = some (x, y, ρ1)) (hc : cmpC op x y = some t) : (sem G (n + 1)).it (.Compare l [op] [r] p) ρ = some (t, ρ1) := by
 rw [aaI]
 dsimp only [stepS]
 unfold itStep
 dsimp only [l1, l2]
 rw [hm]
 dsimp only
 rw [h]
 dsimp only
 rw [hc]
theorem adg {l r : Expr} {op : CmpOp} {p : Pos} {x y : CV} {t : Bool} (hm : behindInMarks op r = false) (h : (sem G n).ev2 l r ρ = some (x, y, ρ1)) (hc : cmpC op x y = some t) : (sem G (n + 1)).ev (.Compare l [op] [r] p) ρ = some (.val (.bool t), ρ1) := by
 rw [aaI]
 dsimp only [stepS]
 unfold evStep evN
 dsimp only [mkOf, l1, l2, eName, eAttr, eSub, eTup, eCall, eSlice, List.isEmpty]
 rw [hm]
 dsimp only
 rw [h]
 dsimp only
 rw [hc]
theorem aaD {l r : Expr} {op : Operator} {p : Pos} {x y c : CV} (h : (sem G n).ev2 l r ρ = some (x, y, ρ1)) (hc : binC op x y = some c) : (sem G (n + 1)).ev (.BinOp l op r p) ρ = some (.val c, ρ1) := by
 rw [aaI]
 dsimp only [stepS]
 unfold evStep evN
 dsimp only [mkOf, l1, l2, eName, eAttr, eSub, eTup, eCall, eSlice, List.isEmpty]
 rw [h]
 dsimp only
 rw [hc]
theorem abA {v : Expr} {x : Str} {q p : Pos} {a b c : CV} (h : (sem G n).ev2 v (.Name x q) ρ = some (a, b, ρ1)) (hc : subC a b = some c) : (sem G (n + 1)).ev (.Subscript v (.Name x q) p) ρ = some (.val c, ρ1) := by
 rw [aaI]
 dsimp only [stepS]
 unfold evStep evN
 dsimp only [mkOf, l1, l2, eName, eAttr, eSub, eTup, eCall, eSlice, List.isEmpty]
 rw [h]
 dsimp only
 rw [hc]
theorem evs1 {S : SM} {e : Expr} {a : EV} (h : S.ev e ρ = some (a, ρ1)) : S.evs [e] ρ = some ([a], ρ1) := by
 exact abl h rfl
theorem aaq {S : SM} {l r : Expr} {a b : EV} {x y : CV} (h1 : S.ev l ρ = some (a, ρ)) (h2 : S.ev r ρ = some (b, ρ)) (d1 : deref ρ a = some x) (d2 : deref ρ b = some y) : S.ev2 l r ρ = some (x, y, ρ) := aga h1 h2 d1 d2
theorem afL {f : Str} {p pos : Pos} {e : Expr} {L : Lam} {a c : CV} (hm : mkOf G ρ (.Call (.Name f p) [e] [] pos) = .no) (hn : nameOk f = true) (hk : ρ.kind f = some .local) (hg : ρ.get f = some (.val (.lam L))) (h : (sem G n).ev e ρ = some (.val a, ρ1))
 (hc : (sem G n).callLam L [a] = some c) : (sem G (n + 1)).ev (.Call (.Name f p) [e] [] pos) ρ = some (.val c, ρ1) := by
 rw [aaI]
 dsimp only [stepS]
 unfold evStep evN
 rw [hm]
 dsimp only [mkOf, l1, l2, eName, eAttr, eSub, eTup, eCall, eSlice, List.isEmpty]
 rw [hn]
 dsimp only
 unfold SM.call
 rw [hk, hg]
 dsimp only [isG, isL, slLam, cvLam, List.isEmpty]
 rw [evs1 h]
 dsimp only [freezes, freeze]
 rw [hc]
theorem akM {t : Expr} {b o : List Stmt} {p : Pos} {v : Bool} {q : Option (FC × CE)} (h : (sem G n).it t ρ = some (v, ρ1)) (k : (sem G n).xss (match v with | true => b | false => o) ρ1 = q) : (sem G (n + 1)).xs (.If t b o p) ρ = q := by
 rw [aaI]
 dsimp only [stepS]
 unfold xsStep
 dsimp only [l1, l2, eName, eAttr, eSub, eTup, eCall, eSlice, List.isEmpty, asgN, asgP, augN, augS, delS]
 rw [h]
 cases v <;> exact k
theorem aaH {t : Expr} {b o : List Stmt} {p : Pos} {q : Option (FC × CE)} (h : (sem G n).it t ρ = some (true, ρ1)) (k : (sem G n).xss b ρ1 = q) : (sem G (n + 1)).xs (.If t b o p) ρ = q := akM h k
theorem aaz {t : Expr} {b o : List Stmt} {p : Pos} {q : Option (FC × CE)} (h : (sem G n).it t ρ = some (false, ρ1)) (k : (sem G n).xss o ρ1 = q) : (sem G (n + 1)).xs (.If t b o p) ρ = q := akM h k
theorem aau {S : SM} {d : Str -> Bool} {b : List Stmt} {f : FC} (h : S.xss b ρ = some (f, ρ1)) (hd : ρ1.drop d = ρ2) : S.xssD d b ρ = some (f, ρ2) := by
 unfold SM.xssD; rw [h]; dsimp only; rw [hd]
theorem xs_while {t : Expr} {b : List Stmt} {p : Pos} : (sem G (n + 1)).xs (.While t b [] p) ρ = whileL ((sem G n).it t) ((sem G n).xssD (news ρ) b) 100 ρ := by
 rw [aaI]; dsimp only [stepS]; unfold xsStep; rfl
theorem adX {S : SM} {e : Expr} {a : EV} {c : CV} (h : S.ev e ρ = some (a, ρ1)) (hd : deref ρ1 a = some c) : S.evd e ρ = some (c, ρ1) := by
 unfold SM.evd; rw [h]; dsimp only; rw [hd]
theorem abB {S : SM} {e : Expr} {a : EV} {c : CV} (h : S.ev e ρ = some (a, ρ1)) (hd : freeze ρ1 a = some (c, ρ2)) : S.evf e ρ = some (c, ρ2) := by
 unfold SM.evf; rw [h]; exact hd
theorem aaJ {f : Str} {p pos : Pos} {e : Expr} {c v : CV} (hm : mkOf G ρ (.Call (.Name f p) [e] [] pos) = .no) (hn : nameOk f = true) (hk : ρ.kind f = some .globalImplicit) (hg : G.glob f = some .blt) (h : (sem G n).evd e ρ = some (c, ρ1)) (hv : bltC f c = some v) :
 (sem G (n + 1)).ev (.Call (.Name f p) [e] [] pos) ρ = some (.val v, ρ1) := by
 rw [aaI]
 dsimp only [stepS]
 unfold evStep evN
 rw [hm]
 dsimp only [mkOf, l1, l2, eName, eAttr, eSub, eTup, eCall, eSlice, List.isEmpty]
 rw [hn]
 dsimp only
 unfold SM.call
 rw [hk, hg]
 dsimp only [isG, isB, fnOf, l1, List.isEmpty]
 rw [h]
 dsimp only
 rw [hv]
theorem aho {f : Str} {F : FS} (hg : G.glob f = some (.fn F)) : isBlt G ρ f = false := by
 unfold isBlt
 rw [hg]
 generalize ρ.kind f = k
 rcases k with _ | k
 · rfl
 · cases k <;> rfl
theorem aaT {f : Str} {F : FS} {p pos : Pos} {args : List Expr} {kws : List Keyword} (hg : G.glob f = some (.fn F)) : mkOf G ρ (.Call (.Name f p) args kws pos) = .no := by
 have hb : isBlt G ρ f = false := aho hg
 cases args with
 | nil => rfl
 | cons a r =>
  cases r with
  | nil => cases kws with
   | nil => unfold mkOf; dsimp only [l1, List.isEmpty, eName, eAttr, mkCall, mkBlt]; rw [hb]; rfl
   | cons _ _ => unfold mkOf; dsimp only [l1, List.isEmpty, eName, eAttr, mkSort]; rw [hb]; rfl
  | cons _ _ => rfl
set_option tactic.hygienic true
theorem aaF {f : Str} {p pos : Pos} {args : List Expr} {kws : List Keyword} {F : FS} {r : EV} (hn : nameOk f = true) (hk : ρ.kind f = some .globalImplicit) (hg : G.glob f = some (.fn F)) (h : (sem G n).callDef F args kws ρ = some (r, ρ1)) :
 (sem G (n + 1)).ev (.Call (.Name f p) args kws pos) ρ = some (r, ρ1) := by
 rw [aaI]
 dsimp only [stepS]
 unfold evStep evN
 rw [aaT hg]
 dsimp only [mkOf, l1, l2, eName, eAttr, eSub, eTup, eCall, eSlice, List.isEmpty]
 split
 · unfold SM.call
   rw [hk, hg]
   exact h
 · rename_i q; rw [hn] at q; cases q
theorem ae5 {f : Str} {p pos : Pos} {args : List Expr} {kws : List Keyword} {F : FS} {r : EV} (hm : mkOf G ρ (.Call (.Name f p) args kws pos) = .no) (hn : nameOk f = true) (hk : ρ.kind f = some .globalImplicit) (hg : G.glob f = some (.fn F)) (h : (sem G n).callDef F args kws ρ = some (r, ρ1)) :
 (sem G (n + 1)).ev (.Call (.Name f p) args kws pos) ρ = some (r, ρ1) := by
 rw [aaI]
 dsimp only [stepS]
 unfold evStep evN
 rw [hm]
 dsimp only [mkOf, l1, l2, eName, eAttr, eSub, eTup, eCall, eSlice, List.isEmpty]
 split
 · unfold SM.call
   rw [hk, hg]
   exact h
 · rename_i q; rw [hn] at q; cases q
set_option tactic.hygienic false
theorem adY {S : SM} {F : FS} {args : List Expr} {kws : List Keyword} {avs : List EV} {kvs : List (Str × CV)} {cs : List CV} {c : CV} {o : CO} (hb : F.bor = none) (h1 : S.evs args ρ = some (avs, ρ1)) (h2 : S.kws kws ρ1 = some (kvs, ρ2)) (h3 : frzBut none avs ρ2 = some (cs, ρ3)) (h4 : F.run cs kvs = some (c, o)) :
 S.callDef F args kws ρ = some (.val c, ρ3) := by
 unfold SM.callDef
 rw [h1]; dsimp only; rw [h2]; dsimp only; rw [hb, h3]; dsimp only; rw [h4]
theorem acO {S : SM} {F : FS} {i : Nat} {x : Str} {args : List Expr} {kws : List Keyword} {avs : List EV} {kvs : List (Str × CV)} {cs : List CV} {c : CV} {o o' : CO} (hb : F.bor = some i) (h1 : S.evs args ρ = some (avs, ρ1)) (h2 : S.kws kws ρ1 = some (kvs, ρ2)) (h3 : frzBut (some i) avs ρ2 = some (cs, ρ3))
 (hx : avs[i]? = some (.ref x)) (ho : ownAt ρ3 x = some o) (h4 : F.run (cs.set i o.cv) kvs = some (c, o')) : S.callDef F args kws ρ = some (.val c, ρ3.set x (reown (ρ3.get x) o')) := by
 unfold SM.callDef
 rw [h1]; dsimp only; rw [h2]; dsimp only; rw [hb, h3]; dsimp only; rw [hx]; dsimp only [evRef]; rw [ho]; dsimp only; rw [h4]
theorem aac {S : SM} {e : Expr} {r : List Expr} {a : EV} {as : List EV} (h : S.ev e ρ = some (a, ρ)) (k : S.evs r ρ = some (as, ρ)) : S.evs (e :: r) ρ = some (a :: as, ρ) := abl h k
theorem aaj {S : SM} {F : FS} {i : Nat} {x : Str} {args : List Expr} {kws : List Keyword} {avs : List EV} {kvs : List (Str × CV)} {cs : List CV} {c : CV} {o o' : CO} (hb : F.bor = some i) (h1 : S.evs args ρ = some (avs, ρ)) (h2 : S.kws kws ρ = some (kvs, ρ)) (h3 : frzBut (some i) avs ρ = some (cs, ρ))
 (hx : avs[i]? = some (.ref x)) (ho : ownAt ρ x = some o) (h4 : F.run (cs.set i o.cv) kvs = some (c, o')) (he : ρ.set x (reown (ρ.get x) o') = ρ1) : S.callDef F args kws ρ = some (.val c, ρ1) := he ▸ acO hb h1 h2 h3 hx ho h4
theorem aad {S : SM} : S.evs [] ρ = some ([], ρ) := rfl
theorem abw {o : Expr} {m x : Str} {args : List Expr} {apos pos : Pos} {c0 c : CV} {k : MK} {avs : List EV} {cs : List CV} {ob ob' : CO} (hm : mkOf G ρ (.Call (.Attribute o m apos) args [] pos) = .no) (hok : methOk o args.length apos pos = true) (h1 : (sem G n).ev o ρ = some (.ref x, ρ))
 (hd : deref ρ (.ref x) = some c0) (hk : mkindOf c0 m = some k) (hmut : k.isMut = true) (h2 : (sem G n).evs args ρ = some (avs, ρ)) (h3 : freezes avs ρ = some (cs, ρ)) (ho : ownAt ρ x = some ob) (hc : mutC k ob cs = some (c, ob')) (he : ρ.set x (reown (ρ.get x) ob') = ρ1) :
 (sem G (n + 1)).ev (.Call (.Attribute o m apos) args [] pos) ρ = some (.val c, ρ1) := by
 rw [aaI]
 dsimp only [stepS]
 unfold evStep evN
 rw [hm]
 dsimp only [mkOf, l1, l2, eName, eAttr, eSub, eTup, eCall, eSlice, List.isEmpty]
 rw [hok]
 dsimp only
 unfold SM.meth
 rw [h1]; dsimp only; rw [hd]; dsimp only; rw [hk]; dsimp only; rw [h2]; dsimp only; rw [hmut]; dsimp only; rw [h3]; dsimp only; rw [ho]; dsimp only; rw [hc]; dsimp only; rw [he]
theorem aaU {o : Expr} {m : Str} {args : List Expr} {apos pos : Pos} {ov : EV} {c0 c : CV} {k : MK} {avs : List EV} {cs : List CV} (hm : mkOf G ρ (.Call (.Attribute o m apos) args [] pos) = .no) (hok : methOk o args.length apos pos = true) (h1 : (sem G n).ev o ρ = some (ov, ρ))
 (hd : deref ρ ov = some c0) (hk : mkindOf c0 m = some k) (hmut : k.isMut = false) (h2 : (sem G n).evs args ρ = some (avs, ρ)) (h3 : derefs ρ avs = some cs) (hc : methC k c0 cs = some c) :
 (sem G (n + 1)).ev (.Call (.Attribute o m apos) args [] pos) ρ = some (.val c, ρ) := by
 rw [aaI]
 dsimp only [stepS]
 unfold evStep evN
 rw [hm]
 dsimp only [mkOf, l1, l2, eName, eAttr, eSub, eTup, eCall, eSlice, List.isEmpty]
 rw [hok]
 dsimp only
 unfold SM.meth
 rw [h1]; dsimp only; rw [hd]; dsimp only; rw [hk]; dsimp only; rw [h2]; dsimp only; rw [hmut]; dsimp only; rw [hd, h3]; dsimp only; rw [hc]
set_option tactic.hygienic true
theorem adZ {x : Str} {p pos : Pos} {e : Expr} {c : CV} (hm : mkOf G ρ e = .no) (hp : plainE e = true) (h : (sem G n).evf e ρ = some (c, ρ1)) (hc : canSet ρ1 x = true) : (sem G (n + 1)).xs (.Assign [.Name x p] e pos) ρ = some (.next, ρ1.set x (.val c)) := by
 rw [aaI]
 dsimp only [stepS]
 unfold xsStep
 dsimp only [l1, l2, eName, eAttr, eSub, eTup, eCall, eSlice, List.isEmpty, asgN, asgP, augN, augS, delS]
 rw [hm]
 dsimp only
 rw [hp]
 dsimp only
 rw [h]
 dsimp only
 rw [hc]
theorem aal {x : Str} {p pos : Pos} {e : Expr} {c : CV} (hm : mkOf G ρ e = .no) (hp : plainE e = true) (h : (sem G n).ev e ρ = some (.val c, ρ1)) (hc : canSet ρ1 x = true) (he : ρ1.set x (.val c) = ρ2) : (sem G (n + 1)).xs (.Assign [.Name x p] e pos) ρ = some (.next, ρ2) := he ▸ adZ hm hp (abB h rfl) hc
theorem aaV {pos : Pos} {e : Expr} (hp : plainE e = true) (h : (sem G n).ev e ρ = some (.val .none, ρ1)) : (sem G (n + 1)).xs (.Expr e pos) ρ = some (.next, ρ1) := by
 rw [aaI]
 dsimp only [stepS]
 unfold xsStep
 dsimp only [l1, l2, eName, eAttr, eSub, eTup, eCall, eSlice, List.isEmpty, asgN, asgP, augN, augS, delS]
 rw [hp]
 dsimp only
 rw [h]
set_option tactic.hygienic false
theorem ab6 {pos : Pos} {e : Expr} {c : CV} (h : (sem G n).evf e ρ = some (c, ρ1)) : (sem G (n + 1)).xs (.Return (some e) pos) ρ = some (.ret c, ρ1) := by
 rw [aaI]
 dsimp only [stepS]
 unfold xsStep
 dsimp only [l1, l2, eName, eAttr, eSub, eTup, eCall, eSlice, List.isEmpty, asgN, asgP, augN, augS, delS]
 rw [h]
theorem aag {x : Str} {F : FS} (h : fn x = some F) (hx : (GF fn).glob x = (match fn x with | some f => some (.fn f) | none => none)) : (GF fn).glob x = some (.fn F) := by rw [hx, h]
theorem amI {v w j : Expr} {q p : Pos} {a b c : CV} (h : (sem G n).ev2 v (.Subscript w j q) ρ = some (a, b, ρ1)) (hc : subC a b = some c) : (sem G (n + 1)).ev (.Subscript v (.Subscript w j q) p) ρ = some (.val c, ρ1) := by
 rw [aaI]
 dsimp only [stepS]
 unfold evStep evN
 dsimp only [mkOf, l1, l2, eName, eAttr, eSub, eTup, eCall, eSlice, List.isEmpty]
 rw [h]
 dsimp only
 rw [hc]
theorem acn {v l r : Expr} {op : Operator} {q p : Pos} {a b c : CV} (h : (sem G n).ev2 v (.BinOp l op r q) ρ = some (a, b, ρ1)) (hc : subC a b = some c) : (sem G (n + 1)).ev (.Subscript v (.BinOp l op r q) p) ρ = some (.val c, ρ1) := by
 rw [aaI]
 dsimp only [stepS]
 unfold evStep evN
 dsimp only [mkOf, l1, l2, eName, eAttr, eSub, eTup, eCall, eSlice, List.isEmpty]
 rw [h]
 dsimp only
 rw [hc]
theorem adB {v x : Expr} {op : UnaryOp} {q p : Pos} {a b c : CV} (h : (sem G n).ev2 v (.UnaryOp op x q) ρ = some (a, b, ρ1)) (hc : subC a b = some c) : (sem G (n + 1)).ev (.Subscript v (.UnaryOp op x q) p) ρ = some (.val c, ρ1) := by
 rw [aaI]
 dsimp only [stepS]
 unfold evStep evN
 dsimp only [mkOf, l1, l2, eName, eAttr, eSub, eTup, eCall, eSlice, List.isEmpty]
 rw [h]
 dsimp only
 rw [hc]
theorem abW {v : Expr} {k : Const} {kd : Nat} {q p : Pos} {a b c : CV} (h : (sem G n).ev2 v (.Constant k kd q) ρ = some (a, b, ρ1)) (hc : subC a b = some c) : (sem G (n + 1)).ev (.Subscript v (.Constant k kd q) p) ρ = some (.val c, ρ1) := by
 rw [aaI]
 dsimp only [stepS]
 unfold evStep evN
 dsimp only [mkOf, l1, l2, eName, eAttr, eSub, eTup, eCall, eSlice, List.isEmpty]
 rw [h]
 dsimp only
 rw [hc]
theorem it_bool {op : BoolOp} {es : List Expr} {p : Pos} : (sem G (n + 1)).it (.BoolOp op es p) ρ = (sem G n).allT op es ρ := by
 rw [aaI]; rfl
theorem ae6 {S : SM} {op : BoolOp} : S.allT op [] ρ = some ((match op with | .And => true | .Or => false), ρ) := rfl
theorem amJ {S : SM} {e : Expr} {es : List Expr} {t : Bool} {q : Bool} (h : S.it e ρ = some (t, ρ)) (k : t = false -> S.allT .Or es ρ = some (q, ρ)) (hq : t = true -> q = true) : S.allT .Or (e :: es) ρ = some (q, ρ) := by
 rw [ae2]
 rw [h]
 cases t with
 | true => rw [hq rfl]
 | false => exact k rfl
theorem ae7 {S : SM} {e : Expr} {es : List Expr} {t : Bool} {q : Bool} (h : S.it e ρ = some (t, ρ)) (k : t = true -> S.allT .And es ρ = some (q, ρ)) (hq : t = false -> q = false) : S.allT .And (e :: es) ρ = some (q, ρ) := by
 rw [ae2]
 rw [h]
 cases t with
 | false => rw [hq rfl]
 | true => exact k rfl
set_option tactic.hygienic true
theorem aja {x y : Str} {px py tp p' pos : Pos} {k' k'' : Nat} {a b : Expr} {avs : List EV} {c d : CV} (hp : pairOk ρ x px y py a b = true) (h1 : (sem G n).evs [a, b] ρ = some (avs, ρ1)) (h2 : freezes avs ρ1 = some ([c, d], ρ2)) (hc : (canSet ρ2 x && canSet ρ2 y) = true)
 (he : (ρ2.set y (.val d)).set x (.val c) = ρ3) : (sem G (n + 1)).xs (.Assign [.Tuple [.Name x px, .Name y py] k' tp] (.Tuple [a, b] k'' p') pos) ρ = some (.next, ρ3) := by
 rw [aaI]
 dsimp only [stepS]
 unfold xsStep
 dsimp only [l1, l2, eName, eAttr, eSub, eTup, eCall, eSlice, List.isEmpty, asgN, asgP, augN, augS, delS]
 rw [hp]
 dsimp only
 rw [h1]
 dsimp only
 rw [h2]
 dsimp only
 rw [hc, he]
set_option tactic.hygienic false
theorem aba {t i : Expr} {b : List Stmt} {p : Pos} {cs : List CV} {q : Option (FC × CE)} (h : (sem G n).items G true t i ρ = some (cs, ρ1)) (k : loopL (fun c ρ => match bindT t c ρ with | some ρ => (sem G n).xssD (news ρ1) b ρ | none => none) cs ρ1 = q) : (sem G (n + 1)).xs (.For t i b [] p) ρ = q := by
 rw [aaI]
 dsimp only [stepS]
 unfold xsStep
 dsimp only [List.isEmpty]
 rw [h]
 exact k
theorem ad0 {k : Bool} {t a b : Expr} {f : Str} {p pos : Pos} {x y : Int} (hb : isBlt G ρ f = true) (hf : (f == nRange) = true) (h1 : (sem G n).ev a ρ = some (.val (.int x), ρ)) (h2 : (sem G n).ev b ρ = some (.val (.int y), ρ)) (hx : small x = true) (hy : small y = true) :
 (sem G n).items G k t (.Call (.Name f p) [a, b] [] pos) ρ = some (rangeC x y, ρ) := by
 have hs : srcOf G ρ (.Call (.Name f p) [a, b] [] pos) = .range [a, b] := by rw [abL G hb]; unfold srcB; rw [hf]
 unfold SM.items
 rw [hs]
 dsimp only
 unfold SM.range
 dsimp only
 rw [af8 h1]
 dsimp only
 rw [af8 h2]
 dsimp only
 rw [hx, hy]
 rfl
theorem aaA {k : Bool} {t e : Expr} {c : CV} {cs : List CV} (hs : (match srcOf G ρ e with | .plain _ => true | _ => false) = true) (h : (sem G n).evk k e ρ = some (c, ρ1)) (hi : itemsC c = some cs) (hl : Nat.ble cs.length LIM = true) : (sem G n).items G k t e ρ = some (cs, ρ1) := by
 have hs : srcOf G ρ e = .plain e := by
  rcases ae3 G (ρ := ρ) (e := e) rfl with h | ⟨_, _, _, _, _, _, ⟨_, h⟩ | ⟨_, _, _, h⟩ | ⟨_, _, _, _, h⟩⟩ <;> rw [h] at hs ⊢ <;> cases hs
 unfold SM.items
 rw [hs]
 dsimp only
 rw [h]
 dsimp only
 rw [hi]
 dsimp only
 rw [hl]
theorem akI (a b : Int) (h : b ≤ a) : rangeC a b = [] := by
 unfold rangeC
 rw [show (b - a).toNat = 0 by lia]; rfl
theorem ajb (a b : Int) (h : a < b) : rangeC a b = .int a :: rangeC (a + 1) b := by
 unfold rangeC
 obtain ⟨k, hk⟩ : ∃ k, (b - a).toNat = k + 1 := ⟨(b - a).toNat - 1, by lia⟩
 rw [hk, show (b - (a + 1)).toNat = k by omega, List.range_succ_eq_map, List.map_cons, List.map_map]
 congr 1
 · simp
 · apply List.map_congr_left
   intro i _
   simp only [Function.comp]
   congr 1
   lia
theorem aaX {m : Nat} (h : m ≤ 1000) : small (m : Int) = true := by
 unfold small
 rw [decide_eq_true (by lia), decide_eq_true (by lia)]; rfl
set_option tactic.hygienic true
theorem akN {x : Str} {p pos : Pos} {e : Expr} {k : Mk} {o : CO} (hm : mkOf G ρ e = k) (hk : (match k with | .no => false | _ => true) = true) (h : (sem G n).make G k ρ = some (o, ρ1)) (hc : canSet ρ1 x = true) (ho : (G.owns x && isL (ρ1.kind x)) = true) (he : ρ1.set x (.own o) = ρ2) :
 (sem G (n + 1)).xs (.Assign [.Name x p] e pos) ρ = some (.next, ρ2) := by
 rw [aaI]
 dsimp only [stepS]
 unfold xsStep
 dsimp only [l1, l2, eName, eAttr, eSub, eTup, eCall, eSlice, List.isEmpty, asgN, asgP, augN, augS, delS]
 rw [hm]
 cases k <;> first | (cases hk; done) | (dsimp only; rw [h]; dsimp only; rw [hc]; dsimp only; rw [ho, <- he])
theorem agb {x : Str} {p pos : Pos} {e : Expr} {k : Mk} {o : CO} (hm : mkOf G ρ e = k) (hk : (match k with | .no => false | _ => true) = true) (h : (sem G n).make G k ρ = some (o, ρ1)) (hc : canSet ρ1 x = true) (ho : (G.owns x && isL (ρ1.kind x)) = false) (he : ρ1.set x (.val o.cv) = ρ2) :
 (sem G (n + 1)).xs (.Assign [.Name x p] e pos) ρ = some (.next, ρ2) := by
 rw [aaI]
 dsimp only [stepS]
 unfold xsStep
 dsimp only [l1, l2, eName, eAttr, eSub, eTup, eCall, eSlice, List.isEmpty, asgN, asgP, augN, augS, delS]
 rw [hm]
 cases k <;> first | (cases hk; done) | (dsimp only; rw [h]; dsimp only; rw [hc]; dsimp only; rw [ho, <- he])
set_option tactic.hygienic false
theorem afM {S : SM} {o e : Expr} {x y : SS} (h1 : S.ev o ρ = some (.val (.str x), ρ)) (h2 : S.ev e ρ = some (.val (.str y), ρ)) (hb : x.b + 2 ≤ LIM) (hy : (y.s.length == 0) = false) : S.make G (.split o e) ρ = some (.list (splitC x y.s), ρ) := by
 unfold SM.make
 dsimp only
 unfold SM.evv2
 rw [h1]
 dsimp only
 rw [h2]
 dsimp only [cvStr]
 rw [Nat.ble_eq_true_of_le hb, hy]
 rfl
set_option tactic.hygienic true
theorem ahp {z m : Str} {p apos pos' pos : Pos} {o e : Expr} {x y : SS} (hm : (m == nSplit && methOk o 1 apos pos') = true) (h1 : (sem G n).ev o ρ = some (.val (.str x), ρ)) (h2 : (sem G n).ev e ρ = some (.val (.str y), ρ)) (hb : x.b + 2 ≤ LIM) (hy : (y.s.length == 0) = false)
 (hc : canSet ρ z = true) (ho : (G.owns z && isL (ρ.kind z)) = true) (he : ρ.set z (.own (.list (splitC x y.s))) = ρ2) : (sem G (n + 1)).xs (.Assign [.Name z p] (.Call (.Attribute o m apos) [e] [] pos') pos) ρ = some (.next, ρ2) := by
 have hk : mkOf G ρ (.Call (.Attribute o m apos) [e] [] pos') = .split o e := by unfold mkOf; dsimp only [l1, List.isEmpty]; show (match m == nSplit && methOk o 1 apos pos' with | true => Mk.split o e | false => Mk.no) = _; rw [hm]
 exact akN hk rfl (afM h1 h2 hb hy) hc ho he
theorem agc {t : Expr} {pos : Pos} (h : (sem G n).it t ρ = some (true, ρ1)) : (sem G (n + 1)).xs (.Assert t none pos) ρ = some (.next, ρ1) := by
 rw [aaI]
 dsimp only [stepS]
 unfold xsStep
 dsimp only [l1, l2, eName, eAttr, eSub, eTup, eCall, eSlice, List.isEmpty, asgN, asgP, augN, augS, delS]
 rw [h]
set_option tactic.hygienic false
theorem aco {x : Str} {p : Pos} {c : CV} {t : Bool} (h : (sem G n).ev (.Name x p) ρ = some (.val c, ρ)) (ht : truthC c = some t) : (sem G (n + 1)).it (.Name x p) ρ = some (t, ρ) := by
 rw [aaI]
 dsimp only [stepS]
 unfold itStep
 dsimp only [l1, l2]
 rw [adX h rfl]
 dsimp only
 rw [ht]
theorem acF {o : Expr} {m : Str} {args : List Expr} {apos pos : Pos} {c : CV} {t : Bool} (h : (sem G n).ev (.Call (.Attribute o m apos) args [] pos) ρ = some (.val c, ρ)) (ht : truthC c = some t) : (sem G (n + 1)).it (.Call (.Attribute o m apos) args [] pos) ρ = some (t, ρ) := by
 rw [aaI]
 dsimp only [stepS]
 unfold itStep
 dsimp only [l1, l2]
 rw [adX h rfl]
 dsimp only
 rw [ht]
theorem abe {w : SS} (h : w.b ≤ 16777216) : truthC (.str w) = some (!(w.s.length == 0)) := by
 unfold truthC
 dsimp only
 rw [Nat.ble_eq_true_of_le h]
set_option tactic.hygienic true
theorem aix {d : Str} {i : Expr} {dp ip pos : Pos} {o0 o' : CO} {kv : CV} (hn : nameOk d = true) (h0 : ownAt ρ d = some o0) (h1 : (sem G n).ev i ρ = some (.val kv, ρ)) (h2 : delC o0 kv = some o') (he : ρ.set d (reown (ρ.get d) o') = ρ1) :
 (sem G (n + 1)).xs (.Delete [.Subscript (.Name d dp) i ip] pos) ρ = some (.next, ρ1) := by
 rw [aaI]
 dsimp only [stepS]
 unfold xsStep
 dsimp only [l1, l2, eName, eAttr, eSub, eTup, eCall, eSlice, List.isEmpty, asgN, asgP, augN, augS, delS]
 rw [hn, h0]
 dsimp only
 rw [h1]
 dsimp only
 rw [h0]
 dsimp only
 rw [h2]
 dsimp only
 rw [he]
theorem acx {x : Str} {op : Operator} {e : Expr} {p pos : Pos} {a b c : CV} (hn : (nameOk x && isVar (ρ.kind x)) = true) (hg : ρ.get x = some (.val a)) (h : (sem G n).ev e ρ = some (.val b, ρ)) (hc : augC op a b = some c) (hs : canSet ρ x = true) (he : ρ.set x (.val c) = ρ1) :
 (sem G (n + 1)).xs (.AugAssign (.Name x p) op e pos) ρ = some (.next, ρ1) := by
 rw [aaI]
 dsimp only [stepS]
 unfold xsStep
 dsimp only [l1, l2, eName, eAttr, eSub, eTup, eCall, eSlice, List.isEmpty, asgN, asgP, augN, augS, delS]
 rw [hn, hg]
 dsimp only
 rw [h]
 dsimp only
 rw [hc]
 dsimp only
 rw [hs, he]
set_option tactic.hygienic false
theorem adC {l : List CV} {c : CV} (hl : l.length ≤ 1000) : subC (.list (l ++ [c])) (.int (-1)) = some c := by
 show subAtList (l ++ [c]) (-1) = some c
 have e : seqIndex? (-1) (l ++ [c]).length = some l.length := by
  unfold seqIndex?
  simp
  omega
 have e2 : Nat.ble (l ++ [c]).length LIM = true := Nat.ble_eq_true_of_le (by rw [List.length_append]; unfold LIM; simp; omega)
 unfold subAtList
 rw [e]; dsimp only; rw [e2]; dsimp only
 simp
theorem agd {l : List CV} {c : CV} (hl : l.length ≤ 1000) : delC (.list (c :: l)) (.int 0) = some (.list l) := by
 have e : seqIndex? 0 (c :: l).length = some 0 := by
  unfold seqIndex?
  simp
 have e2 : Nat.ble (c :: l).length LIM = true := Nat.ble_eq_true_of_le (by rw [List.length_cons]; unfold LIM; omega)
 unfold delC
 dsimp only [cvInt]
 rw [e]; dsimp only; rw [e2]; rfl
theorem ahq {l : List CV} {c : CV} (hl : l.length ≤ 1000) : delC (.list (l ++ [c])) (.int (-1)) = some (.list l) := by
 have e : seqIndex? (-1) (l ++ [c]).length = some l.length := by
  unfold seqIndex?
  simp
  omega
 have e2 : Nat.ble (l ++ [c]).length LIM = true := Nat.ble_eq_true_of_le (by rw [List.length_append]; unfold LIM; simp; omega)
 unfold delC
 dsimp only [cvInt]
 rw [e]; dsimp only; rw [e2]; dsimp only
 congr 2
 simp [List.eraseIdx_append_of_length_le]
theorem aan {S : SM} {F : FS} {args : List Expr} {kws : List Keyword} {avs : List EV} {kvs : List (Str × CV)} {cs : List CV} {c : CV} {o : CO} (hb : F.bor = none) (h1 : S.evs args ρ = some (avs, ρ)) (h2 : S.kws kws ρ = some (kvs, ρ)) (h3 : frzBut none avs ρ = some (cs, ρ)) (h4 : F.run cs kvs = some (c, o)) :
 S.callDef F args kws ρ = some (.val c, ρ) := adY hb h1 h2 h3 h4
theorem ajc {o : Expr} {m x : Str} {args : List Expr} {apos pos : Pos} {c0 c : CV} {k : MK} {avs : List EV} {cs : List CV} {ob ob' : CO} (hm : mkOf G ρ (.Call (.Attribute o m apos) args [] pos) = .no) (hok : methOk o args.length apos pos = true) (h1 : (sem G n).ev o ρ = some (.ref x, ρ1))
 (hd : deref ρ1 (.ref x) = some c0) (hk : mkindOf c0 m = some k) (hmut : k.isMut = true) (h2 : (sem G n).evs args ρ1 = some (avs, ρ2)) (h3 : freezes avs ρ2 = some (cs, ρ3)) (ho : ownAt ρ3 x = some ob) (hc : mutC k ob cs = some (c, ob')) (he : ρ3.set x (reown (ρ3.get x) ob') = ρ4) :
 (sem G (n + 1)).ev (.Call (.Attribute o m apos) args [] pos) ρ = some (.val c, ρ4) := by
 rw [aaI]
 dsimp only [stepS]
 unfold evStep evN
 rw [hm]
 dsimp only [mkOf, l1, l2, eName, eAttr, eSub, eTup, eCall, eSlice, List.isEmpty]
 rw [hok]
 dsimp only
 unfold SM.meth
 rw [h1]; dsimp only; rw [hd]; dsimp only; rw [hk]; dsimp only; rw [h2]; dsimp only; rw [hmut]; dsimp only; rw [h3]; dsimp only; rw [ho]; dsimp only; rw [hc]; dsimp only; rw [he]
theorem appC {xs : List CV} {c : CV} (h : xs.length ≤ LIM) : mutC .append (.list xs) [c] = some (.none, .list (xs ++ [c])) := by
 unfold mutC
 dsimp only [l1, l2, cvInt]
 rw [Nat.ble_eq_true_of_le h]
theorem abz {m : Nat} {c : CV} (h : xs[m]? = some c) (hl : xs.length ≤ 1000) : subC (.list xs) (.int (m : Int)) = some c := by
 have hlt : m < xs.length := by
  rcases Nat.lt_or_ge m xs.length with q | q
  · exact q
  · rw [List.getElem?_eq_none q] at h; cases h
 have e : seqIndex? (m : Int) xs.length = some m := by
  unfold seqIndex?
  simp
  omega
 have e2 : Nat.ble xs.length LIM = true := Nat.ble_eq_true_of_le (by unfold LIM; omega)
 show subAtList xs (m : Int) = some c
 unfold subAtList
 rw [e]; dsimp only; rw [e2]; exact h
theorem half (lo hi : Nat) : Int.fdiv ((lo : Int) + (hi : Int)) 2 = (((lo + hi) / 2 : Nat) : Int) := by
 rw [<- Int.natCast_add, show (2 : Int) = ((2 : Nat) : Int) from rfl]
 rw [Int.fdiv_eq_ediv_of_nonneg _ (by omega)]
 norm_cast
theorem acB (hl : xs.length ≤ 1000) : bltC nLen (.list xs) = some (.int xs.length) := by
 have e : (nLen == nLen) = true := by simp
 unfold bltC
 rw [e]
 dsimp only [lenC]
 have : decide ((xs.length : Int) ≤ 1000000) = true := decide_eq_true (by omega)
 rw [this]
noncomputable def insAt (xs : List CV) (i : Nat) (c : CV) : List CV := xs.take i ++ c :: xs.drop i
theorem insC {i : Nat} (hi : i ≤ xs.length) (hl : xs.length ≤ 1000) : mutC .insert (.list xs) [.int (i : Int), c] = some (.none, .list (insAt xs i c)) := by
 unfold mutC
 dsimp only [l1, l2, cvInt]
 have e1 : Nat.ble xs.length LIM = true := Nat.ble_eq_true_of_le (by unfold LIM; omega)
 have e2 : decide (0 ≤ (i : Int)) = true := decide_eq_true (by omega)
 have e3 : decide ((i : Int) ≤ xs.length) = true := decide_eq_true (by omega)
 rw [e1, e2, e3]
 rfl
end
noncomputable def dEM : DD := ddG "_ellipsis_match" none
noncomputable def dots : Str := "..."
noncomputable def frE (w g : SS) (tail : List (Str × Slot)) : CE := ⟨dEM.scope, ("want", .val (.str w)) :: ("got", .val (.str g)) :: tail⟩
noncomputable def tw (ws : Slot) : List (Str × Slot) := [("ws", ws)]
noncomputable def te (ws : Slot) (ep sp : Int) : List (Str × Slot) := [("ws", ws), ("endpos", .val (.int ep)), ("startpos", .val (.int sp))]
noncomputable def tf (ws : Slot) (ep sp : Int) (w : SS) : List (Str × Slot) := [("ws", ws), ("endpos", .val (.int ep)), ("startpos", .val (.int sp)), ("w", .val (.str w))]
noncomputable def sv (l : List SS) : List CV := l.map CV.str
section
variable {fn : Str -> Option FS} {w g x : SS} {ws : List SS} {ep sp : Int}
set_option tactic.hygienic false
theorem ajd (hin : (Builtin.Str.occurrences w.s dots 0 w.s.length 1).isEmpty = true) : runDef (GF fn) 12 dEM [.str w, .str g] [] = some (.bool (w.s == g.s), .list []) := by
 have hc : cmpC .NotIn (.str (SS.of "...")) (.str w) = some true := by
  show onot (some (!(Builtin.Str.occurrences w.s dots 0 w.s.length 1).isEmpty)) = _
  rw [hin]; rfl
 have s0 : (sem (GF fn) 12).xs (stA dEM.body 0) (frE w g []) = some (.ret (.bool (w.s == g.s)), frE w g []) :=
  aaH (ρ1 := frE w g []) (aaB (x := .str (SS.of "...")) (y := .str w) (by ext) (by ext) hc) (aat (by ext))
 exact aam (l := [("want", .val (.str w)), ("got", .val (.str g))]) (by ext) (by ext) (aat s0) rfl
set_option tactic.hygienic true
theorem amK (hin : (Builtin.Str.occurrences w.s dots 0 w.s.length 1).isEmpty = false) : (sem (GF fn) 12).xs (stA dEM.body 0) (frE w g []) = some (.next, frE w g []) := by
 have hc : cmpC .NotIn (.str (SS.of "...")) (.str w) = some false := by
  show onot (some (!(Builtin.Str.occurrences w.s dots 0 w.s.length 1).isEmpty)) = _
  rw [hin]; rfl
 exact aaz (ρ1 := frE w g []) (aaB (x := .str (SS.of "...")) (y := .str w) (by ext) (by ext) hc) (by ext)
theorem amL (hb : w.b + 2 ≤ LIM) : (sem (GF fn) 12).xs (stA dEM.body 1) (frE w g []) = some (.next, frE w g (tw (.own (.list (splitC w dots))))) :=
 ahp (x := w) (y := SS.of "...") (by ext) (by ext) (by ext) hb (by ext) (by ext) (by ext) (by ext)
theorem amM (h2 : 2 ≤ ws.length) (hl : ws.length ≤ 900) : (sem (GF fn) 12).xs (stA dEM.body 2) (frE w g (tw (.own (.list (sv ws))))) = some (.next, frE w g (tw (.own (.list (sv ws))))) := by
 have hlen : (sv ws).length = ws.length := by unfold sv; rw [List.length_map]
 refine agc (aaB (x := .int (sv ws).length) (y := .int 2) (by ext) (aaq (a := .val (.int (sv ws).length)) (b := .val (.int 2)) (aaJ (c := .list (sv ws)) (by ext) (by ext) (by ext) (by ext) (by ext) (acB (by omega))) (by ext) rfl rfl) ?_)
 show some (decide (((sv ws).length : Int) ≥ 2)) = some true
 rw [decide_eq_true (by omega)]
set_option tactic.hygienic false
theorem ab7 (hl : x.s.length ≤ 100000) : bltC nLen (.str x) = some (.int x.s.length) := by
 have e : (nLen == nLen) = true := by simp
 unfold bltC
 rw [e]
 dsimp only [lenC]
 have : decide ((x.s.length : Int) ≤ 1000000) = true := decide_eq_true (by omega)
 rw [this]
set_option tactic.hygienic true
theorem amN (hg : g.s.length ≤ 1000) : (sem (GF fn) 12).xs (stA dEM.body 3) (frE w g (tw (.own (.list (sv ws))))) = some (.next, frE w g (te (.own (.list (sv ws))) g.s.length 0)) :=
 aja (avs := [.val (.int 0), .val (.int g.s.length)]) (c := .int 0) (d := .int g.s.length) (ρ1 := frE w g (tw (.own (.list (sv ws))))) (ρ2 := frE w g (tw (.own (.list (sv ws))))) (by ext)
  (aac (by ext) (aac (aaJ (c := .str g) (by ext) (by ext) (by ext) (by ext) (by ext) (ab7 (by omega))) aad)) rfl (by ext) (by ext)
theorem amO (hl : ws.length ≤ 900) : (sem (GF fn) 12).xs (stA dEM.body 4) (frE w g (te (.own (.list (sv (x :: ws)))) ep sp)) = some (.next, frE w g (tf (.own (.list (sv (x :: ws)))) ep sp x)) :=
 aal (ρ1 := frE w g (te (.own (.list (sv (x :: ws)))) ep sp)) (by ext) (by ext) (abW (a := .list (sv (x :: ws))) (b := .int 0) (by ext) (abz (m := 0) rfl (by unfold sv; simp; omega))) (by ext) (by ext)
theorem age (hx : (x.s.length == 0) = false) (hb : x.b ≤ 16777216) (hs : Txt.startswith g.s x.s = true) (hl : ws.length ≤ 900) (hxl : x.s.length ≤ 1000) :
 (sem (GF fn) 12).xs (stA dEM.body 5) (frE w g (tf (.own (.list (sv (x :: ws)))) ep sp x)) = some (.next, frE w g (tf (.own (.list (sv ws))) ep x.s.length x)) := by
 refine aaH (ρ1 := frE w g (tf (.own (.list (sv (x :: ws)))) ep sp x)) (aco (c := .str x) (by ext) (by rw [abe hb, hx]; rfl)) (aaa (ρ1 := frE w g (tf (.own (.list (sv ws))) ep x.s.length x)) (aaH (ρ1 := frE w g (tf (.own (.list (sv (x :: ws)))) ep sp x)) ?_ (aaa (ρ1 := frE w g (tf (.own (.list (sv (x :: ws)))) ep x.s.length x)) ?_ (aaa (ρ1 := frE w g (tf (.own (.list (sv ws))) ep x.s.length x)) ?_ aae))) aae)
 · exact acF (c := .bool true) (aaU (ov := .val (.str g)) (k := .startswith) (avs := [.val (.str x)]) (cs := [.str x]) (c0 := .str g) (by ext) (by ext) (by ext) (by ext) (by ext) rfl (aac (by ext) aad) (by ext) (by show some (CV.bool (Txt.startswith g.s x.s)) = _; rw [hs])) rfl
 · exact aal (c := .int x.s.length) (ρ1 := frE w g (tf (.own (.list (sv (x :: ws)))) ep sp x)) (by ext) (by ext) (aaJ (c := .str x) (by ext) (by ext) (by ext) (by ext) (by ext) (ab7 (by omega))) (by ext) (by ext)
 · exact aix (o0 := .list (sv (x :: ws))) (o' := .list (sv ws)) (kv := .int 0) (by ext) (by ext) (by ext) (agd (by rw [List.length_map]; omega)) (by ext)
set_option tactic.hygienic false
theorem agf (hx : (x.s.length == 0) = false) (hb : x.b ≤ 16777216) (hs : Txt.startswith g.s x.s = false) :
 (sem (GF fn) 12).xs (stA dEM.body 5) (frE w g (tf (.own (.list (sv (x :: ws)))) ep sp x)) = some (.ret (.bool false), frE w g (tf (.own (.list (sv (x :: ws)))) ep sp x)) := by
 refine aaH (ρ1 := frE w g (tf (.own (.list (sv (x :: ws)))) ep sp x)) (aco (c := .str x) (by ext) (by rw [abe hb, hx]; rfl)) (aat (aaz (ρ1 := frE w g (tf (.own (.list (sv (x :: ws)))) ep sp x)) ?_ (by ext)))
 exact acF (c := .bool false) (aaU (ov := .val (.str g)) (k := .startswith) (avs := [.val (.str x)]) (cs := [.str x]) (c0 := .str g) (by ext) (by ext) (by ext) (by ext) (by ext) rfl (aac (by ext) aad) (by ext) (by show some (CV.bool (Txt.startswith g.s x.s)) = _; rw [hs])) rfl
set_option tactic.hygienic true
theorem agg (hx : (x.s.length == 0) = true) (hb : x.b ≤ 16777216) :
 (sem (GF fn) 12).xs (stA dEM.body 5) (frE w g (tf (.own (.list (sv (x :: ws)))) ep sp x)) = some (.next, frE w g (tf (.own (.list (sv (x :: ws)))) ep sp x)) :=
 aaz (ρ1 := frE w g (tf (.own (.list (sv (x :: ws)))) ep sp x)) (aco (c := .str x) (by ext) (by rw [abe hb, hx]; rfl)) (by ext)
set_option tactic.hygienic false
theorem agh : sv (ws ++ [x]) = sv ws ++ [.str x] := by unfold sv; rw [List.map_append]; rfl
set_option tactic.hygienic true
theorem amP {y : SS} (hl : ws.length ≤ 900) : (sem (GF fn) 12).xs (stA dEM.body 6) (frE w g (tf (.own (.list (sv (ws ++ [x])))) ep sp y)) = some (.next, frE w g (tf (.own (.list (sv (ws ++ [x])))) ep sp x)) := by
 have hs : subC (.list (sv (ws ++ [x]))) (.int (-1)) = some (.str x) := by rw [agh]; exact adC (by unfold sv; rw [List.length_map]; omega)
 exact aal (ρ1 := frE w g (tf (.own (.list (sv (ws ++ [x])))) ep sp y)) (by ext) (by ext) (adB (a := .list (sv (ws ++ [x]))) (b := .int (-1)) (by ext) hs) (by ext) (by ext)
theorem aje (hx : (x.s.length == 0) = false) (hb : x.b ≤ 16777216) (hs : Txt.endswith g.s x.s = true) (hl : ws.length ≤ 900) (hxl : x.s.length ≤ 1000) :
 (sem (GF fn) 12).xs (stA dEM.body 7) (frE w g (tf (.own (.list (sv (ws ++ [x])))) ep sp x)) = some (.next, frE w g (tf (.own (.list (sv ws))) (ep - x.s.length) sp x)) := by
 have hd : delC (.list (sv (ws ++ [x]))) (.int (-1)) = some (.list (sv ws)) := by rw [agh]; exact ahq (by unfold sv; rw [List.length_map]; omega)
 refine aaH (ρ1 := frE w g (tf (.own (.list (sv (ws ++ [x])))) ep sp x)) (aco (c := .str x) (by ext) (by rw [abe hb, hx]; rfl)) (aaa (ρ1 := frE w g (tf (.own (.list (sv ws))) (ep - x.s.length) sp x)) (aaH (ρ1 := frE w g (tf (.own (.list (sv (ws ++ [x])))) ep sp x)) ?_ (aaa (ρ1 := frE w g (tf (.own (.list (sv (ws ++ [x])))) (ep - x.s.length) sp x)) ?_ (aaa (ρ1 := frE w g (tf (.own (.list (sv ws))) (ep - x.s.length) sp x)) ?_ aae))) aae)
 · exact acF (c := .bool true) (aaU (ov := .val (.str g)) (k := .endswith) (avs := [.val (.str x)]) (cs := [.str x]) (c0 := .str g) (by ext) (by ext) (by ext) (by ext) (by ext) rfl (aac (by ext) aad) (by ext) (by show some (CV.bool (Txt.endswith g.s x.s)) = _; rw [hs])) rfl
 · exact acx (a := .int ep) (b := .int x.s.length) (c := .int (ep - x.s.length)) (by ext) (by ext) (aaJ (c := .str x) (by ext) (by ext) (by ext) (by ext) (by ext) (ab7 (by omega))) (by ext) (by ext) (by ext)
 · exact aix (o0 := .list (sv (ws ++ [x]))) (o' := .list (sv ws)) (kv := .int (-1)) (by ext) (by ext) (by ext) hd (by ext)
set_option tactic.hygienic false
theorem ajf (hx : (x.s.length == 0) = false) (hb : x.b ≤ 16777216) (hs : Txt.endswith g.s x.s = false) :
 (sem (GF fn) 12).xs (stA dEM.body 7) (frE w g (tf (.own (.list (sv ws))) ep sp x)) = some (.ret (.bool false), frE w g (tf (.own (.list (sv ws))) ep sp x)) := by
 refine aaH (ρ1 := frE w g (tf (.own (.list (sv ws))) ep sp x)) (aco (c := .str x) (by ext) (by rw [abe hb, hx]; rfl)) (aat (aaz (ρ1 := frE w g (tf (.own (.list (sv ws))) ep sp x)) ?_ (by ext)))
 exact acF (c := .bool false) (aaU (ov := .val (.str g)) (k := .endswith) (avs := [.val (.str x)]) (cs := [.str x]) (c0 := .str g) (by ext) (by ext) (by ext) (by ext) (by ext) rfl (aac (by ext) aad) (by ext) (by show some (CV.bool (Txt.endswith g.s x.s)) = _; rw [hs])) rfl
set_option tactic.hygienic true
theorem ajg (hx : (x.s.length == 0) = true) (hb : x.b ≤ 16777216) :
 (sem (GF fn) 12).xs (stA dEM.body 7) (frE w g (tf (.own (.list (sv ws))) ep sp x)) = some (.next, frE w g (tf (.own (.list (sv ws))) ep sp x)) :=
 aaz (ρ1 := frE w g (tf (.own (.list (sv ws))) ep sp x)) (aco (c := .str x) (by ext) (by rw [abe hb, hx]; rfl)) (by ext)
set_option tactic.hygienic false
theorem akO (h : decide (sp > ep) = true) : (sem (GF fn) 12).xs (stA dEM.body 8) (frE w g (tf (.own (.list (sv ws))) ep sp x)) = some (.ret (.bool false), frE w g (tf (.own (.list (sv ws))) ep sp x)) :=
 aaH (ρ1 := frE w g (tf (.own (.list (sv ws))) ep sp x)) (aaB (x := .int sp) (y := .int ep) (by ext) (by ext) (by show some (decide (sp > ep)) = _; rw [h])) (by ext)
set_option tactic.hygienic true
theorem aiy (h : decide (sp > ep) = false) : (sem (GF fn) 12).xs (stA dEM.body 8) (frE w g (tf (.own (.list (sv ws))) ep sp x)) = some (.next, frE w g (tf (.own (.list (sv ws))) ep sp x)) :=
 aaz (ρ1 := frE w g (tf (.own (.list (sv ws))) ep sp x)) (aaB (x := .int sp) (y := .int ep) (by ext) (by ext) (by show some (decide (sp > ep)) = _; rw [h])) (by ext)
noncomputable def emB : List Stmt := forB (stA dEM.body 9)
noncomputable def emLoop (g : SS) (ep : Int) : List SS -> Int -> Bool
 | [], _ => true
 | w :: r, sp => match decide (findC g w sp ep < 0) with
  | true => false
  | false => emLoop g ep r (findC g w sp ep + w.s.length)
set_option tactic.hygienic false
theorem aaY (g : SS) (ep : Int) (w : SS) (r : List SS) (sp : Int) : emLoop g ep (w :: r) sp = match decide (findC g w sp ep < 0) with | true => false | false => emLoop g ep r (findC g w sp ep + w.s.length) := rfl
theorem ajh {y : SS} {c : Slot} : bindT (forT (stA dEM.body 9)) (.str x) (frE w g (tf c ep sp y)) = some (frE w g (tf c ep sp x)) := by ext
set_option tactic.hygienic true
theorem agi {c : List CV} (hs : (small sp && small ep) = true) : (sem (GF fn) 11).xs (stA emB 0) (frE w g (tf (.val (.list c)) ep sp x)) = some (.next, frE w g (tf (.val (.list c)) ep (findC g x sp ep) x)) := by
 refine aal (c := .int (findC g x sp ep)) (ρ1 := frE w g (tf (.val (.list c)) ep sp x)) (by ext) (by ext) (aaU (ov := .val (.str g)) (k := .find) (avs := [.val (.str x), .val (.int sp), .val (.int ep)]) (cs := [.str x, .int sp, .int ep]) (c0 := .str g) (by ext) (by ext) (by ext) (by ext) (by ext) rfl (aac (by ext) (aac (by ext) (aac (by ext) aad))) (by ext) ?_) (by ext) (by ext)
 show (match small sp && small ep with | true => some (CV.int (findC g x sp ep)) | false => none) = _
 rw [hs]
theorem akP {c : List CV} (hx : x.s.length ≤ 1000) : (sem (GF fn) 11).xs (stA emB 2) (frE w g (tf (.val (.list c)) ep sp x)) = some (.next, frE w g (tf (.val (.list c)) ep (sp + x.s.length) x)) :=
 acx (a := .int sp) (b := .int x.s.length) (c := .int (sp + x.s.length)) (by ext) (by ext) (aaJ (c := .str x) (by ext) (by ext) (by ext) (by ext) (by ext) (ab7 (by omega))) (by ext) (by ext) (by ext)
set_option tactic.hygienic false
theorem aji {c : List CV} (h : decide (sp < 0) = true) : (sem (GF fn) 11).xs (stA emB 1) (frE w g (tf (.val (.list c)) ep sp x)) = some (.ret (.bool false), frE w g (tf (.val (.list c)) ep sp x)) :=
 aaH (ρ1 := frE w g (tf (.val (.list c)) ep sp x)) (aaB (x := .int sp) (y := .int 0) (by ext) (by ext) (by show some (decide (sp < 0)) = _; rw [h])) (by ext)
set_option tactic.hygienic true
theorem ajj {c : List CV} (h : decide (sp < 0) = false) : (sem (GF fn) 11).xs (stA emB 1) (frE w g (tf (.val (.list c)) ep sp x)) = some (.next, frE w g (tf (.val (.list c)) ep sp x)) :=
 aaz (ρ1 := frE w g (tf (.val (.list c)) ep sp x)) (aaB (x := .int sp) (y := .int 0) (by ext) (by ext) (by show some (decide (sp < 0)) = _; rw [h])) (by ext)
theorem ajk {c : List CV} {dr : Str -> Bool} (hdr : ∀ (sp : Int) (y : SS), (frE w g (tf (.val (.list c)) ep sp y)).drop dr = frE w g (tf (.val (.list c)) ep sp y)) (hep : small ep = true) (hfind : ∀ w' sp', findC g w' sp' ep ≤ 1000) : ∀ (ws : List SS) (sp : Int) (y : SS), (∀ v ∈ ws, v.s.length ≤ 1000) -> 0 ≤ sp -> sp ≤ 2000 ->
 ∃ ρ', loopL (fun c ρ => match bindT (forT (stA dEM.body 9)) c ρ with | some ρ => (sem (GF fn) 11).xssD dr emB ρ | none => none) (sv ws) (frE w g (tf (.val (.list c)) ep sp y)) = some ((match emLoop g ep ws sp with | true => .next | false => .ret (.bool false)), ρ') := by
 intro ws
 induction ws with
 | nil => intro sp y _ _ _; exact ⟨_, rfl⟩
 | cons x r ih =>
  intro sp y hl h0 h1
  have hb : emB = [stA emB 0, stA emB 1, stA emB 2] := by ext
  have hss : (small sp && small ep) = true := by
   rw [hep, Bool.and_true]
   unfold small
   rw [decide_eq_true (by omega), decide_eq_true (by omega)]; rfl
  have step : (match bindT (forT (stA dEM.body 9)) (.str x) (frE w g (tf (.val (.list c)) ep sp y)) with | some ρ => (sem (GF fn) 11).xssD dr emB ρ | none => none) = match decide (findC g x sp ep < 0) with
   | true => some (.ret (.bool false), frE w g (tf (.val (.list c)) ep (findC g x sp ep) x))
   | false => some (.next, frE w g (tf (.val (.list c)) ep (findC g x sp ep + x.s.length) x)) := by
   rw [ajh, hb]
   cases hd : decide (findC g x sp ep < 0) with
   | true => exact aau (aaa (agi hss) (aat (aji hd))) (hdr _ _)
   | false => exact aau (aaa (agi hss) (aaa (ajj hd) (aaa (akP (hl x (.head _))) aae))) (hdr _ _)
  show ∃ ρ', loopL _ (.str x :: sv r) _ = _
  rw [abU, aaY]
  rw [step]
  cases hd : decide (findC g x sp ep < 0) with
  | true => exact ⟨_, rfl⟩
  | false =>
   have hf := hfind x sp
   have hx := hl x (.head _)
   have : ¬ findC g x sp ep < 0 := of_decide_eq_false hd
   by_cases hle : findC g x sp ep + x.s.length ≤ 2000
   · exact ih _ x (fun v hv => hl v (.tail _ hv)) (by omega) hle
   · omega
end
set_option tactic.hygienic true
theorem ahr (g w : SS) (i j : Int) : findC g w i j ≤ g.s.length := by
 unfold findC
 split
 · rename_i k r h
   have hm : k ∈ Builtin.Str.occurrences g.s w.s (fromIndex g.s.length i) (min g.s.length (fromIndex g.s.length j)) 1 := by rw [h]; exact .head _
   have := (StrLaws.occ_spec _ _ _ _ _ k hm).1
   omega
 · omega
noncomputable def emP (g x0 : SS) (mid : List SS) (xk : SS) : Bool := match x0.s.length == 0, Txt.startswith g.s x0.s with
 | false, false => false
 | a, _ => match xk.s.length == 0, Txt.endswith g.s xk.s with
  | false, false => false
  | b, _ => match decide ((match a with | true => (0 : Int) | false => x0.s.length) > (match b with | true => (g.s.length : Int) | false => g.s.length - xk.s.length)) with
   | true => false
   | false => emLoop g (match b with | true => (g.s.length : Int) | false => g.s.length - xk.s.length) ((match a with | true => [x0] | false => []) ++ mid ++ (match b with | true => [xk] | false => [])) (match a with | true => (0 : Int) | false => x0.s.length)
section
variable {fn : Str -> Option FS} {w g : SS}
set_option tactic.hygienic true
theorem agj {ws : List SS} {ep sp : Int} {x : SS} (h1 : ∀ v ∈ ws, v.s.length ≤ 1000) (hep : small ep = true) (hg : g.s.length ≤ 1000) (h0 : 0 ≤ sp) (h2 : sp ≤ 2000) (hl : ws.length ≤ 900) :
 ∃ ρ', (sem (GF fn) 12).xss [stA dEM.body 8, stA dEM.body 9, stA dEM.body 10] (frE w g (tf (.own (.list (sv ws))) ep sp x)) = some (.ret (.bool (match decide (sp > ep) with | true => false | false => emLoop g ep ws sp)), ρ') := by
 cases hd : decide (sp > ep) with
 | true => exact ⟨_, aat (akO hd)⟩
 | false =>
  obtain ⟨ρ', hloop⟩ := ajk (fn := fn) (w := w) (g := g) (ep := ep) (c := sv ws) (dr := news (frE w g (tf (.val (.list (sv ws))) ep sp x))) (fun _ _ => by ext) hep (fun w' sp' => Int.le_trans (ahr _ _ _ _) (by omega)) ws sp x h1 h0 h2
  have h9 : (sem (GF fn) 12).xs (stA dEM.body 9) (frE w g (tf (.own (.list (sv ws))) ep sp x)) = some ((match emLoop g ep ws sp with | true => .next | false => .ret (.bool false)), ρ') :=
   aba (ρ1 := frE w g (tf (.val (.list (sv ws))) ep sp x)) (cs := sv ws) (aaA (ρ1 := frE w g (tf (.val (.list (sv ws))) ep sp x)) (c := .list (sv ws)) (by ext) (by ext) rfl (Nat.ble_eq_true_of_le (by unfold sv LIM; rw [List.length_map]; omega))) hloop
  have hr : ∀ ρ, (sem (GF fn) 12).xs (stA dEM.body 10) ρ = some (.ret (.bool true), ρ) := fun ρ => by ext
  cases he : emLoop g ep ws sp with
  | false => rw [he] at h9; exact ⟨_, aaa (aiy hd) (aat h9)⟩
  | true => rw [he] at h9; exact ⟨_, aaa (aiy hd) (aaa h9 (aat (hr _)))⟩
theorem akQ {x0 xk : SS} {mid : List SS} (hin : (Builtin.Str.occurrences w.s dots 0 w.s.length 1).isEmpty = false) (hsp : splitC w dots = sv (x0 :: (mid ++ [xk]))) (hw : w.b + 2 ≤ LIM) (hg : g.s.length ≤ 1000)
 (hl : ∀ v ∈ x0 :: (mid ++ [xk]), v.s.length ≤ 1000 ∧ v.b ≤ 16777216) (hm : mid.length ≤ 800) : runDef (GF fn) 12 dEM [.str w, .str g] [] = some (.bool (emP g x0 mid xk), .list []) := by
 have hx0 := hl x0 (.head _)
 have hxk := hl xk (by simp)
 have hlen : (x0 :: (mid ++ [xk])).length = mid.length + 2 := by simp
 have hs1 := amL (fn := fn) (w := w) (g := g) hw
 rw [hsp] at hs1
 have hb : dEM.body = [stA dEM.body 0, stA dEM.body 1, stA dEM.body 2, stA dEM.body 3, stA dEM.body 4, stA dEM.body 5, stA dEM.body 6, stA dEM.body 7] ++ [stA dEM.body 8, stA dEM.body 9, stA dEM.body 10] := by ext
 have fin : ∀ {r : Bool} {ρ'}, (sem (GF fn) 12).xss dEM.body (frE w g []) = some (.ret (.bool r), ρ') -> runDef (GF fn) 12 dEM [.str w, .str g] [] = some (.bool r, .list []) := fun h =>
  aam (l := [("want", .val (.str w)), ("got", .val (.str g))]) (by ext) (by ext) h rfl
 have head : ∀ {q}, (sem (GF fn) 12).xss ([stA dEM.body 5, stA dEM.body 6, stA dEM.body 7] ++ [stA dEM.body 8, stA dEM.body 9, stA dEM.body 10]) (frE w g (tf (.own (.list (sv (x0 :: (mid ++ [xk]))))) g.s.length 0 x0)) = q -> (sem (GF fn) 12).xss dEM.body (frE w g []) = q := fun h => by
  rw [hb]
  exact aaa (amK hin) (aaa hs1 (aaa (amM (by omega) (by omega)) (aaa (amN hg) (aaa (amO (by simp; omega)) h))))
 have mid1 : ∀ (a : Bool) (l1 : List SS) (sp : Int), (sem (GF fn) 12).xs (stA dEM.body 5) (frE w g (tf (.own (.list (sv (x0 :: (mid ++ [xk]))))) g.s.length 0 x0)) = some (.next, frE w g (tf (.own (.list (sv (l1 ++ [xk])))) g.s.length sp x0)) ->
  (∀ v ∈ l1, v.s.length ≤ 1000 ∧ v.b ≤ 16777216) -> 0 ≤ sp -> sp ≤ 1000 -> l1.length ≤ 801 ->
  ∀ r, r = (match xk.s.length == 0, Txt.endswith g.s xk.s with
   | false, false => false
   | b, _ => match decide (sp > (match b with | true => (g.s.length : Int) | false => g.s.length - xk.s.length)) with
    | true => false
    | false => emLoop g (match b with | true => (g.s.length : Int) | false => g.s.length - xk.s.length) (l1 ++ (match b with | true => [xk] | false => [])) sp) ->
  ∃ ρ', (sem (GF fn) 12).xss ([stA dEM.body 5, stA dEM.body 6, stA dEM.body 7] ++ [stA dEM.body 8, stA dEM.body 9, stA dEM.body 10]) (frE w g (tf (.own (.list (sv (x0 :: (mid ++ [xk]))))) g.s.length 0 x0)) = some (.ret (.bool r), ρ') := by
  intro a l1 sp h5 hl1 h0 h1 hll r hr
  have h6 := amP (fn := fn) (w := w) (g := g) (x := xk) (ws := l1) (ep := g.s.length) (sp := sp) (y := x0) (by omega)
  cases hB : (xk.s.length == 0) with
  | true =>
   rw [hB] at hr
   obtain ⟨ρ', h8⟩ := agj (fn := fn) (w := w) (g := g) (ws := l1 ++ [xk]) (ep := g.s.length) (sp := sp) (x := xk) (fun v hv => by
    rcases List.mem_append.mp hv with q | q
    · exact (hl1 v q).1
    · rw [List.mem_singleton.mp q]; exact hxk.1) (aaX hg) hg h0 (by omega) (by simp; omega)
   refine ⟨ρ', ?_⟩
   rw [hr]
   refine (aaa h5 (aaa h6 (aaa (ajg hB hxk.2) h8))).trans ?_
   cases Txt.endswith g.s xk.s <;> rfl
  | false =>
   rw [hB] at hr
   cases hE : Txt.endswith g.s xk.s with
   | false =>
    rw [hE] at hr
    rw [hr]
    exact ⟨_, aaa h5 (aaa h6 (aat (ajf hB hxk.2 hE)))⟩
   | true =>
    rw [hE] at hr
    have hsm : small ((g.s.length : Int) - xk.s.length) = true := by
     have := hxk.1
     unfold small
     rw [decide_eq_true (by omega), decide_eq_true (by omega)]; rfl
    obtain ⟨ρ', h8⟩ := agj (fn := fn) (w := w) (g := g) (ws := l1) (ep := (g.s.length : Int) - xk.s.length) (sp := sp) (x := xk) (fun v hv => (hl1 v hv).1) hsm hg h0 (by omega) (by omega)
    refine ⟨ρ', ?_⟩
    rw [hr]
    refine (aaa h5 (aaa h6 (aaa (aje hB hxk.2 hE (by omega) hxk.1) h8))).trans ?_
    simp only [List.append_nil]
 have hmid : ∀ v ∈ mid, v.s.length ≤ 1000 ∧ v.b ≤ 16777216 := fun v hv => hl v (by simp [hv])
 cases hA : (x0.s.length == 0) with
 | true =>
  obtain ⟨ρ', h⟩ := mid1 true (x0 :: mid) 0 (agg hA hx0.2) (fun v hv => by
   rcases List.mem_cons.mp hv with q | q
   · rw [q]; exact hx0
   · exact hmid v q) (by omega) (by omega) (by simp; omega) (emP g x0 mid xk) (by unfold emP; rw [hA]; cases Txt.startswith g.s x0.s <;> rfl)
  exact fin (head h)
 | false =>
  cases hS : Txt.startswith g.s x0.s with
  | false =>
   have : emP g x0 mid xk = false := by unfold emP; rw [hA, hS]
   rw [this]
   exact fin (head (aat (agf hA hx0.2 hS)))
  | true =>
   obtain ⟨ρ', h⟩ := mid1 false mid x0.s.length (age hA hx0.2 hS (by simp; omega) hx0.1) hmid (by omega) (by have := hx0.1; omega) (by omega) (emP g x0 mid xk) (by unfold emP; rw [hA, hS]; rfl)
   exact fin (head h)
end
noncomputable def dAsk : DD := ddG "_law_asked" (some 2)
noncomputable def nEMf : Str := "_ellipsis_match"
noncomputable def frA (w g : SS) (said : List CV) (tail : List (Str × Slot)) : CE := ⟨dAsk.scope, ("want", .val (.str w)) :: ("got", .val (.str g)) :: ("said", .bor (.list said)) :: tail⟩
noncomputable def ta (b : Bool) : List (Str × Slot) := [("answer", .val (.bool b))]
section
variable {fn : Str -> Option FS} {w g : SS} {said : List CV} {b : Bool}
set_option tactic.hygienic true
theorem akR {F : FS} {o : CO} (hf : fn nEMf = some F) (hb : F.bor = none) (hrun : F.run [.str w, .str g] [] = some (.bool b, o)) (hs : said.length ≤ LIM) :
 runDef (GF fn) 12 dAsk [.str w, .str g, .list said] [] = some (.bool b, .list (said ++ [.bool b])) := by
 have s0 : (sem (GF fn) 12).xs (stA dAsk.body 0) (frA w g said []) = some (.next, frA w g said (ta b)) :=
  aal (ρ1 := frA w g said []) (by ext) (by ext) (ae5 (by ext) (by ext) (by ext) (aag hf (by ext)) (aan (kvs := []) (cs := [.str w, .str g]) (avs := [.val (.str w), .val (.str g)]) hb (aac (by ext) (aac (by ext) aad)) (by ext) rfl hrun)) (by ext) (by ext)
 have s1 : (sem (GF fn) 12).xs (stA dAsk.body 1) (frA w g said (ta b)) = some (.next, frA w g (said ++ [.bool b]) (ta b)) :=
  aaV (by ext) (abw (x := "said") (c0 := .list said) (k := .append) (avs := [.val (.bool b)]) (cs := [.bool b]) (ob := .list said) (ob' := .list (said ++ [.bool b])) (by ext) (by ext) (by ext) (by ext) (by ext) rfl (aac (by ext) aad) rfl (by ext) (appC hs) (by ext))
 have s2 : (sem (GF fn) 12).xs (stA dAsk.body 2) (frA w g (said ++ [.bool b]) (ta b)) = some (.ret (.bool b), frA w g (said ++ [.bool b]) (ta b)) := by
  cases b <;> ext
 exact aam (l := [("want", .val (.str w)), ("got", .val (.str g)), ("said", .bor (.list said))]) (by ext) (by ext) (aaa s0 (aaa s1 (aat s2))) rfl
end
noncomputable def nOps : Str := "_law_operators"
noncomputable def nUns : Str := "_law_unseen"
noncomputable def nBes : Str := "_law_beside"
noncomputable def dOps : DD := ddG "_law_operators" none
noncomputable def dUns : DD := ddG "_law_unseen" none
noncomputable def dBes : DD := ddG "_law_beside" none
noncomputable def besL : List Int := [172, 174, 846, 848, 6149, 6151, 6154, 6158, 8202, 8206, 8287, 8289, 65278, 65280, 65023, 65040]
section
variable {fn : Str -> Option FS}
set_option tactic.hygienic false
theorem agk : runDef (GF fn) 12 dOps [] [] = some (.list (opsL.map fun s => .str (SS.pad s)), .list []) := by ext
noncomputable def chS (n : Nat) : SS := ⟨⟨#[n]⟩, 1, Nat.le_refl 1⟩
noncomputable def b1N : List Nat := [173, 847, 6150, 6155, 6156, 6157, 8203, 8204, 8205, 8288, 65279, 65024, 65025, 65026, 65027, 65028, 65029, 65030, 65031, 65032, 65033, 65034, 65035, 65036, 65037, 65038, 65039]
noncomputable def besN : List Nat := [172, 174, 846, 848, 6149, 6151, 6154, 6158, 8202, 8206, 8287, 8289, 65278, 65280, 65023, 65040]
noncomputable def frU (w : Int) (tail : List (Str × Slot)) : CE := ⟨dUns.scope, ("which", .val (.int w)) :: tail⟩
noncomputable def frW (w : Int) (tail : List (Str × Slot)) : CE := ⟨dBes.scope, ("which", .val (.int w)) :: tail⟩
set_option tactic.hygienic true
theorem ajl {w : Int} : (sem (GF fn) 12).xs (stA dUns.body 0) (frU w []) = some (.next, frU w [("signs", .val (.list (b1s.map .int)))]) := by ext
theorem ajm {w : Int} : (sem (GF fn) 12).xs (stA dBes.body 0) (frW w []) = some (.next, frW w [("signs", .val (.list (besL.map .int)))]) := by ext
set_option tactic.hygienic false
theorem chrC {n : Nat} (h : n < 70000 ∧ ¬ (55295 < n ∧ n < 57344)) : bltC nChr (.int (n : Int)) = some (.str (chS n)) := by
 have e1 : (nChr == nLen) = false := by decide
 have e2 : (nChr == nOrd) = false := by decide
 have e3 : (nChr == nChr) = true := by simp
 unfold bltC
 rw [e1]; dsimp only; rw [e2]; dsimp only; rw [e3]; dsimp only
 have : (Nat.ble n 0xD7FF || (Nat.ble 0xE000 n && Nat.ble n 0x10FFFF)) = true := by
  simp only [Bool.or_eq_true, Bool.and_eq_true, Nat.ble_eq]
  omega
 show (match Nat.ble n 0xD7FF || (Nat.ble 0xE000 n && Nat.ble n 0x10FFFF) with | true => some (CV.str ⟨⟨#[n]⟩, 1, Nat.le_refl 1⟩) | false => none) = _
 rw [this]
 rfl
theorem abc {w : Int} {k : Nat} (hk : 0 < k) : ∃ m : Nat, m < k ∧ Int.fmod w k = m := by
 refine ⟨(Int.fmod w k).toNat, ?_, ?_⟩
 · have := Int.fmod_lt_of_pos w (show (0 : Int) < k by omega)
   have := Int.fmod_nonneg_of_pos w (show (0 : Int) < k by omega)
   omega
 · have := Int.fmod_nonneg_of_pos w (show (0 : Int) < k by omega)
   omega
theorem akS {w : Int} {m : Nat} {c : Nat} (hm : Int.fmod w 27 = m) (hc : b1N[m]? = some c) : runDef (GF fn) 12 dUns [.int w] [] = some (.str (chS c), .list []) := by
 have hb : (b1s.map CV.int)[m]? = some (.int (c : Int)) := by
  have e : b1s.map CV.int = b1N.map fun (n : Nat) => CV.int (n : Int) := by ext
  rw [e, List.getElem?_map, hc]; rfl
 have hr : c < 70000 ∧ ¬ (55295 < c ∧ c < 57344) := by
  have : ∀ c ∈ b1N, c < 70000 ∧ ¬ (55295 < c ∧ c < 57344) := by decide
  exact this c (List.mem_of_getElem? hc)
 have s1 : (sem (GF fn) 12).xs (stA dUns.body 1) (frU w [("signs", .val (.list (b1s.map .int)))]) = some (.ret (.str (chS c)), frU w [("signs", .val (.list (b1s.map .int)))]) :=
  ab6 (abB (ρ1 := frU w [("signs", .val (.list (b1s.map .int)))]) (aaJ (c := .int c) (ρ1 := frU w [("signs", .val (.list (b1s.map .int)))]) (by ext) (by ext) (by ext) (by ext)
   (adX (acn (a := .list (b1s.map .int)) (b := .int m) (aaq (a := .val (.list (b1s.map .int))) (b := .val (.int m)) (by ext) (aaD (x := .int w) (y := .int 27) (by ext) (by show some (CV.int (Int.fmod w 27)) = _; rw [hm])) rfl rfl) (abz hb (by decide))) rfl) (chrC hr)) rfl)
 exact aam (l := [("which", .val (.int w))]) (by ext) (by ext) (aaa ajl (aat s1)) rfl
theorem akT {w : Int} {m : Nat} {c : Nat} (hm : Int.fmod w 16 = m) (hc : besN[m]? = some c) : runDef (GF fn) 12 dBes [.int w] [] = some (.str (chS c), .list []) := by
 have hb : (besL.map CV.int)[m]? = some (.int (c : Int)) := by
  have e : besL.map CV.int = besN.map fun (n : Nat) => CV.int (n : Int) := by ext
  rw [e, List.getElem?_map, hc]; rfl
 have hr : c < 70000 ∧ ¬ (55295 < c ∧ c < 57344) := by
  have : ∀ c ∈ besN, c < 70000 ∧ ¬ (55295 < c ∧ c < 57344) := by decide
  exact this c (List.mem_of_getElem? hc)
 have s1 : (sem (GF fn) 12).xs (stA dBes.body 1) (frW w [("signs", .val (.list (besL.map .int)))]) = some (.ret (.str (chS c)), frW w [("signs", .val (.list (besL.map .int)))]) :=
  ab6 (abB (ρ1 := frW w [("signs", .val (.list (besL.map .int)))]) (aaJ (c := .int c) (ρ1 := frW w [("signs", .val (.list (besL.map .int)))]) (by ext) (by ext) (by ext) (by ext)
   (adX (acn (a := .list (besL.map .int)) (b := .int m) (aaq (a := .val (.list (besL.map .int))) (b := .val (.int m)) (by ext) (aaD (x := .int w) (y := .int 16) (by ext) (by show some (CV.int (Int.fmod w 16)) = _; rw [hm])) rfl rfl) (abz hb (by decide))) rfl) (chrC hr)) rfl)
 exact aam (l := [("which", .val (.int w))]) (by ext) (by ext) (aaa ajm (aat s1)) rfl
end
noncomputable def dTab : DD := ddG "in_table_b1" none
noncomputable def nTab : Str := "in_table_b1"
noncomputable def dRead : DD := ddG "_law_read" none
section
variable {fn : Str -> Option FS}
set_option tactic.hygienic false
theorem amQ {c : Nat} : bltC nOrd (.str (chS c)) = some (.int c) := by
 have e1 : (nOrd == nLen) = false := by decide
 have e3 : (nOrd == nOrd) = true := by simp
 unfold bltC
 rw [e1]; dsimp only; rw [e3]; rfl
noncomputable def isB1 (c : Nat) : Bool := b1s.contains (c : Int)
theorem ajn {c : Nat} : runDef (GF fn) 12 dTab [.str (chS c)] [] = some (.bool (isB1 c), .list []) := by
 have s0 : (sem (GF fn) 12).xs (stA dTab.body 0) ⟨dTab.scope, [("code", .val (.str (chS c)))]⟩ = some (.ret (.bool (isB1 c)), ⟨dTab.scope, [("code", .val (.str (chS c)))]⟩) :=
  ab6 (abB (ρ1 := ⟨dTab.scope, [("code", .val (.str (chS c)))]⟩) (adg (x := .int c) (y := .iset b1s) (t := isB1 c) (by ext) (aaq (a := .val (.int c)) (b := .val (.iset b1s)) (aaJ (c := .str (chS c)) (by ext) (by ext) (by ext) (by ext) (by ext) amQ) (by ext) rfl rfl) rfl) rfl)
 exact aam (l := [("code", .val (.str (chS c)))]) (by ext) (by ext) (aat s0) rfl
noncomputable def emp : SS := SS.of ""
noncomputable def rdB : List Stmt := forB (stA dRead.body 2)
noncomputable def frR (t : SS) (ns : Slot) (p : SS) (tail : List (Str × Slot)) : CE := ⟨dRead.scope, ("text", .val (.str t)) :: ("numbers", ns) :: ("piece", .val (.str p)) :: tail⟩
noncomputable def th (c : Nat) (h : Bool) : List (Str × Slot) := [("sign", .val (.str (chS c))), ("held", .val (.bool h))]
noncomputable def th1 (c : Nat) : List (Str × Slot) := [("sign", .val (.str (chS c)))]
variable {t p : SS} {ns : List CV} {c c' : Nat} {h b : Bool}
theorem ahs : bindT (forT (stA dRead.body 2)) (.str (chS c)) (frR t (.own (.list ns)) p []) = some (frR t (.own (.list ns)) p (th1 c)) := by ext
set_option tactic.hygienic true
theorem aht {F : FS} {o : CO} (hf : fn nTab = some F) (hb : F.bor = none) (hr : F.run [.str (chS c)] [] = some (.bool b, o)) : (sem (GF fn) 11).xs (stA rdB 0) (frR t (.own (.list ns)) p (th1 c)) = some (.next, frR t (.own (.list ns)) p (th c b)) :=
 aal (ρ1 := frR t (.own (.list ns)) p (th1 c)) (aaT (aag hf (by ext))) (by ext) (aaF (by ext) (by ext) (aag hf (by ext)) (aan (kvs := []) (cs := [.str (chS c)]) (avs := [.val (.str (chS c))]) hb (aac (by ext) aad) (by ext) rfl hr)) (by ext) (by ext)
set_option tactic.hygienic false
theorem addC {x y : SS} (hb : x.b + y.b ≤ LIM) : augC .Add (.str x) (.str y) = some (.str (x.app y)) := by
 show (match Nat.ble (x.b + y.b) LIM with | true => some (CV.str (x.app y)) | false => none) = _
 rw [Nat.ble_eq_true_of_le hb]
set_option tactic.hygienic true
theorem akU (hb : p.b + 1 ≤ LIM) : (sem (GF fn) 11).xs (stA rdB 1) (frR t (.own (.list ns)) p (th c false)) = some (.next, frR t (.own (.list ns)) (p.app (chS c)) (th c false)) :=
 aaH (ρ1 := frR t (.own (.list ns)) p (th c false)) (by ext) (aaa (acx (a := .str p) (b := .str (chS c)) (c := .str (p.app (chS c))) (by ext) (by ext) (by ext) (addC hb) (by ext) rfl) (by ext))
theorem akV (hp : (p.s == emp.s) = true) : (sem (GF fn) 11).xs (stA rdB 1) (frR t (.own (.list ns)) p (th c true)) = some (.next, frR t (.own (.list ns)) p (th c true)) :=
 aaz (ρ1 := frR t (.own (.list ns)) p (th c true)) (by ext) (aaa (aaH (ρ1 := frR t (.own (.list ns)) p (th c true)) (by ext) (aaa (aaz (ρ1 := frR t (.own (.list ns)) p (th c true)) (aaB (x := .str p) (y := .str emp) (by ext) (by ext) (by show some (!(p.s == emp.s)) = _; rw [hp]; rfl)) (by ext)) aae)) aae)
noncomputable def numOf (s : Str) : Int := match dget ettL s with
 | some (.int i) => i
 | _ => 256
set_option tactic.hygienic false
theorem agl : ∀ {es : List (SS × CV)}, (∀ x ∈ es, (match x.2 with | .int _ => true | _ => false) = true) -> ∀ {s : Str} {c : CV}, dget es s = some c -> ∃ i, c = .int i
 | [], _, s, c, h => by cases h
 | (k, v) :: r, ha, s, c, h => by
  rw [aiv] at h
  split at h
  · obtain rfl := Option.some.inj h
    have := ha _ (.head _)
    cases v <;> first | exact ⟨_, rfl⟩ | cases this
  · exact agl (fun x hx => ha x (.tail _ hx)) h
theorem ajo : ∀ x ∈ ettL, (match x.2 with | .int _ => true | _ => false) = true := by
 have : (ettL.all fun x => (match x.2 with | .int _ => true | _ => false)) = true := by ext
 exact List.all_eq_true.mp this
theorem getC : methC .get (.dict ettL) [.str p, .int 256] = some (.int (numOf p.s)) := by
 show (match dget ettL p.s with | some c => some c | none => some (.int 256)) = _
 unfold numOf
 cases hd : dget ettL p.s with
 | none => rfl
 | some c =>
  obtain ⟨i, rfl⟩ := agl ajo hd
  rfl
set_option tactic.hygienic true
theorem akW (hp : (p.s == emp.s) = false) (hn : ns.length ≤ LIM) : (sem (GF fn) 11).xs (stA rdB 1) (frR t (.own (.list ns)) p (th c true)) = some (.next, frR t (.own (.list (ns ++ [.int (numOf p.s)]))) emp (th c true)) := by
 refine aaz (ρ1 := frR t (.own (.list ns)) p (th c true)) (by ext) (aaa (ρ1 := frR t (.own (.list (ns ++ [.int (numOf p.s)]))) emp (th c true)) (aaH (ρ1 := frR t (.own (.list ns)) p (th c true)) (by ext) (aaa (ρ1 := frR t (.own (.list (ns ++ [.int (numOf p.s)]))) emp (th c true)) (aaH (ρ1 := frR t (.own (.list ns)) p (th c true)) (aaB (x := .str p) (y := .str emp) (by ext) (by ext) (by show some (!(p.s == emp.s)) = _; rw [hp]; rfl)) (aaa (ρ1 := frR t (.own (.list (ns ++ [.int (numOf p.s)]))) p (th c true)) ?_ (by ext))) aae)) aae)
 exact aaV (by ext) (abw (x := "numbers") (c0 := .list ns) (k := .append) (avs := [.val (.int (numOf p.s))]) (cs := [.int (numOf p.s)]) (ob := .list ns) (ob' := .list (ns ++ [.int (numOf p.s)])) (by ext) (by ext) (by ext) (by ext) (by ext) rfl
  (aac (aaU (ov := .val (.dict ettL)) (k := .get) (avs := [.val (.str p), .val (.int 256)]) (cs := [.str p, .int 256]) (c0 := .dict ettL) (by ext) (by ext) (by ext) (by ext) (by ext) rfl (aac (by ext) (aac (by ext) aad)) (by ext) getC) aad) rfl (by ext) (appC hn) (by ext))
noncomputable def readL : List Nat -> List Nat -> List Int
 | [], _ => []
 | c :: r, pl => match isB1 c, pl with
  | false, pl => readL r (pl ++ [c])
  | true, [] => readL r []
  | true, a :: q => numOf ⟨(a :: q).toArray⟩ :: readL r []
set_option tactic.hygienic false
theorem ajp (pl : List Nat) : readL [] pl = [] := rfl
theorem adD (c : Nat) (r pl : List Nat) : readL (c :: r) pl = match isB1 c, pl with | false, pl => readL r (pl ++ [c]) | true, [] => readL r [] | true, a :: q => numOf ⟨(a :: q).toArray⟩ :: readL r [] := rfl
theorem aiz {pl : List Nat} (h : p.s = ⟨pl.toArray⟩) : (p.s == emp.s) = pl.isEmpty := by
 rw [h]
 cases pl with
 | nil => kernel_rfl
 | cons a q =>
  have : (⟨(a :: q).toArray⟩ : Str) ≠ emp.s := fun e => by
   have := congrArg (fun s : Str => s.cps.size) e
   simp at this
   cases this
  simpa using this
noncomputable def rdD (t : SS) (ns : List CV) (p : SS) : Str -> Bool := news (frR t (.own (.list ns)) p [])
theorem ajq {t0 p0 : SS} {ns0 : List CV} : (frR t (.own (.list ns)) p (th c h)).drop (rdD t0 ns0 p0) = frR t (.own (.list ns)) p [] := by ext
set_option tactic.hygienic true
theorem agm {F : FS} {t0 p0 : SS} {ns0 : List CV} (hf : fn nTab = some F) (hb : F.bor = none) (hr : ∀ c, F.run [.str (chS c)] [] = some (.bool (isB1 c), .list [])) : ∀ (l pl : List Nat) (p : SS) (ns : List CV), p.s = ⟨pl.toArray⟩ -> p.b + l.length ≤ 100000 -> ns.length + l.length ≤ 100000 ->
 ∃ p', loopL (fun c ρ => match bindT (forT (stA dRead.body 2)) c ρ with | some ρ => (sem (GF fn) 11).xssD (rdD t0 ns0 p0) rdB ρ | none => none) (l.map fun c => .str (chS c)) (frR t (.own (.list ns)) p []) =
  some (.next, frR t (.own (.list (ns ++ (readL l pl).map CV.int))) p' []) := by
 intro l
 induction l with
 | nil => intro pl p ns _ _ _; exact ⟨p, by simp [af9, ajp]⟩
 | cons c r ih =>
  intro pl p ns hp h1 h2
  simp only [List.length_cons] at h1 h2
  have hbody : rdB = [stA rdB 0, stA rdB 1] := by ext
  have step : ∀ {ns' p'}, (sem (GF fn) 11).xs (stA rdB 1) (frR t (.own (.list ns)) p (th c (isB1 c))) = some (.next, frR t (.own (.list ns')) p' (th c (isB1 c))) ->
   (match bindT (forT (stA dRead.body 2)) (.str (chS c)) (frR t (.own (.list ns)) p []) with | some ρ => (sem (GF fn) 11).xssD (rdD t0 ns0 p0) rdB ρ | none => none) = some (.next, frR t (.own (.list ns')) p' []) := fun {ns' p'} hq => by
   rw [hbody, ahs]
   exact aau (aaa (aht hf hb (hr c)) (aaa hq aae)) ajq
  show ∃ p', loopL _ (.str (chS c) :: (r.map fun c => CV.str (chS c))) _ = _
  rw [abU, adD]
  cases hc : isB1 c with
  | false =>
   rw [hc] at step
   rw [step (akU (by unfold LIM; omega))]
   dsimp only
   have hpb : (p.app (chS c)).b = p.b + 1 := rfl
   exact ih (pl ++ [c]) _ ns (by
    show p.s ++ (chS c).s = _
    rw [hp]
    show (⟨pl.toArray ++ #[c]⟩ : Str) = _
    simp) (by rw [hpb]; lia) (by omega)
  | true =>
   rw [hc] at step
   cases pl with
   | nil =>
    rw [step (akV (by rw [aiz hp]; rfl))]
    dsimp only
    exact ih [] p ns hp (by omega) (by omega)
   | cons a q =>
    rw [step (akW (by rw [aiz hp]; rfl) (by unfold LIM; lia))]
    dsimp only
    obtain ⟨p', hl⟩ := ih [] emp (ns ++ [.int (numOf p.s)]) (by ext) (by show 0 + r.length ≤ 100000; lia) (by simp; lia)
    refine ⟨p', ?_⟩
    rw [hl, hp]
    simp
theorem ajr {F : FS} (hf : fn nTab = some F) (hb : F.bor = none) (hr : ∀ c, F.run [.str (chS c)] [] = some (.bool (isB1 c), .list [])) (hl : t.s.cps.toList.length ≤ 90000) :
 runDef (GF fn) 12 dRead [.str t] [] = some (.list ((readL t.s.cps.toList []).map CV.int), .list []) := by
 obtain ⟨p', h⟩ := agm (t := t) (t0 := t) (p0 := emp) (ns0 := []) hf hb hr t.s.cps.toList [] emp [] (by ext) (by show 0 + _ ≤ 100000; omega) (by show 0 + _ ≤ 100000; omega)
 have s01 : ∀ {q}, (sem (GF fn) 12).xss [stA dRead.body 2, stA dRead.body 3] (frR t (.own (.list [])) emp []) = q -> (sem (GF fn) 12).xss dRead.body ⟨dRead.scope, [("text", .val (.str t))]⟩ = q := fun {q} hq => by
  have hb : dRead.body = [stA dRead.body 0, stA dRead.body 1, stA dRead.body 2, stA dRead.body 3] := by ext
  have a0 : (sem (GF fn) 12).xs (stA dRead.body 0) ⟨dRead.scope, [("text", .val (.str t))]⟩ = some (.next, ⟨dRead.scope, [("text", .val (.str t)), ("numbers", .own (.list []))]⟩) := by ext
  have a1 : (sem (GF fn) 12).xs (stA dRead.body 1) ⟨dRead.scope, [("text", .val (.str t)), ("numbers", .own (.list []))]⟩ = some (.next, frR t (.own (.list [])) emp []) := by ext
  rw [hb]
  exact aaa a0 (aaa a1 hq)
 have s2 : (sem (GF fn) 12).xs (stA dRead.body 2) (frR t (.own (.list [])) emp []) = some (.next, frR t (.own (.list ((readL t.s.cps.toList []).map CV.int))) p' []) := by
  refine aba (ρ1 := frR t (.own (.list [])) emp []) (cs := signsC t) (aaA (ρ1 := frR t (.own (.list [])) emp []) (c := .str t) (by ext) (by ext) rfl (Nat.ble_eq_true_of_le (by unfold signsC LIM; rw [List.length_map]; lia))) ?_
  rw [List.nil_append] at h
  exact h
 have s3 : ∀ ns, (sem (GF fn) 12).xs (stA dRead.body 3) (frR t (.own (.list ns)) p' []) = some (.ret (.list ns), frR t (.val (.list ns)) p' []) := fun ns => by ext
 exact aam (l := [("text", .val (.str t))]) (by ext) (by ext) (s01 (aaa s2 (aat (s3 _)))) rfl
end
noncomputable def dTold : DD := ddG "_law_told_of_dots" (some 3)
noncomputable def nAsk : Str := "_law_asked"
noncomputable def tlB : List Stmt := forB (stA dTold.body 4)
noncomputable def D3 : SS := SS.of "..."
noncomputable def joinS (l : List SS) : SS := ⟨Txt.join (SS.of "").s (l.map (·.s)), joinB 0 l, aeD (SS.of "") l⟩
noncomputable def tail1 (x : SS) : SS := ⟨Txt.slice x.s (some 1) none, x.b, Nat.le_trans (Txt.slice_le x.s (some 1) none) x.h⟩
noncomputable def casesD (a b c d e o mk : SS) : List (SS × SS × Bool) :=
 [(joinS [a, b, c, d], joinS [a, b, c, d], true), (joinS [a, b, c], joinS [a, b, c, d], false), (joinS [b, c, d], joinS [a, b, c, d], false),
  (((joinS [a, b]).app D3).app (joinS [c, d]), joinS [a, b, c, d], true), (((joinS [a, b]).app D3).app (joinS [b, c, d]), joinS [a, b, c, d], false),
  (((e.app D3).app e).app D3, e, false), (((D3.app e).app D3).app e, e, false), ((((D3.app e).app D3).app e).app D3, e.app e, true),
  ((((D3.app e).app D3).app e).app D3, e.app (tail1 e), false), (((mk.app o).app mk).app D3, e, false), (((D3.app mk).app o).app mk, e, false),
  ((((D3.app mk).app (SS.of ".")).app mk).app D3, e, false), ((e.app D3).app e, (e.app (SS.of "\n")).app e, true)]
noncomputable def ccv (x : SS × SS × Bool) : CV := .list [.str x.1, .str x.2.1, .bool x.2.2]
structure C10 where
 s : Str
 h : s.length ≤ 10
noncomputable def C10.v (c : C10) : SS := ⟨c.s, 10, c.h⟩
noncomputable def so (s : Str) (h : s.length ≤ 8) : SS := ⟨s, 8, h⟩
section
variable {fn : Str -> Option FS} {a b c d e : C10} {o : Str} {ho : o.length ≤ 8} {said : List CV} {m : Nat}
noncomputable def frT (a b c d e : C10) (o : Str) (ho : o.length ≤ 8) (said : List CV) (tail : List (Str × Slot)) : CE := ⟨dTold.scope, ("text", .val (.list [.str a.v, .str b.v, .str c.v, .str d.v])) :: ("cell", .val (.str e.v)) :: ("other", .val (.str (so o ho))) :: ("said", .bor (.list said)) :: tail⟩
noncomputable def tT1 (a b c d : C10) : List (Str × Slot) := [("whole", .val (.str (joinS [a.v, b.v, c.v, d.v])))]
noncomputable def tT2 (a b c d : C10) (r : List (Str × Slot)) : List (Str × Slot) := ("whole", .val (.str (joinS [a.v, b.v, c.v, d.v]))) :: ("two", .val (.str (joinS [a.v, b.v]))) :: r
noncomputable def caD (a b c d e : C10) (o : Str) (ho : o.length ≤ 8) (m : Nat) : List (SS × SS × Bool) := casesD a.v b.v c.v d.v e.v (so o ho) (chS m)
noncomputable def tT4 (a b c d e : C10) (o : Str) (ho : o.length ≤ 8) (m : Nat) (r : List (Str × Slot)) : List (Str × Slot) := tT2 a b c d (("mark", .val (.str (chS m))) :: ("cases", .val (.list ((caD a b c d e o ho m).map ccv))) :: r)
set_option tactic.hygienic true
theorem td_0 : (sem (GF fn) 12).xs (stA dTold.body 0) (frT a b c d e o ho said []) = some (.next, frT a b c d e o ho said (tT1 a b c d)) := by ext
theorem td_1 : (sem (GF fn) 12).xs (stA dTold.body 1) (frT a b c d e o ho said (tT1 a b c d)) = some (.next, frT a b c d e o ho said (tT2 a b c d [])) := by ext
theorem td_2 (hm : subC (.str e.v) (.int 0) = some (.str (chS m))) : (sem (GF fn) 12).xs (stA dTold.body 2) (frT a b c d e o ho said (tT2 a b c d [])) = some (.next, frT a b c d e o ho said (tT2 a b c d [("mark", .val (.str (chS m)))])) :=
 aal (ρ1 := frT a b c d e o ho said (tT2 a b c d [])) (by ext) (by ext) (abW (a := .str e.v) (b := .int 0) (by ext) hm) (by ext) (by ext)
theorem td_3 : (sem (GF fn) 12).xs (stA dTold.body 3) (frT a b c d e o ho said (tT2 a b c d [("mark", .val (.str (chS m)))])) = some (.next, frT a b c d e o ho said (tT4 a b c d e o ho m [])) := by ext
noncomputable def tdR (w g : SS) (b : Bool) : List (Str × Slot) := [("want", .val (.str w)), ("got", .val (.str g)), ("due", .val (.bool b))]
noncomputable def tdD (a b c d e : C10) (o : Str) (ho : o.length ≤ 8) (said : List CV) (m : Nat) : Str -> Bool := news (frT a b c d e o ho said (tT4 a b c d e o ho m []))
variable {F : FS} {w g : SS} {t : Bool} {said0 : List CV}
set_option tactic.hygienic false
theorem ajs : bindT (forT (stA dTold.body 4)) (ccv (w, g, t)) (frT a b c d e o ho said (tT4 a b c d e o ho m [])) = some (frT a b c d e o ho said (tT4 a b c d e o ho m (tdR w g t))) := by ext
theorem ajt : (frT a b c d e o ho said (tT4 a b c d e o ho m (tdR w g t))).drop (tdD a b c d e o ho said0 m) = frT a b c d e o ho said (tT4 a b c d e o ho m []) := by ext
variable (hf : fn nAsk = some F) (hb : F.bor = some 2)
include hf hb
set_option tactic.hygienic true
theorem aju (hr : F.run [.str w, .str g, .list said] [] = some (.bool t, .list (said ++ [.bool t]))) :
 (sem (GF fn) 11).xss tlB (frT a b c d e o ho said (tT4 a b c d e o ho m (tdR w g t))) = some (.next, frT a b c d e o ho (said ++ [.bool t]) (tT4 a b c d e o ho m (tdR w g t))) := by
 have hbody : tlB = [stA tlB 0] := by ext
 have hcall : (sem (GF fn) 10).it (ifT (stA tlB 0)) (frT a b c d e o ho said (tT4 a b c d e o ho m (tdR w g t))) = some (false, frT a b c d e o ho (said ++ [.bool t]) (tT4 a b c d e o ho m (tdR w g t))) := by
  refine aaB (x := .bool t) (y := .bool t) (by ext) (aga (a := .val (.bool t)) (b := .val (.bool t)) (ρ1 := frT a b c d e o ho (said ++ [.bool t]) (tT4 a b c d e o ho m (tdR w g t))) (aaF (by ext) (by ext) (aag hf (by ext)) ?_) (by ext) rfl rfl) (by cases t <;> rfl)
  exact aaj (x := "said") (o := .list said) (o' := CO.list (said ++ [CV.bool t])) (c := CV.bool t) (cs := [.str w, .str g, .none]) (kvs := []) (avs := [.val (.str w), .val (.str g), .ref "said"]) hb (aac (by ext) (aac (by ext) (aac (by ext) aad))) (by ext) rfl rfl (by ext) hr (by ext)
 rw [hbody]
 exact aaa (aaz hcall (by ext)) aae
theorem ajv : ∀ (l : List (SS × SS × Bool)) (said : List CV), (∀ x ∈ l, ∀ said : List CV, said.length ≤ 90000 -> F.run [.str x.1, .str x.2.1, .list said] [] = some (.bool x.2.2, .list (said ++ [.bool x.2.2]))) -> said.length + l.length ≤ 90000 ->
 loopL (fun z ρ => match bindT (forT (stA dTold.body 4)) z ρ with | some ρ => (sem (GF fn) 11).xssD (tdD a b c d e o ho said0 m) tlB ρ | none => none) (l.map ccv) (frT a b c d e o ho said (tT4 a b c d e o ho m [])) =
  some (.next, frT a b c d e o ho (said ++ l.map fun x => CV.bool x.2.2) (tT4 a b c d e o ho m [])) := by
 intro l
 induction l with
 | nil => intro said _ _; simp [af9]
 | cons x r ih =>
  intro said hx hl
  obtain ⟨w, g, t⟩ := x
  simp only [List.length_cons] at hl
  have ht1 := aju (a := a) (b := b) (c := c) (d := d) (e := e) (o := o) (ho := ho) (m := m) hf hb (hx _ (.head _) said (by omega))
  have h2 := ih (said ++ [.bool t]) (fun y hy => hx y (.tail _ hy)) (by rw [List.length_append]; simp; omega)
  show loopL _ (ccv (w, g, t) :: r.map ccv) _ = _
  rw [abU]
  rw [ajs]
  dsimp only
  rw [aau ht1 ajt]
  dsimp only
  rw [h2, List.append_assoc]
  rfl
set_option tactic.hygienic false
theorem told (hm : subC (.str e.v) (.int 0) = some (.str (chS m))) (hask : ∀ x ∈ caD a b c d e o ho m, ∀ said : List CV, said.length ≤ 90000 -> F.run [.str x.1, .str x.2.1, .list said] [] = some (.bool x.2.2, .list (said ++ [.bool x.2.2]))) (hl : said.length ≤ 80000) :
 runDef (GF fn) 12 dTold [.list [.str a.v, .str b.v, .str c.v, .str d.v], .str e.v, .str (so o ho), .list said] [] = some (.bool true, .list (said ++ (caD a b c d e o ho m).map fun x => CV.bool x.2.2)) := by
 have hbody : dTold.body = [stA dTold.body 0, stA dTold.body 1, stA dTold.body 2, stA dTold.body 3, stA dTold.body 4, stA dTold.body 5] := by ext
 have hloop := ajv (a := a) (b := b) (c := c) (d := d) (e := e) (o := o) (ho := ho) (m := m) (said0 := said) hf hb (caD a b c d e o ho m) said hask (by show said.length + 13 ≤ _; omega)
 have hit : (sem (GF fn) 11).items (GF fn) true (forT (stA dTold.body 4)) (forI (stA dTold.body 4)) (frT a b c d e o ho said (tT4 a b c d e o ho m [])) = some ((caD a b c d e o ho m).map ccv, frT a b c d e o ho said (tT4 a b c d e o ho m [])) := by ext
 have hr : ∀ ρ, (sem (GF fn) 12).xs (stA dTold.body 5) ρ = some (.ret (.bool true), ρ) := fun ρ => by ext
 refine aam (l := [("text", .val (.list [.str a.v, .str b.v, .str c.v, .str d.v])), ("cell", .val (.str e.v)), ("other", .val (.str (so o ho))), ("said", .bor (.list said))]) (by ext) (by ext) ?_ ?_ (ρ := frT a b c d e o ho (said ++ (caD a b c d e o ho m).map fun x => CV.bool x.2.2) (tT4 a b c d e o ho m []))
 · rw [hbody]
   exact aaa td_0 (aaa td_1 (aaa (td_2 hm) (aaa td_3 (aaa (aba hit hloop) (aat (hr _))))))
 · rfl
end
open PySem.Builtin PySem.Builtin.Str PySem.StrLaws
noncomputable def cl (s : Str) : List Nat := s.cps.toList
noncomputable def mk (l : List Nat) : Str := ⟨l.toArray⟩
set_option tactic.hygienic false
theorem afN (l : List Nat) : cl (mk l) = l := by unfold cl mk; simp
theorem ajw (s : Str) : mk (cl s) = s := by unfold cl mk; simp
theorem aaE (s : Str) : (cl s).length = s.length := by unfold cl; simp [PySem.Str.length]
theorem ad6 (a b : Str) : cl (a ++ b) = cl a ++ cl b := by
 show (a.cps ++ b.cps).toList = _
 simp [cl]
theorem adh {a b : Str} (h : cl a = cl b) : a = b := by rw [<- ajw a, <- ajw b, h]
def AtL (g w : List Nat) (hi k : Nat) : Prop := k + w.length ≤ hi ∧ w <+: g.drop k
theorem take_prefix {l w : List Nat} : (l.take w.length == w) = true ↔ w <+: l := by
 rw [beq_iff_eq]
 constructor
 · intro h; rw [<- h]; exact List.take_prefix _ _
 · intro h; exact (List.prefix_iff_eq_take.mp h).symm
theorem acy (g w : Str) (hi k : Nat) : At g w hi k ↔ AtL (cl g) (cl w) hi k := by
 unfold At AtL
 rw [StrLaws.subAt_eq, aaE]
 have : ((g.cps.toList.drop k).take w.length == w.cps.toList) = true ↔ cl w <+: (cl g).drop k := by
  rw [<- aaE w]; exact take_prefix
 rw [this]
theorem adE {lo n a : Nat} {pre post : List Nat} (h : List.range' lo n = pre ++ a :: post) : lo ≤ a ∧ ∀ k, lo ≤ k -> k < a -> k ∈ pre := by
 have hL : n = pre.length + (post.length + 1) := by
  have := congrArg List.length h
  simpa using this
 have hlen : a = lo + pre.length := by
  have h1 : (List.range' lo n)[pre.length]? = some a := by rw [h]; simp
  rw [List.getElem?_range' (by omega)] at h1
  have := Option.some.inj h1
  lia
 refine ⟨by lia, fun k h0 hk => ?_⟩
 have h2 : (List.range' lo n)[k - lo]? = pre[k - lo]? := by rw [h, List.getElem?_append_left (by omega)]
 rw [List.getElem?_range' (by omega)] at h2
 have h3 : pre[k - lo]? = some k := by rw [<- h2]; congr 1; omega
 exact List.mem_of_getElem? h3
theorem ahu (x y : Str) (lo hi : Nat) :
 (occurrences x y lo hi 1 = [] ∧ ∀ i, lo ≤ i -> ¬ At x y hi i) ∨ ∃ i r, occurrences x y lo hi 1 = i :: r ∧ lo ≤ i ∧ At x y hi i ∧ ∀ k, lo ≤ k -> k < i -> ¬ At x y hi k := by
 rw [occ_eq]
 refine hid fun z0 => ?_
 rcases occ_first x y hi 1 (Nat.le_refl 1) (List.range' lo (hi + 1 - lo)) lo (fun i hi' => by simp [List.mem_range'] at hi'; omega) with ⟨h0, hn⟩ | ⟨pre, a, post, e, h0, ha, hn⟩
 · refine z0 ?_
   refine .inl ⟨by rw [h0], fun i hl hi' => ?_⟩
   exact hn i (by have := hi'.1; simp [List.mem_range']; exact ⟨i - lo, by omega, by omega⟩) hi'
 · obtain ⟨hla, hpre⟩ := adE e
   refine z0 ?_
   refine .inr ⟨a, ((forIn (List.range' lo (hi + 1 - lo)) ((#[] : Array Nat), lo) (occBody x y hi 1)).run.fst.toList).tail, ?_, hla, ha, fun k h1 hk => hn k (hpre k h1 hk)⟩
   generalize (forIn (List.range' lo (hi + 1 - lo)) ((#[] : Array Nat), lo) (occBody x y hi 1)).run.fst = arr at h0
   have h1 : arr.toList[0]? = some a := by simpa using h0
   cases hL : arr.toList with
   | nil => rw [hL] at h1; cases h1
   | cons b t => rw [hL] at h1; simp at h1; rw [h1]; rfl
theorem ab8 (n k : Nat) : fromIndex n (k : Int) = k := by unfold fromIndex; rw [if_neg (by lia)]; lia
theorem acP (g w : SS) {lo hi : Nat} (hh : hi ≤ (cl g.s).length) :
 (findC g w lo hi = -1 ∧ ∀ i, lo ≤ i -> ¬ AtL (cl g.s) (cl w.s) hi i) ∨ ∃ i : Nat, findC g w lo hi = i ∧ lo ≤ i ∧ AtL (cl g.s) (cl w.s) hi i ∧ ∀ k, lo ≤ k -> k < i -> ¬ AtL (cl g.s) (cl w.s) hi k := by
 have e : findC g w lo hi = (match occurrences g.s w.s lo hi 1 with | k :: _ => (k : Int) | [] => -1) := by
  unfold findC
  rw [ab8, ab8, Nat.min_eq_right (by rw [<- aaE]; exact hh)]
  all_goals rfl
 rw [e]
 refine hid fun z0 => ?_
 rcases ahu g.s w.s lo hi with ⟨h0, hn⟩ | ⟨i, r, h0, hl, ha, hn⟩
 · refine z0 ?_; rw [h0]; exact .inl ⟨rfl, fun i h hA => hn i h ((acy _ _ _ _).mpr hA)⟩
 · refine z0 ?_; rw [h0]; exact .inr ⟨i, rfl, hl, (acy _ _ _ _).mp ha, fun k h1 h2 hA => hn k h1 h2 ((acy _ _ _ _).mpr hA)⟩
theorem adF {g w : SS} {lo hi k : Nat} (hh : hi ≤ (cl g.s).length) (hk : lo ≤ k) (ha : AtL (cl g.s) (cl w.s) hi k) (hn : ∀ j, lo ≤ j -> j < k -> ¬ AtL (cl g.s) (cl w.s) hi j) : findC g w lo hi = k := by
 rcases acP g w (lo := lo) hh with ⟨h0, h⟩ | ⟨i, h0, hl, hA, h⟩
 · exact absurd ha (h k hk)
 · rw [h0]
   rcases Nat.lt_trichotomy i k with q | q | q
   · exact absurd hA (hn i hl q)
   · rw [q]
   · exact absurd ha (h k hk q)
theorem aeE {g w : SS} {lo hi : Nat} (hh : hi ≤ (cl g.s).length) (hn : ∀ j, lo ≤ j -> ¬ AtL (cl g.s) (cl w.s) hi j) : findC g w lo hi = -1 := by
 rcases acP g w (lo := lo) hh with ⟨h0, h⟩ | ⟨i, h0, hl, hA, h⟩
 · exact h0
 · exact absurd hA (hn i hl)
theorem agn {g w : SS} {lo lo' hi : Nat} (hh : hi ≤ (cl g.s).length) (hle : lo ≤ lo') (hn : ∀ j, lo ≤ j -> j < lo' -> ¬ AtL (cl g.s) (cl w.s) hi j) : findC g w lo hi = findC g w lo' hi := by
 refine hid fun z0 => ?_
 rcases acP g w (lo := lo') hh with ⟨h0, h⟩ | ⟨i, h0, hl, hA, h⟩
 · refine z0 ?_
   rw [h0]
   exact aeE hh fun j hj => by
    by_cases q : j < lo'
    · exact hn j hj q
    · exact h j (by lia)
 · refine z0 ?_
   rw [h0]
   exact adF hh (by lia) hA fun j hj hji => by
    by_cases q : j < lo'
    · exact hn j hj q
    · exact h j (by lia) hji
theorem adj {g w : SS} {lo hi : Nat} (hw : cl w.s = []) (hh : hi ≤ (cl g.s).length) (hl : lo ≤ hi) : findC g w lo hi = lo :=
 adF hh (Nat.le_refl _) ⟨by rw [hw]; exact hl, by rw [hw]; exact List.nil_prefix⟩ (fun j h1 h2 => by lia)
theorem abf (g w : Str) : Txt.startswith g w = true ↔ cl w <+: cl g := by
 unfold Txt.startswith
 rw [Bool.and_eq_true, decide_eq_true_iff, StrLaws.subAt_eq]
 have : ((g.cps.toList.drop 0).take w.length == w.cps.toList) = true ↔ cl w <+: cl g := by
  rw [<- aaE w]; exact take_prefix
 rw [this]
 constructor
 · exact fun h => h.2
 · intro h
   have := h.length_le
   rw [aaE, aaE] at this
   exact ⟨by lia, h⟩
theorem abM (g w : Str) : Txt.endswith g w = true ↔ cl w <:+ cl g := by
 unfold Txt.endswith
 rw [Bool.and_eq_true, decide_eq_true_iff, StrLaws.subAt_eq]
 have e1 : ((g.cps.toList.drop (g.length - w.length)).take w.length == w.cps.toList) = true ↔ cl w <+: (cl g).drop (g.length - w.length) := by
  have := @take_prefix ((cl g).drop (g.length - w.length)) (cl w)
  rw [aaE] at this
  exact this
 rw [e1]
 constructor
 · rintro ⟨hl, h⟩
   have hlen : ((cl g).drop (g.length - w.length)).length = (cl w).length := by rw [List.length_drop, aaE, aaE]; omega
   rw [h.eq_of_length hlen.symm]
   exact List.drop_suffix _ _
 · intro h
   have hl := h.length_le
   rw [aaE, aaE] at hl
   refine ⟨by omega, ?_⟩
   have := List.suffix_iff_eq_drop.mp h
   rw [aaE, aaE] at this
   rw [<- this]
   exact List.prefix_refl _
open PySem.Builtin PySem.Builtin.Str PySem.StrLaws
noncomputable def DD3 : List Nat := [46, 46, 46]
theorem abd : cl dots = DD3 := by ext
def okPart (p : List Nat) : Prop := ∀ k, k < p.length -> ∃ j c, j < 3 ∧ p[k + j]? = some c ∧ c ≠ 46
noncomputable def joinL : List (List Nat) -> List Nat
 | [] => []
 | [p] => p
 | p :: q :: r => p ++ (DD3 ++ joinL (q :: r))
noncomputable def cutsOf : Nat -> List (List Nat) -> List Nat
 | _, [] => []
 | _, [_] => []
 | a, p :: q :: r => (a + p.length) :: cutsOf (a + p.length + 3) (q :: r)
theorem aa5 {p : List Nat} (h : ∀ c ∈ p, c ≠ 46) : okPart p := fun k hk => ⟨0, p[k], by lia, List.getElem?_eq_getElem hk, h _ (List.getElem_mem hk)⟩
theorem ago {pre p rest : List Nat} (hp : okPart p) {k hi : Nat} (h1 : pre.length ≤ k) (h2 : k < pre.length + p.length) : ¬ AtL (pre ++ (p ++ rest)) DD3 hi k := fun hA => by
 obtain ⟨j, c, hj, hc, hne⟩ := hp (k - pre.length) (by omega)
 have hpre := hA.2
 obtain ⟨t, ht⟩ := hpre
 have e1 : ((pre ++ (p ++ rest)).drop k)[j]? = some 46 := by
  rw [<- ht]
  match j, hj with
  | 0, _ => rfl
  | 1, _ => rfl
  | 2, _ => rfl
 rw [List.getElem?_drop, List.getElem?_append_right (by lia)] at e1
 have hlt : k - pre.length + j < p.length := by
  rcases Nat.lt_or_ge (k - pre.length + j) p.length with q | q
  · exact q
  · rw [List.getElem?_eq_none q] at hc; cases hc
 rw [show k + j - pre.length = k - pre.length + j by omega, List.getElem?_append_left hlt, hc] at e1
 exact hne (Option.some.inj e1)
theorem ae8 (x : Str) : ∀ (parts : List (List Nat)) (pre : List Nat), parts ≠ [] -> (∀ p ∈ parts, okPart p) -> cl x = pre ++ joinL parts ->
 ∃ f, ChainG x dots x.length pre.length (cutsOf pre.length parts) f ∧ ∀ k, f ≤ k -> ¬ At x dots x.length k
 | [], _, h, _, _ => absurd rfl h
 | [p], pre, _, hp, hx => ⟨pre.length, rfl, fun k hk hA => by
  have hA := (acy _ _ _ _).mp hA
  rw [abd, hx] at hA
  have hl := hA.1
  rw [<- aaE, hx] at hl
  have hj : joinL [p] = p := rfl
  rw [hj, List.length_append] at hl
  have e : pre ++ joinL [p] = pre ++ (p ++ []) := by rw [hj, List.append_nil]
  rw [e] at hA
  exact ago (hp p (.head _)) hk (by show k < _; simp [DD3] at hl; omega) hA⟩
 | p :: q :: r, pre, _, hp, hx => by
  have hx2 : cl x = (pre ++ p ++ DD3) ++ joinL (q :: r) := by
   rw [hx]
   show pre ++ (p ++ (DD3 ++ joinL (q :: r))) = _
   simp
  have hlen : (pre ++ p ++ DD3).length = pre.length + p.length + 3 := by simp [DD3]; lia
  obtain ⟨f, hc, hn⟩ := ae8 x (q :: r) (pre ++ p ++ DD3) (by simp) (fun y hy => hp y (.tail _ hy)) hx2
  rw [hlen] at hc
  have hd3 : dots.length = 3 := by rw [<- aaE, abd]; rfl
  have hx3 : cl x = pre ++ (p ++ (DD3 ++ joinL (q :: r))) := hx
  refine ⟨f, ⟨Nat.le_add_right _ _, (acy _ _ _ _).mpr ⟨?_, ?_⟩, fun k h1 h2 hA => ?_, ?_⟩, hn⟩
  · rw [abd, <- aaE, hx2, List.length_append, hlen]
    show pre.length + p.length + 3 ≤ _
    lia
  · rw [abd, hx3, <- List.append_assoc, List.drop_append_of_le_length (by simp), List.drop_eq_nil_of_le (by simp), List.nil_append]
    exact List.prefix_append _ _
  · have hA := (acy _ _ _ _).mp hA
    rw [abd, hx3] at hA
    exact ago (hp p (.head _)) h1 h2 hA
  · rw [hd3]
    exact hc
theorem acz {x y : Str} {hi : Nat} : ∀ {a : Nat} {c1 c2 : List Nat} {f1 f2 : Nat}, ChainG x y hi a c1 f1 -> (∀ k, f1 ≤ k -> ¬ At x y hi k) -> ChainG x y hi a c2 f2 -> (∀ k, f2 ≤ k -> ¬ At x y hi k) -> c1 = c2
 | a, [], [], _, _, _, _, _, _ => rfl
 | a, [], c :: r, f1, f2, h1, n1, h2, n2 => by
  have e : f1 = a := h1
  exact absurd h2.2.1 (n1 c (by rw [e]; exact h2.1))
 | a, c :: r, [], f1, f2, h1, n1, h2, n2 => by
  have e : f2 = a := h2
  exact absurd h1.2.1 (n2 c (by rw [e]; exact h1.1))
 | a, c :: r, d :: t, f1, f2, h1, n1, h2, n2 => by
  have e : c = d := by
   rcases Nat.lt_trichotomy c d with q | q | q
   · exact absurd h1.2.1 (h2.2.2.1 c h1.1 q)
   · exact q
   · exact absurd h2.2.1 (h1.2.2.1 d h2.1 q)
  subst e
  rw [acz h1.2.2.2 n1 h2.2.2.2 n2]
theorem ae9 (x : Str) : ∀ (parts : List (List Nat)) (pre : List Nat), parts ≠ [] -> cl x = pre ++ joinL parts -> partsFrom x 3 pre.length (cutsOf pre.length parts) = parts.map mk
 | [], _, h, _ => absurd rfl h
 | [p], pre, _, hx => by
  show [strSub x pre.length x.length] = [mk p]
  congr 1
  refine adh ?_
  rw [afN]
  unfold cl at hx ⊢
  rw [strSub_toList, hx, List.drop_append_of_le_length (Nat.le_refl _), List.drop_length, List.nil_append]
  have : x.length - pre.length = p.length := by
   rw [<- aaE]; unfold cl; rw [hx, List.length_append]; show pre.length + p.length - pre.length = _; omega
  rw [this]
  exact List.take_length
 | p :: q :: r, pre, _, hx => by
  have hx2 : cl x = (pre ++ p ++ DD3) ++ joinL (q :: r) := by
   rw [hx]
   show pre ++ (p ++ (DD3 ++ joinL (q :: r))) = _
   simp
  have hlen : (pre ++ p ++ DD3).length = pre.length + p.length + 3 := by simp [DD3]; omega
  have ih := ae9 x (q :: r) (pre ++ p ++ DD3) (by simp) hx2
  rw [hlen] at ih
  show strSub x pre.length (pre.length + p.length) :: partsFrom x 3 (pre.length + p.length + 3) (cutsOf (pre.length + p.length + 3) (q :: r)) = mk p :: (q :: r).map mk
  rw [ih]
  congr 1
  refine adh ?_
  rw [afN]
  have hx3 : x.cps.toList = pre ++ (p ++ (DD3 ++ joinL (q :: r))) := hx
  unfold cl
  rw [strSub_toList, hx3, List.drop_append_of_le_length (Nat.le_refl _), List.drop_length, List.nil_append, Nat.add_sub_cancel_left, List.take_append_of_le_length (Nat.le_refl _), List.take_length]
theorem ahv {x : Str} {parts : List (List Nat)} (hne : parts ≠ []) (hp : ∀ p ∈ parts, okPart p) (hx : cl x = joinL parts) : occurrences x dots 0 x.length (x.length + 1) = cutsOf 0 parts := by
 obtain ⟨f, h1, n1⟩ := occ_tight x dots (by rw [<- aaE, abd]; decide)
 obtain ⟨g, h2, n2⟩ := ae8 x parts [] hne hp hx
 exact acz h1 n1 h2 n2
theorem aeF (x : Str) : Str.strKind dots ≤ Str.strKind x := by
 have h : Str.strKind dots = 1 := by ext
 rw [h]
 unfold Str.strKind
 split
 · exact Nat.le_refl _
 · split <;> lia
theorem afO {x : Str} {p q : List Nat} {r : List (List Nat)} (hp : ∀ y ∈ p :: q :: r, okPart y) (hx : cl x = joinL (p :: q :: r)) : Txt.split x dots = (p :: q :: r).map mk := by
 have ho := ahv (by simp) hp hx
 have hd3 : dots.length = 3 := by rw [<- aaE, abd]; rfl
 have hlen : 3 ≤ x.length := by
  rw [<- aaE, hx]
  show 3 ≤ (p ++ (DD3 ++ joinL (q :: r))).length
  simp [DD3]
  lia
 unfold Txt.split
 rw [if_neg, ho, if_neg, partsBetween_eq, hd3]
 · exact ae9 x (p :: q :: r) [] (by simp) hx
 · simp [cutsOf]
 · have := aeF x
   simp
   lia
theorem ajx {x : Str} {p q : List Nat} {r : List (List Nat)} (hx : cl x = joinL (p :: q :: r)) : (occurrences x dots 0 x.length 1).isEmpty = false := by
 have h := (found_iff x dots).mpr ⟨p.length, by
  exact ((acy x dots x.length p.length).mpr ⟨by
   rw [abd, <- aaE, hx]
   show p.length + 3 ≤ (p ++ (DD3 ++ joinL (q :: r))).length
   simp [DD3], by
   rw [abd, hx]
   show DD3 <+: (p ++ (DD3 ++ joinL (q :: r))).drop p.length
   rw [List.drop_append_of_le_length (Nat.le_refl _), List.drop_length, List.nil_append]
   exact List.prefix_append _ _⟩)⟩
 cases hb : (occurrences x dots 0 x.length 1).isEmpty with
 | false => rfl
 | true => rw [hb] at h; cases h
theorem aeG {x : Str} (hx : okPart (cl x)) : (occurrences x dots 0 x.length 1).isEmpty = true := by
 cases hb : (occurrences x dots 0 x.length 1).isEmpty with
 | true => rfl
 | false =>
  have h : (!(occurrences x dots 0 x.length 1).isEmpty) = true := by rw [hb]; rfl
  obtain ⟨i, h1, h2⟩ := (found_iff x dots).mp h
  have hA := (acy _ _ _ _).mp (show At x dots x.length i from ⟨h1, h2⟩)
  rw [abd] at hA
  have hl := hA.1
  rw [<- aaE] at hl
  refine absurd hA ?_
  have := ago (pre := []) (p := cl x) (rest := []) hx (k := i) (hi := x.length) (Nat.zero_le _) (by show i < 0 + _; simp [DD3] at hl; lia)
  rw [List.append_nil, List.nil_append] at this
  exact this
noncomputable def pd (p : List Nat) : SS := SS.pad (mk p)
theorem abg (p : List Nat) : cl (pd p).s = p := by unfold pd; rw [SS.pad_s, afN]
theorem abx (p : List Nat) : (pd p).s.length = p.length := by rw [<- aaE, abg]
theorem b_pd (p : List Nat) : (pd p).b ≤ p.length + 8 := by
 unfold pd SS.pad
 split
 · show 8 ≤ _; lia
 · show (mk p).length ≤ _; rw [<- aaE, afN]; lia
theorem afa : ∀ (l : List (List Nat)) (p : List Nat), p ∈ l -> p.length ≤ (joinL l).length
 | [q], p, h => by rw [List.mem_singleton.mp h]; exact Nat.le_refl _
 | a :: b :: r, p, h => by
  show p.length ≤ (a ++ (DD3 ++ joinL (b :: r))).length
  rw [List.length_append, List.length_append]
  rcases List.mem_cons.mp h with e | e
  · rw [e]; lia
  · have := afa (b :: r) p e; lia
section
variable {fn : Str -> Option FS} {w g : SS} {p0 pk : List Nat} {mid : List (List Nat)}
set_option tactic.hygienic false
theorem ahw (hx : cl w.s = joinL (p0 :: (mid ++ [pk]))) (hok : ∀ p ∈ p0 :: (mid ++ [pk]), okPart p) (hw : w.b ≤ 900) (hg : g.s.length ≤ 1000) (hm : mid.length ≤ 800) :
 runDef (GF fn) 12 dEM [.str w, .str g] [] = some (.bool (emP g (pd p0) (mid.map pd) (pd pk)), .list []) := by
 have hlen : (joinL (p0 :: (mid ++ [pk]))).length ≤ 900 := by rw [<- hx, aaE]; exact Nat.le_trans w.h hw
 have shape : ∃ q r, mid ++ [pk] = q :: r := by
  cases mid with
  | nil => exact ⟨_, _, rfl⟩
  | cons a t => exact ⟨_, _, rfl⟩
 obtain ⟨q, r, hqr⟩ := shape
 refine akQ ?_ ?_ (by unfold LIM; lia) hg ?_ (by rw [List.length_map]; exact hm)
 · rw [hqr] at hx; exact ajx hx
 · have hs : Txt.split w.s dots = (p0 :: (mid ++ [pk])).map mk := by
    rw [hqr] at hx hok ⊢
    exact afO hok hx
   unfold splitC sv
   rw [hs, List.map_map]
   show (p0 :: (mid ++ [pk])).map (fun p => CV.str (pd p)) = (pd p0 :: (mid.map pd ++ [pd pk])).map CV.str
   rw [List.map_cons, List.map_cons, List.map_append, List.map_append, List.map_map]
   rfl
 · intro v hv
   have : ∃ p ∈ p0 :: (mid ++ [pk]), v = pd p := by
    rcases List.mem_cons.mp hv with e | e
    · exact ⟨p0, .head _, e⟩
    · rcases List.mem_append.mp e with e | e
      · obtain ⟨p, hp, rfl⟩ := List.mem_map.mp e
        exact ⟨p, by simp [hp], rfl⟩
      · exact ⟨pk, by simp, List.mem_singleton.mp e⟩
   obtain ⟨p, hp, rfl⟩ := this
   have h1 := afa _ p hp
   have h2 := b_pd p
   rw [abx]
   lia
end
set_option tactic.hygienic false
theorem ab9 {p : List Nat} (h : p ≠ []) : ((pd p).s.length == 0) = false := by
 rw [abx]
 cases p with
 | nil => exact absurd rfl h
 | cons a r => rfl
theorem ahx : ((pd []).s.length == 0) = true := by rw [abx]; rfl
section
variable {g : SS} {p0 pk : List Nat} {mid : List SS}
set_option tactic.hygienic false
theorem st_0 : Txt.startswith g.s (pd []).s = true := (abf _ _).mpr (by rw [abg]; exact List.nil_prefix)
theorem en_0 : Txt.endswith g.s (pd []).s = true := (abM _ _).mpr (by rw [abg]; exact List.nil_suffix)
theorem glen : (g.s.length : Int) = ((cl g.s).length : Nat) := by rw [aaE]
theorem afb {hi lo : Nat} (hh : hi ≤ (cl g.s).length) (hl : lo ≤ hi) : emLoop g hi (pd [] :: mid) lo = emLoop g hi mid lo := by
 have hf : findC g (pd []) lo hi = lo := adj (abg []) hh hl
 conv => lhs; rw [aaY]
 rw [hf, decide_eq_false (by lia), abx]
 show emLoop g hi mid ((lo : Int) + (0 : Nat)) = _
 congr 1
theorem agp : emP g (pd []) mid (pd []) = emLoop g ((cl g.s).length : Nat) (mid ++ [pd []]) (0 : Nat) := by
 unfold emP
 rw [ahx, st_0, en_0]
 show (match decide ((0 : Int) > g.s.length) with | true => false | false => emLoop g g.s.length ([pd []] ++ mid ++ [pd []]) 0) = _
 rw [decide_eq_false (by lia), glen]
 exact afb (mid := mid ++ [pd []]) (lo := 0) (Nat.le_refl _) (Nat.zero_le _)
theorem ajy (hk : pk ≠ []) (hs : ¬ pk <:+ cl g.s) : emP g (pd []) mid (pd pk) = false := by
 have he : Txt.endswith g.s (pd pk).s = false := by
  cases h : Txt.endswith g.s (pd pk).s with
  | false => rfl
  | true => have := (abM _ _).mp h; rw [abg] at this; exact absurd this hs
 unfold emP
 rw [ahx, st_0, ab9 hk, he]
theorem aiA (hk : pk ≠ []) (hs : pk <:+ cl g.s) : emP g (pd []) mid (pd pk) = emLoop g (((cl g.s).length - pk.length : Nat) : Int) mid (0 : Nat) := by
 have he : Txt.endswith g.s (pd pk).s = true := (abM _ _).mpr (by rw [abg]; exact hs)
 have hl := hs.length_le
 unfold emP
 rw [ahx, st_0, ab9 hk, he]
 show (match decide ((0 : Int) > (g.s.length : Int) - (pd pk).s.length) with | true => false | false => emLoop g ((g.s.length : Int) - (pd pk).s.length) ([pd []] ++ mid ++ []) 0) = _
 rw [abx, glen, decide_eq_false (by omega), List.append_nil, show (((cl g.s).length : Nat) : Int) - (pk.length : Nat) = (((cl g.s).length - pk.length : Nat) : Int) by omega]
 exact afb (mid := mid) (lo := 0) (by omega) (Nat.zero_le _)
theorem aeH (h0 : p0 ≠ []) (hs : ¬ p0 <+: cl g.s) {xk : SS} : emP g (pd p0) mid xk = false := by
 have he : Txt.startswith g.s (pd p0).s = false := by
  cases h : Txt.startswith g.s (pd p0).s with
  | false => rfl
  | true => have := (abf _ _).mp h; rw [abg] at this; exact absurd this hs
 unfold emP
 rw [ab9 h0, he]
theorem aiB (h0 : p0 ≠ []) (hs : p0 <+: cl g.s) : emP g (pd p0) mid (pd []) = emLoop g ((cl g.s).length : Nat) (mid ++ [pd []]) (p0.length : Nat) := by
 have he : Txt.startswith g.s (pd p0).s = true := (abf _ _).mpr (by rw [abg]; exact hs)
 have hl := hs.length_le
 unfold emP
 rw [ab9 h0, he, ahx, en_0]
 show (match decide (((pd p0).s.length : Int) > g.s.length) with | true => false | false => emLoop g g.s.length ([] ++ mid ++ [pd []]) (pd p0).s.length) = _
 rw [abx, glen, decide_eq_false (by lia), List.nil_append]
theorem aeI (h0 : p0 ≠ []) (hk : pk ≠ []) (hs : p0 <+: cl g.s) (ht : pk <:+ cl g.s) : emP g (pd p0) [] (pd pk) = decide (p0.length + pk.length ≤ (cl g.s).length) := by
 have he : Txt.startswith g.s (pd p0).s = true := (abf _ _).mpr (by rw [abg]; exact hs)
 have hf : Txt.endswith g.s (pd pk).s = true := (abM _ _).mpr (by rw [abg]; exact ht)
 unfold emP
 rw [ab9 h0, he, ab9 hk, hf]
 show (match decide (((pd p0).s.length : Int) > (g.s.length : Int) - (pd pk).s.length) with | true => false | false => emLoop g ((g.s.length : Int) - (pd pk).s.length) ([] ++ [] ++ []) (pd p0).s.length) = _
 rw [abx, abx, glen]
 by_cases q : p0.length + pk.length ≤ (cl g.s).length
 · rw [decide_eq_true q, decide_eq_false (by lia)]; rfl
 · rw [decide_eq_false q, decide_eq_true (by lia)]
theorem aca {p : List Nat} {hi lo : Nat} (hh : hi ≤ (cl g.s).length) (hn : ∀ j, lo ≤ j -> ¬ AtL (cl g.s) p hi j) : emLoop g hi (pd p :: mid) lo = false := by
 have hf : findC g (pd p) lo hi = -1 := aeE hh (by rw [abg]; exact hn)
 rw [aaY]
 rw [hf]
 rfl
theorem agq {p : List Nat} {hi lo : Nat} (hh : hi ≤ (cl g.s).length) (ha : AtL (cl g.s) p hi lo) : emLoop g hi (pd p :: mid) lo = emLoop g hi mid ((lo + p.length : Nat) : Int) := by
 have hf : findC g (pd p) lo hi = lo := adF hh (Nat.le_refl _) (by rw [abg]; exact ha) (fun j h1 h2 => by lia)
 conv => lhs; rw [aaY]
 rw [hf, decide_eq_false (by lia), abx]
 rfl
end
abbrev Bk := Nat × List Nat
noncomputable def sgL (m : Nat) (o : List Nat) : List Nat := m :: (o ++ [m])
set_option tactic.hygienic false
theorem acQ (m : Nat) (o : List Nat) : (sgL m o).length = o.length + 2 := by unfold sgL; simp
theorem akX (m : Nat) (o : List Nat) : sgL m o ≠ [] := by unfold sgL; simp
noncomputable def blk (x : Bk) : List Nat := sgL x.1 x.2
noncomputable def blks (bs : List Bk) : List Nat := (bs.map blk).flatten
structure GB (x : Bk) : Prop where
 m : 173 ≤ x.1
 c : ∀ c ∈ x.2, c ≤ 126 ∧ c ≠ 46
 n : x.2 ≠ []
theorem GB.low {x : Bk} (h : GB x) {m : Nat} (hm : 173 ≤ m) : m ∉ x.2 := fun q => absurd (h.c m q).1 (by omega)
theorem GB.dots {x : Bk} (h : GB x) : ∀ c ∈ blk x, c ≠ 46 := fun c hc => by
 unfold blk sgL at hc
 have hm := h.m
 rcases List.mem_cons.mp hc with e | e
 · rw [e]; omega
 · rcases List.mem_append.mp e with e | e
   · exact (h.c c e).2
   · rw [List.mem_singleton.mp e]; omega
theorem aiC {m : Nat} : ∀ {a b rest : List Nat}, m ∉ a -> m ∉ b -> a ++ [m] <+: b ++ (m :: rest) -> a = b
 | [], [], _, _, _, _ => rfl
 | [], c :: b, _, _, hb, h => by
  have := List.cons_prefix_cons.mp h
  exact absurd this.1 (fun e => hb (by rw [e]; exact .head _))
 | c :: a, [], _, ha, _, h => by
  have := List.cons_prefix_cons.mp h
  exact absurd this.1 (fun e => ha (by rw [e]; exact .head _))
 | c :: a, d :: b, rest, ha, hb, h => by
  have := List.cons_prefix_cons.mp h
  rw [this.1, aiC (fun e => ha (.tail _ e)) (fun e => hb (.tail _ e)) this.2]
theorem acp {a b : Bk} {rest : List Nat} (ha : GB a) (hb : GB b) (h : blk a <+: blk b ++ rest) : a = b := by
 have h := List.cons_prefix_cons.mp (show a.1 :: (a.2 ++ [a.1]) <+: b.1 :: ((b.2 ++ [b.1]) ++ rest) from h)
 have h2 := h.2
 rw [List.append_assoc, <- h.1] at h2
 exact Prod.ext h.1 (aiC (ha.low ha.m) (hb.low ha.m) h2)
theorem agr (a : Bk) : (blk a).reverse = blk (a.1, a.2.reverse) := by unfold blk sgL; simp
theorem GB.rev {a : Bk} (h : GB a) : GB (a.1, a.2.reverse) := ⟨h.m, fun c hc => h.c c (List.mem_reverse.mp hc), fun e => h.n (List.reverse_eq_nil_iff.mp e)⟩
theorem aeJ {a b : Bk} {rest : List Nat} (ha : GB a) (hb : GB b) (h : blk a <:+ rest ++ blk b) : a = b := by
 have h := List.reverse_prefix.mpr h
 rw [List.reverse_append, agr, agr] at h
 have e := acp ha.rev hb.rev h
 exact Prod.ext (Prod.mk.inj e).1 (List.reverse_inj.mp (Prod.mk.inj e).2)
theorem ajz {x b : Bk} {hi k : Nat} {pre rest : List Nat} (hx : GB x) (hb : GB b) (hne : x ≠ b) (hr : ∀ c, rest.head? = some c -> 173 ≤ c) (h1 : pre.length ≤ k) (h2 : k < pre.length + (blk b).length) : ¬ AtL (pre ++ (blk b ++ rest)) (blk x) hi k := fun hA => by
 have hp := hA.2
 unfold blk at h2
 rw [acQ] at h2
 rw [List.drop_append, List.drop_eq_nil_of_le h1, List.nil_append] at hp
 obtain ⟨t, ht⟩ : ∃ t, k - pre.length = t := ⟨_, rfl⟩
 rw [ht] at hp
 have ht2 : t < b.2.length + 2 := by omega
 match t, hp, ht2 with
 | 0, hp, _ => exact hne (acp hx hb hp)
 | s + 1, hp, ht2 =>
  have hp : x.1 :: (x.2 ++ [x.1]) <+: ((b.2 ++ [b.1]) ++ rest).drop s := hp
  rcases Nat.lt_or_ge s b.2.length with q | q
  · rw [List.append_assoc, List.drop_append_of_le_length (by lia), List.drop_eq_getElem_cons q, List.cons_append] at hp
    have := (List.cons_prefix_cons.mp hp).1
    exact hb.low hx.m (this ▸ List.getElem_mem q)
  · have e : s = b.2.length := by lia
    subst e
    rw [List.append_assoc, List.drop_append_of_le_length (Nat.le_refl _), List.drop_length, List.nil_append] at hp
    have h := (List.cons_prefix_cons.mp (show x.1 :: (x.2 ++ [x.1]) <+: b.1 :: rest from hp)).2
    cases ho : x.2 with
    | nil => exact hx.n ho
    | cons c o' =>
     rw [ho] at h
     cases rest with
     | nil => exact absurd h.length_le (by simp)
     | cons d rest' =>
      have h' := (List.cons_prefix_cons.mp (show c :: (o' ++ [x.1]) <+: d :: rest' from h)).1
      have h3 := hr d rfl
      have h4 := (hx.c c (by rw [ho]; exact .head _)).1
      omega
theorem ags {bs : List Bk} {post : List Nat} (hb : ∀ b ∈ bs, GB b) (hp : ∀ c, post.head? = some c -> 173 ≤ c) : ∀ c, (blks bs ++ post).head? = some c -> 173 ≤ c := by
 cases bs with
 | nil => exact hp
 | cons b r => intro c h; exact (Option.some.inj h) ▸ (hb b (.head _)).m
theorem aiD (b : Bk) (t : List Bk) : blks (b :: t) = blk b ++ blks t := rfl
theorem afc (a b : List Bk) : blks (a ++ b) = blks a ++ blks b := by unfold blks; simp
theorem aiE (b : Bk) : blks [b] = blk b := by unfold blks; simp
noncomputable def subG {α : Type} [DecidableEq α] : List α -> List α -> Bool
 | [], _ => true
 | _ :: _, [] => false
 | o :: r, b :: t => match decide (o = b) with
  | true => subG r t
  | false => subG (o :: r) t
theorem afd {α : Type} [DecidableEq α] (o : α) (r : List α) (b : α) (t : List α) : subG (o :: r) (b :: t) = match decide (o = b) with | true => subG r t | false => subG (o :: r) t := rfl
theorem acG {α : Type} [DecidableEq α] (bs : List α) : subG [] bs = true := by cases bs <;> rfl
theorem aa2 {g : SS} {post : List Nat} {tl : List SS} {hi : Nat} (hp : ∀ c, post.head? = some c -> 173 ≤ c) (htl : tl = [] ∨ tl = [pd []]) : ∀ (bs mids : List Bk) (pre : List Nat), (∀ b ∈ bs, GB b) -> (∀ o ∈ mids, GB o) -> cl g.s = pre ++ (blks bs ++ post) -> hi = pre.length + (blks bs).length ->
 emLoop g hi (mids.map (fun o => pd (blk o)) ++ tl) (pre.length : Nat) = subG mids bs
 | bs, [], pre, _, _, hg, hh => by
  have hle : hi ≤ (cl g.s).length := by rw [hg, List.length_append, List.length_append]; lia
  rw [acG]
  rcases htl with rfl | rfl
  · rfl
  · have hf : findC g (pd []) (pre.length : Nat) hi = (pre.length : Nat) := adj (abg []) hle (by lia)
    show emLoop g _ [pd []] _ = true
    rw [aaY]
    rw [hf, decide_eq_false (by lia)]
    rfl
 | [], o :: r, pre, _, ho, hg, hh => by
  have hle : hi ≤ (cl g.s).length := by rw [hg, List.length_append, List.length_append]; lia
  have hf : findC g (pd (blk o)) (pre.length : Nat) hi = -1 := aeE hle (fun j hj hA => by
   have := hA.1
   rw [abg, hh] at this
   unfold blk at this
   rw [acQ] at this
   simp [blks] at this
   lia)
  show emLoop g _ (pd (blk o) :: (r.map (fun o => pd (blk o)) ++ tl)) _ = false
  rw [aaY]
  rw [hf]
  rfl
 | b :: t, o :: r, pre, hb, ho, hg, hh => by
  have hg1 : cl g.s = pre ++ (blk b ++ (blks t ++ post)) := by rw [hg, aiD, List.append_assoc]
  have hg2 : cl g.s = (pre ++ blk b) ++ (blks t ++ post) := by rw [hg1, List.append_assoc]
  have hh2 : hi = (pre ++ blk b).length + (blks t).length := by rw [hh, aiD, List.length_append, List.length_append]; lia
  have hle : hi ≤ (cl g.s).length := by rw [hg, List.length_append, List.length_append]; lia
  rw [afd]
  cases hd : decide (o = b) with
  | true =>
   have e : o = b := of_decide_eq_true hd
   subst e
   have hf : findC g (pd (blk o)) (pre.length : Nat) hi = (pre.length : Nat) := adF hle (Nat.le_refl _) ⟨by rw [abg, hh2, List.length_append]; lia, by
    rw [abg, hg1, List.drop_append_of_le_length (Nat.le_refl _), List.drop_length, List.nil_append]
    exact List.prefix_append _ _⟩ (fun j h1 h2 => by omega)
   have ih := aa2 hp htl t r (pre ++ blk o) (fun b h => hb b (.tail _ h)) (fun o h => ho o (.tail _ h)) hg2 hh2
   show emLoop g _ (pd (blk o) :: (r.map (fun o => pd (blk o)) ++ tl)) _ = subG r t
   rw [aaY, hf, decide_eq_false (by lia), abx, <- ih, List.length_append]
   dsimp only
   congr 1
  | false =>
   have hne : o ≠ b := of_decide_eq_false hd
   have hf : findC g (pd (blk o)) (pre.length : Nat) hi = findC g (pd (blk o)) ((pre ++ blk b).length : Nat) hi := agn hle (by rw [List.length_append]; lia) (fun j h1 h2 hA => by
    rw [abg] at hA
    rw [hg1] at hA
    rw [List.length_append] at h2
    exact ajz (ho o (.head _)) (hb b (.head _)) hne (ags (fun b h => hb b (.tail _ h)) hp) h1 h2 hA)
   have ih := aa2 hp htl t (o :: r) (pre ++ blk b) (fun b h => hb b (.tail _ h)) ho hg2 hh2
   rw [<- ih]
   show emLoop g _ (pd (blk o) :: (r.map (fun o => pd (blk o)) ++ tl)) _ = emLoop g _ (pd (blk o) :: (r.map (fun o => pd (blk o)) ++ tl)) _
   rw [aaY, aaY, hf]
section
variable {g : SS} {p0 pk : List Nat} {mid : List SS}
set_option tactic.hygienic false
theorem aiF (hk : pk ≠ []) (hs : ¬ pk <:+ cl g.s) {x0 : SS} : emP g x0 mid (pd pk) = false := by
 have he : Txt.endswith g.s (pd pk).s = false := by
  cases h : Txt.endswith g.s (pd pk).s with
  | false => rfl
  | true => have := (abM _ _).mp h; rw [abg] at this; exact absurd this hs
 unfold emP
 rw [ab9 hk, he]
 cases x0.s.length == 0 <;> cases Txt.startswith g.s x0.s <;> rfl
theorem akY (h0 : p0 ≠ []) (hk : pk ≠ []) (hs : p0 <+: cl g.s) (ht : pk <:+ cl g.s) (hl : p0.length + pk.length ≤ (cl g.s).length) : emP g (pd p0) mid (pd pk) = emLoop g (((cl g.s).length - pk.length : Nat) : Int) mid (p0.length : Nat) := by
 have he : Txt.startswith g.s (pd p0).s = true := (abf _ _).mpr (by rw [abg]; exact hs)
 have hf : Txt.endswith g.s (pd pk).s = true := (abM _ _).mpr (by rw [abg]; exact ht)
 unfold emP
 rw [ab9 h0, he, ab9 hk, hf]
 show (match decide (((pd p0).s.length : Int) > (g.s.length : Int) - (pd pk).s.length) with | true => false | false => emLoop g ((g.s.length : Int) - (pd pk).s.length) ([] ++ mid ++ []) (pd p0).s.length) = _
 rw [abx, abx, glen, decide_eq_false (by omega), List.append_nil, show (((cl g.s).length : Nat) : Int) - (pk.length : Nat) = (((cl g.s).length - pk.length : Nat) : Int) by omega]
 rfl
end
noncomputable def matchG {α : Type} [DecidableEq α] (a b : Bool) (row text : List α) : Bool := match a with
 | true => match b with
  | true => subG row text
  | false => match row.getLast?, text.getLast? with
   | some z, some y => decide (z = y) && subG row.dropLast text.dropLast
   | _, _ => false
 | false => match row, text with
  | r :: rs, t :: ts => match b with
   | true => decide (r = t) && subG rs ts
   | false => match rs.getLast?, ts.getLast? with
    | some z, some y => decide (r = t) && decide (z = y) && subG rs.dropLast ts.dropLast
    | _, _ => false
  | _, _ => false
noncomputable def piecesG (a b : Bool) (row : List Bk) : List (List Nat) := (match a with | true => [[]] | false => []) ++ row.map blk ++ (match b with | true => [[]] | false => [])
section
variable {fn : Str -> Option FS} {w g : SS} {row text : List Bk}
set_option tactic.hygienic false
theorem acR {α : Type} {l : List α} (h : l ≠ []) : ∃ a z, l = a ++ [z] := ⟨l.dropLast, l.getLast h, (List.dropLast_concat_getLast h).symm⟩
theorem ad7 {x : Bk} (h : GB x) : okPart (blk x) := aa5 h.dots
theorem aaS (x : Bk) : blk x ≠ [] := akX _ _
theorem afe {l : List Bk} (h : ∀ x ∈ l, GB x) {p : List Nat} (hp : p ∈ l.map blk) : okPart p := by
 obtain ⟨x, hx, rfl⟩ := List.mem_map.mp hp
 exact ad7 (h x hx)
theorem acq {p0 pk : List Nat} {mid : List (List Nat)} {r : Bool} (hx : cl w.s = joinL (p0 :: (mid ++ [pk]))) (hok : ∀ p ∈ p0 :: (mid ++ [pk]), okPart p) (hw : w.b ≤ 900) (hg : g.s.length ≤ 1000) (hm : mid.length ≤ 800) (he : emP g (pd p0) (mid.map pd) (pd pk) = r) :
 runDef (GF fn) 12 dEM [.str w, .str g] [] = some (.bool r, .list []) := by rw [ahw hx hok hw hg hm, he]
theorem acC : okPart [] := fun k hk => absurd hk (by simp)
theorem adG {a b : Bool} (hrow : ∀ x ∈ row, GB x) (htext : ∀ x ∈ text, GB x) (hne : row ≠ []) (h1 : text ≠ []) (h2 : a = false -> b = false -> 2 ≤ text.length) (hl : row.length ≤ 800) (hw : cl w.s = joinL (piecesG a b row)) (hg : cl g.s = blks text) (hwb : w.b ≤ 900) (hgl : g.s.length ≤ 1000) :
 runDef (GF fn) 12 dEM [.str w, .str g] [] = some (.bool (matchG a b row text), .list []) := by
 have noH : ∀ c, ([] : List Nat).head? = some c -> 173 ≤ c := fun c h => by cases h
 obtain ⟨t, ts, rfl⟩ : ∃ t ts, text = t :: ts := by cases text with | nil => exact absurd rfl h1 | cons t ts => exact ⟨t, ts, rfl⟩
 have hts : a = false -> b = false -> ts ≠ [] := fun ha hb e => by have := h2 ha hb; rw [e] at this; simp at this
 obtain ⟨r, rs, rfl⟩ : ∃ r rs, row = r :: rs := by cases row with | nil => exact absurd rfl hne | cons r rs => exact ⟨r, rs, rfl⟩
 have gr := hrow r (.head _)
 have gt := htext t (.head _)
 have grs : ∀ x ∈ rs, GB x := fun x h => hrow x (.tail _ h)
 have gts : ∀ x ∈ ts, GB x := fun x h => htext x (.tail _ h)
 simp only [List.length_cons] at hl
 have hg1 : cl g.s = blk t ++ blks ts := hg
 have start : r = t -> blk r <+: cl g.s := fun e => by rw [hg1, e]; exact List.prefix_append _ _
 have startF : r ≠ t -> ¬ blk r <+: cl g.s := fun e h => e (acp gr gt (hg1 ▸ h))
 cases a with
 | true =>
  cases b with
  | true =>
   refine acq (p0 := []) (mid := (r :: rs).map blk) (pk := []) (by rw [hw]; rfl) ?_ hwb hgl (by simp; omega) ?_
   · intro p hp
     rcases List.mem_cons.mp hp with e | e
     · rw [e]; exact acC
     · rcases List.mem_append.mp e with e | e
       · exact afe hrow e
       · rw [List.mem_singleton.mp e]; exact acC
   · rw [agp, List.map_map]
     exact aa2 (g := g) (post := []) (tl := [pd []]) noH (.inr rfl) (t :: ts) (r :: rs) [] htext hrow (by rw [hg, List.append_nil]; rfl) (by rw [hg]; simp)
  | false =>
   obtain ⟨ra, z, hz⟩ := acR (l := r :: rs) (by simp)
   obtain ⟨ta, y, hy⟩ := acR (l := t :: ts) (by simp)
   have gz : GB z := hrow z (by rw [hz]; simp)
   have gy : GB y := htext y (by rw [hy]; simp)
   have gra : ∀ x ∈ ra, GB x := fun x h => hrow x (by rw [hz]; simp [h])
   have gta : ∀ x ∈ ta, GB x := fun x h => htext x (by rw [hy]; simp [h])
   have hg2 : cl g.s = blks ta ++ blk y := by rw [hg, hy, afc, aiE]
   have hm : matchG true false (r :: rs) (t :: ts) = (decide (z = y) && subG ra ta) := by
    rw [hz, hy]; unfold matchG; simp
   have hla : ra.length ≤ 800 := by have := congrArg List.length hz; simp at this; omega
   rw [hm]
   refine acq (p0 := []) (mid := ra.map blk) (pk := blk z) (by rw [hw, hz]; unfold piecesG; simp) ?_ hwb hgl (by simp; exact hla) ?_
   · intro p hp
     rcases List.mem_cons.mp hp with e | e
     · rw [e]; exact acC
     · rcases List.mem_append.mp e with e | e
       · exact afe gra e
       · rw [List.mem_singleton.mp e]; exact ad7 gz
   · cases hd : decide (z = y) with
     | false =>
      have hne : z ≠ y := of_decide_eq_false hd
      exact aiF (aaS z) (fun h => hne (aeJ gz gy (hg2 ▸ h)))
     | true =>
      obtain rfl : z = y := of_decide_eq_true hd
      rw [aiA (aaS z) (by rw [hg2]; exact List.suffix_append _ _), List.map_map]
      have h := aa2 (g := g) (post := blk z) (tl := []) (hi := (cl g.s).length - (blk z).length) (fun c h => (Option.some.inj h) ▸ gz.m) (.inl rfl) ta ra [] gta gra (by rw [hg2]; rfl) (by rw [hg2, List.length_append]; simp)
      rw [List.append_nil] at h
      exact h
 | false =>
  cases b with
  | true =>
   have hm : matchG false true (r :: rs) (t :: ts) = (decide (r = t) && subG rs ts) := rfl
   rw [hm]
   refine acq (p0 := blk r) (mid := rs.map blk) (pk := []) (by rw [hw]; rfl) ?_ hwb hgl (by simp; omega) ?_
   · intro p hp
     rcases List.mem_cons.mp hp with e | e
     · rw [e]; exact ad7 gr
     · rcases List.mem_append.mp e with e | e
       · exact afe grs e
       · rw [List.mem_singleton.mp e]; exact acC
   · cases hd : decide (r = t) with
     | false => exact aeH (aaS r) (startF (of_decide_eq_false hd))
     | true =>
      obtain rfl : r = t := of_decide_eq_true hd
      rw [aiB (aaS r) (start rfl), List.map_map]
      exact aa2 (g := g) (post := []) (tl := [pd []]) noH (.inr rfl) ts rs (blk r) gts grs (by rw [hg1, List.append_nil]) (by rw [hg1, List.length_append])
  | false =>
   obtain ⟨ta, y, hy⟩ := acR (l := ts) (hts rfl rfl)
   have gy : GB y := gts y (by rw [hy]; simp)
   have gta : ∀ x ∈ ta, GB x := fun x h => gts x (by rw [hy]; simp [h])
   have hg2 : cl g.s = blk t ++ (blks ta ++ blk y) := by rw [hg1, hy, afc, aiE]
   cases hrs : rs with
   | nil =>
    subst hrs
    have hm : matchG false false [r] (t :: ts) = false := rfl
    rw [hm]
    have hw1 : cl w.s = blk r := by rw [hw]; unfold piecesG joinL; simp
    have h := ajd (fn := fn) (w := w) (g := g) (aeG (by rw [hw1]; exact ad7 gr))
    rw [h, beq_eq_false_iff_ne.mpr (fun e => ?_)]
    have e := congrArg cl e
    rw [hw1, hg2] at e
    obtain rfl := acp (rest := blks ta ++ blk y) gr gt (by rw [<- e]; exact List.prefix_refl _)
    have := congrArg List.length e
    unfold blk at this
    simp [acQ] at this
   | cons r2 rt =>
    rw [<- hrs]
    obtain ⟨ra, z, hz⟩ := acR (l := rs) (by rw [hrs]; simp)
    have gz : GB z := grs z (by rw [hz]; simp)
    have gra : ∀ x ∈ ra, GB x := fun x h => grs x (by rw [hz]; simp [h])
    have hla : ra.length ≤ 800 := by have := congrArg List.length hz; simp at this; omega
    have hm : matchG false false (r :: rs) (t :: ts) = (decide (r = t) && decide (z = y) && subG ra ta) := by
     rw [hz, hy]; unfold matchG; simp
    rw [hm]
    refine acq (p0 := blk r) (mid := ra.map blk) (pk := blk z) (by rw [hw, hz]; unfold piecesG; simp) ?_ hwb hgl (by simp; exact hla) ?_
    · intro p hp
      rcases List.mem_cons.mp hp with e | e
      · rw [e]; exact ad7 gr
      · rcases List.mem_append.mp e with e | e
        · exact afe gra e
        · rw [List.mem_singleton.mp e]; exact ad7 gz
    · cases hd : decide (r = t) with
      | false => exact aeH (aaS r) (startF (of_decide_eq_false hd))
      | true =>
       obtain rfl : r = t := of_decide_eq_true hd
       cases he : decide (z = y) with
       | false =>
        have hne : z ≠ y := of_decide_eq_false he
        exact aiF (aaS z) (fun h => hne (aeJ gz gy (by rw [hg2, <- List.append_assoc] at h; exact h)))
       | true =>
        obtain rfl : z = y := of_decide_eq_true he
        rw [akY (aaS r) (aaS z) (start rfl) (by rw [hg2, <- List.append_assoc]; exact List.suffix_append _ _) (by rw [hg2]; simp), List.map_map]
        have h := aa2 (g := g) (post := blk z) (tl := []) (hi := (cl g.s).length - (blk z).length) (fun c h => (Option.some.inj h) ▸ gz.m) (.inl rfl) ta ra (blk r) gta gra hg2 (by rw [hg2]; simp; omega)
        rw [List.append_nil] at h
        exact h
end
set_option tactic.hygienic false
theorem aaf (x y : SS) : cl (x.app y).s = cl x.s ++ cl y.s := ad6 _ _
theorem acD : cl D3.s = DD3 := by ext
theorem ad8 (m : Nat) : cl (chS m).s = [m] := by ext
theorem abX : ∀ l : List SS, cl (joinS l).s = (l.map fun x => cl x.s).flatten
 | [] => by ext
 | x :: r => by
  have ih := abX r
  have e1 : ∀ l : List SS, (joinS l).s = PySem.Str.join (SS.of "").s (l.map (·.s)) := fun l => StrLaws.glued_eq_join _ _
  rw [e1] at ih ⊢
  cases r with
  | nil => show cl x.s = _; simp
  | cons y t =>
   show cl (x.s ++ (SS.of "").s ++ PySem.Str.join (SS.of "").s ((y :: t).map (·.s))) = _
   rw [ad6, ad6, ih]
   have : cl (SS.of "").s = [] := by ext
   rw [this]
   simp
theorem abm : ∀ l : List SS, (∀ x ∈ l, x.b ≤ 10) -> (joinS l).b ≤ 10 * l.length
 | [], _ => Nat.le_refl _
 | x :: r, h => by
  have h1 := h x (.head _)
  have h2 := abm r (fun y hy => h y (.tail _ hy))
  show x.b + 0 + joinB 0 r ≤ 10 * (r.length + 1)
  have : (joinS r).b = joinB 0 r := rfl
  lia
theorem ahy (x : SS) (a : Nat) (r : List Nat) (h : cl x.s = a :: r) : cl (tail1 x).s = r := by
 have hx : x.s.cps.toList = a :: r := h
 have e := StrLaws.sliceText_from (x := x.s) (i := 1) ⟨by lia, by rw [hx]; simp; omega⟩
 have e1 : (tail1 x).s = StrLaws.sliceText x.s (some 1) none := rfl
 rw [e1, e, hx]
 show cl (mk _) = _
 rw [afN]
 simp
theorem aaL (x y : SS) : (x.app y).b = x.b + y.b := rfl
theorem b_D3 : D3.b = 3 := by ext
section
variable {fn : Str -> Option FS} {a b c d e o : SS} {m : Nat} {xa xb xc xd xe : Bk} {oo : List Nat}
set_option tactic.hygienic false
theorem aiG {w g : SS} (hw : ∀ c ∈ cl w.s, c ≠ 46) (hne : cl w.s ≠ cl g.s) : runDef (GF fn) 12 dEM [.str w, .str g] [] = some (.bool false, .list []) := by
 have h := ajd (fn := fn) (w := w) (g := g) (aeG (aa5 hw))
 rw [h, beq_eq_false_iff_ne.mpr (fun e => hne (congrArg cl e))]
theorem ajA {w : SS} (hw : ∀ c ∈ cl w.s, c ≠ 46) : runDef (GF fn) 12 dEM [.str w, .str w] [] = some (.bool true, .list []) := by
 have h := ajd (fn := fn) (w := w) (g := w) (aeG (aa5 hw))
 rw [h, beq_self_eq_true]
theorem abC (x : Bk) : (blk x).length = x.2.length + 2 := acQ _ _
theorem ajB (ha : cl a.s = blk xa) (hb : cl b.s = blk xb) (hc : cl c.s = blk xc) (hd : cl d.s = blk xd) (he : cl e.s = blk xe) (ho : cl o.s = oo) (ga : GB xa) (gb : GB xb) (gc : GB xc) (gd : GB xd) (ge : GB xe) (go : GB (xe.1, oo)) (hne : oo ≠ xe.2)
 (la : a.b ≤ 10) (lb : b.b ≤ 10) (lc : c.b ≤ 10) (ld : d.b ≤ 10) (le : e.b ≤ 10) (lo : o.b ≤ 8) : ∀ x ∈ casesD a b c d e o (chS xe.1), runDef (GF fn) 12 dEM [.str x.1, .str x.2.1] [] = some (.bool x.2.2, .list []) := by
 have nA := ga.dots
 have nB := gb.dots
 have nC := gc.dots
 have nD := gd.dots
 have nE := ge.dots
 have jw : cl (joinS [a, b, c, d]).s = blk xa ++ (blk xb ++ (blk xc ++ blk xd)) := by rw [abX]; simp [ha, hb, hc, hd]
 have j3 : cl (joinS [a, b, c]).s = blk xa ++ (blk xb ++ blk xc) := by rw [abX]; simp [ha, hb, hc]
 have jt : cl (joinS [b, c, d]).s = blk xb ++ (blk xc ++ blk xd) := by rw [abX]; simp [hb, hc, hd]
 have j2 : cl (joinS [a, b]).s = blk xa ++ blk xb := by rw [abX]; simp [ha, hb]
 have jd : cl (joinS [c, d]).s = blk xc ++ blk xd := by rw [abX]; simp [hc, hd]
 have gl : (joinS [a, b, c, d]).s.length ≤ 1000 := Nat.le_trans (joinS [a, b, c, d]).h (Nat.le_trans (abm _ (by simp; exact ⟨la, lb, lc, ld⟩)) (by show 10 * 4 ≤ 1000; decide))
 have el : e.s.length ≤ 1000 := Nat.le_trans e.h (by lia)
 have l2 : (joinS [a, b]).b ≤ 20 := abm [a, b] (by simp; exact ⟨la, lb⟩)
 have ld2 : (joinS [c, d]).b ≤ 20 := abm [c, d] (by simp; exact ⟨lc, ld⟩)
 have lt : (joinS [b, c, d]).b ≤ 30 := abm [b, c, d] (by simp; exact ⟨lb, lc, ld⟩)
 have mem2 : ∀ {x y : List Nat}, (∀ c ∈ x, c ≠ 46) -> (∀ c ∈ y, c ≠ 46) -> ∀ c ∈ x ++ y, c ≠ 46 := fun hx hy c hc => (List.mem_append.mp hc).elim (hx c) (hy c)
 have okE : okPart (blk xe) := ad7 ge
 have okO : okPart (blk (xe.1, oo)) := ad7 go
 have neO : (xe.1, oo) ≠ xe := fun q => hne (congrArg Prod.snd q)
 intro x hx
 simp only [casesD, List.mem_cons, List.not_mem_nil, or_false] at hx
 rcases hx with rfl | rfl | rfl | rfl | rfl | rfl | rfl | rfl | rfl | rfl | rfl | rfl | rfl
 · exact ajA (by rw [jw]; exact mem2 nA (mem2 nB (mem2 nC nD)))
 · refine aiG (by rw [j3]; exact mem2 nA (mem2 nB nC)) (fun e => ?_)
   have := congrArg List.length e
   rw [j3, jw] at this
   simp [abC] at this
 · refine aiG (by rw [jt]; exact mem2 nB (mem2 nC nD)) (fun e => ?_)
   have := congrArg List.length e
   rw [jt, jw] at this
   simp [abC] at this
 · refine acq (p0 := blk xa ++ blk xb) (mid := []) (pk := blk xc ++ blk xd) ?_ ?_ ?_ gl (Nat.zero_le _) ?_
   · rw [aaf, aaf, j2, jd, acD]; simp [joinL]
   · simp only [List.nil_append, List.mem_cons, List.not_mem_nil, or_false, forall_eq_or_imp, forall_eq]
     exact ⟨aa5 (mem2 nA nB), aa5 (mem2 nC nD)⟩
   · rw [aaL, aaL, b_D3]; omega
   · rw [List.map_nil, aeI (by simp [aaS]) (by simp [aaS]) (by rw [jw, <- List.append_assoc]; exact List.prefix_append _ _) (by rw [jw, <- List.append_assoc]; exact List.suffix_append _ _), jw]
     refine decide_eq_true ?_
     simp only [List.length_append]
     lia
 · refine acq (p0 := blk xa ++ blk xb) (mid := []) (pk := blk xb ++ (blk xc ++ blk xd)) ?_ ?_ ?_ gl (Nat.zero_le _) ?_
   · rw [aaf, aaf, j2, jt, acD]; simp [joinL]
   · simp only [List.nil_append, List.mem_cons, List.not_mem_nil, or_false, forall_eq_or_imp, forall_eq]
     exact ⟨aa5 (mem2 nA nB), aa5 (mem2 nB (mem2 nC nD))⟩
   · rw [aaL, aaL, b_D3]; omega
   · rw [List.map_nil, aeI (by simp [aaS]) (by simp [aaS]) (by rw [jw, <- List.append_assoc]; exact List.prefix_append _ _) (by rw [jw]; exact List.suffix_append _ _), jw]
     refine decide_eq_false ?_
     simp only [List.length_append, abC]
     lia
 · refine acq (p0 := blk xe) (mid := [blk xe]) (pk := []) ?_ ?_ ?_ el (by simp) ?_
   · rw [aaf, aaf, aaf, he, acD]; simp [joinL]
   · simp only [List.cons_append, List.nil_append, List.mem_cons, List.not_mem_nil, or_false, forall_eq_or_imp, forall_eq]
     exact ⟨okE, okE, acC⟩
   · rw [aaL, aaL, aaL, b_D3]; omega
   · rw [aiB (aaS _) (by rw [he]; exact List.prefix_refl _), he]
     exact aca (mid := [pd []]) (by rw [he]; exact Nat.le_refl _) (fun j hj hA => by have := hA.1; rw [abC] at this hj; omega)
 · refine acq (p0 := []) (mid := [blk xe]) (pk := blk xe) ?_ ?_ ?_ el (by simp) ?_
   · rw [aaf, aaf, aaf, he, acD]; simp [joinL]
   · simp only [List.cons_append, List.nil_append, List.mem_cons, List.not_mem_nil, or_false, forall_eq_or_imp, forall_eq]
     exact ⟨acC, okE, okE⟩
   · rw [aaL, aaL, aaL, b_D3]; omega
   · rw [aiA (aaS _) (by rw [he]; exact List.suffix_refl _), he, Nat.sub_self]
     exact aca (mid := []) (by lia) (fun j hj hA => by have := hA.1; rw [abC] at this; lia)
 · have h := adG (fn := fn) (a := true) (b := true) (w := (((D3.app e).app D3).app e).app D3) (g := e.app e) (row := [xe, xe]) (text := [xe, xe]) (by simp [ge]) (by simp [ge]) (by simp) (by simp) (by simp) (by simp) (by
    rw [aaf, aaf, aaf, aaf, he, acD]; simp [joinL, piecesG]) (by rw [aaf, he]; simp [blks]) (by rw [aaL, aaL, aaL, aaL, b_D3]; omega) (Nat.le_trans (e.app e).h (by rw [aaL]; omega))
   have hm : matchG true true [xe, xe] [xe, xe] = true := by simp [matchG, afd, acG]
   rw [hm] at h
   exact h
 · refine acq (p0 := []) (mid := [blk xe, blk xe]) (pk := []) ?_ ?_ ?_ ?_ (by simp) ?_
   · rw [aaf, aaf, aaf, aaf, he, acD]; simp [joinL]
   · simp only [List.cons_append, List.nil_append, List.mem_cons, List.not_mem_nil, or_false, forall_eq_or_imp, forall_eq]
     exact ⟨acC, okE, okE, acC⟩
   · rw [aaL, aaL, aaL, aaL, b_D3]; omega
   · have e' : (tail1 e).b = e.b := rfl
     exact Nat.le_trans (e.app (tail1 e)).h (by rw [aaL, e']; lia)
   · have hg : cl (e.app (tail1 e)).s = blk xe ++ (xe.2 ++ [xe.1]) := by rw [aaf, ahy e xe.1 (xe.2 ++ [xe.1]) he, he]
     have hlen : (cl (e.app (tail1 e)).s).length = (xe.2.length + 2) + (xe.2.length + 1) := by rw [hg]; simp [abC]
     rw [agp]
     refine (agq (mid := [pd (blk xe), pd []]) (Nat.le_refl _) ⟨by rw [hlen, abC]; lia, by rw [hg]; exact List.prefix_append _ _⟩).trans ?_
     exact aca (mid := [pd []]) (Nat.le_refl _) (fun j hj hA => by
      have h1 : j + (blk xe).length ≤ (cl (e.app (tail1 e)).s).length := hA.1
      rw [hlen] at h1; rw [abC] at h1 hj; lia)
 · refine acq (p0 := blk (xe.1, oo)) (mid := []) (pk := []) ?_ ?_ ?_ el (by simp) ?_
   · rw [aaf, aaf, aaf, ad8, ho, acD]; simp [joinL, blk, sgL]
   · simp only [List.nil_append, List.mem_cons, List.not_mem_nil, or_false, forall_eq_or_imp, forall_eq]
     exact ⟨okO, acC⟩
   · rw [aaL, aaL, aaL, b_D3]; show 1 + o.b + 1 + 3 ≤ 900; lia
   · exact aeH (aaS _) (fun h => neO (acp (rest := []) go ge (by rw [he] at h; rw [List.append_nil]; exact h)))
 · refine acq (p0 := []) (mid := []) (pk := blk (xe.1, oo)) ?_ ?_ ?_ el (by simp) ?_
   · rw [aaf, aaf, aaf, ad8, ho, acD]; simp [joinL, blk, sgL]
   · simp only [List.nil_append, List.mem_cons, List.not_mem_nil, or_false, forall_eq_or_imp, forall_eq]
     exact ⟨acC, okO⟩
   · rw [aaL, aaL, aaL, b_D3]; show 3 + 1 + o.b + 1 ≤ 900; lia
   · exact ajy (aaS _) (fun h => neO (aeJ (rest := []) go ge (by rw [he] at h; exact h)))
 · have hdot : cl (SS.of ".").s = [46] := by ext
   have hm : xe.1 ≠ 46 := by have := ge.m; omega
   refine acq (p0 := []) (mid := [[xe.1, 46, xe.1]]) (pk := []) ?_ ?_ ?_ el (by simp) ?_
   · rw [aaf, aaf, aaf, aaf, ad8, hdot, acD]; simp [joinL]
   · simp only [List.cons_append, List.nil_append, List.mem_cons, List.not_mem_nil, or_false, forall_eq_or_imp, forall_eq]
     refine ⟨acC, fun k hk => ?_, acC⟩
     match k, hk with
     | 0, _ => exact ⟨0, xe.1, by omega, rfl, hm⟩
     | 1, _ => exact ⟨1, xe.1, by omega, rfl, hm⟩
     | 2, _ => exact ⟨0, xe.1, by lia, rfl, hm⟩
   · rw [aaL, aaL, aaL, aaL, b_D3]; show 3 + 1 + 1 + 1 + 3 ≤ 900; decide
   · rw [agp]
     refine aca (mid := [pd []]) (Nat.le_refl _) (fun j hj hA => ?_)
     have h1 := hA.2.subset (show 46 ∈ [xe.1, 46, xe.1] by simp)
     rw [he] at h1
     exact nE 46 (List.mem_of_mem_drop h1) rfl
 · have hnl : cl (SS.of "\n").s = [10] := by ext
   refine acq (p0 := blk xe) (mid := []) (pk := blk xe) ?_ ?_ ?_ ?_ (by simp) ?_
   · rw [aaf, aaf, he, acD]; simp [joinL]
   · simp only [List.nil_append, List.mem_cons, List.not_mem_nil, or_false, forall_eq_or_imp, forall_eq]
     exact ⟨okE, okE⟩
   · rw [aaL, aaL, b_D3]; lia
   · have e' : (SS.of "\n").b = 1 := by ext
     exact Nat.le_trans ((e.app (SS.of "\n")).app e).h (by rw [aaL, aaL, e']; lia)
   · have hg : cl ((e.app (SS.of "\n")).app e).s = blk xe ++ ([10] ++ blk xe) := by rw [aaf, aaf, he, hnl, List.append_assoc]
     rw [List.map_nil, aeI (aaS _) (aaS _) (by rw [hg]; exact List.prefix_append _ _) (by rw [hg, <- List.append_assoc]; exact List.suffix_append _ _), hg]
     refine decide_eq_true ?_
     simp only [List.length_append]
     lia
end
set_option tactic.hygienic false
theorem acH : ∀ (o r pl : List Nat), (∀ c ∈ o, isB1 c = false) -> readL (o ++ r) pl = readL r (pl ++ o)
 | [], r, pl, _ => by rw [List.append_nil]; rfl
 | c :: o, r, pl, h => by
  show readL (c :: (o ++ r)) pl = _
  conv => lhs; rw [adD]
  rw [h c (.head _)]
  show readL (o ++ r) (pl ++ [c]) = _
  rw [acH o r _ (fun x hx => h x (.tail _ hx)), List.append_assoc]
  rfl
theorem aeK {m : Nat} (hm : isB1 m = true) (r : List Nat) {pl : List Nat} (hp : pl ≠ []) : readL (m :: r) pl = numOf (mk pl) :: readL r [] := by
 cases pl with
 | nil => exact absurd rfl hp
 | cons a q =>
  conv => lhs; rw [adD]
  rw [hm]
  rfl
theorem ahz {m : Nat} (hm : isB1 m = true) (r : List Nat) : readL (m :: r) [] = readL r [] := by
 conv => lhs; rw [adD]
 rw [hm]
structure RB (x : Bk) : Prop where
 m : isB1 x.1 = true
 c : ∀ c ∈ x.2, isB1 c = false
 n : x.2 ≠ []
theorem agt {x : Bk} (h : RB x) (r : List Nat) : readL (blk x ++ r) [] = numOf (mk x.2) :: readL r [] := by
 show readL (x.1 :: ((x.2 ++ [x.1]) ++ r)) [] = _
 rw [ahz h.m, List.append_assoc, acH x.2 _ [] h.c, List.nil_append]
 exact aeK h.m r h.n
theorem adk : ∀ (bs : List Bk), (∀ x ∈ bs, RB x) -> readL (blks bs) [] = bs.map fun x => numOf (mk x.2)
 | [], _ => rfl
 | x :: r, h => by
  show readL (blk x ++ blks r) [] = _
  rw [agt (h x (.head _)), adk r (fun y hy => h y (.tail _ hy))]
  rfl
theorem ad9 {z : Nat} (hz : isB1 z = false) (x : Bk) (bs : List Bk) (h : ∀ y ∈ x :: bs, RB y) : readL (z :: blks (x :: bs)) [] = numOf (mk [z]) :: (x :: bs).map fun x => numOf (mk x.2) := by
 have hx := h x (.head _)
 have e : z :: blks (x :: bs) = [z] ++ (x.1 :: ((x.2 ++ [x.1]) ++ blks bs)) := rfl
 rw [e, acH [z] _ [] (fun c hc => by rw [List.mem_singleton.mp hc]; exact hz), List.nil_append, aeK hx.m _ (by simp), List.append_assoc, acH x.2 _ [] hx.c, List.nil_append]
 have e2 : [x.1] ++ blks bs = x.1 :: blks bs := rfl
 rw [e2, aeK hx.m _ hx.n, adk bs (fun y hy => h y (.tail _ hy))]
 rfl
noncomputable def lI (l : List Int) : CV := .list (l.map CV.int)
theorem abh : ∀ l : List Int, intsC (l.map CV.int) = some l
 | [] => rfl
 | x :: r => by
  show (match intsC (r.map CV.int) with | some l => some (x :: l) | none => none) = _
  rw [abh r]
theorem agu (a b : List Int) : cmpC .Lt (lI a) (lI b) = some (ltL a b) := by
 unfold cmpC ordC lI
 dsimp only [cvList]
 rw [abh a]
 dsimp only
 rw [abh b]
noncomputable def bisG (t : Nat -> Bool) : Nat -> Nat -> Nat -> Nat
 | 0, lo, _ => lo
 | k + 1, lo, hi => match Nat.blt lo hi with
  | false => lo
  | true => match t ((lo + hi) / 2) with
   | true => bisG t k lo ((lo + hi) / 2)
   | false => bisG t k ((lo + hi) / 2 + 1) hi
theorem akZ (t : Nat -> Bool) (k lo hi : Nat) : bisG t (k + 1) lo hi = match Nat.blt lo hi with | false => lo | true => match t ((lo + hi) / 2) with | true => bisG t k lo ((lo + hi) / 2) | false => bisG t k ((lo + hi) / 2 + 1) hi := rfl
theorem blt_iff {a b : Nat} : Nat.blt a b = true ↔ a < b := by unfold Nat.blt; rw [Nat.ble_eq]; exact Iff.rfl
theorem ajC {a b : Nat} (h : Nat.blt a b = false) : ¬ a < b := fun q => by rw [blt_iff.mpr q] at h; cases h
set_option tactic.hygienic true
theorem acb {test : CE -> Option (Bool × CE)} {body : CE -> Option (FC × CE)} {fr : Nat -> Nat -> CE} {t : Nat -> Bool} {N : Nat} (ht : ∀ lo hi, test (fr lo hi) = some (Nat.blt lo hi, fr lo hi))
 (hb : ∀ lo hi m, (lo + hi) / 2 = m -> m < N -> body (fr lo hi) = some (.next, match t m with | true => fr lo m | false => fr (m + 1) hi)) : ∀ k lo hi, hi - lo < k -> lo ≤ hi -> hi ≤ N ->
 bisG t k lo hi ≤ N ∧ whileL test body k (fr lo hi) = some (.next, fr (bisG t k lo hi) (bisG t k lo hi)) := by
 intro k
 induction k with
 | zero => intro lo hi h; omega
 | succ k ih =>
  intro lo hi hk hle hh
  rw [ae4, akZ, ht]
  cases hd : Nat.blt lo hi with
  | false =>
   obtain rfl : lo = hi := Nat.le_antisymm hle (Nat.not_lt.mp (ajC hd))
   exact ⟨hh, rfl⟩
  | true =>
   have hlt := blt_iff.mp hd
   dsimp only
   rw [hb lo hi _ rfl (by omega)]
   cases t ((lo + hi) / 2) with
   | true => exact ih lo ((lo + hi) / 2) (by omega) (by omega) (by omega)
   | false => exact ih ((lo + hi) / 2 + 1) hi (by omega) (by omega) hh
noncomputable def insG {α : Type} (xs : List α) (i : Nat) (c : α) : List α := xs.take i ++ c :: xs.drop i
set_option tactic.hygienic false
theorem aff (lo hi : Nat) : decide ((lo : Int) < (hi : Int)) = Nat.blt lo hi := by
 cases h : Nat.blt lo hi with
 | true => exact decide_eq_true (Int.ofNat_lt.mpr (blt_iff.mp h))
 | false => exact decide_eq_false fun q => ajC h (Int.ofNat_lt.mp q)
section
variable {G : GE} {n : Nat} {ρ ρ1 : CE}
set_option tactic.hygienic false
theorem abn {f : Str} {p pos : Pos} {e : Expr} {L : Lam} {a c : CV} (hm : mkOf G ρ (.Call (.Name f p) [e] [] pos) = .no) (hn : nameOk f = true) (hk : ρ.kind f = some .local) (hg : ρ.get f = some (.val (.lam L))) (h : (sem G n).ev e ρ = some (.val a, ρ))
 (hc : (sem G n).callLam L [a] = some c) : (sem G (n + 1)).ev (.Call (.Name f p) [e] [] pos) ρ = some (.val c, ρ) := afL hm hn hk hg h hc
end
noncomputable def dR : DD := ddG "bisect_right" (some 0)
noncomputable def dL : DD := ddG "bisect_left" (some 0)
noncomputable def frB (sc : Scope) (xs : List CV) (x : CV) (lo hi : Int) (key : CV) (tail : List (Str × Slot)) : CE :=
 ⟨sc, ("a", .bor (.list xs)) :: ("x", .val x) :: ("lo", .val (.int lo)) :: ("hi", .val (.int hi)) :: ("key", .val key) :: tail⟩
noncomputable def midT (m : Int) : List (Str × Slot) := [("mid", .val (.int m))]
noncomputable def frB0 (sc : Scope) (xs : List CV) (x : CV) (key : CV) : CE := ⟨sc, ("a", .bor (.list xs)) :: ("x", .val x) :: ("lo", .val (.int 0)) :: ("hi", .val .none) :: ("key", .val key) :: []⟩
noncomputable def arB (xs : List CV) (x : CV) : List (Str × Slot) := [("a", .bor (.list xs)), ("x", .val x), ("lo", .val (.int 0)), ("hi", .val .none)]
set_option tactic.hygienic false
theorem ahA {xs : List CV} {m : Nat} (h : m < xs.length) : ∃ c, xs[m]? = some c := ⟨xs[m], List.getElem?_eq_getElem h⟩
def KeyOf (G : GE) (L : Lam) (xs : List CV) (κ : Nat -> List Int) : Prop := ∀ i c, xs[i]? = some c -> ∀ m, 4 ≤ m -> (sem G m).callLam L [c] = some (lI (κ i))
def IsL (xs : List CV) (κ : Nat -> List Int) : Prop := ∀ i c, xs[i]? = some c -> c = lI (κ i)
section
variable {fn : Str -> Option FS} {xs : List CV} {x : List Int} {κ : Nat -> List Int} {lo hi m : Nat}
set_option tactic.hygienic false
theorem amR : (sem (GF fn) 10).it (whT (stA (ifB (stA dR.body 2)) 0)) (frB dR.scope xs (lI x) lo hi .none []) = some (Nat.blt lo hi, (frB dR.scope xs (lI x) lo hi .none [])) := by
 rw [<- aff]; ext
set_option tactic.hygienic true
theorem ak0 (hm : (lo + hi) / 2 = m) : (sem (GF fn) 10).xs (stA (whB (stA (ifB (stA dR.body 2)) 0)) 0) (frB dR.scope xs (lI x) lo hi .none []) = some (.next, (frB dR.scope xs (lI x) lo hi .none (midT (m : Nat)))) := by
 rw [<- hm, <- half]; ext
theorem ahB : (sem (GF fn) 9).xss (ifB (stA (whB (stA (ifB (stA dR.body 2)) 0)) 1)) (frB dR.scope xs (lI x) lo hi .none (midT (m : Nat))) = some (.next, (frB dR.scope xs (lI x) lo (m : Nat) .none (midT (m : Nat)))) := by ext
theorem ahC : (sem (GF fn) 9).xss (ifO (stA (whB (stA (ifB (stA dR.body 2)) 0)) 1)) (frB dR.scope xs (lI x) lo hi .none (midT (m : Nat))) = some (.next, (frB dR.scope xs (lI x) ((m + 1 : Nat) : Int) hi .none (midT (m : Nat)))) := by ext
set_option tactic.hygienic false
theorem ak1 (hκ : IsL xs κ) {c : CV} (hc : xs[m]? = some c) (hl : xs.length ≤ 90) : (sem (GF fn) 9).it (ifT (stA (whB (stA (ifB (stA dR.body 2)) 0)) 1)) (frB dR.scope xs (lI x) lo hi .none (midT (m : Nat))) = some (ltL x (κ m), (frB dR.scope xs (lI x) lo hi .none (midT (m : Nat)))) :=
 aaB (x := lI x) (y := lI (κ m)) (by ext) (aaq (a := .val (lI x)) (b := .val (lI (κ m))) (by ext) (abA (a := .list xs) (b := .int m) (by ext) ((abz hc (by omega)).trans (congrArg some (hκ m c hc)))) rfl rfl) (agu _ _)
set_option tactic.hygienic true
theorem amS (hκ : IsL xs κ) (hl : xs.length ≤ 90) {a b : Nat} (hm : (lo + hi) / 2 = m) (hN : m < xs.length) : (sem (GF fn) 10).xssD (news (frB dR.scope xs (lI x) a b .none [])) (whB (stA (ifB (stA dR.body 2)) 0)) (frB dR.scope xs (lI x) lo hi .none []) = some (.next, match (fun m => ltL x (κ m)) m with | true => (frB dR.scope xs (lI x) lo m .none []) | false => (frB dR.scope xs (lI x) (m + 1 : Nat) hi .none [])) := by
 have hbody : (whB (stA (ifB (stA dR.body 2)) 0)) = [stA (whB (stA (ifB (stA dR.body 2)) 0)) 0, stA (whB (stA (ifB (stA dR.body 2)) 0)) 1] := by ext
 obtain ⟨c, hc⟩ := ahA hN
 have hif := ak1 (fn := fn) (x := x) (lo := lo) (hi := hi) hκ hc hl
 rw [hbody]
 cases hx : ltL x (κ m) with
 | true =>
  rw [hx] at hif
  have ht : (fun m => ltL x (κ m)) m = true := by show ltL x (κ m) = _; rw [hx]
  rw [ht]
  exact aau (aaa (ak0 hm) (aaa (aaH hif ahB) aae)) (by ext)
 | false =>
  rw [hx] at hif
  have ht : (fun m => ltL x (κ m)) m = false := by show ltL x (κ m) = _; rw [hx]
  rw [ht]
  exact aau (aaa (ak0 hm) (aaa (aaz hif ahC) aae)) (by ext)
theorem bR0 (hκ : IsL xs κ) (hl : xs.length ≤ 90) {args : List CV} (ha : bindPos dR.bor dR.ps args dR.dflt = some (arB xs (lI x))) :
 runDef (GF fn) 12 dR args [] = some (.int (bisG (fun m => ltL x (κ m)) 100 0 xs.length : Nat), .list xs) ∧ bisG (fun m => ltL x (κ m)) 100 0 xs.length ≤ xs.length := by
 have s0 : (sem (GF fn) 12).xs (stA dR.body 0) (frB0 dR.scope xs (lI x) .none) = some (.next, frB0 dR.scope xs (lI x) .none) := by ext
 have s1 : (sem (GF fn) 12).xs (stA dR.body 1) (frB0 dR.scope xs (lI x) .none) = some (.next, (frB dR.scope xs (lI x) 0 xs.length .none [])) :=
  aaH (ρ1 := frB0 dR.scope xs (lI x) .none) (by ext) (aaa (adZ (c := .int xs.length) (ρ1 := frB0 dR.scope xs (lI x) .none) (by ext) (by ext) (abB (a := .val (.int xs.length)) (ρ1 := frB0 dR.scope xs (lI x) .none) (aaJ (c := .list xs) (by ext) (by ext) (by ext) (by ext) (by ext) (acB (by omega))) rfl) (by ext)) (by ext))
 obtain ⟨hle, hw⟩ := acb (test := (sem (GF fn) 10).it (whT (stA (ifB (stA dR.body 2)) 0))) (body := (sem (GF fn) 10).xssD (news (frB dR.scope xs (lI x) (0 : Nat) xs.length .none [])) (whB (stA (ifB (stA dR.body 2)) 0))) (fr := fun lo hi => (frB dR.scope xs (lI x) lo hi .none [])) (t := (fun m => ltL x (κ m))) (N := xs.length) (fun lo hi => amR) (fun lo hi m hm hN => by
  rw [amS hκ hl hm hN]) 100 0 xs.length (by omega) (Nat.zero_le _) (Nat.le_refl _)
 generalize bisG (fun m => ltL x (κ m)) 100 0 xs.length = r at hle hw ⊢
 have s2 : (sem (GF fn) 12).xs (stA dR.body 2) (frB dR.scope xs (lI x) 0 xs.length .none []) = some (.next, (frB dR.scope xs (lI x) r r .none [])) :=
  aaH (ρ1 := (frB dR.scope xs (lI x) 0 xs.length .none [])) (by ext) (aaa (xs_while.trans hw) aae)
 have s3 : (sem (GF fn) 12).xs (stA dR.body 3) (frB dR.scope xs (lI x) r r .none []) = some (.ret (.int r), (frB dR.scope xs (lI x) r r .none [])) := by ext
 exact ⟨aam (l := arB xs (lI x)) (by ext) ha (aaa s0 (aaa s1 (aaa s2 (aat s3)))) rfl, hle⟩
end
section
variable {fn : Str -> Option FS} {xs : List CV} {x : List Int} {L : Lam} {κ : Nat -> List Int} {lo hi m : Nat}
set_option tactic.hygienic false
theorem amT : (sem (GF fn) 10).it (whT (stA (ifO (stA dR.body 2)) 0)) (frB dR.scope xs (lI x) lo hi (.lam L) []) = some (Nat.blt lo hi, (frB dR.scope xs (lI x) lo hi (.lam L) [])) := by
 rw [<- aff]; ext
set_option tactic.hygienic true
theorem ak2 (hm : (lo + hi) / 2 = m) : (sem (GF fn) 10).xs (stA (whB (stA (ifO (stA dR.body 2)) 0)) 0) (frB dR.scope xs (lI x) lo hi (.lam L) []) = some (.next, (frB dR.scope xs (lI x) lo hi (.lam L) (midT (m : Nat)))) := by
 rw [<- hm, <- half]; ext
theorem ahD : (sem (GF fn) 9).xss (ifB (stA (whB (stA (ifO (stA dR.body 2)) 0)) 1)) (frB dR.scope xs (lI x) lo hi (.lam L) (midT (m : Nat))) = some (.next, (frB dR.scope xs (lI x) lo (m : Nat) (.lam L) (midT (m : Nat)))) := by ext
theorem ahE : (sem (GF fn) 9).xss (ifO (stA (whB (stA (ifO (stA dR.body 2)) 0)) 1)) (frB dR.scope xs (lI x) lo hi (.lam L) (midT (m : Nat))) = some (.next, (frB dR.scope xs (lI x) ((m + 1 : Nat) : Int) hi (.lam L) (midT (m : Nat)))) := by ext
set_option tactic.hygienic false
theorem ak3 (hκ : KeyOf (GF fn) L xs κ) {c : CV} (hc : xs[m]? = some c) (hl : xs.length ≤ 90) : (sem (GF fn) 9).it (ifT (stA (whB (stA (ifO (stA dR.body 2)) 0)) 1)) (frB dR.scope xs (lI x) lo hi (.lam L) (midT (m : Nat))) = some (ltL x (κ m), (frB dR.scope xs (lI x) lo hi (.lam L) (midT (m : Nat)))) :=
 aaB (x := lI x) (y := lI (κ m)) (by ext) (aaq (a := .val (lI x)) (b := .val (lI (κ m))) (by ext) (abn (a := c) (L := L) (by ext) (by ext) (by ext) (by ext) (abA (a := .list xs) (b := .int m) (by ext) (abz hc (by omega))) (hκ m c hc 7 (by decide))) rfl rfl) (agu _ _)
set_option tactic.hygienic true
theorem amU (hκ : KeyOf (GF fn) L xs κ) (hl : xs.length ≤ 90) {a b : Nat} (hm : (lo + hi) / 2 = m) (hN : m < xs.length) : (sem (GF fn) 10).xssD (news (frB dR.scope xs (lI x) a b (.lam L) [])) (whB (stA (ifO (stA dR.body 2)) 0)) (frB dR.scope xs (lI x) lo hi (.lam L) []) = some (.next, match (fun m => ltL x (κ m)) m with | true => (frB dR.scope xs (lI x) lo m (.lam L) []) | false => (frB dR.scope xs (lI x) (m + 1 : Nat) hi (.lam L) [])) := by
 have hbody : (whB (stA (ifO (stA dR.body 2)) 0)) = [stA (whB (stA (ifO (stA dR.body 2)) 0)) 0, stA (whB (stA (ifO (stA dR.body 2)) 0)) 1] := by ext
 obtain ⟨c, hc⟩ := ahA hN
 have hif := ak3 (fn := fn) (x := x) (lo := lo) (hi := hi) hκ hc hl
 rw [hbody]
 cases hx : ltL x (κ m) with
 | true =>
  rw [hx] at hif
  have ht : (fun m => ltL x (κ m)) m = true := by show ltL x (κ m) = _; rw [hx]
  rw [ht]
  exact aau (aaa (ak2 hm) (aaa (aaH hif ahD) aae)) (by ext)
 | false =>
  rw [hx] at hif
  have ht : (fun m => ltL x (κ m)) m = false := by show ltL x (κ m) = _; rw [hx]
  rw [ht]
  exact aau (aaa (ak2 hm) (aaa (aaz hif ahE) aae)) (by ext)
theorem bRk (hκ : KeyOf (GF fn) L xs κ) (hl : xs.length ≤ 90) {args : List CV} (ha : bindPos dR.bor dR.ps args dR.dflt = some (arB xs (lI x))) :
 runDef (GF fn) 12 dR args [("key", .lam L)] = some (.int (bisG (fun m => ltL x (κ m)) 100 0 xs.length : Nat), .list xs) ∧ bisG (fun m => ltL x (κ m)) 100 0 xs.length ≤ xs.length := by
 have s0 : (sem (GF fn) 12).xs (stA dR.body 0) (frB0 dR.scope xs (lI x) (.lam L)) = some (.next, frB0 dR.scope xs (lI x) (.lam L)) := by ext
 have s1 : (sem (GF fn) 12).xs (stA dR.body 1) (frB0 dR.scope xs (lI x) (.lam L)) = some (.next, (frB dR.scope xs (lI x) 0 xs.length (.lam L) [])) :=
  aaH (ρ1 := frB0 dR.scope xs (lI x) (.lam L)) (by ext) (aaa (adZ (c := .int xs.length) (ρ1 := frB0 dR.scope xs (lI x) (.lam L)) (by ext) (by ext) (abB (a := .val (.int xs.length)) (ρ1 := frB0 dR.scope xs (lI x) (.lam L)) (aaJ (c := .list xs) (by ext) (by ext) (by ext) (by ext) (by ext) (acB (by omega))) rfl) (by ext)) (by ext))
 obtain ⟨hle, hw⟩ := acb (test := (sem (GF fn) 10).it (whT (stA (ifO (stA dR.body 2)) 0))) (body := (sem (GF fn) 10).xssD (news (frB dR.scope xs (lI x) (0 : Nat) xs.length (.lam L) [])) (whB (stA (ifO (stA dR.body 2)) 0))) (fr := fun lo hi => (frB dR.scope xs (lI x) lo hi (.lam L) [])) (t := (fun m => ltL x (κ m))) (N := xs.length) (fun lo hi => amT) (fun lo hi m hm hN => by
  rw [amU hκ hl hm hN]) 100 0 xs.length (by omega) (Nat.zero_le _) (Nat.le_refl _)
 generalize bisG (fun m => ltL x (κ m)) 100 0 xs.length = r at hle hw ⊢
 have s2 : (sem (GF fn) 12).xs (stA dR.body 2) (frB dR.scope xs (lI x) 0 xs.length (.lam L) []) = some (.next, (frB dR.scope xs (lI x) r r (.lam L) [])) :=
  aaz (ρ1 := (frB dR.scope xs (lI x) 0 xs.length (.lam L) [])) (by ext) (aaa (xs_while.trans hw) aae)
 have s3 : (sem (GF fn) 12).xs (stA dR.body 3) (frB dR.scope xs (lI x) r r (.lam L) []) = some (.ret (.int r), (frB dR.scope xs (lI x) r r (.lam L) [])) := by ext
 exact ⟨aam (l := arB xs (lI x)) (by ext) ha (aaa s0 (aaa s1 (aaa s2 (aat s3)))) rfl, hle⟩
end
section
variable {fn : Str -> Option FS} {xs : List CV} {x : List Int} {κ : Nat -> List Int} {lo hi m : Nat}
set_option tactic.hygienic false
theorem amV : (sem (GF fn) 10).it (whT (stA (ifB (stA dL.body 2)) 0)) (frB dL.scope xs (lI x) lo hi .none []) = some (Nat.blt lo hi, (frB dL.scope xs (lI x) lo hi .none [])) := by
 rw [<- aff]; ext
set_option tactic.hygienic true
theorem ak4 (hm : (lo + hi) / 2 = m) : (sem (GF fn) 10).xs (stA (whB (stA (ifB (stA dL.body 2)) 0)) 0) (frB dL.scope xs (lI x) lo hi .none []) = some (.next, (frB dL.scope xs (lI x) lo hi .none (midT (m : Nat)))) := by
 rw [<- hm, <- half]; ext
theorem ahF : (sem (GF fn) 9).xss (ifB (stA (whB (stA (ifB (stA dL.body 2)) 0)) 1)) (frB dL.scope xs (lI x) lo hi .none (midT (m : Nat))) = some (.next, (frB dL.scope xs (lI x) ((m + 1 : Nat) : Int) hi .none (midT (m : Nat)))) := by ext
theorem ahG : (sem (GF fn) 9).xss (ifO (stA (whB (stA (ifB (stA dL.body 2)) 0)) 1)) (frB dL.scope xs (lI x) lo hi .none (midT (m : Nat))) = some (.next, (frB dL.scope xs (lI x) lo (m : Nat) .none (midT (m : Nat)))) := by ext
set_option tactic.hygienic false
theorem ak5 (hκ : IsL xs κ) {c : CV} (hc : xs[m]? = some c) (hl : xs.length ≤ 90) : (sem (GF fn) 9).it (ifT (stA (whB (stA (ifB (stA dL.body 2)) 0)) 1)) (frB dL.scope xs (lI x) lo hi .none (midT (m : Nat))) = some (ltL (κ m) x, (frB dL.scope xs (lI x) lo hi .none (midT (m : Nat)))) :=
 aaB (x := lI (κ m)) (y := lI x) (by ext) (aaq (a := .val (lI (κ m))) (b := .val (lI x)) (abA (a := .list xs) (b := .int m) (by ext) ((abz hc (by omega)).trans (congrArg some (hκ m c hc)))) (by ext) rfl rfl) (agu _ _)
set_option tactic.hygienic true
theorem amW (hκ : IsL xs κ) (hl : xs.length ≤ 90) {a b : Nat} (hm : (lo + hi) / 2 = m) (hN : m < xs.length) : (sem (GF fn) 10).xssD (news (frB dL.scope xs (lI x) a b .none [])) (whB (stA (ifB (stA dL.body 2)) 0)) (frB dL.scope xs (lI x) lo hi .none []) = some (.next, match (fun m => !ltL (κ m) x) m with | true => (frB dL.scope xs (lI x) lo m .none []) | false => (frB dL.scope xs (lI x) (m + 1 : Nat) hi .none [])) := by
 have hbody : (whB (stA (ifB (stA dL.body 2)) 0)) = [stA (whB (stA (ifB (stA dL.body 2)) 0)) 0, stA (whB (stA (ifB (stA dL.body 2)) 0)) 1] := by ext
 obtain ⟨c, hc⟩ := ahA hN
 have hif := ak5 (fn := fn) (x := x) (lo := lo) (hi := hi) hκ hc hl
 rw [hbody]
 cases hx : ltL (κ m) x with
 | true =>
  rw [hx] at hif
  have ht : (fun m => !ltL (κ m) x) m = false := by show (!ltL (κ m) x) = _; rw [hx]; rfl
  rw [ht]
  exact aau (aaa (ak4 hm) (aaa (aaH hif ahF) aae)) (by ext)
 | false =>
  rw [hx] at hif
  have ht : (fun m => !ltL (κ m) x) m = true := by show (!ltL (κ m) x) = _; rw [hx]; rfl
  rw [ht]
  exact aau (aaa (ak4 hm) (aaa (aaz hif ahG) aae)) (by ext)
theorem bL0 (hκ : IsL xs κ) (hl : xs.length ≤ 90) {args : List CV} (ha : bindPos dL.bor dL.ps args dL.dflt = some (arB xs (lI x))) :
 runDef (GF fn) 12 dL args [] = some (.int (bisG (fun m => !ltL (κ m) x) 100 0 xs.length : Nat), .list xs) ∧ bisG (fun m => !ltL (κ m) x) 100 0 xs.length ≤ xs.length := by
 have s0 : (sem (GF fn) 12).xs (stA dL.body 0) (frB0 dL.scope xs (lI x) .none) = some (.next, frB0 dL.scope xs (lI x) .none) := by ext
 have s1 : (sem (GF fn) 12).xs (stA dL.body 1) (frB0 dL.scope xs (lI x) .none) = some (.next, (frB dL.scope xs (lI x) 0 xs.length .none [])) :=
  aaH (ρ1 := frB0 dL.scope xs (lI x) .none) (by ext) (aaa (adZ (c := .int xs.length) (ρ1 := frB0 dL.scope xs (lI x) .none) (by ext) (by ext) (abB (a := .val (.int xs.length)) (ρ1 := frB0 dL.scope xs (lI x) .none) (aaJ (c := .list xs) (by ext) (by ext) (by ext) (by ext) (by ext) (acB (by omega))) rfl) (by ext)) (by ext))
 obtain ⟨hle, hw⟩ := acb (test := (sem (GF fn) 10).it (whT (stA (ifB (stA dL.body 2)) 0))) (body := (sem (GF fn) 10).xssD (news (frB dL.scope xs (lI x) (0 : Nat) xs.length .none [])) (whB (stA (ifB (stA dL.body 2)) 0))) (fr := fun lo hi => (frB dL.scope xs (lI x) lo hi .none [])) (t := (fun m => !ltL (κ m) x)) (N := xs.length) (fun lo hi => amV) (fun lo hi m hm hN => by
  rw [amW hκ hl hm hN]) 100 0 xs.length (by omega) (Nat.zero_le _) (Nat.le_refl _)
 generalize bisG (fun m => !ltL (κ m) x) 100 0 xs.length = r at hle hw ⊢
 have s2 : (sem (GF fn) 12).xs (stA dL.body 2) (frB dL.scope xs (lI x) 0 xs.length .none []) = some (.next, (frB dL.scope xs (lI x) r r .none [])) :=
  aaH (ρ1 := (frB dL.scope xs (lI x) 0 xs.length .none [])) (by ext) (aaa (xs_while.trans hw) aae)
 have s3 : (sem (GF fn) 12).xs (stA dL.body 3) (frB dL.scope xs (lI x) r r .none []) = some (.ret (.int r), (frB dL.scope xs (lI x) r r .none [])) := by ext
 exact ⟨aam (l := arB xs (lI x)) (by ext) ha (aaa s0 (aaa s1 (aaa s2 (aat s3)))) rfl, hle⟩
end
section
variable {fn : Str -> Option FS} {xs : List CV} {x : List Int} {L : Lam} {κ : Nat -> List Int} {lo hi m : Nat}
set_option tactic.hygienic false
theorem amX : (sem (GF fn) 10).it (whT (stA (ifO (stA dL.body 2)) 0)) (frB dL.scope xs (lI x) lo hi (.lam L) []) = some (Nat.blt lo hi, (frB dL.scope xs (lI x) lo hi (.lam L) [])) := by
 rw [<- aff]; ext
set_option tactic.hygienic true
theorem ak6 (hm : (lo + hi) / 2 = m) : (sem (GF fn) 10).xs (stA (whB (stA (ifO (stA dL.body 2)) 0)) 0) (frB dL.scope xs (lI x) lo hi (.lam L) []) = some (.next, (frB dL.scope xs (lI x) lo hi (.lam L) (midT (m : Nat)))) := by
 rw [<- hm, <- half]; ext
theorem ahH : (sem (GF fn) 9).xss (ifB (stA (whB (stA (ifO (stA dL.body 2)) 0)) 1)) (frB dL.scope xs (lI x) lo hi (.lam L) (midT (m : Nat))) = some (.next, (frB dL.scope xs (lI x) ((m + 1 : Nat) : Int) hi (.lam L) (midT (m : Nat)))) := by ext
theorem ahI : (sem (GF fn) 9).xss (ifO (stA (whB (stA (ifO (stA dL.body 2)) 0)) 1)) (frB dL.scope xs (lI x) lo hi (.lam L) (midT (m : Nat))) = some (.next, (frB dL.scope xs (lI x) lo (m : Nat) (.lam L) (midT (m : Nat)))) := by ext
set_option tactic.hygienic false
theorem ak7 (hκ : KeyOf (GF fn) L xs κ) {c : CV} (hc : xs[m]? = some c) (hl : xs.length ≤ 90) : (sem (GF fn) 9).it (ifT (stA (whB (stA (ifO (stA dL.body 2)) 0)) 1)) (frB dL.scope xs (lI x) lo hi (.lam L) (midT (m : Nat))) = some (ltL (κ m) x, (frB dL.scope xs (lI x) lo hi (.lam L) (midT (m : Nat)))) :=
 aaB (x := lI (κ m)) (y := lI x) (by ext) (aaq (a := .val (lI (κ m))) (b := .val (lI x)) (abn (a := c) (L := L) (by ext) (by ext) (by ext) (by ext) (abA (a := .list xs) (b := .int m) (by ext) (abz hc (by omega))) (hκ m c hc 7 (by decide))) (by ext) rfl rfl) (agu _ _)
set_option tactic.hygienic true
theorem amY (hκ : KeyOf (GF fn) L xs κ) (hl : xs.length ≤ 90) {a b : Nat} (hm : (lo + hi) / 2 = m) (hN : m < xs.length) : (sem (GF fn) 10).xssD (news (frB dL.scope xs (lI x) a b (.lam L) [])) (whB (stA (ifO (stA dL.body 2)) 0)) (frB dL.scope xs (lI x) lo hi (.lam L) []) = some (.next, match (fun m => !ltL (κ m) x) m with | true => (frB dL.scope xs (lI x) lo m (.lam L) []) | false => (frB dL.scope xs (lI x) (m + 1 : Nat) hi (.lam L) [])) := by
 have hbody : (whB (stA (ifO (stA dL.body 2)) 0)) = [stA (whB (stA (ifO (stA dL.body 2)) 0)) 0, stA (whB (stA (ifO (stA dL.body 2)) 0)) 1] := by ext
 obtain ⟨c, hc⟩ := ahA hN
 have hif := ak7 (fn := fn) (x := x) (lo := lo) (hi := hi) hκ hc hl
 rw [hbody]
 cases hx : ltL (κ m) x with
 | true =>
  rw [hx] at hif
  have ht : (fun m => !ltL (κ m) x) m = false := by show (!ltL (κ m) x) = _; rw [hx]; rfl
  rw [ht]
  exact aau (aaa (ak6 hm) (aaa (aaH hif ahH) aae)) (by ext)
 | false =>
  rw [hx] at hif
  have ht : (fun m => !ltL (κ m) x) m = true := by show (!ltL (κ m) x) = _; rw [hx]; rfl
  rw [ht]
  exact aau (aaa (ak6 hm) (aaa (aaz hif ahI) aae)) (by ext)
theorem bLk (hκ : KeyOf (GF fn) L xs κ) (hl : xs.length ≤ 90) {args : List CV} (ha : bindPos dL.bor dL.ps args dL.dflt = some (arB xs (lI x))) :
 runDef (GF fn) 12 dL args [("key", .lam L)] = some (.int (bisG (fun m => !ltL (κ m) x) 100 0 xs.length : Nat), .list xs) ∧ bisG (fun m => !ltL (κ m) x) 100 0 xs.length ≤ xs.length := by
 have s0 : (sem (GF fn) 12).xs (stA dL.body 0) (frB0 dL.scope xs (lI x) (.lam L)) = some (.next, frB0 dL.scope xs (lI x) (.lam L)) := by ext
 have s1 : (sem (GF fn) 12).xs (stA dL.body 1) (frB0 dL.scope xs (lI x) (.lam L)) = some (.next, (frB dL.scope xs (lI x) 0 xs.length (.lam L) [])) :=
  aaH (ρ1 := frB0 dL.scope xs (lI x) (.lam L)) (by ext) (aaa (adZ (c := .int xs.length) (ρ1 := frB0 dL.scope xs (lI x) (.lam L)) (by ext) (by ext) (abB (a := .val (.int xs.length)) (ρ1 := frB0 dL.scope xs (lI x) (.lam L)) (aaJ (c := .list xs) (by ext) (by ext) (by ext) (by ext) (by ext) (acB (by omega))) rfl) (by ext)) (by ext))
 obtain ⟨hle, hw⟩ := acb (test := (sem (GF fn) 10).it (whT (stA (ifO (stA dL.body 2)) 0))) (body := (sem (GF fn) 10).xssD (news (frB dL.scope xs (lI x) (0 : Nat) xs.length (.lam L) [])) (whB (stA (ifO (stA dL.body 2)) 0))) (fr := fun lo hi => (frB dL.scope xs (lI x) lo hi (.lam L) [])) (t := (fun m => !ltL (κ m) x)) (N := xs.length) (fun lo hi => amX) (fun lo hi m hm hN => by
  rw [amY hκ hl hm hN]) 100 0 xs.length (by omega) (Nat.zero_le _) (Nat.le_refl _)
 generalize bisG (fun m => !ltL (κ m) x) 100 0 xs.length = r at hle hw ⊢
 have s2 : (sem (GF fn) 12).xs (stA dL.body 2) (frB dL.scope xs (lI x) 0 xs.length (.lam L) []) = some (.next, (frB dL.scope xs (lI x) r r (.lam L) [])) :=
  aaz (ρ1 := (frB dL.scope xs (lI x) 0 xs.length (.lam L) [])) (by ext) (aaa (xs_while.trans hw) aae)
 have s3 : (sem (GF fn) 12).xs (stA dL.body 3) (frB dL.scope xs (lI x) r r (.lam L) []) = some (.ret (.int r), (frB dL.scope xs (lI x) r r (.lam L) [])) := by ext
 exact ⟨aam (l := arB xs (lI x)) (by ext) ha (aaa s0 (aaa s1 (aaa s2 (aat s3)))) rfl, hle⟩
end
noncomputable def iR : DD := ddG "insort_right" (some 0)
noncomputable def iL : DD := ddG "insort_left" (some 0)
noncomputable def nBR : Str := "bisect_right"
noncomputable def nBL : Str := "bisect_left"
noncomputable def frI (sc : Scope) (xs : List CV) (c : CV) (lo : Int) (key : CV) : CE := ⟨sc, ("a", .bor (.list xs)) :: ("x", .val c) :: ("lo", .val (.int lo)) :: ("hi", .val .none) :: ("key", .val key) :: []⟩
section
variable {fn : Str -> Option FS} {xs : List CV} {c : CV}
set_option tactic.hygienic true
theorem amZ {F : FS} {r : Nat} (hf : fn nBR = some F) (hb : F.bor = some 0) (hrun : F.run [.list xs, c, .int 0, .none] [] = some (.int (r : Int), .list xs)) (hr : r ≤ xs.length) (hl : xs.length ≤ 1000) :
 runDef (GF fn) 12 iR [.list xs, c] [] = some (.none, .list (insG xs r c)) := by
 have hg := aag hf (by ext)
 have s0 : (sem (GF fn) 12).xs (stA iR.body 0) (frI iR.scope xs c 0 .none) = some (.next, frI iR.scope xs c r .none) := by
  refine aaH (ρ1 := frI iR.scope xs c 0 .none) (by ext) (aaa (aal (c := .int r) (ρ1 := frI iR.scope xs c 0 .none) (by ext) (by ext) (ae5 (by ext) (by ext) (by ext) hg
   (aaj (x := "a") (o := .list xs) (o' := .list xs) (c := .int r) (cs := [.none, c, .int 0, .none]) (kvs := []) (avs := [.ref "a", .val c, .val (.int 0), .val .none]) hb
    (aac (by ext) (aac (by ext) (aac (by ext) (aac (by ext) aad)))) (by ext) rfl rfl (by ext) hrun (by ext)))
   (by ext) (by ext)) aae)
 have s1 : (sem (GF fn) 12).xs (stA iR.body 1) (frI iR.scope xs c r .none) = some (.next, frI iR.scope (insG xs r c) c r .none) := by
  refine aaV (by ext) (abw (x := "a") (c0 := .list xs) (k := .insert) (avs := [.val (.int r), .val c]) (cs := [.int r, c]) (ob := .list xs) (ob' := .list (insG xs r c)) (by ext) (by ext) (by ext) (by ext) (by ext) rfl (aac (by ext) (aac (by ext) aad)) rfl (by ext) (insC hr hl) (by ext))
 exact abV (l := [("a", .bor (.list xs)), ("x", .val c), ("lo", .val (.int 0)), ("hi", .val .none)]) (by ext) (by ext) (aaa s0 (aaa s1 aae)) rfl
end
section
variable {fn : Str -> Option FS} {xs : List CV} {c : CV} {L : Lam} {x : CV}
set_option tactic.hygienic true
theorem am0 {F : FS} {r : Nat} (hf : fn nBR = some F) (hb : F.bor = some 0) (hrun : F.run [.list xs, x, .int 0, .none] [("key", .lam L)] = some (.int (r : Int), .list xs)) (hk : ∀ m, 4 ≤ m -> (sem (GF fn) m).callLam L [c] = some x) (hr : r ≤ xs.length) (hl : xs.length ≤ 1000) :
 runDef (GF fn) 12 iR [.list xs, c] [("key", .lam L)] = some (.none, .list (insG xs r c)) := by
 have hg := aag hf (by ext)
 have s0 : (sem (GF fn) 12).xs (stA iR.body 0) (frI iR.scope xs c 0 (.lam L)) = some (.next, frI iR.scope xs c r (.lam L)) := by
  refine aaz (ρ1 := frI iR.scope xs c 0 (.lam L)) (by ext) (aaa (aal (c := .int r) (ρ1 := frI iR.scope xs c 0 (.lam L)) (by ext) (by ext) (ae5 (by ext) (by ext) (by ext) hg
   (aaj (x := "a") (o := .list xs) (o' := .list xs) (c := .int r) (cs := [.none, x, .int 0, .none]) (kvs := [("key", .lam L)]) (avs := [.ref "a", .val x, .val (.int 0), .val .none]) hb
    (aac (by ext) (aac (abn (a := c) (L := L) (by ext) (by ext) (by ext) (by ext) (by ext) (hk 8 (by decide))) (aac (by ext) (aac (by ext) aad)))) (by ext) rfl rfl (by ext) hrun (by ext)))
   (by ext) (by ext)) aae)
 have s1 : (sem (GF fn) 12).xs (stA iR.body 1) (frI iR.scope xs c r (.lam L)) = some (.next, frI iR.scope (insG xs r c) c r (.lam L)) := by
  refine aaV (by ext) (abw (x := "a") (c0 := .list xs) (k := .insert) (avs := [.val (.int r), .val c]) (cs := [.int r, c]) (ob := .list xs) (ob' := .list (insG xs r c)) (by ext) (by ext) (by ext) (by ext) (by ext) rfl (aac (by ext) (aac (by ext) aad)) rfl (by ext) (insC hr hl) (by ext))
 exact abV (l := [("a", .bor (.list xs)), ("x", .val c), ("lo", .val (.int 0)), ("hi", .val .none)]) (by ext) (by ext) (aaa s0 (aaa s1 aae)) rfl
end
section
variable {fn : Str -> Option FS} {xs : List CV} {c : CV} {L : Lam} {x : CV}
set_option tactic.hygienic true
theorem am1 {F : FS} {r : Nat} (hf : fn nBL = some F) (hb : F.bor = some 0) (hrun : F.run [.list xs, x, .int 0, .none] [("key", .lam L)] = some (.int (r : Int), .list xs)) (hk : ∀ m, 4 ≤ m -> (sem (GF fn) m).callLam L [c] = some x) (hr : r ≤ xs.length) (hl : xs.length ≤ 1000) :
 runDef (GF fn) 12 iL [.list xs, c] [("key", .lam L)] = some (.none, .list (insG xs r c)) := by
 have hg := aag hf (by ext)
 have s0 : (sem (GF fn) 12).xs (stA iL.body 0) (frI iL.scope xs c 0 (.lam L)) = some (.next, frI iL.scope xs c r (.lam L)) := by
  refine aaz (ρ1 := frI iL.scope xs c 0 (.lam L)) (by ext) (aaa (aal (c := .int r) (ρ1 := frI iL.scope xs c 0 (.lam L)) (by ext) (by ext) (ae5 (by ext) (by ext) (by ext) hg
   (aaj (x := "a") (o := .list xs) (o' := .list xs) (c := .int r) (cs := [.none, x, .int 0, .none]) (kvs := [("key", .lam L)]) (avs := [.ref "a", .val x, .val (.int 0), .val .none]) hb
    (aac (by ext) (aac (abn (a := c) (L := L) (by ext) (by ext) (by ext) (by ext) (by ext) (hk 8 (by decide))) (aac (by ext) (aac (by ext) aad)))) (by ext) rfl rfl (by ext) hrun (by ext)))
   (by ext) (by ext)) aae)
 have s1 : (sem (GF fn) 12).xs (stA iL.body 1) (frI iL.scope xs c r (.lam L)) = some (.next, frI iL.scope (insG xs r c) c r (.lam L)) := by
  refine aaV (by ext) (abw (x := "a") (c0 := .list xs) (k := .insert) (avs := [.val (.int r), .val c]) (cs := [.int r, c]) (ob := .list xs) (ob' := .list (insG xs r c)) (by ext) (by ext) (by ext) (by ext) (by ext) rfl (aac (by ext) (aac (by ext) aad)) rfl (by ext) (insC hr hl) (by ext))
 exact abV (l := [("a", .bor (.list xs)), ("x", .val c), ("lo", .val (.int 0)), ("hi", .val .none)]) (by ext) (by ext) (aaa s0 (aaa s1 aae)) rfl
end
noncomputable def foldO {σ α : Type} (ps : σ -> α -> Option σ) : List α -> σ -> Option σ
 | [], s => some s
 | a :: r, s => match ps s a with
  | some s' => foldO ps r s'
  | none => none
set_option tactic.hygienic false
theorem agv {σ α : Type} (ps : σ -> α -> Option σ) (a : α) (r : List α) (s : σ) : foldO ps (a :: r) s = match ps s a with | some s' => foldO ps r s' | none => none := rfl
set_option tactic.hygienic true
theorem abD {σ α : Type} {step : CV -> CE -> Option (FC × CE)} {v : α -> CV} {fr : σ -> CE} {ps : σ -> α -> Option σ} : ∀ (l : List α) (s s' : σ), (∀ s a s', a ∈ l -> ps s a = some s' -> step (v a) (fr s) = some (.next, fr s')) -> foldO ps l s = some s' -> loopL step (l.map v) (fr s) = some (.next, fr s')
 | [], s, s', _, h => by rw [Option.some.inj h]; rfl
 | a :: r, s, s', hs, h => by
  rw [agv] at h
  cases e : ps s a with
  | none => rw [e] at h; cases h
  | some s1 =>
   rw [e] at h
   show loopL step (v a :: r.map v) (fr s) = _
   rw [abU, hs s a s1 (.head _) e]
   exact abD r s1 s' (fun s a s' hm => hs s a s' (.tail _ hm)) h
set_option tactic.hygienic false
theorem abi {α : Type} {b : Bool} {x y : α} (h : (match b with | true => some x | false => none) = some y) : b = true ∧ x = y := by
 cases b with
 | true => exact ⟨rfl, Option.some.inj h⟩
 | false => cases h
noncomputable def ltN : List Nat -> List Nat -> Bool
 | [], b => match b with
  | [] => false
  | _ :: _ => true
 | x :: r, b => match b with
  | [] => false
  | y :: t => match Nat.beq x y with
   | true => ltN r t
   | false => Nat.blt x y
structure Rise (g : Nat -> Int) : Prop where
 lt : ∀ a b, a < b -> g a < g b
theorem Rise.inj {g : Nat -> Int} (h : Rise g) {a b : Nat} (e : g a = g b) : a = b := by
 rcases Nat.lt_trichotomy a b with q | q | q
 · exact absurd e (Int.ne_of_lt (h.lt a b q))
 · exact q
 · exact absurd e.symm (Int.ne_of_lt (h.lt b a q))
theorem Rise.eq {g : Nat -> Int} (h : Rise g) (a b : Nat) : decide (g a = g b) = Nat.beq a b := by
 cases e : Nat.beq a b with
 | true => rw [Nat.eq_of_beq_eq_true e]; exact decide_eq_true rfl
 | false => exact decide_eq_false fun q => by rw [h.inj q, Nat.beq_refl] at e; cases e
theorem Rise.dlt {g : Nat -> Int} (h : Rise g) (a b : Nat) : decide (g a < g b) = Nat.blt a b := by
 cases e : Nat.blt a b with
 | true => exact decide_eq_true (h.lt a b (blt_iff.mp e))
 | false => exact decide_eq_false fun q => (Nat.lt_trichotomy a b).elim (fun z => ajC e z) fun z => z.elim (fun z => by rw [z] at q; exact Int.lt_irrefl _ q) fun z => Int.lt_asymm q (h.lt b a z)
theorem abY {g : Nat -> Int} (h : Rise g) : ∀ a b : List Nat, ltL (a.map g) (b.map g) = ltN a b
 | [], [] => rfl
 | [], _ :: _ => rfl
 | _ :: _, [] => rfl
 | x :: r, y :: t => by
  show (match decide (g x = g y) with | true => ltL (r.map g) (t.map g) | false => decide (g x < g y)) = match Nat.beq x y with | true => ltN r t | false => Nat.blt x y
  rw [h.eq, h.dlt, abY h r t]
noncomputable def gI (g : Nat -> Int) (l : List Nat) : CV := lI (l.map g)
section
variable {G : GE} {n : Nat} {ρ : CE}
set_option tactic.hygienic false
theorem abE {k : Bool} {t a : Expr} {f : Str} {p pos : Pos} {x : Int} (hb : isBlt G ρ f = true) (hf : (f == nRange) = true) (h1 : (sem G n).ev a ρ = some (.val (.int x), ρ)) (hx : small x = true) :
 (sem G n).items G k t (.Call (.Name f p) [a] [] pos) ρ = some (rangeC 0 x, ρ) := by
 have hs : srcOf G ρ (.Call (.Name f p) [a] [] pos) = .range [a] := by rw [abL G hb]; unfold srcB; rw [hf]
 unfold SM.items
 rw [hs]
 dsimp only
 unfold SM.range
 dsimp only
 rw [af8 h1]
 dsimp only
 rw [hx]
theorem acr (k : Nat) : rangeC 0 (k : Int) = (List.range k).map fun i : Nat => CV.int (i : Int) := by
 unfold rangeC
 rw [show ((k : Int) - 0).toNat = k by omega]
 exact List.map_congr_left fun i _ => by rw [Int.zero_add]
end
set_option tactic.hygienic false
theorem agw (xs : List CV) : ∀ k a : Nat, ((List.range k).map (a + ·)).filterMap (xs[·]?) = (xs.drop a).take k
 | 0, a => by simp
 | k + 1, a => by
  have ih := agw xs k (a + 1)
  rw [List.range_succ_eq_map, List.map_cons, List.map_map, List.filterMap_cons]
  have e : (List.map ((a + ·) ∘ Nat.succ) (List.range k)) = (List.range k).map ((a + 1) + ·) := List.map_congr_left fun i _ => by show a + (i + 1) = _; omega
  rw [e, ih, Nat.add_zero]
  rcases Nat.lt_or_ge a xs.length with q | q
  · rw [List.getElem?_eq_getElem q, List.drop_eq_getElem_cons q]
    rfl
  · rw [List.getElem?_eq_none q, List.drop_eq_nil_of_le q, List.drop_eq_nil_of_le (Nat.le_succ_of_le q)]
    simp
theorem aeL (xs : List CV) (lo hi : Option Int) : pickC xs lo hi = (xs.drop (lo.elim 0 (PySem.clipAt xs.length))).take (hi.elim xs.length (PySem.clipAt xs.length) - lo.elim 0 (PySem.clipAt xs.length)) := by
 unfold pickC
 rw [PySem.sliceBounds_plain]
 simp only [PySem.sliceRange_one]
 exact agw _ _ _
theorem abF (xs : List CV) (a : Nat) : pickC xs (some (a : Int)) none = xs.drop a := by
 rw [aeL]
 simp only [Option.elim, PySem.clipAt_nat]
 rcases Nat.le_total a xs.length with q | q
 · rw [Nat.min_eq_left q, <- List.length_drop, List.take_length]
 · rw [Nat.min_eq_right q, List.drop_eq_nil_of_le q]
   simp
theorem agx (xs : List CV) (b : Nat) : pickC xs none (some (b : Int)) = xs.take b := by
 rw [aeL]
 simp only [Option.elim, PySem.clipAt_nat, List.drop_zero, Nat.sub_zero]
 rcases Nat.le_total b xs.length with q | q
 · rw [Nat.min_eq_left q]
 · rw [Nat.min_eq_right q, List.take_length, List.take_of_length_le q]
theorem ahJ (xs : List CV) (a b : Nat) : pickC xs (some (a : Int)) (some (b : Int)) = (xs.take b).drop a := by
 rw [aeL]
 simp only [Option.elim, PySem.clipAt_nat]
 rw [List.drop_take]
 rcases Nat.le_total a xs.length with q | q
 · rw [Nat.min_eq_left q]
   rcases Nat.le_total b xs.length with z | z
   · rw [Nat.min_eq_left z]
   · rw [Nat.min_eq_right z, List.take_of_length_le (by simp), List.take_of_length_le (by simp; omega)]
 · rw [Nat.min_eq_right q, List.drop_eq_nil_of_le q]
   simp
section
variable {G : GE} {n : Nat} {ρ : CE}
set_option tactic.hygienic false
theorem aaZ {v : Expr} {lo hi : Option Expr} {q p : Pos} {a : EV} {l h : Option Int} {o c : CV} (h1 : (sem G n).ev v ρ = some (a, ρ)) (h2 : (sem G n).oint lo ρ = some (l, ρ)) (h3 : (sem G n).oint hi ρ = some (h, ρ)) (h4 : deref ρ a = some o) (h5 : sliceC o l h = some c) :
 (sem G (n + 1)).ev (.Subscript v (.Slice lo hi none q) p) ρ = some (.val c, ρ) := by
 rw [aaI]
 dsimp only [stepS]
 unfold evStep evN
 dsimp only [mkOf, l1, l2, eName, eAttr, eSub, eTup, eCall, eSlice, List.isEmpty]
 rw [h1]
 dsimp only
 rw [h2]
 dsimp only
 rw [h3]
 dsimp only
 rw [h4]
 dsimp only
 rw [h5]
end
set_option tactic.hygienic false
theorem slC {xs : List CV} {l h : Option Int} (hl : xs.length ≤ LIM) : sliceC (.list xs) l h = some (.list (pickC xs l h)) := by
 unfold sliceC
 dsimp only
 rw [Nat.ble_eq_true_of_le hl]
noncomputable def dBeg : DD := ddG "_law_begins" none
noncomputable def bgB : List Stmt := forB (stA dBeg.body 2)
abbrev BS := List (List Nat) × List Nat
noncomputable def tls (g : Nat -> Int) (ts : List (List Nat)) : List CV := ts.map (gI g)
noncomputable def inN (l : List Nat) : List CV := l.map fun n : Nat => CV.int (n : Int)
noncomputable def frG (g : Nat -> Int) (q : List Nat) (s : BS) (tail : List (Str × Slot)) : CE := ⟨dBeg.scope, ("numbers", .val (gI g q)) :: ("tails", .own (.list (tls g s.1))) :: ("begins", .own (.list (inN s.2))) :: tail⟩
noncomputable def tpT (g : Nat -> Int) (p : Nat) (tl : List Nat) : List (Str × Slot) := [("place", .val (.int p)), ("tail", .val (gI g tl))]
noncomputable def posL (ts : List (List Nat)) (x : List Nat) : Nat := bisG (fun m => !ltN (ts.getD m []) x) 100 0 ts.length
noncomputable def posR (ts : List (List Nat)) (x : List Nat) : Nat := bisG (fun m => ltN x (ts.getD m [])) 100 0 ts.length
noncomputable def begS (q : List Nat) (s : BS) (p : Nat) : Option BS := match Nat.ble s.1.length 80 && Nat.ble s.2.length 80 && Nat.ble p q.length && Nat.ble q.length 80 with
 | true => some (insG s.1 (posR s.1 (q.drop p)) (q.drop p), match Nat.beq (posL s.1 (q.drop p)) 0 with | true => s.2 ++ [p] | false => s.2)
 | false => none
noncomputable def begF (q : List Nat) : Option (List Nat) := match foldO (begS q) (List.range q.length) ([], []) with
 | some s => some s.2
 | none => none
theorem adH {α β : Type} (f : α -> β) (xs : List α) (i : Nat) (c : α) : insG (xs.map f) i (f c) = (insG xs i c).map f := by
 unfold insG
 rw [List.map_append, List.map_take, List.map_cons, List.map_drop]
theorem agy {g : Nat -> Int} {ts : List (List Nat)} : IsL (tls g ts) (fun m => (ts.getD m []).map g) := fun i c h => by
 unfold tls at h
 rw [List.getElem?_map] at h
 cases e : ts[i]? with
 | none => rw [e] at h; cases h
 | some t =>
  rw [e] at h
  have : ts.getD i [] = t := by rw [List.getD_eq_getElem?_getD, e]; rfl
  rw [<- Option.some.inj h]
  show gI g t = lI ((ts.getD i []).map g)
  rw [this]
  rfl
theorem acs {g : Nat -> Int} {ts : List (List Nat)} : (tls g ts).length = ts.length := by unfold tls; exact List.length_map _
section
variable {fn : Str -> Option FS} {g : Nat -> Int} {ts : List (List Nat)} {x q : List Nat}
set_option tactic.hygienic false
theorem ajD (hg : Rise g) (hl : ts.length ≤ 80) {args : List CV} (ha : bindPos dR.bor dR.ps args dR.dflt = some (arB (tls g ts) (gI g x))) :
 runDef (GF fn) 12 dR args [] = some (.int (posR ts x : Nat), .list (tls g ts)) ∧ posR ts x ≤ ts.length := by
 have h := bR0 (fn := fn) (xs := tls g ts) (x := x.map g) (κ := fun m => (ts.getD m []).map g) agy (by rw [acs]; omega) (args := args) ha
 have e : (fun m => ltL (x.map g) ((ts.getD m []).map g)) = fun m => ltN x (ts.getD m []) := funext fun m => abY hg _ _
 rw [e, acs] at h
 exact h
theorem ajE (hg : Rise g) (hl : ts.length ≤ 80) {args : List CV} (ha : bindPos dL.bor dL.ps args dL.dflt = some (arB (tls g ts) (gI g x))) :
 runDef (GF fn) 12 dL args [] = some (.int (posL ts x : Nat), .list (tls g ts)) ∧ posL ts x ≤ ts.length := by
 have h := bL0 (fn := fn) (xs := tls g ts) (x := x.map g) (κ := fun m => (ts.getD m []).map g) agy (by rw [acs]; omega) (args := args) ha
 have e : (fun m => !ltL ((ts.getD m []).map g) (x.map g)) = fun m => !ltN (ts.getD m []) x := funext fun m => by rw [abY hg]
 rw [e, acs] at h
 exact h
end
noncomputable def nIR : Str := "insort_right"
noncomputable def nIL : Str := "insort_left"
section
variable {fn : Str -> Option FS} {g : Nat -> Int} {q : List Nat} {F1 F2 : FS} {s s' : BS} {p : Nat}
set_option tactic.hygienic false
theorem ajF : bindT (forT (stA dBeg.body 2)) (.int p) (frG g q s []) = some (frG g q s [("place", .val (.int p))]) := by ext
set_option tactic.hygienic true
theorem bg_0 (hq : q.length ≤ 80) : (sem (GF fn) 11).xs (stA bgB 0) (frG g q s [("place", .val (.int p))]) = some (.next, frG g q s (tpT g p (q.drop p))) := by
 refine aal (c := gI g (q.drop p)) (ρ1 := frG g q s [("place", .val (.int p))]) (by ext) (by ext) (aaZ (a := .val (gI g q)) (l := some (p : Int)) (h := none) (o := gI g q) (by ext) (by ext) rfl rfl ?_) (by ext) (by ext)
 unfold gI lI
 rw [slC (by simp [LIM]; omega), abF, <- List.map_drop, <- List.map_drop]
set_option tactic.hygienic false
theorem beq0 (k : Nat) : (((k : Nat) : Int) == 0) = Nat.beq k 0 := by
 cases k with
 | zero => rfl
 | succ k => rfl
theorem acI (l : List Nat) (p : Nat) : inN l ++ [.int (p : Int)] = inN (l ++ [p]) := by unfold inN; rw [List.map_append]; rfl
theorem abZ (l : List Nat) : (inN l).length = l.length := by unfold inN; rw [List.length_map]
set_option tactic.hygienic true
theorem bg_1 (f1 : fn nBL = some F1) (b1 : F1.bor = some 0) {x : List Nat} (r1 : F1.run [.list (tls g s.1), gI g x] [] = some (.int (posL s.1 x : Nat), .list (tls g s.1))) (hb : s.2.length ≤ 80) :
 (sem (GF fn) 11).xs (stA bgB 1) (frG g q s (tpT g p x)) = some (.next, frG g q (s.1, match Nat.beq (posL s.1 x) 0 with | true => s.2 ++ [p] | false => s.2) (tpT g p x)) := by
 have hc : (sem (GF fn) 10).it (ifT (stA bgB 1)) (frG g q s (tpT g p x)) = some (Nat.beq (posL s.1 x) 0, frG g q s (tpT g p x)) := by
  refine aaB (x := .int (posL s.1 x : Nat)) (y := .int 0) (by ext) (aaq (a := .val (.int (posL s.1 x : Nat))) (b := .val (.int 0)) (aaF (by ext) (by ext) (aag f1 (by ext)) ?_) (by ext) rfl rfl) (congrArg some (beq0 _))
  exact aaj (x := "tails") (o := .list (tls g s.1)) (o' := .list (tls g s.1)) (cs := [.none, gI g x]) (kvs := []) (avs := [.ref "tails", .val (gI g x)]) b1 (aac (by ext) (aac (by ext) aad)) (by ext) rfl rfl (by ext) r1 (by ext)
 cases e : Nat.beq (posL s.1 x) 0 with
 | false => rw [e] at hc; exact aaz hc (by ext)
 | true =>
  rw [e] at hc
  have ha := appC (c := .int (p : Int)) (show (inN s.2).length ≤ LIM by rw [abZ]; unfold LIM; omega)
  rw [acI] at ha
  exact aaH hc (aaa (aaV (by ext) (abw (x := "begins") (c0 := .list (inN s.2)) (k := .append) (avs := [.val (.int p)]) (cs := [.int p]) (ob := .list (inN s.2)) (ob' := .list (inN (s.2 ++ [p]))) (by ext) (by ext) (by ext) (by ext) (by ext) rfl (aac (by ext) aad) rfl (by ext) ha (by ext))) aae)
theorem bg_2 (f2 : fn nIR = some F2) (b2 : F2.bor = some 0) {x : List Nat} (r2 : F2.run [.list (tls g s.1), gI g x] [] = some (.none, .list (tls g (insG s.1 (posR s.1 x) x)))) :
 (sem (GF fn) 11).xs (stA bgB 2) (frG g q s (tpT g p x)) = some (.next, frG g q (insG s.1 (posR s.1 x) x, s.2) (tpT g p x)) := by
 refine aaV (by ext) (aaF (by ext) (by ext) (aag f2 (by ext)) ?_)
 exact aaj (x := "tails") (o := .list (tls g s.1)) (o' := .list (tls g (insG s.1 (posR s.1 x) x))) (cs := [.none, gI g x]) (kvs := []) (avs := [.ref "tails", .val (gI g x)]) b2 (aac (by ext) (aac (by ext) aad)) (by ext) rfl rfl (by ext) r2 (by ext)
theorem ak8 (f1 : fn nBL = some F1) (b1 : F1.bor = some 0) (r1 : ∀ ts x, ts.length ≤ 80 -> F1.run [.list (tls g ts), gI g x] [] = some (.int (posL ts x : Nat), .list (tls g ts)))
 (f2 : fn nIR = some F2) (b2 : F2.bor = some 0) (r2 : ∀ ts x, ts.length ≤ 80 -> F2.run [.list (tls g ts), gI g x] [] = some (.none, .list (tls g (insG ts (posR ts x) x)))) {bs : List Nat} (hq : q.length ≤ 80) (h : begF q = some bs) :
 runDef (GF fn) 12 dBeg [gI g q] [] = some (.list (inN bs), .list []) := by
 have hbody : dBeg.body = [stA dBeg.body 0, stA dBeg.body 1, stA dBeg.body 2, stA dBeg.body 3] := by ext
 have hbb : bgB = [stA bgB 0, stA bgB 1, stA bgB 2] := by ext
 unfold begF at h
 cases e : foldO (begS q) (List.range q.length) ([], []) with
 | none => rw [e] at h; cases h
 | some s' =>
  rw [e] at h
  have hl := abD (step := fun c ρ => match bindT (forT (stA dBeg.body 2)) c ρ with | some ρ => (sem (GF fn) 11).xssD (news (frG g q ([], []) [])) bgB ρ | none => none) (v := fun p : Nat => .int (p : Int)) (fr := fun s => frG g q s []) (List.range q.length) ([], []) s' (fun s p s2 _ hs => by
   obtain ⟨hb, rfl⟩ := abi hs
   simp only [Bool.and_eq_true, Nat.ble_eq] at hb
   rw [ajF, hbb]
   exact aau (aaa (bg_0 hq) (aaa (bg_1 f1 b1 (r1 _ _ hb.1.1.1) hb.1.1.2) (aaa (bg_2 f2 b2 (r2 _ _ hb.1.1.1)) aae))) (by ext)) e
  have s0 : (sem (GF fn) 12).xs (stA dBeg.body 0) ⟨dBeg.scope, [("numbers", .val (gI g q))]⟩ = some (.next, ⟨dBeg.scope, [("numbers", .val (gI g q)), ("tails", .own (.list []))]⟩) := by ext
  have s1 : (sem (GF fn) 12).xs (stA dBeg.body 1) ⟨dBeg.scope, [("numbers", .val (gI g q)), ("tails", .own (.list []))]⟩ = some (.next, frG g q ([], []) []) := by ext
  have hit : (sem (GF fn) 11).items (GF fn) true (forT (stA dBeg.body 2)) (forI (stA dBeg.body 2)) (frG g q ([], []) []) = some ((List.range q.length).map fun p : Nat => .int (p : Int), frG g q ([], []) []) := by
   rw [<- acr]
   refine abE (by ext) (by ext) (aaJ (c := gI g q) (by ext) (by ext) (by ext) (by ext) (by ext) ?_) (aaX (by omega))
   have := acB (xs := (q.map g).map CV.int) (by simp; omega)
   rw [List.length_map, List.length_map] at this
   exact this
  have s2 : (sem (GF fn) 12).xs (stA dBeg.body 2) (frG g q ([], []) []) = some (.next, frG g q s' []) := aba hit hl
  have s3 : (sem (GF fn) 12).xs (stA dBeg.body 3) (frG g q s' []) = some (.ret (.list (inN s'.2)), (frG g q s' []).set "begins" (.val (.list (inN s'.2)))) := by ext
  rw [<- Option.some.inj h]
  refine aam (ρ := (frG g q s' []).set "begins" (.val (.list (inN s'.2)))) (l := [("numbers", .val (gI g q))]) (by ext) (by ext) ?_ rfl
  rw [hbody]
  exact aaa s0 (aaa s1 (aaa s2 (aat s3)))
end
set_option tactic.hygienic true
theorem abj {σ α : Type} {step : CV -> CE -> Option (FC × CE)} {v : α -> CV} {fr : σ -> CE} {ps : σ -> α -> Option σ} {P : σ -> Prop} : ∀ (l : List α) (s s' : σ), P s -> (∀ s a s', a ∈ l -> P s -> ps s a = some s' -> P s' ∧ step (v a) (fr s) = some (.next, fr s')) -> foldO ps l s = some s' -> P s' ∧ loopL step (l.map v) (fr s) = some (.next, fr s')
 | [], s, s', hP, _, h => by obtain rfl := Option.some.inj h; exact ⟨hP, rfl⟩
 | a :: r, s, s', hP, hs, h => by
  rw [agv] at h
  cases e : ps s a with
  | none => rw [e] at h; cases h
  | some s1 =>
   rw [e] at h
   obtain ⟨h1, h2⟩ := hs s a s1 (.head _) hP e
   obtain ⟨h3, h4⟩ := abj r s1 s' h1 (fun s a s' hm => hs s a s' (.tail _ hm)) h
   refine ⟨h3, ?_⟩
   show loopL step (v a :: r.map v) (fr s) = _
   rw [abU, h2]
   exact h4
noncomputable def tC (X : Nat -> C10) (t : List Nat) : CV := .list (t.map fun c => .str (X c).v)
noncomputable def gC (X : Nat -> C10) (ts : List (List Nat)) : List CV := ts.map (tC X)
noncomputable def sdC (l : List Bool) : List CV := l.map CV.bool
noncomputable def jn (X : Nat -> C10) (t : List Nat) : SS := joinS (t.map fun c => (X c).v)
def OkT (t : List Nat) : Prop := ∀ x ∈ t, x < 12
structure XInj (X : Nat -> C10) : Prop where
 eq : ∀ c d, c < 12 -> d < 12 -> ((X c).v.s == (X d).v.s) = Nat.beq c d
noncomputable def beqL : List Nat -> List Nat -> Bool
 | [], b => match b with
  | [] => true
  | _ :: _ => false
 | x :: r, b => match b with
  | [] => false
  | y :: t => Nat.beq x y && beqL r t
set_option tactic.hygienic false
theorem adI : ∀ {a b : List Nat}, (a.length == b.length) = false -> beqL a b = false
 | [], [], h => by cases h
 | [], _ :: _, _ => rfl
 | _ :: _, [], _ => rfl
 | x :: r, y :: t, h => by
  show (Nat.beq x y && beqL r t) = false
  rw [adI (a := r) (b := t) (by
   simp only [List.length_cons] at h
   rw [beq_eq_false_iff_ne] at h ⊢
   omega), Bool.and_false]
section
variable {X : Nat -> C10} (hX : XInj X)
include hX
set_option tactic.hygienic false
theorem acS {k : Nat} : ∀ {a b : List Nat}, OkT a -> OkT b -> (a.length == b.length) = true -> eqAll (eqN (k + 1)) (a.map fun c => .str (X c).v) (b.map fun c => .str (X c).v) = some (beqL a b)
 | [], [], _, _, _ => rfl
 | [], _ :: _, _, _, h => by cases h
 | _ :: _, [], _, _, h => by cases h
 | x :: r, y :: t, ha, hb, h => by
  have h' : (r.length == t.length) = true := by
   simp only [List.length_cons] at h
   rw [beq_iff_eq] at h ⊢
   omega
  rw [List.map_cons, List.map_cons, acN]
  have e1 : eqN (k + 1) (.str (X x).v) (.str (X y).v) = some (Nat.beq x y) := by
   show some ((X x).v.s == (X y).v.s) = _
   rw [hX.eq x y (ha x (.head _)) (hb y (.head _))]
  rw [e1, acS (fun z hz => ha z (.tail _ hz)) (fun z hz => hb z (.tail _ hz)) h']
  rfl
theorem agz {k : Nat} {a b : List Nat} (ha : OkT a) (hb : OkT b) : eqN (k + 2) (tC X a) (tC X b) = some (beqL a b) := by
 show (match cvList (tC X b) with | some ys => (match (a.map fun c => CV.str (X c).v).length == ys.length with | true => eqAll (eqN (k + 1)) (a.map fun c => CV.str (X c).v) ys | false => some false) | none => none) = _
 show (match (a.map fun c => CV.str (X c).v).length == (b.map fun c => CV.str (X c).v).length with | true => eqAll (eqN (k + 1)) (a.map fun c => CV.str (X c).v) (b.map fun c => CV.str (X c).v) | false => some false) = _
 rw [List.length_map, List.length_map]
 cases h : a.length == b.length with
 | true => exact acS hX ha hb h
 | false => rw [adI h]
theorem adl {b : List Nat} (hb : OkT b) : ∀ {ts : List (List Nat)}, (∀ t ∈ ts, OkT t) -> eqOf (fun y => eqN 4 y (tC X b)) (gC X ts) = some (ts.map fun t => beqL t b)
 | [], _ => rfl
 | t :: r, h => by
  show eqOf _ (tC X t :: gC X r) = _
  rw [af7, agz hX (h t (.head _)) hb, adl hb fun z hz => h z (.tail _ hz)]
  rfl
theorem ahK {b : List Nat} {ts : List (List Nat)} (hb : OkT b) (h : ∀ t ∈ ts, OkT t) : cmpC .NotIn (tC X b) (.list (gC X ts)) = some (!(ts.any fun t => beqL t b)) := by
 show onot (match eqOf (fun y => eqN 4 y (tC X b)) (gC X ts) with | some bs => some (bs.any id) | none => none) = _
 rw [adl hX hb h]
 show some (!((ts.map fun t => beqL t b).any id)) = _
 rw [List.any_map]
 rfl
end
set_option tactic.hygienic false
theorem acT : ∀ l : List SS, strsC (l.map CV.str) = some l
 | [] => rfl
 | x :: r => by
  show (match strsC (r.map CV.str) with | some l => some (x :: l) | none => none) = _
  rw [acT r]
theorem abN {X : Nat -> C10} {t : List Nat} (h : t.length ≤ 80) : methC .join (.str (SS.of "")) [tC X t] = some (.str (jn X t)) := by
 have h1 := abm (t.map fun c => (X c).v) (fun x hx => by
  obtain ⟨c, _, rfl⟩ := List.mem_map.mp hx
  exact Nat.le_refl _)
 have e1 : (joinS (t.map fun c => (X c).v)).b = joinB (SS.of "").b (t.map fun c => (X c).v) := rfl
 rw [List.length_map, e1] at h1
 have e2 : (t.map fun c => CV.str (X c).v) = (t.map fun c => (X c).v).map CV.str := by rw [List.map_map]; rfl
 show (match strsC (t.map fun c => CV.str (X c).v) with | some ss => joinC (SS.of "") ss | none => none) = _
 rw [e2, acT]
 show joinC (SS.of "") (t.map fun c => (X c).v) = _
 unfold joinC
 rw [Nat.ble_eq_true_of_le (by unfold LIM; omega), Nat.ble_eq_true_of_le (by rw [List.length_map]; unfold LIM; omega)]
 rfl
theorem addL {xs ys : List CV} (h : xs.length + ys.length ≤ LIM) : binC .Add (.list xs) (.list ys) = some (.list (xs ++ ys)) := by
 show (match Nat.ble (xs.length + ys.length) LIM with | true => some (CV.list (xs ++ ys)) | false => none) = _
 rw [Nat.ble_eq_true_of_le h]
theorem addS {x y : SS} (h : x.b + y.b ≤ LIM) : binC .Add (.str x) (.str y) = some (.str (x.app y)) := by
 show (match Nat.ble (x.b + y.b) LIM with | true => some (CV.str (x.app y)) | false => none) = _
 rw [Nat.ble_eq_true_of_le h]
section
variable {G : GE} {n : Nat} {ρ ρ1 ρ2 : CE}
set_option tactic.hygienic false
theorem adJ {f : Str} {p pos : Pos} {args : List Expr} {kws : List Keyword} {c : CV} {t : Bool} (h : (sem G n).ev (.Call (.Name f p) args kws pos) ρ = some (.val c, ρ1)) (ht : truthC c = some t) : (sem G (n + 1)).it (.Call (.Name f p) args kws pos) ρ = some (t, ρ1) := by
 rw [aaI]
 dsimp only [stepS]
 unfold itStep
 dsimp only [l1, l2]
 rw [adX h rfl]
 dsimp only
 rw [ht]
theorem aiH {e : Expr} {p : Pos} {t : Bool} (h : (sem G n).it e ρ = some (t, ρ1)) : (sem G (n + 1)).it (.UnaryOp .Not e p) ρ = some (!t, ρ1) := by
 rw [aaI]
 dsimp only [stepS]
 unfold itStep
 dsimp only
 rw [h]
theorem aea {S : SM} {e : Expr} {es : List Expr} {t : Bool} {q : Bool} (h : S.it e ρ = some (t, ρ1)) (k : t = true -> S.allT .And es ρ1 = some (q, ρ1)) (hq : t = false -> q = false) : S.allT .And (e :: es) ρ = some (q, ρ1) := by
 rw [ae2]
 rw [h]
 cases t with
 | false => rw [hq rfl]
 | true => exact k rfl
theorem amC {es : List Expr} {p : Pos} {avs : List EV} {cs : List CV} (h1 : (sem G n).evs es ρ = some (avs, ρ1)) (h2 : freezes avs ρ1 = some (cs, ρ2)) (hl : cs.length ≤ LIM) : (sem G (n + 1)).ev (.List es p) ρ = some (.val (.list cs), ρ2) := by
 rw [aaI]
 dsimp only [stepS]
 unfold evStep
 dsimp only [mkOf]
 unfold SM.make
 dsimp only
 rw [h1]
 dsimp only
 rw [h2]
 dsimp only
 rw [Nat.ble_eq_true_of_le hl]
 rfl
end
noncomputable def dLaid : DD := ddG "_law_laid_into_one_another" (some 1)
noncomputable def L1 : List Stmt := forB (stA dLaid.body 1)
noncomputable def L2 : List Stmt := forB (stA L1 1)
noncomputable def L3 : List Stmt := forB (stA L2 3)
noncomputable def L4 : List Stmt := forB (stA L3 0)
abbrev GS := List (List Nat) × List Bool
noncomputable def wnt (X : Nat -> C10) (l : List Nat) : SS := l.foldl (fun w c => w.app ((X c).v.app D3)) D3
set_option tactic.hygienic false
theorem ahL (X : Nat -> C10) (l : List Nat) (c : Nat) : wnt X (l ++ [c]) = (wnt X l).app ((X c).v.app D3) := by unfold wnt; rw [List.foldl_append]; rfl
theorem ak9 (X : Nat -> C10) (l : List Nat) : (wnt X l).b = 3 + 13 * l.length := by
 have key : ∀ (l : List Nat) (w : SS), (l.foldl (fun w c => w.app ((X c).v.app D3)) w).b = w.b + 13 * l.length := by
  intro l
  induction l with
  | nil => intro w; rfl
  | cons c r ih =>
   intro w
   show (r.foldl _ (w.app ((X c).v.app D3))).b = _
   rw [ih]
   show w.b + 13 + 13 * r.length = w.b + 13 * (r.length + 1)
   omega
 exact key l D3
noncomputable def inNew (t : List Nat) (c k : Nat) : List Nat := t.take k ++ [c] ++ t.drop k
noncomputable def gapS (r : List Nat) (c : Nat) (t : List Nat) (s : GS) (k : Nat) : Option GS := match Nat.ble s.1.length 80 && Nat.ble s.2.length 9000 with
 | true => some (match subG r (inNew t c k) && !(s.1.any fun x => beqL x (inNew t c k)) with | true => s.1 ++ [inNew t c k] | false => s.1, s.2 ++ [subG r (inNew t c k)])
 | false => none
noncomputable def textS (r : List Nat) (c : Nat) (s : GS) (t : List Nat) : Option GS := match Nat.ble t.length 8 with
 | true => foldO (gapS r c t) (List.range (t.length + 1)) s
 | false => none
abbrev CS := List Nat × GS
noncomputable def cellS (s : CS) (c : Nat) : Option CS := match Nat.ble s.1.length 8 && Nat.ble s.2.1.length 80 with
 | true => match foldO (textS (s.1 ++ [c]) c) s.2.1 ([], s.2.2) with
  | some z => some (s.1 ++ [c], z)
  | none => none
 | false => none
noncomputable def rowS (s : GS) (row : List Nat) : Option GS := match Nat.ble row.length 8 with
 | true => match foldO cellS row ([], s) with
  | some z => some z.2
  | none => none
 | false => none
noncomputable def laidF (rows : List (List Nat)) : Option GS := foldO rowS rows ([[]], [])
noncomputable def frY (rows : CV) (said : List Bool) (g : Slot) (tail : List (Str × Slot)) : CE := ⟨dLaid.scope, ("rows", .val rows) :: ("said", .bor (.list (sdC said))) :: ("grown", g) :: tail⟩
noncomputable def y2 (row : CV) (w : SS) (r : List (Str × Slot)) : List (Str × Slot) := ("row", .val row) :: ("want", .val (.str w)) :: r
noncomputable def y4 (row : CV) (w : SS) (c : SS) (o : CV) (r : List (Str × Slot)) : List (Str × Slot) := y2 row w (("cell", .val (.str c)) :: ("older", .val o) :: r)
noncomputable def y5 (row : CV) (w : SS) (c : SS) (o t : CV) (r : List (Str × Slot)) : List (Str × Slot) := y4 row w c o (("text", .val t) :: r)
def AskR (F : FS) (X : Nat -> C10) : Prop := ∀ (r t : List Nat) (said : List Bool), r ≠ [] -> t ≠ [] -> OkT r -> OkT t -> r.length ≤ 9 -> t.length ≤ 9 -> said.length ≤ 9000 -> F.run [.str (wnt X r), .str (jn X t), .list (sdC said)] [] = some (.bool (subG r t), .list (sdC (said ++ [subG r t])))
theorem ahM (l : List Bool) (b : Bool) : sdC l ++ [.bool b] = sdC (l ++ [b]) := by unfold sdC; rw [List.map_append]; rfl
theorem aeM (X : Nat -> C10) (l : List (List Nat)) (t : List Nat) : gC X l ++ [tC X t] = gC X (l ++ [t]) := by unfold gC; rw [List.map_append]; rfl
def OkG (s : GS) : Prop := ∀ t ∈ s.1, OkT t
section
variable {fn : Str -> Option FS} {X : Nat -> C10} {rows row o : CV} {w c : SS} {said : List Bool} {g : List (List Nat)} {t : List Nat} {k : Nat} {nw : CV} {F : FS}
set_option tactic.hygienic false
theorem ahN : bindT (forT (stA L3 0)) (.int k) (frY rows said (.own (.list (gC X g))) (y5 row w c o (tC X t) [])) = some (frY rows said (.own (.list (gC X g))) (y5 row w c o (tC X t) [("gap", .val (.int k))])) := by ext
set_option tactic.hygienic true
theorem ala {cc : Nat} (ht : t.length ≤ 8) : (sem (GF fn) 8).xs (stA L4 0) (frY rows said (.own (.list (gC X g))) (y5 row w (X cc).v o (tC X t) [("gap", .val (.int k))])) = some (.next, frY rows said (.own (.list (gC X g))) (y5 row w (X cc).v o (tC X t) [("gap", .val (.int k)), ("new", .val (tC X (inNew t cc k)))])) := by
 have hl : (t.map fun c => CV.str (X c).v).length ≤ 8 := by rw [List.length_map]; exact ht
 have h1 : sliceC (tC X t) none (some (k : Int)) = some (.list ((t.take k).map fun c => CV.str (X c).v)) := by
  unfold tC
  rw [slC (by unfold LIM; omega), agx, List.map_take]
 have h2 : sliceC (tC X t) (some (k : Int)) none = some (.list ((t.drop k).map fun c => CV.str (X c).v)) := by
  unfold tC
  rw [slC (by unfold LIM; omega), abF, List.map_drop]
 have e1 : ((t.take k).map fun c => CV.str (X c).v).length ≤ 8 := by rw [List.length_map]; exact Nat.le_trans (List.length_take_le' k t) ht
 have e2 : ((t.drop k).map fun c => CV.str (X c).v).length ≤ 8 := by rw [List.length_map, List.length_drop]; omega
 have h3 : binC .Add (.list ((t.take k).map fun c => CV.str (X c).v)) (.list [.str (X cc).v]) = some (.list (((t.take k).map fun c => CV.str (X c).v) ++ [.str (X cc).v])) := addL (by unfold LIM; simp only [List.length_cons, List.length_nil]; omega)
 have h4 : binC .Add (.list (((t.take k).map fun c => CV.str (X c).v) ++ [.str (X cc).v])) (.list ((t.drop k).map fun c => CV.str (X c).v)) = some (tC X (inNew t cc k)) := by
  rw [addL (by rw [List.length_append]; unfold LIM; simp only [List.length_cons, List.length_nil]; omega)]
  unfold tC inNew
  rw [List.map_append, List.map_append]
  rfl
 refine aal (c := tC X (inNew t cc k)) (ρ1 := frY rows said (.own (.list (gC X g))) (y5 row w (X cc).v o (tC X t) [("gap", .val (.int k))])) (by ext) (by ext) ?_ (by ext) (by ext)
 refine aaD (aaq (aaD (aaq (aaZ (a := .val (tC X t)) (l := none) (h := some (k : Int)) (o := tC X t) (by ext) (by ext) (by ext) rfl h1) (b := .val (.list [.str (X cc).v])) (by ext) rfl rfl) h3) (aaZ (a := .val (tC X t)) (l := some (k : Int)) (h := none) (o := tC X t) (by ext) (by ext) (by ext) rfl h2) rfl rfl) h4
set_option tactic.hygienic false
theorem aiI {cc : Nat} (ht : OkT t) (hc : cc < 12) : OkT (inNew t cc k) := fun x hx => by
 unfold inNew at hx
 rcases List.mem_append.mp hx with q | q
 · rcases List.mem_append.mp q with q | q
   · exact ht x (List.mem_of_mem_take q)
   · rw [List.mem_singleton.mp q]; exact hc
 · exact ht x (List.mem_of_mem_drop q)
theorem alb {cc : Nat} : inNew t cc k ≠ [] := by unfold inNew; simp
theorem ajG {cc : Nat} (h : t.length ≤ 8) : (inNew t cc k).length ≤ 9 := by
 unfold inNew
 rw [List.length_append, List.length_append, List.length_take, List.length_drop]
 simp only [List.length_cons, List.length_nil]
 omega
theorem ajH {b : Bool} : truthC (.bool b) = some b := rfl
variable (hf : fn nAsk = some F) (hb : F.bor = some 2) (ha : AskR F X) (hX : XInj X)
include hf hb ha hX
set_option tactic.hygienic true
theorem am2 {cc : Nat} {r : List Nat} (hr : r ≠ []) (hro : OkT r) (hrl : r.length ≤ 9) (ht : t.length ≤ 8) (hto : OkT t) (hc : cc < 12) (hg : ∀ x ∈ g, OkT x) (hgl : g.length ≤ 80) (hs : said.length ≤ 9000) :
 (sem (GF fn) 8).xs (stA L4 1) (frY rows said (.own (.list (gC X g))) (y5 row (wnt X r) (X cc).v o (tC X t) [("gap", .val (.int k)), ("new", .val (tC X (inNew t cc k)))])) =
  some (.next, frY rows (said ++ [subG r (inNew t cc k)]) (.own (.list (gC X (match subG r (inNew t cc k) && !(g.any fun x => beqL x (inNew t cc k)) with | true => g ++ [inNew t cc k] | false => g)))) (y5 row (wnt X r) (X cc).v o (tC X t) [("gap", .val (.int k)), ("new", .val (tC X (inNew t cc k)))])) := by
 generalize hnew : inNew t cc k = nw
 have no : OkT nw := hnew ▸ aiI hto hc
 have nn : nw ≠ [] := hnew ▸ alb
 have nl : nw.length ≤ 9 := hnew ▸ ajG ht
 have hrun := ha r nw said hr nn hro no hrl nl hs
 generalize subG r nw = b at hrun ⊢
 have hcall : (sem (GF fn) 6).it (match ifT (stA L4 1) with | .BoolOp _ (e :: _) _ => e | e => e) (frY rows said (.own (.list (gC X g))) (y5 row (wnt X r) (X cc).v o (tC X t) [("gap", .val (.int k)), ("new", .val (tC X nw))])) =
  some (b, frY rows (said ++ [b]) (.own (.list (gC X g))) (y5 row (wnt X r) (X cc).v o (tC X t) [("gap", .val (.int k)), ("new", .val (tC X nw))])) := by
  refine adJ (c := .bool b) (aaF (by ext) (by ext) (aag hf (by ext)) ?_) ajH
  exact aaj (x := "said") (o := .list (sdC said)) (o' := .list (sdC (said ++ [b]))) (c := .bool b) (cs := [.str (wnt X r), .str (jn X nw), .none]) (kvs := []) (avs := [.val (.str (wnt X r)), .val (.str (jn X nw)), .ref "said"]) hb
   (aac (by ext) (aac (aaU (ov := .val (.str (SS.of ""))) (c0 := .str (SS.of "")) (k := .join) (avs := [.val (tC X nw)]) (cs := [tC X nw]) (by ext) (by ext) (by ext) rfl (by ext) rfl (aac (by ext) aad) rfl (abN (by omega))) (aac (by ext) aad))) (by ext) rfl rfl (by ext) hrun (by ext)
 have hin : (sem (GF fn) 6).it (match ifT (stA L4 1) with | .BoolOp _ (_ :: e :: _) _ => e | e => e) (frY rows (said ++ [b]) (.own (.list (gC X g))) (y5 row (wnt X r) (X cc).v o (tC X t) [("gap", .val (.int k)), ("new", .val (tC X nw))])) =
  some (!(g.any fun x => beqL x nw), frY rows (said ++ [b]) (.own (.list (gC X g))) (y5 row (wnt X r) (X cc).v o (tC X t) [("gap", .val (.int k)), ("new", .val (tC X nw))])) :=
  aaB (x := tC X nw) (y := .list (gC X g)) (by ext) (aaq (a := .val (tC X nw)) (b := .ref "grown") (by ext) (by ext) rfl rfl) (ahK hX no hg)
 have htest : (sem (GF fn) 7).it (ifT (stA L4 1)) (frY rows said (.own (.list (gC X g))) (y5 row (wnt X r) (X cc).v o (tC X t) [("gap", .val (.int k)), ("new", .val (tC X nw))])) =
  some (b && !(g.any fun x => beqL x nw), frY rows (said ++ [b]) (.own (.list (gC X g))) (y5 row (wnt X r) (X cc).v o (tC X t) [("gap", .val (.int k)), ("new", .val (tC X nw))])) := by
  refine it_bool.trans (aea hcall (fun e => ?_) (fun e => by rw [e]; rfl))
  subst e
  rw [Bool.true_and]
  exact aea hin (fun e => by rw [e]; rfl) (fun e => e)
 cases hq : (b && !(g.any fun x => beqL x nw)) with
 | false => rw [hq] at htest; exact aaz htest (by ext)
 | true =>
  rw [hq] at htest
  have hap := appC (c := tC X nw) (show (gC X g).length ≤ LIM by unfold gC LIM; rw [List.length_map]; omega)
  rw [aeM] at hap
  exact aaH htest (aaa (aaV (by ext) (abw (x := "grown") (c0 := .list (gC X g)) (k := .append) (avs := [.val (tC X nw)]) (cs := [tC X nw]) (ob := .list (gC X g)) (ob' := .list (gC X (g ++ [nw]))) (by ext) (by ext) (by ext) (by ext) (by ext) rfl (aac (by ext) aad) rfl (by ext) hap (by ext))) aae)
theorem ajI {cc : Nat} {r : List Nat} (hr : r ≠ []) (hro : OkT r) (hrl : r.length ≤ 9) (hto : OkT t) (hc : cc < 12) {s s' : GS} (hs : OkG s) (h : textS r cc s t = some s') :
 OkG s' ∧ (sem (GF fn) 9).xss L3 (frY rows s.2 (.own (.list (gC X s.1))) (y5 row (wnt X r) (X cc).v o (tC X t) [])) = some (.next, frY rows s'.2 (.own (.list (gC X s'.1))) (y5 row (wnt X r) (X cc).v o (tC X t) [])) := by
 unfold textS at h
 cases hl : Nat.ble t.length 8 with
 | false => rw [hl] at h; cases h
 | true =>
  rw [hl] at h
  have ht := Nat.le_of_ble_eq_true hl
  have hb4 : L4 = [stA L4 0, stA L4 1] := by ext
  have hb3 : L3 = [stA L3 0] := by ext
  obtain ⟨h1, h2⟩ := abj (P := OkG) (step := fun c ρ => match bindT (forT (stA L3 0)) c ρ with | some ρ => (sem (GF fn) 8).xssD (news (frY rows s.2 (.own (.list (gC X s.1))) (y5 row (wnt X r) (X cc).v o (tC X t) []))) L4 ρ | none => none) (v := fun p : Nat => .int (p : Int)) (fr := fun s : GS => frY rows s.2 (.own (.list (gC X s.1))) (y5 row (wnt X r) (X cc).v o (tC X t) [])) (List.range (t.length + 1)) s s' hs (fun s k s2 _ hP he => by
   obtain ⟨hgd, rfl⟩ := abi he
   simp only [Bool.and_eq_true, Nat.ble_eq] at hgd
   refine ⟨fun x hx => ?_, ?_⟩
   · dsimp only at hx
     split at hx
     · rcases List.mem_append.mp hx with q | q
       · exact hP x q
       · rw [List.mem_singleton.mp q]; exact aiI hto hc
     · exact hP x hx
   · rw [ahN, hb4]
     exact aau (aaa (ala ht) (aaa (am2 hf hb ha hX hr hro hrl ht hto hc hP hgd.1 hgd.2) aae)) (by ext)) h
  refine ⟨h1, ?_⟩
  rw [hb3]
  refine aaa (aba (cs := (List.range (t.length + 1)).map fun p : Nat => .int (p : Int)) (ρ1 := frY rows s.2 (.own (.list (gC X s.1))) (y5 row (wnt X r) (X cc).v o (tC X t) [])) ?_ h2) aae
  rw [<- acr]
  have hlen := acB (xs := t.map fun c => CV.str (X c).v) (by rw [List.length_map]; omega)
  rw [List.length_map] at hlen
  refine abE (by ext) (by ext) (aaD (x := .int t.length) (y := .int 1) (aaq (a := .val (.int t.length)) (b := .val (.int 1)) (aaJ (c := tC X t) (by ext) (by ext) (by ext) (by ext) (by ext) hlen) (by ext) rfl rfl) rfl) (aaX (by omega))
end
section
variable {fn : Str -> Option FS} {X : Nat -> C10} {rows row : CV} {w : SS} {said : List Bool} {g : List (List Nat)} {F : FS}
set_option tactic.hygienic false
theorem ahO {c : SS} : bindT (forT (stA L1 1)) (.str c) (frY rows said (.own (.list (gC X g))) (y2 row w [])) = some (frY rows said (.own (.list (gC X g))) (y2 row w [("cell", .val (.str c))])) := by ext
theorem ahP {c : SS} {o : CV} {t : List Nat} : bindT (forT (stA L2 3)) (tC X t) (frY rows said (.own (.list (gC X g))) (y4 row w c o [])) = some (frY rows said (.own (.list (gC X g))) (y5 row w c o (tC X t) [])) := by ext
set_option tactic.hygienic true
theorem ajJ {r : List Nat} {c : Nat} (hr : r.length ≤ 8) : (sem (GF fn) 10).xs (stA L2 0) (frY rows said (.own (.list (gC X g))) (y2 row (wnt X r) [("cell", .val (.str (X c).v))])) = some (.next, frY rows said (.own (.list (gC X g))) (y2 row (wnt X (r ++ [c])) [("cell", .val (.str (X c).v))])) := by
 rw [ahL]
 refine acx (a := .str (wnt X r)) (b := .str ((X c).v.app D3)) (c := .str ((wnt X r).app ((X c).v.app D3))) (by ext) (by ext) (by ext) ?_ (by ext) (by ext)
 have hb := ak9 X r
 have h2 : ((X c).v.app D3).b = 13 := rfl
 show (match Nat.ble ((wnt X r).b + ((X c).v.app D3).b) LIM with | true => some (CV.str ((wnt X r).app ((X c).v.app D3))) | false => none) = _
 rw [Nat.ble_eq_true_of_le (by rw [hb, h2]; unfold LIM; omega)]
theorem ahQ {r : List Nat} {c : Nat} : (sem (GF fn) 10).xs (stA L2 1) (frY rows said (.own (.list (gC X g))) (y2 row w [("cell", .val (.str (X c).v))])) = some (.next, frY rows said (.val (.list (gC X g))) (y4 row w (X c).v (.list (gC X g)) [])) := by ext
theorem ahR {c : Nat} {o g : CV} : (sem (GF fn) 10).xs (stA L2 2) (frY rows said (.val g) (y4 row w (X c).v o [])) = some (.next, frY rows said (.own (.list [])) (y4 row w (X c).v o [])) := by ext
variable (hf : fn nAsk = some F) (hb : F.bor = some 2) (ha : AskR F X) (hX : XInj X)
include hf hb ha hX
theorem ajK {s s' : CS} {c : Nat} (hro : OkT s.1) (hc : c < 12) (hs : OkG s.2) (h : cellS s c = some s') :
 (OkT s'.1 ∧ OkG s'.2) ∧ (sem (GF fn) 10).xss L2 (frY rows s.2.2 (.own (.list (gC X s.2.1))) (y2 row (wnt X s.1) [("cell", .val (.str (X c).v))])) = some (.next, frY rows s'.2.2 (.own (.list (gC X s'.2.1))) (y4 row (wnt X s'.1) (X c).v (.list (gC X s.2.1)) [])) := by
 unfold cellS at h
 cases hl : Nat.ble s.1.length 8 && Nat.ble s.2.1.length 80 with
 | false => rw [hl] at h; cases h
 | true =>
  rw [hl] at h
  simp only [Bool.and_eq_true, Nat.ble_eq] at hl
  cases e : foldO (textS (s.1 ++ [c]) c) s.2.1 ([], s.2.2) with
  | none => rw [e] at h; cases h
  | some z =>
   rw [e] at h
   obtain rfl := Option.some.inj h
   have hr : s.1 ++ [c] ≠ [] := by simp
   have hro' : OkT (s.1 ++ [c]) := fun x hx => by
    rcases List.mem_append.mp hx with q | q
    · exact hro x q
    · rw [List.mem_singleton.mp q]; exact hc
   have hrl : (s.1 ++ [c]).length ≤ 9 := by rw [List.length_append]; simp only [List.length_cons, List.length_nil]; omega
   have hb2 : L2 = [stA L2 0, stA L2 1, stA L2 2, stA L2 3] := by ext
   obtain ⟨h1, h2⟩ := abj (P := OkG) (step := fun z ρ => match bindT (forT (stA L2 3)) z ρ with | some ρ => (sem (GF fn) 9).xssD (news (frY rows s.2.2 (.own (.list (gC X []))) (y4 row (wnt X (s.1 ++ [c])) (X c).v (.list (gC X s.2.1)) []))) L3 ρ | none => none) (v := tC X) (fr := fun q : GS => frY rows q.2 (.own (.list (gC X q.1))) (y4 row (wnt X (s.1 ++ [c])) (X c).v (.list (gC X s.2.1)) [])) s.2.1 ([], s.2.2) z (fun x hx => by cases hx) (fun q t q' ht hP he => by
    obtain ⟨k1, k2⟩ := ajI (rows := rows) (row := row) (o := .list (gC X s.2.1)) hf hb ha hX hr hro' hrl (hs t ht) hc hP he
    refine ⟨k1, ?_⟩
    rw [ahP]
    exact aau k2 (by ext)) e
   refine ⟨⟨hro', h1⟩, ?_⟩
   rw [hb2]
   refine aaa (ajJ hl.1) (aaa (ahQ (r := [])) (aaa ahR (aaa (aba (cs := gC X s.2.1) (ρ1 := frY rows s.2.2 (.own (.list [])) (y4 row (wnt X (s.1 ++ [c])) (X c).v (.list (gC X s.2.1)) [])) (aaA (c := .list (gC X s.2.1)) (by ext) (by ext) rfl (Nat.ble_eq_true_of_le ?_)) h2) aae)))
   unfold gC LIM
   rw [List.length_map]
   omega
set_option tactic.hygienic false
omit hf hb ha hX in
theorem ahS {rw' : CV} (ht : isTup rw' = false) : bindT (forT (stA dLaid.body 1)) rw' (frY rows said (.own (.list (gC X g))) []) = some (frY rows said (.own (.list (gC X g))) [("row", .val rw')]) := by
 have : bindT (forT (stA dLaid.body 1)) rw' (frY rows said (.own (.list (gC X g))) []) = match !isTup rw' with | true => some (frY rows said (.own (.list (gC X g))) [("row", .val rw')]) | false => none := by ext
 rw [this, ht]
 rfl
set_option tactic.hygienic true
theorem alc {s s' : GS} {r : List Nat} (hro : OkT r) (hs : OkG s) (h : rowS s r = some s') :
 OkG s' ∧ ∃ w, (sem (GF fn) 11).xss L1 (frY rows s.2 (.own (.list (gC X s.1))) [("row", .val (tC X r))]) = some (.next, frY rows s'.2 (.own (.list (gC X s'.1))) (y2 (tC X r) w [])) := by
 unfold rowS at h
 cases hl : Nat.ble r.length 8 with
 | false => rw [hl] at h; cases h
 | true =>
  rw [hl] at h
  have hrl := Nat.le_of_ble_eq_true hl
  cases e : foldO cellS r ([], s) with
  | none => rw [e] at h; cases h
  | some z =>
   rw [e] at h
   obtain rfl := Option.some.inj h
   have hb1 : L1 = [stA L1 0, stA L1 1] := by ext
   have s0 : (sem (GF fn) 11).xs (stA L1 0) (frY rows s.2 (.own (.list (gC X s.1))) [("row", .val (tC X r))]) = some (.next, frY rows s.2 (.own (.list (gC X s.1))) (y2 (tC X r) (wnt X []) [])) := by ext
   obtain ⟨h1, h2⟩ := abj (P := fun q : CS => OkT q.1 ∧ OkG q.2) (step := fun z ρ => match bindT (forT (stA L1 1)) z ρ with | some ρ => (sem (GF fn) 10).xssD (news (frY rows s.2 (.own (.list (gC X s.1))) (y2 (tC X r) (wnt X []) []))) L2 ρ | none => none) (v := fun c => .str (X c).v) (fr := fun q : CS => frY rows q.2.2 (.own (.list (gC X q.2.1))) (y2 (tC X r) (wnt X q.1) [])) r ([], s) z ⟨fun x hx => (by cases hx), hs⟩ (fun q c q' hc hP he => by
    obtain ⟨k1, k2⟩ := ajK (rows := rows) (row := tC X r) hf hb ha hX hP.1 (hro c hc) hP.2 he
    refine ⟨k1, ?_⟩
    rw [ahO]
    exact aau k2 (by ext)) e
   refine ⟨h1.2, wnt X z.1, ?_⟩
   rw [hb1]
   refine aaa s0 (aaa (aba (cs := r.map fun c => .str (X c).v) (ρ1 := frY rows s.2 (.own (.list (gC X s.1))) (y2 (tC X r) (wnt X []) [])) (aaA (c := tC X r) (by ext) (by ext) rfl (Nat.ble_eq_true_of_le ?_)) h2) aae)
   unfold LIM
   rw [List.length_map]
   omega
theorem laid {rs : List (List Nat)} {s' : GS} (hro : ∀ r ∈ rs, OkT r) (hrl : rs.length ≤ 80) (h : laidF rs = some s') :
 OkG s' ∧ runDef (GF fn) 12 dLaid [.list (rs.map (tC X)), .list []] [] = some (.list (gC X s'.1), .list (sdC s'.2)) := by
 have hbody : dLaid.body = [stA dLaid.body 0, stA dLaid.body 1, stA dLaid.body 2] := by ext
 obtain ⟨h1, h2⟩ := abj (P := OkG) (step := fun z ρ => match bindT (forT (stA dLaid.body 1)) z ρ with | some ρ => (sem (GF fn) 11).xssD (news (frY (.list (rs.map (tC X))) [] (.own (.list (gC X [[]]))) [])) L1 ρ | none => none) (v := tC X) (fr := fun q : GS => frY (.list (rs.map (tC X))) q.2 (.own (.list (gC X q.1))) []) rs ([[]], []) s' (fun x hx => by rw [List.mem_singleton.mp hx]; exact fun y hy => by cases hy) (fun q r q' hr hP he => by
  obtain ⟨k1, w, k2⟩ := alc (rows := .list (rs.map (tC X))) hf hb ha hX (hro r hr) hP he
  refine ⟨k1, ?_⟩
  rw [ahS rfl]
  exact aau k2 (by ext)) h
 have s0 : (sem (GF fn) 12).xs (stA dLaid.body 0) ⟨dLaid.scope, [("rows", .val (.list (rs.map (tC X)))), ("said", .bor (.list []))]⟩ = some (.next, frY (.list (rs.map (tC X))) [] (.own (.list (gC X [[]]))) []) := by ext
 have s1 : (sem (GF fn) 12).xs (stA dLaid.body 1) (frY (.list (rs.map (tC X))) [] (.own (.list (gC X [[]]))) []) = some (.next, frY (.list (rs.map (tC X))) s'.2 (.own (.list (gC X s'.1))) []) :=
  aba (cs := rs.map (tC X)) (ρ1 := frY (.list (rs.map (tC X))) [] (.own (.list (gC X [[]]))) []) (aaA (c := .list (rs.map (tC X))) (by ext) (by ext) rfl (Nat.ble_eq_true_of_le (by unfold LIM; rw [List.length_map]; omega))) h2
 have s2 : (sem (GF fn) 12).xs (stA dLaid.body 2) (frY (.list (rs.map (tC X))) s'.2 (.own (.list (gC X s'.1))) []) = some (.ret (.list (gC X s'.1)), frY (.list (rs.map (tC X))) s'.2 (.val (.list (gC X s'.1))) []) := by ext
 refine ⟨h1, aam (ρ := frY (.list (rs.map (tC X))) s'.2 (.val (.list (gC X s'.1))) []) (l := [("rows", .val (.list (rs.map (tC X)))), ("said", .bor (.list []))]) (by ext) (by ext) ?_ rfl⟩
 rw [hbody]
 exact aaa s0 (aaa s1 (aat s2))
end
noncomputable def ifE : Bool -> Expr -> Expr -> Expr
 | true, b, _ => b
 | false, _, o => o
section
variable {G : GE} {n : Nat} {ρ ρ1 ρ2 : CE}
set_option tactic.hygienic false
theorem aiJ {t b o : Expr} {p : Pos} {v : Bool} {q : Option (EV × CE)} (h : (sem G n).it t ρ = some (v, ρ)) (k : (sem G n).ev (ifE v b o) ρ = q) : (sem G (n + 1)).ev (.IfExp t b o p) ρ = q := by
 rw [aaI]
 dsimp only [stepS]
 unfold evStep evN
 dsimp only [mkOf]
 rw [h]
 cases v <;> exact k
theorem adK {op : BoolOp} {a b : Expr} {p : Pos} {x y : Bool} (h1 : (sem G n).ev a ρ = some (.val (.bool x), ρ)) (h2 : (sem G n).ev b ρ = some (.val (.bool y), ρ)) : (sem G (n + 1)).ev (.BoolOp op [a, b] p) ρ = some (.val (.bool (match op with | .And => x && y | .Or => x || y)), ρ) := by
 rw [aaI]
 dsimp only [stepS]
 unfold evStep evN
 dsimp only [mkOf]
 rw [ahl, h1]
 dsimp only [deref, truthC]
 cases op <;> cases x <;> first | rfl | (rw [ahm, h2]; rfl)
theorem act {f : Str} {p pos tp : Pos} {k : Bool} {ts : List Expr} {kk : Nat} {x : Expr} {cs : List CV} (hb : isBlt G ρ f = true) (hf : (f == nEnumerate) = true) (h : (sem G n).evk k x ρ = some (.list cs, ρ1)) (hl : cs.length ≤ LIM) :
 (sem G n).items G k (.Tuple ts kk tp) (.Call (.Name f p) [x] [] pos) ρ = some (enumC 0 cs, ρ1) := by
 have hf' : (f == nRange) = false := by rw [beq_iff_eq.mp hf]; decide
 have hs : srcOf G ρ (.Call (.Name f p) [x] [] pos) = .enum x := by rw [abL G hb]; unfold srcB; rw [hf']; dsimp only; rw [hf]; rfl
 unfold SM.items
 rw [hs]
 dsimp only [isTupT]
 rw [h]
 dsimp only
 rw [Nat.ble_eq_true_of_le hl]
end
noncomputable def enumN {α : Type} : Nat -> List α -> List (Nat × α)
 | _, [] => []
 | i, c :: r => (i, c) :: enumN (i + 1) r
set_option tactic.hygienic false
theorem adL {α : Type} (f : α -> CV) : ∀ (l : List α) (i : Nat), enumC i (l.map f) = (enumN i l).map fun p => .tup [.int (p.1 : Int), f p.2]
 | [], _ => rfl
 | c :: r, i => by
  show enumC i (f c :: r.map f) = .tup [.int i, f c] :: ((enumN (i + 1) r).map fun p => .tup [.int (p.1 : Int), f p.2])
  rw [adz, adL f r]
theorem adM {α : Type} : ∀ {l : List α} {i : Nat} {p : Nat × α}, p ∈ enumN i l -> p.2 ∈ l
 | c :: r, i, p, h => by
  rcases List.mem_cons.mp (show p ∈ (i, c) :: enumN (i + 1) r from h) with q | q
  · rw [q]; exact .head _
  · exact .tail _ (adM q)
noncomputable def headN : List Nat -> Nat
 | [] => 0
 | x :: _ => x
noncomputable def lastN : List Nat -> Nat
 | [] => 0
 | x :: r => match r with
  | [] => x
  | _ :: _ => lastN r
theorem aeN : ∀ {l : List Nat}, l ≠ [] -> ∃ a, l = a ++ [lastN l]
 | [], h => absurd rfl h
 | [x], _ => ⟨[], rfl⟩
 | x :: y :: r, _ => by
  obtain ⟨a, h⟩ := aeN (l := y :: r) (by simp)
  exact ⟨x :: a, congrArg (x :: ·) h⟩
theorem aeO {X : Nat -> C10} {l : List Nat} (h : l ≠ []) (hl : l.length ≤ 80) : subC (tC X l) (.int 0) = some (.str (X (headN l)).v) := by
 cases l with
 | nil => exact absurd rfl h
 | cons x r => exact abz (m := 0) rfl (by rw [List.length_map]; omega)
theorem agA {X : Nat -> C10} {l : List Nat} (h : l ≠ []) (hl : l.length ≤ 80) : subC (tC X l) (.int (-1)) = some (.str (X (lastN l)).v) := by
 obtain ⟨a, e⟩ := aeN h
 have : (l.map fun c => CV.str (X c).v) = (a.map fun c => CV.str (X c).v) ++ [.str (X (lastN l)).v] := by
  conv => lhs; rw [e]
  rw [List.map_append]
  rfl
 unfold tC
 rw [this]
 refine adC ?_
 rw [List.length_map]
 have := congrArg List.length e
 rw [List.length_append] at this
 simp only [List.length_cons, List.length_nil] at this
 omega
theorem adN {l : List Nat} (h : l ≠ []) : headN l ∈ l := by
 cases l with
 | nil => exact absurd rfl h
 | cons x r => exact .head _
theorem afg {l : List Nat} (h : l ≠ []) : lastN l ∈ l := by
 obtain ⟨a, e⟩ := aeN h
 have : lastN l ∈ a ++ [lastN l] := by simp
 rw [<- e] at this
 exact this
noncomputable def dEnds : DD := ddG "_law_told_of_ends" (some 2)
noncomputable def eB : List Stmt := forB (stA dEnds.body 0)
noncomputable def aS (b : Bool) : SS := match b with
 | true => SS.of ""
 | false => SS.of "..."
noncomputable def joinD (l : List SS) : SS := ⟨Txt.join (SS.of "...").s (l.map (·.s)), joinB 3 l, aeD (SS.of "...") l⟩
noncomputable def wntE (X : Nat -> C10) (a b : Bool) (row : List Nat) : SS := ((aS a).app (joinD (row.map fun c => (X c).v))).app (aS b)
def AskE (F : FS) (X : Nat -> C10) : Prop := ∀ (a b : Bool) (r t : List Nat) (said : List Bool), r ≠ [] -> 2 ≤ t.length -> OkT r -> OkT t -> r.length ≤ 9 -> t.length ≤ 9 -> said.length ≤ 9000 -> F.run [.str (wntE X a b r), .str (jn X t), .list (sdC said)] [] = some (.bool (matchG (!a) (!b) r t), .list (sdC (said ++ [matchG (!a) (!b) r t])))
noncomputable def dueE (a b : Bool) (r t : List Nat) : Bool := (!a || Nat.beq (headN t) (headN r)) && (!b || Nat.beq (lastN t) (lastN r))
noncomputable def endS (rs : List (List Nat)) (s : List Bool) (p : Nat × List Nat) : Option (List Bool) :=
 match Nat.ble 1 (rs.getD (p.1 % rs.length) []).length && Nat.ble (rs.getD (p.1 % rs.length) []).length 9 && Nat.ble 2 p.2.length && Nat.ble p.2.length 9 && Nat.ble s.length 9000 && (matchG (!(Nat.beq (p.1 % 2) 0)) (!(Nat.beq (p.1 % 3) 0)) (rs.getD (p.1 % rs.length) []) p.2 == dueE (Nat.beq (p.1 % 2) 0) (Nat.beq (p.1 % 3) 0) (rs.getD (p.1 % rs.length) []) p.2) with
 | true => some (s ++ [dueE (Nat.beq (p.1 % 2) 0) (Nat.beq (p.1 % 3) 0) (rs.getD (p.1 % rs.length) []) p.2])
 | false => none
noncomputable def frO (rows grown : CV) (said : List Bool) (tail : List (Str × Slot)) : CE := ⟨dEnds.scope, ("rows", .val rows) :: ("grown", .val grown) :: ("said", .bor (.list (sdC said))) :: tail⟩
noncomputable def o2 (k : Nat) (t : CV) (r : List (Str × Slot)) : List (Str × Slot) := ("count", .val (.int k)) :: ("text", .val t) :: r
noncomputable def o3 (k : Nat) (t row : CV) (r : List (Str × Slot)) : List (Str × Slot) := o2 k t (("row", .val row) :: r)
noncomputable def o4 (k : Nat) (t row : CV) (a : Bool) (r : List (Str × Slot)) : List (Str × Slot) := o3 k t row (("ahead", .val (.str (aS a))) :: r)
noncomputable def o5 (k : Nat) (t row : CV) (a b : Bool) (r : List (Str × Slot)) : List (Str × Slot) := o4 k t row a (("behind", .val (.str (aS b))) :: r)
section
variable {fn : Str -> Option FS} {X : Nat -> C10} {rs : List (List Nat)} {grown : CV} {said : List Bool} {k : Nat} {t r : List Nat} {a b : Bool} {F : FS}
set_option tactic.hygienic false
theorem ajL : bindT (forT (stA dEnds.body 0)) (.tup [.int (k : Int), tC X t]) (frO (.list (rs.map (tC X))) grown said []) = some (frO (.list (rs.map (tC X))) grown said (o2 k (tC X t) [])) := by ext
theorem modN (k m : Nat) : Int.fmod (k : Int) (m : Int) = ((k % m : Nat) : Int) := by
 rw [Int.fmod_eq_emod_of_nonneg _ (by omega)]
 norm_cast
theorem modC {k m : Nat} (h : 0 < m) : binC .Mod (.int (k : Int)) (.int (m : Int)) = some (.int ((k % m : Nat) : Int)) := by
 show (match decide ((m : Int) = 0) with | true => none | false => some (CV.int (Int.fmod (k : Int) (m : Int)))) = _
 rw [decide_eq_false (by omega), modN]
set_option tactic.hygienic true
theorem ald (hr : rs.getD (k % rs.length) [] = r) (h0 : r ≠ []) (hl : rs.length ≤ 80) : (sem (GF fn) 11).xs (stA eB 0) (frO (.list (rs.map (tC X))) grown said (o2 k (tC X t) [])) = some (.next, frO (.list (rs.map (tC X))) grown said (o3 k (tC X t) (tC X r) [])) := by
 have hp : 0 < rs.length := by
  cases rs with
  | nil => exact absurd hr.symm h0
  | cons _ _ => simp
 have hm : k % rs.length < rs.length := Nat.mod_lt _ hp
 have hlen := acB (xs := rs.map (tC X)) (by rw [List.length_map]; omega)
 rw [List.length_map] at hlen
 have hg : (rs.map (tC X))[k % rs.length]? = some (tC X r) := by
  rw [List.getElem?_map, <- hr, List.getD_eq_getElem?_getD, List.getElem?_eq_getElem hm]
  rfl
 exact aal (c := tC X r) (ρ1 := frO (.list (rs.map (tC X))) grown said (o2 k (tC X t) [])) (by ext) (by ext) (acn (a := .list (rs.map (tC X))) (b := .int (k % rs.length : Nat)) (aaq (a := .val (.list (rs.map (tC X)))) (b := .val (.int (k % rs.length : Nat))) (by ext)
  (aaD (x := .int k) (y := .int rs.length) (aaq (a := .val (.int k)) (b := .val (.int rs.length)) (by ext) (aaJ (c := .list (rs.map (tC X))) (by ext) (by ext) (by ext) (by ext) (by ext) hlen) rfl rfl) (modC hp)) rfl rfl) (abz hg (by rw [List.length_map]; omega))) (by ext) (by ext)
theorem ahT {row : CV} : (sem (GF fn) 11).xs (stA eB 1) (frO (.list (rs.map (tC X))) grown said (o3 k (tC X t) row [])) = some (.next, frO (.list (rs.map (tC X))) grown said (o4 k (tC X t) row (Nat.beq (k % 2) 0) [])) := by
 refine aal (c := .str (aS (Nat.beq (k % 2) 0))) (ρ1 := frO (.list (rs.map (tC X))) grown said (o3 k (tC X t) row [])) (by ext) (by ext) (aiJ (v := Nat.beq (k % 2) 0) ?_ ?_) (by ext) (by ext)
 · exact aaB (x := .int (k % 2 : Nat)) (y := .int 0) (by ext) (aaq (a := .val (.int (k % 2 : Nat))) (b := .val (.int 0)) (aaD (x := .int k) (y := .int 2) (by ext) (modC (m := 2) (by decide))) (by ext) rfl rfl) (congrArg some (beq0 _))
 · cases Nat.beq (k % 2) 0 <;> ext
theorem agB {row : CV} : (sem (GF fn) 11).xs (stA eB 2) (frO (.list (rs.map (tC X))) grown said (o4 k (tC X t) row a [])) = some (.next, frO (.list (rs.map (tC X))) grown said (o5 k (tC X t) row a (Nat.beq (k % 3) 0) [])) := by
 refine aal (c := .str (aS (Nat.beq (k % 3) 0))) (ρ1 := frO (.list (rs.map (tC X))) grown said (o4 k (tC X t) row a [])) (by ext) (by ext) (aiJ (v := Nat.beq (k % 3) 0) ?_ ?_) (by ext) (by ext)
 · exact aaB (x := .int (k % 3 : Nat)) (y := .int 0) (by ext) (aaq (a := .val (.int (k % 3 : Nat))) (b := .val (.int 0)) (aaD (x := .int k) (y := .int 3) (by ext) (modC (m := 3) (by decide))) (by ext) rfl rfl) (congrArg some (beq0 _))
 · cases Nat.beq (k % 3) 0 <;> ext
set_option tactic.hygienic false
theorem ale (a : Bool) : cmpC .NotEq (.str (aS a)) (.str (SS.of "")) = some (!a) := by cases a <;> ext
theorem agC (hX : XInj X) {c d : Nat} (hc : c < 12) (hd : d < 12) : cmpC .Eq (.str (X c).v) (.str (X d).v) = some (Nat.beq c d) := by
 show some ((X c).v.s == (X d).v.s) = _
 rw [hX.eq c d hc hd]
set_option tactic.hygienic true
theorem alf (hX : XInj X) (hr : r ≠ []) (ht : t ≠ []) (hrl : r.length ≤ 9) (htl : t.length ≤ 9) (hro : OkT r) (hto : OkT t) : (sem (GF fn) 11).xs (stA eB 3) (frO (.list (rs.map (tC X))) grown said (o5 k (tC X t) (tC X r) a b [])) = some (.next, frO (.list (rs.map (tC X))) grown said (o5 k (tC X t) (tC X r) a b [("due", .val (.bool (dueE a b r t)))])) := by
 refine aal (c := .bool (dueE a b r t)) (ρ1 := frO (.list (rs.map (tC X))) grown said (o5 k (tC X t) (tC X r) a b [])) (by ext) (by ext) (adK (op := .And) (x := !a || Nat.beq (headN t) (headN r)) (y := !b || Nat.beq (lastN t) (lastN r)) (adK (op := .Or) (x := !a) (y := Nat.beq (headN t) (headN r)) ?_ ?_) (adK (op := .Or) (x := !b) (y := Nat.beq (lastN t) (lastN r)) ?_ ?_)) (by ext) (by ext)
 · exact adg (x := .str (aS a)) (y := .str (SS.of "")) (by ext) (aaq (a := .val (.str (aS a))) (b := .val (.str (SS.of ""))) (by ext) (by ext) rfl rfl) (ale a)
 · exact adg (x := .str (X (headN t)).v) (y := .str (X (headN r)).v) (by ext) (aaq (a := .val (.str (X (headN t)).v)) (b := .val (.str (X (headN r)).v)) (abW (a := tC X t) (b := .int 0) (by ext) (aeO ht (by omega))) (abW (a := tC X r) (b := .int 0) (by ext) (aeO hr (by omega))) rfl rfl) (agC hX (hto _ (adN ht)) (hro _ (adN hr)))
 · exact adg (x := .str (aS b)) (y := .str (SS.of "")) (by ext) (aaq (a := .val (.str (aS b))) (b := .val (.str (SS.of ""))) (by ext) (by ext) rfl rfl) (ale b)
 · exact adg (x := .str (X (lastN t)).v) (y := .str (X (lastN r)).v) (by ext) (aaq (a := .val (.str (X (lastN t)).v)) (b := .val (.str (X (lastN r)).v)) (adB (a := tC X t) (b := .int (-1)) (by ext) (agA ht (by omega))) (adB (a := tC X r) (b := .int (-1)) (by ext) (agA hr (by omega))) rfl rfl) (agC hX (hto _ (afg ht)) (hro _ (afg hr)))
set_option tactic.hygienic false
theorem afh (m n : Nat) : ∀ l : List SS, (∀ x ∈ l, x.b ≤ m) -> joinB n l ≤ (m + n) * l.length
 | [], _ => Nat.zero_le _
 | x :: r, h => by
  have h1 := h x (.head _)
  have h2 := afh m n r (fun y hy => h y (.tail _ hy))
  show x.b + n + joinB n r ≤ (m + n) * (r.length + 1)
  rw [Nat.mul_succ]
  omega
theorem aeP (h : r.length ≤ 9) : (joinD (r.map fun c => (X c).v)).b ≤ 117 := by
 have h1 := afh 10 3 (r.map fun c => (X c).v) (fun x hx => by
  obtain ⟨c, _, rfl⟩ := List.mem_map.mp hx
  exact Nat.le_refl _)
 rw [List.length_map] at h1
 show joinB 3 _ ≤ _
 omega
theorem aS_b (a : Bool) : (aS a).b ≤ 3 := by cases a <;> decide
theorem ahU (h : r.length ≤ 9) : methC .join (.str (SS.of "...")) [tC X r] = some (.str (joinD (r.map fun c => (X c).v))) := by
 have h1 := aeP (X := X) h
 have e1 : (joinD (r.map fun c => (X c).v)).b = joinB (SS.of "...").b (r.map fun c => (X c).v) := rfl
 rw [e1] at h1
 have e2 : (r.map fun c => CV.str (X c).v) = (r.map fun c => (X c).v).map CV.str := by rw [List.map_map]; rfl
 show (match strsC (r.map fun c => CV.str (X c).v) with | some ss => joinC (SS.of "...") ss | none => none) = _
 rw [e2, acT]
 show joinC (SS.of "...") (r.map fun c => (X c).v) = _
 unfold joinC
 rw [Nat.ble_eq_true_of_le (by unfold LIM; omega), Nat.ble_eq_true_of_le (by rw [List.length_map]; unfold LIM; omega)]
 rfl
set_option tactic.hygienic true
theorem alg (hf : fn nAsk = some F) (hb : F.bor = some 2) {v : Bool} (hr : r.length ≤ 9) (ht : t.length ≤ 9) (hrun : F.run [.str (wntE X a b r), .str (jn X t), .list (sdC said)] [] = some (.bool v, .list (sdC (said ++ [v])))) :
 (sem (GF fn) 11).xs (stA eB 4) (frO (.list (rs.map (tC X))) grown said (o5 k (tC X t) (tC X r) a b [("due", .val (.bool v))])) = some (.next, frO (.list (rs.map (tC X))) grown (said ++ [v]) (o5 k (tC X t) (tC X r) a b [("due", .val (.bool v))])) := by
 have hB := aeP (X := X) hr
 have h1 : binC .Add (.str (aS a)) (.str (joinD (r.map fun c => (X c).v))) = some (.str ((aS a).app (joinD (r.map fun c => (X c).v)))) := addS (by have := aS_b a; unfold LIM; omega)
 have h2 : binC .Add (.str ((aS a).app (joinD (r.map fun c => (X c).v)))) (.str (aS b)) = some (.str (wntE X a b r)) := addS (by have := aS_b a; have := aS_b b; rw [aaL]; unfold LIM; omega)
 have hcall : (sem (GF fn) 10).it (ifT (stA eB 4)) (frO (.list (rs.map (tC X))) grown said (o5 k (tC X t) (tC X r) a b [("due", .val (.bool v))])) = some (false, frO (.list (rs.map (tC X))) grown (said ++ [v]) (o5 k (tC X t) (tC X r) a b [("due", .val (.bool v))])) := by
  refine aaB (x := .bool v) (y := .bool v) (by ext) (aga (a := .val (.bool v)) (b := .val (.bool v)) (ρ1 := frO (.list (rs.map (tC X))) grown (said ++ [v]) (o5 k (tC X t) (tC X r) a b [("due", .val (.bool v))])) (aaF (by ext) (by ext) (aag hf (by ext)) ?_) (by ext) rfl rfl) (by cases v <;> rfl)
  exact aaj (x := "said") (o := .list (sdC said)) (o' := .list (sdC (said ++ [v]))) (c := .bool v) (cs := [.str (wntE X a b r), .str (jn X t), .none]) (kvs := []) (avs := [.val (.str (wntE X a b r)), .val (.str (jn X t)), .ref "said"]) hb
   (aac (aaD (aaq (aaD (aaq (a := .val (.str (aS a))) (by ext) (aaU (ov := .val (.str (SS.of "..."))) (c0 := .str (SS.of "...")) (k := .join) (avs := [.val (tC X r)]) (cs := [tC X r]) (by ext) (by ext) (by ext) rfl (by ext) rfl (aac (by ext) aad) rfl (ahU hr)) rfl rfl) h1) (b := .val (.str (aS b))) (by ext) rfl rfl) h2)
    (aac (aaU (ov := .val (.str (SS.of ""))) (c0 := .str (SS.of "")) (k := .join) (avs := [.val (tC X t)]) (cs := [tC X t]) (by ext) (by ext) (by ext) rfl (by ext) rfl (aac (by ext) aad) rfl (abN (by omega))) (aac (by ext) aad))) (by ext) rfl rfl (by ext) hrun (by ext)
 exact aaz hcall (by ext)
theorem ends (hf : fn nAsk = some F) (hb : F.bor = some 2) (ha : AskE F X) (hX : XInj X) {ts : List (List Nat)} {said' : List Bool} (hro : ∀ r ∈ rs, OkT r) (hto : ∀ t ∈ ts, OkT t) (hrl : rs.length ≤ 80) (htl : ts.length ≤ 80) (h : foldO (endS rs) (enumN 0 ts) said = some said') :
 runDef (GF fn) 12 dEnds [.list (rs.map (tC X)), .list (gC X ts), .list (sdC said)] [] = some (.bool true, .list (sdC said')) := by
 have hbody : dEnds.body = [stA dEnds.body 0, stA dEnds.body 1] := by ext
 have heb : eB = [stA eB 0, stA eB 1, stA eB 2, stA eB 3, stA eB 4] := by ext
 have hl := abD (step := fun c ρ => match bindT (forT (stA dEnds.body 0)) c ρ with | some ρ => (sem (GF fn) 11).xssD (news (frO (.list (rs.map (tC X))) (.list (gC X ts)) said [])) eB ρ | none => none) (v := fun p : Nat × List Nat => .tup [.int (p.1 : Int), tC X p.2]) (fr := fun s => frO (.list (rs.map (tC X))) (.list (gC X ts)) s []) (enumN 0 ts) said said' (fun s p s2 hp hs => by
  obtain ⟨k, t⟩ := p
  have hto := hto t (adM hp)
  unfold endS at hs
  obtain ⟨hg, rfl⟩ := abi hs
  generalize hrow : rs.getD (k % rs.length) [] = r at hg
  simp only [Bool.and_eq_true, Nat.ble_eq, beq_iff_eq] at hg
  obtain ⟨⟨⟨⟨⟨g1, g2⟩, g3⟩, g4⟩, g5⟩, g6⟩ := hg
  have hr : r ≠ [] := fun e => by rw [e] at g1; simp at g1
  have ht : t ≠ [] := fun e => by rw [e] at g3; simp at g3
  have hok : OkT r := by
   rw [<- hrow, List.getD_eq_getElem?_getD]
   cases e : rs[k % rs.length]? with
   | none => exact fun x hx => by cases hx
   | some z => exact hro z (List.mem_of_getElem? e)
  have hrun := ha (Nat.beq (k % 2) 0) (Nat.beq (k % 3) 0) r t s hr g3 hok hto g2 g4 g5
  rw [g6] at hrun
  rw [ajL, heb]
  exact aau (aaa (ald hrow hr hrl) (aaa ahT (aaa agB (aaa (alf hX hr ht g2 g4 hok hto) (aaa (alg hf hb g2 g4 hrun) aae))))) (by ext)) h
 have s0 : (sem (GF fn) 12).xs (stA dEnds.body 0) (frO (.list (rs.map (tC X))) (.list (gC X ts)) said []) = some (.next, frO (.list (rs.map (tC X))) (.list (gC X ts)) said' []) := by
  refine aba (cs := (enumN 0 ts).map fun p : Nat × List Nat => .tup [.int (p.1 : Int), tC X p.2]) (ρ1 := frO (.list (rs.map (tC X))) (.list (gC X ts)) said []) ?_ hl
  rw [<- adL]
  exact act (cs := gC X ts) (by ext) (by ext) (by ext) (by unfold gC LIM; rw [List.length_map]; omega)
 have s1 : (sem (GF fn) 12).xs (stA dEnds.body 1) (frO (.list (rs.map (tC X))) (.list (gC X ts)) said' []) = some (.ret (.bool true), frO (.list (rs.map (tC X))) (.list (gC X ts)) said' []) := by ext
 refine aam (ρ := frO (.list (rs.map (tC X))) (.list (gC X ts)) said' []) (l := [("rows", .val (.list (rs.map (tC X)))), ("grown", .val (.list (gC X ts))), ("said", .bor (.list (sdC said)))]) (by ext) (by ext) ?_ rfl
 rw [hbody]
 exact aaa s0 (aat s1)
end
noncomputable def rk (c : Nat) : Nat := c % 3
noncomputable def keyR (t : List Nat) : List Nat := t.map rk
noncomputable def leN : List Nat -> List Nat -> Bool
 | [], _ => true
 | x :: r, b => match b with
  | [] => false
  | y :: t => match Nat.beq x y with
   | true => leN r t
   | false => Nat.ble x y
noncomputable def partsN (q bs : List Nat) : List (List Nat) := ((bs.zip (bs.drop 1 ++ [4])).map fun p => (q.take p.2).drop p.1)
noncomputable def rowN (k : Nat) (p : List Nat) : List Nat := p.map (3 * k + ·)
noncomputable def facN : List Nat := [1, 1, 2, 6, 24]
abbrev KS := Nat × Nat × List (List Nat) × Nat
noncomputable def partS (pa : List (List Nat)) (s : KS) (k : Nat) : Option KS := match (((List.range ((pa.getD k []).length - 1)).all fun i => !leN ((pa.getD k []).drop (i + 1)) (pa.getD k [])) && (Nat.beq k 0 || !ltN (pa.getD (k - 1) []) (pa.getD k []))) && (Nat.ble s.1 1000 && Nat.ble s.2.1 1000 && Nat.ble s.2.2.1.length 80 && Nat.ble k 3 && Nat.ble (pa.getD k []).length 4) with
 | true => some (s.1 * ((pa.take (k + 1)).filter fun x => beqL x (pa.getD k [])).length, s.2.1 / facN.getD (pa.getD k []).length 1, s.2.2.1 ++ [rowN k (pa.getD k [])], k)
 | false => none
noncomputable def rowsF (pa : List (List Nat)) : Option KS := foldO (partS pa) (List.range pa.length) (1, 24, [], 0)
noncomputable def tlL (ts : List (List Nat)) (x : List Nat) : Nat := bisG (fun m => !ltN (keyR (ts.getD m [])) (keyR x)) 100 0 ts.length
noncomputable def tlR (ts : List (List Nat)) (x : List Nat) : Nat := bisG (fun m => ltN (keyR x) (keyR (ts.getD m []))) 100 0 ts.length
abbrev SS4 := List (List Nat) × List (List Nat) × List (List Nat) × List Nat
noncomputable def shelfS (s : SS4) (p : Nat × List Nat) : Option SS4 := match Nat.ble s.1.length 80 && Nat.ble s.2.1.length 80 && Nat.ble s.2.2.1.length 80 && Nat.beq p.2.length 4 with
 | true => some (match Nat.beq (p.1 % 2) 1 with
  | true => (insG s.1 (tlL s.1 p.2) p.2, p.2 :: s.2.1, s.2.2.1, p.2)
  | false => (insG s.1 (tlR s.1 p.2) p.2, s.2.1, s.2.2.1 ++ [p.2], p.2))
 | false => none
noncomputable def ltNAt (ks : List (List Nat)) (i j : Nat) : Bool := ltN (ks.getD i []) (ks.getD j [])
noncomputable def sortN (ks : List (List Nat)) : Option (List Nat) := match Nat.ble 2 ks.length with
 | true => match runT ks.length (ltNAt ks) (PySem.W.kas_sort ks.length) with
  | some p => some p.toList
  | none => none
 | false => some (List.range ks.length)
noncomputable def beqLL : List (List Nat) -> List (List Nat) -> Bool
 | [], b => match b with
  | [] => true
  | _ :: _ => false
 | x :: r, b => match b with
  | [] => false
  | y :: t => beqL x y && beqLL r t
noncomputable def lowN (ts : List (List Nat)) (x : List Nat) : Nat := bisG (fun m => !ltN (keyR (ts.getD m [])) x) 100 0 ts.length
noncomputable def uptN (ts : List (List Nat)) (x : List Nat) : Nat := bisG (fun m => ltN x (keyR (ts.getD m []))) 100 0 ts.length
structure Out where
 bs : List Nat
 ks : KS
 gs : GS
 sd : List Bool
 sh : SS4
noncomputable def outF (q : List Nat) : Option Out := match begF q with
 | none => none
 | some bs => match rowsF (partsN q bs) with
  | none => none
  | some ks => match laidF ks.2.2.1 with
   | none => none
   | some gs => match foldO (endS ks.2.2.1) (enumN 0 gs.1) gs.2 with
    | none => none
    | some sd => match foldO shelfS (enumN 0 gs.1) ([], [], [], []) with
     | none => none
     | some sh => some ⟨bs, ks, gs, sd, sh⟩
noncomputable def okO (q : List Nat) (o : Out) : Bool := Nat.beq o.gs.1.length o.ks.2.1 && Nat.ble o.gs.1.length 24 && Nat.ble 1 o.gs.1.length && Nat.ble o.ks.2.2.1.length 4 && Nat.ble o.sd.length 9000 && Nat.ble o.bs.length 4 &&
 (match sortN ((o.sh.2.1 ++ o.sh.2.2.1).map keyR) with | some p => (p.all fun i => Nat.blt i (o.sh.2.1 ++ o.sh.2.2.1).length) && beqLL o.sh.1 (p.map fun i => (o.sh.2.1 ++ o.sh.2.2.1).getD i []) | none => false) &&
 Nat.beq (uptN o.sh.1 q) o.ks.2.1 && Nat.beq (lowN o.sh.1 q + o.ks.1) o.ks.2.1 && (o.gs.1.all fun t => Nat.beq t.length 4) && (o.ks.2.2.1.all fun r => (Nat.ble 1 r.length && Nat.ble r.length 8) && r.all fun c => Nat.blt c 12) && Nat.ble 1 o.ks.2.2.1.length && Nat.ble (o.sh.2.1 ++ o.sh.2.2.1).length 63 && Nat.ble o.sh.1.length 80
noncomputable def chkF (q : List Nat) : Bool := match outF q with
 | some o => okO q o
 | none => false
noncomputable def allQ : List (List Nat) := [0, 1, 2].flatMap fun a => [0, 1, 2].flatMap fun b => [0, 1, 2].flatMap fun c => [0, 1, 2].map fun d => [a, b, c, d]
set_option tactic.hygienic false
set_option maxHeartbeats 0 in
theorem ajM : allQ.all chkF = true := by ext
section
variable {G : GE} {n : Nat} {ρ ρ1 ρ2 ρ3 ρ4 : CE}
set_option tactic.hygienic true
theorem agD {d : Str} {i e : Expr} {dp ip pos : Pos} {op : Operator} {kv a b c : CV} {o o' : CO} (hn : (nameOk d && notSlice i) = true) (h0 : ownAt ρ d = some o) (h1 : (sem G n).ev i ρ = some (.val kv, ρ)) (h2 : subC o.cv kv = some a) (h3 : (sem G n).ev e ρ = some (.val b, ρ)) (h4 : augC op a b = some c) (h5 : setC o kv c = some o') (he : ρ.set d (reown (ρ.get d) o') = ρ1) :
 (sem G (n + 1)).xs (.AugAssign (.Subscript (.Name d dp) i ip) op e pos) ρ = some (.next, ρ1) := by
 rw [aaI]
 dsimp only [stepS]
 unfold xsStep
 dsimp only [l1, l2, eName, eAttr, eSub, eTup, eCall, eSlice, List.isEmpty, asgN, asgP, augN, augS, delS]
 rw [hn, h0]
 dsimp only
 rw [h1]
 dsimp only
 rw [h0]
 dsimp only
 rw [h2]
 dsimp only
 rw [h3]
 dsimp only
 rw [h4]
 dsimp only
 rw [h0]
 dsimp only
 rw [h5]
 dsimp only
 rw [he]
set_option tactic.hygienic false
theorem abG {S : SM} {elt : Expr} {g : Comprehension} {sc : Scope} {l0 l : List (Str × Slot)} {its acc : List CV} (h0 : (scOk sc && !lamS sc && g.is_async == 0) = true) (ht0 : taken ρ sc.names = some l0) (hi : S.items G false g.target g.iter ρ = some (its, ρ1)) (ht : taken ρ1 sc.names = some l)
 (ha : accL (compL S elt g) its ⟨sc, l⟩ [] = some (acc, ρ2)) : S.comp G elt [g] sc ρ = some (acc, ρ1) := by
 unfold SM.comp
 dsimp only [l1]
 rw [h0]; dsimp only; rw [ht0]; dsimp only; rw [hi]; dsimp only; rw [ht]; dsimp only; rw [ha]
theorem aa3 {S : SM} {elt : Expr} {g : Comprehension} {c v : CV} {acc : List CV} (hb : bindT g.target c ρ = some ρ1) (hi : ifsL S g.ifs ρ1 = some (true, ρ2)) (he : S.ev elt ρ2 = some (.val v, ρ3)) (hl : acc.length ≤ LIM) : compL S elt g c ρ acc = some (acc ++ [v], ρ3) := by
 unfold compL
 rw [hb]; dsimp only; rw [hi]; dsimp only; rw [he]; dsimp only; rw [Nat.ble_eq_true_of_le hl]
theorem acu {S : SM} {elt : Expr} {g : Comprehension} {c : CV} {acc : List CV} (hb : bindT g.target c ρ = some ρ1) (hi : ifsL S g.ifs ρ1 = some (false, ρ2)) : compL S elt g c ρ acc = some (acc, ρ2) := by
 unfold compL
 rw [hb]; dsimp only; rw [hi]
theorem amD {S : SM} : ifsL S [] ρ = some (true, ρ) := rfl
theorem afi {S : SM} {e : Expr} {t : Bool} (h : S.it e ρ = some (t, ρ1)) : ifsL S [e] ρ = some (t, ρ1) := by
 rw [aiw, h]
 cases t <;> rfl
set_option tactic.hygienic true
theorem afj {x : Str} {p cp pos : Pos} {elt : Expr} {gens : List Comprehension} {sc : Scope} {cs : List CV} (h : (sem G n).comp G elt gens sc ρ = some (cs, ρ1)) (hc : canSet ρ1 x = true) (ho : (G.owns x && isL (ρ1.kind x)) = false) (he : ρ1.set x (.val (.list cs)) = ρ2) :
 (sem G (n + 1)).xs (.Assign [.Name x p] (.ListComp elt gens sc cp) pos) ρ = some (.next, ρ2) := by
 refine agb (k := .comp elt gens sc) (o := .list cs) rfl rfl ?_ hc ho he
 unfold SM.make
 dsimp only
 rw [h]
set_option tactic.hygienic false
theorem abP {cp : Pos} {elt : Expr} {gens : List Comprehension} {sc : Scope} {cs : List CV} (h : (sem G n).comp G elt gens sc ρ = some (cs, ρ1)) : (sem G (n + 1)).ev (.ListComp elt gens sc cp) ρ = some (.val (.list cs), ρ1) := by
 rw [aaI]
 dsimp only [stepS]
 unfold evStep
 dsimp only [mkOf]
 unfold SM.make
 dsimp only
 rw [h]
 rfl
end
set_option tactic.hygienic false
theorem abo {α : Type} {step : CV -> CE -> List CV -> Option (List CV × CE)} {v : α -> CV} {w : α -> Option CV} {fr : Option α -> CE} : ∀ (l : List α) (o : Option α) (acc : List CV), (∀ o a acc, a ∈ l -> acc.length ≤ LIM -> step (v a) (fr o) acc = some (acc ++ (w a).toList, fr (some a))) -> acc.length + l.length ≤ LIM -> ∃ o', accL step (l.map v) (fr o) acc = some (acc ++ l.filterMap w, fr o')
 | [], o, acc, _, _ => ⟨o, by simp [accL]⟩
 | a :: r, o, acc, h, hl => by
  simp only [List.length_cons] at hl
  have hw : (w a).toList.length ≤ 1 := by cases w a <;> simp
  obtain ⟨o', h'⟩ := abo r (some a) (acc ++ (w a).toList) (fun o b acc hb => h o b acc (.tail _ hb)) (by rw [List.length_append]; omega)
  refine ⟨o', ?_⟩
  show accL step (v a :: r.map v) (fr o) acc = _
  rw [akL, h o a acc (.head _) (by omega)]
  refine h'.trans ?_
  rw [List.append_assoc, List.filterMap_cons]
  cases w a <;> rfl
theorem pick {p : List Nat} {m : Nat} (hn : p.Nodup) (hm : m < p.length) : ∃ x, p[m]? = some x ∧ x ∈ p ∧ (p.eraseIdx m).Nodup ∧ x ∉ p.eraseIdx m ∧ (∀ y ∈ p.eraseIdx m, y ∈ p) ∧ (p.eraseIdx m).length = p.length - 1 := by
 refine ⟨p[m], List.getElem?_eq_getElem hm, List.getElem_mem hm, hn.sublist (List.eraseIdx_sublist _ _), ?_, fun y hy => (List.eraseIdx_sublist _ _).subset hy, List.length_eraseIdx_of_lt hm⟩
 intro h
 obtain ⟨i, hi, hne, he⟩ := List.mem_eraseIdx_iff_getElem.mp h
 exact hne ((List.getElem_inj hn).mp he)
noncomputable def cmE : Stmt -> Expr | .Assign _ e _ => e | _ => default
noncomputable def cmSc : Expr -> Scope | .ListComp _ _ sc _ => sc | _ => ⟨.module, [], false, false, []⟩
noncomputable def cmElt : Expr -> Expr | .ListComp e _ _ _ => e | _ => default
noncomputable def cmG : Expr -> Comprehension | .ListComp _ (g :: _) _ _ => g | _ => ⟨default, default, [], 0⟩
noncomputable def dLaw : DD := ddG "law" none
noncomputable def V0 (cs : List CV) (vs : List (Str × Slot)) : CE := ⟨dLaw.scope, ("script", .val (.list cs)) :: vs⟩
noncomputable def lawS (i : Nat) : Stmt := stA dLaw.body i
noncomputable def w1 (a b : Int) (t : List (Str × Slot)) : List (Str × Slot) := ("cells", .own (.list [.int a, .int b])) :: t
noncomputable def pn (i : Int) (x : Int) : List (Str × Slot) := [("place", .val (.int i)), ("number", .val (.int x))]
section
variable {fn : Str -> Option FS} {cs : List CV} {a b : Int}
set_option tactic.hygienic false
theorem am3 : dLaw.body.length = 36 := by ext
set_option tactic.hygienic true
theorem am4 : (sem (GF fn) 20).xs (lawS 0) (V0 cs []) = some (.next, V0 cs (w1 44405 4242 [])) := by ext
set_option tactic.hygienic false
theorem alh {i : Nat} {x : Int} : bindT (forT (lawS 1)) (.tup [.int i, .int x]) (V0 cs (w1 a b [])) = some (V0 cs (w1 a b (pn i x))) := by ext
set_option tactic.hygienic true
theorem ali {i : Nat} {x : Int} : ∃ a' b', (sem (GF fn) 19).xss (forB (lawS 1)) (V0 cs (w1 a b (pn i x))) = some (.next, V0 cs (w1 a' b' (pn i x))) := by
 have hbody : forB (lawS 1) = [stA (forB (lawS 1)) 0] := by ext
 obtain ⟨m, hm, he⟩ := abc (w := i) (k := 2) (by decide)
 have hi : (sem (GF fn) 18).ev (.BinOp (.Name "place" default) .Mod (.Constant (.int 2) 0 default) default) (V0 cs (w1 a b (pn i x))) = some (.val (.int (Int.fmod i 2)), V0 cs (w1 a b (pn i x))) := by ext
 rw [hbody]
 match m, hm with
 | 0, _ =>
  refine ⟨a + Int.fmod x 1000000, b, aaa (agD (o := .list [.int a, .int b]) (kv := .int 0) (a := .int a) (b := .int (Int.fmod x 1000000)) (c := .int (a + Int.fmod x 1000000)) (o' := .list [.int (a + Int.fmod x 1000000), .int b]) (by ext) (by ext) (aaD (x := .int i) (y := .int 2) (by ext) (by show some (CV.int (Int.fmod i 2)) = _; rw [show Int.fmod (i : Int) 2 = 0 from he])) (by ext) (by ext) (by ext) (by ext) (by ext)) aae⟩
 | 1, _ =>
  refine ⟨a, b + Int.fmod x 1000000, aaa (agD (o := .list [.int a, .int b]) (kv := .int 1) (a := .int b) (b := .int (Int.fmod x 1000000)) (c := .int (b + Int.fmod x 1000000)) (o' := .list [.int a, .int (b + Int.fmod x 1000000)]) (by ext) (by ext) (aaD (x := .int i) (y := .int 2) (by ext) (by show some (CV.int (Int.fmod i 2)) = _; rw [show Int.fmod (i : Int) 2 = 1 from he])) (by ext) (by ext) (by ext) (by ext) (by ext)) aae⟩
theorem alj {a0 b0 : Int} : ∀ (xs : List Int) (j : Nat) (a b : Int), ∃ a' b',
 loopL (fun c ρ => match bindT (forT (lawS 1)) c ρ with | some ρ => (sem (GF fn) 19).xssD (news (V0 cs (w1 a0 b0 []))) (forB (lawS 1)) ρ | none => none) (enumC j (xs.map .int)) (V0 cs (w1 a b [])) = some (.next, V0 cs (w1 a' b' [])) := by
 intro xs
 induction xs with
 | nil => intro j a b; exact ⟨a, b, rfl⟩
 | cons x r ih =>
  intro j a b
  obtain ⟨a1, b1, h1⟩ := ali (fn := fn) (cs := cs) (a := a) (b := b) (i := j) (x := x)
  obtain ⟨a', b', h2⟩ := ih (j + 1) a1 b1
  refine ⟨a', b', ?_⟩
  show loopL _ (.tup [.int j, .int x] :: enumC (j + 1) (r.map .int)) _ = _
  rw [abU, alh]
  dsimp only
  rw [aau (d := news (V0 cs (w1 a0 b0 []))) (ρ2 := V0 cs (w1 a1 b1 [])) h1 (by ext)]
  exact h2
theorem am5 {xs : List Int} (hl : xs.length ≤ 63) : ∃ a b, (sem (GF fn) 20).xs (lawS 1) (V0 (xs.map .int) (w1 44405 4242 [])) = some (.next, V0 (xs.map .int) (w1 a b [])) := by
 obtain ⟨a, b, h⟩ := alj (fn := fn) (cs := xs.map .int) (a0 := 44405) (b0 := 4242) xs 0 44405 4242
 exact ⟨a, b, aba (act (ρ1 := V0 (xs.map .int) (w1 44405 4242 [])) (cs := xs.map .int) (by ext) (by ext) (by ext) (by rw [List.length_map]; unfold LIM; omega)) h⟩
end
noncomputable def opsV : CV := .list (opsL.map fun s => .str (SS.pad s))
noncomputable def poolN : List Nat := [0, 1, 2, 3, 4, 5, 6, 7, 8, 9, 10, 11, 12, 13, 14, 15, 17, 18, 19, 20, 21, 22, 23, 24, 25, 26, 27, 28, 29, 30, 31, 32, 33, 34, 35, 36, 37, 38, 39, 40, 41, 42, 43, 44, 46, 47]
noncomputable def A2 (cs : List CV) (a b : Int) (r : List (Str × Slot)) : CE := V0 cs (("cells", .own (.list [.int a, .int b])) :: ("operators", .val opsV) :: r)
noncomputable def A3 (cs : List CV) (a b : Int) (p : List Nat) (r : List (Str × Slot)) : CE := A2 cs a b (("pool", .own (.list (inN p))) :: r)
noncomputable def A5 (cs : List CV) (a b : Int) (p : List Nat) (q : Int) (d : List Nat) (r : List (Str × Slot)) : CE := A3 cs a b p (("rest", .val (.int q)) :: ("drawn", .own (.list (inN d))) :: r)
noncomputable def A8 (cs : List CV) (a b : Int) (p : List Nat) (q : Int) (d w : List Nat) (r : List (Str × Slot)) : CE := A5 cs a b p q d (("word", .own (.list (inN w))) :: r)
noncomputable def szT (k : Int) : List (Str × Slot) := [("size", .val (.int k))]
set_option tactic.hygienic false
theorem popC {l : List CV} {m : Nat} {c : CV} (h : l[m]? = some c) (hl : l.length ≤ 1000) : mutC .pop (.list l) [.int (m : Int)] = some (c, .list (l.eraseIdx m)) := by
 have hlt : m < l.length := by
  rcases Nat.lt_or_ge m l.length with q | q
  · exact q
  · rw [List.getElem?_eq_none q] at h; cases h
 have e : seqIndex? (m : Int) l.length = some m := by
  unfold seqIndex?
  simp
  omega
 have e2 : Nat.ble l.length LIM = true := Nat.ble_eq_true_of_le (by unfold LIM; omega)
 unfold mutC
 dsimp only [l1, l2, cvInt]
 rw [e]; dsimp only; rw [h]; dsimp only; rw [e2]
theorem aiK {l : List Nat} {m x : Nat} (h : l[m]? = some x) : (inN l)[m]? = some (.int (x : Int)) := by
 unfold inN; rw [List.getElem?_map, h]; rfl
theorem afk : ∀ {l : List Nat} {m : Nat}, (inN l).eraseIdx m = inN (l.eraseIdx m)
 | [], m => by cases m <;> rfl
 | x :: r, 0 => rfl
 | x :: r, m + 1 => by
  show .int (x : Int) :: (inN r).eraseIdx m = .int (x : Int) :: inN (r.eraseIdx m)
  rw [afk]
set_option tactic.hygienic true
theorem aa6 {step : CV -> CE -> Option (FC × CE)} {c : CV} {r : List CV} {ρ ρ1 : CE} {q : Option (FC × CE)} (h : step c ρ = some (.next, ρ1)) (k : loopL step r ρ1 = q) : loopL step (c :: r) ρ = q := by
 rw [abU, h]
 exact k
section
variable {fn : Str -> Option FS} {cs : List CV} {a b q k : Int} {p d w : List Nat}
set_option tactic.hygienic true
theorem am6 {F : FS} (hf : fn nOps = some F) (hb : F.bor = none) (hr : F.run [] [] = some (opsV, .list [])) : (sem (GF fn) 20).xs (lawS 2) (V0 cs (w1 a b [])) = some (.next, A2 cs a b []) :=
 aal (ρ1 := V0 cs (w1 a b [])) (aaT (aag hf (by ext))) (by ext) (aaF (by ext) (by ext) (aag hf (by ext)) (aan (kvs := []) (cs := []) (avs := []) hb aad (by ext) rfl hr)) (by ext) (by ext)
theorem am7 : (sem (GF fn) 20).xs (lawS 3) (A2 cs a b []) = some (.next, A3 cs a b poolN []) := by ext
set_option tactic.hygienic false
theorem alk {rest : List Stmt} {z : Option (FC × CE)} (h : (sem (GF fn) 20).xss rest (A5 cs a b p a [] []) = z) : (sem (GF fn) 20).xss (lawS 4 :: lawS 5 :: rest) (A3 cs a b p []) = z :=
 aaa (ρ1 := A3 cs a b p [("rest", .val (.int a))]) (by ext) (aaa (ρ1 := A5 cs a b p a [] []) (by ext) h)
theorem modI {m : Nat} (hm : Int.fmod q k = m) (hk : 0 < k) : binC .Mod (.int q) (.int k) = some (.int (m : Int)) := by
 show (match decide (k = 0) with | true => none | false => some (CV.int (Int.fmod q k))) = _
 rw [decide_eq_false (by omega), hm]
theorem divI (hk : 0 < k) (hk' : k ≤ 1000) : augC .FloorDiv (.int q) (.int k) = some (.int (Int.fdiv q k)) := by
 show (match decide (k = 0) || !small k with | true => none | false => some (CV.int (Int.fdiv q k))) = _
 have : small k = true := by unfold small; rw [decide_eq_true (by omega), decide_eq_true (by omega)]; rfl
 rw [decide_eq_false (by omega), this]; rfl
set_option tactic.hygienic true
theorem agE {a0 b0 q0 : Int} {p0 : List Nat} {m x : Nat} (hm : Int.fmod q k = m) (hk : 0 < k ∧ k ≤ 1000) (hx : p[m]? = some x) (hp : p.length ≤ 900) (hd : d.length ≤ 900) :
 (match bindT (forT (lawS 6)) (.int k) (A5 cs a b p q d []) with | some ρ => (sem (GF fn) 19).xssD (news (A5 cs a0 b0 p0 q0 [] [])) (forB (lawS 6)) ρ | none => none) = some (.next, A5 cs a b (p.eraseIdx m) (Int.fdiv q k) (d ++ [x]) []) := by
 have hbody : forB (lawS 6) = [stA (forB (lawS 6)) 0, stA (forB (lawS 6)) 1] := by ext
 have hbind : bindT (forT (lawS 6)) (.int k) (A5 cs a b p q d []) = some (A5 cs a b p q d (szT k)) := by ext
 have hpl : (inN p).length ≤ 1000 := by rw [abZ]; omega
 have hdl : (inN d).length ≤ LIM := by rw [abZ]; unfold LIM; omega
 have pop := popC (aiK hx) hpl
 rw [afk] at pop
 have app := appC (c := .int (x : Int)) hdl
 rw [acI] at app
 rw [hbind, hbody]
 refine aau (ρ1 := A5 cs a b (p.eraseIdx m) (Int.fdiv q k) (d ++ [x]) (szT k)) (aaa (ρ1 := A5 cs a b (p.eraseIdx m) q (d ++ [x]) (szT k)) (aaV (by ext) (ajc (x := "drawn") (c0 := .list (inN d)) (k := .append) (avs := [.val (.int x)]) (cs := [.int x]) (ob := .list (inN d)) (ob' := .list (inN (d ++ [x]))) (ρ1 := A5 cs a b p q d (szT k)) (ρ2 := A5 cs a b (p.eraseIdx m) q d (szT k)) (ρ3 := A5 cs a b (p.eraseIdx m) q d (szT k)) (by ext) (by ext) (by ext) (by ext) (by ext) rfl
  (abl (ρ1 := A5 cs a b (p.eraseIdx m) q d (szT k)) (abw (x := "pool") (c0 := .list (inN p)) (k := .pop) (avs := [.val (.int m)]) (cs := [.int m]) (ob := .list (inN p)) (ob' := .list (inN (p.eraseIdx m))) (by ext) (by ext) (by ext) (by ext) (by ext) rfl (aac (aaD (x := .int q) (y := .int k) (by ext) (modI hm hk.1)) aad) rfl (by ext) pop (by ext)) aad) rfl (by ext) app (by ext))) (aaa (acx (a := .int q) (b := .int k) (c := .int (Int.fdiv q k)) (by ext) (by ext) (by ext) (divI hk.1 hk.2) (by ext) (by ext)) aae)) (by ext)
theorem am8 : ∃ x0 x1 x2 p' q', (x0 ≠ x1 ∧ x0 ≠ x2 ∧ x1 ≠ x2) ∧ (x0 ∈ poolN ∧ x1 ∈ poolN ∧ x2 ∈ poolN) ∧ (sem (GF fn) 20).xs (lawS 6) (A5 cs a b poolN q [] []) = some (.next, A5 cs a b p' q' [x0, x1, x2] []) := by
 have hn : poolN.Nodup := by decide
 obtain ⟨m0, l0, e0⟩ := abc (w := q) (k := 46) (by decide)
 obtain ⟨x0, g0, i0, n0, z0, s0, c0⟩ := pick hn (m := m0) l0
 have L0 : (poolN.eraseIdx m0).length = 45 := c0
 obtain ⟨m1, l1, e1⟩ := abc (w := Int.fdiv q 46) (k := 45) (by decide)
 obtain ⟨x1, g1, i1, n1, z1, s1, c1⟩ := pick n0 (m := m1) (by omega)
 obtain ⟨m2, l2, e2⟩ := abc (w := Int.fdiv (Int.fdiv q 46) 45) (k := 44) (by decide)
 obtain ⟨x2, g2, i2, n2, z2, s2, c2⟩ := pick n1 (m := m2) (by omega)
 have t0 := agE (fn := fn) (cs := cs) (a := a) (b := b) (a0 := a) (b0 := b) (q0 := q) (p0 := poolN) (d := []) e0 (by decide) g0 (by decide) (by decide)
 have t1 := agE (fn := fn) (cs := cs) (a := a) (b := b) (a0 := a) (b0 := b) (q0 := q) (p0 := poolN) (d := [x0]) e1 (by decide) g1 (by omega) (by show 1 ≤ 900; decide)
 have t2 := agE (fn := fn) (cs := cs) (a := a) (b := b) (a0 := a) (b0 := b) (q0 := q) (p0 := poolN) (d := [x0, x1]) e2 (by decide) g2 (by omega) (by show 2 ≤ 900; decide)
 have hit : (sem (GF fn) 19).items (GF fn) true (forT (lawS 6)) (forI (lawS 6)) (A5 cs a b poolN q [] []) = some ([.int 46, .int 45, .int 44], A5 cs a b poolN q [] []) := by ext
 refine ⟨x0, x1, x2, ((poolN.eraseIdx m0).eraseIdx m1).eraseIdx m2, Int.fdiv (Int.fdiv (Int.fdiv q 46) 45) 44, ⟨fun e => z0 (e ▸ i1), fun e => z0 (e ▸ s1 _ i2), fun e => z1 (e ▸ i2)⟩, ⟨i0, s0 _ i1, s0 _ (s1 _ i2)⟩, aba hit (aa6 t0 (aa6 t1 (aa6 t2 rfl)))⟩
set_option tactic.hygienic false
theorem alm {rest : List Stmt} {z : Option (FC × CE)} (h : (sem (GF fn) 20).xss rest (A8 cs a b p b d [] []) = z) : (sem (GF fn) 20).xss (lawS 7 :: lawS 8 :: rest) (A5 cs a b p q d []) = z :=
 aaa (ρ1 := A5 cs a b p b d []) (by ext) (aaa (ρ1 := A8 cs a b p b d [] []) (by ext) h)
set_option tactic.hygienic true
theorem afl {q0 : Int} {m x : Nat} (hm : Int.fmod q 3 = m) (hx : d[m]? = some x) (hd : d.length ≤ 900) (hw : w.length ≤ 900) :
 (match bindT (forT (lawS 9)) (.int 3) (A8 cs a b p q d w []) with | some ρ => (sem (GF fn) 19).xssD (news (A8 cs a b p q0 d [] [])) (forB (lawS 9)) ρ | none => none) = some (.next, A8 cs a b p (Int.fdiv q 3) d (w ++ [x]) []) := by
 have hbody : forB (lawS 9) = [stA (forB (lawS 9)) 0, stA (forB (lawS 9)) 1] := by ext
 have hbind : bindT (forT (lawS 9)) (.int 3) (A8 cs a b p q d w []) = some (A8 cs a b p q d w (szT 3)) := by ext
 have hdl : (inN d).length ≤ 1000 := by rw [abZ]; omega
 have hwl : (inN w).length ≤ LIM := by rw [abZ]; unfold LIM; omega
 have app := appC (c := .int (x : Int)) hwl
 rw [acI] at app
 rw [hbind, hbody]
 refine aau (ρ1 := A8 cs a b p (Int.fdiv q 3) d (w ++ [x]) (szT 3)) (aaa (ρ1 := A8 cs a b p q d (w ++ [x]) (szT 3)) (aaV (by ext) (abw (x := "word") (c0 := .list (inN w)) (k := .append) (avs := [.val (.int x)]) (cs := [.int x]) (ob := .list (inN w)) (ob' := .list (inN (w ++ [x]))) (by ext) (by ext) (by ext) (by ext) (by ext) rfl
  (aac (acn (a := .list (inN d)) (b := .int m) (aaq (a := .ref "drawn") (b := .val (.int m)) (by ext) (aaD (x := .int q) (y := .int 3) (by ext) (modI hm (by decide))) rfl rfl) (abz (aiK hx) hdl)) aad) rfl (by ext) app (by ext))) (aaa (acx (a := .int q) (b := .int 3) (c := .int (Int.fdiv q 3)) (by ext) (by ext) (by ext) (divI (by decide) (by decide)) (by ext) (by ext)) aae)) (by ext)
theorem am9 {x0 x1 x2 : Nat} : ∃ y0 y1 y2 y3 q', (y0 ∈ [x0, x1, x2] ∧ y1 ∈ [x0, x1, x2] ∧ y2 ∈ [x0, x1, x2] ∧ y3 ∈ [x0, x1, x2]) ∧ (sem (GF fn) 20).xs (lawS 9) (A8 cs a b p q [x0, x1, x2] [] []) = some (.next, A8 cs a b p q' [x0, x1, x2] [y0, y1, y2, y3] []) := by
 have get : ∀ m, m < 3 -> ∃ y, [x0, x1, x2][m]? = some y ∧ y ∈ [x0, x1, x2] := fun m h => ⟨[x0, x1, x2][m], List.getElem?_eq_getElem h, List.getElem_mem _⟩
 obtain ⟨m0, l0, e0⟩ := abc (w := q) (k := 3) (by decide)
 obtain ⟨m1, l1, e1⟩ := abc (w := Int.fdiv q 3) (k := 3) (by decide)
 obtain ⟨m2, l2, e2⟩ := abc (w := Int.fdiv (Int.fdiv q 3) 3) (k := 3) (by decide)
 obtain ⟨m3, l3, e3⟩ := abc (w := Int.fdiv (Int.fdiv (Int.fdiv q 3) 3) 3) (k := 3) (by decide)
 obtain ⟨y0, g0, i0⟩ := get m0 l0
 obtain ⟨y1, g1, i1⟩ := get m1 l1
 obtain ⟨y2, g2, i2⟩ := get m2 l2
 obtain ⟨y3, g3, i3⟩ := get m3 l3
 have hd : [x0, x1, x2].length ≤ 900 := by show 3 ≤ 900; decide
 have t0 := afl (fn := fn) (cs := cs) (a := a) (b := b) (p := p) (q0 := q) (w := []) e0 g0 hd (by decide)
 have t1 := afl (fn := fn) (cs := cs) (a := a) (b := b) (p := p) (q0 := q) (w := [y0]) e1 g1 hd (by show 1 ≤ 900; decide)
 have t2 := afl (fn := fn) (cs := cs) (a := a) (b := b) (p := p) (q0 := q) (w := [y0, y1]) e2 g2 hd (by show 2 ≤ 900; decide)
 have t3 := afl (fn := fn) (cs := cs) (a := a) (b := b) (p := p) (q0 := q) (w := [y0, y1, y2]) e3 g3 hd (by show 3 ≤ 900; decide)
 have hit : (sem (GF fn) 19).items (GF fn) true (forT (lawS 9)) (forI (lawS 9)) (A8 cs a b p q [x0, x1, x2] [] []) = some ([.int 3, .int 3, .int 3, .int 3], A8 cs a b p q [x0, x1, x2] [] []) := by ext
 exact ⟨y0, y1, y2, y3, Int.fdiv (Int.fdiv (Int.fdiv (Int.fdiv q 3) 3) 3) 3, ⟨i0, i1, i2, i3⟩, aba hit (aa6 t0 (aa6 t1 (aa6 t2 (aa6 t3 rfl))))⟩
end
set_option tactic.hygienic false
theorem ana {x0 x1 x2 : Nat} (h : x0 ≠ x1 ∧ x0 ≠ x2 ∧ x1 ≠ x2) (P : Nat -> Prop) (hp : P x0 ∧ P x1 ∧ P x2) : ∃ f0 f1 f2 : Nat, (f0 < f1 ∧ f1 < f2) ∧ (P f0 ∧ P f1 ∧ P f2) ∧ (∀ x ∈ [x0, x1, x2], x = f0 ∨ x = f1 ∨ x = f2) := by
 obtain ⟨h1, h2, h3⟩ := h
 obtain ⟨p0, p1, p2⟩ := hp
 have key : ∀ a b c : Nat, a < b -> b < c -> P a -> P b -> P c -> (∀ x ∈ [x0, x1, x2], x = a ∨ x = b ∨ x = c) -> ∃ f0 f1 f2 : Nat, (f0 < f1 ∧ f1 < f2) ∧ (P f0 ∧ P f1 ∧ P f2) ∧ (∀ x ∈ [x0, x1, x2], x = f0 ∨ x = f1 ∨ x = f2) := fun a b c ha hb pa pb pc hx => ⟨a, b, c, ⟨ha, hb⟩, ⟨pa, pb, pc⟩, hx⟩
 have mem : ∀ {a b c : Nat}, (x0 = a ∨ x0 = b ∨ x0 = c) -> (x1 = a ∨ x1 = b ∨ x1 = c) -> (x2 = a ∨ x2 = b ∨ x2 = c) -> ∀ x ∈ [x0, x1, x2], x = a ∨ x = b ∨ x = c := fun a b c x hx => by
  simp only [List.mem_cons, List.not_mem_nil, or_false] at hx
  rcases hx with rfl | rfl | rfl <;> assumption
 rcases Nat.lt_or_gt_of_ne h1 with q1 | q1
 · rcases Nat.lt_or_gt_of_ne h3 with q3 | q3
   · exact key x0 x1 x2 q1 q3 p0 p1 p2 (mem (.inl rfl) (.inr (.inl rfl)) (.inr (.inr rfl)))
   · rcases Nat.lt_or_gt_of_ne h2 with q2 | q2
     · exact key x0 x2 x1 q2 q3 p0 p2 p1 (mem (.inl rfl) (.inr (.inr rfl)) (.inr (.inl rfl)))
     · exact key x2 x0 x1 q2 q1 p2 p0 p1 (mem (.inr (.inl rfl)) (.inr (.inr rfl)) (.inl rfl))
 · rcases Nat.lt_or_gt_of_ne h2 with q2 | q2
   · exact key x1 x0 x2 q1 q2 p1 p0 p2 (mem (.inr (.inl rfl)) (.inl rfl) (.inr (.inr rfl)))
   · rcases Nat.lt_or_gt_of_ne h3 with q3 | q3
     · exact key x1 x2 x0 q3 q2 p1 p2 p0 (mem (.inr (.inr rfl)) (.inl rfl) (.inr (.inl rfl)))
     · exact key x2 x1 x0 q3 q1 p2 p1 p0 (mem (.inr (.inr rfl)) (.inr (.inl rfl)) (.inl rfl))
noncomputable def sgn (m : Nat) (o : Str) (h : o.length ≤ 8) : SS := ((chS m).app (so o h)).app (chS m)
theorem ajN {s : Nat} (h : s ∈ poolN) : ∃ o hh, (opsL.map fun s => CV.str (SS.pad s))[s]? = some (.str (so o hh)) ∧ opsL[s]? = some o := by
 have key : ∀ o : Str, o.length ≤ 8 -> ∃ hh, SS.pad o = so o hh := fun o ho => ⟨ho, by unfold SS.pad so; rw [dif_pos ho]⟩
 have all : ∀ o ∈ opsL, o.length ≤ 8 := by
  have : (opsL.all fun o => Nat.ble o.length 8) = true := by ext
  intro o ho
  exact Nat.le_of_ble_eq_true (List.all_eq_true.mp this o ho)
 have hlt : s < opsL.length := by
  have : ∀ s ∈ poolN, s < 48 := by decide
  exact this s h
 obtain ⟨hh, e⟩ := key opsL[s] (all _ (List.getElem_mem hlt))
 refine ⟨opsL[s], hh, ?_, List.getElem?_eq_getElem hlt⟩
 rw [List.getElem?_map, List.getElem?_eq_getElem hlt]
 show some (CV.str (SS.pad opsL[s])) = _
 rw [e]
noncomputable def opOk (s : Nat) : Bool := match opsL[s]? with
 | some o => (o.cps.toList.all fun c => Nat.ble c 126 && !(c == 46)) && !o.cps.toList.isEmpty && (numOf o == (s : Int) + 7)
 | none => false
theorem aln : poolN.all opOk = true := by ext
theorem adO {s : Nat} {o : Str} (hs : s ∈ poolN) (ho : opsL[s]? = some o) : (∀ c ∈ cl o, c ≤ 126 ∧ c ≠ 46) ∧ cl o ≠ [] ∧ numOf o = (s : Int) + 7 := by
 have h := List.all_eq_true.mp aln s hs
 unfold opOk at h
 rw [ho] at h
 simp only [Bool.and_eq_true, List.all_eq_true, Bool.not_eq_true', beq_eq_false_iff_ne, ne_eq, List.isEmpty_eq_false_iff, beq_iff_eq] at h
 exact ⟨fun c hc => ⟨Nat.le_of_ble_eq_true (h.1.1 c hc).1, (h.1.1 c hc).2⟩, h.1.2, h.2⟩
theorem afm : ∀ m ∈ b1N, 173 ≤ m ∧ isB1 m = true := by
 have : (b1N.all fun m => Nat.ble 173 m && isB1 m) = true := by ext
 intro m hm
 have := List.all_eq_true.mp this m hm
 simp only [Bool.and_eq_true] at this
 exact ⟨Nat.le_of_ble_eq_true this.1, this.2⟩
theorem agF : ∀ z ∈ besN, isB1 z = false ∧ numOf (mk [z]) = 256 := by
 have : (besN.all fun z => !(isB1 z) && (numOf (mk [z]) == 256)) = true := by ext
 intro m hm
 have := List.all_eq_true.mp this m hm
 simp only [Bool.and_eq_true, Bool.not_eq_true', beq_iff_eq] at this
 exact this
theorem alo {c : Nat} (h : c ≤ 126) : isB1 c = false := by
 have : ∀ c, c < 127 -> isB1 c = false := by decide
 exact this c (by omega)
theorem alp {m : Nat} {o : Str} {h : o.length ≤ 8} : cl (sgn m o h).s = blk (m, cl o) := by
 show cl (((chS m).app (so o h)).app (chS m)).s = _
 rw [aaf, aaf, ad8]
 show ([m] ++ cl o) ++ [m] = _
 rfl
structure HP where
 cs : List CV
 a : Int
 b : Int
 p : List Nat
 R : Int
 d : List Nat
 q : List Nat
 F : Nat -> Nat
 M : Nat -> Nat
 O : Nat -> Str
 hO : ∀ r, (O r).length ≤ 8
noncomputable def HP.X (H : HP) (c : Nat) : C10 := ⟨(sgn (H.M (c / 3)) (H.O (c % 3)) (H.hO _)).s, (sgn (H.M (c / 3)) (H.O (c % 3)) (H.hO _)).h⟩
noncomputable def HP.g (H : HP) (r : Nat) : Int := (H.F r : Int) + 7
noncomputable def HP.B (H : HP) (r : List (Str × Slot)) : CE := A8 H.cs H.a H.b H.p H.R H.d (H.q.map H.F) r
noncomputable def HP.k (H : HP) (c : Nat) : Bk := (H.M (c / 3), cl (H.O (c % 3)))
structure HOk (H : HP) : Prop where
 q : ∀ r ∈ H.q, r < 3
 ql : H.q.length = 4
 lt : ∀ a b, a < b -> H.F a < H.F b
 op : ∀ r, r < 3 -> (opsL.map fun s => CV.str (SS.pad s))[H.F r]? = some (.str (so (H.O r) (H.hO r)))
 ol : ∀ r, r < 3 -> opsL[H.F r]? = some (H.O r)
 fp : ∀ r, r < 3 -> H.F r ∈ poolN
 dr : ∃ dr : List Nat, H.d = dr.map H.F ∧ dr.length ≤ 80 ∧ (∀ r ∈ dr, r < 3) ∧ ∀ r0, ∃ r ∈ dr, r ≠ r0
 oc : ∀ r, r < 3 -> ∀ c ∈ cl (H.O r), c ≤ 126 ∧ c ≠ 46
 on : ∀ r, r < 3 -> cl (H.O r) ≠ []
 ov : ∀ r, r < 3 -> numOf (H.O r) = (H.F r : Int) + 7
 m : ∀ k, k < 4 -> H.M k ∈ b1N
 mi : ∀ j k, j < 4 -> k < 4 -> H.M j = H.M k -> j = k
theorem cl_X (H : HP) (c : Nat) : cl (H.X c).v.s = blk (H.k c) := alp
theorem X_of (H : HP) {k r : Nat} (hr : r < 3) : (H.X (3 * k + r)).v = sgn (H.M k) (H.O r) (H.hO r) := by
 have key : ∀ x y, x = k -> y = r -> (⟨(sgn (H.M x) (H.O y) (H.hO y)).s, 10, (sgn (H.M x) (H.O y) (H.hO y)).h⟩ : SS) = sgn (H.M k) (H.O r) (H.hO r) := by
  rintro x y rfl rfl
  rfl
 exact key _ _ (by omega) (by omega)
section
variable {H : HP} (K : HOk H)
include K
set_option tactic.hygienic false
theorem acd : Rise H.g := ⟨fun a b h => by have := K.lt a b h; unfold HP.g; omega⟩
theorem H_GB {c : Nat} (hc : c < 12) : GB (H.k c) := ⟨(afm _ (K.m (c / 3) (by omega))).1, K.oc _ (Nat.mod_lt _ (by decide)), K.on _ (Nat.mod_lt _ (by decide))⟩
theorem H_RB {c : Nat} (hc : c < 12) : RB (H.k c) := ⟨(afm _ (K.m (c / 3) (by omega))).2, fun x hx => alo (K.oc _ (Nat.mod_lt _ (by decide)) x hx).1, K.on _ (Nat.mod_lt _ (by decide))⟩
theorem agG {c d : Nat} (hc : c < 12) (hd : d < 12) (h : H.k c = H.k d) : c = d := by
 have h1 := K.mi _ _ (by omega) (by omega) (congrArg Prod.fst h)
 have h2 : H.O (c % 3) = H.O (d % 3) := adh (congrArg Prod.snd h)
 have h3 := K.ov (c % 3) (Nat.mod_lt _ (by decide))
 rw [h2, K.ov (d % 3) (Nat.mod_lt _ (by decide))] at h3
 have h4 : H.g (c % 3) = H.g (d % 3) := by unfold HP.g; omega
 have h5 := (acd K).inj h4
 omega
theorem aiL : XInj H.X := ⟨fun c d hc hd => by
 cases e : Nat.beq c d with
 | true => rw [Nat.eq_of_beq_eq_true e]; exact beq_self_eq_true _
 | false =>
  refine beq_eq_false_iff_ne.mpr fun q => ?_
  have q := congrArg cl q
  rw [cl_X, cl_X] at q
  have h := acp (rest := []) (H_GB K hc) (H_GB K hd) (by rw [q, List.append_nil]; exact List.prefix_refl _)
  have := agG K hc hd h
  rw [this, Nat.beq_refl] at e
  cases e⟩
theorem ajO (t : List Nat) : cl (jn H.X t).s = blks (t.map H.k) := by
 unfold jn blks
 rw [abX, List.map_map, List.map_map]
 congr 1
 exact List.map_congr_left fun c _ => cl_X H c
omit K in
theorem jn_b (t : List Nat) : (jn H.X t).b ≤ 10 * t.length := by
 have h1 := abm (t.map fun c => (H.X c).v) (fun x hx => by
  obtain ⟨c, _, rfl⟩ := List.mem_map.mp hx
  exact Nat.le_refl _)
 rw [List.length_map] at h1
 exact h1
omit K in
theorem aiM {t : List Nat} (h : t.length ≤ 9) : (jn H.X t).s.length ≤ 1000 := Nat.le_trans (jn H.X t).h (Nat.le_trans (jn_b t) (by omega))
omit K in
theorem aeb : ∀ l : List (List Nat), joinL (l ++ [[]]) = (l.map (· ++ DD3)).flatten
 | [] => rfl
 | p :: r => by
  have ih := aeb r
  obtain ⟨q, t, hq⟩ : ∃ q t, r ++ [[]] = q :: t := by cases r with | nil => exact ⟨_, _, rfl⟩ | cons a t => exact ⟨_, _, rfl⟩
  show joinL (p :: (r ++ [[]])) = (p ++ DD3) ++ (r.map (· ++ DD3)).flatten
  rw [<- ih, hq, List.append_assoc]
  rfl
omit K in
theorem alq (r : List Nat) : cl (wnt H.X r).s = DD3 ++ ((r.map fun c => blk (H.k c)).map (· ++ DD3)).flatten := by
 have key : ∀ (r : List Nat) (w : SS), cl (r.foldl (fun w c => w.app ((H.X c).v.app D3)) w).s = cl w.s ++ ((r.map fun c => blk (H.k c)).map (· ++ DD3)).flatten := by
  intro r
  induction r with
  | nil => intro w; simp
  | cons c t ih =>
   intro w
   show cl (t.foldl _ (w.app ((H.X c).v.app D3))).s = _
   rw [ih, aaf, aaf, cl_X, acD]
   simp
 unfold wnt
 rw [key, acD]
omit K in
theorem ahV (r : List Nat) : cl (wnt H.X r).s = joinL (piecesG true true (r.map H.k)) := by
 rw [alq, <- aeb]
 unfold piecesG
 rw [List.map_map]
 obtain ⟨q, t, hq⟩ : ∃ q t, (r.map (blk ∘ H.k)) ++ [[]] = q :: t := by cases r with | nil => exact ⟨_, _, rfl⟩ | cons a t => exact ⟨_, _, rfl⟩
 show DD3 ++ joinL ((r.map (blk ∘ H.k)) ++ [[]]) = joinL ([] :: ((r.map (blk ∘ H.k)) ++ [[]]))
 rw [hq]
 rfl
omit K in
theorem afn : ∀ l : List SS, cl (joinD l).s = joinL (l.map fun x => cl x.s)
 | [] => by ext
 | x :: r => by
  have ih := afn r
  have e1 : ∀ l : List SS, (joinD l).s = PySem.Str.join (SS.of "...").s (l.map (·.s)) := fun l => StrLaws.glued_eq_join _ _
  rw [e1] at ih ⊢
  cases r with
  | nil => rfl
  | cons y t =>
   show cl (x.s ++ (SS.of "...").s ++ PySem.Str.join (SS.of "...").s ((y :: t).map (·.s))) = _
   rw [ad6, ad6, ih]
   have : cl (SS.of "...").s = DD3 := by ext
   rw [this, List.append_assoc]
   rfl
omit K in
theorem agH {a b : Bool} {r : List Nat} (hr : r ≠ []) : cl (wntE H.X a b r).s = joinL (piecesG (!a) (!b) (r.map H.k)) := by
 have e1 : ((r.map fun c => (H.X c).v).map fun x => cl x.s) = (r.map H.k).map blk := by
  rw [List.map_map, List.map_map]
  exact List.map_congr_left fun c _ => cl_X H c
 unfold wntE
 rw [aaf, aaf, afn, e1]
 have ha : ∀ l : List (List Nat), l ≠ [] -> cl (aS a).s ++ joinL l = joinL ((match !a with | true => [[]] | false => []) ++ l) := fun l hl => by
  cases a with
  | true => rfl
  | false =>
   have : cl (aS false).s = DD3 := by ext
   rw [this]
   cases l with
   | nil => exact absurd rfl hl
   | cons x t => rfl
 have hb : ∀ l : List (List Nat), l ≠ [] -> joinL l ++ cl (aS b).s = joinL (l ++ (match !b with | true => [[]] | false => [])) := fun l hl => by
  cases b with
  | true =>
   have : cl (aS true).s = [] := by ext
   rw [this, List.append_nil]
   simp
  | false =>
   have : cl (aS false).s = DD3 := by ext
   rw [this]
   show joinL l ++ DD3 = joinL (l ++ [[]])
   clear ha e1
   induction l with
   | nil => exact absurd rfl hl
   | cons x t ih =>
    cases t with
    | nil => show x ++ DD3 = x ++ (DD3 ++ []); rw [List.append_nil]
    | cons y u =>
     have := ih (by simp)
     show (x ++ (DD3 ++ joinL (y :: u))) ++ DD3 = x ++ (DD3 ++ joinL ((y :: u) ++ [[]]))
     rw [<- this]
     simp
 have hne : (r.map H.k).map blk ≠ [] := by simp [hr]
 rw [ha _ hne, hb _ (by cases a <;> simp [hr])]
 rfl
end
noncomputable def nBeg : Str := "_law_begins"
noncomputable def nLaid : Str := "_law_laid_into_one_another"
noncomputable def nEnds : Str := "_law_told_of_ends"
noncomputable def nTold : Str := "_law_told_of_dots"
noncomputable def nRd : Str := "_law_read"
noncomputable def defsT : List (Str × DD × Nat) := [(nBR, dR, 12), (nBL, dL, 12), (nIR, iR, 12), (nIL, iL, 12), (nEMf, dEM, 12), (nTab, dTab, 12), (nOps, dOps, 12), (nUns, dUns, 12), (nBes, dBes, 12), (nRd, dRead, 12), (nAsk, dAsk, 12), (nBeg, dBeg, 12), (nLaid, dLaid, 12), (nEnds, dEnds, 12), (nTold, dTold, 12)]
noncomputable def fsOf (fn : Str -> Option FS) (d : DD) (n : Nat) : FS := ⟨d.bor, runDef (GF fn) n d, 0⟩
noncomputable def lv : Nat -> Str -> Option FS
 | 0, _ => none
 | k + 1, x => match defsT.lookup x with
  | some (d, n) => some (fsOf (lv k) d n)
  | none => none
set_option tactic.hygienic false
theorem ab0 {k : Nat} {x : Str} {d : DD} {n : Nat} (h : defsT.lookup x = some (d, n)) : lv (k + 1) x = some (fsOf (lv k) d n) := by
 show (match defsT.lookup x with | some (d, n) => some (fsOf (lv k) d n) | none => none) = _
 rw [h]
section
variable {k : Nat}
set_option tactic.hygienic false
theorem ajP : lv (k + 1) nBR = some (fsOf (lv k) dR 12) := ab0 (by ext)
theorem ajQ : lv (k + 1) nBL = some (fsOf (lv k) dL 12) := ab0 (by ext)
theorem alr : lv (k + 1) nIR = some (fsOf (lv k) iR 12) := ab0 (by ext)
theorem anb : lv (k + 1) nIL = some (fsOf (lv k) iL 12) := ab0 (by ext)
theorem als : lv (k + 1) nEMf = some (fsOf (lv k) dEM 12) := ab0 (by ext)
theorem alu : lv (k + 1) nTab = some (fsOf (lv k) dTab 12) := ab0 (by ext)
theorem alv : lv (k + 1) nOps = some (fsOf (lv k) dOps 12) := ab0 (by ext)
theorem aiN : lv (k + 1) nUns = some (fsOf (lv k) dUns 12) := ab0 (by ext)
theorem aiO : lv (k + 1) nBes = some (fsOf (lv k) dBes 12) := ab0 (by ext)
theorem alw : lv (k + 1) nRd = some (fsOf (lv k) dRead 12) := ab0 (by ext)
theorem agI : lv (k + 1) nAsk = some (fsOf (lv k) dAsk 12) := ab0 (by ext)
theorem alx : lv (k + 1) nBeg = some (fsOf (lv k) dBeg 12) := ab0 (by ext)
theorem ajR : lv (k + 1) nLaid = some (fsOf (lv k) dLaid 12) := ab0 (by ext)
theorem ajS : lv (k + 1) nEnds = some (fsOf (lv k) dEnds 12) := ab0 (by ext)
theorem ajT : lv (k + 1) nTold = some (fsOf (lv k) dTold 12) := ab0 (by ext)
end
section
variable {α β : Type} [DecidableEq α] [DecidableEq β] {f : α -> β} {P : α -> Prop} (hf : ∀ a b, P a -> P b -> f a = f b -> a = b)
include hf
set_option tactic.hygienic false
theorem acU {a b : α} (ha : P a) (hb : P b) : decide (f a = f b) = decide (a = b) := by
 cases h : decide (a = b) with
 | true => rw [of_decide_eq_true h]; exact decide_eq_true rfl
 | false => exact decide_eq_false fun e => (of_decide_eq_false h) (hf a b ha hb e)
theorem abp : ∀ (r t : List α), (∀ x ∈ r, P x) -> (∀ x ∈ t, P x) -> subG (r.map f) (t.map f) = subG r t
 | [], t, _, _ => by rw [List.map_nil, acG, acG]
 | o :: r, [], _, _ => rfl
 | o :: r, b :: t, hr, ht => by
  rw [List.map_cons, List.map_cons, afd, afd, acU hf (hr o (.head _)) (ht b (.head _)), abp r t (fun x h => hr x (.tail _ h)) (fun x h => ht x (.tail _ h))]
  rw [<- abp (o :: r) t hr (fun x h => ht x (.tail _ h)), List.map_cons]
theorem afP {a b : Bool} {r t : List α} (hr : ∀ x ∈ r, P x) (ht : ∀ x ∈ t, P x) : matchG a b (r.map f) (t.map f) = matchG a b r t := by
 have drop : ∀ {l : List α}, (∀ x ∈ l, P x) -> ∀ x ∈ l.dropLast, P x := fun h x hx => h x (List.dropLast_subset _ hx)
 have last : ∀ {l : List α} {z : α}, (∀ x ∈ l, P x) -> l.getLast? = some z -> P z := fun h e => h _ (List.mem_of_getLast? e)
 cases a with
 | true =>
  cases b with
  | true => exact abp hf r t hr ht
  | false =>
   unfold matchG
   dsimp only
   rw [List.getLast?_map, List.getLast?_map]
   cases e1 : r.getLast? with
   | none => rfl
   | some z => cases e2 : t.getLast? with
    | none => rfl
    | some y =>
     show (decide (f z = f y) && subG (r.map f).dropLast (t.map f).dropLast) = (decide (z = y) && subG r.dropLast t.dropLast)
     rw [acU hf (last hr e1) (last ht e2), <- List.map_dropLast, <- List.map_dropLast, abp hf _ _ (drop hr) (drop ht)]
 | false =>
  cases r with
  | nil => rfl
  | cons x r => cases t with
   | nil => rfl
   | cons y t =>
    have hx := hr x (.head _)
    have hy := ht y (.head _)
    have hr' : ∀ x ∈ r, P x := fun x h => hr x (.tail _ h)
    have ht' : ∀ x ∈ t, P x := fun x h => ht x (.tail _ h)
    cases b with
    | true =>
     show (decide (f x = f y) && subG (r.map f) (t.map f)) = (decide (x = y) && subG r t)
     rw [acU hf hx hy, abp hf _ _ hr' ht']
    | false =>
     show (match (r.map f).getLast?, (t.map f).getLast? with | some z, some w => decide (f x = f y) && decide (z = w) && subG (r.map f).dropLast (t.map f).dropLast | _, _ => false) = (match r.getLast?, t.getLast? with | some z, some w => decide (x = y) && decide (z = w) && subG r.dropLast t.dropLast | _, _ => false)
     rw [List.getLast?_map, List.getLast?_map]
     cases e1 : r.getLast? with
     | none => rfl
     | some z => cases e2 : t.getLast? with
      | none => rfl
      | some w =>
       show (decide (f x = f y) && decide (f z = f w) && subG (r.map f).dropLast (t.map f).dropLast) = (decide (x = y) && decide (z = w) && subG r.dropLast t.dropLast)
       rw [acU hf hx hy, acU hf (last hr' e1) (last ht' e2), <- List.map_dropLast, <- List.map_dropLast, abp hf _ _ (drop hr') (drop ht')]
end
section
variable {H : HP} (K : HOk H) {k : Nat}
set_option tactic.hygienic false
theorem aeQ (l : List Bool) : (sdC l).length = l.length := by unfold sdC; rw [List.length_map]
theorem aiP {w g : SS} {r : Bool} {said : List Bool} (h : runDef (GF (lv k)) 12 dEM [.str w, .str g] [] = some (.bool r, .list [])) (hl : said.length ≤ 9000) :
 (fsOf (lv (k + 1)) dAsk 12).run [.str w, .str g, .list (sdC said)] [] = some (.bool r, .list (sdC (said ++ [r]))) := by
 have := akR (fn := lv (k + 1)) (F := fsOf (lv k) dEM 12) (said := sdC said) als rfl h (by rw [aeQ]; unfold LIM; omega)
 rw [ahM] at this
 exact this
include K
theorem afo {r : List Nat} (h : OkT r) : ∀ x ∈ r.map H.k, GB x := fun x hx => by
 obtain ⟨c, hc, rfl⟩ := List.mem_map.mp hx
 exact H_GB K (h c hc)
theorem ajU : AskR (fsOf (lv (k + 1)) dAsk 12) H.X := fun r t said hr ht hro hto hrl htl hs => by
 have hwb := ak9 H.X r
 have h := adG (fn := lv k) (a := true) (b := true) (w := wnt H.X r) (g := jn H.X t) (row := r.map H.k) (text := t.map H.k) (afo K hro) (afo K hto) (by simp [hr]) (by simp [ht]) (by simp) (by rw [List.length_map]; omega) (ahV r) (ajO K t) (by omega) (aiM htl)
 have e : matchG true true (r.map H.k) (t.map H.k) = subG r t := abp (P := fun c => c < 12) (fun a b => agG K) r t hro hto
 rw [e] at h
 exact aiP h hs
theorem ajV : AskE (fsOf (lv (k + 1)) dAsk 12) H.X := fun a b r t said hr ht hro hto hrl htl hs => by
 have hb : (wntE H.X a b r).b ≤ 900 := by
  have h1 := aeP (X := H.X) hrl
  have h2 := aS_b a
  have h3 := aS_b b
  unfold wntE
  rw [aaL, aaL]
  omega
 have h := adG (fn := lv k) (a := !a) (b := !b) (w := wntE H.X a b r) (g := jn H.X t) (row := r.map H.k) (text := t.map H.k) (afo K hro) (afo K hto) (by simp [hr]) (by intro e; rw [List.map_eq_nil_iff] at e; rw [e] at ht; simp at ht) (by intro _ _; rw [List.length_map]; exact ht) (by rw [List.length_map]; omega) (agH hr) (ajO K t) hb (aiM htl)
 rw [afP (P := fun c => c < 12) (fun a b => agG K) hro hto] at h
 exact aiP h hs
theorem aly {z : Nat} {t : List Nat} (hz : z ∈ besN) (hto : OkT t) (ht : t ≠ []) (htl : t.length ≤ 9) :
 (fsOf (lv (k + 1)) dRead 12).run [.str ((chS z).app (jn H.X t))] [] = some (lI (256 :: (keyR t).map H.g), .list []) := by
 obtain ⟨z1, z2⟩ := agF z hz
 have hcl : cl ((chS z).app (jn H.X t)).s = z :: blks (t.map H.k) := by rw [aaf, ad8, ajO K]; rfl
 have hlen : ((chS z).app (jn H.X t)).s.cps.toList.length ≤ 90000 := by
  have h1 := aaE ((chS z).app (jn H.X t)).s
  have h2 := ((chS z).app (jn H.X t)).h
  have h3 := jn_b (H := H) t
  have h4 : ((chS z).app (jn H.X t)).b = 1 + (jn H.X t).b := rfl
  unfold cl at h1
  omega
 have h := ajr (fn := lv (k + 1)) (t := (chS z).app (jn H.X t)) (F := fsOf (lv k) dTab 12) alu rfl (fun c => ajn (fn := lv k)) hlen
 have e : ((chS z).app (jn H.X t)).s.cps.toList = z :: blks (t.map H.k) := hcl
 rw [e] at h
 have e2 : (readL (z :: blks (t.map H.k)) []) = 256 :: (keyR t).map H.g := by
  cases t with
  | nil => exact absurd rfl ht
  | cons x r =>
   rw [List.map_cons, ad9 z1 (H.k x) (r.map H.k) (fun y hy => by
    rw [<- List.map_cons] at hy
    obtain ⟨c, hc, rfl⟩ := List.mem_map.mp hy
    exact H_RB K (hto c hc)), z2, <- List.map_cons, List.map_map]
   unfold keyR
   rw [List.map_map]
   congr 1
   refine List.map_congr_left fun c _ => ?_
   show numOf (mk (cl (H.O (c % 3)))) = H.g (rk c)
   rw [ajw, K.ov _ (Nat.mod_lt _ (by decide))]
   rfl
 rw [e2] at h
 exact h
end
noncomputable def aCall : Expr -> Expr | .BinOp _ _ (.Call _ (e :: _) _ _) _ => e | e => e
noncomputable def mkT (m : Nat) (r : List (Str × Slot)) : List (Str × Slot) := ("mark", .val (.str (chS m))) :: r
noncomputable def C11 (H : HP) (m : Nat) (ty : SS) (r : List (Str × Slot)) : CE := H.B (mkT m (("typed", .val (.str ty)) :: r))
noncomputable def C12 (H : HP) (m : Nat) (ty : SS) (r : List (Str × Slot)) : CE := C11 H m ty (("numbers", .val (gI H.g H.q)) :: r)
noncomputable def C13 (H : HP) (m : Nat) (ty : SS) (td : CV) (r : List (Str × Slot)) : CE := C12 H m ty (("told", .val td) :: r)
noncomputable def spO (o : Option CV) : List (Str × Slot) := match o with
 | none => []
 | some c => [("spot", .val c)]
noncomputable def fr11 (m : Nat) (o : Option CV) : CE := ⟨cmSc (aCall (cmE (lawS 11))), ("mark", .val (.str (chS m))) :: ("operators", .val opsV) :: spO o⟩
section
variable {fn : Str -> Option FS} {H : HP} {m : Nat} {ty : SS}
set_option tactic.hygienic true
theorem alz {F : FS} {m : Nat} (hf : fn nUns = some F) (hb : F.bor = none) (hr : F.run [.int H.R] [] = some (.str (chS m), .list [])) : (sem (GF fn) 20).xs (lawS 10) (H.B []) = some (.next, H.B (mkT m [])) :=
 aal (ρ1 := H.B []) (aaT (aag hf (by ext))) (by ext) (aaF (by ext) (by ext) (aag hf (by ext)) (aan (kvs := []) (cs := [.int H.R]) (avs := [.val (.int H.R)]) hb (aac (by ext) aad) (by ext) rfl hr)) (by ext) (by ext)
set_option tactic.hygienic false
theorem aeR (q : List Nat) (F : Nat -> Nat) : inN (q.map F) = q.map fun r => CV.int (F r : Int) := by unfold inN; rw [List.map_map]; rfl
theorem afp {k : Nat} : ∀ {q : List Nat}, (∀ r ∈ q, r < 3) -> keyR (rowN k q) = q
 | [], _ => rfl
 | r :: t, h => by
  have ih := afp (k := k) (q := t) fun x hx => h x (.tail _ hx)
  have hr := h r (.head _)
  unfold keyR rowN rk at ih ⊢
  rw [List.map_cons, List.map_cons, ih]
  congr 1
  omega
theorem ajW {k : Nat} {q : List Nat} (hk : k < 4) (h : ∀ r ∈ q, r < 3) : OkT (rowN k q) := fun x hx => by
 unfold rowN at hx
 obtain ⟨r, hr, rfl⟩ := List.mem_map.mp hx
 have := h r hr
 omega
theorem adP (k : Nat) (q : List Nat) : (rowN k q).length = q.length := by unfold rowN; rw [List.length_map]
theorem aiQ {k : Nat} {q : List Nat} (h : ∀ r ∈ q, r < 3) : (rowN k q).map (fun c => CV.str (H.X c).v) = q.map fun r => CV.str (sgn (H.M k) (H.O r) (H.hO r)) := by
 unfold rowN
 rw [List.map_map]
 exact List.map_congr_left fun r hr => congrArg CV.str (X_of H (h r hr))
variable (K : HOk H)
include K
theorem ajX : (sem (GF fn) 17).ev (aCall (cmE (lawS 11))) (H.B (mkT m [])) = some (.val (.list (H.q.map fun r => .str (sgn m (H.O r) (H.hO r)))), H.B (mkT m [])) := by
 have hq := K.ql
 obtain ⟨o', h⟩ := abo (step := compL (sem (GF fn) 16) (cmElt (aCall (cmE (lawS 11)))) (cmG (aCall (cmE (lawS 11))))) (v := fun r => .int (H.F r : Int)) (w := fun r => some (.str (sgn m (H.O r) (H.hO r)))) (fr := fun o : Option Nat => fr11 m (o.map fun r => .int (H.F r : Int))) H.q none [] (fun o r acc hr hl => by
  have ho := K.op r (K.q r hr)
  refine aa3 (ρ1 := fr11 m (some (.int (H.F r : Int)))) (ρ2 := fr11 m (some (.int (H.F r : Int)))) ?_ (by ext) ?_ hl
  · cases o <;> ext
  · refine aaD (x := .str ((chS m).app (so (H.O r) (H.hO r)))) (y := .str (chS m)) (aaq (a := .val (.str ((chS m).app (so (H.O r) (H.hO r))))) (b := .val (.str (chS m))) (aaD (x := .str (chS m)) (y := .str (so (H.O r) (H.hO r))) (aaq (a := .val (.str (chS m))) (b := .val (.str (so (H.O r) (H.hO r)))) (by ext) (abA (a := opsV) (b := .int (H.F r)) (by ext) (abz ho (by decide))) rfl rfl) (by ext)) (by ext) rfl rfl) (by ext)) (by rw [hq]; decide)
 refine abP (abG (l0 := [("mark", .val (.str (chS m))), ("operators", .val opsV)]) (l := [("mark", .val (.str (chS m))), ("operators", .val opsV)]) (its := H.q.map fun r => .int (H.F r : Int)) (ρ2 := fr11 m (o'.map fun r => .int (H.F r : Int))) (by ext) (by ext) ?_ (by ext) ?_)
 · refine aaA (c := .list (H.q.map fun r => .int (H.F r : Int))) (by ext) ?_ rfl (Nat.ble_eq_true_of_le (by rw [List.length_map, hq]; decide))
   rw [<- aeR]
   ext
 · refine Eq.trans h ?_
   rw [List.nil_append, List.filterMap_eq_map']
set_option tactic.hygienic true
theorem alA {F : FS} {z : Nat} (hf : fn nBes = some F) (hb : F.bor = none) (hr : F.run [.int (Int.fdiv H.R 216)] [] = some (.str (chS z), .list [])) : (sem (GF fn) 20).xs (lawS 11) (H.B (mkT (H.M 0) [])) = some (.next, C11 H (H.M 0) ((chS z).app (jn H.X (rowN 0 H.q))) []) := by
 have hc := ajX (fn := fn) (m := H.M 0) K
 rw [<- aiQ (k := 0) K.q] at hc
 have hj := jn_b (H := H) (rowN 0 H.q)
 rw [adP, K.ql] at hj
 have hadd : binC .Add (.str (chS z)) (.str (jn H.X (rowN 0 H.q))) = some (.str ((chS z).app (jn H.X (rowN 0 H.q)))) := addS (by
  have : (chS z).b = 1 := rfl
  unfold LIM
  omega)
 refine aal (c := .str ((chS z).app (jn H.X (rowN 0 H.q)))) (ρ1 := H.B (mkT (H.M 0) [])) (by ext) (by ext) (aaD (aaq (a := .val (.str (chS z))) (b := .val (.str (jn H.X (rowN 0 H.q)))) (aaF (by ext) (by ext) (aag hf (by ext)) (aan (kvs := []) (cs := [.int (Int.fdiv H.R 216)]) (avs := [.val (.int (Int.fdiv H.R 216))]) hb (aac (by ext) aad) (by ext) rfl hr))
  (aaU (ov := .val (.str (SS.of ""))) (c0 := .str (SS.of "")) (k := .join) (avs := [.val (tC H.X (rowN 0 H.q))]) (cs := [tC H.X (rowN 0 H.q)]) (by ext) (by ext) (by ext) rfl (by ext) rfl (aac hc aad) rfl (abN (by rw [adP, K.ql]; decide))) rfl rfl) hadd) (by ext) (by ext)
noncomputable def fr12 (o : Option CV) : CE := ⟨cmSc (cmE (lawS 12)), spO o⟩
set_option tactic.hygienic false
omit K in
theorem aiR (g : Nat -> Int) (q : List Nat) : gI g q = .list (q.map fun r => .int (g r)) := by unfold gI lI; rw [List.map_map]; rfl
set_option tactic.hygienic true
theorem alB : (sem (GF fn) 20).xs (lawS 12) (C11 H m ty []) = some (.next, C12 H m ty []) := by
 have hq := K.ql
 obtain ⟨o', h⟩ := abo (step := compL (sem (GF fn) 19) (cmElt (cmE (lawS 12))) (cmG (cmE (lawS 12)))) (v := fun r => .int (H.F r : Int)) (w := fun r => some (.int (H.g r))) (fr := fun o : Option Nat => fr12 (o.map fun r => .int (H.F r : Int))) H.q none [] (fun o r acc hr hl => by
  refine aa3 (ρ1 := fr12 (some (.int (H.F r : Int)))) (ρ2 := fr12 (some (.int (H.F r : Int)))) ?_ (by ext) (by ext) hl
  cases o <;> ext) (by rw [hq]; decide)
 have e : gI H.g H.q = .list (H.q.filterMap fun r => some (.int (H.g r))) := by rw [aiR, List.filterMap_eq_map']
 unfold C12
 rw [e]
 refine afj (ρ1 := C11 H m ty []) (abG (l0 := []) (l := []) (its := H.q.map fun r => .int (H.F r : Int)) (ρ2 := fr12 (o'.map fun r => .int (H.F r : Int))) (by ext) (by ext) ?_ (by ext) h) (by ext) (by ext) (by ext)
 refine aaA (c := .list (H.q.map fun r => .int (H.F r : Int))) (by ext) ?_ rfl (Nat.ble_eq_true_of_le (by rw [List.length_map, hq]; decide))
 rw [<- aeR]
 ext
omit K in
theorem alC {F : FS} {td : CV} (hf : fn nRd = some F) (hb : F.bor = none) (hr : F.run [.str ty] [] = some (td, .list [])) : (sem (GF fn) 20).xs (lawS 13) (C12 H m ty []) = some (.next, C13 H m ty td []) :=
 aal (ρ1 := C12 H m ty []) (aaT (aag hf (by ext))) (by ext) (aaF (by ext) (by ext) (aag hf (by ext)) (aan (kvs := []) (cs := [.str ty]) (avs := [.val (.str ty)]) hb (aac (by ext) aad) (by ext) rfl hr)) (by ext) (by ext)
set_option tactic.hygienic false
omit K in
theorem acv : ∀ {k : Nat} (l : List Int), eqAll (eqN (k + 1)) (l.map CV.int) (l.map CV.int) = some true
 | k, [] => rfl
 | k, x :: r => by
  rw [List.map_cons, acN, acv r]
  show some ((x == x) && true) = _
  rw [beq_self_eq_true]
  rfl
omit K in
theorem ahW (l : List Int) : eqC (lI l) (lI l) = some true := by
 show (match (l.map CV.int).length == (l.map CV.int).length with | true => eqAll (eqN 3) (l.map CV.int) (l.map CV.int) | false => some false) = _
 rw [beq_self_eq_true]
 exact acv l
omit K in
theorem agJ (l : List Int) : cmpC .NotEq (lI l) (lI l) = some false := by
 show onot (eqC (lI l) (lI l)) = _
 rw [ahW]
 rfl
set_option tactic.hygienic true
theorem alD : (sem (GF fn) 20).xs (lawS 14) (C13 H m ty (lI (256 :: H.q.map H.g)) []) = some (.next, C13 H m ty (lI (256 :: H.q.map H.g)) []) := by
 have hadd : binC .Add (.list [.int 256]) (gI H.g H.q) = some (lI (256 :: H.q.map H.g)) := by
  unfold gI lI
  rw [addL (by rw [List.length_map, List.length_map, K.ql]; decide)]
  rfl
 exact aaz (ρ1 := C13 H m ty (lI (256 :: H.q.map H.g)) []) (aaB (x := lI (256 :: H.q.map H.g)) (y := lI (256 :: H.q.map H.g)) (by ext) (aaq (a := .val (lI (256 :: H.q.map H.g))) (b := .val (lI (256 :: H.q.map H.g))) (by ext) (aaD (aaq (a := .val (.list [.int 256])) (b := .val (gI H.g H.q)) (by ext) (by ext) rfl rfl) hadd) rfl rfl) (agJ _)) (by ext)
end
section
variable {G : GE} {n : Nat} {ρ ρ1 ρ2 : CE}
set_option tactic.hygienic false
theorem agK {f : Str} {p pos tp : Pos} {ts : List Expr} {kk : Nat} {x y : Expr} {xs ys : List CV} (hb : isBlt G ρ f = true) (hf : (f == nZip) = true) (h1 : (sem G n).evf x ρ = some (.list xs, ρ)) (h2 : (sem G n).evf y ρ = some (.list ys, ρ)) :
 (sem G n).items G false (.Tuple ts kk tp) (.Call (.Name f p) [x, y] [] pos) ρ = some (zipC xs ys, ρ) := by
 have e1 : (f == nRange) = false := by rw [beq_iff_eq.mp hf]; decide
 have e2 : (f == nEnumerate) = false := by rw [beq_iff_eq.mp hf]; decide
 have hs : srcOf G ρ (.Call (.Name f p) [x, y] [] pos) = .zip x y := by rw [abL G hb]; unfold srcB; rw [e1]; dsimp only; rw [e2]; dsimp only; rw [hf]; rfl
 unfold SM.items
 rw [hs]
 dsimp only [isTupT, Bool.not]
 rw [h1]
 dsimp only [Bool.and]
 rw [h2]
 rfl
theorem ahX {v f : Expr} {args : List Expr} {kws : List Keyword} {q p : Pos} {a b c : CV} (h : (sem G n).ev2 v (.Call f args kws q) ρ = some (a, b, ρ1)) (hc : subC a b = some c) : (sem G (n + 1)).ev (.Subscript v (.Call f args kws q) p) ρ = some (.val c, ρ1) := by
 rw [aaI]
 dsimp only [stepS]
 unfold evStep evN
 dsimp only [mkOf, l1, l2, eName, eAttr, eSub, eTup, eCall, eSlice, List.isEmpty]
 rw [h]
 dsimp only
 rw [hc]
end
set_option tactic.hygienic false
theorem agL {α β : Type} (f : α -> CV) (g : β -> CV) : ∀ (l : List α) (m : List β), zipC (l.map f) (m.map g) = (l.zip m).map fun p => .tup [f p.1, g p.2]
 | [], _ => rfl
 | _ :: _, [] => rfl
 | a :: l, b :: m => by
  show .tup [f a, g b] :: zipC (l.map f) (m.map g) = _
  rw [agL f g l m]
  rfl
noncomputable def abO (o : Option (Nat × Nat)) : List (Str × Slot) := match o with
 | none => []
 | some p => [("a", .val (.int (p.1 : Int))), ("b", .val (.int (p.2 : Int)))]
noncomputable def fr16 (H : HP) (o : Option (Nat × Nat)) : CE := ⟨cmSc (cmE (lawS 16)), ("numbers", .val (gI H.g H.q)) :: abO o⟩
noncomputable def paC (H : HP) (pa : List (List Nat)) : CV := .list (pa.map (gI H.g))
noncomputable def C15 (H : HP) (m : Nat) (ty : SS) (bs : List Nat) (r : List (Str × Slot)) : CE := C13 H m ty (lI (256 :: H.q.map H.g)) (("begins", .val (.list (inN bs))) :: r)
noncomputable def C16 (H : HP) (m : Nat) (ty : SS) (bs : List Nat) (pa : List (List Nat)) (r : List (Str × Slot)) : CE := C15 H m ty bs (("parts", .val (paC H pa)) :: r)
noncomputable def C19 (H : HP) (m : Nat) (ty : SS) (bs : List Nat) (pa : List (List Nat)) (w al : Nat) (rows : Slot) (r : List (Str × Slot)) : CE := C16 H m ty bs pa (("ways", .val (.int (w : Int))) :: ("all_ways", .val (.int (al : Int))) :: ("rows", rows) :: r)
section
variable {fn : Str -> Option FS} {H : HP} {m : Nat} {ty : SS} {bs : List Nat} {pa : List (List Nat)}
set_option tactic.hygienic false
theorem ahY {q : List Nat} {g : Nat -> Int} {a b : Nat} (h : q.length ≤ 80) : sliceC (gI g q) (some (a : Int)) (some (b : Int)) = some (gI g ((q.take b).drop a)) := by
 unfold gI lI
 rw [slC (by rw [List.length_map, List.length_map]; unfold LIM; omega), ahJ, <- List.map_take, <- List.map_take, <- List.map_drop, <- List.map_drop]
theorem agM {x : Int} {l : List Int} (h : l.length ≤ 80) : sliceC (lI (x :: l)) (some 1) none = some (lI l) := by
 unfold lI
 have h1 := slC (xs := (x :: l).map CV.int) (l := some ((1 : Nat) : Int)) (h := none) (by rw [List.length_map, List.length_cons]; unfold LIM; omega)
 rw [abF] at h1
 exact h1
variable (K : HOk H)
include K
set_option tactic.hygienic true
theorem alE {F : FS} (hf : fn nBeg = some F) (hb : F.bor = none) (hr : F.run [gI H.g H.q] [] = some (.list (inN bs), .list [])) : (sem (GF fn) 20).xs (lawS 15) (C13 H m ty (lI (256 :: H.q.map H.g)) []) = some (.next, C15 H m ty bs []) :=
 aal (c := .list (inN bs)) (ρ1 := C13 H m ty (lI (256 :: H.q.map H.g)) []) (aaT (aag hf (by ext))) (by ext) (aaF (by ext) (by ext) (aag hf (by ext)) (aan (kvs := []) (cs := [gI H.g H.q]) (avs := [.val (gI H.g H.q)]) hb
  (aac (aaZ (a := .val (lI (256 :: H.q.map H.g))) (l := some 1) (h := none) (o := lI (256 :: H.q.map H.g)) (by ext) (by ext) (by ext) rfl (agM (by rw [List.length_map, K.ql]; decide))) aad) (by ext) rfl hr)) (by ext) (by ext)
theorem alF (hbs : bs.length ≤ 4) : (sem (GF fn) 20).xs (lawS 16) (C15 H m ty bs []) = some (.next, C16 H m ty bs (partsN H.q bs) []) := by
 have hq := K.ql
 have hz : (bs.zip (bs.drop 1 ++ [4])).length ≤ 4 := by rw [List.length_zip]; omega
 obtain ⟨o', h⟩ := abo (step := compL (sem (GF fn) 19) (cmElt (cmE (lawS 16))) (cmG (cmE (lawS 16)))) (v := fun p : Nat × Nat => .tup [.int (p.1 : Int), .int (p.2 : Int)]) (w := fun p => some (gI H.g ((H.q.take p.2).drop p.1))) (fr := fr16 H) (bs.zip (bs.drop 1 ++ [4])) none [] (fun o p acc hp hl => by
  refine aa3 (ρ1 := fr16 H (some p)) (ρ2 := fr16 H (some p)) ?_ (by ext) ?_ hl
  · cases o <;> ext
  · exact aaZ (a := .val (gI H.g H.q)) (l := some (p.1 : Int)) (h := some (p.2 : Int)) (o := gI H.g H.q) (by ext) (by ext) (by ext) rfl (ahY (by omega))) (by
  show 0 + _ ≤ LIM
  unfold LIM
  omega)
 have e : paC H (partsN H.q bs) = .list ((bs.zip (bs.drop 1 ++ [4])).filterMap fun p => some (gI H.g ((H.q.take p.2).drop p.1))) := by
  unfold paC partsN
  rw [List.filterMap_eq_map', List.map_map]
  rfl
 have hdrop : sliceC (.list (inN bs)) (some 1) none = some (.list (inN (bs.drop 1))) := by
  have h1 := slC (xs := inN bs) (l := some ((1 : Nat) : Int)) (h := none) (by rw [abZ]; unfold LIM; omega)
  rw [abF] at h1
  refine h1.trans ?_
  unfold inN
  rw [List.map_drop]
 have hadd : binC .Add (.list (inN (bs.drop 1))) (.list [.int 4]) = some (.list (inN (bs.drop 1 ++ [4]))) := by
  rw [addL (by rw [abZ, List.length_drop]; unfold LIM; simp only [List.length_cons, List.length_nil]; omega)]
  exact congrArg (fun l => some (CV.list l)) (acI _ 4)
 unfold C16
 rw [e]
 refine afj (ρ1 := C15 H m ty bs []) (abG (l0 := [("numbers", .val (gI H.g H.q))]) (l := [("numbers", .val (gI H.g H.q))]) (its := (bs.zip (bs.drop 1 ++ [4])).map fun p : Nat × Nat => .tup [.int (p.1 : Int), .int (p.2 : Int)]) (ρ2 := fr16 H o') (by ext) (by ext) ?_ (by ext) h) (by ext) (by ext) (by ext)
 rw [<- agL (fun n : Nat => CV.int (n : Int)) (fun n : Nat => CV.int (n : Int))]
 exact agK (xs := inN bs) (ys := inN (bs.drop 1 ++ [4])) (by ext) (by ext) (by ext) (abB (a := .val (.list (inN (bs.drop 1 ++ [4])))) (ρ1 := C15 H m ty bs []) (aaD (aaq (a := .val (.list (inN (bs.drop 1)))) (b := .val (.list [.int 4])) (aaZ (a := .val (.list (inN bs))) (l := some 1) (h := none) (o := .list (inN bs)) (by ext) (by ext) (by ext) rfl hdrop) (by ext) rfl rfl) hadd) rfl)
set_option tactic.hygienic false
omit K in
theorem alG {rest : List Stmt} {z : Option (FC × CE)} (h : (sem (GF fn) 20).xss rest (C19 H m ty bs pa 1 24 (.own (.list [])) []) = z) : (sem (GF fn) 20).xss (lawS 17 :: lawS 18 :: lawS 19 :: rest) (C16 H m ty bs pa []) = z :=
 aaa (ρ1 := C16 H m ty bs pa [("ways", .val (.int 1))]) (by ext) (aaa (ρ1 := C16 H m ty bs pa [("ways", .val (.int 1)), ("all_ways", .val (.int 24))]) (by ext) (aaa (ρ1 := C19 H m ty bs pa 1 24 (.own (.list [])) []) (by ext) h))
end
noncomputable def b20 : List Stmt := forB (lawS 20)
noncomputable def kT (k : Nat) (r : List (Str × Slot)) : List (Str × Slot) := ("k", .val (.int (k : Int))) :: r
noncomputable def kP (k : Nat) (p : CV) : List (Str × Slot) := kT k [("part", .val p)]
noncomputable def cmpL : Expr -> Expr | .Compare e _ _ _ => e | e => e
noncomputable def c201 : Expr := cmpL (ifT (stA b20 1))
noncomputable def eE : Stmt -> Expr | .Expr e _ => e | _ => default
noncomputable def arg0 : Expr -> Expr | .Call _ (e :: _) _ _ => e | e => e
noncomputable def c206 : Expr := arg0 (eE (stA b20 6))
noncomputable def cuO (o : Option Nat) : List (Str × Slot) := match o with
 | none => []
 | some k => [("cut", .val (.int ((1 : Int) + (k : Int))))]
noncomputable def fr201 (p : CV) (o : Option Nat) : CE := ⟨cmSc c201, ("part", .val p) :: cuO o⟩
noncomputable def nuO (o : Option CV) : List (Str × Slot) := match o with
 | none => []
 | some c => [("number", .val c)]
noncomputable def fr206 (m : Nat) (o : Option CV) : CE := ⟨cmSc c206, ("mark", .val (.str (chS m))) :: ("operators", .val opsV) :: nuO o⟩
set_option tactic.hygienic false
theorem anc (a b : List Int) : cmpC .LtE (lI a) (lI b) = some (leL a b) := by
 unfold cmpC ordC lI
 dsimp only [cvList]
 rw [abh a]
 dsimp only
 rw [abh b]
theorem agN {g : Nat -> Int} (h : Rise g) : ∀ a b : List Nat, leL (a.map g) (b.map g) = leN a b
 | [], [] => rfl
 | [], _ :: _ => rfl
 | _ :: _, [] => rfl
 | x :: r, y :: t => by
  show (match decide (g x = g y) with | true => leL (r.map g) (t.map g) | false => decide (g x ≤ g y)) = match Nat.beq x y with | true => leN r t | false => Nat.ble x y
  rw [h.eq, agN h r t]
  have e : decide (g x ≤ g y) = Nat.ble x y := by
   cases e : Nat.ble x y with
   | true =>
    rcases Nat.lt_or_eq_of_le (Nat.le_of_ble_eq_true e) with q | q
    · exact decide_eq_true (Int.le_of_lt (h.lt x y q))
    · rw [q]; exact decide_eq_true (Int.le_refl _)
   | false =>
    exact decide_eq_false fun q => by
     have : ¬ x ≤ y := fun z => by rw [Nat.ble_eq_true_of_le z] at e; cases e
     have := h.lt y x (by omega)
     omega
  rw [e]
section
variable {g : Nat -> Int} (hg : Rise g)
include hg
set_option tactic.hygienic false
theorem adm {k : Nat} : ∀ {a b : List Nat}, (a.length == b.length) = true -> eqAll (eqN (k + 1)) ((a.map g).map CV.int) ((b.map g).map CV.int) = some (beqL a b)
 | [], [], _ => rfl
 | [], _ :: _, h => by cases h
 | _ :: _, [], h => by cases h
 | x :: r, y :: t, h => by
  have h' : (r.length == t.length) = true := by
   simp only [List.length_cons] at h
   rw [beq_iff_eq] at h ⊢
   omega
  rw [List.map_cons, List.map_cons, List.map_cons, List.map_cons, acN]
  have e1 : eqN (k + 1) (.int (g x)) (.int (g y)) = some (Nat.beq x y) := by
   show some (g x == g y) = _
   rw [<- hg.eq x y]
   exact congrArg some (by
    cases e : decide (g x = g y) with
    | true => exact beq_iff_eq.mpr (of_decide_eq_true e)
    | false => exact beq_eq_false_iff_ne.mpr (of_decide_eq_false e))
  rw [e1, adm h']
  rfl
theorem ahZ {k : Nat} (a b : List Nat) : eqN (k + 2) (gI g a) (gI g b) = some (beqL a b) := by
 show (match ((a.map g).map CV.int).length == ((b.map g).map CV.int).length with | true => eqAll (eqN (k + 1)) ((a.map g).map CV.int) ((b.map g).map CV.int) | false => some false) = _
 rw [List.length_map, List.length_map, List.length_map, List.length_map]
 cases h : a.length == b.length with
 | true => exact adm hg h
 | false => rw [adI h]
theorem aec (b : List Nat) : ∀ ts : List (List Nat), eqOf (fun y => eqN 4 y (gI g b)) (ts.map (gI g)) = some (ts.map fun t => beqL t b)
 | [] => rfl
 | t :: r => by
  rw [List.map_cons, af7, ahZ hg, aec b r]
  rfl
theorem alH (b : List Nat) (ts : List (List Nat)) : methC .count (.list (ts.map (gI g))) [gI g b] = some (.int ((ts.filter fun t => beqL t b).length : Nat)) := by
 show (match eqOf (fun y => eqN 4 y (gI g b)) (ts.map (gI g)) with | some bs => some (CV.int (bs.countP id : Nat)) | none => none) = _
 rw [aec hg]
 show some (CV.int (((ts.map fun t => beqL t b).countP id : Nat) : Int)) = _
 rw [List.countP_map, List.countP_eq_length_filter]
 rfl
end
set_option tactic.hygienic false
theorem aed {g : Nat -> Int} {l : List Nat} : ((l.map g).map CV.int).length = l.length := by rw [List.length_map, List.length_map]
section
variable {fn : Str -> Option FS} {H : HP} {m : Nat} {ty : SS} {bs : List Nat} {pa : List (List Nat)} {w al : Nat} {rw' : List (List Nat)} {k : Nat} {p : List Nat} (K : HOk H)
noncomputable def C20 (H : HP) (ty : SS) (bs : List Nat) (pa : List (List Nat)) (s : KS) (r : List (Str × Slot)) : CE := C19 H (H.M s.2.2.2) ty bs pa s.1 s.2.1 (.own (.list (gC H.X s.2.2.1))) r
noncomputable def D20 (H : HP) (m : Nat) (ty : SS) (bs : List Nat) (pa : List (List Nat)) (w al : Nat) (rs : List (List Nat)) (r : List (Str × Slot)) : CE := C19 H m ty bs pa w al (.own (.list (gC H.X rs))) r
set_option tactic.hygienic false
theorem alI : bindT (forT (lawS 20)) (.int (k : Int)) (D20 H m ty bs pa w al rw' []) = some (D20 H m ty bs pa w al rw' (kT k [])) := by ext
set_option tactic.hygienic true
theorem k_0 (hp : pa[k]? = some p) (hl : pa.length ≤ 80) : (sem (GF fn) 19).xs (stA b20 0) (D20 H m ty bs pa w al rw' (kT k [])) = some (.next, D20 H m ty bs pa w al rw' (kP k (gI H.g p))) := by
 have hg : (pa.map (gI H.g))[k]? = some (gI H.g p) := by rw [List.getElem?_map, hp]; rfl
 exact aal (c := gI H.g p) (ρ1 := D20 H m ty bs pa w al rw' (kT k [])) (by ext) (by ext) (abA (a := paC H pa) (b := .int (k : Int)) (by ext) (abz hg (by rw [List.length_map]; omega))) (by ext) (by ext)
include K
theorem k_1 (hp : p.length ≤ 4) (hc : ∀ i, i < p.length - 1 -> leN (p.drop (i + 1)) p = false) : (sem (GF fn) 19).xs (stA b20 1) (D20 H m ty bs pa w al rw' (kP k (gI H.g p))) = some (.next, D20 H m ty bs pa w al rw' (kP k (gI H.g p))) := by
 obtain ⟨o', h⟩ := abo (step := compL (sem (GF fn) 16) (cmElt c201) (cmG c201)) (v := fun i : Nat => .int ((1 : Int) + (i : Int))) (w := fun _ => none) (fr := fr201 (gI H.g p)) (List.range (p.length - 1)) none [] (fun o i acc hi hl => by
  rw [Option.toList_none, List.append_nil]
  refine acu (ρ1 := fr201 (gI H.g p) (some i)) ?_ (afi (aaB (x := gI H.g (p.drop (i + 1))) (y := gI H.g p) (by ext) (aaq (a := .val (gI H.g (p.drop (i + 1)))) (b := .val (gI H.g p)) (aaZ (a := .val (gI H.g p)) (l := some ((i + 1 : Nat) : Int)) (h := none) (o := gI H.g p) (by ext) ?_ (by ext) rfl ?_) (by ext) rfl rfl) ?_))
  · cases o <;> ext
  · have e : (((i + 1 : Nat) : Int)) = (1 : Int) + (i : Int) := by omega
    rw [e]
    ext
  · unfold gI lI
    rw [slC (by rw [aed]; unfold LIM; omega), abF, <- List.map_drop, <- List.map_drop]
  · unfold gI
    rw [anc, agN (acd K), hc i (List.mem_range.mp hi)]) (by rw [List.length_range]; show 0 + _ ≤ LIM; unfold LIM; omega)
 have hn : (List.range (p.length - 1)).filterMap (fun _ => (none : Option CV)) = [] := List.filterMap_eq_nil_iff.mpr fun _ _ => rfl
 rw [hn, List.nil_append] at h
 have hlen := acB (xs := (p.map H.g).map CV.int) (by rw [aed]; omega)
 rw [aed] at hlen
 have hit : (sem (GF fn) 16).items (GF fn) false (cmG c201).target (cmG c201).iter (D20 H m ty bs pa w al rw' (kP k (gI H.g p))) = some ((List.range (p.length - 1)).map fun i : Nat => .int ((1 : Int) + (i : Int)), D20 H m ty bs pa w al rw' (kP k (gI H.g p))) := by
  have e : rangeC 1 (p.length : Int) = (List.range (p.length - 1)).map fun i : Nat => .int ((1 : Int) + (i : Int)) := by
   unfold rangeC
   rw [show ((p.length : Int) - 1).toNat = p.length - 1 by omega]
  rw [<- e]
  exact ad0 (x := 1) (y := p.length) (by ext) (by ext) (by ext) (aaJ (c := gI H.g p) (by ext) (by ext) (by ext) (by ext) (by ext) hlen) (by ext) (aaX (by omega))
 refine aaz (ρ1 := D20 H m ty bs pa w al rw' (kP k (gI H.g p))) (aaB (x := .list []) (y := .list []) (by ext) (aaq (a := .val (.list [])) (b := .val (.list [])) (abP (abG (l0 := [("part", .val (gI H.g p))]) (l := [("part", .val (gI H.g p))]) (ρ2 := fr201 (gI H.g p) o') (by ext) (by ext) hit (by ext) h)) (by ext) rfl rfl) rfl) (by ext)
theorem k_2 (hp : pa[k]? = some p) (hl : pa.length ≤ 80) (h : (Nat.beq k 0 || !ltN (pa.getD (k - 1) []) p) = true) : (sem (GF fn) 19).xs (stA b20 2) (D20 H m ty bs pa w al rw' (kP k (gI H.g p))) = some (.next, D20 H m ty bs pa w al rw' (kP k (gI H.g p))) := by
 have htest : (sem (GF fn) 18).it (ifT (stA b20 2)) (D20 H m ty bs pa w al rw' (kP k (gI H.g p))) = some (false, D20 H m ty bs pa w al rw' (kP k (gI H.g p))) := by
  refine it_bool.trans (ae7 (t := decide ((k : Int) > 0)) (by ext) (fun e => ?_) (fun _ => rfl))
  have hk : 0 < k := by have := of_decide_eq_true e; omega
  obtain ⟨j, rfl⟩ : ∃ j, k = j + 1 := ⟨k - 1, by omega⟩
  have hj : j < pa.length := by
   rcases Nat.lt_or_ge (j + 1) pa.length with q | q
   · omega
   · rw [List.getElem?_eq_none q] at hp; cases hp
  have h2 : ltN (pa.getD j []) p = false := by
   have h : (Nat.beq (j + 1) 0 || !ltN (pa.getD j []) p) = true := h
   cases hq : ltN (pa.getD j []) p with
   | false => rfl
   | true => rw [hq] at h; cases h
  have hgj : (pa.map (gI H.g))[j]? = some (gI H.g (pa.getD j [])) := by
   rw [List.getElem?_map, List.getD_eq_getElem?_getD, List.getElem?_eq_getElem hj]
   rfl
  have e1 : (((j + 1 : Nat) : Int) - 1) = (j : Int) := by omega
  refine ae7 (t := false) (aaB (x := gI H.g (pa.getD j [])) (y := gI H.g p) (by ext) (aaq (a := .val (gI H.g (pa.getD j []))) (b := .val (gI H.g p)) (acn (a := paC H pa) (b := .int (j : Int)) ?_ (abz hgj (by rw [List.length_map]; omega))) (by ext) rfl rfl) ?_) (fun e => by cases e) (fun _ => rfl)
  · rw [<- e1]; ext
  · unfold gI
    rw [agu, abY (acd K), h2]
 exact aaz htest (by ext)
theorem k_3 (hl : pa.length ≤ 80) (hw : w ≤ 1000) : (sem (GF fn) 19).xs (stA b20 3) (D20 H m ty bs pa w al rw' (kP k (gI H.g p))) = some (.next, D20 H m ty bs pa (w * ((pa.take (k + 1)).filter fun x => beqL x p).length) al rw' (kP k (gI H.g p))) := by
 have hs : sliceC (paC H pa) none (some ((k + 1 : Nat) : Int)) = some (.list ((pa.take (k + 1)).map (gI H.g))) := by
  unfold paC
  rw [slC (by rw [List.length_map]; unfold LIM; omega), agx, List.map_take]
 have hc : ((pa.take (k + 1)).filter fun x => beqL x p).length ≤ 80 := Nat.le_trans (List.length_filter_le _ _) (Nat.le_trans (List.length_take_le' _ _) hl)
 generalize hq : ((pa.take (k + 1)).filter fun x => beqL x p).length = c at hc ⊢
 have hcount := alH (acd K) p (pa.take (k + 1))
 rw [hq] at hcount
 have hmul : augC .Mult (.int (w : Int)) (.int (c : Int)) = some (.int ((w * c : Nat) : Int)) := by
  show (match small (w : Int) && small (c : Int) with | true => some (CV.int ((w : Int) * (c : Int))) | false => none) = _
  rw [aaX hw, aaX (by omega)]
  rfl
 exact acx (a := .int (w : Int)) (b := .int (c : Int)) (c := .int ((w * c : Nat) : Int)) (by ext) (by ext) (aaU (ov := .val (.list ((pa.take (k + 1)).map (gI H.g)))) (c0 := .list ((pa.take (k + 1)).map (gI H.g))) (k := .count) (avs := [.val (gI H.g p)]) (cs := [gI H.g p]) (by ext) (by ext) (aaZ (a := .val (paC H pa)) (l := none) (h := some ((k + 1 : Nat) : Int)) (o := paC H pa) (by ext) (by ext) (by ext) rfl hs) rfl (by ext) rfl (aac (by ext) aad) rfl hcount) hmul (by ext) (by ext)
omit K in
theorem k_4 (hp : p.length ≤ 4) : (sem (GF fn) 19).xs (stA b20 4) (D20 H m ty bs pa w al rw' (kP k (gI H.g p))) = some (.next, D20 H m ty bs pa w (al / facN.getD p.length 1) rw' (kP k (gI H.g p))) := by
 have hlen := acB (xs := (p.map H.g).map CV.int) (by rw [aed]; omega)
 rw [aed] at hlen
 have hf : ∀ n : Nat, n ≤ 4 -> subC (.list [.int 1, .int 1, .int 2, .int 6, .int 24]) (.int (n : Int)) = some (.int (facN.getD n 1 : Nat)) ∧ facN.getD n 1 ≤ 24 ∧ 0 < facN.getD n 1 := fun n hn => by
  rcases n with _ | _ | _ | _ | _ | n
  · exact ⟨by ext, by decide, by decide⟩
  · exact ⟨by ext, by decide, by decide⟩
  · exact ⟨by ext, by decide, by decide⟩
  · exact ⟨by ext, by decide, by decide⟩
  · exact ⟨by ext, by decide, by decide⟩
  · omega
 obtain ⟨h1, h2, h3⟩ := hf p.length hp
 generalize facN.getD p.length 1 = c at h1 h2 h3 ⊢
 have hdiv : augC .FloorDiv (.int (al : Int)) (.int (c : Int)) = some (.int ((al / c : Nat) : Int)) := by
  rw [divI (by omega) (by omega), Int.fdiv_eq_ediv_of_nonneg _ (by omega)]
  norm_cast
 exact acx (a := .int (al : Int)) (b := .int (c : Int)) (c := .int ((al / c : Nat) : Int)) (by ext) (by ext) (ahX (a := .list [.int 1, .int 1, .int 2, .int 6, .int 24]) (b := .int (p.length : Int)) (aaq (a := .val (.list [.int 1, .int 1, .int 2, .int 6, .int 24])) (b := .val (.int (p.length : Int))) (by ext) (aaJ (c := gI H.g p) (by ext) (by ext) (by ext) (by ext) (by ext) hlen) rfl rfl) h1) hdiv (by ext) (by ext)
end
noncomputable def HP.s (H : HP) : Int := 1 + Int.fmod (Int.fdiv H.R 27) 8
section
variable {fn : Str -> Option FS} {H : HP} {m : Nat} {ty : SS} {bs : List Nat} {pa : List (List Nat)} {w al : Nat} {rw' : List (List Nat)} {k : Nat} {p : List Nat} (K : HOk H)
set_option tactic.hygienic true
theorem k_5 {F : FS} {m' : Nat} (hk : k ≤ 3) (hf : fn nUns = some F) (hb : F.bor = none) (hr : F.run [.int (H.R + (k : Int) * H.s)] [] = some (.str (chS m'), .list [])) : (sem (GF fn) 19).xs (stA b20 5) (D20 H m ty bs pa w al rw' (kP k (gI H.g p))) = some (.next, D20 H m' ty bs pa w al rw' (kP k (gI H.g p))) := by
 have h1 : 0 ≤ Int.fmod (Int.fdiv H.R 27) 8 := Int.fmod_nonneg_of_pos _ (by decide)
 have h2 : Int.fmod (Int.fdiv H.R 27) 8 < 8 := Int.fmod_lt_of_pos _ (by decide)
 have hmul : binC .Mult (.int (k : Int)) (.int H.s) = some (.int ((k : Int) * H.s)) := by
  show (match small (k : Int) && small H.s with | true => some (CV.int ((k : Int) * H.s)) | false => none) = _
  have e : small H.s = true := by
   unfold HP.s small
   rw [decide_eq_true (by omega), decide_eq_true (by omega)]
   rfl
  rw [aaX (by omega), e]
  rfl
 exact aal (ρ1 := D20 H m ty bs pa w al rw' (kP k (gI H.g p))) (aaT (aag hf (by ext))) (by ext) (aaF (by ext) (by ext) (aag hf (by ext)) (aan (kvs := []) (cs := [.int (H.R + (k : Int) * H.s)]) (avs := [.val (.int (H.R + (k : Int) * H.s))]) hb
  (aac (aaD (x := .int H.R) (y := .int ((k : Int) * H.s)) (aaq (a := .val (.int H.R)) (b := .val (.int ((k : Int) * H.s))) (by ext) (aaD (x := .int (k : Int)) (y := .int H.s) (by ext) hmul) rfl rfl) rfl) aad) (by ext) rfl hr)) (by ext) (by ext)
include K
theorem k_6 (hq : ∀ r ∈ p, r < 3) (hp : p.length ≤ 4) (hr : rw'.length ≤ 80) : (sem (GF fn) 19).xs (stA b20 6) (D20 H (H.M k) ty bs pa w al rw' (kP k (gI H.g p))) = some (.next, D20 H (H.M k) ty bs pa w al (rw' ++ [rowN k p]) (kP k (gI H.g p))) := by
 obtain ⟨o', h⟩ := abo (step := compL (sem (GF fn) 16) (cmElt c206) (cmG c206)) (v := fun r => .int (H.g r)) (w := fun r => some (.str (sgn (H.M k) (H.O r) (H.hO r)))) (fr := fun o : Option Nat => fr206 (H.M k) (o.map fun r => .int (H.g r))) p none [] (fun o r acc hm hl => by
  have ho := K.op r (hq r hm)
  have e : binC .Sub (.int (H.g r)) (.int 7) = some (.int (H.F r : Int)) := by
   show some (CV.int (H.g r - 7)) = _
   have : H.g r - 7 = (H.F r : Int) := by unfold HP.g; omega
   rw [this]
  refine aa3 (ρ1 := fr206 (H.M k) (some (.int (H.g r)))) (ρ2 := fr206 (H.M k) (some (.int (H.g r)))) ?_ (by ext) ?_ hl
  · cases o <;> ext
  · refine aaD (x := .str ((chS (H.M k)).app (so (H.O r) (H.hO r)))) (y := .str (chS (H.M k))) (aaq (a := .val (.str ((chS (H.M k)).app (so (H.O r) (H.hO r))))) (b := .val (.str (chS (H.M k)))) (aaD (x := .str (chS (H.M k))) (y := .str (so (H.O r) (H.hO r))) (aaq (a := .val (.str (chS (H.M k)))) (b := .val (.str (so (H.O r) (H.hO r)))) (by ext) (acn (a := opsV) (b := .int (H.F r : Int)) (aaq (a := .val opsV) (b := .val (.int (H.F r : Int))) (by ext) (aaD (x := .int (H.g r)) (y := .int 7) (by ext) e) rfl rfl) (abz ho (by decide))) rfl rfl) (by ext)) (by ext) rfl rfl) (by ext)) (by show 0 + _ ≤ LIM; unfold LIM; omega)
 rw [List.nil_append, List.filterMap_eq_map'] at h
 have e1 : tC H.X (rowN k p) = .list (p.map fun r => CV.str (sgn (H.M k) (H.O r) (H.hO r))) := congrArg CV.list (aiQ hq)
 have hap := appC (c := tC H.X (rowN k p)) (show (gC H.X rw').length ≤ LIM by unfold gC LIM; rw [List.length_map]; omega)
 rw [aeM] at hap
 refine aaV (by ext) (abw (x := "rows") (c0 := .list (gC H.X rw')) (k := .append) (avs := [.val (tC H.X (rowN k p))]) (cs := [tC H.X (rowN k p)]) (ob := .list (gC H.X rw')) (ob' := .list (gC H.X (rw' ++ [rowN k p]))) (by ext) (by ext) (by ext) (by ext) (by ext) rfl (aac ?_ aad) rfl (by ext) hap (by ext))
 rw [e1]
 refine abP (abG (l0 := [("mark", .val (.str (chS (H.M k)))), ("operators", .val opsV)]) (l := [("mark", .val (.str (chS (H.M k)))), ("operators", .val opsV)]) (its := p.map fun r => .int (H.g r)) (ρ2 := fr206 (H.M k) (o'.map fun r => .int (H.g r))) (by ext) (by ext) ?_ (by ext) h)
 refine aaA (c := gI H.g p) (by ext) (by ext) (by rw [aiR]; rfl) (Nat.ble_eq_true_of_le (by rw [List.length_map]; unfold LIM; omega))
theorem alJ {F : FS} {s' : KS} (hf : fn nUns = some F) (hb : F.bor = none) (hr : ∀ k : Nat, k < 4 -> F.run [.int (H.R + (k : Int) * H.s)] [] = some (.str (chS (H.M k)), .list [])) (hpl : pa.length ≤ 80) (hpq : ∀ p ∈ pa, ∀ r ∈ p, r < 3) (h : rowsF pa = some s') :
 (sem (GF fn) 20).xs (lawS 20) (C19 H (H.M 0) ty bs pa 1 24 (.own (.list [])) []) = some (.next, C20 H ty bs pa s' []) := by
 have hbody : b20 = [stA b20 0, stA b20 1, stA b20 2, stA b20 3, stA b20 4, stA b20 5, stA b20 6] := by ext
 have hl := abD (step := fun c ρ => match bindT (forT (lawS 20)) c ρ with | some ρ => (sem (GF fn) 19).xssD (news (C20 H ty bs pa (1, 24, [], 0) [])) b20 ρ | none => none) (v := fun k : Nat => .int (k : Int)) (fr := fun s : KS => C20 H ty bs pa s []) (List.range pa.length) (1, 24, [], 0) s' (fun s k s2 hm hs => by
  obtain ⟨w, al, rs, j⟩ := s
  have hlt := List.mem_range.mp hm
  have hp : pa[k]? = some pa[k] := List.getElem?_eq_getElem hlt
  have hd : pa.getD k [] = pa[k] := by rw [List.getD_eq_getElem?_getD, hp]; rfl
  have hin : pa[k] ∈ pa := List.getElem_mem hlt
  unfold partS at hs
  rw [hd] at hs
  generalize pa[k] = p at hp hin hs
  obtain ⟨hg, rfl⟩ := abi hs
  rw [Bool.and_eq_true, Bool.and_eq_true, Bool.and_eq_true, Bool.and_eq_true, Bool.and_eq_true, Bool.and_eq_true] at hg
  obtain ⟨⟨g1, g2⟩, ⟨⟨⟨g3, g4⟩, g5⟩, g6⟩, g7⟩ := hg
  have g3 := Nat.le_of_ble_eq_true g3
  have g5 := Nat.le_of_ble_eq_true g5
  have g6 := Nat.le_of_ble_eq_true g6
  have g7 := Nat.le_of_ble_eq_true g7
  have hc : ∀ i, i < p.length - 1 -> leN (p.drop (i + 1)) p = false := fun i hi => by
   have := List.all_eq_true.mp g1 i (List.mem_range.mpr hi)
   cases e : leN (p.drop (i + 1)) p with
   | false => rfl
   | true => rw [e] at this; cases this
  have hb0 : bindT (forT (lawS 20)) (.int (k : Int)) (D20 H (H.M j) ty bs pa w al rs []) = some (D20 H (H.M j) ty bs pa w al rs (kT k [])) := alI
  show (match bindT (forT (lawS 20)) (.int (k : Int)) (D20 H (H.M j) ty bs pa w al rs []) with | some ρ => (sem (GF fn) 19).xssD (news (C20 H ty bs pa (1, 24, [], 0) [])) b20 ρ | none => none) = _
  rw [hb0, hbody]
  exact aau (ρ1 := D20 H (H.M k) ty bs pa (w * ((pa.take (k + 1)).filter fun x => beqL x p).length) (al / facN.getD p.length 1) (rs ++ [rowN k p]) (kP k (gI H.g p))) (aaa (k_0 hp hpl) (aaa (k_1 K g7 hc) (aaa (k_2 K hp hpl g2) (aaa (k_3 K hpl g3) (aaa (k_4 g7) (aaa (k_5 g6 hf hb (hr k (by omega))) (aaa (k_6 K (hpq p hin) g7 g5) aae))))))) (by ext)) h
 refine aba (cs := (List.range pa.length).map fun k : Nat => .int (k : Int)) (ρ1 := C20 H ty bs pa (1, 24, [], 0) []) ?_ hl
 have hlen := acB (xs := pa.map (gI H.g)) (by rw [List.length_map]; omega)
 rw [List.length_map] at hlen
 rw [<- acr]
 exact abE (by ext) (by ext) (aaJ (c := paC H pa) (by ext) (by ext) (by ext) (by ext) (by ext) hlen) (aaX (by omega))
end
set_option tactic.hygienic false
theorem acJ {S : SM} {ρ ρ1 ρ2 : CE} {e : Expr} {es : List Expr} {q : Bool} (h : S.it e ρ = some (false, ρ1)) (k : S.allT .Or es ρ1 = some (q, ρ2)) : S.allT .Or (e :: es) ρ = some (q, ρ2) := by
 rw [ae2]
 rw [h]
 exact k
noncomputable def E22 (H : HP) (m : Nat) (ty : SS) (td : CV) (bs : List Nat) (pa : List (List Nat)) (w al : Nat) (rs : List (List Nat)) (sd : Slot) (r : List (Str × Slot)) : CE :=
 C13 H m ty td (("begins", .val (.list (inN bs))) :: ("parts", .val (paC H pa)) :: ("ways", .val (.int (w : Int))) :: ("all_ways", .val (.int (al : Int))) :: ("rows", .val (.list (gC H.X rs))) :: ("said", sd) :: r)
noncomputable def E23 (H : HP) (m : Nat) (ty : SS) (td : CV) (bs : List Nat) (pa : List (List Nat)) (w al : Nat) (rs : List (List Nat)) (sd : List Bool) (gs : List (List Nat)) (r : List (Str × Slot)) : CE :=
 E22 H m ty td bs pa w al rs (.own (.list (sdC sd))) (("grown", .val (.list (gC H.X gs))) :: r)
section
variable {fn : Str -> Option FS} {H : HP} {m : Nat} {ty : SS} {td : CV} {bs : List Nat} {pa rs gs : List (List Nat)} {w al : Nat} {sd sd' : List Bool} {s : KS}
set_option tactic.hygienic true
theorem alK : (sem (GF fn) 20).xs (lawS 21) (C20 H ty bs pa s []) = some (.next, C20 H ty bs pa s [("said", .own (.list []))]) := by ext
theorem alL {F : FS} (hf : fn nLaid = some F) (hb : F.bor = some 1) (hr : F.run [.list (gC H.X s.2.2.1), .list []] [] = some (.list (gC H.X gs), .list (sdC sd))) :
 (sem (GF fn) 20).xs (lawS 22) (C20 H ty bs pa s [("said", .own (.list []))]) = some (.next, E23 H (H.M s.2.2.2) ty (lI (256 :: H.q.map H.g)) bs pa s.1 s.2.1 s.2.2.1 sd gs []) := by
 refine aal (c := .list (gC H.X gs)) (ρ1 := E22 H (H.M s.2.2.2) ty (lI (256 :: H.q.map H.g)) bs pa s.1 s.2.1 s.2.2.1 (.own (.list (sdC sd))) []) (aaT (aag hf (by ext))) (by ext) (aaF (by ext) (by ext) (aag hf (by ext)) ?_) (by ext) (by ext)
 exact (acO (x := "said") (o := .list []) (o' := .list (sdC sd)) (c := .list (gC H.X gs)) (cs := [.list (gC H.X s.2.2.1), .none]) (kvs := []) (avs := [.ref "rows", .ref "said"]) (ρ1 := C20 H ty bs pa s [("said", .own (.list []))]) (ρ2 := C20 H ty bs pa s [("said", .own (.list []))])
  (ρ3 := E22 H (H.M s.2.2.2) ty (lI (256 :: H.q.map H.g)) bs pa s.1 s.2.1 s.2.2.1 (.own (.list [])) []) hb (aac (by ext) (aac (by ext) aad)) (by ext) (by ext) rfl (by ext) hr).trans (by ext)
set_option tactic.hygienic false
theorem agO {i j : Int} (h : i = j) : cmpC .NotEq (.int i) (.int j) = some false := by
 show onot (some (i == j)) = _
 rw [h, beq_self_eq_true]
 rfl
set_option tactic.hygienic true
theorem alM {F : FS} (hf : fn nEnds = some F) (hb : F.bor = some 2) (hl : gs.length = al) (ha : al ≤ 80) (hr : F.run [.list (gC H.X rs), .list (gC H.X gs), .list (sdC sd)] [] = some (.bool true, .list (sdC sd'))) :
 (sem (GF fn) 20).xs (lawS 23) (E23 H m ty td bs pa w al rs sd gs []) = some (.next, E23 H m ty td bs pa w al rs sd' gs []) := by
 have hlen := acB (xs := gC H.X gs) (by unfold gC; rw [List.length_map]; omega)
 have e : (gC H.X gs).length = al := by unfold gC; rw [List.length_map, hl]
 rw [e] at hlen
 have htest : (sem (GF fn) 19).it (ifT (lawS 23)) (E23 H m ty td bs pa w al rs sd gs []) = some (false, E23 H m ty td bs pa w al rs sd' gs []) := by
  refine it_bool.trans (acJ (ρ1 := E23 H m ty td bs pa w al rs sd gs []) (aaB (x := .int (al : Int)) (y := .int (al : Int)) (by ext) (aaq (a := .val (.int (al : Int))) (b := .val (.int (al : Int))) (aaJ (c := .list (gC H.X gs)) (by ext) (by ext) (by ext) (by ext) (by ext) hlen) (by ext) rfl rfl) (agO rfl)) (acJ (ρ1 := E23 H m ty td bs pa w al rs sd' gs []) (aiH (t := true) (adJ (c := .bool true) (aaF (by ext) (by ext) (aag hf (by ext)) ?_) rfl)) ae6))
  exact aaj (x := "said") (o := .list (sdC sd)) (o' := .list (sdC sd')) (c := .bool true) (cs := [.list (gC H.X rs), .list (gC H.X gs), .none]) (kvs := []) (avs := [.val (.list (gC H.X rs)), .val (.list (gC H.X gs)), .ref "said"]) hb
   (aac (by ext) (aac (by ext) (aac (by ext) aad))) (by ext) rfl rfl (by ext) hr (by ext)
 exact aaz htest (by ext)
noncomputable def prC (H : HP) (t : List Nat) : CV := .list [lI ((keyR t).map H.g), tC H.X t]
noncomputable def prL (H : HP) (ts : List (List Nat)) : List CV := ts.map (prC H)
noncomputable def tdC (H : HP) (t : List Nat) : CV := match t with
 | [] => lI (256 :: H.q.map H.g)
 | _ :: _ => lI (256 :: (keyR t).map H.g)
noncomputable def E26 (H : HP) (m : Nat) (ty : SS) (td : CV) (bs : List Nat) (pa : List (List Nat)) (w al : Nat) (rs : List (List Nat)) (sd : List Bool) (gs : List (List Nat)) (sh le ri : List (List Nat)) (r : List (Str × Slot)) : CE :=
 E23 H m ty td bs pa w al rs sd gs (("shelf", .own (.list (prL H sh))) :: ("lefts", .own (.list (prL H le))) :: ("rights", .own (.list (prL H ri))) :: r)
set_option tactic.hygienic false
theorem alN {rest : List Stmt} {z : Option (FC × CE)} (h : (sem (GF fn) 20).xss rest (E26 H m ty td bs pa w al rs sd gs [] [] [] []) = z) : (sem (GF fn) 20).xss (lawS 24 :: lawS 25 :: lawS 26 :: rest) (E23 H m ty td bs pa w al rs sd gs []) = z :=
 aaa (ρ1 := E23 H m ty td bs pa w al rs sd gs [("shelf", .own (.list []))]) (by ext) (aaa (ρ1 := E23 H m ty td bs pa w al rs sd gs [("shelf", .own (.list [])), ("lefts", .own (.list []))]) (by ext) (aaa (ρ1 := E26 H m ty td bs pa w al rs sd gs [] [] [] []) (by ext) h))
end
noncomputable def b27 : List Stmt := forB (lawS 27)
noncomputable def kwE : Expr -> Expr | .Call _ _ (⟨_, e, _⟩ :: _) _ => e | e => e
noncomputable def lamE : Expr -> Lam | .Lambda p b sc _ => ⟨p, b, sc⟩ | _ => ⟨default, default, ⟨.module, [], false, false, []⟩⟩
noncomputable def binR : Expr -> Expr | .BinOp _ _ e _ => e | e => e
noncomputable def cmpR : Expr -> Expr | .Compare _ _ (e :: _) _ => e | e => e
noncomputable def c271 : Expr := binR (cmpR (ifT (stA b27 1)))
noncomputable def lam27l : Lam := lamE (kwE (cmE (stA (ifB (stA b27 3)) 1)))
noncomputable def lam27r : Lam := lamE (kwE (cmE (stA (ifO (stA b27 3)) 1)))
noncomputable def ceO (o : Option CV) : List (Str × Slot) := match o with
 | none => []
 | some c => [("cell", .val c)]
noncomputable def fr271 (o : Option CV) : CE := ⟨cmSc c271, ("operators", .val opsV) :: ceO o⟩
noncomputable def ct (H : HP) (k : Nat) (t : List Nat) (r : List (Str × Slot)) : List (Str × Slot) := ("count", .val (.int (k : Int))) :: ("text", .val (tC H.X t)) :: r
noncomputable def midS (x : SS) : SS := ⟨Txt.slice x.s (some 1) (some (-1)), x.b, Nat.le_trans (Txt.slice_le x.s (some 1) (some (-1))) x.h⟩
set_option tactic.hygienic false
theorem aiS {x : SS} {m : Nat} {o : List Nat} (h : cl x.s = sgL m o) : cl (midS x).s = o := by
 have hl : x.s.length = o.length + 2 := by rw [<- aaE, h, acQ]
 have e1 : (midS x).s = StrLaws.sliceText x.s (some 1) (some (-1)) := rfl
 have e2 := StrLaws.sliceText_neg_hi x.s (some 1) (j := -1) (by decide) (by omega)
 have e3 := StrLaws.sliceText_nat x.s (a := 1) (b := o.length + 1) (by omega) (by omega)
 rw [e1, e2, show (-1 + (x.s.length : Int)) = ((o.length + 1 : Nat) : Int) by omega]
 refine (congrArg cl e3).trans ?_
 have h : x.s.cps.toList = sgL m o := h
 show cl (mk _) = o
 rw [afN, h]
 unfold sgL
 rw [List.drop_succ_cons, List.drop_zero, show o.length + 1 - 1 = o.length by omega, List.take_append_of_le_length (Nat.le_refl _), List.take_length]
noncomputable def idxOk (i : Nat) : Bool := match opsL[i]? with
 | some o => (match (opsL.map fun s => (SS.pad s).s == o).findIdx? id with | some j => Nat.beq j i | none => false)
 | none => false
theorem alO : poolN.all idxOk = true := by ext
theorem aee (x : SS) : ∀ l : List Str, eqOf (fun y => eqN 4 y (.str x)) (l.map fun s => .str (SS.pad s)) = some (l.map fun s => (SS.pad s).s == x.s)
 | [] => rfl
 | s :: r => by
  rw [List.map_cons, af7, aee x r]
  rfl
theorem alP {x : SS} {i : Nat} {o : Str} (hi : i ∈ poolN) (ho : opsL[i]? = some o) (hx : x.s = o) : methC .index opsV [.str x] = some (.int (i : Int)) := by
 have h := List.all_eq_true.mp alO i hi
 unfold idxOk at h
 rw [ho] at h
 have h : (match (opsL.map fun s => (SS.pad s).s == o).findIdx? id with | some j => Nat.beq j i | none => false) = true := h
 show (match eqOf (fun y => eqN 4 y (.str x)) (opsL.map fun s => .str (SS.pad s)) with | some bs => (match bs.findIdx? id with | some i => some (CV.int (i : Nat)) | none => none) | none => none) = _
 rw [aee, hx]
 show (match (opsL.map fun s => (SS.pad s).s == o).findIdx? id with | some i => some (CV.int (i : Nat)) | none => none) = _
 cases e : (opsL.map fun s => (SS.pad s).s == o).findIdx? id with
 | none => rw [e] at h; cases h
 | some j => rw [e] at h; rw [Nat.eq_of_beq_eq_true h]
theorem agP {G : GE} {S : SM} {ρ ρ1 ρ2 : CE} {es : List Expr} {avs : List EV} {cs : List CV} (h1 : S.evs es ρ = some (avs, ρ1)) (h2 : freezes avs ρ1 = some (cs, ρ2)) (hl : cs.length ≤ LIM) : S.make G (.disp es) ρ = some (.list cs, ρ2) := by
 unfold SM.make
 dsimp only
 rw [h1]
 dsimp only
 rw [h2]
 dsimp only
 rw [Nat.ble_eq_true_of_le hl]
section
variable {fn : Str -> Option FS} {H : HP} {m : Nat} {ty : SS} {td : CV} {bs : List Nat} {pa rs gs sh le ri : List (List Nat)} {w al k : Nat} {sd : List Bool} {t : List Nat} (K : HOk H)
set_option tactic.hygienic false
theorem alQ : bindT (forT (lawS 27)) (.tup [.int (k : Int), tC H.X t]) (E26 H m ty td bs pa w al rs sd gs sh le ri []) = some (E26 H m ty td bs pa w al rs sd gs sh le ri (ct H k t [])) := by ext
set_option tactic.hygienic true
theorem s_0 {F1 F2 : FS} {z : Nat} {td' : CV} (hl : t.length ≤ 9) (f1 : fn nRd = some F1) (b1 : F1.bor = none) (r1 : F1.run [.str ((chS z).app (jn H.X t))] [] = some (td', .list [])) (f2 : fn nBes = some F2) (b2 : F2.bor = none) (r2 : F2.run [.int (Int.fdiv H.R 216 + (k : Int))] [] = some (.str (chS z), .list [])) :
 (sem (GF fn) 19).xs (stA b27 0) (E26 H m ty td bs pa w al rs sd gs sh le ri (ct H k t [])) = some (.next, E26 H m ty td' bs pa w al rs sd gs sh le ri (ct H k t [])) := by
 have hj := jn_b (H := H) t
 have hadd : binC .Add (.str (chS z)) (.str (jn H.X t)) = some (.str ((chS z).app (jn H.X t))) := addS (by
  have : (chS z).b = 1 := rfl
  unfold LIM
  omega)
 exact aal (ρ1 := E26 H m ty td bs pa w al rs sd gs sh le ri (ct H k t [])) (aaT (aag f1 (by ext))) (by ext) (aaF (by ext) (by ext) (aag f1 (by ext)) (aan (kvs := []) (cs := [.str ((chS z).app (jn H.X t))]) (avs := [.val (.str ((chS z).app (jn H.X t)))]) b1
  (aac (aaD (aaq (a := .val (.str (chS z))) (b := .val (.str (jn H.X t))) (aaF (by ext) (by ext) (aag f2 (by ext)) (aan (kvs := []) (cs := [.int (Int.fdiv H.R 216 + (k : Int))]) (avs := [.val (.int (Int.fdiv H.R 216 + (k : Int)))]) b2 (aac (by ext) aad) (by ext) rfl r2))
   (aaU (ov := .val (.str (SS.of ""))) (c0 := .str (SS.of "")) (k := .join) (avs := [.val (tC H.X t)]) (cs := [tC H.X t]) (by ext) (by ext) (by ext) rfl (by ext) rfl (aac (by ext) aad) rfl (abN (by omega))) rfl rfl) hadd) aad) (by ext) rfl r1)) (by ext) (by ext)
include K
theorem s_1 (hto : OkT t) (hl : t.length ≤ 9) : (sem (GF fn) 19).xs (stA b27 1) (E26 H m ty (lI (256 :: (keyR t).map H.g)) bs pa w al rs sd gs sh le ri (ct H k t [])) = some (.next, E26 H m ty (lI (256 :: (keyR t).map H.g)) bs pa w al rs sd gs sh le ri (ct H k t [])) := by
 obtain ⟨o', h⟩ := abo (step := compL (sem (GF fn) 15) (cmElt c271) (cmG c271)) (v := fun c => .str (H.X c).v) (w := fun c => some (.int (H.g (rk c)))) (fr := fun o : Option Nat => fr271 (o.map fun c => .str (H.X c).v)) t none [] (fun o c acc hm hl => by
  have hc : c % 3 < 3 := Nat.mod_lt _ (by decide)
  have hx : (midS (H.X c).v).s = H.O (c % 3) := adh (aiS (show cl (H.X c).v.s = sgL (H.M (c / 3)) (cl (H.O (c % 3))) from cl_X H c))
  refine aa3 (ρ1 := fr271 (some (.str (H.X c).v))) (ρ2 := fr271 (some (.str (H.X c).v))) ?_ (by ext) ?_ hl
  · cases o <;> ext
  · exact aaD (x := .int (H.F (c % 3) : Int)) (y := .int 7) (aaq (a := .val (.int (H.F (c % 3) : Int))) (b := .val (.int 7)) (aaU (ov := .val opsV) (c0 := opsV) (k := .index) (avs := [.val (.str (midS (H.X c).v))]) (cs := [.str (midS (H.X c).v)]) (by ext) (by ext) (by ext) rfl (by ext) rfl (aac (by ext) aad) rfl (alP (K.fp _ hc) (K.ol _ hc) hx)) (by ext) rfl rfl) rfl) (by show 0 + _ ≤ LIM; unfold LIM; omega)
 rw [List.nil_append, List.filterMap_eq_map'] at h
 have e : lI ((keyR t).map H.g) = .list (t.map fun c => CV.int (H.g (rk c))) := by unfold lI keyR; rw [List.map_map, List.map_map]; rfl
 have hadd : binC .Add (.list [.int 256]) (lI ((keyR t).map H.g)) = some (lI (256 :: (keyR t).map H.g)) := by
  rw [e, addL (by rw [List.length_map]; unfold LIM; simp only [List.length_cons, List.length_nil]; omega)]
  unfold lI keyR
  rw [List.map_cons, List.map_map, List.map_map]
  rfl
 have hcomp : (sem (GF fn) 16).ev c271 (E26 H m ty (lI (256 :: (keyR t).map H.g)) bs pa w al rs sd gs sh le ri (ct H k t [])) = some (.val (lI ((keyR t).map H.g)), E26 H m ty (lI (256 :: (keyR t).map H.g)) bs pa w al rs sd gs sh le ri (ct H k t [])) := by
  rw [e]
  refine abP (abG (l0 := [("operators", .val opsV)]) (l := [("operators", .val opsV)]) (its := t.map fun c => .str (H.X c).v) (ρ2 := fr271 (o'.map fun c => .str (H.X c).v)) (by ext) (by ext) ?_ (by ext) h)
  exact aaA (c := tC H.X t) (by ext) (by ext) rfl (Nat.ble_eq_true_of_le (by rw [List.length_map]; unfold LIM; omega))
 exact aaz (aaB (x := lI (256 :: (keyR t).map H.g)) (y := lI (256 :: (keyR t).map H.g)) (by ext) (aaq (a := .val (lI (256 :: (keyR t).map H.g))) (b := .val (lI (256 :: (keyR t).map H.g))) (by ext) (aaD (aaq (a := .val (.list [.int 256])) (b := .val (lI ((keyR t).map H.g))) (by ext) hcomp rfl rfl) hadd) rfl rfl) (agJ _)) (by ext)
omit K in
theorem s_2 (hl : t.length ≤ 9) : (sem (GF fn) 19).xs (stA b27 2) (E26 H m ty (lI (256 :: (keyR t).map H.g)) bs pa w al rs sd gs sh le ri (ct H k t [])) = some (.next, E26 H m ty (lI (256 :: (keyR t).map H.g)) bs pa w al rs sd gs sh le ri (ct H k t [("pair", .val (prC H t))])) := by
 have hs := agM (x := 256) (l := (keyR t).map H.g) (by unfold keyR; rw [List.length_map, List.length_map]; omega)
 exact agb (o := .list [lI ((keyR t).map H.g), tC H.X t]) (ρ1 := E26 H m ty (lI (256 :: (keyR t).map H.g)) bs pa w al rs sd gs sh le ri (ct H k t [])) rfl rfl (agP (avs := [.val (lI ((keyR t).map H.g)), .val (tC H.X t)]) (aac (aaZ (a := .val (lI (256 :: (keyR t).map H.g))) (l := some 1) (h := none) (o := lI (256 :: (keyR t).map H.g)) (by ext) (by ext) (by ext) rfl hs) (aac (by ext) aad)) rfl (by show 2 ≤ LIM; decide)) (by ext) (by ext) (by ext)
end
def IsKey (L : Lam) : Prop := ∀ (G : GE) (a b : CV) (m : Nat), 4 ≤ m -> (sem G m).callLam L [.list [a, b]] = some a
set_option tactic.hygienic false
theorem ane : IsKey lam27l := fun G a b m h => by
 obtain ⟨j, rfl⟩ := Nat.exists_eq_add_of_le' h
 ext
theorem anf : IsKey lam27r := fun G a b m h => by
 obtain ⟨j, rfl⟩ := Nat.exists_eq_add_of_le' h
 ext
section
variable {H : HP} (K : HOk H) {L : Lam} (hL : IsKey L) {sh : List (List Nat)} {t x : List Nat}
include hL in
theorem aiT {G : GE} : KeyOf G L (prL H sh) (fun m => (keyR (sh.getD m [])).map H.g) := fun i c h m hm => by
 unfold prL at h
 rw [List.getElem?_map] at h
 cases e : sh[i]? with
 | none => rw [e] at h; cases h
 | some t =>
  rw [e] at h
  have : sh.getD i [] = t := by rw [List.getD_eq_getElem?_getD, e]; rfl
  rw [<- Option.some.inj h]
  show _ = some (lI ((keyR (sh.getD i [])).map H.g))
  rw [this]
  exact hL G _ _ m hm
set_option tactic.hygienic false
theorem aaW : (prL H sh).length = sh.length := by unfold prL; exact List.length_map _
include K hL
theorem aiU {fn : Str -> Option FS} (hl : sh.length ≤ 80) {args : List CV} (ha : bindPos dR.bor dR.ps args dR.dflt = some (arB (prL H sh) (lI (x.map H.g)))) :
 runDef (GF fn) 12 dR args [("key", .lam L)] = some (.int (uptN sh x : Nat), .list (prL H sh)) ∧ uptN sh x ≤ sh.length := by
 have h := bRk (fn := fn) (xs := prL H sh) (x := x.map H.g) (aiT hL) (by rw [aaW]; omega) (args := args) ha
 have e : (fun m => ltL (x.map H.g) ((keyR (sh.getD m [])).map H.g)) = fun m => ltN x (keyR (sh.getD m [])) := funext fun m => abY (acd K) _ _
 rw [e, aaW] at h
 exact h
theorem aiV {fn : Str -> Option FS} (hl : sh.length ≤ 80) {args : List CV} (ha : bindPos dL.bor dL.ps args dL.dflt = some (arB (prL H sh) (lI (x.map H.g)))) :
 runDef (GF fn) 12 dL args [("key", .lam L)] = some (.int (lowN sh x : Nat), .list (prL H sh)) ∧ lowN sh x ≤ sh.length := by
 have h := bLk (fn := fn) (xs := prL H sh) (x := x.map H.g) (aiT hL) (by rw [aaW]; omega) (args := args) ha
 have e : (fun m => !ltL ((keyR (sh.getD m [])).map H.g) (x.map H.g)) = fun m => !ltN (keyR (sh.getD m [])) x := funext fun m => by rw [abY (acd K)]
 rw [e, aaW] at h
 exact h
theorem alR {k : Nat} (hl : sh.length ≤ 80) : (fsOf (lv (k + 1)) iR 12).run [.list (prL H sh), prC H t] [("key", .lam L)] = some (.none, .list (prL H (insG sh (tlR sh t) t))) := by
 obtain ⟨h1, h2⟩ := aiU K hL (fn := lv k) (x := keyR t) hl (args := [.list (prL H sh), lI ((keyR t).map H.g), .int 0, .none]) rfl
 have h := am0 (fn := lv (k + 1)) (F := fsOf (lv k) dR 12) (xs := prL H sh) (c := prC H t) (L := L) ajP rfl h1 (fun m hm => hL _ _ _ m hm) (by rw [aaW]; exact h2) (by rw [aaW]; omega)
 have e := adH (prC H) sh (uptN sh (keyR t)) t
 have e : insG (prL H sh) (uptN sh (keyR t)) (prC H t) = prL H (insG sh (tlR sh t) t) := e
 rw [e] at h
 exact h
theorem alS {k : Nat} (hl : sh.length ≤ 80) : (fsOf (lv (k + 1)) iL 12).run [.list (prL H sh), prC H t] [("key", .lam L)] = some (.none, .list (prL H (insG sh (tlL sh t) t))) := by
 obtain ⟨h1, h2⟩ := aiV K hL (fn := lv k) (x := keyR t) hl (args := [.list (prL H sh), lI ((keyR t).map H.g), .int 0, .none]) rfl
 have h := am1 (fn := lv (k + 1)) (F := fsOf (lv k) dL 12) (xs := prL H sh) (c := prC H t) (L := L) ajQ rfl h1 (fun m hm => hL _ _ _ m hm) (by rw [aaW]; exact h2) (by rw [aaW]; omega)
 have e := adH (prC H) sh (lowN sh (keyR t)) t
 have e : insG (prL H sh) (lowN sh (keyR t)) (prC H t) = prL H (insG sh (tlL sh t) t) := e
 rw [e] at h
 exact h
end
noncomputable def pdT (H : HP) (k : Nat) (t : List Nat) (r : List (Str × Slot)) : List (Str × Slot) := ct H k t (("pair", .val (prC H t)) :: r)
section
variable {fn : Str -> Option FS} {H : HP} {m : Nat} {ty : SS} {td : CV} {bs : List Nat} {pa rs gs sh le ri : List (List Nat)} {w al k : Nat} {sd : List Bool} {t : List Nat}
set_option tactic.hygienic false
theorem beq1 (k : Nat) : (((k : Nat) : Int) == 1) = Nat.beq k 1 := by
 rcases k with _ | _ | k
 · rfl
 · rfl
 · refine (beq_eq_false_iff_ne.mpr (by omega)).trans ?_
   rfl
theorem ah0 (l : List (List Nat)) (t : List Nat) : prL H l ++ [prC H t] = prL H (l ++ [t]) := by unfold prL; rw [List.map_append]; rfl
theorem s_3t : (sem (GF fn) 18).it (ifT (stA b27 3)) (E26 H m ty td bs pa w al rs sd gs sh le ri (pdT H k t [])) = some (Nat.beq (k % 2) 1, E26 H m ty td bs pa w al rs sd gs sh le ri (pdT H k t [])) :=
 aaB (x := .int (k % 2 : Nat)) (y := .int 1) (by ext) (aaq (a := .val (.int (k % 2 : Nat))) (b := .val (.int 1)) (aaD (x := .int k) (y := .int 2) (by ext) (modC (m := 2) (by decide))) (by ext) rfl rfl) (congrArg some (beq1 _))
set_option tactic.hygienic true
theorem s_3l {F : FS} (hf : fn nIL = some F) (hb : F.bor = some 0) (hl : le.length ≤ 80) (hr : F.run [.list (prL H sh), prC H t] [("key", .lam lam27l)] = some (.none, .list (prL H (insG sh (tlL sh t) t)))) :
 (sem (GF fn) 18).xss (ifB (stA b27 3)) (E26 H m ty td bs pa w al rs sd gs sh le ri (pdT H k t [])) = some (.next, E26 H m ty td bs pa w al rs sd gs (insG sh (tlL sh t) t) (t :: le) ri (pdT H k t [("done", .val .none)])) := by
 have hbody : ifB (stA b27 3) = [stA (ifB (stA b27 3)) 0, stA (ifB (stA b27 3)) 1] := by ext
 have hi := insC (i := 0) (xs := prL H le) (c := prC H t) (Nat.zero_le _) (by rw [aaW]; omega)
 have e : insAt (prL H le) 0 (prC H t) = prL H (t :: le) := rfl
 rw [e] at hi
 rw [hbody]
 refine aaa (aaV (by ext) (abw (x := "lefts") (c0 := .list (prL H le)) (k := .insert) (avs := [.val (.int 0), .val (prC H t)]) (cs := [.int 0, prC H t]) (ob := .list (prL H le)) (ob' := .list (prL H (t :: le))) (ρ1 := E26 H m ty td bs pa w al rs sd gs sh (t :: le) ri (pdT H k t [])) (by ext) (by ext) (by ext) (by ext) (by ext) rfl (aac (by ext) (aac (by ext) aad)) rfl (by ext) hi (by ext))) (aaa ?_ aae)
 refine aal (c := .none) (ρ1 := E26 H m ty td bs pa w al rs sd gs (insG sh (tlL sh t) t) (t :: le) ri (pdT H k t [])) (aaT (aag hf (by ext))) (by ext) (aaF (by ext) (by ext) (aag hf (by ext)) ?_) (by ext) (by ext)
 exact aaj (x := "shelf") (o := .list (prL H sh)) (o' := .list (prL H (insG sh (tlL sh t) t))) (c := .none) (cs := [.none, prC H t]) (kvs := [("key", .lam lam27l)]) (avs := [.ref "shelf", .val (prC H t)]) hb (aac (by ext) (aac (by ext) aad)) (by ext) rfl rfl (by ext) hr (by ext)
theorem s_3r {F : FS} (hf : fn nIR = some F) (hb : F.bor = some 0) (hl : ri.length ≤ 80) (hr : F.run [.list (prL H sh), prC H t] [("key", .lam lam27r)] = some (.none, .list (prL H (insG sh (tlR sh t) t)))) :
 (sem (GF fn) 18).xss (ifO (stA b27 3)) (E26 H m ty td bs pa w al rs sd gs sh le ri (pdT H k t [])) = some (.next, E26 H m ty td bs pa w al rs sd gs (insG sh (tlR sh t) t) le (ri ++ [t]) (pdT H k t [("done", .val .none)])) := by
 have hbody : ifO (stA b27 3) = [stA (ifO (stA b27 3)) 0, stA (ifO (stA b27 3)) 1] := by ext
 have ha := appC (c := prC H t) (show (prL H ri).length ≤ LIM by rw [aaW]; unfold LIM; omega)
 rw [ah0] at ha
 rw [hbody]
 refine aaa (aaV (by ext) (abw (x := "rights") (c0 := .list (prL H ri)) (k := .append) (avs := [.val (prC H t)]) (cs := [prC H t]) (ob := .list (prL H ri)) (ob' := .list (prL H (ri ++ [t]))) (ρ1 := E26 H m ty td bs pa w al rs sd gs sh le (ri ++ [t]) (pdT H k t [])) (by ext) (by ext) (by ext) (by ext) (by ext) rfl (aac (by ext) aad) rfl (by ext) ha (by ext))) (aaa ?_ aae)
 refine aal (c := .none) (ρ1 := E26 H m ty td bs pa w al rs sd gs (insG sh (tlR sh t) t) le (ri ++ [t]) (pdT H k t [])) (aaT (aag hf (by ext))) (by ext) (aaF (by ext) (by ext) (aag hf (by ext)) ?_) (by ext) (by ext)
 exact aaj (x := "shelf") (o := .list (prL H sh)) (o' := .list (prL H (insG sh (tlR sh t) t))) (c := .none) (cs := [.none, prC H t]) (kvs := [("key", .lam lam27r)]) (avs := [.ref "shelf", .val (prC H t)]) hb (aac (by ext) (aac (by ext) aad)) (by ext) rfl rfl (by ext) hr (by ext)
theorem s_4 : (sem (GF fn) 19).xs (stA b27 4) (E26 H m ty td bs pa w al rs sd gs sh le ri (pdT H k t [("done", .val .none)])) = some (.next, E26 H m ty td bs pa w al rs sd gs sh le ri (pdT H k t [("done", .val .none)])) := by ext
variable (K : HOk H)
include K
structure Sh27 (fn : Str -> Option FS) (H : HP) : Prop where
 rd : ∃ F, fn nRd = some F ∧ F.bor = none ∧ ∀ z t, z ∈ besN -> OkT t -> t ≠ [] -> t.length ≤ 9 -> F.run [.str ((chS z).app (jn H.X t))] [] = some (lI (256 :: (keyR t).map H.g), .list [])
 bes : ∃ F, fn nBes = some F ∧ F.bor = none ∧ ∀ k : Nat, ∃ z, z ∈ besN ∧ F.run [.int (Int.fdiv H.R 216 + (k : Int))] [] = some (.str (chS z), .list [])
 il : ∃ F, fn nIL = some F ∧ F.bor = some 0 ∧ ∀ sh t, sh.length ≤ 80 -> F.run [.list (prL H sh), prC H t] [("key", .lam lam27l)] = some (.none, .list (prL H (insG sh (tlL sh t) t)))
 ir : ∃ F, fn nIR = some F ∧ F.bor = some 0 ∧ ∀ sh t, sh.length ≤ 80 -> F.run [.list (prL H sh), prC H t] [("key", .lam lam27r)] = some (.none, .list (prL H (insG sh (tlR sh t) t)))
theorem alT (S : Sh27 fn H) {s' : SS4} (hgo : ∀ t ∈ gs, OkT t) (hgl : gs.length ≤ 80) (h : foldO shelfS (enumN 0 gs) ([], [], [], []) = some s') :
 (sem (GF fn) 20).xs (lawS 27) (E26 H m ty (lI (256 :: H.q.map H.g)) bs pa w al rs sd gs [] [] [] []) = some (.next, E26 H m ty (tdC H s'.2.2.2) bs pa w al rs sd gs s'.1 s'.2.1 s'.2.2.1 []) := by
 obtain ⟨Fr, fr, br, rr⟩ := S.rd
 obtain ⟨Fb, fb, bb, rb⟩ := S.bes
 obtain ⟨Fl, fl, bl, rl⟩ := S.il
 obtain ⟨Fi, fi, bi, ri'⟩ := S.ir
 have hbody : b27 = [stA b27 0, stA b27 1, stA b27 2, stA b27 3, stA b27 4] := by ext
 have hl := abD (step := fun c ρ => match bindT (forT (lawS 27)) c ρ with | some ρ => (sem (GF fn) 19).xssD (news (E26 H m ty (lI (256 :: H.q.map H.g)) bs pa w al rs sd gs [] [] [] [])) b27 ρ | none => none) (v := fun p : Nat × List Nat => .tup [.int (p.1 : Int), tC H.X p.2]) (fr := fun s : SS4 => E26 H m ty (tdC H s.2.2.2) bs pa w al rs sd gs s.1 s.2.1 s.2.2.1 []) (enumN 0 gs) ([], [], [], []) s' (fun s p s2 hm hs => by
  obtain ⟨sh, le, ri, lt⟩ := s
  obtain ⟨k, t⟩ := p
  have hto := hgo t (adM hm)
  unfold shelfS at hs
  obtain ⟨hg, rfl⟩ := abi hs
  rw [Bool.and_eq_true, Bool.and_eq_true, Bool.and_eq_true] at hg
  obtain ⟨⟨⟨g1, g2⟩, g3⟩, g4⟩ := hg
  have g1 := Nat.le_of_ble_eq_true g1
  have g2 := Nat.le_of_ble_eq_true g2
  have g3 := Nat.le_of_ble_eq_true g3
  have g4 : t.length = 4 := Nat.eq_of_beq_eq_true g4
  have hne : t ≠ [] := fun e => by rw [e] at g4; cases g4
  have htd : tdC H t = lI (256 :: (keyR t).map H.g) := by cases t with | nil => exact absurd rfl hne | cons _ _ => rfl
  obtain ⟨z, hz, hrz⟩ := rb k
  have h0 := s_0 (H := H) (m := m) (ty := ty) (td := tdC H lt) (bs := bs) (pa := pa) (rs := rs) (gs := gs) (sh := sh) (le := le) (ri := ri) (w := w) (al := al) (sd := sd) (t := t) (by omega) fr br (rr z t hz hto hne (by omega)) fb bb hrz
  have h3 := s_3t (fn := fn) (H := H) (m := m) (ty := ty) (td := lI (256 :: (keyR t).map H.g)) (bs := bs) (pa := pa) (rs := rs) (gs := gs) (sh := sh) (le := le) (ri := ri) (w := w) (al := al) (sd := sd) (t := t) (k := k)
  show (match bindT (forT (lawS 27)) (.tup [.int (k : Int), tC H.X t]) (E26 H m ty (tdC H lt) bs pa w al rs sd gs sh le ri []) with | some ρ => (sem (GF fn) 19).xssD (news (E26 H m ty (lI (256 :: H.q.map H.g)) bs pa w al rs sd gs [] [] [] [])) b27 ρ | none => none) = _
  rw [alQ, hbody]
  cases hk : Nat.beq (k % 2) 1 with
  | true =>
   rw [hk] at h3
   dsimp only
   rw [htd]
   exact aau (aaa h0 (aaa (s_1 K hto (by omega)) (aaa (s_2 (by omega)) (aaa (aaH h3 (s_3l fl bl g2 (rl sh t g1))) (aaa s_4 aae))))) (by ext)
  | false =>
   rw [hk] at h3
   dsimp only
   rw [htd]
   exact aau (aaa h0 (aaa (s_1 K hto (by omega)) (aaa (s_2 (by omega)) (aaa (aaz h3 (s_3r fi bi g3 (ri' sh t g1))) (aaa s_4 aae))))) (by ext)) h
 refine aba (cs := (enumN 0 gs).map fun p : Nat × List Nat => .tup [.int (p.1 : Int), tC H.X p.2]) (ρ1 := E26 H m ty (lI (256 :: H.q.map H.g)) bs pa w al rs sd gs [] [] [] []) ?_ hl
 rw [<- adL]
 exact act (cs := gC H.X gs) (by ext) (by ext) (by ext) (by unfold gC LIM; rw [List.length_map]; omega)
end
section
variable {G : GE} {n : Nat} {ρ ρ1 ρ2 : CE}
set_option tactic.hygienic false
theorem ajY {f l a : Expr} {args : List Expr} {kws : List Keyword} {pos : Pos} {cs : List CV} {L : Lam} {ks : List (List Int)} {p : List Nat} (hm : mkOf G ρ (.Call f args kws pos) = .sortK a l) (h1 : (sem G n).evf a ρ = some (.list cs, ρ)) (h2 : (sem G n).ev l ρ = some (.val (.lam L), ρ)) (h3 : (sem G n).keysOf L cs = some ks) (h4 : sortP ks = some p) (h5 : cs.length ≤ 63) :
 (sem G (n + 1)).ev (.Call f args kws pos) ρ = some (.val (.list (pickL cs p)), ρ) := by
 rw [aaI]
 dsimp only [stepS]
 unfold evStep
 rw [hm]
 dsimp only
 unfold SM.make
 dsimp only
 rw [h1]
 dsimp only [cvList]
 rw [h2]
 dsimp only [cvLam]
 rw [h3]
 dsimp only
 rw [h4]
 dsimp only
 rw [Nat.ble_eq_true_of_le h5]
 rfl
theorem agQ {H : HP} {L : Lam} (hL : IsKey L) (hn : 4 ≤ n) : ∀ ts : List (List Nat), (sem G n).keysOf L (prL H ts) = some ((ts.map keyR).map fun z => z.map H.g)
 | [] => rfl
 | t :: r => by
  show (sem G n).keysOf L (prC H t :: prL H r) = _
  unfold SM.keysOf
  rw [show (sem G n).callLam L [prC H t] = some (lI ((keyR t).map H.g)) from hL G _ _ n hn]
  dsimp only [cvList, lI]
  rw [abh]
  dsimp only
  rw [agQ hL hn r]
  rfl
end
set_option tactic.hygienic false
theorem afq {g : Nat -> Int} (ks : List (List Nat)) (i : Nat) : (ks.map fun z => z.map g).getD i [] = (ks.getD i []).map g := by
 rw [List.getD_eq_getElem?_getD, List.getD_eq_getElem?_getD, List.getElem?_map]
 cases ks[i]? <;> rfl
theorem ah1 {g : Nat -> Int} (hg : Rise g) (ks : List (List Nat)) : sortP (ks.map fun z => z.map g) = sortN ks := by
 unfold sortP sortN
 have e : ltAt (ks.map fun z => z.map g) = ltNAt ks := by
  funext i j
  unfold ltAt ltNAt
  rw [afq, afq, abY hg]
 rw [e, List.length_map]
 all_goals rfl
theorem agR {H : HP} (l : List (List Nat)) : ∀ p : List Nat, (∀ i ∈ p, i < l.length) -> pickL (prL H l) p = prL H (p.map fun i => l.getD i [])
 | [], _ => rfl
 | i :: r, h => by
  have hi := h i (.head _)
  show (prL H l).getD i .none :: pickL (prL H l) r = prC H (l.getD i []) :: prL H (r.map fun i => l.getD i [])
  rw [agR l r fun j hj => h j (.tail _ hj)]
  congr 1
  unfold prL
  rw [List.getD_eq_getElem?_getD, List.getD_eq_getElem?_getD, List.getElem?_map, List.getElem?_eq_getElem hi]
  rfl
theorem agS : ∀ {a b : List Nat}, beqL a b = true -> a = b
 | [], [], _ => rfl
 | [], _ :: _, h => by cases h
 | _ :: _, [], h => by cases h
 | x :: r, y :: t, h => by
  have h := Bool.and_eq_true_iff.mp (show (Nat.beq x y && beqL r t) = true from h)
  rw [Nat.eq_of_beq_eq_true h.1, agS h.2]
theorem afr : ∀ {a b : List (List Nat)}, beqLL a b = true -> a = b
 | [], [], _ => rfl
 | [], _ :: _, h => by cases h
 | _ :: _, [], h => by cases h
 | x :: r, y :: t, h => by
  have h := Bool.and_eq_true_iff.mp (show (beqL x y && beqLL r t) = true from h)
  rw [agS h.1, afr h.2]
theorem adn {X : Nat -> C10} {k : Nat} : ∀ t : List Nat, eqAll (eqN (k + 1)) (t.map fun c => .str (X c).v) (t.map fun c => .str (X c).v) = some true
 | [] => rfl
 | c :: r => by
  rw [List.map_cons, acN, adn r]
  show some (((X c).v.s == (X c).v.s) && true) = _
  rw [beq_self_eq_true]
  rfl
theorem alU {H : HP} (t : List Nat) : eqN 3 (prC H t) (prC H t) = some true := by
 have h1 : eqN 2 (lI ((keyR t).map H.g)) (lI ((keyR t).map H.g)) = some true := by
  show (match (((keyR t).map H.g).map CV.int).length == (((keyR t).map H.g).map CV.int).length with | true => eqAll (eqN 1) (((keyR t).map H.g).map CV.int) (((keyR t).map H.g).map CV.int) | false => some false) = _
  rw [beq_self_eq_true]
  exact acv _
 have h2 : eqN 2 (tC H.X t) (tC H.X t) = some true := by
  show (match (t.map fun c => CV.str (H.X c).v).length == (t.map fun c => CV.str (H.X c).v).length with | true => eqAll (eqN 1) (t.map fun c => CV.str (H.X c).v) (t.map fun c => CV.str (H.X c).v) | false => some false) = _
  rw [beq_self_eq_true]
  exact adn t
 show (match eqN 2 (lI ((keyR t).map H.g)) (lI ((keyR t).map H.g)) with | none => none | some a => match (match eqN 2 (tC H.X t) (tC H.X t) with | none => none | some a => match some true with | none => none | some b => some (a && b)) with | none => none | some b => some (a && b)) = _
 rw [h1, h2]
 rfl
theorem aef {H : HP} : ∀ ts : List (List Nat), eqAll (eqN 3) (prL H ts) (prL H ts) = some true
 | [] => rfl
 | t :: r => by
  show eqAll (eqN 3) (prC H t :: prL H r) (prC H t :: prL H r) = _
  rw [acN, alU, aef r]
  rfl
theorem alV {H : HP} (ts : List (List Nat)) : cmpC .NotEq (.list (prL H ts)) (.list (prL H ts)) = some false := by
 show onot (match (prL H ts).length == (prL H ts).length with | true => eqAll (eqN 3) (prL H ts) (prL H ts) | false => some false) = _
 rw [beq_self_eq_true]
 show onot (eqAll (eqN 3) (prL H ts) (prL H ts)) = _
 rw [aef]
 rfl
noncomputable def lam28 : Lam := lamE (kwE (cmpR (ifT (lawS 28))))
noncomputable def lam29 : Lam := lamE (kwE (cmE (lawS 29)))
noncomputable def lam30 : Lam := lamE (kwE (cmE (lawS 30)))
theorem alW : IsKey lam28 := fun G a b m h => by
 obtain ⟨j, rfl⟩ := Nat.exists_eq_add_of_le' h
 ext
theorem alX : IsKey lam29 := fun G a b m h => by
 obtain ⟨j, rfl⟩ := Nat.exists_eq_add_of_le' h
 ext
theorem alY : IsKey lam30 := fun G a b m h => by
 obtain ⟨j, rfl⟩ := Nat.exists_eq_add_of_le' h
 ext
section
variable {fn : Str -> Option FS} {H : HP} {m : Nat} {ty : SS} {td : CV} {bs : List Nat} {pa rs gs sh le ri : List (List Nat)} {w al k : Nat} {sd : List Bool} {t : List Nat} (K : HOk H)
include K in
theorem alZ {p : List Nat} (hs : sortN ((le ++ ri).map keyR) = some p) (hp : ∀ i ∈ p, i < (le ++ ri).length) (he : sh = p.map fun i => (le ++ ri).getD i []) (hl : (le ++ ri).length ≤ 63) :
 (sem (GF fn) 20).xs (lawS 28) (E26 H m ty td bs pa w al rs sd gs sh le ri []) = some (.next, E26 H m ty td bs pa w al rs sd gs sh le ri []) := by
 have hl1 : le.length + ri.length ≤ 63 := by rw [<- List.length_append]; exact hl
 have hadd : binC .Add (.list (prL H le)) (.list (prL H ri)) = some (.list (prL H (le ++ ri))) := by
  rw [addL (by rw [aaW, aaW]; unfold LIM; omega)]
  unfold prL
  rw [List.map_append]
 have hsort : sortP (((le ++ ri).map keyR).map fun z => z.map H.g) = some p := (ah1 (acd K) _).trans hs
 have hpk := agR (H := H) (le ++ ri) p hp
 rw [<- he] at hpk
 have hright : (sem (GF fn) 18).ev (cmpR (ifT (lawS 28))) (E26 H m ty td bs pa w al rs sd gs sh le ri []) = some (.val (.list (prL H sh)), E26 H m ty td bs pa w al rs sd gs sh le ri []) := by
  rw [<- hpk]
  exact ajY (L := lam28) (a := arg0 (cmpR (ifT (lawS 28)))) (l := kwE (cmpR (ifT (lawS 28)))) (by ext) (abB (a := .val (.list (prL H (le ++ ri)))) (ρ1 := E26 H m ty td bs pa w al rs sd gs sh le ri []) (aaD (aaq (a := .ref "lefts") (b := .ref "rights") (by ext) (by ext) (by ext) (by ext)) hadd) rfl) (by ext) (agQ alW (by decide) _) hsort (by rw [aaW]; exact hl)
 exact aaz (ρ1 := E26 H m ty td bs pa w al rs sd gs sh le ri []) (aaB (x := .list (prL H sh)) (y := .list (prL H sh)) (by ext) (aaq (a := .ref "shelf") (b := .val (.list (prL H sh))) (by ext) hright (by ext) rfl) (alV sh)) (by ext)
noncomputable def E30 (H : HP) (m : Nat) (ty : SS) (td : CV) (bs : List Nat) (pa : List (List Nat)) (w al : Nat) (rs : List (List Nat)) (sd : List Bool) (gs : List (List Nat)) (sh le ri : List (List Nat)) (lo up : Nat) (r : List (Str × Slot)) : CE :=
 E26 H m ty td bs pa w al rs sd gs sh le ri (("below", .val (.int (lo : Int))) :: ("upto", .val (.int (up : Int))) :: r)
set_option tactic.hygienic true
theorem al0 {F : FS} {lo : Nat} (hf : fn nBL = some F) (hb : F.bor = some 0) (hr : F.run [.list (prL H sh), gI H.g H.q] [("key", .lam lam29)] = some (.int (lo : Int), .list (prL H sh))) :
 (sem (GF fn) 20).xs (lawS 29) (E26 H m ty td bs pa w al rs sd gs sh le ri []) = some (.next, E26 H m ty td bs pa w al rs sd gs sh le ri [("below", .val (.int (lo : Int)))]) := by
 refine aal (c := .int (lo : Int)) (ρ1 := E26 H m ty td bs pa w al rs sd gs sh le ri []) (aaT (aag hf (by ext))) (by ext) (aaF (by ext) (by ext) (aag hf (by ext)) ?_) (by ext) (by ext)
 exact aaj (x := "shelf") (o := .list (prL H sh)) (o' := .list (prL H sh)) (c := .int (lo : Int)) (cs := [.none, gI H.g H.q]) (kvs := [("key", .lam lam29)]) (avs := [.ref "shelf", .val (gI H.g H.q)]) hb (aac (by ext) (aac (by ext) aad)) (by ext) rfl rfl (by ext) hr (by ext)
theorem al1 {F : FS} {lo up : Nat} (hf : fn nBR = some F) (hb : F.bor = some 0) (hr : F.run [.list (prL H sh), gI H.g H.q] [("key", .lam lam30)] = some (.int (up : Int), .list (prL H sh))) :
 (sem (GF fn) 20).xs (lawS 30) (E26 H m ty td bs pa w al rs sd gs sh le ri [("below", .val (.int (lo : Int)))]) = some (.next, E30 H m ty td bs pa w al rs sd gs sh le ri lo up []) := by
 refine aal (c := .int (up : Int)) (ρ1 := E26 H m ty td bs pa w al rs sd gs sh le ri [("below", .val (.int (lo : Int)))]) (aaT (aag hf (by ext))) (by ext) (aaF (by ext) (by ext) (aag hf (by ext)) ?_) (by ext) (by ext)
 exact aaj (x := "shelf") (o := .list (prL H sh)) (o' := .list (prL H sh)) (c := .int (up : Int)) (cs := [.none, gI H.g H.q]) (kvs := [("key", .lam lam30)]) (avs := [.ref "shelf", .val (gI H.g H.q)]) hb (aac (by ext) (aac (by ext) aad)) (by ext) rfl rfl (by ext) hr (by ext)
theorem al2 {lo up : Nat} (h1 : up = al) (h2 : lo + w = al) : (sem (GF fn) 20).xs (lawS 31) (E30 H m ty td bs pa w al rs sd gs sh le ri lo up []) = some (.next, E30 H m ty td bs pa w al rs sd gs sh le ri lo up []) := by
 refine aaz (ρ1 := E30 H m ty td bs pa w al rs sd gs sh le ri lo up []) (it_bool.trans (acJ (ρ1 := E30 H m ty td bs pa w al rs sd gs sh le ri lo up []) (aaB (x := .int (up : Int)) (y := .int (al : Int)) (by ext) (by ext) (agO (by rw [h1]))) (acJ (ρ1 := E30 H m ty td bs pa w al rs sd gs sh le ri lo up []) (aaB (x := .int (lo : Int)) (y := .int ((al : Int) - (w : Int))) (by ext) (by ext) (agO (by omega))) ae6))) (by ext)
noncomputable def E32 (H : HP) (m : Nat) (ty : SS) (td : CV) (bs : List Nat) (pa : List (List Nat)) (w al : Nat) (rs : List (List Nat)) (sd : List Bool) (gs : List (List Nat)) (sh le ri : List (List Nat)) (lo up c : Nat) (r : List (Str × Slot)) : CE :=
 E30 H m ty td bs pa w al rs sd gs sh le ri lo up (("first", .val (.str (H.X c).v)) :: r)
theorem al3 {lo up : Nat} {r : List Nat} {rt : List (List Nat)} (hr : rs = r :: rt) (hl : rs.length ≤ 80) (h0 : r ≠ []) (hrl : r.length ≤ 9) : (sem (GF fn) 20).xs (lawS 32) (E30 H m ty td bs pa w al rs sd gs sh le ri lo up []) = some (.next, E32 H m ty td bs pa w al rs sd gs sh le ri lo up (headN r) []) := by
 have h1 : subC (.list (gC H.X rs)) (.int 0) = some (tC H.X r) := by
  rw [hr]
  exact abz (m := 0) rfl (by unfold gC; rw [List.length_map, <- hr]; omega)
 exact aal (c := .str (H.X (headN r)).v) (ρ1 := E30 H m ty td bs pa w al rs sd gs sh le ri lo up []) (by ext) (by ext) (abW (a := tC H.X r) (b := .int 0) (aaq (a := .val (tC H.X r)) (b := .val (.int 0)) (abW (a := .list (gC H.X rs)) (b := .int 0) (by ext) h1) (by ext) rfl rfl) (aeO h0 (by omega))) (by ext) (by ext)
end
noncomputable def subL : Expr -> Expr | .Subscript e _ _ => e | e => e
noncomputable def retE : Stmt -> Expr | .Return (some e) _ => e | _ => default
noncomputable def c33 : Expr := subL (cmE (lawS 33))
noncomputable def c35 : Expr := cmpL (retE (lawS 35))
noncomputable def fr33 (f : SS) (o : Option CV) : CE := ⟨cmSc c33, ("first", .val (.str f)) :: ("operators", .val opsV) :: spO o⟩
noncomputable def anO (o : Option Bool) : List (Str × Slot) := match o with
 | none => []
 | some b => [("answer", .val (.bool b))]
noncomputable def fr35 (o : Option Bool) : CE := ⟨cmSc c35, anO o⟩
set_option tactic.hygienic false
theorem afQ {x : SS} {m : Nat} {r : List Nat} (h : cl x.s = m :: r) : subC (.str x) (.int 0) = some (.str (chS m)) := by
 have hl : x.s.length = r.length + 1 := by rw [<- aaE, h]; rfl
 have e : seqIndex? 0 x.s.length = some 0 := by unfold seqIndex?; rw [hl]; simp
 have g : x.s.cps[0]? = some m := by
  have : x.s.cps.toList[0]? = some m := by show (cl x.s)[0]? = some m; rw [h]; rfl
  simpa using this
 show (match (seqIndex? 0 x.s.length).bind (x.s.cps[·]?) with | some c => _ | none => _) = _
 rw [e]
 show (match x.s.cps[0]? with | some c => _ | none => _) = _
 rw [g]
 rfl
section
variable {fn : Str -> Option FS} {H : HP} {m : Nat} {ty : SS} {td : CV} {bs : List Nat} {pa rs gs sh le ri : List (List Nat)} {w al lo up c : Nat} {sd : List Bool} {t : List Nat} (K : HOk H)
noncomputable def E33 (H : HP) (m : Nat) (ty : SS) (td : CV) (bs : List Nat) (pa : List (List Nat)) (w al : Nat) (rs : List (List Nat)) (sd : List Bool) (gs : List (List Nat)) (sh le ri : List (List Nat)) (lo up c : Nat) (o : CV) (r : List (Str × Slot)) : CE :=
 E32 H m ty td bs pa w al rs sd gs sh le ri lo up c (("other", .val o) :: r)
include K
set_option tactic.hygienic false
theorem al4 {r s : Nat} (hr : r < 3) (hs : s < 3) : (H.O r == H.O s) = Nat.beq r s := by
 cases e : Nat.beq r s with
 | true => rw [Nat.eq_of_beq_eq_true e]; exact beq_self_eq_true _
 | false =>
  refine beq_eq_false_iff_ne.mpr fun q => ?_
  have h3 := K.ov r hr
  rw [q, K.ov s hs] at h3
  have h4 : H.g r = H.g s := by unfold HP.g; omega
  rw [(acd K).inj h4, Nat.beq_refl] at e
  cases e
set_option tactic.hygienic true
theorem al5 : ∃ r, r < 3 ∧ r ≠ c % 3 ∧ (sem (GF fn) 20).xs (lawS 33) (E32 H m ty td bs pa w al rs sd gs sh le ri lo up c []) = some (.next, E33 H m ty td bs pa w al rs sd gs sh le ri lo up c (.str (so (H.O r) (H.hO r))) []) := by
 obtain ⟨dr, hd, hdl, hd3, hdn⟩ := K.dr
 have hc3 : c % 3 < 3 := Nat.mod_lt _ (by decide)
 have hx : (midS (H.X c).v).s = H.O (c % 3) := adh (aiS (show cl (H.X c).v.s = sgL (H.M (c / 3)) (cl (H.O (c % 3))) from cl_X H c))
 obtain ⟨o', h⟩ := abo (step := compL (sem (GF fn) 17) (cmElt c33) (cmG c33)) (v := fun r => .int (H.F r : Int)) (w := fun r => match Nat.beq r (c % 3) with | true => none | false => some (.str (so (H.O r) (H.hO r)))) (fr := fun o : Option Nat => fr33 (H.X c).v (o.map fun r => .int (H.F r : Int))) dr none [] (fun o r acc hm hl => by
  have hr := hd3 r hm
  have ho := K.op r hr
  have hbind : bindT (cmG c33).target (.int (H.F r : Int)) (fr33 (H.X c).v (o.map fun r => .int (H.F r : Int))) = some (fr33 (H.X c).v (some (.int (H.F r : Int)))) := by cases o <;> ext
  have hop : ∀ n, (sem (GF fn) (n + 3)).ev (cmElt c33) (fr33 (H.X c).v (some (.int (H.F r : Int)))) = some (.val (.str (so (H.O r) (H.hO r))), fr33 (H.X c).v (some (.int (H.F r : Int)))) := fun n => abA (a := opsV) (b := .int (H.F r)) (by ext) (abz ho (by decide))
  have hne : cmpC .NotEq (.str (so (H.O r) (H.hO r))) (.str (midS (H.X c).v)) = some (!Nat.beq r (c % 3)) := by
   show onot (some (H.O r == (midS (H.X c).v).s)) = _
   rw [hx, al4 K hr hc3]
   rfl
  have htest : (sem (GF fn) 17).it (match (cmG c33).ifs with | e :: _ => e | [] => default) (fr33 (H.X c).v (some (.int (H.F r : Int)))) = some (!Nat.beq r (c % 3), fr33 (H.X c).v (some (.int (H.F r : Int)))) :=
   aaB (x := .str (so (H.O r) (H.hO r))) (y := .str (midS (H.X c).v)) (by ext) (aaq (a := .val (.str (so (H.O r) (H.hO r)))) (b := .val (.str (midS (H.X c).v))) (abA (a := opsV) (b := .int (H.F r)) (by ext) (abz ho (by decide))) (by ext) rfl rfl) hne
  cases e : Nat.beq r (c % 3) with
  | true =>
   rw [e] at htest
   rw [Option.toList_none, List.append_nil]
   exact acu hbind (afi htest)
  | false =>
   rw [e] at htest
   exact aa3 hbind (afi htest) (hop 14) hl) (by show 0 + _ ≤ LIM; unfold LIM; omega)
 rw [List.nil_append] at h
 obtain ⟨r1, hr1, hn1⟩ := hdn (c % 3)
 have hex : ∃ r, r < 3 ∧ r ≠ c % 3 ∧ ∃ l, (dr.filterMap fun r => match Nat.beq r (c % 3) with | true => none | false => some (CV.str (so (H.O r) (H.hO r)))) = .str (so (H.O r) (H.hO r)) :: l := by
  clear h hd hdn
  induction dr with
  | nil => cases hr1
  | cons x t ih =>
   cases e : Nat.beq x (c % 3) with
   | false => exact ⟨x, hd3 x (.head _), fun q => (by rw [q, Nat.beq_refl] at e; cases e), t.filterMap fun r => match Nat.beq r (c % 3) with | true => none | false => some (CV.str (so (H.O r) (H.hO r))), by rw [List.filterMap_cons, e]⟩
   | true =>
    rcases List.mem_cons.mp hr1 with q | q
    · rw [<- q] at e; exact absurd (Nat.eq_of_beq_eq_true e) hn1
    · obtain ⟨r, h1, h2, l, h3⟩ := ih (by simp only [List.length_cons] at hdl; omega) (fun r hr => hd3 r (.tail _ hr)) q
      exact ⟨r, h1, h2, l, by rw [List.filterMap_cons, e]; exact h3⟩
 have hlen : (dr.filterMap fun r => match Nat.beq r (c % 3) with | true => none | false => some (CV.str (so (H.O r) (H.hO r)))).length ≤ 80 := Nat.le_trans (List.length_filterMap_le _ _) hdl
 obtain ⟨r, h1, h2, l, h3⟩ := hex
 rw [h3] at h hlen
 refine ⟨r, h1, h2, ?_⟩
 refine aal (c := .str (so (H.O r) (H.hO r))) (ρ1 := E32 H m ty td bs pa w al rs sd gs sh le ri lo up c []) (by ext) (by ext) (abW (a := .list (.str (so (H.O r) (H.hO r)) :: l)) (b := .int 0) (aaq (a := .val (.list (.str (so (H.O r) (H.hO r)) :: l))) (b := .val (.int 0)) (abP (abG (l0 := [("first", .val (.str (H.X c).v)), ("operators", .val opsV)]) (l := [("first", .val (.str (H.X c).v)), ("operators", .val opsV)]) (its := dr.map fun r => .int (H.F r : Int)) (ρ2 := fr33 (H.X c).v (o'.map fun r => .int (H.F r : Int))) (by ext) (by ext) ?_ (by ext) h)) (by ext) rfl rfl) (abz (m := 0) rfl (by omega))) (by ext) (by ext)
 refine aaA (c := .list (dr.map fun r => .int (H.F r : Int))) (by ext) ?_ rfl (Nat.ble_eq_true_of_le (by rw [List.length_map]; unfold LIM; omega))
 rw [<- aeR, <- hd]
 ext
omit K in
theorem al6 {F : FS} {o : Str} {ho : o.length ≤ 8} {a b c' d : Nat} {sd' : List Bool} (hf : fn nTold = some F) (hb : F.bor = some 3) (hg : ∃ g0, gs = g0 ++ [[a, b, c', d]]) (hl : gs.length ≤ 80)
 (hr : F.run [tC H.X [a, b, c', d], .str (H.X c).v, .str (so o ho), .list (sdC sd)] [] = some (.bool true, .list (sdC sd'))) :
 (sem (GF fn) 20).xs (lawS 34) (E33 H m ty td bs pa w al rs sd gs sh le ri lo up c (.str (so o ho)) []) = some (.next, E33 H m ty td bs pa w al rs sd' gs sh le ri lo up c (.str (so o ho)) []) := by
 obtain ⟨g0, hg⟩ := hg
 have hlast : subC (.list (gC H.X gs)) (.int (-1)) = some (tC H.X [a, b, c', d]) := by
  rw [hg, <- aeM]
  refine adC ?_
  have := congrArg List.length hg
  rw [List.length_append] at this
  unfold gC
  rw [List.length_map]
  omega
 refine aaz (ρ1 := E33 H m ty td bs pa w al rs sd' gs sh le ri lo up c (.str (so o ho)) []) (aiH (t := true) (adJ (c := .bool true) (aaF (by ext) (by ext) (aag hf (by ext)) ?_) rfl)) (by ext)
 exact aaj (x := "said") (o := .list (sdC sd)) (o' := .list (sdC sd')) (c := .bool true) (cs := [tC H.X [a, b, c', d], .str (H.X c).v, .str (so o ho), .none]) (kvs := []) (avs := [.val (tC H.X [a, b, c', d]), .val (.str (H.X c).v), .val (.str (so o ho)), .ref "said"]) hb
  (aac (adB (a := .list (gC H.X gs)) (b := .int (-1)) (by ext) hlast) (aac (by ext) (aac (by ext) (aac (by ext) aad)))) (by ext) rfl rfl (by ext) hr (by ext)
set_option tactic.hygienic false
omit K in
theorem al7 {o : CV} (hs : sd.length ≤ 90000) : (sem (GF fn) 20).xs (lawS 35) (E33 H m ty td bs pa w al rs sd gs sh le ri lo up c o []) = some (.ret (.bool true), E33 H m ty td bs pa w al rs sd gs sh le ri lo up c o []) := by
 obtain ⟨o', h⟩ := abo (step := compL (sem (GF fn) 17) (cmElt c35) (cmG c35)) (v := CV.bool) (w := fun _ => none) (fr := fr35) sd none [] (fun o b acc hm hl => by
  rw [Option.toList_none, List.append_nil]
  refine acu (ρ1 := fr35 (some b)) ?_ (afi (t := false) (ρ1 := fr35 (some b)) ?_)
  · cases o <;> ext
  · cases b <;> ext) (by show 0 + _ ≤ LIM; unfold LIM; omega)
 have hn : sd.filterMap (fun _ => (none : Option CV)) = [] := List.filterMap_eq_nil_iff.mpr fun _ _ => rfl
 rw [hn, List.nil_append] at h
 refine ab6 (abB (a := .val (.bool true)) (ρ1 := E33 H m ty td bs pa w al rs sd gs sh le ri lo up c o []) (adg (x := .list []) (y := .list []) (by ext) (aaq (a := .val (.list [])) (b := .val (.list [])) (abP (abG (l0 := []) (l := []) (its := sdC sd) (ρ2 := fr35 o') (by ext) (by ext) ?_ (by ext) h)) (by ext) rfl rfl) rfl) rfl)
 exact aaA (c := .list (sdC sd)) (by ext) (by ext) rfl (Nat.ble_eq_true_of_le (by rw [aeQ]; unfold LIM; omega))
end
set_option tactic.hygienic false
theorem ah2 {a b c d : Nat} (ha : a < 3) (hb : b < 3) (hc : c < 3) (hd : d < 3) : [a, b, c, d] ∈ allQ := by
 have m : ∀ {x : Nat}, x < 3 -> x ∈ [0, 1, 2] := fun {x} h => by
  rcases x with _ | _ | _ | x
  · exact .head _
  · exact .tail _ (.head _)
  · exact .tail _ (.tail _ (.head _))
  · omega
 exact List.mem_flatMap.mpr ⟨a, m ha, List.mem_flatMap.mpr ⟨b, m hb, List.mem_flatMap.mpr ⟨c, m hc, List.mem_map.mpr ⟨d, m hd, rfl⟩⟩⟩⟩
theorem al8 {q : List Nat} (hl : q.length = 4) (hq : ∀ r ∈ q, r < 3) : ∃ o, outF q = some o ∧ okO q o = true := by
 obtain ⟨a, b, c, d, rfl⟩ : ∃ a b c d, q = [a, b, c, d] := by
  rcases q with _ | ⟨a, _ | ⟨b, _ | ⟨c, _ | ⟨d, _ | ⟨e, r⟩⟩⟩⟩⟩
  · cases hl
  · cases hl
  · cases hl
  · cases hl
  · exact ⟨a, b, c, d, rfl⟩
  · simp only [List.length_cons] at hl; omega
 have h := List.all_eq_true.mp ajM _ (ah2 (hq a (by simp)) (hq b (by simp)) (hq c (by simp)) (hq d (by simp)))
 unfold chkF at h
 cases e : outF [a, b, c, d] with
 | none => rw [e] at h; cases h
 | some o => rw [e] at h; exact ⟨o, rfl, h⟩
theorem agT {q : List Nat} {o : Out} (h : outF q = some o) : begF q = some o.bs ∧ rowsF (partsN q o.bs) = some o.ks ∧ laidF o.ks.2.2.1 = some o.gs ∧ foldO (endS o.ks.2.2.1) (enumN 0 o.gs.1) o.gs.2 = some o.sd ∧ foldO shelfS (enumN 0 o.gs.1) ([], [], [], []) = some o.sh := by
 unfold outF at h
 cases e1 : begF q with
 | none => rw [e1] at h; cases h
 | some bs =>
  rw [e1] at h
  dsimp only at h
  cases e2 : rowsF (partsN q bs) with
  | none => rw [e2] at h; cases h
  | some ks =>
   rw [e2] at h
   dsimp only at h
   cases e3 : laidF ks.2.2.1 with
   | none => rw [e3] at h; cases h
   | some gs =>
    rw [e3] at h
    dsimp only at h
    cases e4 : foldO (endS ks.2.2.1) (enumN 0 gs.1) gs.2 with
    | none => rw [e4] at h; cases h
    | some sd =>
     rw [e4] at h
     dsimp only at h
     cases e5 : foldO shelfS (enumN 0 gs.1) ([], [], [], []) with
     | none => rw [e5] at h; cases h
     | some sh =>
      rw [e5] at h
      obtain rfl := Option.some.inj h
      exact ⟨rfl, e2, e3, e4, e5⟩
theorem ah3 {q bs : List Nat} (hb : bs.length ≤ 4) (hq : ∀ r ∈ q, r < 3) : (partsN q bs).length ≤ 4 ∧ ∀ p ∈ partsN q bs, ∀ r ∈ p, r < 3 := by
 unfold partsN
 refine ⟨by rw [List.length_map, List.length_zip]; omega, fun p hp r hr => ?_⟩
 obtain ⟨z, _, rfl⟩ := List.mem_map.mp hp
 exact hq r (List.mem_of_mem_take (List.mem_of_mem_drop hr))
theorem ang {a b c d e : C10} {o : Str} {ho : o.length ≤ 8} {m : Nat} : ((caD a b c d e o ho m).map fun x => CV.bool x.2.2) = sdC [true, false, false, true, false, false, false, true, false, false, false, false, true] := rfl
theorem ajZ {H : HP} (K : HOk H) {k : Nat} {bs : List Nat} (h : begF H.q = some bs) : (fsOf (lv (k + 2)) dBeg 12).run [gI H.g H.q] [] = some (.list (inN bs), .list []) := by
 have hg := acd K
 refine ak8 (fn := lv (k + 2)) (F1 := fsOf (lv (k + 1)) dL 12) (F2 := fsOf (lv (k + 1)) iR 12) ajQ rfl (fun ts x hl => (ajE hg hl (args := [.list (tls H.g ts), gI H.g x]) rfl).1) alr rfl (fun ts x hl => ?_) (by rw [K.ql]; decide) h
 obtain ⟨h1, h2⟩ := ajD (fn := lv k) hg hl (args := [.list (tls H.g ts), gI H.g x, .int 0, .none]) rfl
 have h := amZ (fn := lv (k + 1)) (F := fsOf (lv k) dR 12) (xs := tls H.g ts) (c := gI H.g x) ajP rfl h1 (by rw [acs]; exact h2) (by rw [acs]; omega)
 have e : insG (tls H.g ts) (posR ts x) (gI H.g x) = tls H.g (insG ts (posR ts x) x) := adH (gI H.g) ts (posR ts x) x
 rw [e] at h
 exact h
structure Runs (H : HP) : Prop where
 uns : ∀ k : Nat, (fsOf (lv 3) dUns 12).run [.int (H.R + (k : Int) * H.s)] [] = some (.str (chS (H.M k)), .list [])
 bes : ∀ k : Nat, ∃ z, z ∈ besN ∧ (fsOf (lv 3) dBes 12).run [.int (Int.fdiv H.R 216 + (k : Int))] [] = some (.str (chS z), .list [])
theorem aj0 {H : HP} (K : HOk H) (S : Runs H) : ∃ ρ, (sem (GF (lv 4)) 20).xss [lawS 10, lawS 11, lawS 12, lawS 13, lawS 14, lawS 15, lawS 16, lawS 17, lawS 18, lawS 19, lawS 20, lawS 21, lawS 22, lawS 23, lawS 24, lawS 25, lawS 26, lawS 27, lawS 28, lawS 29, lawS 30, lawS 31, lawS 32, lawS 33, lawS 34, lawS 35] (H.B []) = some (.ret (.bool true), ρ) := by
 refine hid fun z0 => ?_
 obtain ⟨o, ho, hok⟩ := al8 K.ql K.q
 obtain ⟨e1, e2, e3, e4, e5⟩ := agT ho
 unfold okO at hok
 simp only [Bool.and_eq_true] at hok
 obtain ⟨⟨⟨⟨⟨⟨⟨⟨⟨⟨⟨⟨⟨k1, k2⟩, k3⟩, k4⟩, k5⟩, k6⟩, k7⟩, k8⟩, k9⟩, k10⟩, k11⟩, k12⟩, k13⟩, k14⟩ := hok
 have k1 := Nat.eq_of_beq_eq_true k1
 have k2 := Nat.le_of_ble_eq_true k2
 have k3 := Nat.le_of_ble_eq_true k3
 have k4 := Nat.le_of_ble_eq_true k4
 have k5 := Nat.le_of_ble_eq_true k5
 have k6 := Nat.le_of_ble_eq_true k6
 have k8 := Nat.eq_of_beq_eq_true k8
 have k9 := Nat.eq_of_beq_eq_true k9
 have k12 := Nat.le_of_ble_eq_true k12
 have k13 := Nat.le_of_ble_eq_true k13
 have k14 := Nat.le_of_ble_eq_true k14
 obtain ⟨hpl, hpq⟩ := ah3 (q := H.q) (bs := o.bs) k6 K.q
 obtain ⟨z, hz, hzr⟩ := S.bes 0
 have hz0 : (fsOf (lv 3) dBes 12).run [.int (Int.fdiv H.R 216)] [] = some (.str (chS z), .list []) := by
  have e : Int.fdiv H.R 216 + ((0 : Nat) : Int) = Int.fdiv H.R 216 := by omega
  rw [e] at hzr
  exact hzr
 have hu0 : (fsOf (lv 3) dUns 12).run [.int H.R] [] = some (.str (chS (H.M 0)), .list []) := by
  have h := S.uns 0
  have e : H.R + ((0 : Nat) : Int) * H.s = H.R := by rw [Int.natCast_zero, Int.zero_mul, Int.add_zero]
  rw [e] at h
  exact h
 have hrow : rowN 0 H.q ≠ [] := fun e => by
  have := congrArg List.length e
  rw [adP, K.ql] at this
  cases this
 have hread := aly K (k := 2) hz (ajW (k := 0) (by decide) K.q) hrow (by rw [adP, K.ql]; decide)
 rw [afp K.q] at hread
 have s10 := alz (fn := lv 4) (H := H) aiN rfl hu0
 have s11 := alA (fn := lv 4) K aiO rfl hz0
 have s12 := alB (fn := lv 4) (m := H.M 0) (ty := (chS z).app (jn H.X (rowN 0 H.q))) K
 have s13 := alC (fn := lv 4) (H := H) (m := H.M 0) (ty := (chS z).app (jn H.X (rowN 0 H.q))) alw rfl hread
 have s14 := alD (fn := lv 4) (m := H.M 0) (ty := (chS z).app (jn H.X (rowN 0 H.q))) K
 have s15 := alE (fn := lv 4) (m := H.M 0) (ty := (chS z).app (jn H.X (rowN 0 H.q))) K alx rfl (ajZ K (k := 1) e1)
 have s16 := alF (fn := lv 4) (m := H.M 0) (ty := (chS z).app (jn H.X (rowN 0 H.q))) K k6
 have s20 := alJ (fn := lv 4) (ty := (chS z).app (jn H.X (rowN 0 H.q))) (bs := o.bs) (pa := partsN H.q o.bs) K aiN rfl (fun k _ => S.uns k) (by omega) hpq e2
 generalize htyp : (chS z).app (jn H.X (rowN 0 H.q)) = ty at s11 s12 s13 s14 s15 s16 s20
 have hro : ∀ r ∈ o.ks.2.2.1, OkT r := fun r hr => by
  have h := List.all_eq_true.mp k11 r hr
  rw [Bool.and_eq_true] at h
  intro x hx
  exact blt_iff.mp (List.all_eq_true.mp h.2 x hx)
 obtain ⟨hgo, hlaid⟩ := laid (fn := lv 3) (F := fsOf (lv 2) dAsk 12) agI rfl (ajU K (k := 1)) (aiL K) hro (by omega) e3
 have hends := ends (fn := lv 3) (F := fsOf (lv 2) dAsk 12) agI rfl (ajV K (k := 1)) (aiL K) hro hgo (by omega) (by omega) e4
 have s21 := alK (fn := lv 4) (H := H) (ty := ty) (bs := o.bs) (pa := partsN H.q o.bs) (s := o.ks)
 have s22 := alL (fn := lv 4) (H := H) (ty := ty) (bs := o.bs) (pa := partsN H.q o.bs) (s := o.ks) (F := fsOf (lv 3) dLaid 12) ajR rfl hlaid
 have s23 := alM (fn := lv 4) (H := H) (m := H.M o.ks.2.2.2) (ty := ty) (td := lI (256 :: H.q.map H.g)) (bs := o.bs) (pa := partsN H.q o.bs) (w := o.ks.1) (F := fsOf (lv 3) dEnds 12) ajS rfl k1 (by omega) hends
 have s27 := alT (fn := lv 4) (m := H.M o.ks.2.2.2) (ty := ty) (bs := o.bs) (pa := partsN H.q o.bs) (rs := o.ks.2.2.1) (w := o.ks.1) (al := o.ks.2.1) (sd := o.sd) K ⟨⟨_, alw, rfl, fun z t hz hto hne hl => aly K (k := 2) hz hto hne hl⟩, ⟨_, aiO, rfl, S.bes⟩, ⟨_, anb, rfl, fun sh t hl => alS K ane (k := 2) hl⟩, ⟨_, alr, rfl, fun sh t hl => alR K anf (k := 2) hl⟩⟩ hgo (by omega) e5
 cases hsort : sortN ((o.sh.2.1 ++ o.sh.2.2.1).map keyR) with
 | none => rw [hsort] at k7; cases k7
 | some p =>
  rw [hsort] at k7
  have k7 := Bool.and_eq_true_iff.mp k7
  have hpi : ∀ i ∈ p, i < (o.sh.2.1 ++ o.sh.2.2.1).length := fun i hi => blt_iff.mp (List.all_eq_true.mp k7.1 i hi)
  have hsh := afr k7.2
  have hlo := (aiV K alX (fn := lv 3) (sh := o.sh.1) (x := H.q) k14 (args := [.list (prL H o.sh.1), gI H.g H.q]) rfl).1
  have hup := (aiU K alY (fn := lv 3) (sh := o.sh.1) (x := H.q) k14 (args := [.list (prL H o.sh.1), gI H.g H.q]) rfl).1
  obtain ⟨r, rt, hrs⟩ : ∃ r rt, o.ks.2.2.1 = r :: rt := by
   cases e : o.ks.2.2.1 with
   | nil => rw [e] at k12; simp at k12
   | cons r rt => exact ⟨r, rt, rfl⟩
  have hrm : r ∈ o.ks.2.2.1 := by rw [hrs]; exact .head _
  have hrne : r ≠ [] := fun e => by
   have h := List.all_eq_true.mp k11 r hrm
   rw [Bool.and_eq_true] at h
   have := Nat.le_of_ble_eq_true (Bool.and_eq_true_iff.mp h.1).1
   rw [e] at this
   simp at this
  obtain ⟨g0, t, hgs⟩ := acR (l := o.gs.1) (fun e => by rw [e] at k3; simp at k3)
  have htm : t ∈ o.gs.1 := by rw [hgs]; simp
  have ht4 := Nat.eq_of_beq_eq_true (List.all_eq_true.mp k10 t htm)
  obtain ⟨a, b, c, d, rfl⟩ : ∃ a b c d, t = [a, b, c, d] := by
   rcases t with _ | ⟨a, _ | ⟨b, _ | ⟨c, _ | ⟨d, _ | ⟨e, r⟩⟩⟩⟩⟩
   · cases ht4
   · cases ht4
   · cases ht4
   · cases ht4
   · exact ⟨a, b, c, d, rfl⟩
   · simp only [List.length_cons] at ht4; omega
  have hto := hgo _ htm
  have hc0 : headN r < 12 := hro r hrm _ (adN hrne)
  have hrl : r.length ≤ 9 := by
   have h := List.all_eq_true.mp k11 r hrm
   rw [Bool.and_eq_true] at h
   exact Nat.le_succ_of_le (Nat.le_of_ble_eq_true (Bool.and_eq_true_iff.mp h.1).2)
  obtain ⟨x, hx3, hxn, s33⟩ := al5 (fn := lv 4) (m := H.M o.ks.2.2.2) (ty := ty) (td := tdC H o.sh.2.2.2) (bs := o.bs) (pa := partsN H.q o.bs) (rs := o.ks.2.2.1) (gs := o.gs.1) (sh := o.sh.1) (le := o.sh.2.1) (ri := o.sh.2.2.1) (w := o.ks.1) (al := o.ks.2.1) (lo := lowN o.sh.1 H.q) (up := uptN o.sh.1 H.q) (c := headN r) (sd := o.sd) K
  have hOne : cl (H.O x) ≠ (H.k (headN r)).2 := fun e => by
   have h := al4 K hx3 (show headN r % 3 < 3 from Nat.mod_lt _ (by decide))
   rw [show H.O x = H.O (headN r % 3) from adh e, beq_self_eq_true] at h
   exact hxn (Nat.eq_of_beq_eq_true h.symm)
  have gk := H_GB K hc0
  have hem := ajB (fn := lv 1) (a := (H.X a).v) (b := (H.X b).v) (c := (H.X c).v) (d := (H.X d).v) (e := (H.X (headN r)).v) (o := so (H.O x) (H.hO x)) (cl_X H a) (cl_X H b) (cl_X H c) (cl_X H d) (cl_X H (headN r)) (oo := cl (H.O x)) rfl (H_GB K (hto a (by simp))) (H_GB K (hto b (by simp))) (H_GB K (hto c (by simp))) (H_GB K (hto d (by simp))) gk ⟨gk.m, K.oc x hx3, K.on x hx3⟩ hOne (Nat.le_refl _) (Nat.le_refl _) (Nat.le_refl _) (Nat.le_refl _) (Nat.le_refl _) (Nat.le_refl _)
  have ht := told (fn := lv 3) (F := fsOf (lv 2) dAsk 12) (a := H.X a) (b := H.X b) (c := H.X c) (d := H.X d) (e := H.X (headN r)) (o := H.O x) (ho := H.hO x) (said := sdC o.sd) (m := (H.k (headN r)).1) agI rfl (afQ (cl_X H (headN r))) (fun y hy said hl => akR (fn := lv 2) (F := fsOf (lv 1) dEM 12) als rfl (hem y hy) (by unfold LIM; omega)) (by rw [aeQ]; omega)
  have hsd : sdC o.sd ++ (caD (H.X a) (H.X b) (H.X c) (H.X d) (H.X (headN r)) (H.O x) (H.hO x) (H.k (headN r)).1).map (fun x => CV.bool x.2.2) = sdC (o.sd ++ [true, false, false, true, false, false, false, true, false, false, false, false, true]) := by
   unfold sdC
   rw [List.map_append]
   rfl
  rw [hsd] at ht
  have s28 := alZ (fn := lv 4) (m := H.M o.ks.2.2.2) (ty := ty) (td := tdC H o.sh.2.2.2) (bs := o.bs) (pa := partsN H.q o.bs) (rs := o.ks.2.2.1) (gs := o.gs.1) (w := o.ks.1) (al := o.ks.2.1) (sd := o.sd) K hsort hpi hsh k13
  have s29 := al0 (fn := lv 4) (m := H.M o.ks.2.2.2) (ty := ty) (td := tdC H o.sh.2.2.2) (bs := o.bs) (pa := partsN H.q o.bs) (rs := o.ks.2.2.1) (gs := o.gs.1) (le := o.sh.2.1) (ri := o.sh.2.2.1) (w := o.ks.1) (al := o.ks.2.1) (sd := o.sd) (F := fsOf (lv 3) dL 12) ajQ rfl hlo
  have s30 := al1 (fn := lv 4) (m := H.M o.ks.2.2.2) (ty := ty) (td := tdC H o.sh.2.2.2) (bs := o.bs) (pa := partsN H.q o.bs) (rs := o.ks.2.2.1) (gs := o.gs.1) (le := o.sh.2.1) (ri := o.sh.2.2.1) (w := o.ks.1) (al := o.ks.2.1) (sd := o.sd) (lo := lowN o.sh.1 H.q) (F := fsOf (lv 3) dR 12) ajP rfl hup
  have s31 := al2 (fn := lv 4) (H := H) (m := H.M o.ks.2.2.2) (ty := ty) (td := tdC H o.sh.2.2.2) (bs := o.bs) (pa := partsN H.q o.bs) (rs := o.ks.2.2.1) (gs := o.gs.1) (sh := o.sh.1) (le := o.sh.2.1) (ri := o.sh.2.2.1) (sd := o.sd) k8 k9
  have s32 := al3 (fn := lv 4) (H := H) (m := H.M o.ks.2.2.2) (ty := ty) (td := tdC H o.sh.2.2.2) (bs := o.bs) (pa := partsN H.q o.bs) (gs := o.gs.1) (sh := o.sh.1) (le := o.sh.2.1) (ri := o.sh.2.2.1) (w := o.ks.1) (al := o.ks.2.1) (sd := o.sd) (lo := lowN o.sh.1 H.q) (up := uptN o.sh.1 H.q) hrs (by omega) hrne hrl
  have s34 := al6 (fn := lv 4) (H := H) (m := H.M o.ks.2.2.2) (ty := ty) (td := tdC H o.sh.2.2.2) (bs := o.bs) (pa := partsN H.q o.bs) (rs := o.ks.2.2.1) (sh := o.sh.1) (le := o.sh.2.1) (ri := o.sh.2.2.1) (w := o.ks.1) (al := o.ks.2.1) (lo := lowN o.sh.1 H.q) (up := uptN o.sh.1 H.q) (c := headN r) (F := fsOf (lv 3) dTold 12) ajT rfl ⟨g0, hgs⟩ (by omega) ht
  have s35 := al7 (fn := lv 4) (H := H) (m := H.M o.ks.2.2.2) (ty := ty) (td := tdC H o.sh.2.2.2) (bs := o.bs) (pa := partsN H.q o.bs) (rs := o.ks.2.2.1) (gs := o.gs.1) (sh := o.sh.1) (le := o.sh.2.1) (ri := o.sh.2.2.1) (w := o.ks.1) (al := o.ks.2.1) (lo := lowN o.sh.1 H.q) (up := uptN o.sh.1 H.q) (c := headN r) (sd := o.sd ++ [true, false, false, true, false, false, false, true, false, false, false, false, true]) (o := .str (so (H.O x) (H.hO x))) (by rw [List.length_append]; simp only [List.length_cons, List.length_nil]; omega)
  refine z0 ?_
  exact ⟨_, aaa s10 (aaa s11 (aaa s12 (aaa s13 (aaa s14 (aaa s15 (aaa s16 (alG (aaa s20 (aaa s21 (aaa s22 (aaa s23 (alN (aaa s27 (aaa s28 (aaa s29 (aaa s30 (aaa s31 (aaa s32 (aaa s33 (aaa s34 (aat s35)))))))))))))))))))))⟩
noncomputable def scr (xs : List Int) : List CV := xs.map .int
theorem aiW {l : List Nat} {n k : Nat} (h : l.length = n) (hk : k < n) : ∃ c, l[k]? = some c ∧ c ∈ l := ⟨l[k]'(by omega), List.getElem?_eq_getElem (by omega), List.getElem_mem _⟩
theorem al9 : b1N.length = 27 := by decide
theorem aj1 : besN.length = 16 := by decide
noncomputable def spotF (f0 f1 f2 : Nat) : Nat -> Nat
 | 0 => f0
 | 1 => f1
 | r + 2 => f2 + r
noncomputable def opF (o0 o1 o2 : Str) : Nat -> Str
 | 0 => o0
 | 1 => o1
 | _ + 2 => o2
noncomputable def mkF (R s : Int) (k : Nat) : Nat := b1N.getD (Int.fmod (R + (k : Int) * s) 27).toNat 0
theorem aj2 {o0 o1 o2 : Str} (h0 : o0.length ≤ 8) (h1 : o1.length ≤ 8) (h2 : o2.length ≤ 8) : ∀ r, (opF o0 o1 o2 r).length ≤ 8
 | 0 => h0
 | 1 => h1
 | _ + 2 => h2
theorem afR {P : Nat -> Prop} (h0 : P 0) (h1 : P 1) (h2 : P 2) : ∀ r, r < 3 -> P r
 | 0, _ => h0
 | 1, _ => h1
 | 2, _ => h2
 | n + 3, h => absurd h (by omega)
theorem aj3 {f0 f1 f2 : Nat} (h1 : f0 < f1) (h2 : f1 < f2) : ∀ a b, a < b -> spotF f0 f1 f2 a < spotF f0 f1 f2 b
 | 0, 0, h => by omega
 | 0, 1, _ => h1
 | 0, b + 2, _ => by show f0 < f2 + b; omega
 | 1, 0, h => by omega
 | 1, 1, h => by omega
 | 1, b + 2, _ => by show f1 < f2 + b; omega
 | a + 2, 0, h => by omega
 | a + 2, 1, h => by omega
 | a + 2, b + 2, h => by show f2 + a < f2 + b; omega
theorem ab1 {f0 f1 f2 x : Nat} (h : x = f0 ∨ x = f1 ∨ x = f2) : ∃ r, r < 3 ∧ x = spotF f0 f1 f2 r := by
 rcases h with h | h | h
 · exact ⟨0, by decide, h⟩
 · exact ⟨1, by decide, h⟩
 · exact ⟨2, by decide, h⟩
theorem ah4 (R s : Int) (k : Nat) : ∃ i : Nat, i < 27 ∧ Int.fmod (R + (k : Int) * s) 27 = (i : Int) ∧ b1N[i]? = some (mkF R s k) := by
 obtain ⟨i, hi, e⟩ := abc (w := R + (k : Int) * s) (k := 27) (by decide)
 have e : Int.fmod (R + (k : Int) * s) 27 = (i : Int) := e
 obtain ⟨c, hc, _⟩ := aiW al9 hi
 refine ⟨i, hi, e, ?_⟩
 unfold mkF
 rw [e, Int.toNat_natCast, List.getD_eq_getElem?_getD, hc]
 rfl
theorem ama {R s : Int} (h1 : 1 ≤ s) (h2 : s ≤ 8) {j k : Nat} (hjk : j < k) (hk : k < 4) : mkF R s j ≠ mkF R s k := fun e => by
 obtain ⟨a, ha, ea, ga⟩ := ah4 R s j
 obtain ⟨b, hb, eb, gb⟩ := ah4 R s k
 rw [e] at ga
 have hnd : b1N.Nodup := by decide
 have hab : a = b := by
  have h3 := List.getElem?_eq_some_iff.mp ga
  have h4 := List.getElem?_eq_some_iff.mp gb
  obtain ⟨h5, h6⟩ := h3
  obtain ⟨h7, h8⟩ := h4
  exact (List.getElem_inj hnd).mp (h6.trans h8.symm)
 rw [hab, <- eb, Int.fmod_eq_emod_of_nonneg _ (by decide), Int.fmod_eq_emod_of_nonneg _ (by decide)] at ea
 obtain ⟨d, hd, rfl⟩ : ∃ d : Nat, (d = 1 ∨ d = 2 ∨ d = 3) ∧ k = j + d := ⟨k - j, by omega, by omega⟩
 have e2 : R + ((j + d : Nat) : Int) * s = (R + (j : Int) * s) + (d : Int) * s := by
  rw [Int.natCast_add, Int.add_mul]
  omega
 rw [e2] at ea
 generalize R + (j : Int) * s = x at ea
 rcases hd with rfl | rfl | rfl
 · have : ((1 : Nat) : Int) * s = s := Int.one_mul s
   omega
 · have : ((2 : Nat) : Int) * s = 2 * s := rfl
   omega
 · have : ((3 : Nat) : Int) * s = 3 * s := rfl
   omega
theorem ah5 {xs : List Int} (hl : xs.length ≤ 63) : ∃ H : HP, HOk H ∧ Runs H ∧ ∀ {rest : List Stmt} {r : Option (FC × CE)}, (sem (GF (lv 4)) 20).xss rest (H.B []) = r ->
 (sem (GF (lv 4)) 20).xss (lawS 0 :: lawS 1 :: lawS 2 :: lawS 3 :: lawS 4 :: lawS 5 :: lawS 6 :: lawS 7 :: lawS 8 :: lawS 9 :: rest) (V0 (scr xs) []) = r := by
 refine hid fun z0 => ?_
 obtain ⟨a, b, s1⟩ := am5 (fn := lv 4) hl
 have s2 := am6 (fn := lv 4) (cs := scr xs) (a := a) (b := b) alv rfl (agk (fn := lv 3))
 have s3 := am7 (fn := lv 4) (cs := scr xs) (a := a) (b := b)
 obtain ⟨x0, x1, x2, p, q', hne, hin, s6⟩ := am8 (fn := lv 4) (cs := scr xs) (a := a) (b := b) (q := a)
 obtain ⟨y0, y1, y2, y3, R, hy, s9⟩ := am9 (fn := lv 4) (cs := scr xs) (a := a) (b := b) (p := p) (q := b) (x0 := x0) (x1 := x1) (x2 := x2)
 obtain ⟨f0, f1, f2, hlt, hfp, hx⟩ := ana hne (· ∈ poolN) hin
 obtain ⟨r0, l0, e0⟩ := ab1 (hx y0 hy.1)
 obtain ⟨r1, l1, e1⟩ := ab1 (hx y1 hy.2.1)
 obtain ⟨r2, l2, e2⟩ := ab1 (hx y2 hy.2.2.1)
 obtain ⟨r3, l3, e3⟩ := ab1 (hx y3 hy.2.2.2)
 obtain ⟨d0, m0, g0⟩ := ab1 (hx x0 (by simp))
 obtain ⟨d1, m1, g1⟩ := ab1 (hx x1 (by simp))
 obtain ⟨d2, m2, g2⟩ := ab1 (hx x2 (by simp))
 obtain ⟨o0, h0, c0, k0⟩ := ajN hfp.1
 obtain ⟨o1, h1, c1, k1⟩ := ajN hfp.2.1
 obtain ⟨o2, h2, c2, k2⟩ := ajN hfp.2.2
 obtain ⟨u0, v0, w0⟩ := adO hfp.1 k0
 obtain ⟨u1, v1, w1⟩ := adO hfp.2.1 k1
 obtain ⟨u2, v2, w2⟩ := adO hfp.2.2 k2
 have s1b : 1 ≤ 1 + Int.fmod (Int.fdiv R 27) 8 := by have := Int.fmod_nonneg_of_pos (Int.fdiv R 27) (show (0 : Int) < 8 by decide); omega
 have s2b : 1 + Int.fmod (Int.fdiv R 27) 8 ≤ 8 := by have := Int.fmod_lt_of_pos (Int.fdiv R 27) (show (0 : Int) < 8 by decide); omega
 have hd01 : d0 ≠ d1 := fun e => hne.1 (by rw [g0, g1, e])
 refine z0 ?_
 refine ⟨⟨scr xs, a, b, p, R, [x0, x1, x2], [r0, r1, r2, r3], spotF f0 f1 f2, mkF R (1 + Int.fmod (Int.fdiv R 27) 8), opF o0 o1 o2, aj2 h0 h1 h2⟩, ?_, ?_, fun {rest r} h => ?_⟩
 · refine ⟨fun r hr => ?_, rfl, aj3 hlt.1 hlt.2, afR c0 c1 c2, afR k0 k1 k2, afR hfp.1 hfp.2.1 hfp.2.2, ⟨[d0, d1, d2], ?_, by show 3 ≤ 80; decide, fun r hr => ?_, fun r => ?_⟩, afR u0 u1 u2, afR v0 v1 v2, afR w0 w1 w2, fun k _ => ?_, fun j k hj hk e => ?_⟩
   · simp only [List.mem_cons, List.not_mem_nil, or_false] at hr
     rcases hr with rfl | rfl | rfl | rfl <;> assumption
   · show [x0, x1, x2] = [spotF f0 f1 f2 d0, spotF f0 f1 f2 d1, spotF f0 f1 f2 d2]
     rw [<- g0, <- g1, <- g2]
   · simp only [List.mem_cons, List.not_mem_nil, or_false] at hr
     rcases hr with rfl | rfl | rfl <;> assumption
   · by_cases q : d0 = r
     · exact ⟨d1, by simp, fun e => hd01 (q.trans e.symm)⟩
     · exact ⟨d0, by simp, q⟩
   · obtain ⟨i, _, _, hi⟩ := ah4 R (1 + Int.fmod (Int.fdiv R 27) 8) k
     exact List.mem_of_getElem? hi
   · rcases Nat.lt_trichotomy j k with q | q | q
     · exact absurd e (ama s1b s2b q hk)
     · exact q
     · exact absurd e.symm (ama s1b s2b q hj)
 · refine ⟨fun k => ?_, fun k => ?_⟩
   · obtain ⟨i, _, hm, hi⟩ := ah4 R (1 + Int.fmod (Int.fdiv R 27) 8) k
     exact akS (fn := lv 3) hm hi
   · obtain ⟨i, hi, e⟩ := abc (w := Int.fdiv R 216 + (k : Int)) (k := 16) (by decide)
     obtain ⟨z, hz, hzm⟩ := aiW aj1 hi
     exact ⟨z, hzm, akT (fn := lv 3) e hz⟩
 · have hw : [y0, y1, y2, y3] = [r0, r1, r2, r3].map (spotF f0 f1 f2) := by
    show _ = [spotF f0 f1 f2 r0, spotF f0 f1 f2 r1, spotF f0 f1 f2 r2, spotF f0 f1 f2 r3]
    rw [<- e0, <- e1, <- e2, <- e3]
   rw [hw] at s9
   exact aaa am4 (aaa s1 (aaa s2 (aaa s3 (alk (aaa s6 (alm (aaa s9 h)))))))
noncomputable def scrSl (xs : List Int) : List (Str × Slot) := [("script", .val (.list (scr xs)))]
theorem ah6 {xs : List Int} (hl : xs.length ≤ 63) : runDef (GF (lv 4)) 20 dLaw [.list (scr xs)] [] = some (.bool true, .list []) := by
 refine hid fun z0 => ?_
 obtain ⟨H, K, S, hhead⟩ := ah5 hl
 obtain ⟨ρ, hend⟩ := aj0 K S
 have hall := hhead hend
 have hbody : dLaw.body = [lawS 0, lawS 1, lawS 2, lawS 3, lawS 4, lawS 5, lawS 6, lawS 7, lawS 8, lawS 9, lawS 10, lawS 11, lawS 12, lawS 13, lawS 14, lawS 15, lawS 16, lawS 17, lawS 18, lawS 19, lawS 20, lawS 21, lawS 22, lawS 23, lawS 24, lawS 25, lawS 26, lawS 27, lawS 28, lawS 29, lawS 30, lawS 31, lawS 32, lawS 33, lawS 34, lawS 35] := by ext
 have hfix : (⟨dLaw.scope, scrSl xs ++ bindKo dLaw.ko []⟩ : CE) = V0 (scr xs) [] := by ext
 have hb : bindPos dLaw.bor dLaw.ps [.list (scr xs)] dLaw.dflt = some (scrSl xs) := by ext
 have hko : kwFit dLaw.ko [] = true := by ext
 have hlb : lentBack dLaw ρ = some (.list []) := rfl
 refine z0 ?_
 refine aam hko hb (ρ := ρ) ?_ hlb
 rw [hfix, hbody]
 exact hall
end
section
open PySem PySem.W
noncomputable def hBad : Str × Arguments × List Stmt × Scope := (Str.empty, ⟨[], [], none, [], [], none, []⟩, [], ⟨.module, [], false, false, []⟩)
noncomputable def hSt (i : Nat) : Str × Arguments × List Stmt × Scope := match p1.main.body[i]? with
 | some (.FunctionDef n a b _ _ _ sc _ _ _) => (n, a, b, sc)
 | _ => hBad
noncomputable def hS (s : String) (t : Nat) : Value := .str (Str.ofString s) t
noncomputable def hFld (c : Value) (vs : List Value) : Obj := { cls := c, data := .fields vs.toArray }
noncomputable def hTup (vs : List Value) : Obj := { cls := .type "tuple", data := .seq vs.toArray }
noncomputable def hE (P : Params) (x : String × Nat × Value) : DictEntry := ⟨PyData.keyHash P (Str.ofString x.1), hS x.1 x.2.1, x.2.2⟩
noncomputable def hDict (P : Params) (es : List (String × Nat × Value)) : Obj := { cls := .type "dict", data := .dict (es.map (hE P)).toArray es.length }
noncomputable def hFn (i : Nat) (g : Addr) (dv kv pm cd : Value) : FuncData := match hSt i with
 | (n, a, b, sc) => { name := n, qualname := n, params := a, body := .stmts b, scope := sc, globals := g, closure := [], defaults := dv, kwdefaults := kv, pyModule := pm, code := cd }
noncomputable def hNm (i : Nat) : Str := (hSt i).1
noncomputable def hStrs : List String -> Nat -> List Value
 | [], _ => []
 | s :: r, t => hS s t :: hStrs r (t + 1)
noncomputable def hCo (i b t line na nk fl : Nat) (va vb fr : Value) (n : Nat) : Obj := hFld (.type "code") [.str (hNm i) t, .str (hNm i) (t + 1), hS "/claim/cut.py" (t + 2), .int line 0, .int na 0, .int 0 0, .int nk 0, .int fl 0, .ref b, .bool true, .int 181 0, .ref (b + 1), .none, va, vb, fr, .int (t + 3 + n : Nat) 0, .int line 0, hS "/claim/cut.py" (t + 4 + n)]
noncomputable def hD (i b t line na nk fl : Nat) (pm : Value) (vs ws : List String) : List Obj := [hTup [], hFld .none [], hTup (hStrs vs (t + 3)), hTup (hStrs ws (t + 3 + vs.length)), { cls := .none, data := .func (hFn i 0 .none .none .none .none) }, hCo i b t line na nk fl (.ref (b + 2)) (.ref (b + 3)) (.ref (b + 4)) (vs.length + ws.length), { cls := .type "function", data := .func (hFn i 3 .none .none pm (.ref (b + 5))) }]
noncomputable def hDL (i b t line na nk fl : Nat) (pm : Value) (_ _ : List String) : List Obj := [hTup [], hFld .none [], { cls := .none, data := .func (hFn i 0 .none .none .none .none) }, hCo i b t line na nk fl .none .none (.ref (b + 2)) 0, { cls := .type "function", data := .func (hFn i 3 .none .none pm (.ref (b + 3))) }]
noncomputable def hDD (P : Params) (i b t line na nk fl : Nat) (pm : Value) (vs ws : List String) : List Obj := [hTup [.int 0 (t - 2), .none], hDict P [("key", t - 1, .none)], hTup [], hFld .none [], hTup (hStrs vs (t + 3)), hTup (hStrs ws (t + 3 + vs.length)), { cls := .none, data := .func (hFn i 0 .none .none .none .none) }, hCo i b t line na nk fl (.ref (b + 2)) (.ref (b + 3)) (.ref (b + 4)) (vs.length + ws.length), { cls := .type "function", data := .func (hFn i 3 (.ref (b - 2)) (.ref (b - 1)) pm (.ref (b + 5))) }]
noncomputable def hC (k v t : Nat) : List String -> List (String × Nat × Value)
 | [] => []
 | s :: r => (s, k, .int v t) :: hC (k + 2) (v + 1) (t + 2) r
noncomputable def hSet : List (Int × Nat) := [(65024, 277), (65025, 278), (65026, 279), (65027, 280), (65028, 281), (65029, 282), (6150, 263), (65030, 283), (65031, 284), (65032, 285), (65033, 286), (6155, 264), (6156, 265), (6157, 266), (8203, 267), (8204, 268), (8205, 269), (65034, 287), (65035, 288), (65036, 289), (65037, 290), (65038, 291), (65039, 292), (173, 261), (847, 262), (8288, 270), (65279, 271)]
noncomputable def hN : List (String × Nat × Value) := [("ELLIPSIS_MARKER", 190, hS "..." 189), ("_ellipsis_match", 202, .ref 21), ("insort_right", 217, .ref 30), ("bisect_right", 231, .ref 39), ("insort_left", 244, .ref 48), ("bisect_left", 258, .ref 57), ("b1_set", 320, .ref 65), ("in_table_b1", 327, .ref 75)] ++ hC 329 7 328 ["LPAR", "RPAR", "LSQB", "RSQB", "COLON", "COMMA", "SEMI", "PLUS", "MINUS", "STAR", "SLASH", "VBAR", "AMPER", "LESS", "GREATER", "EQUAL", "DOT", "PERCENT", "LBRACE", "RBRACE", "EQEQUAL", "NOTEQUAL", "LESSEQUAL", "GREATEREQUAL", "TILDE", "CIRCUMFLEX", "LEFTSHIFT", "RIGHTSHIFT", "DOUBLESTAR", "PLUSEQUAL", "MINEQUAL", "STAREQUAL", "SLASHEQUAL", "PERCENTEQUAL", "AMPEREQUAL", "VBAREQUAL", "CIRCUMFLEXEQUAL", "LEFTSHIFTEQUAL", "RIGHTSHIFTEQUAL", "DOUBLESTAREQUAL", "DOUBLESLASH", "DOUBLESLASHEQUAL", "AT", "ATEQUAL", "RARROW", "ELLIPSIS", "COLONEQUAL", "EXCLAMATION"] ++ [("EXACT_TOKEN_TYPES", 520, .ref 76), ("_law_operators", 529, .ref 85), ("_law_unseen", 537, .ref 92), ("_law_beside", 545, .ref 99), ("_law_read", 556, .ref 106), ("_law_begins", 567, .ref 113), ("_law_asked", 577, .ref 120), ("_law_laid_into_one_another", 593, .ref 127), ("_law_told_of_ends", 608, .ref 134), ("_law_told_of_dots", 625, .ref 141), ("law", 631, .ref 146)]
noncomputable def hBoot9 : List (String × Nat × Value) := [("__doc__", 166, .none), ("__package__", 167, .none), ("__loader__", 168, .builtin "__main__.__loader__#opaque"), ("__spec__", 169, .none), ("__annotations__", 170, .ref 6), ("__builtins__", 171, .ref 4), ("__file__", 173, hS "/claim/cut.py" 172), ("__cached__", 174, .none)]
noncomputable def hMain (P : Params) (n : Nat) (nm : Value) (ep : Nat) : Obj := { cls := .type "dict", data := .dict ((("__name__", 165, nm) :: hBoot9 ++ hN.take n).map (hE P)).toArray ep }
noncomputable def hEnv : Env := { scope := p1.main.scope, locals := mainNs, globals := mainNs, cells := [], code := .ref 13, frame := some 14 }
noncomputable def hCode : Code := .body (behindTheImports p1) hEnv
noncomputable def hAnn : Option Value := some (.ref 6)
noncomputable def hTab (n : Nat) : Obj := hFld .none (([(3, 20), (32, 29), (38, 38), (58, 47), (64, 56), (86, 74), (138, 84), (141, 91), (144, 98), (147, 105), (161, 112), (170, 119), (174, 126), (188, 133), (197, 140), (206, 145)].take n).flatMap fun x => [.int x.1 0, .int 0 0, .ref x.2])
noncomputable def hEtt : List (String × Nat × Value) := [("!", 424, .int 54 422), ("!=", 426, .int 28 370), ("%", 428, .int 24 362), ("%=", 430, .int 40 394), ("&", 432, .int 19 352), ("&=", 434, .int 41 396), ("(", 436, .int 7 328), (")", 438, .int 8 330), ("*", 440, .int 16 346), ("**", 442, .int 35 384), ("**=", 444, .int 46 406), ("*=", 446, .int 38 390), ("+", 448, .int 14 342), ("+=", 450, .int 36 386), (",", 452, .int 12 338), ("-", 454, .int 15 344), ("-=", 456, .int 37 388), ("->", 458, .int 51 416), (".", 460, .int 23 360), ("...", 462, .int 52 418), ("/", 464, .int 17 348), ("//", 466, .int 47 408), ("//=", 468, .int 48 410), ("/=", 470, .int 39 392), (":", 472, .int 11 336), (":=", 474, .int 53 420), (";", 476, .int 13 340), ("<", 478, .int 20 354), ("<<", 480, .int 33 380), ("<<=", 482, .int 44 402), ("<=", 484, .int 29 372), ("=", 486, .int 22 358), ("==", 488, .int 27 368), (">", 490, .int 21 356), (">=", 492, .int 30 374), (">>", 493, .int 34 382), (">>=", 494, .int 45 404), ("@", 495, .int 49 412), ("@=", 496, .int 50 414), ("[", 497, .int 9 332), ("]", 498, .int 10 334), ("^", 499, .int 32 378), ("^=", 500, .int 43 400), ("{", 501, .int 25 364), ("|", 502, .int 18 350), ("|=", 503, .int 42 398), ("}", 504, .int 26 366), ("~", 505, .int 31 376)]
noncomputable def hR1 (P : Params) : List Obj := hD 2 15 191 3 2 0 3 (hS "cpy313.doctest" 187) ["want", "got", "ws", "startpos", "endpos", "w"] [] ++ hDD P 4 24 207 32 4 1 3 (hS "cpy313.bisect" 203) ["a", "x", "lo", "hi", "key"] [] ++ hDD P 5 33 220 38 4 1 3 (hS "cpy313.bisect" 203) ["a", "x", "lo", "hi", "key", "mid"] [] ++ hDD P 6 42 234 58 4 1 3 (hS "cpy313.bisect" 203) ["a", "x", "lo", "hi", "key"] [] ++ hDD P 7 51 247 64 4 1 3 (hS "cpy313.bisect" 203) ["a", "x", "lo", "hi", "key", "mid"] []
noncomputable def hR2 (P : Params) : List Obj := hR1 P ++ [{ cls := .type "list", data := .seq [.int 173 261, .int 847 262, .int 6150 263, .int 6155 264, .int 6156 265, .int 6157 266, .int 8203 267, .int 8204 268, .int 8205 269, .int 8288 270, .int 65279 271].toArray }, { cls := .type "range", data := .fields [.int 65024 272, .int 65040 273, .int 1 274].toArray }, { cls := .type "list", data := .seq [.int 65024 277, .int 65025 278, .int 65026 279, .int 65027 280, .int 65028 281, .int 65029 282, .int 65030 283, .int 65031 284, .int 65032 285, .int 65033 286, .int 65034 287, .int 65035 288, .int 65036 289, .int 65037 290, .int 65038 291, .int 65039 292].toArray 18 }, { cls := .type "range_iterator", data := .fields [.int 65040 0, .int 0 0, .int 1 0].toArray }, { cls := .type "tuple", data := .seq [].toArray }, { cls := .type "StopIteration", data := .fields [.ref 62, .none, .none, .none, .bool false, .none].toArray }, { cls := .type "list", data := .seq [.int 173 261, .int 847 262, .int 6150 263, .int 6155 264, .int 6156 265, .int 6157 266, .int 8203 267, .int 8204 268, .int 8205 269, .int 8288 270, .int 65279 271, .int 65024 277, .int 65025 278, .int 65026 279, .int 65027 280, .int 65028 281, .int 65029 282, .int 65030 283, .int 65031 284, .int 65032 285, .int 65033 286, .int 65034 287, .int 65035 288, .int 65036 289, .int 65037 290, .int 65038 291, .int 65039 292].toArray }, { cls := .type "set", data := .set (hSet.map fun x => (x.1, .int x.1 x.2)).toArray 29 { mask := 127, place := [0, 1, 2, 3, 4, 5, 6, 7, 8, 9, 10, 11, 12, 13, 14, 15, 16, 17, 18, 19, 20, 21, 22, 45, 79, 96, 127].toArray, dummies := [].toArray, finger := 0, led := !P.followText "set-order", moves := 2, plain := true } }, { cls := .type "list_iterator", data := .fields [.none, .int 27 0].toArray }, { cls := .type "tuple", data := .seq [].toArray }, { cls := .type "StopIteration", data := .fields [.ref 67, .none, .none, .none, .bool false, .none].toArray }]
noncomputable def hR3 (P : Params) : List Obj := hR2 P ++ hD 10 69 321 86 1 0 3 (hS "cpy313.stringprep" 259) ["code"] []
noncomputable def hR4 (P : Params) : List Obj := hR3 P ++ [hDict P hEtt, hDict P ((hEtt.drop 17).take 17), hDict P ((hEtt.drop 34).take 14)]
noncomputable def hR5 (P : Params) : List Obj := hR4 P ++ hD 61 79 523 138 0 0 3 (hS "law_uk0005_01" 521) ["told"] [] ++ hD 62 86 530 141 1 0 3 (hS "law_uk0005_01" 521) ["which", "signs"] [] ++ hD 63 93 538 144 1 0 3 (hS "law_uk0005_01" 521) ["which", "signs"] [] ++ hD 64 100 546 147 1 0 3 (hS "law_uk0005_01" 521) ["text", "numbers", "piece", "sign", "held"] [] ++ hD 65 107 557 161 1 0 3 (hS "law_uk0005_01" 521) ["numbers", "tails", "begins", "place", "tail"] [] ++ hD 66 114 568 170 3 0 3 (hS "law_uk0005_01" 521) ["want", "got", "said", "answer"] [] ++ hD 67 121 578 174 2 0 3 (hS "law_uk0005_01" 521) ["rows", "said", "grown", "row", "want", "cell", "older", "text", "gap", "new"] [] ++ hD 68 128 594 188 3 0 3 (hS "law_uk0005_01" 521) ["rows", "grown", "said", "count", "text", "row", "ahead", "behind", "due"] [] ++ hD 69 135 609 197 4 0 3 (hS "law_uk0005_01" 521) ["text", "cell", "other", "said", "whole", "two", "mark", "cases", "want", "got", "due"] [] ++ hDL 70 142 626 206 1 0 3 (hS "law_uk0005_01" 521) [] []
noncomputable def hp (m t : Obj) (r : List Obj) (P : Params) : Heap := ⟨(boot_o_0 P :: boot_o_1 P :: boot_o_2 P :: m :: boot_o_4 P :: boot_o_5 P :: boot_o_6 P :: boot_o_7 P :: boot_o_8 P :: boot_o_9 P :: boot_o_10 P :: { cls := .type "tuple", data := .seq [].toArray } :: t :: { cls := .type "code", data := .fields [hS "<module>" 182, hS "<module>" 183, hS "/claim/cut.py" 184, .int 1 0, .int 0 0, .int 0 0, .int 0 0, .int 0 0, .ref 11, .bool false, .int 181 0, .ref 12, .none, .none, .none, .none, .int 185 0, .int 1 0, hS "/claim/cut.py" 186].toArray } :: { cls := .type "frame", data := .plain, slots := [some (.ref 13), some (.ref 3), some (.ref 3), none, some (hS "__main__" 164), none, some (.ref 0)].toArray } :: r).toArray, {}⟩
noncomputable def h0 (P : Params) : Heap := hp (hMain P 0 (hS "__main__" 164) 9) (hTab 0) [] P
noncomputable def h1 (P : Params) : Heap := hp (hMain P 6 (hS "cpy313.stringprep" 259) 15) (hTab 5) (hR1 P) P
noncomputable def h2 (P : Params) : Heap := hp (hMain P 7 (hS "cpy313.stringprep" 259) 16) (hTab 5) (hR2 P) P
noncomputable def h3 (P : Params) : Heap := hp (hMain P 56 (hS "cpy313.stringprep" 259) 65) (hTab 6) (hR3 P) P
noncomputable def h4 (P : Params) : Heap := hp (hMain P 57 (hS "cpy313.stringprep" 259) 66) (hTab 6) (hR4 P) P
noncomputable def h5 (P : Params) : Heap := hp (hMain P 67 (hS "law_uk0005_01" 521) 76) (hTab 16) (hR5 P) P
noncomputable def hL1 : List Stmt := (p1.main.body.drop 0).take 9
noncomputable def hL2 : List Stmt := (p1.main.body.drop 9).take 1
noncomputable def hL3 : List Stmt := (p1.main.body.drop 10).take 49
noncomputable def hL4 : List Stmt := (p1.main.body.drop 59).take 1
noncomputable def hL5 : List Stmt := (p1.main.body.drop 60).take 11
set_option tactic.hygienic true
theorem seg1 : ∀ (w : World) (os : OsState), segRun treeTable p1 w 11 hAnn 1 233 ⟨h0 w.params, #[], {}, 187, os⟩ (piecesOf hL1 hEnv hCode ⟨0, 0, 0, 0⟩ [topFrame ⟨0, 0, 0, 0⟩]) = some (.next, ⟨h1 w.params, #[], {}, 261, os⟩, hCode, ⟨84, 0, 84, 8⟩) := by
 intro w os
 rw [Fast.te14374325043358763698, Fast.te14364793385576792824]
 ext
theorem seg3 : ∀ (w : World) (os : OsState), segRun treeTable p1 w 11 hAnn 1 462 ⟨h2 w.params, #[], {}, 321, os⟩ (piecesOf hL3 hEnv hCode ⟨85, 0, 85, 6⟩ [topFrame ⟨0, 0, 0, 0⟩]) = some (.next, ⟨h3 w.params, #[], {}, 424, os⟩, hCode, ⟨135, 0, 135, 11⟩) := by
 intro w os
 rw [Fast.te14374325043358763698, Fast.te14364793385576792824]
 ext
theorem seg5 : ∀ (w : World) (os : OsState), segRun treeTable p1 w 11 hAnn 1 337 ⟨h4 w.params, #[], {}, 521, os⟩ (piecesOf hL5 hEnv hCode ⟨136, 0, 136, 17⟩ [topFrame ⟨0, 0, 0, 0⟩]) = some (.next, ⟨h5 w.params, #[], {}, 632, os⟩, hCode, ⟨206, 0, 273, 90⟩) := by
 intro w os
 rw [Fast.te14374325043358763698, Fast.te14364793385576792824]
 ext
theorem seg2 : ∀ (w : World) (os : OsState), segRun treeTable p1 w 11 hAnn 1 999 ⟨h1 w.params, #[], {}, 261, os⟩ (piecesOf hL2 hEnv hCode ⟨84, 0, 84, 8⟩ [topFrame ⟨0, 0, 0, 0⟩]) = some (.next, ⟨h2 w.params, #[], {}, 321, os⟩, hCode, ⟨85, 0, 85, 6⟩) :=
 byRow2 "special-get-raises" (by
 intro w os
 rw [Fast.te14374325043358763698, Fast.te14364793385576792824]
 kernel_rfl) (by
 intro w os
 rw [Fast.te14374325043358763698, Fast.te14364793385576792824]
 kernel_rfl)
theorem seg4 : ∀ (w : World) (os : OsState), segRun treeTable p1 w 11 hAnn 1 979 ⟨h3 w.params, #[], {}, 424, os⟩ (piecesOf hL4 hEnv hCode ⟨135, 0, 135, 11⟩ [topFrame ⟨0, 0, 0, 0⟩]) = some (.next, ⟨h4 w.params, #[], {}, 521, os⟩, hCode, ⟨136, 0, 136, 17⟩) :=
 byRow2 "special-get-raises" (by
 intro w os
 rw [Fast.te14374325043358763698, Fast.te14364793385576792824]
 kernel_rfl) (by
 intro w os
 rw [Fast.te14374325043358763698, Fast.te14364793385576792824]
 kernel_rfl)
set_option tactic.hygienic false
theorem hPre (w : World) (os : OsState) : topGo treeTable p1 w 11 hAnn 12 ⟨boot_heap w.params, #[], boot_drawn, boot_toks, os⟩ (topStub p1) = some (⟨h0 w.params, #[], {}, 187, os⟩, ⟨denote treeTable hCode, hCode, ⟨0, 0, 0, 0⟩, [topFrame ⟨0, 0, 0, 0⟩]⟩) := by
 rw [Fast.te15667345088766844465, Fast.te14364793385576792824, Fast.te11892475500146522536]
 ext
set_option tactic.hygienic true
theorem hBlk (w : World) (os : OsState) : segRun treeTable p1 w 11 hAnn 1 1 ⟨h0 w.params, #[], {}, 187, os⟩ (blockOf (behindTheImports p1) hEnv hCode ⟨0, 0, 0, 0⟩ [topFrame ⟨0, 0, 0, 0⟩]) = some (.next, ⟨h0 w.params, #[], {}, 187, os⟩, hCode, ⟨0, 0, 0, 0⟩) := by
 rw [Fast.te14374325043358763698, Fast.te14364793385576792824]
 ext
theorem hFin (w : World) (os : OsState) : topRun treeTable p1 w 11 hAnn 2 ⟨h5 w.params, #[], {}, 632, os⟩ ⟨doneF .next, hCode, ⟨206, 0, 273, 90⟩, [topFrame ⟨0, 0, 0, 0⟩]⟩ = some ⟨h5 w.params, #[], {}, 632, os⟩ := by
 rw [Fast.te14082659384304107361, Fast.te14364793385576792824]
 ext
set_option tactic.hygienic false
theorem amb : behindTheImports p1 = hL1 ++ (hL2 ++ (hL3 ++ (hL4 ++ (hL5 ++ [])))) := by ext
theorem hRun (w : World) (os : OsState) : topRun treeTable p1 w 11 hAnn (12 + (1 + (233 + (999 + (462 + (979 + (337 + 2))))))) ⟨boot_heap w.params, #[], boot_drawn, boot_toks, os⟩ (topStub p1) = some ⟨h5 w.params, #[], {}, 632, os⟩ := by
 have k : topRun treeTable p1 w 11 hAnn (233 + (999 + (462 + (979 + (337 + 2))))) ⟨h0 w.params, #[], {}, 187, os⟩ (restOf (hL1 ++ (hL2 ++ (hL3 ++ (hL4 ++ (hL5 ++ []))))) hEnv hCode ⟨0, 0, 0, 0⟩ [topFrame ⟨0, 0, 0, 0⟩]) = some ⟨h5 w.params, #[], {}, 632, os⟩ :=
  piece_app (seg1 w os) (piece_app (seg2 w os) (piece_app (seg3 w os) (piece_app (seg4 w os) (piece_app (seg5 w os) (piece_nil (hFin w os))))))
 rw [<- amb] at k
 exact go_top (hPre w os) (piece_block (hBlk w os) k)
theorem anh : ∀ w : World, (fencedOpening treeTable p1 w 8000).map (fun s => (s.heap, s.gens, s.drawn, s.toks)) = some (boot_heap w.params, Array.mk [], boot_drawn, boot_toks) :=
 boot_open (by ext) (by decide) (fun s => by ext)
theorem ani (w : World) : ((boot_heap w.params).isNs mainGlobals && (#[] : Array GenState).size == 0, (boot_heap w.params).objs.size, (boot_heap w.params).nsMap mainGlobals "__annotations__") = (true, 11, hAnn) := by
 rw [Fast.te8920871248978507458]
 ext
end
section
open PySem PySem.W PySem.Calls PyProof.Rows
noncomputable def hQ : Program := { p1 with main := { p1.main with body := (p1.main.body.drop 70).take 1 } }
noncomputable def hLoose : List Str := (hN.take 66).map fun x => Str.ofString x.1
set_option tactic.hygienic false
theorem amc (w : World) (os : OsState) : (staticsOk (importedModules p1.main.body) (boot_heap w.params) (h5 w.params) && namesBound p1 (h5 w.params) && gensDone ⟨h5 w.params, #[], {}, 632, os⟩ && laidKept (boot_heap w.params) (h5 w.params)) = true := by
 unfold staticsOk namesBound laidKept
 rw [Fast.te8920871248978507458, Fast.te5923862056798008813]
 ext
theorem amd (w : World) (os : OsState) : openSeen hQ hLoose (importedModules p1.main.body) (fun _ => true) true ⟨h5 w.params, #[], {}, 632, os⟩ = openGood hQ hLoose := by
 rw [Fast.te4187177175401517315, Fast.te5923862056798008813]
 ext
theorem anj : LeftO p1 hQ hLoose (fun _ => true) (fun s => s.heap) (fun w => h5 w.params) 8000 true :=
 LeftO.of_pieces (m₀ := 11) (ann := hAnn) anh ani hRun (by decide) fun w => funext fun os => by
  show (_, _, _) = _
  rw [amc w os, amd w os]
end
section
open PySem PySem.Calls PyProof.Rows
abbrev FH := Addr -> Option Obj
section
variable (prog : Program) (w : World)
def LO (o : Obj) (vs : List Value) : Prop := ∃ n, o = { cls := .type "list", data := .seq vs.toArray n }
def TO (o : Obj) (vs : List Value) : Prop := o.cls = .type "tuple" ∧ ∃ n, o.data = .seq vs.toArray n
def DO (o : Obj) (kvs : List (Str × Value)) : Prop :=
 o.ExactDict ∧ ∃ es ep, o.data = .dict es ep ∧ KeysOf (strKind prog w) es ∧ Pairs (strKind prog w) es.toList kvs ∧ (kvs.map (·.1)).Nodup
def SO (o : Obj) (xs : List Int) : Prop := ∃ es ep t, o.ExactSet ∧ o.data = .set es ep t ∧ ElemsOf (intKind prog w) es.toList ∧
 (∀ k, xs.contains k = true ↔ ∃ e ∈ es.toList, (intKind prog w).is k e.2 = true) ∧ es.size < scanBound ∧ t.fits es.size = true
noncomputable def fnO (L : Lam) (pm cd ct : Value) (qual : Str) (name : Str) : Obj :=
 { cls := .type "function", data := .func (PySem.W.kla_fn name qual L.params L.body L.scope [] pm cd ct) }
mutual
abbrev RV (F : FH) : CV -> Value -> Prop
 | .none, v => v = .none
 | .bool b, v => v = .bool b
 | .int i, v => ∃ t, v = .int i t
 | .str s, v => ∃ t, v = .str s.s t
 | .list xs, v => ∃ a o vs, v = .ref a ∧ F a = some o ∧ LO o vs ∧ RVs F xs vs
 | .tup xs, v => ∃ a o vs, v = .ref a ∧ F a = some o ∧ TO o vs ∧ RVs F xs vs
 | .dict es, v => ∃ a o kvs, v = .ref a ∧ F a = some o ∧ (DO prog w o kvs ∧ a ≠ sysModules) ∧ RVd F es kvs
 | .iset xs, v => ∃ a o, v = .ref a ∧ F a = some o ∧ SO prog w o xs
 | .lam L, v => ∃ a o pm cd ct qual name, v = .ref a ∧ F a = some o ∧ o = fnO L pm cd ct qual name ∧
  (∃ c oc vs t, cd = .ref c ∧ F c = some oc ∧ oc.data = .fields vs ∧ vs[1]? = some (.str qual t))
abbrev RVs (F : FH) : List CV -> List Value -> Prop
 | [], vs => vs = []
 | c :: cs, vs => ∃ v r, vs = v :: r ∧ RV F c v ∧ RVs F cs r
abbrev RVd (F : FH) : List (SS × CV) -> List (Str × Value) -> Prop
 | [], kvs => kvs = []
 | (k, c) :: cs, kvs => ∃ v r, kvs = (k.s, v) :: r ∧ RV F c v ∧ RVd F cs r
end
mutual
set_option tactic.hygienic false
theorem RV.mono {F F' : FH} (h : ∀ a o, F a = some o -> F' a = some o) : ∀ (c : CV) (v : Value), RV prog w F c v -> RV prog w F' c v
 | .none, _, r => by exact r
 | .bool _, _, r => by exact r
 | .int _, _, r => by exact r
 | .str _, _, r => by exact r
 | .list xs, v, r => by
  obtain ⟨a, o, vs, e, f, l, q⟩ := r
  exact ⟨a, o, vs, e, h _ _ f, l, RVs.mono h xs vs q⟩
 | .tup xs, v, r => by
  obtain ⟨a, o, vs, e, f, l, q⟩ := r
  exact ⟨a, o, vs, e, h _ _ f, l, RVs.mono h xs vs q⟩
 | .dict es, v, r => by
  obtain ⟨a, o, vs, e, f, l, q⟩ := r
  exact ⟨a, o, vs, e, h _ _ f, l, RVd.mono h es vs q⟩
 | .iset xs, v, r => by
  obtain ⟨a, o, e, f, l⟩ := r
  exact ⟨a, o, e, h _ _ f, l⟩
 | .lam L, v, r => by
  obtain ⟨a, o, pm, cd, ct, qual, name, e, f, l, c, oc, vs, t, e1, e2, e3, e4⟩ := r
  exact ⟨a, o, pm, cd, ct, qual, name, e, h _ _ f, l, c, oc, vs, t, e1, h _ _ e2, e3, e4⟩
theorem RVs.mono {F F' : FH} (h : ∀ a o, F a = some o -> F' a = some o) : ∀ (c : List CV) (v : List Value), RVs prog w F c v -> RVs prog w F' c v
 | [], _, r => by exact r
 | c :: cs, vs, r => by
  obtain ⟨v, t, e, a, b⟩ := r
  exact ⟨v, t, e, RV.mono h c v a, RVs.mono h cs t b⟩
theorem RVd.mono {F F' : FH} (h : ∀ a o, F a = some o -> F' a = some o) : ∀ (c : List (SS × CV)) (v : List (Str × Value)), RVd prog w F c v -> RVd prog w F' c v
 | [], _, r => by exact r
 | (k, c) :: cs, vs, r => by
  obtain ⟨v, t, e, a, b⟩ := r
  exact ⟨v, t, e, RV.mono h c v a, RVd.mono h cs t b⟩
end
inductive ORl (F : FH) (h : Heap) (xs : List CV) (a : Addr) : Prop
 | mk (ob : Obj) (vs : List Value) (h1 : h.get? a = some ob) (h2 : LO ob vs) (h3 : RVs prog w F xs vs)
def OR (F : FH) (h : Heap) (o : CO) (a : Addr) : Prop := match o with
 | .list xs => ORl prog w F h xs a
set_option tactic.hygienic false
theorem OR.mono {F F' : FH} {h h' : Heap} {o : CO} {a : Addr} (r : OR prog w F h o a) (hF : ∀ a o, F a = some o -> F' a = some o) (hk : ∀ ob, h.get? a = some ob -> h'.get? a = some ob) :
 OR prog w F' h' o a := by
 cases o with
 | list xs => obtain ⟨ob, vs, e, l, q⟩ := r; exact ⟨ob, vs, hk _ e, l, RVs.mono prog w hF _ _ q⟩
end
structure Wd where
 prog : Program
 w : World
 F0 : FH
 mg : Str -> Option Value
 mb : Str -> Option Value
 tabs : List (Addr × Addr × Str)
 tabsNone : ∀ t ∈ tabs, F0 t.2.1 = none
 tabsOne : ∀ t ∈ tabs, ∀ u ∈ tabs, t.2.1 = u.2.1 -> t.2.2 = u.2.2
 mods : ∃ o, F0 sysModules = some o
 lent : Option Addr
def Wd.T (W : Wd) (a : Addr) : Prop := ∃ t ∈ W.tabs, t.2.1 = a
def TabOK (F : FH) (h : Heap) (P : Addr) (q : Str) : Prop := ∃ ps, h.get? P = some (PySem.W.tabObj ps) ∧ TriplesOk ps.toList ∧
 ∀ pos cv, codeAmong pos ps.toList = some cv -> ∃ c oc vs t, cv = .ref c ∧ F c = some oc ∧ oc.data = .fields vs ∧ vs[1]? = some (.str q t)
structure Inv (W : Wd) (F : FH) (s : Shared) : Prop where
 frz : ∀ a o, F a = some o -> s.heap.get? a = some o
 base : ∀ a o, W.F0 a = some o -> F a = some o
 tab : ∀ t ∈ W.tabs, TabOK F s.heap t.2.1 t.2.2 ∧ F t.2.1 = none
def Fre (h : Heap) (a : Addr) : Prop := h.get? a = none
set_option tactic.hygienic false
theorem Fre.size (h : Heap) {a : Addr} (q : h.objs.size ≤ a) : Fre h a := by
 cases e : h.get? a with
 | none => exact e
 | some o => exact absurd (Heap.lt_size e) (Nat.not_lt.mpr q)
theorem Fre.ne {h : Heap} {a b : Addr} {o : Obj} (q : Fre h a) (e : h.get? b = some o) : a ≠ b := fun z => by
 unfold Fre at q
 rw [z, e] at q; cases q
structure Stp (W : Wd) (M : Addr -> Prop) (F F' : FH) (s s' : Shared) : Prop where
 keep : ∀ a o, s.heap.get? a = some o -> ¬ M a -> ¬ W.T a -> s'.heap.get? a = some o
 live : ∀ a o, s.heap.get? a = some o -> M a -> ∃ o', s'.heap.get? a = some o'
 sub : ∀ a o, F a = some o -> F' a = some o
 new : ∀ a o, F' a = some o -> F a = some o ∨ M a ∨ Fre s.heap a
 same : s'.gens = s.gens ∧ s'.drawn = s.drawn ∧ s'.os = s.os
 inv : Inv W F' s'
theorem Stp.refl {W : Wd} {M : Addr -> Prop} {F : FH} {s : Shared} (I : Inv W F s) : Stp W M F F s s :=
 ⟨fun _ _ e _ _ => e, fun _ o e _ => ⟨o, e⟩, fun _ _ e => e, fun _ _ e => .inl e, ⟨rfl, rfl, rfl⟩, I⟩
theorem Inv.tabThere {W : Wd} {F : FH} {s : Shared} (I : Inv W F s) {a : Addr} (h : W.T a) : ∃ o, s.heap.get? a = some o := by
 obtain ⟨t, ht, q⟩ := h
 obtain ⟨⟨ps, e1, _⟩, _⟩ := I.tab t ht
 exact ⟨_, q ▸ e1⟩
theorem Stp.back {W : Wd} {M : Addr -> Prop} {F F' : FH} {s s' : Shared} (x : Stp W M F F' s s') {a : Addr} (h : Fre s'.heap a) : Fre s.heap a := by
 cases e : s.heap.get? a with
 | none => exact e
 | some o =>
  exfalso
  by_cases m : M a
  · obtain ⟨o', e'⟩ := x.live a o e m
    exact h.ne e' rfl
  · by_cases t : W.T a
    · obtain ⟨o', e'⟩ := x.inv.tabThere t
      exact h.ne e' rfl
    · exact h.ne (x.keep a o e m t) rfl
theorem Stp.there {W : Wd} {M : Addr -> Prop} {F F' : FH} {s s' : Shared} (x : Stp W M F F' s s') {a : Addr} {o : Obj} (e : s.heap.get? a = some o) : ∃ o', s'.heap.get? a = some o' := by
 cases e' : s'.heap.get? a with
 | some o' => exact ⟨o', rfl⟩
 | none => exact absurd rfl (Fre.ne (x.back e') e)
theorem Stp.trans {W : Wd} {M M' : Addr -> Prop} {F F' F'' : FH} {s s' s'' : Shared} (x : Stp W M F F' s s') (y : Stp W M' F' F'' s' s'') (hM : ∀ a, M' a -> M a ∨ Fre s.heap a) :
 Stp W M F F'' s s'' where
 keep := fun a o e m t => y.keep a o (x.keep a o e m t) (fun m' => (hM a m').elim m fun q => q.ne e rfl) t
 live := fun a o e _ => by
  obtain ⟨o', e'⟩ := x.there e
  exact y.there e'
 sub := fun a o e => y.sub a o (x.sub a o e)
 new := fun a o e => by
  rcases y.new a o e with q | q | q
  · exact x.new a o q
  · exact (hM a q).elim (fun m => .inr (.inl m)) fun m => .inr (.inr m)
  · exact .inr (.inr (x.back q))
 same := ⟨y.same.1.trans x.same.1, y.same.2.1.trans x.same.2.1, y.same.2.2.trans x.same.2.2⟩
 inv := y.inv
theorem Stp.weaken {W : Wd} {M M' : Addr -> Prop} {F F' : FH} {s s' : Shared} (x : Stp W M F F' s s') (hM : ∀ a, M a -> M' a ∨ Fre s.heap a) : Stp W M' F F' s s' where
 keep := fun a o e m t => x.keep a o e (fun q => (hM a q).elim m fun z => z.ne e rfl) t
 live := fun a o e _ => x.there e
 sub := x.sub
 new := fun a o e => by
  rcases x.new a o e with q | q | q
  · exact .inl q
  · exact .inr (hM a q)
  · exact .inr (.inr q)
 same := x.same
 inv := x.inv
theorem Stp.ofKeep {W : Wd} {F : FH} {s : Shared} {h' : Heap} {tk : Nat} (I : Inv W F s) (hk : ∀ a o, s.heap.get? a = some o -> h'.get? a = some o) :
 Stp W (fun _ => False) F F s { s with heap := h', toks := tk } :=
 ⟨fun a o e _ _ => hk a o e, fun a o e _ => ⟨o, hk a o e⟩, fun _ _ e => e, fun _ _ e => .inl e, ⟨rfl, rfl, rfl⟩, ⟨fun a o e => hk a o (I.frz a o e), I.base, fun t ht => ⟨by
  obtain ⟨⟨ps, e1, e2, e3⟩, _⟩ := I.tab t ht
  exact ⟨ps, hk _ _ e1, e2, e3⟩, (I.tab t ht).2⟩⟩⟩
theorem Stp.past {W : Wd} {M wr : Addr -> Prop} {F F' : FH} {s s1 : Shared} {h' : Heap} {tk : Nat} (x : Stp W M F F' s s1) (hw : ∀ a, wr a -> Fre s.heap a ∧ F' a = none ∧ ¬ W.T a)
 (hk : ∀ a o, ¬ wr a -> s1.heap.get? a = some o -> h'.get? a = some o) : Stp W M F F' s { s1 with heap := h', toks := tk } where
 keep := fun a o e m t => hk a o (fun q => (hw a q).1.ne e rfl) (x.keep a o e m t)
 live := fun a o e m => by
  obtain ⟨o', e'⟩ := x.there e
  exact ⟨o', hk a o' (fun q => (hw a q).1.ne e rfl) e'⟩
 sub := x.sub
 new := x.new
 same := x.same
 inv := ⟨fun a o e => hk a o (fun q => by rw [(hw a q).2.1] at e; cases e) (x.inv.frz a o e), x.inv.base, fun t ht => ⟨by
  obtain ⟨⟨ps, e1, e2, e3⟩, _⟩ := x.inv.tab t ht
  exact ⟨ps, hk _ _ (fun q => (hw _ q).2.2 ⟨t, ht, rfl⟩) e1, e2, e3⟩, (x.inv.tab t ht).2⟩⟩
noncomputable def FH.add (F : FH) (a : Addr) (o : Obj) : FH := fun b => if b = a then some o else F b
theorem FH.add_self (F : FH) (a : Addr) (o : Obj) : F.add a o a = some o := by simp [FH.add]
set_option tactic.hygienic true
theorem FH.add_sub {F : FH} {a : Addr} {o : Obj} (hn : F a = none) : ∀ b ob, F b = some ob -> F.add a o b = some ob := fun b ob e => by
 unfold FH.add
 split
 · rename_i h; subst h; rw [hn] at e; cases e
 · exact e
set_option tactic.hygienic false
theorem Inv.notTab {W : Wd} {F : FH} {s : Shared} (I : Inv W F s) {a : Addr} {o : Obj} (e : F a = some o) : ¬ W.T a := fun ⟨t, ht, q⟩ => by
 rw [<- q, (I.tab t ht).2] at e; cases e
set_option tactic.hygienic true
theorem Inv.add {W : Wd} {F : FH} {s : Shared} (I : Inv W F s) {a : Addr} {o : Obj} (hn : F a = none) (ha : s.heap.get? a = some o) (ht : ¬ W.T a) : Inv W (F.add a o) s where
 frz := fun b ob e => by
  unfold FH.add at e
  split at e
  · rename_i h; subst h; cases e; exact ha
  · exact I.frz b ob e
 base := fun b ob e => FH.add_sub hn b ob (I.base b ob e)
 tab := fun t h => by
  obtain ⟨⟨ps, e1, e2, e3⟩, e4⟩ := I.tab t h
  refine ⟨⟨ps, e1, e2, fun pos cv q => ?_⟩, ?_⟩
  · obtain ⟨c, oc, vs, t, a1, a2, a3, a4⟩ := e3 pos cv q
    exact ⟨c, oc, vs, t, a1, FH.add_sub hn _ _ a2, a3, a4⟩
  · unfold FH.add
    rw [if_neg (fun q => ht ⟨t, h, q⟩)]; exact e4
theorem Stp.freeze {W : Wd} {M : Addr -> Prop} {F F' : FH} {s s' : Shared} (x : Stp W M F F' s s') {a : Addr} {o : Obj} (hn : F' a = none) (ha : s'.heap.get? a = some o) (ht : ¬ W.T a)
 (hm : M a ∨ Fre s.heap a) : Stp W M F (F'.add a o) s s' where
 keep := x.keep
 live := x.live
 sub := fun b ob e => FH.add_sub hn b ob (x.sub b ob e)
 new := fun b ob e => by
  unfold FH.add at e
  split at e
  · rename_i h; subst h; exact .inr hm
  · exact x.new b ob e
 same := x.same
 inv := x.inv.add hn ha ht
set_option tactic.hygienic false
theorem Inv.fresh {W : Wd} {F : FH} {s : Shared} (I : Inv W F s) {a : Addr} (h : Fre s.heap a) : F a = none := by
 cases e : F a with
 | none => rfl
 | some o => exact absurd rfl (h.ne (I.frz a o e))
theorem Inv.notMods {W : Wd} {F : FH} {s : Shared} (I : Inv W F s) {a : Addr} (h : Fre s.heap a) : a ≠ sysModules := by
 obtain ⟨o, e⟩ := W.mods
 exact h.ne (I.frz _ _ (I.base _ _ e))
theorem Inv.tabOld {W : Wd} {F : FH} {s : Shared} (I : Inv W F s) {a : Addr} (h : Fre s.heap a) : ¬ W.T a := fun q => by
 obtain ⟨o, e⟩ := I.tabThere q
 exact h.ne e rfl
def VarIs (h : Heap) (env : Env) (x : Str) (v : Value) : Prop :=
 (env.kindOf x = some .local ∧ ∃ m, h.Ns env.locals m ∧ m x = some v) ∨
 ((env.kindOf x = some .cell ∨ env.kindOf x = some .free) ∧ ∃ ca, env.cells.lookup x = some ca ∧ h.IsCell ca (some v))
inductive SOwn (W : Wd) (F : FH) (h : Heap) (ad : Str -> Option Addr) (x : Str) (o : CO) (v : Value) : Prop
 | mk (a : Addr) (h1 : v = .ref a) (h2 : ad x = some a) (h3 : OR W.prog W.w F h o a)
inductive SBor (W : Wd) (F : FH) (h : Heap) (ad : Str -> Option Addr) (x : Str) (o : CO) (v : Value) : Prop
 | mk (a : Addr) (h1 : v = .ref a) (h2 : ad x = some a) (h3 : OR W.prog W.w F h o a) (h4 : W.lent = some a)
def SlotR (W : Wd) (F : FH) (h : Heap) (ad : Str -> Option Addr) (x : Str) : Slot -> Value -> Prop
 | .val c, v => RV W.prog W.w F c v
 | .own o, v => SOwn W F h ad x o v
 | .bor o, v => SBor W F h ad x o v
inductive OwnS (W : Wd) (F : FH) (h : Heap) (env : Env) (ρ : CE) (x : Str) (a : Addr) : Prop
 | mk (h1 : (ownOf (ρ.get x)).isSome = true) (h2 : F a = none) (h3 : ¬ W.T a) (h4 : a ≠ env.locals) (h5 : ∀ y ca, env.cells.lookup y = some ca -> a ≠ ca) (h6 : ∃ o, h.get? a = some o)
inductive CellS (W : Wd) (F : FH) (h : Heap) (env : Env) (x : Str) : Prop
 | mk (ca : Addr) (v0 : Option Value) (h1 : env.cells.lookup x = some ca) (h2 : h.IsCell ca v0) (h3 : F ca = none) (h4 : ¬ W.T ca)
structure KindR (W : Wd) (env : Env) (ρ : CE) : Prop where
 fn : env.scope.kind = .function
 glo : env.globals = mainGlobals
 blt : env.builtins = builtinsNs
 loc : ∀ x, ρ.kind x = some .local -> env.kindOf x = some .local
 cell : ∀ x, ρ.kind x = some .cell -> env.kindOf x = some .cell
 free : ∀ x, ρ.kind x = some .free -> env.kindOf x = some .free ∨ env.kindOf x = some .cell
 glob : ∀ x, ρ.kind x = some .globalImplicit -> env.kindOf x = some .globalImplicit
 apart : ∀ x y ca, env.cells.lookup x = some ca -> env.cells.lookup y = some ca -> x = y
 cellF : ∀ x, ρ.kind x = some .cell -> env.frame = some env.locals
 lam : lamS ρ.scope = true -> ∃ c P, env.code = .ref c ∧ (c, P, env.qual ++ "<lambda>") ∈ W.tabs
structure Rel (W : Wd) (F : FH) (h : Heap) (env : Env) (ρ : CE) (ad : Str -> Option Addr) : Prop where
 kind : KindR W env ρ
 ns : ∃ m, h.Ns env.locals m
 nsF : F env.locals = none
 nsT : ¬ W.T env.locals
 var : ∀ x sl, ρ.get x = some sl -> ∃ v, VarIs h env x v ∧ SlotR W F h ad x sl v
 cells : ∀ x, ρ.kind x = some .cell -> CellS W F h env x
 own : ∀ x a, ad x = some a -> OwnS W F h env ρ x a
 inj : ∀ x y a, ad x = some a -> ad y = some a -> x = y
 cl : ∀ x a, env.cells.lookup x = some a -> ∃ v, h.IsCell a v
 frm : ∀ f, env.frame = some f -> ∃ o, h.get? f = some o
def ownA (ad : Str -> Option Addr) (a : Addr) : Prop := ∃ x, ad x = some a
def frmA (env : Env) (ad : Str -> Option Addr) (a : Addr) : Prop := ownA ad a ∨ a = env.locals ∨ (env.frame = some env.locals ∧ ∃ x, env.kindOf x = some .cell ∧ env.cells.lookup x = some a)
def EVR (W : Wd) (F : FH) (h : Heap) (env : Env) : EV -> Value -> Prop
 | .val c, v => RV W.prog W.w F c v
 | .ref x, v => VarIs h env x v
def Room (A : Around) (k : Nat) : Prop := A.handled = none ∧ A.depth + k < 1000 ∧ A.units + 4 * k < 9900
theorem Room.in1 {A : Around} {k : Nat} (R : Room A (k + 1)) : Room A.in1 k := ⟨R.1, by have := R.2.1; show A.depth + k < 1000; omega, by have := R.2.2; show A.units + 1 + 4 * k < 9900; omega⟩
theorem Room.deeper {A : Around} {k : Nat} (R : Room A (k + 1)) (env : Env) : Room (A.deeper env) k := ⟨R.1, by have := R.2.1; show A.depth + 1 + k < 1000; omega, by have := R.2.2; show A.units + 3 + 4 * k < 9900; omega⟩
theorem Room.le {A : Around} {k j : Nat} (R : Room A k) (h : j ≤ k) : Room A j := ⟨R.1, by have := R.2.1; omega, by have := R.2.2; omega⟩
theorem Room.hh {A : Around} {k : Nat} (R : Room A k) : A.handled = none := R.1
theorem Room.dep {A : Around} {k : Nat} (R : Room A k) : A.depth < recursionLimit := by have := R.2.1; show A.depth < 1000; omega
theorem Room.uni {A : Around} {k : Nat} (R : Room A k) : A.units < cLine := by have := R.2.2; show A.units < 9900; omega
theorem abQ {h : Heap} {a ca : Addr} {m : Str -> Option Value} {v : Option Value} (x : h.Ns a m) (y : h.IsCell ca v) : ca ≠ a := fun e => by
 obtain ⟨o, es, ep, e1, e2, _⟩ := x
 obtain ⟨o', e3, e4⟩ := y
 subst e
 rw [e1] at e3
 cases e3
 rw [e2] at e4; cases e4
section
variable {W : Wd} {F F' : FH} {s s' : Shared} {env : Env} {ρ : CE} {ad : Str -> Option Addr} {M : Addr -> Prop}
set_option tactic.hygienic false
theorem VarIs.keep {h h' : Heap} {x : Str} {v : Value} (r : VarIs h env x v) (hk : ∀ a o, (a = env.locals ∨ ∃ y, env.cells.lookup y = some a) -> h.get? a = some o -> h'.get? a = some o) : VarIs h' env x v := by
 refine hid fun z0 => ?_
 rcases r with ⟨k, m, ⟨o, es, ep, e, r⟩, q⟩ | ⟨k, ca, c, ⟨o, e, r⟩⟩
 · refine z0 ?_
   exact .inl ⟨k, m, ⟨o, es, ep, hk _ _ (.inl rfl) e, r⟩, q⟩
 · refine z0 ?_
   exact .inr ⟨k, ca, c, ⟨o, hk _ _ (.inr ⟨x, c⟩) e, r⟩⟩
theorem VarIs.uniq {h : Heap} {x : Str} {v v' : Value} (r : VarIs h env x v) (r' : VarIs h env x v') : v = v' := by
 rcases r with ⟨k, m, n, q⟩ | ⟨k, ca, c, ⟨o, e, d⟩⟩ <;> rcases r' with ⟨k', m', n', q'⟩ | ⟨k', ca', c', ⟨o', e', d'⟩⟩
 · obtain ⟨o, es, ep, e, e2, _, e3⟩ := n
   refine hid fun z1 => ?_
   obtain ⟨o', es', ep', e', e2', _, e3'⟩ := n'
   rw [e] at e'; cases e'
   rw [e2] at e2'; cases e2'
   rw [<- e3, e3' x, q'] at q
   refine z1 ?_
   exact (Option.some.inj q).symm
 · rw [k] at k'; rcases k' with k' | k' <;> cases k'
 · rw [k'] at k; rcases k with k | k <;> cases k
 · rw [c] at c'; cases c'
   rw [e] at e'; cases e'
   rw [d] at d'; cases d'; rfl
theorem Rel.own_apart (R : Rel W F s.heap env ρ ad) {a : Addr} (h : a = env.locals ∨ ∃ y, env.cells.lookup y = some a) : ¬ ownA ad a := fun ⟨x, e⟩ => by
 obtain ⟨_, _, _, q1, q2, _⟩ := R.own x a e
 rcases h with h | ⟨y, h⟩
 · exact q1 h
 · exact q2 y a h rfl
theorem OR.cls {h : Heap} {o : CO} {a : Addr} (r : OR W.prog W.w F h o a) : ∃ ob, h.get? a = some ob ∧ ob.cls ≠ .none := by
 refine hid fun z0 => ?_
 cases o with
 | list xs => obtain ⟨ob, vs, e, ⟨n, l⟩, _⟩ := r; refine z0 ?_; exact ⟨ob, e, by rw [l]; exact fun q => by cases q⟩
theorem Inv.tabCls (I : Inv W F s) {a : Addr} (h : W.T a) {ob : Obj} (e : s.heap.get? a = some ob) : ob.cls = .none := by
 obtain ⟨t, ht, q⟩ := h
 refine hid fun z1 => ?_
 obtain ⟨⟨ps, e1, _⟩, _⟩ := I.tab t ht
 rw [q, e] at e1
 cases e1; refine z1 ?_; rfl
theorem Inv.notTabOR (I : Inv W F s) {o : CO} {a : Addr} (r : OR W.prog W.w F s.heap o a) : ¬ W.T a := fun h => by
 obtain ⟨ob, e, q⟩ := OR.cls r
 exact q (I.tabCls h e)
theorem Inv.notTabNs (I : Inv W F s) {a : Addr} {m} (n : s.heap.Ns a m) : ¬ W.T a := fun ⟨t, ht, q⟩ => by
 obtain ⟨o, es, ep, e, d, _⟩ := n
 obtain ⟨⟨ps, e1, _⟩, _⟩ := I.tab t ht
 rw [q, e] at e1
 cases e1; cases d
theorem Inv.notTabCell (I : Inv W F s) {a : Addr} {v} (n : s.heap.IsCell a v) : ¬ W.T a := fun ⟨t, ht, q⟩ => by
 obtain ⟨o, e, d⟩ := n
 obtain ⟨⟨ps, e1, _⟩, _⟩ := I.tab t ht
 rw [q, e] at e1
 cases e1; cases d
theorem Rel.keep (R : Rel W F s.heap env ρ ad) (I : Inv W F s) (S : Stp W M F F' s s')
 (hM : ∀ a, M a -> ¬ ownA ad a ∧ a ≠ env.locals ∧ (∀ y, env.cells.lookup y ≠ some a)) : Rel W F' s'.heap env ρ ad where
 kind := R.kind
 ns := let ⟨m, o, es, ep, e, r⟩ := R.ns; ⟨m, o, es, ep, S.keep _ _ e (fun q => (hM _ q).2.1 rfl) R.nsT, r⟩
 nsF := by
  cases e : F' env.locals with
  | none => rfl
  | some o => rcases S.new _ _ e with q | q | q
              · rw [R.nsF] at q; cases q
              · exact absurd rfl (hM _ q).2.1
              · obtain ⟨m, o', es, ep, e', _⟩ := R.ns; exact absurd rfl (q.ne e')
 nsT := R.nsT
 var := fun x sl h => by
  obtain ⟨v, hv, hs⟩ := R.var x sl h
  have hv' : VarIs s'.heap env x v := by
   rcases hv with ⟨k, m, n, q⟩ | ⟨k, ca, c, y⟩
   · have nt := I.notTabNs n
     obtain ⟨o, es, ep, e, r⟩ := n
     exact .inl ⟨k, m, ⟨o, es, ep, S.keep _ _ e (fun q => (hM _ q).2.1 rfl) nt, r⟩, q⟩
   · have nt := I.notTabCell y
     obtain ⟨o, e, r⟩ := y
     exact .inr ⟨k, ca, c, ⟨o, S.keep _ _ e (fun q => (hM _ q).2.2 x c) nt, r⟩⟩
  refine ⟨v, hv', ?_⟩
  cases sl with
  | val c => exact RV.mono _ _ S.sub _ _ hs
  | own o =>
   obtain ⟨a, e1, e2, e3⟩ := hs
   exact ⟨a, e1, e2, OR.mono _ _ e3 S.sub fun ob q => S.keep _ _ q (fun m => (hM _ m).1 ⟨x, e2⟩) (I.notTabOR e3)⟩
  | bor o =>
   obtain ⟨a, e1, e2, e3, e4⟩ := hs
   exact ⟨a, e1, e2, OR.mono _ _ e3 S.sub fun ob q => S.keep _ _ q (fun m => (hM _ m).1 ⟨x, e2⟩) (I.notTabOR e3), e4⟩
 cells := fun x hk => by
  obtain ⟨ca, v0, e1, e2, e3, e4⟩ := R.cells x hk
  obtain ⟨o, e, r⟩ := e2
  refine ⟨ca, v0, e1, ⟨o, S.keep _ _ e (fun q => (hM _ q).2.2 x e1) e4, r⟩, ?_, e4⟩
  cases e' : F' ca with
  | none => rfl
  | some o' => rcases S.new _ _ e' with q | q | q
               · rw [e3] at q; cases q
               · exact absurd e1 ((hM _ q).2.2 x)
               · exact absurd rfl (q.ne e)
 own := fun x a e => by
  obtain ⟨q1, q2, q3, q4, q5, q6⟩ := R.own x a e
  obtain ⟨oq, q6⟩ := q6
  refine ⟨q1, ?_, q3, q4, q5, S.there q6⟩
  cases e' : F' a with
  | none => rfl
  | some o' => rcases S.new _ _ e' with q | q | q
               · rw [q2] at q; cases q
               · exact absurd ⟨x, e⟩ (hM _ q).1
               · exact absurd rfl (q.ne q6)
 inj := R.inj
 cl := fun x a e => by
  obtain ⟨v, y⟩ := R.cl x a e
  have nt := I.notTabCell y
  obtain ⟨o, e1, e2⟩ := y
  exact ⟨v, o, S.keep _ _ e1 (fun q => (hM _ q).2.2 x e) nt, e2⟩
 frm := fun f e => let ⟨_, q⟩ := R.frm f e; S.there q
theorem Rel.keep0 (R : Rel W F s.heap env ρ ad) (I : Inv W F s) (S : Stp W (fun _ => False) F F' s s') : Rel W F' s'.heap env ρ ad := R.keep I S fun _ m => m.elim
end
def EvOK (W : Wd) (k : Nat) (ev : Expr -> CE -> Option (EV × CE)) : Prop :=
 ∀ e ρ r ρ', ev e ρ = some (r, ρ') -> ∀ (A : Around) (env : Env) (F : FH) (s : Shared) (ad : Str -> Option Addr), Room A k -> Inv W F s -> Rel W F s.heap env ρ ad ->
  ∀ (Q : VP) (E : VP),
   (∀ v F' s' ad', Stp W (ownA ad) F F' s s' -> Rel W F' s'.heap env ρ' ad' -> (∀ x a, ad' x = some a -> ad x = some a) -> EVR W F' s'.heap env r v -> Q v s') ->
   wpAny (model W.prog W.w) A (eval e env) Q E s
def ItOK (W : Wd) (k : Nat) (it : Expr -> CE -> Option (Bool × CE)) : Prop :=
 ∀ e ρ b ρ', it e ρ = some (b, ρ') -> ∀ (A : Around) (env : Env) (F : FH) (s : Shared) (ad : Str -> Option Addr), Room A k -> Inv W F s -> Rel W F s.heap env ρ ad ->
  ∀ (Q : Bool -> Shared -> Prop) (E : VP),
   (∀ F' s' ad', Stp W (ownA ad) F F' s s' -> Rel W F' s'.heap env ρ' ad' -> (∀ x a, ad' x = some a -> ad x = some a) -> Q b s') ->
   wpAny (model W.prog W.w) A (isTrue e env (eval e env)) Q E s
def FlR (W : Wd) (F : FH) : FC -> Flow -> Prop
 | .next, f => f = .next
 | .brk, f => f = .brk
 | .cont, f => f = .cont
 | .ret c, f => ∃ v, f = .ret v ∧ RV W.prog W.w F c v
def XsOK (W : Wd) (k : Nat) (xs : Stmt -> CE -> Option (FC × CE)) : Prop :=
 ∀ st ρ r ρ', xs st ρ = some (r, ρ') -> ∀ (A : Around) (env : Env) (F : FH) (s : Shared) (ad : Str -> Option Addr), Room A k -> Inv W F s -> Rel W F s.heap env ρ ad ->
  ∀ (Q : Flow -> Shared -> Prop) (E : VP),
   (∀ f F' s' ad', Stp W (frmA env ad) F F' s s' -> Rel W F' s'.heap env ρ' ad' -> (∀ x a, ad' x = some a -> ad x = some a ∨ Fre s.heap a) -> FlR W F' r f -> Q f s') ->
   wpAny (model W.prog W.w) A (exec st env) Q E s
structure SmOK (W : Wd) (k : Nat) (S : SM) : Prop where
 ev : EvOK W k S.ev
 it : ItOK W k S.it
 xs : XsOK W k S.xs
set_option tactic.hygienic false
theorem afS (l : List (Str × Slot)) (x y : Str) (s : Slot) : (upd l x s).lookup y = if y = x then some s else l.lookup y := by
 induction l with
 | nil =>
  show List.lookup y [(x, s)] = _
  by_cases h : y = x
  · subst h; simp [List.lookup]
  · have : (y == x) = false := beq_eq_false_iff_ne.mpr h
    simp [List.lookup, this, h]
 | cons p r ih =>
  obtain ⟨k, t⟩ := p
  rw [amF]
  cases hk : x == k with
  | true =>
   have e : x = k := beq_iff_eq.mp hk
   subst e
   by_cases h : y = x
   · subst h; simp [List.lookup]
   · have : (y == x) = false := beq_eq_false_iff_ne.mpr h
     simp [List.lookup, this, h]
  | false =>
   have e : x ≠ k := beq_eq_false_iff_ne.mp hk
   by_cases h : y = k
   · subst h
     have : y ≠ x := fun q => e q.symm
     simp [List.lookup, this]
   · have : (y == k) = false := beq_eq_false_iff_ne.mpr h
     simp only [List.lookup, this]
     exact ih
theorem ab2 (ρ : CE) (x y : Str) (s : Slot) : (ρ.set x s).get y = if y = x then some s else ρ.get y := afS _ _ _ _
theorem amE (ρ : CE) (x : Str) (s : Slot) (y : Str) : (ρ.set x s).kind y = ρ.kind y := rfl
section
variable {W : Wd} {F F' : FH} {s s' : Shared} {env : Env} {ρ : CE} {ad : Str -> Option Addr} {M : Addr -> Prop} {A : Around} {E : VP}
set_option tactic.hygienic false
theorem adQ {x : Str} {v : Value} {Q : VP} (hk : env.scope.kind = .function) (r : VarIs s.heap env x v) (h : Q v s) (hn : (x == ("__classdict__" : Str)) = false) :
 wpAny (model W.prog W.w) A (loadName env x) Q E s := by
 refine hid fun z0 => ?_
 rcases r with ⟨k, m, n, q⟩ | ⟨k | k, ca, c, y⟩
 · refine z0 ?_
   exact wpAny_loadName_local hk k n q h
 · refine z0 ?_
   exact wpAny_loadName_cell hk k c y h
 · refine z0 ?_
   exact wpAny_loadName_free hk k c y h hn
theorem OR.toRV {h : Heap} {o : CO} {a : Addr} (r : OR W.prog W.w F h o a) (hn : F a = none) : ∃ ob, h.get? a = some ob ∧ RV W.prog W.w (F.add a ob) o.cv (.ref a) := by
 refine hid fun z0 => ?_
 cases o with
 | list xs =>
  obtain ⟨ob, vs, e, l, q⟩ := r
  refine z0 ?_
  refine ⟨ob, e, ?_⟩
  simp only [CO.cv]
  exact ⟨a, ob, vs, rfl, FH.add_self .., l, RVs.mono _ _ (FH.add_sub hn) _ _ q⟩
noncomputable def without1 (ad : Str -> Option Addr) (x : Str) : Str -> Option Addr := fun y => if y = x then none else ad y
set_option tactic.hygienic true
theorem aa0 {ad : Str -> Option Addr} {x y : Str} {a : Addr} (h : without1 ad x y = some a) : y ≠ x ∧ ad y = some a := by
 unfold without1 at h
 refine hid fun z0 => ?_
 split at h
 · cases h
 · rename_i q; refine z0 ?_; exact ⟨q, h⟩
set_option tactic.hygienic false
theorem adR {F : FH} {a b : Addr} {ob : Obj} (h : F b = none) (hab : b ≠ a) : F.add a ob b = none := by
 unfold FH.add; rw [if_neg hab]; exact h
theorem afT (I : Inv W F s) (R : Rel W F s.heap env ρ ad) {x : Str} {o : CO} {v : Value} (hx : ρ.get x = some (.own o)) (hv : VarIs s.heap env x v) :
 ∃ F', Stp W (ownA ad) F F' s s ∧ Rel W F' s.heap env (ρ.set x (.val o.cv)) (without1 ad x) ∧ RV W.prog W.w F' o.cv v := by
 refine hid fun z0 => ?_
 obtain ⟨v', hv', a, e1, e2, e3⟩ := R.var x _ hx
 obtain rfl := hv.uniq hv'
 subst e1
 obtain ⟨_, q2, q3, q4, q5, q6⟩ := R.own x a e2
 obtain ⟨ob, e4, e5⟩ := e3.toRV q2
 have S : Stp W (ownA ad) F (F.add a ob) s s := (Stp.refl I).freeze q2 e4 q3 (.inl ⟨x, e2⟩)
 refine z0 ?_
 refine ⟨F.add a ob, S, ?_, e5⟩
 have sub := S.sub
 refine ⟨⟨R.kind.fn, R.kind.glo, R.kind.blt, R.kind.loc, R.kind.cell, R.kind.free, R.kind.glob, R.kind.apart, R.kind.cellF, R.kind.lam⟩, R.ns, adR R.nsF (Ne.symm q4), R.nsT, fun y sl hy => ?_, fun y hk => ?_, fun y b hb => ?_, fun y z b h1 h2 => R.inj y z b (aa0 h1).2 (aa0 h2).2, R.cl, R.frm⟩
 · rw [ab2] at hy
   refine hid fun z1 => ?_
   by_cases hyx : y = x
   · subst hyx
     rw [if_pos rfl] at hy; cases hy
     refine z1 ?_
     exact ⟨_, hv, e5⟩
   · rw [if_neg hyx] at hy
     obtain ⟨u, hu, hs⟩ := R.var y sl hy
     refine z1 ?_
     refine ⟨u, hu, ?_⟩
     cases sl with
     | val c => exact RV.mono _ _ sub _ _ hs
     | own o' => obtain ⟨b, f1, f2, f3⟩ := hs; exact ⟨b, f1, by unfold without1; rw [if_neg hyx]; exact f2, f3.mono _ _ sub fun _ q => q⟩
     | bor o' => obtain ⟨b, f1, f2, f3, f4⟩ := hs; exact ⟨b, f1, by unfold without1; rw [if_neg hyx]; exact f2, f3.mono _ _ sub fun _ q => q, f4⟩
 · obtain ⟨ca, v0, f1, f2, f3, f4⟩ := R.cells y hk
   exact ⟨ca, v0, f1, f2, adR f3 (Ne.symm (q5 y ca f1)), f4⟩
 · obtain ⟨hyx, hb⟩ := aa0 hb
   refine hid fun z6 => ?_
   obtain ⟨p1, p2, p3, p4, p5, p6⟩ := R.own y b hb
   refine z6 ?_
   refine ⟨by rw [ab2, if_neg hyx]; exact p1, adR p2 (fun q => hyx (R.inj y x a (q ▸ hb) e2)), p3, p4, p5, p6⟩
inductive FzV (W : Wd) (env : Env) (ad : Str -> Option Addr) (F : FH) (s : Shared) (ρ' : CE) (c : CV) (v : Value) : Prop
 | mk (F' : FH) (ad' : Str -> Option Addr) (h1 : Stp W (ownA ad) F F' s s) (h2 : Rel W F' s.heap env ρ' ad') (h3 : ∀ x a, ad' x = some a -> ad x = some a) (h4 : RV W.prog W.w F' c v)
theorem ace (I : Inv W F s) (R : Rel W F s.heap env ρ ad) {a : EV} {c : CV} {ρ' : CE} {v : Value} (h : freeze ρ a = some (c, ρ')) (hv : EVR W F s.heap env a v) :
 FzV W env ad F s ρ' c v := by
 cases a with
 | val c' => simp only [freeze, Option.some.injEq, Prod.mk.injEq] at h; obtain ⟨rfl, rfl⟩ := h; exact ⟨F, ad, .refl I, R, fun _ _ e => e, hv⟩
 | ref x =>
  unfold freeze at h
  dsimp only at h
  refine hid fun z1 => ?_
  cases hx : ρ.get x with
  | none => rw [hx] at h; cases h
  | some sl =>
   rw [hx] at h
   have hu := R.var x sl hx
   cases sl with
   | val c' => cases h; obtain ⟨u, hu, hs⟩ := hu; refine z1 ?_; exact ⟨F, ad, .refl I, R, fun _ _ e => e, by rw [VarIs.uniq hv hu]; exact hs⟩
   | own o => cases h; obtain ⟨F', S, R', q⟩ := afT I R hx hv; refine z1 ?_; exact ⟨F', _, S, R', fun _ _ e => (aa0 e).2, q⟩
   | bor o => cases h
def CvAt (W : Wd) (F : FH) (h : Heap) (c : CV) (v : Value) : Prop := RV W.prog W.w F c v ∨ ∃ o a, c = CO.cv o ∧ v = .ref a ∧ OR W.prog W.w F h o a
theorem abb (R : Rel W F s.heap env ρ ad) {a : EV} {c : CV} {v : Value} (h : deref ρ a = some c) (hv : EVR W F s.heap env a v) : CvAt W F s.heap c v := by
 refine hid fun z0 => ?_
 cases a with
 | val c' => cases h; refine z0 ?_; exact .inl hv
 | ref x =>
  unfold deref at h
  dsimp only at h
  cases hx : ρ.get x with
  | none => rw [hx] at h; cases h
  | some sl =>
   rw [hx] at h; cases h
   obtain ⟨u, hu, hs⟩ := R.var x sl hx
   obtain rfl := VarIs.uniq hv hu
   cases sl with
   | val c' => refine z0 ?_; exact .inl hs
   | own o => obtain ⟨b, e1, _, e3⟩ := hs; refine z0 ?_; exact .inr ⟨o, b, rfl, e1, e3⟩
   | bor o => obtain ⟨b, e1, _, e3, _⟩ := hs; refine z0 ?_; exact .inr ⟨o, b, rfl, e1, e3⟩
theorem EVR.step (I : Inv W F s) (R : Rel W F s.heap env ρ ad) (S : Stp W (ownA ad) F F' s s') {a : EV} {v : Value} (h : EVR W F s.heap env a v) : EVR W F' s'.heap env a v := by
 cases a with
 | val c => exact RV.mono _ _ S.sub _ _ h
 | ref x =>
  refine hid fun z1 => ?_
  rcases h with ⟨k, m, n, q⟩ | ⟨k, ca, c, y⟩
  · have nt := I.notTabNs n
    obtain ⟨o, es, ep, e, r⟩ := n
    refine z1 ?_
    exact .inl ⟨k, m, ⟨o, es, ep, S.keep _ _ e (R.own_apart (.inl rfl)) nt, r⟩, q⟩
  · have nt := I.notTabCell y
    obtain ⟨o, e, r⟩ := y
    refine z1 ?_
    exact .inr ⟨k, ca, c, ⟨o, S.keep _ _ e (R.own_apart (.inr ⟨x, c⟩)) nt, r⟩⟩
theorem aai {ad ad' : Str -> Option Addr} (h : ∀ x a, ad' x = some a -> ad x = some a) : ∀ a, ownA ad' a -> ownA ad a ∨ Fre s.heap a := fun a ⟨x, e⟩ => .inl ⟨x, h x a e⟩
inductive NewOwn (W : Wd) (F : FH) (h : Heap) (env : Env) (ad : Str -> Option Addr) (x : Str) (o : CO) (v : Value) (A' : Option Addr) : Prop
 | mk (a : Addr) (h1 : v = .ref a) (h2 : A' = some a) (h3 : OR W.prog W.w F h o a) (h4 : F a = none) (h5 : ¬ W.T a) (h6 : a ≠ env.locals) (h7 : ∀ y ca, env.cells.lookup y = some ca -> a ≠ ca) (h8 : ∀ y, y ≠ x -> ad y ≠ some a)
def NewSlot (W : Wd) (F : FH) (h : Heap) (env : Env) (ad : Str -> Option Addr) (x : Str) (sl : Slot) (v : Value) (A' : Option Addr) : Prop := match sl with
 | .val c => RV W.prog W.w F c v ∧ A' = none
 | .own o => NewOwn W F h env ad x o v A'
 | _ => False
noncomputable def with1 (ad : Str -> Option Addr) (x : Str) (A' : Option Addr) : Str -> Option Addr := fun y => if y = x then A' else ad y
theorem ado (I : Inv W F s) (R : Rel W F s.heap env ρ ad) {x : Str} {v : Value} {sl : Slot} {A' : Option Addr} (hn : NewSlot W F s.heap env ad x sl v A')
 {P : Addr} (hP : F P = none) (hPT : ¬ W.T P) (hPo : ¬ ownA ad P) (hPA : A' ≠ some P) (hb : Heap.SameBut P s.heap s'.heap) (hsm : s'.gens = s.gens ∧ s'.drawn = s.drawn ∧ s'.os = s.os)
 (hPl : (P = env.locals ∧ ∃ m, s.heap.Ns P m ∧ env.kindOf x = some .local ∧ s'.heap.Ns P fun y => if y = x then some v else m y) ∨
  (env.kindOf x = some .cell ∧ env.cells.lookup x = some P ∧ s'.heap.IsCell P (some v) ∧ ∃ v0, s.heap.IsCell P v0)) :
 Stp W (· = P) F F s s' ∧ Rel W F s'.heap env (ρ.set x sl) (with1 ad x A') := by
 have hkeep : ∀ a o, s.heap.get? a = some o -> a ≠ P -> s'.heap.get? a = some o := fun a o e q => (hb.2 a q).trans e
 have I' : Inv W F s' := ⟨fun a o e => hkeep a o (I.frz a o e) (fun q => by rw [q, hP] at e; cases e), I.base, fun t ht => by
  refine hid fun z0 => ?_
  obtain ⟨⟨ps, e1, e2, e3⟩, e4⟩ := I.tab t ht
  refine z0 ?_
  exact ⟨⟨ps, hkeep _ _ e1 (fun q => hPT ⟨t, ht, q⟩), e2, e3⟩, e4⟩⟩
 have hPx : ∃ o', s'.heap.get? P = some o' := by
  refine hid fun z1 => ?_
  rcases hPl with ⟨_, m, _, _, o, es, ep, e, _⟩ | ⟨_, _, ⟨o, e, _⟩, _⟩
  · refine z1 ?_
    exact ⟨o, e⟩
  · refine z1 ?_
    exact ⟨o, e⟩
 refine ⟨⟨fun a o e m _ => hkeep a o e m, fun a o _ m => m ▸ hPx, fun _ _ e => e, fun _ _ e => .inl e, hsm, I'⟩, ?_⟩
 have hcellK : ∀ y ca u, env.cells.lookup y = some ca -> y ≠ x -> s.heap.IsCell ca u -> s'.heap.IsCell ca u := fun y ca u h1 h2 ⟨o, e, r⟩ => by
  refine ⟨o, hkeep _ _ e ?_, r⟩
  refine hid fun z2 => ?_
  rcases hPl with ⟨q, m, n, _⟩ | ⟨_, q, _, _⟩
  · refine z2 ?_
    exact abQ n ⟨o, e, r⟩
  · refine z2 ?_
    exact fun z => h2 (R.kind.apart y x ca h1 (z ▸ q))
 have hvar : ∀ y u, y ≠ x -> VarIs s.heap env y u -> VarIs s'.heap env y u := fun y u hy hu => by
  refine hid fun z3 => ?_
  rcases hu with ⟨k, m, n, q⟩ | ⟨k, ca, c, cl⟩
  · rcases hPl with ⟨e, m', n', _, n2⟩ | ⟨_, _, _, v0, cP⟩
    · subst e
      refine z3 ?_
      refine .inl ⟨k, _, n2, ?_⟩
      show (if y = x then some v else m' y) = some u
      rw [if_neg hy]
      have : m y = m' y := by
       refine hid fun z4 => ?_
       obtain ⟨o, es, ep, a1, a2, _, a3⟩ := n
       obtain ⟨o', es', ep', b1, b2, _, b3⟩ := n'
       rw [a1] at b1; cases b1
       rw [a2] at b2; cases b2
       refine z4 ?_
       rw [<- a3 y, b3 y]
      rw [<- this]; exact q
    · obtain ⟨o, es, ep, a1, a2⟩ := id n
      refine z3 ?_
      exact .inl ⟨k, m, ⟨o, es, ep, hkeep _ _ a1 (fun z => by exact (abQ n cP) z.symm), a2⟩, q⟩
  · refine z3 ?_
    exact .inr ⟨k, ca, c, hcellK y ca _ c hy cl⟩
 refine ⟨⟨R.kind.fn, R.kind.glo, R.kind.blt, R.kind.loc, R.kind.cell, R.kind.free, R.kind.glob, R.kind.apart, R.kind.cellF, R.kind.lam⟩, ?_, R.nsF, R.nsT, fun y t hy => ?_, fun y hk => ?_, fun y b hb' => ?_, fun y z b h1 h2 => ?_, fun y b e => ?_, fun f e => ?_⟩
 · refine hid fun z5 => ?_
   rcases hPl with ⟨e, m', n', _, n2⟩ | ⟨_, _, _, v0, cP⟩
   · subst e; refine z5 ?_; exact ⟨_, n2⟩
   · obtain ⟨m, n⟩ := R.ns
     obtain ⟨o, es, ep, a1, a2⟩ := id n
     refine z5 ?_
     exact ⟨m, o, es, ep, hkeep _ _ a1 (fun z => (abQ n cP) z.symm), a2⟩
 · rw [ab2] at hy
   refine hid fun z6 => ?_
   by_cases hyx : y = x
   · subst hyx
     rw [if_pos rfl] at hy; cases hy
     refine z6 ?_
     refine ⟨v, ?_, ?_⟩
     · refine hid fun z7 => ?_
       rcases hPl with ⟨e, m', n', k, n2⟩ | ⟨k, c, cl, _⟩
       · subst e; refine z7 ?_; exact .inl ⟨k, _, n2, by simp⟩
       · refine z7 ?_
         exact .inr ⟨.inl k, P, c, cl⟩
     · refine hid fun z8 => ?_
       cases sl with
       | val c => refine z8 ?_; exact hn.1
       | own o =>
        obtain ⟨a, f1, f2, f3, f4, f5, f6, f7, f8⟩ := hn
        refine z8 ?_
        exact ⟨a, f1, by unfold with1; rw [if_pos rfl]; exact f2, f3.mono _ _ (fun _ _ e => e) fun ob q => hkeep _ _ q (fun z => hPA (z ▸ f2))⟩
       | bor o => refine z8 ?_; exact hn.elim
   · rw [if_neg hyx] at hy
     obtain ⟨u, hu, hs⟩ := R.var y t hy
     refine z6 ?_
     refine ⟨u, hvar y u hyx hu, ?_⟩
     cases t with
     | val c => exact hs
     | own o => obtain ⟨b, f1, f2, f3⟩ := hs; exact ⟨b, f1, by unfold with1; rw [if_neg hyx]; exact f2, f3.mono _ _ (fun _ _ e => e) fun ob q => hkeep _ _ q (fun z => hPo ⟨y, z ▸ f2⟩)⟩
     | bor o => obtain ⟨b, f1, f2, f3, f4⟩ := hs; exact ⟨b, f1, by unfold with1; rw [if_neg hyx]; exact f2, f3.mono _ _ (fun _ _ e => e) fun ob q => hkeep _ _ q (fun z => hPo ⟨y, z ▸ f2⟩), f4⟩
 · refine hid fun z10 => ?_
   by_cases hyx : y = x
   · subst hyx
     obtain ⟨ca, v0, f1, f2, f3, f4⟩ := R.cells y hk
     rcases hPl with ⟨_, _, _, k, _⟩ | ⟨_, c, cl, _⟩
     · rw [R.kind.cell y hk] at k; cases k
     · rw [c] at f1; cases f1; refine z10 ?_; exact ⟨P, some v, c, cl, f3, f4⟩
   · obtain ⟨ca, v0, f1, f2, f3, f4⟩ := R.cells y hk
     refine z10 ?_
     exact ⟨ca, v0, f1, hcellK y ca _ f1 hyx f2, f3, f4⟩
 · unfold with1 at hb'
   refine hid fun z11 => ?_
   by_cases hyx : y = x
   · subst hyx
     rw [if_pos rfl] at hb'
     cases sl with
     | val c => rw [hn.2] at hb'; cases hb'
     | own o =>
      obtain ⟨a, f1, f2, f3, f4, f5, f6, f7, f8⟩ := hn
      rw [f2] at hb'; cases hb'
      refine z11 ?_
      refine ⟨by rw [ab2, if_pos rfl]; rfl, f4, f5, f6, f7, ?_⟩
      obtain ⟨ob, e, _⟩ := OR.cls f3
      exact ⟨ob, hkeep _ _ e (fun z => hPA (z ▸ f2))⟩
     | bor o => refine z11 ?_; exact hn.elim
   · rw [if_neg hyx] at hb'
     obtain ⟨p1, p2, p3, p4, p5, p6⟩ := R.own y b hb'
     refine z11 ?_
     exact ⟨by rw [ab2, if_neg hyx]; exact p1, p2, p3, p4, p5, let ⟨o, e⟩ := p6; ⟨o, hkeep _ _ e (fun z => hPo ⟨y, z ▸ hb'⟩)⟩⟩
 · unfold with1 at h1 h2
   by_cases hyx : y = x <;> by_cases hzx : z = x
   · exact hyx.trans hzx.symm
   · rw [if_pos hyx] at h1; rw [if_neg hzx] at h2
     refine hid fun z13 => ?_
     cases sl with
     | val c => rw [hn.2] at h1; cases h1
     | own o => obtain ⟨a, f1, f2, f3, f4, f5, f6, f7, f8⟩ := hn; rw [f2] at h1; cases h1; exact absurd h2 (f8 z hzx)
     | bor o => refine z13 ?_; exact hn.elim
   · rw [if_neg hyx] at h1; rw [if_pos hzx] at h2
     refine hid fun z14 => ?_
     cases sl with
     | val c => rw [hn.2] at h2; cases h2
     | own o => obtain ⟨a, f1, f2, f3, f4, f5, f6, f7, f8⟩ := hn; rw [f2] at h2; cases h2; exact absurd h1 (f8 y hyx)
     | bor o => refine z14 ?_; exact hn.elim
   · rw [if_neg hyx] at h1; rw [if_neg hzx] at h2; exact R.inj y z b h1 h2
 · obtain ⟨u, hu⟩ := R.cl y b e
   by_cases hyx : y = x
   · refine hid fun z17 => ?_
     subst hyx
     rcases hPl with ⟨q, m, n, _, _⟩ | ⟨_, c, cl, _⟩
     · obtain ⟨o, e1, e2⟩ := id hu
       refine z17 ?_
       exact ⟨u, o, hkeep _ _ e1 (abQ n hu), e2⟩
     · rw [c] at e; cases e; refine z17 ?_; exact ⟨_, cl⟩
   · exact ⟨u, hcellK y b u e hyx hu⟩
 · refine hid fun z18 => ?_
   obtain ⟨o, q⟩ := R.frm f e
   by_cases hfP : f = P
   · refine z18 ?_; rw [hfP]; exact hPx
   · refine z18 ?_
     exact ⟨o, hkeep _ _ q hfP⟩
theorem acV {k : Option NameKind} (h : mayStore k = true) : k = some .local ∨ k = some .cell := by
 rcases k with _ | y
 · first | (cases h; done) | exact .inl rfl | exact .inr rfl
 cases y <;> first | (cases h; done) | exact .inl rfl | exact .inr rfl
theorem aeS {x : Str} (h : canSet ρ x = true) : ρ.kind x = some .local ∨ ρ.kind x = some .cell := acV h
theorem abR (I : Inv W F s) (R : Rel W F s.heap env ρ ad) {x : Str} {v : Value} {sl : Slot} {A' : Option Addr} (hc : canSet ρ x = true) (hn : NewSlot W F s.heap env ad x sl v A')
 {Q : Unit -> Shared -> Prop} (h : ∀ s', Stp W (frmA env ad) F F s s' -> Rel W F s'.heap env (ρ.set x sl) (with1 ad x A') -> Q () s') :
 wpAny (model W.prog W.w) A (storeName env x v) Q E s := by
 have hk := aeS hc
 refine hid fun z1 => ?_
 rcases hk with hk | hk
 · have hl := R.kind.loc x hk
   obtain ⟨m, n⟩ := R.ns
   refine z1 ?_
   refine wpAny_storeName_local hl n (fun h' hn' hs' => ?_) (by rw [R.kind.fn]; rfl)
   obtain ⟨S, R'⟩ := ado (s' := { s with heap := h', toks := s.toks + 1 }) I R hn R.nsF R.nsT (R.own_apart (.inl rfl)) (by
    intro q
    cases sl with
    | val c => rw [hn.2] at q; cases q
    | own o => obtain ⟨a, _, f2, _, _, _, f6, _⟩ := hn; rw [f2] at q; cases q; exact f6 rfl
    | bor o => exact hn.elim) hs' ⟨rfl, rfl, rfl⟩ (.inl ⟨rfl, m, n, hl, hn'⟩)
   exact h _ (S.weaken fun a e => .inl (.inr (.inl e))) R'
 · obtain ⟨ca, v0, e1, e2, e3, e4⟩ := R.cells x hk
   refine z1 ?_
   refine wpAny_storeName_cell R.kind.fn (R.kind.cell x hk) e1 e2 fun h' hc' hs' => ?_
   obtain ⟨S, R'⟩ := ado (s' := { s with heap := h' }) I R hn e3 e4 (R.own_apart (.inr ⟨x, e1⟩)) (by
    intro q
    refine hid fun z3 => ?_
    cases sl with
    | val c => rw [hn.2] at q; cases q
    | own o => obtain ⟨a, _, f2, _, _, _, _, f7, _⟩ := hn; rw [f2] at q; cases q; refine z3 ?_; exact f7 x ca e1 rfl
    | bor o => refine z3 ?_; exact hn.elim) hs' ⟨rfl, rfl, rfl⟩ (.inr ⟨R.kind.cell x hk, e1, hc', v0, e2⟩)
   exact h _ (S.weaken fun a e => .inl (.inr (.inr ⟨R.kind.cellF x hk, x, R.kind.cell x hk, e ▸ e1⟩))) R'
theorem abH {A' : Option Addr} {x : Str} {c : CV} {v : Value} (hn : NewSlot W F s.heap env ad x (.val c) v A') : ∀ y a, with1 ad x A' y = some a -> ad y = some a := fun y a e => by
 unfold with1 at e
 split at e
 · rw [hn.2] at e; cases e
 · exact e
end
inductive D (R : Type) : Type 1
 | ret (r : R)
 | fail
 | raw (o : Option R)
 | opt {α : Type} (o : Option α) (k : α -> D R)
 | opt2 {α β : Type} (o : Option (α × β)) (k : α -> β -> D R)
 | opt3 {α β γ : Type} (o : Option (α × β × γ)) (k : α -> β -> γ -> D R)
 | val (o : Option (EV × CE)) (k : CV -> CE -> D R)
 | grd (b : Bool) (d : D R)
 | ite (b : Bool) (t e : D R)
 | alt {α : Type} (o : Option α) (k : α -> D R) (d : D R)
noncomputable def D.run {R : Type} (d : D R) : Option R := D.rec (motive := fun _ => Option R) some none (fun o => o)
 (fun o _ k => match o with | none => none | some a => k a)
 (fun o _ k => match o with | none => none | some (a, b) => k a b)
 (fun o _ k => match o with | none => none | some (a, b, c) => k a b c)
 (fun o _ k => match o with | some (.val c, ρ) => k c ρ | _ => none)
 (fun b _ k => match b with | true => k | false => none)
 (fun b _ _ t e => match b with | true => t | false => e)
 (fun o _ _ k e => match o with | some a => k a | none => e) d
noncomputable def D.runZ {R : Type} (z : R) (d : D R) : R := D.rec (motive := fun _ => R) (fun r => r) z (fun o => match o with | none => z | some a => a)
 (fun o _ k => match o with | none => z | some a => k a)
 (fun o _ k => match o with | none => z | some (a, b) => k a b)
 (fun o _ k => match o with | none => z | some (a, b, c) => k a b c)
 (fun o _ k => match o with | some (.val c, ρ) => k c ρ | _ => z)
 (fun b _ k => match b with | true => k | false => z)
 (fun b _ _ t e => match b with | true => t | false => e)
 (fun o _ _ k e => match o with | some a => k a | none => e) d
def D.inv {R : Type} (P : R -> Prop) (d : D R) : Prop := D.rec (motive := fun _ => Prop) P True (fun o => ∀ r, o = some r -> P r)
 (fun o _ k => ∀ a, o = some a -> k a)
 (fun o _ k => ∀ a b, o = some (a, b) -> k a b)
 (fun o _ k => ∀ a b c, o = some (a, b, c) -> k a b c)
 (fun o _ k => ∀ a b, o = some (.val a, b) -> k a b)
 (fun b _ k => b = true -> k)
 (fun b _ _ t e => (b = true -> t) ∧ (b = false -> e))
 (fun o _ _ k e => (∀ a, o = some a -> k a) ∧ (o = none -> e)) d
set_option tactic.hygienic false
theorem D.ok {R : Type} {P : R -> Prop} {d : D R} : ∀ {r : R}, d.run = some r -> d.inv P -> P r := by
 induction d with
 | ret x => intro r h k; cases h; exact k
 | fail => intro r h; exact aab h
 | raw o => exact fun h k => k _ h
 | opt o f ih =>
  intro r h k
  rcases o with _ | a
  · exact aab h
  · exact ih a h (k a rfl)
 | opt2 o f ih =>
  intro r h k
  rcases o with _ | ⟨a, b⟩
  · exact aab h
  · exact ih a b h (k a b rfl)
 | opt3 o f ih =>
  intro r h k
  rcases o with _ | ⟨a, b, c⟩
  · exact aab h
  · exact ih a b c h (k a b c rfl)
 | val o f ih =>
  intro r h k
  rcases o with _ | ⟨⟨a⟩ | ⟨x⟩, b⟩
  · exact aab h
  · exact ih a b h (k a b rfl)
  · exact aab h
 | grd b d ih =>
  intro r h k
  cases b with
  | true => exact ih h (k rfl)
  | false => exact aab h
 | ite b t e i j =>
  intro r h k
  cases b with
  | true => exact i h (k.1 rfl)
  | false => exact j h (k.2 rfl)
 | alt o f e i j =>
  intro r h k
  cases o with
  | some a => exact i a h (k.1 a rfl)
  | none => exact j h (k.2 rfl)
theorem D.okZ {R : Type} {P : R -> Prop} {z : R} (hz : P z) {d : D R} : d.inv P -> P (d.runZ z) := by
 induction d with
 | ret x => exact fun k => k
 | fail => exact fun _ => hz
 | raw o =>
  intro k
  rcases o with _ | a
  · exact hz
  · exact k a rfl
 | opt o f ih =>
  intro k
  rcases o with _ | a
  · exact hz
  · exact ih a (k a rfl)
 | opt2 o f ih =>
  intro k
  rcases o with _ | ⟨a, b⟩
  · exact hz
  · exact ih a b (k a b rfl)
 | opt3 o f ih =>
  intro k
  rcases o with _ | ⟨a, b, c⟩
  · exact hz
  · exact ih a b c (k a b c rfl)
 | val o f ih =>
  intro k
  rcases o with _ | ⟨⟨a⟩ | ⟨x⟩, b⟩
  · exact hz
  · exact ih a b (k a b rfl)
  · exact hz
 | grd b d ih =>
  intro k
  cases b with
  | true => exact ih (k rfl)
  | false => exact hz
 | ite b t e i j =>
  intro k
  cases b with
  | true => exact i (k.1 rfl)
  | false => exact j (k.2 rfl)
 | alt o f e i j =>
  intro k
  cases o with
  | some a => exact i a (k.1 a rfl)
  | none => exact j (k.2 rfl)
theorem D.el {R : Type} {o : Option (R × CE)} {r : R} {ρ' : CE} (d : D (R × CE)) (h : o = some (r, ρ')) {P : Prop} {C : R -> CE -> Prop} (c : C r ρ') (k : d.inv (fun z => C z.1 z.2 -> P)) (e : d.run = o := by ext) : P :=
 D.ok (P := fun z => C z.1 z.2 -> P) (e.trans h) k c
theorem D.el1 {R : Type} {o : Option R} {r : R} (d : D R) (h : o = some r) {P : Prop} {C : R -> Prop} (c : C r) (k : d.inv (fun z => C z -> P)) (e : d.run = o := by ext) : P :=
 D.ok (P := fun z => C z -> P) (e.trans h) k c
section
variable {W : Wd} {F F' : FH} {s s' : Shared} {env : Env} {ρ : CE} {ad : Str -> Option Addr} {M : Addr -> Prop} {A : Around} {E : VP}
set_option tactic.hygienic false
theorem ab3 {sl : Option Slot} {o : CO} (h : ownOf sl = some o) : sl = some (.own o) ∨ sl = some (.bor o) := by
 rcases sl with _ | y
 · first | exact aab h | (cases h; first | exact .inl rfl | exact .inr rfl)
 cases y <;> first | exact aab h | (cases h; first | exact .inl rfl | exact .inr rfl)
inductive OwnR (W : Wd) (F : FH) (h : Heap) (env : Env) (ad : Str -> Option Addr) (x : Str) (o : CO) : Prop
 | mk (a : Addr) (h1 : ad x = some a) (h2 : VarIs h env x (.ref a)) (h3 : OR W.prog W.w F h o a)
theorem acf (R : Rel W F s.heap env ρ ad) {x : Str} {o : CO} (h : ownOf (ρ.get x) = some o) : OwnR W F s.heap env ad x o := by
 refine hid fun z0 => ?_
 rcases ab3 h with q | q
 · obtain ⟨v, hv, a, e1, e2, e3⟩ := R.var x _ q; subst e1; refine z0 ?_; exact ⟨a, e2, hv, e3⟩
 · obtain ⟨v, hv, a, e1, e2, e3, _⟩ := R.var x _ q; subst e1; refine z0 ?_; exact ⟨a, e2, hv, e3⟩
theorem agU {sl : Option Slot} {o o' : CO} (h : ownOf sl = some o) : ownOf (some (reown sl o')) = some o' := by
 rcases ab3 h with q | q <;> subst q <;> rfl
theorem aiX (I : Inv W F s) (R : Rel W F s.heap env ρ ad) {x : Str} {o o' : CO} {a : Addr} (h : ownOf (ρ.get x) = some o) (ha : ad x = some a) (S : Stp W (· = a) F F' s s')
 (ho : OR W.prog W.w F' s'.heap o' a) (hF : F' a = none) : Rel W F' s'.heap env (ρ.set x (reown (ρ.get x) o')) ad := by
 refine hid fun z0 => ?_
 obtain ⟨p1, p2, p3, p4, p5, p6⟩ := R.own x a ha
 have nloc : ∀ b, (b = env.locals ∨ ∃ y, env.cells.lookup y = some b) -> b ≠ a := fun b hb e => R.own_apart hb ⟨x, e ▸ ha⟩
 have hvar : ∀ y u, VarIs s.heap env y u -> VarIs s'.heap env y u := fun y u hu => by
  rcases hu with ⟨k, m, n, q⟩ | ⟨k, ca, c, cl⟩
  · have nt := I.notTabNs n
    obtain ⟨ob, es, ep, e, r⟩ := n
    exact .inl ⟨k, m, ⟨ob, es, ep, S.keep _ _ e (nloc _ (.inl rfl)) nt, r⟩, q⟩
  · have nt := I.notTabCell cl
    obtain ⟨ob, e, r⟩ := cl
    exact .inr ⟨k, ca, c, ⟨ob, S.keep _ _ e (nloc _ (.inr ⟨y, c⟩)) nt, r⟩⟩
 have hFn : ∀ b, F b = none -> b ≠ a -> (∃ ob, s.heap.get? b = some ob) -> F' b = none := fun b hb hne ⟨obb, hlt⟩ => by
  cases e' : F' b with
  | none => rfl
  | some ob => rcases S.new _ _ e' with q | q | q
               · rw [hb] at q; cases q
               · exact absurd q hne
               · exact absurd rfl (q.ne hlt)
 refine z0 ?_
 refine ⟨⟨R.kind.fn, R.kind.glo, R.kind.blt, R.kind.loc, R.kind.cell, R.kind.free, R.kind.glob, R.kind.apart, R.kind.cellF, R.kind.lam⟩, ?_, ?_, R.nsT, fun y t hy => ?_, fun y hk => ?_, fun y b hb => ?_, R.inj, fun y b e => ?_, fun f e => let ⟨_, q⟩ := R.frm f e; S.there q⟩
 · refine hid fun z1 => ?_
   obtain ⟨m, ob, es, ep, e, r⟩ := R.ns
   refine z1 ?_
   exact ⟨m, ob, es, ep, S.keep _ _ e (nloc _ (.inl rfl)) R.nsT, r⟩
 · refine hid fun z2 => ?_
   obtain ⟨m, ob, es, ep, e, r⟩ := R.ns
   refine z2 ?_
   exact hFn _ R.nsF (nloc _ (.inl rfl)) ⟨_, e⟩
 · rw [ab2] at hy
   refine hid fun z3 => ?_
   by_cases hyx : y = x
   · subst hyx
     rw [if_pos rfl] at hy; cases hy
     obtain ⟨a', ha', hv, _⟩ := acf R h
     rw [ha] at ha'; cases ha'
     refine z3 ?_
     refine ⟨.ref a, hvar y _ hv, ?_⟩
     refine hid fun z4 => ?_
     rcases ab3 h with q | q
     · refine z4 ?_; rw [q]; exact ⟨a, rfl, ha, ho⟩
     · refine z4 ?_
       rw [q]
       refine ⟨a, rfl, ha, ho, ?_⟩
       refine hid fun z5 => ?_
       obtain ⟨v', hv', a', e1, e2, e3, e4⟩ := R.var y _ q
       rw [ha] at e2; cases e2; refine z5 ?_; exact e4
   · rw [if_neg hyx] at hy
     obtain ⟨u, hu, hs⟩ := R.var y t hy
     refine z3 ?_
     refine ⟨u, hvar y u hu, ?_⟩
     refine hid fun z6 => ?_
     cases t with
     | val c => refine z6 ?_; exact RV.mono _ _ S.sub _ _ hs
     | own o => obtain ⟨b, f1, f2, f3⟩ := hs; refine z6 ?_; exact ⟨b, f1, f2, f3.mono _ _ S.sub fun ob q => S.keep _ _ q (fun z => hyx (R.inj y x a (z ▸ f2) ha)) (I.notTabOR f3)⟩
     | bor o => obtain ⟨b, f1, f2, f3, f4⟩ := hs; refine z6 ?_; exact ⟨b, f1, f2, f3.mono _ _ S.sub fun ob q => S.keep _ _ q (fun z => hyx (R.inj y x a (z ▸ f2) ha)) (I.notTabOR f3), f4⟩
 · refine hid fun z8 => ?_
   obtain ⟨ca, v0, f1, ⟨ob, f2, f2'⟩, f3, f4⟩ := R.cells y hk
   refine z8 ?_
   exact ⟨ca, v0, f1, ⟨ob, S.keep _ _ f2 (nloc _ (.inr ⟨y, f1⟩)) f4, f2'⟩, hFn _ f3 (nloc _ (.inr ⟨y, f1⟩)) ⟨_, f2⟩, f4⟩
 · refine hid fun z9 => ?_
   obtain ⟨q1, q2, q3, q4, q5, q6⟩ := R.own y b hb
   refine z9 ?_
   refine ⟨?_, ?_, q3, q4, q5, let ⟨_, e⟩ := q6; S.there e⟩
   · rw [ab2]
     refine hid fun z10 => ?_
     by_cases hyx : y = x
     · subst hyx; refine z10 ?_; rw [if_pos rfl, agU h]; rfl
     · refine z10 ?_; rw [if_neg hyx]; exact q1
   · refine hid fun z11 => ?_
     by_cases hba : b = a
     · subst hba; refine z11 ?_; exact hF
     · refine z11 ?_
       exact hFn b q2 hba q6
 · refine hid fun z12 => ?_
   obtain ⟨u, cl⟩ := R.cl y b e
   have nt := I.notTabCell cl
   obtain ⟨o, e1, e2⟩ := cl
   refine z12 ?_
   exact ⟨u, o, S.keep _ _ e1 (nloc _ (.inr ⟨y, e⟩)) nt, e2⟩
def EVRs (W : Wd) (F : FH) (h : Heap) (env : Env) : List EV -> List Value -> Prop
 | [], vs => vs = []
 | a :: as, vs => ∃ v r, vs = v :: r ∧ EVR W F h env a v ∧ EVRs W F h env as r
theorem EVRs.step (I : Inv W F s) (R : Rel W F s.heap env ρ ad) (S : Stp W (ownA ad) F F' s s') : ∀ {as : List EV} {vs : List Value}, EVRs W F s.heap env as vs -> EVRs W F' s'.heap env as vs
 | [], _, h => h
 | _ :: _, _, ⟨v, r, e, a, b⟩ => ⟨v, r, e, EVR.step I R S a, EVRs.step I R S b⟩
theorem aao {Q : List Value -> Shared -> Prop} (h : Q [] s) : wpAny (model W.prog W.w) A (spliced []) Q E s := wpAny_pure h
theorem aap {x : Sem Value} {rest : List (Bool × Sem Value)} {Q : List Value -> Shared -> Prop}
 (h : wpAny (model W.prog W.w) A x (fun v s1 => wpAny (model W.prog W.w) A (spliced rest) (fun vs s2 => Q (v :: vs) s2) E s1) E s) :
 wpAny (model W.prog W.w) A (spliced ((false, x) :: rest)) Q E s := by
 show wpAny _ A (do
  let v <- x
  let here <- if false = true then do
   if <- notIterableAtAll v then
    rule "star.not-iterable"; raiseError "TypeError" s!"Value after * must be an iterable, not {← typeNameOf v}"
   collect v
   else pure [v]
  return here ++ (<- holding here (spliced rest))) Q E s
 refine wpAny_bind (wpAny_mono h (fun v s1 h1 => ?_) fun _ _ e => e)
 refine wpAny_bind (m := pure [v]) (wpAny_pure ?_)
 exact wpAny_bind (wpAny_holding (wpAny_mono h1 (fun vs s2 h2 => wpAny_pure h2) fun _ _ e => e))
theorem aah {e : Expr} {r : List Expr} (h : ∀ x p, e ≠ .Starred x p) : starEach (e :: r) env = (false, eval e env) :: starEach r env := by
 cases e <;> first | rfl | exact absurd rfl (h _ _)
theorem aiY {S : SM} (hst : ∀ x p ρ, S.ev (.Starred x p) ρ = none) {e : Expr} {r : List Expr} {ρ ρ' : CE} {as : List EV} (h : S.evs (e :: r) ρ = some (as, ρ')) (x : Expr) (p : Pos) (q : e = .Starred x p) : False :=
 D.el (.opt2 (S.ev e ρ) fun a ρ => .opt2 (S.evs r ρ) fun as ρ => .ret (a :: as, ρ)) h (C := fun _ _ => True) trivial fun a ρ1 h _ _ _ _ => by rw [q, hst] at h; cases h
theorem aeg {k : Nat} {S : SM} (H : EvOK W k S.ev) (hst : ∀ x p ρ, S.ev (.Starred x p) ρ = none) : ∀ (es : List Expr) (ρ : CE) (as : List EV) (ρ' : CE), S.evs es ρ = some (as, ρ') ->
 ∀ (A : Around) (env : Env) (F : FH) (s : Shared) (ad : Str -> Option Addr) (pos : Pos), Room A k -> Inv W F s -> Rel W F s.heap env ρ ad -> ∀ (Q : List Value -> Shared -> Prop) (E : VP),
  (∀ vs F' s' ad', Stp W (ownA ad) F F' s s' -> Rel W F' s'.heap env ρ' ad' -> (∀ x a, ad' x = some a -> ad x = some a) -> EVRs W F' s'.heap env as vs -> Q vs s') ->
  wpAny (model W.prog W.w) A (spliced (backTo pos (starEach es env))) Q E s
 | [], ρ, as, ρ', h, A, env, F, s, ad, pos, _, I, R, Q, E, hQ => by
  cases h
  exact aao (hQ [] F s ad (.refl I) R (fun _ _ e => e) rfl)
 | e :: r, ρ, as, ρ', h, A, env, F, s, ad, pos, Rm, I, R, Q, E, hQ => by
  refine D.el (.opt2 (S.ev e ρ) fun a ρ => .opt2 (S.evs r ρ) fun as ρ => .ret (a :: as, ρ)) h (C := fun as ρ' => ∀ vs F' s' ad', Stp W (ownA ad) F F' s s' -> Rel W F' s'.heap env ρ' ad' -> (∀ x a, ad' x = some a -> ad x = some a) -> EVRs W F' s'.heap env as vs -> Q vs s') hQ fun a ρ1 h1 as' ρ2 h2 hQ => ?_
  rw [aah fun x p q => by rw [q, hst] at h1; cases h1]
  refine aap (H e ρ a ρ1 h1 A env F s ad Rm I R _ _ fun v F1 s1 ad1 S1 R1 sub1 r1 => ?_)
  refine aeg H hst r ρ1 as' _ h2 A env F1 s1 ad1 pos Rm S1.inv R1 _ _ fun vs F2 s2 ad2 S2 R2 sub2 r2 => ?_
  exact hQ (v :: vs) F2 s2 ad2 (S1.trans S2 (aai sub1)) R2 (fun x a q => sub1 x a (sub2 x a q)) ⟨v, vs, rfl, EVR.step S1.inv R1 S2 r1, r2⟩
inductive FzVs (W : Wd) (env : Env) (ad : Str -> Option Addr) (F : FH) (s : Shared) (ρ' : CE) (cs : List CV) (vs : List Value) : Prop
 | mk (F' : FH) (ad' : Str -> Option Addr) (h1 : Stp W (ownA ad) F F' s s) (h2 : Rel W F' s.heap env ρ' ad') (h3 : ∀ x a, ad' x = some a -> ad x = some a) (h4 : RVs W.prog W.w F' cs vs)
theorem abk : ∀ (as : List EV) (ρ : CE) (cs : List CV) (ρ' : CE) (F : FH) (ad : Str -> Option Addr), freezes as ρ = some (cs, ρ') -> Inv W F s -> Rel W F s.heap env ρ ad ->
 ∀ vs, EVRs W F s.heap env as vs -> FzVs W env ad F s ρ' cs vs
 | [], ρ, cs, ρ', F, ad, h, I, R, vs, hv => by
  cases h
  exact ⟨F, ad, .refl I, R, fun _ _ e => e, by exact hv⟩
 | a :: as, ρ, cs, ρ', F, ad, h, I, R, vs, hv => by
  refine hid fun ng => ?_
  obtain ⟨v, r, rfl, ha, hr⟩ := hv
  refine D.el (.opt2 (freeze ρ a) fun c ρ => .opt2 (freezes as ρ) fun cs ρ => .ret (c :: cs, ρ)) h (C := fun cs ρ' => ¬FzVs W env ad F s ρ' cs (v :: r)) ng fun c ρ1 h1 cs' ρ2 h2 ng => ?_
  obtain ⟨F1, ad1, S1, R1, sub1, rv1⟩ := ace I R h1 ha
  obtain ⟨F2, ad2, S2, R2, sub2, rv2⟩ := abk as ρ1 cs' _ F1 ad1 h2 S1.inv R1 r (EVRs.step I R S1 hr)
  exact ng ⟨F2, ad2, S1.trans S2 (aai sub1), R2, fun x a q => sub1 x a (sub2 x a q), v, r, rfl, RV.mono _ _ S2.sub _ _ rv1, rv2⟩
end
def EvfPost (W : Wd) (env : Env) (ad : Str -> Option Addr) (F : FH) (s : Shared) (c : CV) (ρ' : CE) (Q : VP) : Prop :=
 ∀ v F' s' ad', Stp W (ownA ad) F F' s s' -> Rel W F' s'.heap env ρ' ad' -> (∀ x a, ad' x = some a -> ad x = some a) -> RV W.prog W.w F' c v -> Q v s'
set_option tactic.hygienic false
theorem adp {W : Wd} {k : Nat} {S : SM} (H : EvOK W k S.ev) {e : Expr} {ρ ρ' : CE} {c : CV} (h : S.evf e ρ = some (c, ρ')) {A : Around} {env : Env} {F : FH} {s : Shared} {ad : Str -> Option Addr}
 (Rm : Room A k) (I : Inv W F s) (R : Rel W F s.heap env ρ ad) {Q : VP} {E : VP} (hQ : EvfPost W env ad F s c ρ' Q) :
 wpAny (model W.prog W.w) A (eval e env) Q E s := by
 unfold SM.evf at h
 refine hid fun z0 => ?_
 cases h1 : S.ev e ρ with
 | none => rw [h1] at h; cases h
 | some p =>
  obtain ⟨a, ρ1⟩ := p
  rw [h1] at h
  dsimp only at h
  refine z0 ?_
  refine H e ρ a ρ1 h1 A env F s ad Rm I R _ _ fun v F1 s1 ad1 S1 R1 sub1 r1 => ?_
  obtain ⟨F2, ad2, S2, R2, sub2, rv⟩ := ace S1.inv R1 h r1
  exact hQ v F2 s1 ad2 (S1.trans S2 (aai sub1)) R2 (fun x a q => sub1 x a (sub2 x a q)) rv
theorem agV {W : Wd} {k : Nat} {S : SM} (H : EvOK W k S.ev) {e : Expr} {ρ ρ' : CE} {c : CV} (h : S.evd e ρ = some (c, ρ')) {A : Around} {env : Env} {F : FH} {s : Shared} {ad : Str -> Option Addr}
 (Rm : Room A k) (I : Inv W F s) (R : Rel W F s.heap env ρ ad) {Q : VP} {E : VP}
 (hQ : ∀ v F' s' ad', Stp W (ownA ad) F F' s s' -> Rel W F' s'.heap env ρ' ad' -> (∀ x a, ad' x = some a -> ad x = some a) -> CvAt W F' s'.heap c v -> Q v s') :
 wpAny (model W.prog W.w) A (eval e env) Q E s := by
 unfold SM.evd at h
 refine hid fun z0 => ?_
 cases h1 : S.ev e ρ with
 | none => rw [h1] at h; cases h
 | some p =>
  obtain ⟨a, ρ1⟩ := p
  rw [h1] at h
  dsimp only at h
  cases h2 : deref ρ1 a with
  | none => rw [h2] at h; cases h
  | some c' =>
   rw [h2] at h
   cases h
   refine z0 ?_
   exact H e ρ a _ h1 A env F s ad Rm I R _ _ fun v F1 s1 ad1 S1 R1 sub1 r1 => hQ v F1 s1 ad1 S1 R1 sub1 (abb R1 h2 r1)
theorem afs {W : Wd} {k : Nat} {S : SM} (H : EvOK W k S.ev) {l r : Expr} {ρ ρ' : CE} {c d : CV} (h : S.ev2 l r ρ = some (c, d, ρ')) {A : Around} {env : Env} {F : FH} {s : Shared} {ad : Str -> Option Addr}
 (Rm : Room A k) (I : Inv W F s) (R : Rel W F s.heap env ρ ad) {Q : Value -> Value -> Shared -> Prop} {E : VP}
 (hQ : ∀ v u F' s' ad', Stp W (ownA ad) F F' s s' -> Rel W F' s'.heap env ρ' ad' -> (∀ x a, ad' x = some a -> ad x = some a) -> CvAt W F' s'.heap c v -> CvAt W F' s'.heap d u -> Q v u s') :
 wpAny (model W.prog W.w) A (eval l env) (fun v s1 => wpAny (model W.prog W.w) A (eval r env) (fun u s2 => Q v u s2) E s1) E s := by
 unfold SM.ev2 at h
 refine hid fun z0 => ?_
 cases h1 : S.ev l ρ with
 | none => rw [h1] at h; cases h
 | some p =>
  obtain ⟨a, ρ1⟩ := p
  rw [h1] at h
  dsimp only at h
  cases h2 : S.ev r ρ1 with
  | none => rw [h2] at h; cases h
  | some p =>
   obtain ⟨b, ρ2⟩ := p
   rw [h2] at h
   dsimp only at h
   cases h3 : deref ρ2 a with
   | none => rw [h3] at h; cases h
   | some x =>
    cases h4 : deref ρ2 b with
    | none => rw [h3, h4] at h; cases h
    | some y =>
     rw [h3, h4] at h
     cases h
     refine z0 ?_
     refine H l ρ a ρ1 h1 A env F s ad Rm I R _ _ fun v F1 s1 ad1 S1 R1 sub1 r1 => ?_
     refine H r ρ1 b _ h2 A env F1 s1 ad1 Rm S1.inv R1 _ _ fun u F2 s2 ad2 S2 R2 sub2 r2 => ?_
     exact hQ v u F2 s2 ad2 (S1.trans S2 (aai sub1)) R2 (fun x a q => sub1 x a (sub2 x a q)) (abb R2 h3 (EVR.step S1.inv R1 S2 r1)) (abb R2 h4 r2)
end
section
open PySem PySem.Calls PyProof.Rows PySem.SeqAt
section
variable {W : Wd} {F F' : FH} {s s' : Shared} {env : Env} {ρ : CE} {ad : Str -> Option Addr} {M : Addr -> Prop} {A : Around} {E : VP}
set_option tactic.hygienic false
theorem ab4 {h : Heap} {v : Value} (r : CvAt W F h .none v) : v = .none := by
 rcases r with r | ⟨o, a, e, _⟩
 · simpa only [RV] using r
 · cases o <;> cases e
theorem acW {h : Heap} {v : Value} {b : Bool} (r : CvAt W F h (.bool b) v) : v = .bool b := by
 rcases r with r | ⟨o, a, e, _⟩
 · simpa only [RV] using r
 · cases o <;> cases e
theorem aaP {h : Heap} {v : Value} {i : Int} (r : CvAt W F h (.int i) v) : ∃ t, v = .int i t := by
 rcases r with r | ⟨o, a, e, _⟩
 · simpa only [RV] using r
 · cases o <;> cases e
theorem aaK {h : Heap} {v : Value} {x : SS} (r : CvAt W F h (.str x) v) : ∃ t, v = .str x.s t := by
 rcases r with r | ⟨o, a, e, _⟩
 · simpa only [RV] using r
 · cases o <;> cases e
inductive CvL (W : Wd) (F : FH) (h : Heap) (v : Value) (xs : List CV) : Prop
 | mk (a : Addr) (ob : Obj) (vs : List Value) (h1 : v = .ref a) (h2 : h.get? a = some ob) (h3 : LO ob vs) (h4 : RVs W.prog W.w F xs vs)
inductive CvD (W : Wd) (F : FH) (h : Heap) (v : Value) (es : List (SS × CV)) : Prop
 | mk (a : Addr) (ob : Obj) (kvs : List (Str × Value)) (h1 : v = .ref a) (h2 : h.get? a = some ob) (h3 : DO W.prog W.w ob kvs ∧ a ≠ sysModules) (h4 : RVd W.prog W.w F es kvs)
theorem aaM (I : Inv W F s) {v : Value} {xs : List CV} (r : CvAt W F s.heap (.list xs) v) : CvL W F s.heap v xs := by
 rcases r with r | ⟨o, a, e, e2, r⟩
 · simp only [RV] at r
   obtain ⟨a, o, vs, e, f, l, q⟩ := r
   exact ⟨a, o, vs, e, I.frz _ _ f, l, q⟩
 · cases o with
   | list ys =>
    cases e
    obtain ⟨ob, vs, e, l, q⟩ := r
    exact ⟨a, ob, vs, e2, e, l, q⟩
theorem agW (I : Inv W F s) {v : Value} {es : List (SS × CV)} (r : CvAt W F s.heap (.dict es) v) : CvD W F s.heap v es := by
 rcases r with r | ⟨o, a, e, e2, r⟩
 · simp only [RV] at r
   obtain ⟨a, o, vs, e, f, l, q⟩ := r
   exact ⟨a, o, vs, e, I.frz _ _ f, l, q⟩
 · cases o; cases e
theorem aj4 {v : Value} {xs : List Int} {h : Heap} (r : CvAt W F h (.iset xs) v) : ∃ a o, v = .ref a ∧ F a = some o ∧ SO W.prog W.w o xs := by
 rcases r with r | ⟨o, a, e, _⟩
 · simpa only [RV] using r
 · cases o <;> cases e
theorem LO.isList {a : Addr} {ob : Obj} {vs : List Value} {h : Heap} (e : h.get? a = some ob) (l : LO ob vs) : h.IsList a vs.toArray := by
 obtain ⟨n, l⟩ := l
 exact ⟨ob, e, by rw [l], n, by rw [l]⟩
theorem LO.plain {a : Addr} {ob : Obj} {vs : List Value} {h : Heap} (e : h.get? a = some ob) (l : LO ob vs) : h.PlainList a vs.toArray := by
 obtain ⟨n, l⟩ := l
 exact ⟨n, by rw [e, l]⟩
theorem SO.setOf {a : Addr} {ob : Obj} {xs : List Int} {h : Heap} (e : h.get? a = some ob) (l : SO W.prog W.w ob xs) : ∃ n, h.SetOf (intKind W.prog W.w) a (fun k => xs.contains k) n := by
 obtain ⟨es, ep, t, a1, a2, a3, a4, a5, a6⟩ := l
 exact ⟨_, ob, es, ep, t, e, a1, a2, a3, a4, a5, a6, rfl⟩
theorem DO.dictOf {a : Addr} {ob : Obj} {kvs : List (Str × Value)} {h : Heap} (e : h.get? a = some ob) (l : DO W.prog W.w ob kvs) : h.DictOf (strKind W.prog W.w) a kvs := by
 obtain ⟨x, es, ep, d, k, p, n⟩ := l
 exact ⟨ob, es, ep, e, x, d, k, p, n⟩
theorem RVs.len {F : FH} {prog : Program} {w : World} : ∀ {cs : List CV} {vs : List Value}, RVs prog w F cs vs -> vs.length = cs.length
 | [], vs, h => by subst h; rfl
 | c :: cs, vs, h => by
  obtain ⟨v, r, rfl, _, h⟩ := h
  rw [List.length_cons, List.length_cons, RVs.len h]
theorem RVs.get {F : FH} {prog : Program} {w : World} : ∀ {cs : List CV} {vs : List Value}, RVs prog w F cs vs -> ∀ {i : Nat} {c : CV}, cs[i]? = some c -> ∃ v, vs[i]? = some v ∧ RV prog w F c v
 | [], _, _, i, c, e => by simp at e
 | c :: cs, vs, h, i, d, e => by
  obtain ⟨v, r, rfl, h1, h⟩ := h
  cases i with
  | zero => simp only [List.getElem?_cons_zero, Option.some.injEq] at e; subst e; exact ⟨v, by simp, h1⟩
  | succ i => simp only [List.getElem?_cons_succ] at e ⊢; exact RVs.get h e
theorem RVs.append {F : FH} {prog : Program} {w : World} : ∀ {cs ds : List CV} {vs us : List Value}, RVs prog w F cs vs -> RVs prog w F ds us -> RVs prog w F (cs ++ ds) (vs ++ us)
 | [], ds, vs, us, h, h' => by subst h; exact h'
 | c :: cs, ds, vs, us, h, h' => by
  obtain ⟨v, r, rfl, h1, h⟩ := h
  simp only [List.cons_append]
  exact ⟨v, r ++ us, rfl, h1, RVs.append h h'⟩
theorem RVs.one {F : FH} {prog : Program} {w : World} {c : CV} {v : Value} (h : RV prog w F c v) : RVs prog w F [c] [v] := ⟨v, [], rfl, h, rfl⟩
theorem RVs.take {F : FH} {prog : Program} {w : World} : ∀ {cs : List CV} {vs : List Value}, RVs prog w F cs vs -> ∀ n, RVs prog w F (cs.take n) (vs.take n)
 | [], vs, h, n => by subst h; simp
 | c :: cs, vs, h, 0 => rfl
 | c :: cs, vs, h, n + 1 => by
  obtain ⟨v, r, rfl, h1, h⟩ := h
  simp only [List.take_succ_cons]
  exact ⟨v, r.take n, rfl, h1, RVs.take h n⟩
theorem RVs.drop {F : FH} {prog : Program} {w : World} : ∀ {cs : List CV} {vs : List Value}, RVs prog w F cs vs -> ∀ n, RVs prog w F (cs.drop n) (vs.drop n)
 | [], vs, h, n => by subst h; simp
 | c :: cs, vs, h, 0 => h
 | c :: cs, vs, h, n + 1 => by
  obtain ⟨v, r, rfl, h1, h⟩ := h
  simp only [List.drop_succ_cons]
  exact RVs.drop h n
theorem RVs.erase {F : FH} {prog : Program} {w : World} : ∀ {cs : List CV} {vs : List Value}, RVs prog w F cs vs -> ∀ n, RVs prog w F (cs.eraseIdx n) (vs.eraseIdx n)
 | [], vs, h, n => by subst h; simp
 | c :: cs, vs, h, 0 => by
  obtain ⟨v, r, rfl, h1, h⟩ := h
  exact h
 | c :: cs, vs, h, n + 1 => by
  obtain ⟨v, r, rfl, h1, h⟩ := h
  simp only [List.eraseIdx_cons_succ]
  exact ⟨v, r.eraseIdx n, rfl, h1, RVs.erase h n⟩
theorem RVs.set {F : FH} {prog : Program} {w : World} {d : CV} {u : Value} (hd : RV prog w F d u) : ∀ {cs : List CV} {vs : List Value}, RVs prog w F cs vs -> ∀ n, RVs prog w F (cs.set n d) (vs.set n u)
 | [], vs, h, n => by subst h; simp
 | c :: cs, vs, h, 0 => by
  obtain ⟨v, r, rfl, h1, h⟩ := h
  simp only [List.set_cons_zero]
  exact ⟨u, r, rfl, hd, h⟩
 | c :: cs, vs, h, n + 1 => by
  obtain ⟨v, r, rfl, h1, h⟩ := h
  simp only [List.set_cons_succ]
  exact ⟨v, r.set n u, rfl, h1, RVs.set hd h n⟩
theorem RVs.ints {F : FH} {prog : Program} {w : World} : ∀ {cs : List CV} {vs : List Value} {ns : List Int}, intsC cs = some ns -> RVs prog w F cs vs -> IntsAre vs ns
 | [], vs, ns, e, h => by cases e; subst h; exact .nil
 | c :: cs, vs, ns, e, h => by
  obtain ⟨v, r, rfl, hv, h⟩ := h
  cases c with
  | int i =>
   obtain ⟨t, rfl⟩ := hv
   exact D.el1 (.opt (intsC cs) fun l => .ret (i :: l)) e (C := fun ns => IntsAre (.int i t :: r) ns -> IntsAre (.int i t :: r) _) id fun l e1 k => k (.cons i t (RVs.ints e1 h))
  | _ => exact aab e
theorem RVs.strs {F : FH} {prog : Program} {w : World} : ∀ {cs : List CV} {vs : List Value} {ns : List SS}, strsC cs = some ns -> RVs prog w F cs vs -> StrsAre vs (ns.map (·.s))
 | [], vs, ns, e, h => by cases e; subst h; exact .nil
 | c :: cs, vs, ns, e, h => by
  obtain ⟨v, r, rfl, hv, h⟩ := h
  cases c with
  | str i =>
   obtain ⟨t, rfl⟩ := hv
   exact hid fun ng => D.el1 (.opt (strsC cs) fun l => .ret (i :: l)) e (C := fun (ns : List SS) => ¬StrsAre (.str i.s t :: r) (ns.map SS.s)) ng fun l e1 ng => ng (.cons i.s t (RVs.strs e1 h))
  | _ => exact aab e
theorem acX {f : CV -> CV -> Option Bool} : ∀ {xs ys : List CV} {b : Bool}, eqAll f xs ys = some b -> xs.length = ys.length ∧ ∃ e : Nat -> Bool, (∀ j x y, xs[j]? = some x -> ys[j]? = some y -> f x y = some (e j)) ∧ b = (List.range xs.length).all e
 | [], [], b, h => by cases h; exact ⟨rfl, fun _ => true, fun j x y hx => aab hx, rfl⟩
 | [], _ :: _, b, h => aab h
 | _ :: _, [], b, h => aab h
 | x :: xs, y :: ys, b, h => by
  refine D.el1 (.opt (f x y) fun a => .opt (eqAll f xs ys) fun b => .ret (a && b)) h (C := fun c => c = b) rfl fun a h1 b' h2 hb => ?_
  obtain ⟨hl, e, he, hr⟩ := acX h2
  refine ⟨congrArg (· + 1) hl, fun j => match j with | 0 => a | j + 1 => e j, fun j u v hu hv => ?_, ?_⟩
  · cases j with
    | zero => cases hu; cases hv; exact h1
    | succ j => exact he j u v hu hv
  · rw [List.length_cons, List.range_succ_eq_map, List.all_cons, List.all_map, <- hb, hr]
    rfl
theorem LO.uniq {ob : Obj} {vs us : List Value} (l : LO ob vs) (m : LO ob us) : vs = us := by
 obtain ⟨n, l⟩ := l
 obtain ⟨k, m⟩ := m
 rw [l] at m
 have e := (Data.seq.inj (Obj.mk.inj m).2.2.1).1
 exact congrArg Array.toList e
theorem aft (I : Inv W F s) : ∀ (n : Nat) {c d : CV} {b : Bool} {v : Value}, eqN n c d = some b -> CvAt W F s.heap c v -> CvAt W F s.heap d v -> b = true
 | 0, _, _, _, _, h, _, _ => aab h
 | n + 1, c, d, b, v, h, hv, hu => by
  cases c with
  | int x =>
   refine D.el1 (.opt (cvInt d) fun y => .ret (x == y)) h (C := (· = b)) rfl fun y hy hb => ?_
   obtain rfl := aak hy
   obtain ⟨t, rfl⟩ := aaP hv
   obtain ⟨t', e⟩ := aaP hu
   cases e; rw [<- hb]; exact beq_self_eq_true x
  | str x =>
   refine D.el1 (.opt (cvStr d) fun y => .ret (x.s == y.s)) h (C := (· = b)) rfl fun y hy hb => ?_
   obtain rfl := aaw hy
   obtain ⟨t, rfl⟩ := aaK hv
   obtain ⟨t', e⟩ := aaK hu
   injection e with e e'
   rw [<- hb, e]; exact beq_self_eq_true _
  | list xs =>
   refine D.el1 (.opt (cvList d) fun ys => .ite (xs.length == ys.length) (.raw (eqAll (eqN n) xs ys)) (.ret false)) h (C := (· = b)) rfl fun ys hy => ⟨fun _ r hr hb => ?_, fun hl hb => ?_⟩
   all_goals
    obtain rfl := aay hy
    obtain ⟨a, oa, vs, rfl, ea, la, ra⟩ := aaM I hv
    obtain ⟨a', ob, us, e, eb, lb, rb⟩ := aaM I hu
    cases e
    rw [ea] at eb; cases eb
    obtain rfl := la.uniq lb
   · obtain ⟨_, e, he, hr⟩ := acX hr
     rw [<- hb, hr, List.all_eq_true]
     intro j hj
     have hj := List.mem_range.mp hj
     have hx : xs[j]? = some xs[j] := List.getElem?_eq_getElem hj
     have hj2 : j < ys.length := by rw [<- rb.len, ra.len]; exact hj
     have hy : ys[j]? = some ys[j] := List.getElem?_eq_getElem hj2
     obtain ⟨v1, e1, r1⟩ := ra.get hx
     obtain ⟨v2, e2, r2⟩ := rb.get hy
     rw [e1] at e2; cases e2
     exact aft I n (he j _ _ hx hy) (.inl r1) (.inl r2)
   · rw [<- ra.len, rb.len, beq_self_eq_true] at hl; cases hl
  | _ => exact aab h
inductive EqG (A : Around) (s : Shared) (v u : Value) (b : Bool) : Prop
 | mk (h1 : EqAt A s v u b) (h2 : RcAt A s v u b) (h3 : RcNeAt A s v u (!b))
theorem agX (I : Inv W F s) : ∀ (n : Nat) {A : Around} {c d : CV} {b : Bool} {v u : Value}, A.units + n ≤ 9880 -> eqN n c d = some b -> CvAt W F s.heap c v -> CvAt W F s.heap d u -> EqG A s v u b
 | 0, _, _, _, _, _, _, _, h, _, _ => aab h
 | n + 1, A, c, d, b, v, u, hA, h, hv, hu => by
  cases c with
  | int x =>
   refine D.el1 (.opt (cvInt d) fun y => .ret (x == y)) h (C := (· = b)) rfl fun y hy hb => ?_
   obtain rfl := aak hy
   obtain ⟨t, rfl⟩ := aaP hv
   obtain ⟨t', rfl⟩ := aaP hu
   subst hb
   exact ⟨EqAt.int_int _ _ _ _, RcAt.int_int _ _ _ _, RcNeAt.int_int _ _ _ _⟩
  | str x =>
   refine D.el1 (.opt (cvStr d) fun y => .ret (x.s == y.s)) h (C := (· = b)) rfl fun y hy hb => ?_
   obtain rfl := aaw hy
   obtain ⟨t, rfl⟩ := aaK hv
   obtain ⟨t', rfl⟩ := aaK hu
   subst hb
   exact ⟨EqAt.str_str _ _ _ _, RcAt.str_str _ _ _ _, RcNeAt.str_str _ _ _ _⟩
  | list xs =>
   refine hid fun z => ?_
   have hcl : A.units < cLine := by show A.units < 9900; lia
   have key : ∀ ys, d = .list ys -> (∀ a ob vs, v = .ref a -> s.heap.get? a = some ob -> LO ob vs -> RVs W.prog W.w F xs vs -> ∀ a' ob' us, u = .ref a' -> s.heap.get? a' = some ob' -> LO ob' us -> RVs W.prog W.w F ys us -> RcAt A s v u b ∧ RcNeAt A s v u (!b)) -> False := fun ys hy k => by
    subst hy
    obtain ⟨a, oa, vs, rfl, ea, la, ra⟩ := aaM I hv
    obtain ⟨a', ob, us, rfl, eb, lb, rb⟩ := aaM I hu
    obtain ⟨k1, k2⟩ := k a oa vs rfl ea la ra a' ob us rfl eb lb rb
    by_cases hne : a = a'
    · subst hne
      obtain rfl := aft I (n + 1) h hv hu
      exact z ⟨EqAt.same _, k1, k2⟩
    · exact z ⟨EqAt.of_refs hne k1, k1, k2⟩
   refine D.el1 (.opt (cvList d) fun ys => .ite (xs.length == ys.length) (.raw (eqAll (eqN n) xs ys)) (.ret false)) h (C := (· = b)) rfl fun ys hy => ⟨fun hl r hr hb => ?_, fun hl hb => ?_⟩
   · refine key ys (aay hy) fun a ob vs hv1 ea la ra a' ob' us hu1 eb lb rb => ?_
     obtain ⟨_, e, he, hr⟩ := acX hr
     have hsz : vs.toArray.size = us.toArray.size := by rw [List.size_toArray, List.size_toArray, ra.len, rb.len]; exact beq_iff_eq.mp hl
     have items : ∀ j (h1 : j < vs.toArray.size) (h2 : j < us.toArray.size), EqAt A.in1 s vs.toArray[j] us.toArray[j] (e j) := fun j h1 h2 => by
      have hj1 : j < xs.length := by rw [<- ra.len]; simpa using h1
      have hj2 : j < ys.length := by rw [<- rb.len]; simpa using h2
      have hx : xs[j]? = some xs[j] := List.getElem?_eq_getElem hj1
      have hy : ys[j]? = some ys[j] := List.getElem?_eq_getElem hj2
      obtain ⟨v1, e1, r1⟩ := ra.get hx
      obtain ⟨v2, e2, r2⟩ := rb.get hy
      have e1' : vs.toArray[j] = v1 := by obtain ⟨_, e⟩ := List.getElem?_eq_some_iff.mp e1; exact e
      have e2' : us.toArray[j] = v2 := by obtain ⟨_, e⟩ := List.getElem?_eq_some_iff.mp e2; exact e
      rw [e1', e2']
      exact (agX I n (A := A.in1) (by show A.units + 1 + n ≤ 9880; lia) (he j _ _ hx hy) (.inl r1) (.inl r2)).1
     have hb2 : b = (List.range vs.toArray.size).all e := by rw [List.size_toArray, ra.len, <- hb, hr]
     rw [hv1, hu1, hb2]
     exact ⟨RcAt.lists (la.isList ea) (lb.isList eb) hsz hcl items, RcNeAt.lists (la.isList ea) (lb.isList eb) hsz hcl items⟩
   · refine key ys (aay hy) fun a ob vs hv1 ea la ra a' ob' us hu1 eb lb rb => ?_
     have hsz : (vs.toArray.size != us.toArray.size) = true := by
      rw [List.size_toArray, List.size_toArray, ra.len, rb.len, bne_iff_ne]
      exact beq_eq_false_iff_ne.mp hl
     rw [hv1, hu1, <- hb]
     exact ⟨RcAt.lists_lengths (la.isList ea) (lb.isList eb) hsz hcl, RcNeAt.lists_lengths (la.isList ea) (lb.isList eb) hsz hcl⟩
  | _ => exact aab h
theorem Room.eqR {A : Around} (R : Room A 20) : A.units + 4 ≤ 9880 ∧ A.in1.units + 4 ≤ 9880 := by
 have := R.2.2
 exact ⟨by lia, by show A.units + 1 + 4 ≤ 9880; lia⟩
end
end
section
open PySem PySem.Calls PyProof.Rows PySem.SeqAt PySem.MeetsSeq PySem.MeetsSeq2 PySem.MeetsSeq3 PySem.SeqRoads2
set_option tactic.hygienic false
theorem ame : ∀ {a b : List Int}, (a = [] ∨ b = []) -> decide (a.length < b.length) = ltL a b
 | [], [], _ => rfl
 | [], _ :: _, _ => decide_eq_true (Nat.succ_pos _)
 | _ :: _, [], _ => decide_eq_false (Nat.not_lt_zero _)
 | _ :: _, _ :: _, h => by rcases h with h | h <;> cases h
theorem amf : ∀ {a b : List Int}, (a = [] ∨ b = []) -> decide (a.length ≤ b.length) = leL a b
 | [], _, _ => decide_eq_true (Nat.zero_le _)
 | _ :: _, [], _ => decide_eq_false (Nat.not_succ_le_zero _)
 | _ :: _, _ :: _, h => by rcases h with h | h <;> cases h
theorem ab5 : ∀ {vs : List Value} {ns : List Int}, IntsAre vs ns -> ∀ (i : Nat), (∃ t n, vs.toArray[((i : Nat) : Int).toNat]? = some (.int n t) ∧ ns.drop i = n :: ns.drop (i + 1)) ∨ (vs.toArray[((i : Nat) : Int).toNat]? = none ∧ ns.length ≤ i)
 | _, _, .nil, i => .inr ⟨by simp, Nat.zero_le _⟩
 | _, _, .cons n t r, 0 => .inl ⟨t, n, by simp, by simp⟩
 | _, _, .cons n t r, i + 1 => by
  rcases ab5 r i with ⟨t', n', h1, h2⟩ | ⟨h1, h2⟩
  · exact .inl ⟨t', n', by simpa using h1, by simpa using h2⟩
  · exact .inr ⟨by simpa using h1, Nat.succ_le_succ h2⟩
section
open AutoSeq1 (wpAny_loadPart')
set_option tactic.hygienic false
theorem aj5 (l b : Addr) {vs us : List Value} {ns ms : List Int} (n n2 : Nat) (hi : IntsAre vs ns) (hj : IntsAre us ms) (k : Nat) :
 ∀ i : Nat, ns.length - i = k -> i ≤ ns.length -> i ≤ ms.length -> Meets (Builtin.«list.__eq__.loop» ⟨[.ref l, .ref b, rawInt i, rawInt 0], []⟩)
  (fun _ R s => s.heap.get? l = some { cls := .type "list", data := .seq vs.toArray n } ∧ s.heap.get? b = some { cls := .type "list", data := .seq us.toArray n2 } ∧ R (.ok (.ret (.bool (ltL (ns.drop i) (ms.drop i))))) s) := by
 have fin : ∀ {i : Nat}, i ≤ ns.length -> i ≤ ms.length -> (ns.length ≤ i ∨ ms.length ≤ i) -> decide (vs.toArray.size < us.toArray.size) = ltL (ns.drop i) (ms.drop i) := fun {i} h1 h2 h => by
  rw [<- ame (h.imp (fun q => List.drop_eq_nil_of_le q) fun q => List.drop_eq_nil_of_le q), List.length_drop, List.length_drop, List.size_toArray, List.size_toArray, hi.length, hj.length]
  exact decide_eq_decide.mpr (by omega)
 induction k with
 | zero =>
  intro i hk h1 h2 prog w A R s h
  obtain ⟨hp, g, d, tk, os⟩ := s; obtain ⟨hl, hb, h⟩ := h
  rw [<- fin h1 h2 (.inl (by omega))] at h
  rcases ab5 hi i with ⟨_, _, _, e⟩ | ⟨e1, _⟩
  · have := congrArg List.length e
    simp only [List.length_drop, List.length_cons] at this
    omega
  wp_walk using wpAny_loadPart' hl, wpAny_loadPart' hb
  rw [e1]
  wp_walk using wpAny_loadPart' hl, wpAny_loadPart' hb
  exact h
 | succ k ih =>
  intro i hk h1 h2 prog w A R s h
  obtain ⟨hp, g, d, tk, os⟩ := s; obtain ⟨hl, hb, h⟩ := h
  rcases ab5 hi i with ⟨t, x, e1, d1⟩ | ⟨_, e⟩
  rotate_left
  · omega
  rcases ab5 hj i with ⟨u, y, e2, d2⟩ | ⟨e2, q⟩
  rotate_left
  · rw [<- fin h1 h2 (.inr q)] at h
    wp_walk using wpAny_loadPart' hl, wpAny_loadPart' hb
    rw [e1, e2]
    wp_walk using wpAny_loadPart' hl, wpAny_loadPart' hb
    exact h
  have hc : ((i : Int) + 1) = ((i + 1 : Nat) : Int) := by push_cast; rfl
  have hlt : i < ms.length := by
   have := congrArg List.length d2
   simp only [List.length_drop, List.length_cons] at this
   omega
  rw [d1, d2, amG] at h
  have hgo := ih (i + 1) (by omega) (by omega) (by omega) prog w
  wp_walk using wpAny_loadPart' hl, wpAny_loadPart' hb
  rw [e1, e2]
  refine wpAny_bind (EqAt.int_int _ _ _ _ prog w _ _ ?_)
  by_cases hxy : x = y
  · subst hxy
    rw [decide_eq_true rfl] at h
    rw [beq_self_eq_true]
    wp_walk
    rw [hc]
    exact ⟨plainId_quiet plain_eq_loop _, codeAny_builtin entry_eq_loop (by
     rw [Around.under_plainId plain_eq_loop _]
     exact hgo A R _ ⟨hl, hb, h⟩)⟩
  · rw [decide_eq_false hxy] at h
    rw [beq_eq_false_iff_ne.mpr hxy]
    wp_walk using wpAny_loadPart' hl, wpAny_loadPart' hb
    rw [e1, e2]
    refine wpAny_bind (wpAny_lt_int ?_)
    wp_walk
    exact h
theorem afu (l b : Addr) {vs us : List Value} {ns ms : List Int} (n n2 : Nat) (hi : IntsAre vs ns) (hj : IntsAre us ms) :
 Meets (Builtin.«list.__lt__» ⟨[.ref l, .ref b], []⟩)
  (fun _ R s => s.heap.get? l = some { cls := .type "list", data := .seq vs.toArray n } ∧ s.heap.get? b = some { cls := .type "list", data := .seq us.toArray n2 } ∧ R (.ok (.ret (.bool (ltL ns ms)))) s) := by
 intro prog w A R s h
 obtain ⟨hp, g, d, tk, os⟩ := s; obtain ⟨hl, hb, h⟩ := h
 have f3 := AutoSeq1.sub_list_list
 wp_walk using wpAny_loadPart' hl, wpAny_loadPart' hb
 exact ⟨plainId_quiet plain_eq_loop _, codeAny_builtin entry_eq_loop (by
  rw [Around.under_plainId plain_eq_loop _]
  exact aj5 l b n n2 hi hj _ 0 rfl (Nat.zero_le _) (Nat.zero_le _) prog w A R _ ⟨hl, hb, h⟩)⟩
theorem ank {prog : Program} {w : World} {A : Around} {E : VP} {s : Shared} {l b : Addr} {ob ob' : Obj} {vs us : List Value} {ns ms : List Int} (e1 : s.heap.get? l = some ob) (l1 : LO ob vs) (e2 : s.heap.get? b = some ob') (l2 : LO ob' us) (hi : IntsAre vs ns) (hj : IntsAre us ms)
 (hA : A.units < cLine) {Q : VP} (q : Q (.bool (ltL ns ms)) s) : wpAny (model prog w) A (compareOp .Lt (.ref l) (.ref b)) Q E s := by
 obtain ⟨n, l1⟩ := l1
 obtain ⟨n2, l2⟩ := l2
 subst l1 l2
 exact richCompare_meets_room (op := .Lt) ⟨_, e1, rfl⟩ ⟨_, e2, rfl⟩ F.slot_list_lt F.entry_list_lt (F.args_list_lt_2 _ _) (afu l b n n2 hi hj) ⟨e1, e2, ⟨fun x => (nomatch x), q⟩⟩ hA
theorem aj6 (l b : Addr) {vs us : List Value} {ns ms : List Int} (n n2 : Nat) (hi : IntsAre vs ns) (hj : IntsAre us ms) (k : Nat) :
 ∀ i : Nat, ns.length - i = k -> i ≤ ns.length -> i ≤ ms.length -> Meets (Builtin.«list.__eq__.loop» ⟨[.ref l, .ref b, rawInt i, rawInt 1], []⟩)
  (fun _ R s => s.heap.get? l = some { cls := .type "list", data := .seq vs.toArray n } ∧ s.heap.get? b = some { cls := .type "list", data := .seq us.toArray n2 } ∧ R (.ok (.ret (.bool (leL (ns.drop i) (ms.drop i))))) s) := by
 have fin : ∀ {i : Nat}, i ≤ ns.length -> i ≤ ms.length -> (ns.length ≤ i ∨ ms.length ≤ i) -> decide (vs.toArray.size ≤ us.toArray.size) = leL (ns.drop i) (ms.drop i) := fun {i} h1 h2 h => by
  rw [<- amf (h.imp (fun q => List.drop_eq_nil_of_le q) fun q => List.drop_eq_nil_of_le q), List.length_drop, List.length_drop, List.size_toArray, List.size_toArray, hi.length, hj.length]
  exact decide_eq_decide.mpr (by omega)
 induction k with
 | zero =>
  intro i hk h1 h2 prog w A R s h
  obtain ⟨hp, g, d, tk, os⟩ := s; obtain ⟨hl, hb, h⟩ := h
  rw [<- fin h1 h2 (.inl (by omega))] at h
  rcases ab5 hi i with ⟨_, _, _, e⟩ | ⟨e1, _⟩
  · have := congrArg List.length e
    simp only [List.length_drop, List.length_cons] at this
    omega
  wp_walk using wpAny_loadPart' hl, wpAny_loadPart' hb
  rw [e1]
  wp_walk using wpAny_loadPart' hl, wpAny_loadPart' hb
  exact h
 | succ k ih =>
  intro i hk h1 h2 prog w A R s h
  obtain ⟨hp, g, d, tk, os⟩ := s; obtain ⟨hl, hb, h⟩ := h
  rcases ab5 hi i with ⟨t, x, e1, d1⟩ | ⟨_, e⟩
  rotate_left
  · omega
  rcases ab5 hj i with ⟨u, y, e2, d2⟩ | ⟨e2, q⟩
  rotate_left
  · rw [<- fin h1 h2 (.inr q)] at h
    wp_walk using wpAny_loadPart' hl, wpAny_loadPart' hb
    rw [e1, e2]
    wp_walk using wpAny_loadPart' hl, wpAny_loadPart' hb
    exact h
  have hc : ((i : Int) + 1) = ((i + 1 : Nat) : Int) := by push_cast; rfl
  have hlt : i < ms.length := by
   have := congrArg List.length d2
   simp only [List.length_drop, List.length_cons] at this
   omega
  rw [d1, d2, amH] at h
  have hgo := ih (i + 1) (by omega) (by omega) (by omega) prog w
  wp_walk using wpAny_loadPart' hl, wpAny_loadPart' hb
  rw [e1, e2]
  refine wpAny_bind (EqAt.int_int _ _ _ _ prog w _ _ ?_)
  by_cases hxy : x = y
  · subst hxy
    rw [decide_eq_true rfl] at h
    rw [beq_self_eq_true]
    wp_walk
    rw [hc]
    exact ⟨plainId_quiet plain_eq_loop _, codeAny_builtin entry_eq_loop (by
     rw [Around.under_plainId plain_eq_loop _]
     exact hgo A R _ ⟨hl, hb, h⟩)⟩
  · rw [decide_eq_false hxy] at h
    rw [beq_eq_false_iff_ne.mpr hxy]
    wp_walk using wpAny_loadPart' hl, wpAny_loadPart' hb
    rw [e1, e2]
    refine wpAny_bind (le_int ?_)
    wp_walk
    exact h
theorem ah7 (l b : Addr) {vs us : List Value} {ns ms : List Int} (n n2 : Nat) (hi : IntsAre vs ns) (hj : IntsAre us ms) :
 Meets (Builtin.«list.__le__» ⟨[.ref l, .ref b], []⟩)
  (fun _ R s => s.heap.get? l = some { cls := .type "list", data := .seq vs.toArray n } ∧ s.heap.get? b = some { cls := .type "list", data := .seq us.toArray n2 } ∧ R (.ok (.ret (.bool (leL ns ms)))) s) := by
 intro prog w A R s h
 obtain ⟨hp, g, d, tk, os⟩ := s; obtain ⟨hl, hb, h⟩ := h
 have f3 := AutoSeq1.sub_list_list
 wp_walk using wpAny_loadPart' hl, wpAny_loadPart' hb
 exact ⟨plainId_quiet plain_eq_loop _, codeAny_builtin entry_eq_loop (by
  rw [Around.under_plainId plain_eq_loop _]
  exact aj6 l b n n2 hi hj _ 0 rfl (Nat.zero_le _) (Nat.zero_le _) prog w A R _ ⟨hl, hb, h⟩)⟩
theorem anl {prog : Program} {w : World} {A : Around} {E : VP} {s : Shared} {l b : Addr} {ob ob' : Obj} {vs us : List Value} {ns ms : List Int} (e1 : s.heap.get? l = some ob) (l1 : LO ob vs) (e2 : s.heap.get? b = some ob') (l2 : LO ob' us) (hi : IntsAre vs ns) (hj : IntsAre us ms)
 (hA : A.units < cLine) {Q : VP} (q : Q (.bool (leL ns ms)) s) : wpAny (model prog w) A (compareOp .LtE (.ref l) (.ref b)) Q E s := by
 obtain ⟨n, l1⟩ := l1
 obtain ⟨n2, l2⟩ := l2
 subst l1 l2
 exact richCompare_meets_room (op := .LtE) ⟨_, e1, rfl⟩ ⟨_, e2, rfl⟩ F.slot_list_le F.entry_list_le (F.args_list_le_2 _ _) (ah7 l b n n2 hi hj) ⟨e1, e2, ⟨fun x => (nomatch x), q⟩⟩ hA
end
end
section
open PySem PySem.Calls PyProof.Rows PySem.SeqAt
section
variable {W : Wd} {F F' : FH} {s s' : Shared} {env : Env} {ρ : CE} {ad : Str -> Option Addr} {M : Addr -> Prop} {A : Around} {E : VP}
set_option tactic.hygienic false
theorem Stp.toks (I : Inv W F s) (tk : Nat) : Stp W (fun _ => False) F F s { s with toks := tk } := Stp.ofKeep (tk := tk) I (fun _ _ e => e)
def PV (W : Wd) (F : FH) (s : Shared) (c : CV) (Q : VP) : Prop := ∀ v F' s', Stp W (fun _ => False) F F' s s' -> RV W.prog W.w F' c v -> Q v s'
theorem PV.same {c : CV} {Q : VP} (h : PV W F s c Q) (I : Inv W F s) {v : Value} (r : RV W.prog W.w F c v) : Q v s := h v F s (.refl I) r
theorem PV.tk {c : CV} {Q : VP} (h : PV W F s c Q) (I : Inv W F s) {v : Value} (r : RV W.prog W.w F c v) (tk : Nat) : Q v { s with toks := tk } := h v F _ (Stp.toks I tk) r
theorem PV.int {i : Int} {Q : VP} (h : PV W F s (.int i) Q) (I : Inv W F s) (t : Tok) (tk : Nat) : Q (.int i t) { s with toks := tk } := h.tk I (⟨t, rfl⟩) tk
theorem PV.str {x : SS} {Q : VP} (h : PV W F s (.str x) Q) (I : Inv W F s) (t : Tok) (tk : Nat) : Q (.str x.s t) { s with toks := tk } := h.tk I (⟨t, rfl⟩) tk
theorem PV.newList {cs : List CV} {vs : List Value} {Q : VP} (h : PV W F s (.list cs) Q) (I : Inv W F s) (r : RVs W.prog W.w F cs vs) {h' : Heap} {a : Addr} (tk : Nat)
 (hk : ∀ b o, s.heap.get? b = some o -> h'.get? b = some o) (ha : Fre s.heap a) (hp : h'.PlainList a vs.toArray) :
 Q (.ref a) { s with heap := h', toks := tk } := by
 obtain ⟨n, hp⟩ := hp
 have S := Stp.ofKeep (tk := tk) I hk
 have hn := I.fresh ha
 refine h _ _ _ (S.freeze hn hp (I.tabOld ha) (.inr ha)) ?_
 exact ⟨a, _, vs, rfl, FH.add_self .., ⟨n, rfl⟩, RVs.mono _ _ (FH.add_sub hn) _ _ r⟩
theorem PV.pushList {cs : List CV} {vs : List Value} {Q : VP} (h : PV W F s (.list cs) Q) (I : Inv W F s) (r : RVs W.prog W.w F cs vs) (tk : Nat) (n : Nat) :
 Q (.ref s.heap.objs.size) { s with heap := s.heap.push { cls := .type "list", data := .seq vs.toArray n }, toks := tk } :=
 h.newList I r tk (fun _ _ e => Heap.get?_push_of_some _ e) (Fre.size _ (Nat.le_refl _)) ⟨n, Heap.get?_push_size _ rfl⟩
theorem amg {c d : CV} {b : Bool} (h : eqC c d = some b) (I : Inv W F s) (Rm : Room A 20) {v u : Value} (hv : CvAt W F s.heap c v) (hu : CvAt W F s.heap d u) {Q : VP} :
 (Q (.bool b) s -> wpAny (model W.prog W.w) A (compareOp .Eq v u) Q E s) ∧ (Q (.bool (!b)) s -> wpAny (model W.prog W.w) A (compareOp .NotEq v u) Q E s) :=
 have k := agX I 4 Rm.eqR.1 h hv hu
 ⟨k.2 W.prog W.w E Q, k.3 W.prog W.w E Q⟩
theorem agY : ∀ (n : Nat) {c d x : CV} {b b' : Bool} {v : Value}, eqN n c x = some b -> eqN n d x = some b' -> RV W.prog W.w F c v -> RV W.prog W.w F d v -> b = b'
 | 0, _, _, _, _, _, _, h, _, _, _ => aab h
 | n + 1, c, d, x, b, b', v, h, h', hv, hu => by
  refine hid fun z => ?_
  cases c with
  | int i =>
   obtain ⟨t, rfl⟩ := hv
   cases d with
   | int j => obtain ⟨t', e⟩ := hu; cases e; rw [h] at h'; cases h'; exact z rfl
   | str _ => obtain ⟨t', e⟩ := hu; cases e
   | list _ => obtain ⟨_, _, _, e, _⟩ := hu; cases e
   | _ => exact aab h'
  | str y =>
   obtain ⟨t, rfl⟩ := hv
   cases d with
   | str y' =>
    obtain ⟨t', e⟩ := hu
    injection e with e
    refine D.el1 (.opt (cvStr x) fun q => .ret (y.s == q.s)) h (C := (· = b)) rfl fun q hq hb => ?_
    refine D.el1 (.opt (cvStr x) fun q => .ret (y'.s == q.s)) h' (C := (· = b')) rfl fun q' hq' hb' => ?_
    rw [hq] at hq'; cases hq'
    exact z (by rw [<- hb, <- hb', e])
   | int _ => obtain ⟨t', e⟩ := hu; cases e
   | list _ => obtain ⟨_, _, _, e, _⟩ := hu; cases e
   | _ => exact aab h'
  | list xs =>
   obtain ⟨a, o, vs, rfl, f, l, r⟩ := hv
   cases d with
   | int _ => obtain ⟨t', e⟩ := hu; cases e
   | str _ => obtain ⟨t', e⟩ := hu; cases e
   | list ys =>
    obtain ⟨a', o', us, e, f', l', r'⟩ := hu
    cases e
    rw [f] at f'; cases f'
    obtain rfl := l.uniq l'
    have hlen : xs.length = ys.length := r.len.symm.trans r'.len
    replace h : (match cvList x with | some zs => (match xs.length == zs.length with | true => eqAll (eqN n) xs zs | false => some false) | none => none) = some b := h
    replace h' : (match cvList x with | some zs => (match ys.length == zs.length with | true => eqAll (eqN n) ys zs | false => some false) | none => none) = some b' := h'
    cases hz : cvList x with
    | none => rw [hz] at h; cases h
    | some zs =>
     rw [hz] at h h'
     dsimp only at h h'
     rw [hlen] at h
     cases hl : ys.length == zs.length with
     | false => rw [hl] at h h'; cases h; cases h'; exact z rfl
     | true =>
      rw [hl] at h h'
      obtain ⟨_, e1, he1, hr1⟩ := acX h
      obtain ⟨_, e2, he2, hr2⟩ := acX h'
      refine z ?_
      rw [hr1, hr2, hlen, Bool.eq_iff_iff, List.all_eq_true, List.all_eq_true]
      refine forall_congr' fun j => imp_congr_right fun hj => ?_
      have hj := List.mem_range.mp hj
      have hx : xs[j]? = some xs[j] := List.getElem?_eq_getElem (hlen ▸ hj)
      have hy : ys[j]? = some ys[j] := List.getElem?_eq_getElem hj
      have hw : zs[j]? = some zs[j] := List.getElem?_eq_getElem (beq_iff_eq.mp hl ▸ hj)
      obtain ⟨v1, q1, r1⟩ := r.get hx
      obtain ⟨v2, q2, r2⟩ := r'.get hy
      rw [q1] at q2; cases q2
      rw [agY n (he1 j _ _ hx hw) (he2 j _ _ hy hw) r1 r2]
   | _ => exact aab h'
  | _ => exact aab h
theorem aeT (I : Inv W F s) {n : Nat} (hA : A.in1.units + n ≤ 9880) {c : CV} {u : Value} (hu : CvAt W F s.heap c u) {xs : List CV} {vs : List Value} {bs : List Bool} (h : eqOf (fun y => eqN n y c) xs = some bs) (r : RVs W.prog W.w F xs vs) :
 ∃ e : Value -> Bool, (∀ y, y ∈ vs -> EqAt A.in1 s y u (e y)) ∧ bs = vs.map e := by
 have key : ∀ {xs : List CV} {vs : List Value} {bs : List Bool}, eqOf (fun y => eqN n y c) xs = some bs -> RVs W.prog W.w F xs vs -> bs.length = vs.length ∧ ∀ (i : Nat) (v : Value), vs[i]? = some v -> ∃ b, bs[i]? = some b ∧ ∃ x, RV W.prog W.w F x v ∧ eqN n x c = some b := by
  intro xs
  induction xs with
  | nil => intro vs bs h r; cases h; subst r; exact ⟨rfl, fun i v q => aab q⟩
  | cons x xs ih =>
   intro vs bs h r
   obtain ⟨v, t, rfl, r1, r2⟩ := r
   refine D.el1 (.opt (eqN n x c) fun a => .opt (eqOf (fun y => eqN n y c) xs) fun bs => .ret (a :: bs)) h (C := (· = bs)) rfl fun a h1 bs' h2 hb => ?_
   obtain ⟨hl, q⟩ := ih h2 r2
   subst hb
   refine ⟨congrArg (· + 1) hl, fun i v' e1 => ?_⟩
   cases i with
   | zero => cases e1; exact ⟨a, rfl, x, r1, h1⟩
   | succ i => exact q i v' e1
 obtain ⟨hl, q⟩ := key h r
 have hx : ∀ v, ∃ b, v ∈ vs -> ∃ x, RV W.prog W.w F x v ∧ eqN n x c = some b := fun v => by
  by_cases hv : v ∈ vs
  · obtain ⟨i, hi⟩ := List.getElem?_of_mem hv
    obtain ⟨b, _, k⟩ := q i v hi
    exact ⟨b, fun _ => k⟩
  · exact ⟨false, fun z => absurd z hv⟩
 refine ⟨fun v => Classical.choose (hx v), fun y hy => ?_, ?_⟩
 · obtain ⟨x, rx, ex⟩ := Classical.choose_spec (hx y) hy
   exact (agX I n hA ex (.inl rx) hu).1
 · apply List.ext_getElem?
   intro i
   rw [List.getElem?_map]
   cases hv : vs[i]? with
   | none => exact List.getElem?_eq_none (by rw [hl]; exact List.getElem?_eq_none_iff.mp hv)
   | some v =>
    obtain ⟨b, hb, x, rx, ex⟩ := q i v hv
    obtain ⟨x', rx', ex'⟩ := Classical.choose_spec (hx v) (List.mem_of_getElem? hv)
    rw [hb, agY n ex ex' rx rx']
    rfl
theorem amh {c d : CV} {b : Bool} (h : isC c d = some b) {hp : Heap} {v u : Value} (hv : CvAt W F hp c v) (hu : CvAt W F hp d u) {Q : VP} :
 (Q (.bool b) s -> wpAny (model W.prog W.w) A (compareOp .Is v u) Q E s) ∧ (Q (.bool (!b)) s -> wpAny (model W.prog W.w) A (compareOp .IsNot v u) Q E s) := by
 have pn : ∀ v : Value, plainIs v .none = true -> (v == .none) = b -> (Q (.bool b) s -> wpAny (model W.prog W.w) A (compareOp .Is v .none) Q E s) ∧ (Q (.bool (!b)) s -> wpAny (model W.prog W.w) A (compareOp .IsNot v .none) Q E s) :=
  fun v hp e => ⟨fun q => wpAny_is_plain hp (by rw [e]; exact q), fun q => wpAny_isNot_plain hp (by rw [e]; exact q)⟩
 cases c with
 | bool a =>
  cases d with
  | bool d =>
   cases h
   obtain rfl := acW hv
   obtain rfl := acW hu
   have e : (Value.bool a == Value.bool d) = (a == d) := by cases a <;> cases d <;> rfl
   exact ⟨fun q => wpAny_is_plain rfl (by rw [e]; exact q), fun q => wpAny_isNot_plain rfl (by rw [e]; exact q)⟩
  | none => cases h; obtain rfl := acW hv; obtain rfl := ab4 hu; exact pn _ rfl rfl
  | _ => exact aab h
 | none =>
  cases d with
  | none => cases h; obtain rfl := ab4 hv; obtain rfl := ab4 hu; exact pn _ rfl rfl
  | bool d =>
   cases h; obtain rfl := ab4 hv; obtain rfl := acW hu
   exact ⟨fun q => wpAny_is_plain rfl q, fun q => wpAny_isNot_plain rfl q⟩
  | _ => exact aab h
 | int i =>
  cases d with
  | none => cases h; obtain ⟨t, rfl⟩ := aaP hv; obtain rfl := ab4 hu; exact pn _ rfl rfl
  | _ => exact aab h
 | lam L =>
  cases d with
  | none =>
   cases h; obtain rfl := ab4 hu
   rcases hv with r | ⟨o, a, e, _⟩
   · simp only [RV] at r
     refine hid fun z11 => ?_
     obtain ⟨a, o, _, _, _, _, _, rfl, _⟩ := r
     refine z11 ?_
     exact pn _ rfl rfl
   · cases o; cases e
  | _ => exact aab h
 | _ => exact aab h
theorem ami {c d : CV} {b : Bool} (h : inC c d = some b) (I : Inv W F s) (Rm : Room A 20) {v u : Value} (hv : CvAt W F s.heap c v) (hu : CvAt W F s.heap d u) {Q : VP}  :
 ((∀ tk, Q (.bool b) { s with toks := tk }) -> wpAny (model W.prog W.w) A (compareOp .In v u) Q E s) ∧ ((∀ tk, Q (.bool (!b)) { s with toks := tk }) -> wpAny (model W.prog W.w) A (compareOp .NotIn v u) Q E s) := by
 unfold inC at h
 refine hid fun z0 => ?_
 cases d with
 | str x =>
  dsimp only at h
  cases h1 : cvStr c with
  | none => rw [h1] at h; exact aab h
  | some y =>
   rw [h1] at h; cases h
   obtain rfl := aaw h1
   obtain ⟨t, rfl⟩ := aaK hv
   obtain ⟨t', rfl⟩ := aaK hu
   refine z0 ?_
   exact ⟨fun q => in_str (q s.toks), fun q => notIn_str (q s.toks)⟩
 | iset xs =>
  dsimp only at h
  cases h1 : cvInt c with
  | none => rw [h1] at h; exact aab h
  | some i =>
   rw [h1] at h; cases h
   obtain rfl := aak h1
   obtain ⟨t, rfl⟩ := aaP hv
   obtain ⟨a, o, rfl, e, so⟩ := aj4 hu
   obtain ⟨n, hs⟩ := so.setOf (I.frz _ _ e)
   refine z0 ?_
   exact ⟨fun q => wpAny_inSet_of (by simp [intKind, Value.isInt]) rfl hs (q _), fun q => wpAny_notInSet_of (by simp [intKind, Value.isInt]) rfl hs (q _)⟩
 | list xs =>
  refine D.el1 (.opt (eqOf (fun y => eqN 4 y c) xs) fun bs => .ret (bs.any id)) h (C := (· = b)) rfl fun bs hb hr => ?_
  obtain ⟨a, oa, vs, rfl, ea, la, ra⟩ := aaM I hu
  obtain ⟨e, he, hbs⟩ := aeT I Rm.eqR.2 hv hb ra
  have hany : vs.toArray.any e = b := by rw [<- hr, hbs, List.any_toArray, List.any_map]; rfl
  refine z0 ⟨fun q => in_listAt e (la.isList ea) (fun y hy => he y (by simpa using hy)) (by rw [hany]; exact q s.toks), fun q => notIn_listAt e (la.isList ea) (fun y hy => he y (by simpa using hy)) (by rw [hany]; exact q s.toks)⟩
 | _ => exact aab h
theorem aa1 {c d : CV} {hp : Heap} {v u : Value} (hv : CvAt W F hp c v) (hu : CvAt W F hp d u) {P : Prop} {α : Type} {f : Int -> Int -> Option α} {r : α}
 (h : (match cvInt c, cvInt d with | some x, some y => f x y | _, _ => none) = some r) (k : ∀ x y t t', f x y = some r -> v = .int x t -> u = .int y t' -> P) : P := by
 refine hid fun z0 => ?_
 cases h1 : cvInt c with
 | none => rw [h1] at h; exact aab h
 | some x =>
  cases h2 : cvInt d with
  | none => rw [h1, h2] at h; exact aab h
  | some y =>
   rw [h1, h2] at h
   obtain rfl := aak h1
   obtain rfl := aak h2
   obtain ⟨t, rfl⟩ := aaP hv
   obtain ⟨t', rfl⟩ := aaP hu
   refine z0 ?_
   exact k x y t t' h rfl rfl
theorem aiZ {c d : CV} {f : Int -> Int -> Bool} {g : List Int -> List Int -> Bool} {b : Bool} (h : ordC f g c d = some b) (I : Inv W F s) {v u : Value} (hv : CvAt W F s.heap c v) (hu : CvAt W F s.heap d u) {P : Prop}
 (k1 : ∀ x y t t', f x y = b -> v = .int x t -> u = .int y t' -> P) (k2 : ∀ l l' ob ob' vs us ns ms, g ns ms = b -> v = .ref l -> u = .ref l' -> s.heap.get? l = some ob -> LO ob vs -> s.heap.get? l' = some ob' -> LO ob' us -> IntsAre vs ns -> IntsAre us ms -> P) : P := by
 refine hid fun z => ?_
 cases c with
 | int x =>
  refine D.el1 (.opt (cvInt d) fun y => .ret (f x y)) h (C := (· = b)) rfl fun y hy hb => ?_
  obtain rfl := aak hy
  obtain ⟨t, e⟩ := aaP hv; obtain ⟨t', e'⟩ := aaP hu
  exact z (k1 x y t t' hb e e')
 | list xs =>
  refine D.el1 (.opt (cvList d) fun ys => .opt (intsC xs) fun p => .opt (intsC ys) fun q => .ret (g p q)) h (C := (· = b)) rfl fun ys hy p hp q hq hb => ?_
  obtain rfl := aay hy
  obtain ⟨a, oa, vs, e, ea, la, ra⟩ := aaM I hv
  obtain ⟨a', ob, us, e', eb, lb, rb⟩ := aaM I hu
  exact z (k2 a a' oa ob vs us p q hb e e' ea la eb lb (ra.ints hp) (rb.ints hq))
 | _ => exact aab h
theorem ai0 {op : CmpOp} {c d : CV} {b : Bool} (h : cmpC op c d = some b) (I : Inv W F s) (Rm : Room A 20) {v u : Value} (hv : CvAt W F s.heap c v) (hu : CvAt W F s.heap d u) {Q : VP}
 (hQ : ∀ tk, Q (.bool b) { s with toks := tk }) : wpAny (model W.prog W.w) A (compareOp op v u) Q E s := by
 have hn : ∀ o : Option Bool, onot o = some b -> ∃ a, o = some a ∧ b = !a := fun o e => by
  cases o with
  | none => cases e
  | some a => exact ⟨a, rfl, (Option.some.inj e).symm⟩
 cases op with
 | Eq => exact (amg h I Rm hv hu).1 (hQ s.toks)
 | NotEq => obtain ⟨a, e, rfl⟩ := hn _ h; exact (amg e I Rm hv hu).2 (hQ s.toks)
 | Is => exact (amh h hv hu).1 (hQ s.toks)
 | IsNot => obtain ⟨a, e, rfl⟩ := hn _ h; exact (amh e hv hu).2 (hQ s.toks)
 | In => exact (ami h I Rm hv hu).1 hQ
 | NotIn => obtain ⟨a, e, rfl⟩ := hn _ h; exact (ami e I Rm hv hu).2 hQ
 | Lt => exact aiZ h I hv hu (fun x y t t' e e1 e2 => by subst e e1 e2; exact wpAny_lt_int (hQ s.toks)) fun l l' ob ob' vs us ns ms e e1 e2 h1 h2 h3 h4 h5 h6 => by subst e e1 e2; exact ank h1 h2 h3 h4 h5 h6 Rm.uni (hQ s.toks)
 | LtE => exact aiZ h I hv hu (fun x y t t' e e1 e2 => by subst e e1 e2; exact le_int (hQ s.toks)) fun l l' ob ob' vs us ns ms e e1 e2 h1 h2 h3 h4 h5 h6 => by subst e e1 e2; exact anl h1 h2 h3 h4 h5 h6 Rm.uni (hQ s.toks)
 | Gt => exact aa1 hv hu (f := fun x y => some (decide (x > y))) h fun x y t t' e e1 e2 => by cases e; subst e1 e2; exact SiftDown.gt_int (hQ s.toks)
 | GtE => exact aa1 hv hu (f := fun x y => some (decide (x ≥ y))) h fun x y t t' e e1 e2 => by cases e; subst e1 e2; exact ge_int (hQ s.toks)
theorem afv {c : CV} {b : Bool} (h : truthC c = some b) {v : Value} (hv : CvAt W F s.heap c v) {Q : Bool -> Shared -> Prop} (hQ : ∀ tk, Q b { s with toks := tk }) :
 wpAny (model W.prog W.w) A (truthy v) Q E s := by
 refine hid fun z0 => ?_
 cases c with
 | none => cases h; obtain rfl := ab4 hv; exact z0 (wpAny_pure (hQ s.toks))
 | bool b => cases h; obtain rfl := acW hv; exact z0 (wpAny_truthy_bool (hQ s.toks))
 | str x =>
  refine D.el1 (.grd (Nat.ble x.b 16777216) (.ret (!(x.s.length == 0)))) h (C := fun b => ∀ tk, Q b { s with toks := tk }) hQ fun hle hQ => ?_
  obtain ⟨t, rfl⟩ := aaK hv
  refine z0 (P.truthy_str (fun q => absurd (Int.le_trans q (Int.ofNat_le.mpr (Nat.le_trans x.h (Nat.le_of_ble_eq_true hle)))) (by decide)) ?_)
  have e : ((x.s.length : Int) != 0) = !(x.s.length == 0) := by rw [Bool.eq_iff_iff]; simp
  rw [e]; exact hQ _
 | _ => exact aab h
theorem afw {y : Int} (h : small y = true) : y.natAbs < 1073741824 ∧ y.natAbs < 2 ^ 64 := by
 unfold small at h
 simp only [Bool.and_eq_true, decide_eq_true_eq] at h
 omega
theorem aeh {x y : Int} (h : (small x && small y) = true) : IntMulOk x y := by
 unfold small at h
 simp only [Bool.and_eq_true, decide_eq_true_eq] at h
 exact IntMulOk.of_left (intBits_le_64 (Int.lt_of_lt_of_le (by decide) h.1.1) (Int.lt_of_le_of_lt h.1.2 (by decide)))
set_option tactic.hygienic true
theorem amj {op : Operator} {c d r : CV} (h : binC op c d = some r) (I : Inv W F s) {v u : Value} (hv : CvAt W F s.heap c v) (hu : CvAt W F s.heap d u) {Q : VP}
 (hQ : PV W F s r Q) : wpAny (model W.prog W.w) A (binaryOp op v u) Q E s := by
 cases op with
 | Add =>
  replace h : addV c d = some r := h
  unfold addV at h
  refine hid fun z1 => ?_
  cases c with
  | int x =>
   dsimp only at h
   cases h1 : cvInt d with
   | none => rw [h1] at h; exact aab h
   | some y =>
    rw [h1] at h; cases h; obtain rfl := aak h1
    obtain ⟨t, rfl⟩ := aaP hv; obtain ⟨t', rfl⟩ := aaP hu; refine z1 ?_; exact wpAny_add_int (hQ.int I _ _)
  | str x =>
   dsimp only at h
   cases h1 : cvStr d with
   | none => rw [h1] at h; exact aab h
   | some y =>
    rw [h1] at h; obtain rfl := aaw h1
    dsimp only at h
    split at h
    · rename_i hle
      cases h
      have hle := Nat.le_of_ble_eq_true hle
      obtain ⟨t, rfl⟩ := aaK hv; obtain ⟨t', rfl⟩ := aaK hu
      refine z1 ?_
      refine add_str (fun t' tk => hQ.str I _ _) ?_
      have h1 := x.h; have h2 := y.h
      show _ ≤ 16777216
      unfold LIM at hle; lia
    · exact aab h
  | list xs =>
   dsimp only at h
   cases h1 : cvList d with
   | none => rw [h1] at h; exact aab h
   | some ys =>
    rw [h1] at h; obtain rfl := aay h1
    dsimp only at h
    split at h
    · rename_i hle
      cases h
      have hle := Nat.le_of_ble_eq_true hle
      obtain ⟨a, oa, vs, rfl, ea, ⟨n, la⟩, ra⟩ := aaM I hv
      obtain ⟨b, ob, us, rfl, eb, ⟨m, lb⟩, rb⟩ := aaM I hu
      subst la lb
      refine z1 ?_
      refine P.add_list ea eb ?_ ?_
      · rw [List.append_toArray]
        exact hQ.pushList I (ra.append rb) _ 0
      · rw [List.size_toArray, List.size_toArray, ra.len, rb.len]; exact hle
    · exact aab h
  | _ => exact aab h
 | Sub => exact aa1 (α := CV) hv hu (f := fun x y => some (.int (x - y))) h fun x y t t' e e1 e2 => by cases e; subst e1 e2; exact sub_int' (hQ.int I _ _)
 | FloorDiv =>
  refine aa1 (α := CV) hv hu (f := fun x y => match decide (y = 0) || !small y with | true => none | false => some (.int (Int.fdiv x y))) h fun x y t t' e e1 e2 => ?_
  refine hid fun z2 => ?_
  subst e1 e2
  split at e
  · exact aab e
  · rename_i hle
    cases e
    simp only [Bool.or_eq_false_iff, decide_eq_false_iff_not, Bool.not_eq_false'] at hle
    refine z2 ?_
    exact floordiv_int hle.1 (hQ.int I _ _) (.inl (PyProof.noPylong_small (afw hle.2).1))
 | Mod =>
  refine aa1 (α := CV) hv hu (f := fun x y => match decide (y = 0) with | true => none | false => some (.int (Int.fmod x y))) h fun x y t t' e e1 e2 => ?_
  refine hid fun z3 => ?_
  subst e1 e2
  split at e
  · exact aab e
  · rename_i hle
    cases e
    simp only [decide_eq_false_iff_not] at hle
    refine z3 ?_
    exact IsLeap.wpAny_mod_int hle (hQ.int I _ _)
 | Mult =>
  refine aa1 (α := CV) hv hu (f := fun x y => match small x && small y with | true => some (.int (x * y)) | false => none) h fun x y t t' e e1 e2 => ?_
  refine hid fun z3 => ?_
  subst e1 e2
  split at e
  · rename_i hle
    cases e
    refine z3 ?_
    exact PyProof.Rows.mul_int (hQ.int I _ _) (aeh hle)
  · exact aab e
 | _ => exact aab h
theorem ai1 {op : Operator} {c d r : CV} (h : augC op c d = some r) (I : Inv W F s) {v u : Value} (hv : CvAt W F s.heap c v) (hu : CvAt W F s.heap d u) {Q : VP}
 (hQ : PV W F s r Q) : wpAny (model W.prog W.w) A (inplaceOp op v u) Q E s := by
 cases op with
 | Add =>
  refine hid fun z1 => ?_
  cases c with
  | int x =>
   replace h : addV (.int x) d = some r := h
   unfold addV at h
   dsimp only at h
   cases h1 : cvInt d with
   | none => rw [h1] at h; exact aab h
   | some y =>
    rw [h1] at h; cases h; obtain rfl := aak h1
    obtain ⟨t, rfl⟩ := aaP hv; obtain ⟨t', rfl⟩ := aaP hu; refine z1 ?_; exact wpAny_iadd_int (hQ.int I _ _)
  | str x =>
   replace h : addV (.str x) d = some r := h
   unfold addV at h
   dsimp only at h
   cases h1 : cvStr d with
   | none => rw [h1] at h; exact aab h
   | some y =>
    rw [h1] at h; obtain rfl := aaw h1
    dsimp only at h
    split at h
    · rename_i hle
      cases h
      have hle := Nat.le_of_ble_eq_true hle
      obtain ⟨t, rfl⟩ := aaK hv; obtain ⟨t', rfl⟩ := aaK hu
      refine z1 ?_
      refine iadd_str (fun t' tk => hQ.str I _ _) ?_
      have h1 := x.h; have h2 := y.h
      show _ ≤ 16777216
      unfold LIM at hle; lia
    · exact aab h
  | _ => exact aab h
 | Sub => exact aa1 (α := CV) hv hu (f := fun x y => some (.int (x - y))) h fun x y t t' e e1 e2 => by cases e; subst e1 e2; exact isub_int (hQ.int I _ _)
 | FloorDiv =>
  refine aa1 (α := CV) hv hu (f := fun x y => match decide (y = 0) || !small y with | true => none | false => some (.int (Int.fdiv x y))) h fun x y t t' e e1 e2 => ?_
  refine hid fun z2 => ?_
  subst e1 e2
  split at e
  · exact aab e
  · rename_i hle
    cases e
    simp only [Bool.or_eq_false_iff, decide_eq_false_iff_not, Bool.not_eq_false'] at hle
    refine z2 ?_
    exact ifloordiv_int hle.1 (hQ.int I _ _) (.inl (PyProof.noPylong_small (afw hle.2).1))
 | Mult =>
  refine aa1 (α := CV) hv hu (f := fun x y => match small x && small y with | true => some (.int (x * y)) | false => none) h fun x y t t' e e1 e2 => ?_
  refine hid fun z3 => ?_
  subst e1 e2
  split at e
  · rename_i hle
    cases e
    refine z3 ?_
    exact PyProof.Rows.imul_int (hQ.int I _ _) (aeh hle)
  · exact aab e
 | _ => exact aab h
set_option tactic.hygienic false
theorem amk {op : UnaryOp} {c r : CV} (h : negC op c = some r) (I : Inv W F s) {v : Value} (hv : CvAt W F s.heap c v) {Q : VP}
 (hQ : PV W F s r Q) : wpAny (model W.prog W.w) A (unaryOp op v) Q E s := by
 refine hid fun z0 => ?_
 cases op <;> first | exact aab h | skip
 cases c <;> first | exact aab h | skip
 cases h; obtain ⟨t, rfl⟩ := aaP hv; exact z0 (neg_int (hQ.int I _ _))
end
section
variable {W : Wd} {F F' : FH} {s s' : Shared} {env : Env} {ρ : CE} {ad : Str -> Option Addr} {M : Addr -> Prop} {A : Around} {E : VP}
set_option tactic.hygienic false
theorem abq {i : Int} {n k : Nat} (h : seqIndex? i n = some k) : (0 ≤ i ∧ i.toNat = k ∧ k < n) ∨ (i < 0 ∧ -(n : Int) ≤ i ∧ (i + n).toNat = k ∧ k < n) := by
 unfold seqIndex? at h
 dsimp only at h
 refine hid fun z0 => ?_
 by_cases hi : i < 0
 · simp only [if_pos hi] at h
   by_cases hj : (decide (0 ≤ i + (n : Int)) && decide (i + (n : Int) < (n : Int))) = true
   · rw [if_pos hj] at h
     simp only [Bool.and_eq_true, decide_eq_true_eq] at hj
     have h := Option.some.inj h
     refine z0 ?_
     exact .inr ⟨hi, by omega, h, by omega⟩
   · rw [if_neg hj] at h; cases h
 · simp only [if_neg hi] at h
   by_cases hj : (decide (0 ≤ i) && decide (i < (n : Int))) = true
   · rw [if_pos hj] at h
     simp only [Bool.and_eq_true, decide_eq_true_eq] at hj
     have h := Option.some.inj h
     refine z0 ?_
     exact .inl ⟨by lia, h, by omega⟩
   · rw [if_neg hj] at h; cases h
theorem RVd.at {F : FH} {prog : Program} {w : World} : ∀ {es : List (SS × CV)} {kvs : List (Str × Value)}, RVd prog w F es kvs -> ∀ k,
 (∀ c, dget es k = some c -> ∃ v, valueAt kvs k = some v ∧ RV prog w F c v) ∧ (dget es k = none -> valueAt kvs k = none)
 | [], kvs, h, k => by subst h; exact ⟨fun c e => (by cases e), fun _ => rfl⟩
 | (x, d) :: es, kvs, h, k => by
  obtain ⟨v, r, rfl, h1, h2⟩ := h
  have ih := RVd.at h2 k
  rw [aiv]; unfold valueAt
  cases hk : k == x.s with
  | true =>
   have e : x.s = k := (beq_iff_eq.mp hk).symm
   refine ⟨fun c q => ?_, fun q => by cases q⟩
   cases q
   exact ⟨v, by simp [List.find?, e], h1⟩
  | false =>
   have e : ¬ x.s = k := fun q => (beq_eq_false_iff_ne.mp hk) q.symm
   have e2 : List.find? (fun kv => decide (kv.1 = k)) ((x.s, v) :: r) = List.find? (fun kv => decide (kv.1 = k)) r := by simp [List.find?, e]
   rw [e2]; exact ih
theorem RVd.len {F : FH} {prog : Program} {w : World} : ∀ {es : List (SS × CV)} {kvs : List (Str × Value)}, RVd prog w F es kvs -> kvs.length = es.length
 | [], kvs, h => by subst h; rfl
 | (x, d) :: es, kvs, h => by
  obtain ⟨v, r, rfl, h1, h2⟩ := h
  rw [List.length_cons, List.length_cons, RVd.len h2]
set_option tactic.hygienic true
theorem ai2 {c d r : CV} (h : subC c d = some r) (I : Inv W F s) {v u : Value} (hv : CvAt W F s.heap c v) (hu : CvAt W F s.heap d u) {Q : VP} (hQ : PV W F s r Q) :
 SubscriptOn (model W.prog W.w) A v u Q E s := by
 unfold subC at h
 refine hid fun z0 => ?_
 cases c with
 | list xs =>
  dsimp only at h
  split at h
  refine z0 ?_
  rotate_left
  · exact aab h
  rename_i i hy
  refine hid fun z1 => ?_
  obtain rfl := aak hy
  obtain ⟨a, oa, vs, rfl, ea, la, ra⟩ := aaM I hv
  obtain ⟨t, rfl⟩ := aaP hu
  unfold subAtList at h
  split at h
  · rename_i k hk
    split at h
    · rename_i hle
      have hle := Nat.le_of_ble_eq_true hle
      unfold LIM at hle
      obtain ⟨x, hx, rx⟩ := ra.get h
      have hl := la.isList ea
      refine z1 ?_
      refine ⟨"list", _, PySem.F.slot_list_getitem.lookup, ⟨oa, ea, by obtain ⟨n, q⟩ := la; rw [q]⟩, ?_⟩
      have hsz : (vs.toArray.size : Int) = xs.length := by rw [List.size_toArray, ra.len]
      refine hid fun z2 => ?_
      rcases abq hk with ⟨h0, h1, h2⟩ | ⟨h0, h1, h2, h3⟩
      · refine z2 ?_
        exact wpAny_getItem_list hl h0 (by lia) (by rw [h1]; simpa using hx) (hQ.same I rx)
      · refine z2 ?_
        exact wpAny_getItem_list_neg hl h0 (by rw [hsz]; exact h1) (by lia) (by rw [hsz, h2]; simpa using hx) (hQ.same I rx)
    · cases h
  · cases h
 | str x =>
  dsimp only at h
  split at h
  refine z0 ?_
  rotate_left
  · exact aab h
  rename_i i hy
  refine hid fun z3 => ?_
  obtain rfl := aak hy
  obtain ⟨t, rfl⟩ := aaK hv
  obtain ⟨t', rfl⟩ := aaP hu
  unfold subAtStr at h
  split at h
  · rename_i ch hc
    split at h
    · cases h
    · rename_i hr
      cases h
      refine z3 ?_
      exact ⟨"str", _, PySem.F.slot_str_getitem.lookup, typeIs_str _ _ _, getItem_str hr hc (hQ.str I _ _)⟩
  · cases h
 | _ => exact aab h
set_option tactic.hygienic false
theorem acg {prog : Program} {w : World} {value slice : Expr} {pos : Pos} {Q : VP}
 (h : wpAny (model prog w) A (eval value env) (fun o s1 => wpAny (model prog w) A (eval slice env) (fun i s2 => SubscriptOn (model prog w) A o i Q E s2) E s1) E s) :
 wpAny (model prog w) A (eval (.Subscript value slice pos) env) Q E s := by
 rw [eval_Subscript]
 refine wpAny_bind (wpAny_mono h (fun o s1 h1 => wpAny_bind (wpAny_holding (wpAny_mono h1 (fun i s2 h2 => wpAny_bind (wpAny_standAt ?_)) fun _ _ x => x))) fun _ _ x => x)
 obtain ⟨T, id, hl, hT, hg⟩ := h2
 refine wpAny_bind ?_
 rw [getitemInPython_of_ne hT.not_modules]
 refine wpAny_bind (wpAny_specialOf hT hl ?_)
 have fin : wpAny (model prog w) A (subscripted slice false o i) (fun r s3 => wpAny (model prog w) A (letTemporaryGo value o r >>= fun _ => pure r) Q E s3) E s2 := by
  have k : wpAny (model prog w) A (getItem o i) (fun r s3 => wpAny (model prog w) A (letTemporaryGo value o r >>= fun _ => pure r) Q E s3) E s2 :=
   wpAny_mono hg (fun r s3 h3 => wpAny_bind (wpAny_letTemporaryGo (wpAny_pure h3))) fun _ _ x => x
  have k' : ∀ l, wpAny (model prog w) A (operate l (getItem o i)) (fun r s3 => wpAny (model prog w) A (letTemporaryGo value o r >>= fun _ => pure r) Q E s3) E s2 := fun l => wpAny_operating k
  cases slice with
  | Slice a b c p => cases c <;> exact k' _
  | _ => exact k' _
 exact wpAny_pure (wpAny_bind fin)
theorem ach {F : FH} {prog : Program} {w : World} {cs : List CV} {vs : List Value} (h : RVs prog w F cs vs) : ∀ l : List Nat, RVs prog w F (l.filterMap (cs[·]?)) (l.filterMap (vs[·]?))
 | [] => rfl
 | k :: l => by
  have ih := ach h l
  have e := h.len
  rw [List.filterMap_cons, List.filterMap_cons]
  cases hc : cs[k]? with
  | none =>
   have : vs[k]? = none := by rw [List.getElem?_eq_none_iff] at hc ⊢; lia
   rw [this]; exact ih
  | some c =>
   obtain ⟨v, hv, rv⟩ := h.get hc
   rw [hv]
   exact ⟨v, _, rfl, rv, ih⟩
def PartIs (v : Value) (o : Option Int) : Prop := match o with
 | none => v = .none
 | some i => ∃ t, v = .int i t
theorem PartIs.isPart {v : Value} {o : Option Int} (h : PartIs v o) : IsPart v o := by
 cases o with
 | none => cases h; exact .none
 | some i => obtain ⟨t, rfl⟩ := h; exact .int i t
theorem PartIs.pv {v : Value} {o : Option Int} (h : PartIs v o) : ∃ p, v = partValue p ∧ p.map (·.1) = o := by
 cases o with
 | none => cases h; exact ⟨none, rfl, rfl⟩
 | some i => obtain ⟨t, rfl⟩ := h; exact ⟨some (i, t), rfl, rfl⟩
set_option tactic.hygienic true
theorem acE {c r : CV} {lo hi : Option Int} (h : sliceC c lo hi = some r) (I : Inv W F s) {v vl vu : Value} (hv : CvAt W F s.heap c v) (hl : PartIs vl lo) (hu : PartIs vu hi) {Q : VP} (hQ : PV W F s r Q) :
 SubscriptOn (model W.prog W.w) A v (.ref s.heap.objs.size) Q E { s with heap := s.heap.push { cls := .type "slice", data := .fields #[vl, vu, .none] } } := by
 have I' := (Stp.ofKeep (tk := s.toks) I (h' := s.heap.push { cls := .type "slice", data := .fields #[vl, vu, .none] }) (fun _ _ e => Heap.get?_push_of_some _ e))
 unfold sliceC at h
 refine hid fun z0 => ?_
 split at h
 · rename_i xs
   split at h
   · rename_i hle
     have hle := Nat.le_of_ble_eq_true hle
     cases h
     obtain ⟨a, oa, vs, rfl, ea, la, ra⟩ := aaM I hv
     have ea' : (s.heap.push { cls := .type "slice", data := .fields #[vl, vu, .none] }).get? a = some oa := Heap.get?_push_of_some _ ea
     refine z0 ?_
     refine ⟨"list", _, PySem.F.slot_list_getitem.lookup, ⟨oa, ea', by obtain ⟨n, q⟩ := la; rw [q]⟩, ?_⟩
     refine wpAny_getItem_list_slice (la.isList ea') ⟨_, Heap.get?_push_size _ rfl, rfl, rfl⟩ hl.isPart hu.isPart .none (by intro q; cases q) ?_ (by rw [List.size_toArray, ra.len]; exact hle)
     refine hQ.newList I (vs := (slicePick vs.toArray lo hi none).toList) ?_ s.toks (fun _ _ e => Heap.get?_push_of_some _ (Heap.get?_push_of_some _ e)) ?_ ⟨0, ?_⟩
     · unfold slicePick pickC
       rw [List.size_toArray, ra.len]
       simpa using ach ra _
     · exact Fre.size _ (by rw [Heap.size_push]; exact Nat.le_succ _)
     · rw [Heap.get?_push_size _ rfl]
   · cases h
 · rename_i x
   split at h
   · rename_i hle
     cases h
     obtain ⟨t, rfl⟩ := aaK hv
     obtain ⟨pl, rfl, rfl⟩ := hl.pv
     obtain ⟨pu, rfl, rfl⟩ := hu.pv
     refine z0 ?_
     refine ⟨"str", _, PySem.F.slot_str_getitem.lookup, typeIs_str _ _ _, ?_⟩
     refine wpAny_getItem_str_slice (l := pl) (u := pu) (st := none) ⟨_, Heap.get?_push_size _ rfl, rfl, rfl⟩ rfl ?_
     have fin : ∀ t tk, Q (.str (Txt.slice x.s (pl.map (·.1)) (pu.map (·.1))) t) { s with heap := s.heap.push { cls := .type "slice", data := .fields #[partValue pl, partValue pu, .none] }, toks := tk } := fun t tk =>
      hQ _ _ _ (Stp.ofKeep (tk := tk) I (fun _ _ e => Heap.get?_push_of_some _ e)) (⟨t, rfl⟩)
     have hx := x.h
     have hle := Nat.le_of_ble_eq_true hle
     have hz := Nat.le_trans (Txt.slice_le x.s (pl.map (·.1)) (pu.map (·.1))) (Nat.le_trans hx hle)
     have e : Txt.slice x.s (pl.map (·.1)) (pu.map (·.1)) = if ((1 : Int) == 1 && (slicePicked x.s pl pu none).length == x.s.length) = true then x.s else ⟨((slicePicked x.s pl pu none).filterMap (x.s.cps[·]?)).toArray⟩ := rfl
     rw [e] at fin hz
     have e2 : sliceMade x.s t pl pu none = if ((1 : Int) == 1 && (slicePicked x.s pl pu none).length == x.s.length) = true then Made.val (.str x.s t) else Made.str ⟨((slicePicked x.s pl pu none).filterMap (x.s.cps[·]?)).toArray⟩ := rfl
     rw [e2]
     generalize ((1 : Int) == 1 && (slicePicked x.s pl pu none).length == x.s.length) = cc at fin hz ⊢
     generalize (⟨((slicePicked x.s pl pu none).filterMap (x.s.cps[·]?)).toArray⟩ : Str) = zz at fin hz ⊢
     exact post_val_or_str ⟨hz, fin⟩
   · cases h
 · cases h
end
section
variable {W : Wd} {F F' : FH} {s s' : Shared} {env : Env} {ρ : CE} {ad : Str -> Option Addr} {M : Addr -> Prop} {A : Around} {E : VP}
set_option tactic.hygienic false
theorem Stp.turn (I : Inv W F s) {a : Addr} (hF : F a = none) (hT : ¬ W.T a) {h' : Heap} (hb : Heap.SameBut a s.heap h') (hl : ∃ o, h'.get? a = some o) (tk : Nat) : Stp W (· = a) F F s { s with heap := h', toks := tk } where
 keep := fun b o e hne _ => (hb.2 b hne).trans e
 live := fun b o e m => by
  rw [m]; exact hl
 sub := fun _ _ e => e
 new := fun _ _ e => .inl e
 same := ⟨rfl, rfl, rfl⟩
 inv := ⟨fun b o e => (hb.2 b (fun q => by rw [q, hF] at e; cases e)).trans (I.frz b o e), I.base, fun t ht => by
  obtain ⟨⟨ps, e1, e2, e3⟩, e4⟩ := I.tab t ht
  exact ⟨⟨ps, (hb.2 _ (fun q => hT ⟨t, ht, q⟩)).trans e1, e2, e3⟩, e4⟩⟩
def TurnV (W : Wd) (F : FH) (s : Shared) (a : Addr) (o' : CO) {α : Type} (v : α) (Q : α -> Shared -> Prop) : Prop := ∀ h' tk, Heap.SameBut a s.heap h' -> OR W.prog W.w F h' o' a -> Q v { s with heap := h', toks := tk }
theorem aei (f : Array Value -> Array Value) (its : Array Value) (n : Nat) :
 ∃ m, Obj.mapSeq f { cls := .type "list", data := .seq its n } = { cls := .type "list", data := .seq (f its) m } := by
 unfold Obj.mapSeq; exact ⟨_, rfl⟩
theorem abI {h : Heap} {l : Addr} {items : Array Value} (hl : h.PlainList l items) (f : Array Value -> Array Value) : (h.update l (Obj.mapSeq f)).PlainList l (f items) := by
 obtain ⟨n, ho⟩ := hl
 refine hid fun z1 => ?_
 obtain ⟨m, e⟩ := aei f items n
 refine z1 ?_
 refine ⟨m, ?_⟩
 rw [Heap.get?_update_self _ ho (by rw [e]; rfl), e]
theorem adS {l : Addr} {items : Array Value} {k : Int} {t : Tok} {v : Value} {Q : Unit -> Shared -> Prop} (hl : s.heap.PlainList l items)
 (h0 : 0 ≤ k) (hfit : k < 2 ^ 63) (hn : k < items.size)
 (hQ : ∀ h', h'.PlainList l (items.setIfInBounds k.toNat v) -> Heap.SameBut l s.heap h' -> Q () { s with heap := h' }) :
 wpAny (model W.prog W.w) A (setItem (.ref l) (.int k t) v) Q E s := by
 have hp := abI hl (·.setIfInBounds k.toNat v)
 have hT : s.TypeIs (.ref l) "list" := hl.isList.typeIs
 obtain ⟨n, ho⟩ := hl
 unfold setItem
 refine wpAny_holding ?_
 refine wpAny_bind (wpAny_sequenceKey hT (by decide) ?_)
 refine wpAny_bind (wpAny_callSpecial?_slot (name := Str.ofString "__setitem__") hT slot_list_setitem (wpAny_call_entry slot_list_setitem hT entry_list_setitem ?_ (args_list_setitem _ _ _)))
 show wpAny _ _ (Builtin.List.listSubscript? (.int k t) >>= _) _ _ s
 refine wpAny_bind (wpAny_listSubscript_int (fitsIndex_of h0 hfit) ?_)
 clear hfit
 obtain ⟨j, rfl⟩ := Int.eq_ofNat_of_zero_le h0
 have hj : j < items.size := by omega
 have hx : items[j]? = some items[j] := Array.getElem?_eq_getElem hj
 show wpAny _ _ ((seqItemAt l j >>= fun r => pure (r.map (j, ·))) >>= _) _ _ s
 refine wpAny_bind (wpAny_bind (wpAny_seqItemAt ho rfl (wpAny_pure ?_)))
 rw [hx]
 show wpAny _ _ (setSeqItemAt l j v >>= _) _ _ s
 refine wpAny_bind (wpAny_setSeqItemAt ho rfl ?_)
 exact wpAny_pure ⟨.none, rfl, wpAny_pure (hQ _ hp (Heap.SameBut.update ..))⟩
theorem OR.list_at {h : Heap} {xs : List CV} {a : Addr} (r : OR W.prog W.w F h (.list xs) a) : ∃ vs, h.PlainList a vs.toArray ∧ RVs W.prog W.w F xs vs := by
 obtain ⟨ob, vs, e, l, q⟩ := r; exact ⟨vs, l.plain e, q⟩
theorem OR.ofList {h : Heap} {xs : List CV} {a : Addr} {vs : List Value} (hp : h.PlainList a vs.toArray) (q : RVs W.prog W.w F xs vs) : OR W.prog W.w F h (.list xs) a := by
 obtain ⟨n, e⟩ := hp; exact ⟨_, vs, e, ⟨n, rfl⟩, q⟩
set_option tactic.hygienic true
theorem aml {o o' : CO} {i c : CV} (h : setC o i c = some o') {a : Addr} (ho : OR W.prog W.w F s.heap o a) {v u : Value} (hi : RV W.prog W.w F i u) (hc : RV W.prog W.w F c v) {Q : Unit -> Shared -> Prop}
 (hQ : TurnV W F s a o' () Q) : wpAny (model W.prog W.w) A (setItem (.ref a) u v) Q E s := by
 unfold setC at h
 refine hid fun z0 => ?_
 cases o with
 | list xs =>
  dsimp only at h
  split at h
  refine z0 ?_
  rotate_left
  · exact aab h
  rename_i i hy
  refine hid fun z1 => ?_
  obtain rfl := aak hy
  split at h
  · rename_i hg
    cases h
    simp only [Bool.and_eq_true, decide_eq_true_eq] at hg
    have hle := Nat.le_of_ble_eq_true hg.2
    unfold LIM at hle
    obtain ⟨t, rfl⟩ := hi
    obtain ⟨vs, hp, q⟩ := ho.list_at
    refine z1 ?_
    refine adS hp hg.1.1 (by omega) (by rw [List.size_toArray, q.len]; exact hg.1.2) fun h' hp' hb => ?_
    refine hQ h' s.toks hb (OR.ofList (vs := vs.set i.toNat v) ?_ (q.set hc _))
    rw [List.setIfInBounds_toArray] at hp'; exact hp'
  · cases h
theorem amm {o o' : CO} {i : CV} (h : delC o i = some o') {a : Addr} (ho : OR W.prog W.w F s.heap o a) {u : Value} (hi : RV W.prog W.w F i u) {Q : Unit -> Shared -> Prop}
 (hQ : TurnV W F s a o' () Q) : wpAny (model W.prog W.w) A (delItem (.ref a) u) Q E s := by
 unfold delC at h
 refine hid fun z0 => ?_
 cases o with
 | list xs =>
  dsimp only at h
  split at h
  refine z0 ?_
  rotate_left
  · exact aab h
  rename_i i hy
  refine hid fun z1 => ?_
  obtain rfl := aak hy
  split at h
  · rename_i k hk
    split at h
    · rename_i hle
      cases h
      have hle := Nat.le_of_ble_eq_true hle
      obtain ⟨t, rfl⟩ := hi
      obtain ⟨vs, hp, q⟩ := ho.list_at
      have e := q.len
      have hkk := abq hk
      have hfit : Builtin.List.listFitsIndex i = true := by
       unfold LIM at hle
       exact fitsIndex_both (by omega) (by omega)
      refine z1 ?_
      refine wpAny_delItem_plain hp hfit (by rw [List.size_toArray, e]; exact hk) (fun h' hp' hb => ?_) (by rw [List.size_toArray, e]; exact hle)
      refine hQ h' s.toks hb (OR.ofList (vs := vs.eraseIdx k) ?_ (q.erase _))
      have e3 : vs.toArray.eraseIdxIfInBounds k = (vs.eraseIdx k).toArray := by
       rw [List.eraseIdxIfInBounds_toArray]
      rw [<- e3]; exact hp'
    · cases h
  · cases h
end
section
variable {W : Wd} {F F' : FH} {s s' : Shared} {env : Env} {ρ : CE} {ad : Str -> Option Addr} {M : Addr -> Prop} {A : Around} {E : VP}
noncomputable def MK.ty : MK -> String
 | .append => "list"
 | .insert => "list"
 | .pop => "list"
 | .startswith => "str"
 | .endswith => "str"
 | .find => "str"
 | .join => "str"
 | .get => "dict"
 | .count => "list"
 | .index => "list"
noncomputable def MK.id : MK -> String
 | .append => "list.append"
 | .insert => "list.insert"
 | .pop => "list.pop"
 | .startswith => "str.startswith"
 | .endswith => "str.endswith"
 | .find => "str.find"
 | .join => "str.join"
 | .get => "dict.get"
 | .count => "list.count"
 | .index => "list.index"
def MethIs (k : MK) (m : Str) (v : Value) (s : Shared) : Prop := PlainAttrs k.ty ∧ PySem.Slot k.ty m k.id ∧ typeOf (.builtin k.id) = pure (.type "method_descriptor") ∧ s.TypeIs v k.ty ∧ ∀ a, v = .ref a -> ∃ ob, s.heap.get? a = some ob ∧ ob.dict = none
set_option tactic.hygienic true
theorem afU {c : CV} {m : Str} {k : MK} (h : mkindOf c m = some k) (I : Inv W F s) {v : Value} (hv : CvAt W F s.heap c v) : MethIs k m v s := by
 unfold mkindOf at h
 refine hid fun z0 => ?_
 split at h
 · obtain ⟨a, ob, vs, rfl, e, ⟨n, rfl⟩, _⟩ := aaM I hv
   have hT : s.TypeIs (.ref a) "list" := ⟨_, e, rfl⟩
   have hd : ∀ b, Value.ref a = .ref b -> ∃ ob, s.heap.get? b = some ob ∧ ob.dict = none := fun b q => by cases q; exact ⟨_, e, rfl⟩
   split at h
   · rename_i q; cases h; refine z0 ?_; rw [beq_iff_eq.mp q]; exact ⟨PySem.F.plainAttrs_list, PySem.F.slot_list_append, PySem.F.type_list_append, hT, hd⟩
   · split at h
     · rename_i q; cases h; refine z0 ?_; rw [beq_iff_eq.mp q]; exact ⟨PySem.F.plainAttrs_list, PySem.F.slot_list_insert, PySem.F.type_list_insert, hT, hd⟩
     · split at h
       · rename_i q; cases h; refine z0 ?_; rw [beq_iff_eq.mp q]; exact ⟨PySem.F.plainAttrs_list, PySem.F.slot_list_pop, PySem.F.type_list_pop, hT, hd⟩
       · split at h
         · rename_i q; cases h; refine z0 ?_; rw [beq_iff_eq.mp q]; exact ⟨PySem.F.plainAttrs_list, PySem.F.slot_list_count, PySem.F.type_list_count, hT, hd⟩
         · split at h
           · rename_i q; cases h; refine z0 ?_; rw [beq_iff_eq.mp q]; exact ⟨PySem.F.plainAttrs_list, PySem.F.slot_list_index, PySem.F.type_list_index, hT, hd⟩
           · cases h
 · obtain ⟨t, rfl⟩ := aaK hv
   have hT := typeIs_str s
   have hd : ∀ x t, ∀ b, Value.str x t = .ref b -> ∃ ob, s.heap.get? b = some ob ∧ ob.dict = none := fun x t b q => by cases q
   split at h
   · rename_i q; cases h; refine z0 ?_; rw [beq_iff_eq.mp q]; exact ⟨PySem.F.plainAttrs_str, PySem.F.slot_str_startswith, PySem.F.type_str_startswith, hT _ _, hd _ _⟩
   · split at h
     · rename_i q; cases h; refine z0 ?_; rw [beq_iff_eq.mp q]; exact ⟨PySem.F.plainAttrs_str, PySem.F.slot_str_endswith, PySem.F.type_str_endswith, hT _ _, hd _ _⟩
     · split at h
       · rename_i q; cases h; refine z0 ?_; rw [beq_iff_eq.mp q]; exact ⟨PySem.F.plainAttrs_str, PySem.F.slot_str_find, PySem.F.type_str_find, hT _ _, hd _ _⟩
       · split at h
         · rename_i q; cases h; refine z0 ?_; rw [beq_iff_eq.mp q]; exact ⟨PySem.F.plainAttrs_str, PySem.F.slot_str_join, PySem.F.type_str_join, hT _ _, hd _ _⟩
         · cases h
 · obtain ⟨a, ob, kvs, rfl, e, ⟨⟨l, _⟩, _⟩, _⟩ := agW I hv
   have hT : s.TypeIs (.ref a) "dict" := ⟨_, e, l.1⟩
   have hd : ∀ b, Value.ref a = .ref b -> ∃ ob, s.heap.get? b = some ob ∧ ob.dict = none := fun b q => by cases q; exact ⟨_, e, l.2.1⟩
   split at h
   · rename_i q; cases h; refine z0 ?_; rw [beq_iff_eq.mp q]; exact ⟨PySem.F.plainAttrs_dict, PySem.F.slot_dict_get, PySem.F.type_dict_get, hT, hd⟩
   · cases h
 · cases h
set_option tactic.hygienic false
theorem aeU (x y : Str) (i j : Int) (t u v z : Tok) : Gives (Builtin.«str.find» ⟨[.str x t, .str y u, .int i v, .int j z], []⟩)
 (.int (match Builtin.Str.occurrences x y (fromIndex x.length i) (min x.length (fromIndex x.length j)) 1 with | k :: _ => (k : Int) | [] => -1)) := by
 rw [Nat.min_comm]
 show Gives (match Builtin.Str.occurrences x y (fromIndex x.length i) (min (fromIndex x.length j) x.length) 1 with | k :: _ => retInt k | [] => (do rule "str.find.not-found"; retInt (-1))) _
 cases Builtin.Str.occurrences x y (fromIndex x.length i) (min (fromIndex x.length j) x.length) 1 with
 | nil => exact .rule (.of_eq rfl)
 | cons k _ => exact .of_eq rfl
def CvAts (W : Wd) (F : FH) (h : Heap) : List CV -> List Value -> Prop
 | [], vs => vs = []
 | c :: cs, vs => ∃ v r, vs = v :: r ∧ CvAt W F h c v ∧ CvAts W F h cs r
theorem aej {o : CV} {args : List CV} {f : SS -> SS -> Option CV} {r : CV} (h : (match cvStr o, l1 args with
 | some x, some c => match cvStr c with
  | some y => f x y
  | none => none
 | _, _ => none) = some r) : ∃ x y, o = .str x ∧ args = [.str y] ∧ f x y = some r := by
 cases h1 : cvStr o with
 | none => rw [h1] at h; exact aab h
 | some x => cases h2 : l1 args with
  | none => rw [h1, h2] at h; exact aab h
  | some c => cases h3 : cvStr c with
   | none => rw [h1, h2] at h; dsimp only at h; rw [h3] at h; exact aab h
   | some y =>
    rw [h1, h2] at h; dsimp only at h; rw [h3] at h
    exact ⟨x, y, aaw h1, by rw [aaO h2, aaw h3], h⟩
theorem adq {o : CV} {args : List CV} {f : List CV -> CV -> Option CV} {r : CV} (h : (match cvList o, l1 args with
 | some x, some c => f x c
 | _, _ => none) = some r) : ∃ x c, o = .list x ∧ args = [c] ∧ f x c = some r := by
 cases h1 : cvList o with
 | none => rw [h1] at h; exact aab h
 | some x => cases h2 : l1 args with
  | none => rw [h1, h2] at h; exact aab h
  | some c =>
   rw [h1, h2] at h
   exact ⟨x, c, aay h1, aaO h2, h⟩
theorem ah8 (x : SS) : ∀ l : List SS, ((l.map (·.s)).map (·.length)).sum + (l.map (·.s)).length * x.s.length ≤ joinB x.b l := by
 intro l
 induction l with
 | nil => simp
 | cons y r ih =>
  have h1 := y.h
  have h2 := x.h
  simp only [List.map_cons, List.sum_cons, List.length_cons, joinB] at ih ⊢
  rw [Nat.succ_mul]
  lia
set_option tactic.hygienic true
theorem ah9 {k : MK} {c r : CV} {cs : List CV} (h : methC k c cs = some r) (I : Inv W F s) (Rm : Room A 20) {v : Value} {vs : List Value} (hv : CvAt W F s.heap c v) (hvs : CvAts W F s.heap cs vs) {Q : VP}
 (hQ : PV W F s r Q) : wpAny (model W.prog W.w) A (call (.builtin k.id) (v :: vs)) Q E s := by
 cases k with
 | startswith =>
  refine hid fun z1 => ?_
  obtain ⟨x, y, rfl, rfl, e⟩ := aej (f := fun x y => some (.bool (Txt.startswith x.s y.s))) h
  cases e
  obtain ⟨t, rfl⟩ := aaK hv
  obtain ⟨_, _, rfl, hu, rfl⟩ := hvs
  obtain ⟨t', rfl⟩ := aaK hu
  refine z1 ?_
  exact SC.startswith (hQ.same I (rfl))
 | endswith =>
  refine hid fun z2 => ?_
  obtain ⟨x, y, rfl, rfl, e⟩ := aej (f := fun x y => some (.bool (Txt.endswith x.s y.s))) h
  cases e
  obtain ⟨t, rfl⟩ := aaK hv
  obtain ⟨_, _, rfl, hu, rfl⟩ := hvs
  obtain ⟨t', rfl⟩ := aaK hu
  refine z2 ?_
  exact SC.endswith (hQ.same I (rfl))
 | find =>
  unfold methC at h
  dsimp only at h
  refine hid fun z3 => ?_
  split at h
  · rename_i x a b d h1
    split at h
    · rename_i y i j h2 h3 h4
      obtain rfl := aaw h1; obtain rfl := aaw h2; obtain rfl := aak h3; obtain rfl := aak h4
      split at h
      · cases h
        obtain ⟨t, rfl⟩ := aaK hv
        obtain ⟨_, _, rfl, hu, _, _, rfl, hi, _, _, rfl, hj, rfl⟩ := hvs
        obtain ⟨t', rfl⟩ := aaK hu
        obtain ⟨t2, rfl⟩ := aaP hi
        obtain ⟨t3, rfl⟩ := aaP hj
        refine z3 ?_
        exact call_gives PySem.F.slot_str_find (typeIs_str _ _ _) PySem.F.entry_str_find (PySem.F.args_str_find_4 _ _ _ _) (aeU _ _ _ _ _ _ _ _) (hQ.int I _ _)
      · exact aab h
    · exact aab h
  · exact aab h
 | join =>
  unfold methC at h
  dsimp only at h
  refine hid fun z4 => ?_
  split at h
  · rename_i x d h1 h2
    split at h
    · rename_i l h3
      obtain rfl := aaw h1; obtain rfl := aaO h2; obtain rfl := aay h3
      split at h
      · rename_i ss hs
        unfold joinC at h
        split at h
        · rename_i hle
          cases h
          simp only [Bool.and_eq_true] at hle
          have hle := Nat.le_of_ble_eq_true hle.1
          obtain ⟨t, rfl⟩ := aaK hv
          obtain ⟨_, _, rfl, hu, rfl⟩ := hvs
          obtain ⟨a, ob, us, rfl, e, l, q⟩ := aaM I hu
          refine z4 ?_
          refine join_list (l.isList e) (q.strs hs) ?_ fun t' k => hQ.str I _ _
          exact Nat.le_trans (ah8 x ss) hle
        · exact aab h
      · exact aab h
    · exact aab h
  · exact aab h
 | get =>
  unfold methC at h
  dsimp only at h
  refine hid fun z5 => ?_
  split at h
  · rename_i es d0 d1 h1
    split at h
    · rename_i kk d h2 h3
      obtain rfl := aeC h1; obtain rfl := aaw h2; obtain rfl := aak h3
      obtain ⟨a, ob, kvs, rfl, e, ⟨l, hne⟩, q⟩ := agW I hv
      obtain ⟨_, _, rfl, hu, dv, _, rfl, hdv, rfl⟩ := hvs
      obtain ⟨t', rfl⟩ := aaK hu
      have hd := (DO.dictOf (W := W) e l)
      have hm : (a == sysModules) = false := by simpa using hne
      refine z5 ?_
      refine call_meetsIn PySem.F.slot_dict_get ⟨_, e, l.1.1⟩ PySem.F.entry_dict_get (PySem.F.args_dict_get_3 _ _ _) (meets_dict_get_default (PySem.strKind W.prog W.w) a (key := .str kk.s t') (k := kk.s) (by simp [PySem.strKind, Value.isStrOf]) hm dv) ⟨_, hd.mapOf, ?_⟩
      have hat := RVd.at q kk.s
      refine hid fun z7 => ?_
      split at h
      · rename_i c hc
        cases h
        obtain ⟨v, hv, rv⟩ := hat.1 _ hc
        refine z7 ?_
        rw [hv]
        exact hQ.tk I rv _
      · rename_i hc
        cases h
        refine z7 ?_
        rw [hat.2 hc]
        refine hid fun z8 => ?_
        obtain ⟨t2, rfl⟩ := aaP hdv
        refine z8 ?_
        exact hQ.tk I (by simp only [RV, Option.getD]; exact ⟨t2, rfl⟩) _
    · exact aab h
  · exact aab h
 | count =>
  refine hid fun z1 => ?_
  obtain ⟨xs, c', rfl, rfl, e⟩ := adq (f := fun xs c => match eqOf (fun y => eqN 4 y c) xs with | some bs => some (.int (bs.countP id : Nat)) | none => none) h
  refine D.el1 (.opt (eqOf (fun y => eqN 4 y c') xs) fun bs => .ret (.int (bs.countP id : Nat))) e (C := (· = r)) rfl fun bs hb hr => ?_
  obtain ⟨_, _, rfl, hu, rfl⟩ := hvs
  obtain ⟨a, ob, us, rfl, ea, l, q⟩ := aaM I hv
  obtain ⟨f, hf, hbs⟩ := aeT I Rm.eqR.2 hu hb q
  subst hr hbs
  obtain ⟨n, rfl⟩ := l
  refine z1 ?_
  refine call_meets PySem.F.slot_list_count ⟨_, ea, rfl⟩ PySem.F.entry_list_count (PySem.F.args_list_count_2 _ _) (list_countAt a us.toArray n none #[] _ f) ⟨ea, fun y hy => hf y (by simpa using hy), ?_⟩
  have e2 : (us.toArray.toList.countP f : Nat) = (us.map f).countP id := by rw [List.countP_map]; rfl
  rw [e2]
  exact hQ.int I _ _
 | index =>
  refine hid fun z1 => ?_
  obtain ⟨xs, c', rfl, rfl, e⟩ := adq (f := fun xs c => match Nat.ble xs.length LIM with | true => (match eqOf (fun y => eqN 4 y c) xs with | some bs => (match bs.findIdx? id with | some i => some (.int (i : Nat)) | none => none) | none => none) | false => none) h
  refine D.el1 (.grd (Nat.ble xs.length LIM) (.opt (eqOf (fun y => eqN 4 y c') xs) fun bs => .opt (bs.findIdx? id) fun i => .ret (.int (i : Nat)))) e (C := (· = r)) rfl fun hle bs hb i hi hr => ?_
  obtain ⟨_, _, rfl, hu, rfl⟩ := hvs
  obtain ⟨a, ob, us, rfl, ea, l, q⟩ := aaM I hv
  obtain ⟨f, hf, hbs⟩ := aeT I Rm.eqR.2 hu hb q
  subst hr hbs
  obtain ⟨n, rfl⟩ := l
  obtain ⟨hlt, h1, h2⟩ := List.findIdx?_eq_some_iff_getElem.mp hi
  rw [List.length_map] at hlt
  refine z1 ?_
  refine call_meets PySem.F.slot_list_index ⟨_, ea, rfl⟩ PySem.F.entry_list_index (PySem.F.args_list_index_2 _ _) (list_indexAt a us.toArray n none #[] _ f i (by simpa using hlt) ?_ ?_ ?_) ⟨ea, fun y hy => hf y (by simpa using hy), hQ.int I _ _⟩
  · have := Nat.le_of_ble_eq_true hle
    have e := q.len
    unfold LIM at this
    lia
  · simpa using h1
  · intro m hm hmi
    have := h2 m hmi
    simpa using this
 | _ => exact aab h
end
section
variable {W : Wd} {F F' : FH} {s s' : Shared} {env : Env} {ρ : CE} {ad : Str -> Option Addr} {M : Addr -> Prop} {A : Around} {E : VP}
set_option tactic.hygienic false
theorem ac9 (vs : List Value) (v : Value) (n : Nat) : (vs.toArray.extract 0 n).push v ++ vs.toArray.extract n = (vs.take n ++ v :: vs.drop n).toArray := by
 simp
 rw [List.take_of_length_le (by simp)]
set_option tactic.hygienic true
theorem aj7 {k : MK} {o o' : CO} {c : CV} {cs : List CV} (h : mutC k o cs = some (c, o')) {a : Addr} (ho : OR W.prog W.w F s.heap o a) {vs : List Value} (hvs : RVs W.prog W.w F cs vs) {Q : VP}
 (hQ : ∀ v, RV W.prog W.w F c v -> TurnV W F s a o' v Q) : wpAny (model W.prog W.w) A (call (.builtin k.id) (.ref a :: vs)) Q E s := by
 cases o with
 | list xs =>
 unfold mutC at h
 cases k with
 | append =>
  dsimp only at h
  refine hid fun z2 => ?_
  split at h
  · rename_i d h1
    obtain rfl := aaO h1
    split at h
    · rename_i hle
      cases h
      have hle := Nat.le_of_ble_eq_true hle
      obtain ⟨u, r, rfl, hu, rfl⟩ := hvs
      obtain ⟨us, hp, q⟩ := ho.list_at
      refine z2 ?_
      refine wpAny_list_append_plain hp (fun h' hp' hb => hQ .none (rfl) h' s.toks hb (OR.ofList (vs := us ++ [u]) ?_ (q.append (.one hu)))) (by rw [List.size_toArray, q.len]; exact hle)
      rw [List.push_toArray] at hp'; exact hp'
    · exact aab h
  · exact aab h
 | pop =>
  dsimp only at h
  refine hid fun z3 => ?_
  split at h
  · rename_i d h1
    split at h
    · rename_i i h2
      obtain rfl := aaO h1; obtain rfl := aak h2
      split at h
      · rename_i j hk
        split at h
        · rename_i y hy
          split at h
          · rename_i hle
            cases h
            have hle := Nat.le_of_ble_eq_true hle
            obtain ⟨u, r, rfl, ⟨t, rfl⟩, rfl⟩ := hvs
            obtain ⟨us, hp, q⟩ := ho.list_at
            have e := q.len
            have hkk := abq hk
            obtain ⟨y', hy', ry⟩ := q.get hy
            have hfit : Builtin.List.listFitsIndex i = true := by
             unfold LIM at hle
             exact fitsIndex_both (by omega) (by omega)
            have hpu := abI hp fun xs => xs.eraseIdxIfInBounds j
            obtain ⟨n, hp0⟩ := hp
            refine z3 ?_
            refine call_meets PySem.F.slot_list_pop ⟨_, hp0, rfl⟩ PySem.F.entry_list_pop (PySem.F.args_list_pop_2 _ _) (MeetsSeq.list_pop_at a us.toArray n i t j y' hfit (by rw [List.size_toArray, e]; exact hk) (by simpa using hy') (by rw [List.size_toArray, e]; exact hle)) ⟨hp0, ?_⟩
            refine hQ y' ry _ s.toks (Heap.SameBut.update ..) (OR.ofList (vs := us.eraseIdx j) ?_ (q.erase _))
            rw [List.eraseIdxIfInBounds_toArray] at hpu; exact hpu
          · exact aab h
        · exact aab h
      · exact aab h
    · exact aab h
  · exact aab h
 | insert =>
  dsimp only at h
  split at h
  · rename_i d d2 h1
    split at h
    · rename_i i h2
      obtain rfl := acM h1; obtain rfl := aak h2
      split at h
      · rename_i hg
        cases h
        simp only [Bool.and_eq_true, decide_eq_true_eq] at hg
        have hle := Nat.le_of_ble_eq_true hg.1.1
        obtain ⟨u, r, rfl, ⟨t, rfl⟩, ⟨u2, _, rfl, hu, rfl⟩⟩ := hvs
        obtain ⟨us, hp, q⟩ := ho.list_at
        have e := q.len
        have hfit : Builtin.List.listFitsIndex i = true := by
         unfold LIM at hle
         exact fitsIndex_both (by omega) (by omega)
        have hpu := abI hp fun xs => have k := if i < 0 then (i + (xs.size : Int)).toNat else min i.toNat xs.size; (xs.extract 0 k).push u2 ++ xs.extract k
        obtain ⟨n, hp0⟩ := hp
        refine call_meets PySem.F.slot_list_insert ⟨_, hp0, rfl⟩ PySem.F.entry_list_insert (PySem.F.args_list_insert_3 _ _ _) (AutoSeq1.list_insert_list_int_val_1 a us.toArray n i t u2 (by rw [hfit]; decide) (by rw [List.size_toArray, e]; exact hle)) ⟨hp0, ?_⟩
        refine hQ .none (rfl) _ s.toks (Heap.SameBut.update ..) (OR.ofList (vs := us.take i.toNat ++ u2 :: us.drop i.toNat) ?_ ?_)
        · have hm : (if i < 0 then (i + (us.toArray.size : Int)).toNat else min i.toNat us.toArray.size) = i.toNat := by
           rw [if_neg (by omega), List.size_toArray, Nat.min_eq_left (by omega)]
          have e2 : (us.take i.toNat ++ u2 :: us.drop i.toNat).toArray = (us.toArray.extract 0 i.toNat).push u2 ++ us.toArray.extract i.toNat := (ac9 us u2 i.toNat).symm
          rw [e2]
          have e3 : (have k := if i < 0 then (i + (us.toArray.size : Int)).toNat else min i.toNat us.toArray.size; (us.toArray.extract 0 k).push u2 ++ us.toArray.extract k) = (us.toArray.extract 0 i.toNat).push u2 ++ us.toArray.extract i.toNat := by
           dsimp only
           rw [hm]
          rw [<- e3]
          exact hpu
        · refine (q.take _).append ?_
          exact ⟨u2, _, rfl, hu, q.drop _⟩
      · exact aab h
    · exact aab h
  · exact aab h
 | _ => exact aab h
set_option tactic.hygienic false
theorem aa7 {o : Expr} {m : Str} {whole : Sem Value} (h : baseOk o = true) : attributeBase o m env whole = whole := by
 cases o with
 | Call f as ks p =>
  rcases as with _ | ⟨a, as⟩
  · rcases ks with _ | ⟨k, ks⟩
    · cases h
    · cases f <;> rfl
  · cases f <;> rfl
 | _ => rfl
theorem aia {o : Expr} {m : Str} {apos pos : Pos} {args : List Expr} {Q : VP} (hok : methOk o args.length apos pos = true) (hplain : (backTo pos (starEach args env)).all (fun x => !x.1) = true)
 (h : wpAny (model W.prog W.w) A (eval o env) (fun ov s1 => ∃ k : MK, MethIs k m ov s1 ∧
  wpAny (model W.prog W.w) A (spliced (backTo pos (starEach args env))) (fun vs s2 => wpAny (model W.prog W.w) A (call (.builtin k.id) (ov :: vs)) Q E s2) E s1) E s) :
 wpAny (model W.prog W.w) A (eval (.Call (.Attribute o m apos) args [] pos) env) Q E s := by
 unfold methOk at hok
 simp only [Bool.and_eq_true, decide_eq_true_eq] at hok
 refine wpAny_Call_method_late (aa7 hok.1.1) ?_ hok.1.2 rfl (wpAny_mono h (fun ov s1 h1 => ?_) fun _ _ e => e)
 · rw [hplain]
   rw [show backToKw pos (keywordEach [] env) = [] from rfl]
   simp only [List.all_nil, Bool.and_self, List.length_nil, List.isEmpty_nil, if_true, Nat.add_zero, Bool.true_and, decide_eq_true_eq]
   exact hok.2
 · refine hid fun z0 => ?_
   obtain ⟨k, ⟨pa, slot, hty, hT, hd⟩, hc⟩ := h1
   refine z0 ?_
   refine ⟨k.ty, k.id, pa, slot, hty, hT, hd, ?_⟩
   have hany : (backTo pos (starEach args env)).any (·.1) = false := by
    rw [List.any_eq_false]
    intro x hx
    have := List.all_eq_true.mp hplain x hx
    simpa using this
   refine callWith_builtin hany ?_
   cases hb : backTo pos (starEach args env) with
   | nil =>
    rw [hb] at hc
    exact PySem.evalArgs_none (fun Γ p hΓ => by
     have q := hc Γ p hΓ
     simp only [spliced, Sem.wp_pure'] at q
     exact q Γ p hΓ)
   | cons p r =>
    rw [hb] at hc hplain
    obtain ⟨b, x⟩ := p
    simp only [List.all_cons, Bool.and_eq_true, Bool.not_eq_true'] at hplain
    obtain rfl := hplain.1
    exact evalArgs_plain (wpAny_mono hc (fun vs s2 h2 => h2) fun _ _ e => e)
end
noncomputable def bltV (x : Str) : Option Value := match x == nLen with
 | true => some (.builtin "len")
 | false => match x == nOrd with
  | true => some (.builtin "ord")
  | false => match x == nChr with
   | true => some (.builtin "chr")
   | false => match x == nSorted with
    | true => some (.builtin "sorted")
    | false => match x == nRange with
     | true => some (.type "range")
     | false => match x == nEnumerate with
      | true => some (.type "enumerate")
      | false => match x == nZip with
       | true => some (.type "zip")
       | false => match x == nList with
        | true => some (.type "list")
        | false => none
abbrev ArgsR (W : Wd) (F : FH) (h : Heap) : Option Nat -> Addr -> List CV -> List Value -> Prop
 | none, _, cs, vs => RVs W.prog W.w F cs vs
 | some 0, la, c :: cs, vs => ∃ o r, c = CO.cv o ∧ vs = .ref la :: r ∧ OR W.prog W.w F h o la ∧ RVs W.prog W.w F cs r
 | some (i + 1), la, c :: cs, vs => ∃ v r, vs = v :: r ∧ RV W.prog W.w F c v ∧ ArgsR W F h (some i) la cs r
 | some _, _, [], _ => False
set_option tactic.hygienic false
theorem ArgsR.of {W : Wd} {F : FH} {h : Heap} {la : Addr} {cs : List CV} {vs : List Value} (r : RVs W.prog W.w F cs vs) : ArgsR W F h none la cs vs := by cases cs <;> exact r
abbrev KwsR (W : Wd) (F : FH) : List (Str × CV) -> List (Str × Value) -> Prop
 | [], kws => kws = []
 | (n, c) :: cs, kws => ∃ v r, kws = (n, v) :: r ∧ RV W.prog W.w F c v ∧ KwsR W F cs r
def FunOK (W : Wd) (k : Nat) (f : FS) (a : Addr) : Prop :=
 (∃ o fd, W.F0 a = some o ∧ o.data = .func fd) ∧
 ∀ cs kvs c o', f.run cs kvs = some (c, o') -> ∀ (A : Around) (F : FH) (s : Shared) (la : Addr) (vs : List Value) (kws : List (Str × Value)), Room A k -> Inv W F s ->
  ArgsR W F s.heap f.bor la cs vs -> KwsR W F kvs kws -> (f.bor.isSome = true -> F la = none) -> ∀ (Q : VP) (E : VP),
  (∀ v F' s', Stp W (fun b => f.bor.isSome = true ∧ b = la) F F' s s' -> RV W.prog W.w F' c v -> (f.bor.isSome = true -> OR W.prog W.w F' s'.heap o' la ∧ F' la = none) -> Q v s') ->
  wpAny (model W.prog W.w) A (call (.ref a) vs kws) Q E s
structure GOK (W : Wd) (k : Nat) (G : GE) : Prop where
 tabs : ∀ t ∈ W.tabs, ∀ h : Heap, (∀ a o, W.F0 a = some o -> h.get? a = some o) -> PySem.W.CodeHd h t.1 t.2.1 ∧ h.BuiltinsAt W.mg t.2.1 ∧ mainGlobals ≠ t.2.1
 nolim : ∀ h : Heap, (∀ a o, W.F0 a = some o -> h.get? a = some o) -> h.NoLimit
 ns : ∀ h : Heap, (∀ a o, W.F0 a = some o -> h.get? a = some o) -> h.Ns mainGlobals W.mg ∧ h.Ns builtinsNs W.mb
 const : ∀ x c, G.glob x = some (.const c) -> ∃ v, W.mg x = some v ∧ RV W.prog W.w W.F0 c v
 blt : ∀ x, G.glob x = some .blt -> W.mg x = none ∧ W.mb x = bltV x
 fn : ∀ x f, G.glob x = some (.fn f) -> ∃ a, W.mg x = some (.ref a) ∧ FunOK W k f a
section
variable {W : Wd} {F F' : FH} {s s' : Shared} {env : Env} {ρ : CE} {ad : Str -> Option Addr} {M : Addr -> Prop} {A : Around} {E : VP} {G : GE} {k : Nat}
set_option tactic.hygienic false
theorem Inv.heap0 (I : Inv W F s) : ∀ a o, W.F0 a = some o -> s.heap.get? a = some o := fun a o e => I.frz a o (I.base a o e)
theorem aa4 {x : Str} (h : nameOk x = true) : (x == ("__debug__" : Str)) = false ∧ (x == ("__classdict__" : Str)) = false := by
 unfold nameOk at h
 simp only [Bool.and_eq_true, Bool.not_eq_true'] at h
 exact h
theorem agZ (hG : GOK W k G) (I : Inv W F s) (R : Rel W F s.heap env ρ ad) {x : Str} {p : Pos} {v : Value} (hk : ρ.kind x = some .globalImplicit) (hx : nameOk x = true) (hv : W.mg x = some v) {Q : VP} (h : Q v s) :
 wpAny (model W.prog W.w) A (eval (.Name x p) env) Q E s := by
 refine Name_function_global R.kind.fn (R.kind.glob x hk) ?_ (aa4 hx).1
 refine loadGlobal_global (mg := W.mg) ?_ hv h
 rw [R.kind.glo]
 exact (hG.ns _ I.heap0).1
theorem ai3 (hG : GOK W k G) (I : Inv W F s) (R : Rel W F s.heap env ρ ad) {x : Str} {p : Pos} {v : Value} (hk : ρ.kind x = some .globalImplicit) (hx : nameOk x = true) (hb : G.glob x = some .blt) (hv : bltV x = some v) {Q : VP} (h : Q v s) :
 wpAny (model W.prog W.w) A (eval (.Name x p) env) Q E s := by
 refine hid fun z0 => ?_
 obtain ⟨h1, h2⟩ := hG.blt x hb
 refine z0 ?_
 refine Name_function_global R.kind.fn (R.kind.glob x hk) ?_ (aa4 hx).1
 refine loadGlobal_builtin (mg := W.mg) (mb := W.mb) ?_ h1 ?_ (h2.trans hv) h
 · rw [R.kind.glo]; exact (hG.ns _ I.heap0).1
 · rw [R.kind.blt]; exact (hG.ns _ I.heap0).2
theorem adr {x : Str} (h : isBlt G ρ x = true) : ρ.kind x = some .globalImplicit ∧ G.glob x = some .blt := by
 unfold isBlt at h
 revert h
 generalize ρ.kind x = k
 generalize G.glob x = g
 intro h
 rcases k with _ | y
 · cases h
 cases y <;> first | (cases h; done) | skip
 rcases g with _ | y
 · first | (cases h; done) | exact ⟨rfl, rfl⟩
 cases y <;> first | (cases h; done) | exact ⟨rfl, rfl⟩
def EvPost (W : Wd) (env : Env) (ad : Str -> Option Addr) (F : FH) (s : Shared) (r : EV) (ρ' : CE) (Q : VP) : Prop :=
 ∀ v F' s' ad', Stp W (ownA ad) F F' s s' -> Rel W F' s'.heap env ρ' ad' -> (∀ x a, ad' x = some a -> ad x = some a) -> EVR W F' s'.heap env r v -> Q v s'
theorem EvPost.pv {c : CV} {Q : VP} (h : EvPost W env ad F s (.val c) ρ Q) (I : Inv W F s) (R : Rel W F s.heap env ρ ad) : PV W F s c Q :=
 fun v F' s' S r => h v F' s' ad (S.weaken fun _ q => q.elim) (R.keep0 I S) (fun _ _ e => e) r
theorem EvPost.step {r : EV} {ρ' : CE} {F1 : FH} {s1 : Shared} {ad1 : Str -> Option Addr} {Q : VP} (h : EvPost W env ad F s r ρ' Q) (S : Stp W (ownA ad) F F1 s s1) (sub : ∀ x a, ad1 x = some a -> ad x = some a) :
 EvPost W env ad1 F1 s1 r ρ' Q :=
 fun v F' s' ad' S' R' sub' r' => h v F' s' ad' (S.trans S' (aai sub)) R' (fun x a q => sub x a (sub' x a q)) r'
set_option tactic.hygienic true
theorem aj8 (hG : GOK W k G) {x : Str} {p : Pos} {r : EV} {ρ' : CE} (I : Inv W F s) (R : Rel W F s.heap env ρ ad) {Q : VP} (hx : nameOk x = true)
 (h : (match ρ.kind x with
  | some .globalImplicit => match G.glob x with
   | some (.const c) => some (.val c, ρ)
   | _ => none
  | k => match isVar k with
   | true => match ρ.get x with
    | some (.val c) => some (EV.val c, ρ)
    | some _ => some (.ref x, ρ)
    | none => none
   | false => none) = some (r, ρ')) (hQ : EvPost W env ad F s r ρ' Q) : wpAny (model W.prog W.w) A (eval (.Name x p) env) Q E s := by
 have hn := aa4 hx
 refine hid fun z0 => ?_
 split at h
 · rename_i hk
   split at h
   · rename_i c hc
     cases h
     obtain ⟨v, hv, rv⟩ := hG.const x c hc
     refine z0 ?_
     exact agZ hG I R hk hx hv (hQ v F s ad (.refl I) R (fun _ _ e => e) (RV.mono _ _ I.base _ _ rv))
   · cases h
 · split at h
   · cases hg : ρ.get x with
     | none => rw [hg] at h; cases h
     | some sl =>
      rw [hg] at h
      obtain ⟨v, hv, hs⟩ := R.var x sl hg
      refine z0 ?_
      refine wpAny_Name (adQ R.kind.fn hv ?_ hn.2) hn.1
      cases sl with
      | val c => cases h; exact hQ v F s ad (.refl I) R (fun _ _ e => e) hs
      | own c => cases h; exact hQ v F s ad (.refl I) R (fun _ _ e => e) hv
      | bor c => cases h; exact hQ v F s ad (.refl I) R (fun _ _ e => e) hv
   · cases h
set_option tactic.hygienic false
theorem aib {c : Const} {v : CV} {kd : Nat} {p : Pos} (h : constC c = some v) (I : Inv W F s) {Q : VP} (hQ : PV W F s v Q) : wpAny (model W.prog W.w) A (eval (.Constant c kd p) env) Q E s := by
 refine hid fun z0 => ?_
 cases c with
 | none => cases h; exact z0 (wpAny_pure (hQ.same I rfl))
 | bool _ => cases h; exact z0 (wpAny_pure (hQ.same I rfl))
 | int _ => cases h; exact z0 (wpAny_Constant_int (hQ.int I _ _))
 | str x => cases h; exact z0 (Constant_str (hQ.str (x := SS.of _) I _ _))
 | _ => exact aab h
theorem acY {S : SM} (H : EvOK W k S.ev) {op : BoolOp} {pos : Pos} : ∀ (es : List Expr) (ρ : CE) (r : EV) (ρ' : CE), S.boolOp op es ρ = some (r, ρ') ->
 ∀ (F : FH) (s : Shared) (ad : Str -> Option Addr), Room A k -> Inv W F s -> Rel W F s.heap env ρ ad -> ∀ (Q : VP), EvPost W env ad F s r ρ' Q ->
  wpAny (model W.prog W.w) A (boolOp pos op (evalEach es env)) Q E s
 | [], _, _, _, h, _, _, _, _, _, _, _, _ => by cases h
 | e :: [], ρ, r, ρ', h, F, s, ad, Rm, I, R, Q, hQ => H e ρ r ρ' h A env F s ad Rm I R Q E hQ
 | e :: e' :: es, ρ, r, ρ', h, F, s, ad, Rm, I, R, Q, hQ => by
  refine D.el (.opt2 (S.ev e ρ) fun a ρ => .opt (deref ρ a) fun c => .opt (truthC c) fun t => .raw (match op, t with | .And, false => some (a, ρ) | .Or, true => some (a, ρ) | _, _ => S.boolOp op (e' :: es) ρ)) h (C := fun r ρ' => EvPost W env ad F s r ρ' Q) hQ fun a ρ1 h1 c h2 t h3 z h hQ => ?_
  refine wpAny_bind (H e ρ a ρ1 h1 A env F s ad Rm I R _ _ fun v F1 s1 ad1 S1 R1 sub1 r1 => wpAny_bind (wpAny_standAt (wpAny_bind (wpAny_holding ?_))))
  refine afv h3 (abb R1 h2 r1) fun tk => ?_
  have S2 := Stp.toks S1.inv tk
  have R2 := R1.keep0 S1.inv S2
  have hr2 := EVR.step S1.inv R1 (S2.weaken (M' := ownA ad1) fun _ q => q.elim) r1
  have S12 : Stp W (ownA ad) F F1 s { s1 with toks := tk } := S1.trans S2 fun _ q => q.elim
  cases op <;> cases t
  · cases h; exact wpAny_pure (hQ v F1 _ ad1 S12 R2 sub1 hr2)
  · exact acY H (e' :: es) ρ1 z.1 z.2 h F1 _ ad1 Rm S2.inv R2 Q (hQ.step S12 sub1)
  · exact acY H (e' :: es) ρ1 z.1 z.2 h F1 _ ad1 Rm S2.inv R2 Q (hQ.step S12 sub1)
  · cases h; exact wpAny_pure (hQ v F1 _ ad1 S12 R2 sub1 hr2)
end
section
variable {W : Wd} {F F' : FH} {s s' : Shared} {env : Env} {ρ : CE} {ad : Str -> Option Addr} {M : Addr -> Prop} {A : Around} {E : VP} {G : GE} {k : Nat} {S : SM}
set_option tactic.hygienic false
theorem EvPost.pvAt {c : CV} {Q : VP} {ρ' : CE} {F1 : FH} {s1 : Shared} {ad1 : Str -> Option Addr} (h : EvPost W env ad F s (.val c) ρ' Q) (S : Stp W (ownA ad) F F1 s s1) (R1 : Rel W F1 s1.heap env ρ' ad1)
 (sub : ∀ x a, ad1 x = some a -> ad x = some a) : PV W F1 s1 c Q := EvPost.pv (h.step S sub) S.inv R1
theorem afV (H : EvOK W k S.ev) {l r : Expr} {op : CmpOp} {pos : Pos} {ρ' : CE} {a b : CV} {t : Bool} (hm : behindInMarks op r = false) (h : S.ev2 l r ρ = some (a, b, ρ')) (hc : cmpC op a b = some t) (Rm : Room A k) (hk : 20 ≤ k)
 (I : Inv W F s) (R : Rel W F s.heap env ρ ad) {Q : VP} (hQ : EvPost W env ad F s (.val (.bool t)) ρ' Q) : wpAny (model W.prog W.w) A (eval (.Compare l [op] [r] pos) env) Q E s := by
 refine wpAny_Compare1 (afs H h Rm I R fun v u F1 s1 ad1 S1 R1 sub1 hv hu => ?_) hm
 exact ai0 hc S1.inv (Rm.le hk) hv hu fun tk => (hQ.pvAt S1 R1 sub1).tk S1.inv (rfl) tk
theorem aic (H : EvOK W k S.ev) {l r : Expr} {op : Operator} {pos : Pos} {ρ' : CE} {a b c : CV} (h : S.ev2 l r ρ = some (a, b, ρ')) (hc : binC op a b = some c) (Rm : Room A k)
 (I : Inv W F s) (R : Rel W F s.heap env ρ ad) {Q : VP} (hQ : EvPost W env ad F s (.val c) ρ' Q) : wpAny (model W.prog W.w) A (eval (.BinOp l op r pos) env) Q E s := by
 refine wpAny_BinOp (afs H h Rm I R fun v u F1 s1 ad1 S1 R1 sub1 hv hu => ?_)
 exact amj hc S1.inv hv hu (hQ.pvAt S1 R1 sub1)
theorem aj9 (H : EvOK W k S.ev) {x : Expr} {op : UnaryOp} {pos : Pos} {ρ' : CE} {a c : CV} (h : S.ev x ρ = some (.val a, ρ')) (hc : negC op a = some c) (Rm : Room A k)
 (I : Inv W F s) (R : Rel W F s.heap env ρ ad) {Q : VP} (hQ : EvPost W env ad F s (.val c) ρ' Q) : wpAny (model W.prog W.w) A (eval (.UnaryOp op x pos) env) Q E s := by
 rw [arm_eval_UnaryOp]
 refine wpAny_bind (H x ρ _ ρ' h A env F s ad Rm I R _ _ fun v F1 s1 ad1 S1 R1 sub1 r1 => wpAny_bind (wpAny_standAt (wpAny_holding ?_)))
 exact amk hc S1.inv (.inl r1) (hQ.pvAt S1 R1 sub1)
theorem afW (H : EvOK W k S.ev) {l r : Expr} {pos : Pos} {ρ' : CE} {a b c : CV} (h : S.ev2 l r ρ = some (a, b, ρ')) (hc : subC a b = some c) (Rm : Room A k)
 (I : Inv W F s) (R : Rel W F s.heap env ρ ad) {Q : VP} (hQ : EvPost W env ad F s (.val c) ρ' Q) : wpAny (model W.prog W.w) A (eval (.Subscript l r pos) env) Q E s := by
 refine acg (afs H h Rm I R fun v u F1 s1 ad1 S1 R1 sub1 hv hu => ?_)
 exact ai2 hc S1.inv hv hu (hQ.pvAt S1 R1 sub1)
set_option tactic.hygienic true
theorem ag0 (H : EvOK W k S.ev) {e : Option Expr} {ρ' : CE} {o : Option Int} (h : S.oint e ρ = some (o, ρ')) (Rm : Room A k) (I : Inv W F s) (R : Rel W F s.heap env ρ ad) {Q : VP}
 (hQ : ∀ v F' s' ad', Stp W (ownA ad) F F' s s' -> Rel W F' s'.heap env ρ' ad' -> (∀ x a, ad' x = some a -> ad x = some a) -> PartIs v o -> Q v s') : wpAny (model W.prog W.w) A (evalPart e env) Q E s := by
 refine hid fun z0 => ?_
 cases e with
 | none => cases h; refine z0 ?_; exact wpAny_pure (hQ .none F s ad (.refl I) R (fun _ _ e => e) rfl)
 | some e =>
  unfold SM.oint at h
  dsimp only at h
  split at h
  · cases h
  · rename_i i ρ1 h1
    replace h1 := adA h1
    cases h
    refine z0 ?_
    rw [evalPart_some]
    refine H e ρ _ _ h1 A env F s ad Rm I R _ _ fun v F1 s1 ad1 S1 R1 sub1 r1 => hQ v F1 s1 ad1 S1 R1 sub1 ?_
    have r1 : RV W.prog W.w F1 (.int i) v := r1
    exact r1
set_option tactic.hygienic false
theorem aek (H : EvOK W k S.ev) {x : Expr} {lo hi : Option Expr} {p pos : Pos} {ρ1 ρ2 ρ' : CE} {a : EV} {l u : Option Int} {o c : CV} (h1 : S.ev x ρ = some (a, ρ1)) (h2 : S.oint lo ρ1 = some (l, ρ2))
 (h3 : S.oint hi ρ2 = some (u, ρ')) (h4 : deref ρ' a = some o) (hc : sliceC o l u = some c) (Rm : Room A k)
 (I : Inv W F s) (R : Rel W F s.heap env ρ ad) {Q : VP} (hQ : EvPost W env ad F s (.val c) ρ' Q) : wpAny (model W.prog W.w) A (eval (.Subscript x (.Slice lo hi none p) pos) env) Q E s := by
 refine acg (H x ρ _ _ h1 A env F s ad Rm I R _ _ fun v F1 s1 ad1 S1 R1 sub1 r1 => ?_)
 refine wpAny_Slice (ag0 H h2 Rm S1.inv R1 fun vl F2 s2 ad2 S2 R2 sub2 pl => ?_)
 refine ag0 H h3 Rm S2.inv R2 fun vu F3 s3 ad3 S3 R3 sub3 pu => ?_
 rw [evalPart_none]
 refine wpAny_pure ?_
 have r3 := EVR.step S2.inv R2 S3 (EVR.step S1.inv R1 S2 r1)
 have S12 : Stp W (ownA ad) F F2 s s2 := S1.trans S2 (aai sub1)
 have sub12 : ∀ x a, ad2 x = some a -> ad x = some a := fun x a q => sub1 x a (sub2 x a q)
 have S13 : Stp W (ownA ad) F F3 s s3 := S12.trans S3 (aai sub12)
 have sub13 : ∀ x a, ad3 x = some a -> ad x = some a := fun x a q => sub12 x a (sub3 x a q)
 exact acE hc S3.inv (abb R3 h4 r3) pl pu (hQ.pvAt S13 R3 sub13)
theorem abS {pos : Pos} (hst : ∀ x p ρ, S.ev (.Starred x p) ρ = none) : ∀ {es : List Expr} {ρ : CE} {as : List EV} {ρ' : CE}, S.evs es ρ = some (as, ρ') ->
 (backTo pos (starEach es env)).all (fun x => !x.1) = true := by
 intro es
 induction es with
 | nil => intros; rfl
 | cons e r ih =>
  intro ρ as ρ' h
  rw [aah (aiY hst h)]
  exact D.el (.opt2 (S.ev e ρ) fun a ρ => .opt2 (S.evs r ρ) fun as ρ => .ret (a :: as, ρ)) h (C := fun _ _ => True) trivial fun a ρ1 h1 as ρ2 h2 _ => ih h2
theorem ael (R : Rel W F s.heap env ρ ad) : ∀ {as : List EV} {cs : List CV} {vs : List Value}, derefs ρ as = some cs -> EVRs W F s.heap env as vs -> CvAts W F s.heap cs vs
 | [], cs, vs, h, hv => by cases h; exact hv
 | a :: as, cs, vs, h, ⟨v, r, e, hv, hr⟩ => D.el1 (.opt (deref ρ a) fun c => .opt (derefs ρ as) fun cs => .ret (c :: cs)) h (C := fun cs => CvAts W F s.heap cs vs -> _) id fun c h1 cs h2 k => k ⟨v, r, e, abb R h1 hv, ael R h2 hr⟩
theorem ag1 (I : Inv W F s) (R : Rel W F s.heap env ρ ad) {x : Str} {o o' : CO} {a : Addr} (h : ownOf (ρ.get x) = some o) (ha : ad x = some a) {h' : Heap} {tk : Nat} (hb : Heap.SameBut a s.heap h') (ho : OR W.prog W.w F h' o' a) :
 Stp W (ownA ad) F F s { s with heap := h', toks := tk } ∧ Rel W F h' env (ρ.set x (reown (ρ.get x) o')) ad := by
 refine hid fun z0 => ?_
 obtain ⟨_, q2, q3, _⟩ := R.own x a ha
 have S := Stp.turn I q2 q3 hb (let ⟨ob, e, _⟩ := OR.cls ho; ⟨ob, e⟩) tk
 refine z0 ?_
 exact ⟨S.weaken fun b e => .inl ⟨x, e ▸ ha⟩, aiX I R h ha S ho q2⟩
end
section
variable {W : Wd} {F F' : FH} {s s' : Shared} {env : Env} {ρ : CE} {ad : Str -> Option Addr} {M : Addr -> Prop} {A : Around} {E : VP} {G : GE} {k : Nat} {S : SM}
set_option tactic.hygienic false
theorem aka (H : EvOK W k S.ev) (hk : 20 ≤ k) (hst : ∀ x p ρ, S.ev (.Starred x p) ρ = none) {o : Expr} {m : Str} {args : List Expr} {apos pos : Pos} {r : EV} {ρ' : CE} (hok : methOk o args.length apos pos = true) (h : S.meth o m args ρ = some (r, ρ')) (Rm : Room A k)
 (I : Inv W F s) (R : Rel W F s.heap env ρ ad) {Q : VP} (hQ : EvPost W env ad F s r ρ' Q) : wpAny (model W.prog W.w) A (eval (.Call (.Attribute o m apos) args [] pos) env) Q E s := by
 unfold SM.meth at h
 refine hid fun z0 => ?_
 cases h1 : S.ev o ρ with
 | none => rw [h1] at h; cases h
 | some p =>
 obtain ⟨ov, ρ1⟩ := p
 rw [h1] at h
 dsimp only at h
 cases h2 : deref ρ1 ov with
 | none => rw [h2] at h; cases h
 | some c0 =>
 rw [h2] at h
 dsimp only at h
 cases h3 : mkindOf c0 m with
 | none => rw [h3] at h; cases h
 | some kd =>
 rw [h3] at h
 dsimp only at h
 cases h4 : S.evs args ρ1 with
 | none => rw [h4] at h; cases h
 | some p =>
 obtain ⟨avs, ρ2⟩ := p
 rw [h4] at h
 dsimp only at h
 refine z0 ?_
 refine aia hok (abS hst h4) (H o ρ ov ρ1 h1 A env F s ad Rm I R _ _ fun v F1 s1 ad1 S1 R1 sub1 r1 => ?_)
 refine ⟨kd, afU h3 S1.inv (abb R1 h2 r1), ?_⟩
 refine aeg H hst args ρ1 avs ρ2 h4 A env F1 s1 ad1 pos Rm S1.inv R1 _ _ fun vs F2 s2 ad2 S2 R2 sub2 r2 => ?_
 have q1 := EVR.step S1.inv R1 S2 r1
 have S12 : Stp W (ownA ad) F F2 s s2 := S1.trans S2 (aai sub1)
 have sub12 : ∀ x a, ad2 x = some a -> ad x = some a := fun x a q => sub1 x a (sub2 x a q)
 refine hid fun z1 => ?_
 cases hm : kd.isMut with
 | true =>
  rw [hm] at h
  dsimp only at h
  cases ov with
  | val c => cases h
  | ref x =>
  dsimp only at h
  cases h5 : freezes avs ρ2 with
  | none => rw [h5] at h; cases h
  | some p =>
  obtain ⟨cs, ρ3⟩ := p
  rw [h5] at h
  dsimp only at h
  obtain ⟨F3, ad3, S3, R3, sub3, r3⟩ := abk avs ρ2 cs ρ3 F2 ad2 h5 S2.inv R2 vs r2
  have q3 := EVR.step S2.inv R2 S3 q1
  cases h6 : ownAt ρ3 x with
  | none => rw [h6] at h; cases h
  | some ob =>
  rw [h6] at h
  dsimp only at h
  cases h7 : mutC kd ob cs with
  | none => rw [h7] at h; cases h
  | some p =>
  obtain ⟨c, o'⟩ := p
  rw [h7] at h
  dsimp only at h
  cases h
  have hown : ownOf (ρ3.get x) = some ob := h6
  obtain ⟨a, ha, hva, hor⟩ := acf R3 hown
  obtain rfl := VarIs.uniq q3 hva
  refine z1 ?_
  refine aj7 h7 hor r3 fun v hv h' tk hb ho => ?_
  obtain ⟨S4, R4⟩ := ag1 (tk := tk) S3.inv R3 hown ha hb ho
  have sub13 : ∀ x a, ad3 x = some a -> ad x = some a := fun x a q => sub12 x a (sub3 x a q)
  have S13 : Stp W (ownA ad) F F3 s s2 := S12.trans S3 (aai sub12)
  exact hQ v F3 _ ad3 (S13.trans S4 (aai sub13)) R4 sub13 (RV.mono _ _ S4.sub _ _ hv)
 | false =>
  rw [hm] at h
  dsimp only at h
  cases h5 : deref ρ2 ov with
  | none => rw [h5] at h; cases h
  | some oc =>
  cases h6 : derefs ρ2 avs with
  | none => rw [h5, h6] at h; cases h
  | some cs =>
  rw [h5, h6] at h
  dsimp only at h
  cases h7 : methC kd oc cs with
  | none => rw [h7] at h; cases h
  | some c =>
  rw [h7] at h
  cases h
  refine z1 ?_
  exact ah9 h7 S2.inv (Rm.le hk) (abb R2 h5 q1) (ael R2 h6 r2) (hQ.pvAt S12 R2 sub12)
def ItPost (W : Wd) (env : Env) (ad : Str -> Option Addr) (F : FH) (s : Shared) (b : Bool) (ρ' : CE) (Q : Bool -> Shared -> Prop) : Prop :=
 ∀ F' s' ad', Stp W (ownA ad) F F' s s' -> Rel W F' s'.heap env ρ' ad' -> (∀ x a, ad' x = some a -> ad x = some a) -> Q b s'
theorem ItPost.step {r : Bool} {ρ' : CE} {F1 : FH} {s1 : Shared} {ad1 : Str -> Option Addr} {Q : Bool -> Shared -> Prop} (h : ItPost W env ad F s r ρ' Q) (S : Stp W (ownA ad) F F1 s s1) (sub : ∀ x a, ad1 x = some a -> ad x = some a) :
 ItPost W env ad1 F1 s1 r ρ' Q :=
 fun F' s' ad' S' R' sub' => h F' s' ad' (S.trans S' (aai sub)) R' (fun x a q => sub x a (sub' x a q))
theorem aeV (H : ItOK W k S.it) {op : BoolOp} : ∀ (es : List Expr) (ρ : CE) (b : Bool) (ρ' : CE), S.allT op es ρ = some (b, ρ') ->
 ∀ (F : FH) (s : Shared) (ad : Str -> Option Addr), Room A k -> Inv W F s -> Rel W F s.heap env ρ ad -> ∀ (Q : Bool -> Shared -> Prop), ItPost W env ad F s b ρ' Q ->
  wpAny (model W.prog W.w) A (allTrue op es env) Q E s
 | [], ρ, b, ρ', h, F, s, ad, Rm, I, R, Q, hQ => by
  cases h
  have := hQ F s ad (.refl I) R (fun _ _ e => e)
  cases op <;> exact wpAny_pure this
 | e :: es, ρ, b, ρ', h, F, s, ad, Rm, I, R, Q, hQ => by
  refine D.el (.opt2 (S.it e ρ) fun t ρ => .raw (match op, t with | .And, false => some (false, ρ) | .Or, true => some (true, ρ) | _, _ => S.allT op es ρ)) h (C := fun b ρ' => ItPost W env ad F s b ρ' Q) hQ fun t ρ1 h1 r h hQ => ?_
  refine wpAny_bind (H e ρ t ρ1 h1 A env F s ad Rm I R _ _ fun F1 s1 ad1 S1 R1 sub1 => ?_)
  cases op <;> cases t
  · cases h; exact wpAny_pure (hQ F1 _ ad1 S1 R1 sub1)
  · exact aeV H es ρ1 r.1 r.2 h F1 _ ad1 Rm S1.inv R1 Q (hQ.step S1 sub1)
  · exact aeV H es ρ1 r.1 r.2 h F1 _ ad1 Rm S1.inv R1 Q (hQ.step S1 sub1)
  · cases h; exact wpAny_pure (hQ F1 _ ad1 S1 R1 sub1)
set_option tactic.hygienic true
theorem ag2 (H : SmOK W k S) (hk : 20 ≤ k) : ItOK W k (itStep S) := by
 intro e ρ b ρ' h A env F s ad Rm I R Q E hQ
 have plain : ∀ (e : Expr), isTrue e env (eval e env) = (do let v <- eval e env; standAt e.pos; holding [v] (truthy v)) -> (match S.evd e ρ with
  | some (c, ρ) => match truthC c with
   | some t => some (t, ρ)
   | none => none
  | none => none) = some (b, ρ') -> wpAny (model W.prog W.w) A (isTrue e env (eval e env)) Q E s := by
  intro e he h
  refine hid fun z0 => ?_
  cases h1 : S.evd e ρ with
  | none => rw [h1] at h; cases h
  | some p =>
   obtain ⟨c, ρ1⟩ := p
   rw [h1] at h
   dsimp only at h
   cases h2 : truthC c with
   | none => rw [h2] at h; cases h
   | some t =>
    rw [h2] at h
    cases h
    refine z0 ?_
    refine isTrue_plain (agV H.ev h1 Rm I R fun v F1 s1 ad1 S1 R1 sub1 hv => ?_) he
    refine afv h2 hv fun tk => ?_
    have S2 := Stp.toks S1.inv tk
    exact hQ F1 _ ad1 (S1.trans S2 fun _ q => q.elim) (R1.keep0 S1.inv S2) sub1
 cases e with
 | UnaryOp op x pos =>
  refine hid fun z2 => ?_
  cases op with
  | Not =>
   have h : (match S.it x ρ with | some (b, ρ) => some (!b, ρ) | none => none) = some (b, ρ') := h
   cases h1 : S.it x ρ with
   | none => rw [h1] at h; exact aab h
   | some p =>
    obtain ⟨t, ρ1⟩ := p
    rw [h1] at h
    cases h
    refine z2 ?_
    exact wpAny_isTrue_Not (H.it x ρ t _ h1 A env F s ad Rm I R _ _ hQ)
  | _ => exact aab h
 | BoolOp op es p => exact wpAny_isTrue_BoolOp (aeV H.it _ _ _ _ h F s ad Rm I R Q hQ)
 | IfExp _ _ _ _ => exact aab h
 | Compare l ops rs pos =>
  unfold itStep at h
  dsimp only at h
  refine hid fun z3 => ?_
  split at h
  · rename_i op r e1 e2
    obtain rfl := aaO e1; obtain rfl := aaO e2
    split at h
    · exact aab h
    · rename_i hm
      split at h
      · rename_i a c ρ1 h1
        split at h
        · rename_i t h2
          cases h
          refine z3 ?_
          refine wpAny_isTrue_Compare1 (afs H.ev h1 Rm I R fun v u F1 s1 ad1 S1 R1 sub1 hv hu => ?_) hm
          refine ai0 h2 S1.inv (Rm.le hk) hv hu fun tk => wpAny_truthy_bool ?_
          have S2 := Stp.toks S1.inv tk
          exact hQ F1 _ ad1 (S1.trans S2 fun _ q => q.elim) (R1.keep0 S1.inv S2) sub1
        · exact aab h
      · exact aab h
  · exact aab h
 | _ => exact plain _ rfl h
end
section
variable {W : Wd} {F F' : FH} {s s' : Shared} {env : Env} {ρ : CE} {ad : Str -> Option Addr} {M : Addr -> Prop} {A : Around} {E : VP} {G : GE} {k : Nat} {S : SM}
def MkPost (W : Wd) (env : Env) (ad : Str -> Option Addr) (F : FH) (s : Shared) (o : CO) (ρ' : CE) (Q : VP) : Prop :=
 ∀ a F' s' ad', Stp W (ownA ad) F F' s s' -> Rel W F' s'.heap env ρ' ad' -> (∀ x a, ad' x = some a -> ad x = some a) -> OR W.prog W.w F' s'.heap o a -> F' a = none -> Fre s.heap a -> Q (.ref a) s'
set_option tactic.hygienic false
theorem MkPost.made {o : CO} {ρ' : CE} {F1 : FH} {s1 : Shared} {ad1 : Str -> Option Addr} {Q : VP} (h : MkPost W env ad F s o ρ' Q) (S1 : Stp W (ownA ad) F F1 s s1) (R1 : Rel W F1 s1.heap env ρ' ad1)
 (sub : ∀ x a, ad1 x = some a -> ad x = some a) {h' : Heap} {a : Addr} {tk : Nat} (hk : ∀ b o, s1.heap.get? b = some o -> h'.get? b = some o) (ha : Fre s1.heap a)
 (ho : OR W.prog W.w F1 h' o a) : Q (.ref a) { s1 with heap := h', toks := tk } := by
 have S2 := Stp.ofKeep (tk := tk) S1.inv hk
 exact h a F1 _ ad1 (S1.trans S2 fun _ q => q.elim) (R1.keep0 S1.inv S2) sub ho (S1.inv.fresh ha) (S1.back ha)
theorem MkPost.step {o : CO} {ρ' : CE} {F1 : FH} {s1 : Shared} {ad1 : Str -> Option Addr} {Q : VP} (h : MkPost W env ad F s o ρ' Q) (S : Stp W (ownA ad) F F1 s s1) (sub : ∀ x a, ad1 x = some a -> ad x = some a) :
 MkPost W env ad1 F1 s1 o ρ' Q :=
 fun a F' s' ad' S' R' sub' ho hF ha => h a F' s' ad' (S.trans S' (aai sub)) R' (fun x a q => sub x a (sub' x a q)) ho hF (S.back ha)
theorem aar {h : Heap} (o : Obj) : ∀ b ob, h.get? b = some ob -> (h.push o).get? b = some ob := fun _ _ e => Heap.get?_push_of_some _ e
theorem aem (h : Heap) (o : Obj) : h.objs.size ≤ (h.push o).objs.size := by rw [Heap.size_push]; exact Nat.le_succ _
theorem OR.pushed {xs : List CV} {vs : List Value} (h : Heap) (n : Nat) (r : RVs W.prog W.w F xs vs) : OR W.prog W.w F (h.push { cls := .type "list", data := .seq vs.toArray n }) (.list xs) h.objs.size :=
 OR.ofList ⟨n, Heap.get?_push_size _ rfl⟩ r
theorem ag3 {cs : List CV} {vs : List Value} (r : RVs W.prog W.w F cs vs) (h : Nat.ble cs.length LIM = true) : vs.length ≤ sizeLine := by rw [r.len]; exact Nat.le_of_ble_eq_true h
theorem akb (H : EvOK W k S.ev) (hst : ∀ x p ρ, S.ev (.Starred x p) ρ = none) {es : List Expr} {pos : Pos} {avs : List EV} {ρ1 ρ' : CE} {cs : List CV} (h1 : S.evs es ρ = some (avs, ρ1)) (h2 : freezes avs ρ1 = some (cs, ρ'))
 (hle : Nat.ble cs.length LIM = true) (Rm : Room A k) (I : Inv W F s) (R : Rel W F s.heap env ρ ad) {Q : VP} (hQ : MkPost W env ad F s (.list cs) ρ' Q) : wpAny (model W.prog W.w) A (eval (.List es pos) env) Q E s := by
 refine wpAny_List (aeg H hst es ρ avs ρ1 h1 A env F s ad pos Rm I R _ _ fun vs F1 s1 ad1 S1 R1 sub1 r1 => ?_)
 obtain ⟨F2, ad2, S2, R2, sub2, r2⟩ := abk avs ρ1 cs ρ' F1 ad1 h2 S1.inv R1 vs r1
 refine ⟨ag3 r2 hle, ?_⟩
 exact (hQ.step S1 sub1).made S2 R2 sub2 (tk := s1.toks) (aar _) (Fre.size _ (Nat.le_refl _)) (OR.pushed _ 0 r2)
theorem adT {f : Value} (hf : keeperOf f = pure .machine) {pos : Pos} {x : Sem Value} {args : List (Bool × Sem Value)} {Q : VP} (hplain : ((false, x) :: args).any (·.1) = false)
 (h : wpAny (model W.prog W.w) A (spliced ((false, x) :: args)) (fun vs s1 => wpAny (model W.prog W.w) A (call f vs) Q E s1) E s) :
 wpAny (model W.prog W.w) A (callWith pos f [] ((false, x) :: args) []) Q E s := by
 unfold callWith
 refine wpAny_bind (wpAny_holding (evalArgs_plain (wpAny_mono h (fun vs s1 h1 => wpAny_bind (wpAny_standAt ?_)) fun _ _ x => x)))
 refine wpAny_bind ?_
 rw [hf]
 refine wpAny_pure ?_
 rw [hplain]
 exact wpAny_bind (wpAny_mono h1 (fun r s2 hr => wpAny_bind (wpAny_holding (wpAny_point (wpAny_pure hr)))) fun _ _ x => x)
theorem ads {pos : Pos} {e : Expr} {r : List Expr} (hplain : (backTo pos (starEach (e :: r) env)).all (fun x => !x.1) = true) :
 ∃ q t, backTo pos (starEach (e :: r) env) = (false, q) :: t ∧ ((false, q) :: t).any (·.1) = false := by
 have hany : (backTo pos (starEach (e :: r) env)).any (·.1) = false := by
  rw [List.any_eq_false]
  intro x hx
  have := List.all_eq_true.mp hplain x hx
  simpa using this
 cases hb : backTo pos (starEach (e :: r) env) with
 | nil =>
  have : (backTo pos (starEach (e :: r) env)).length = 0 := by rw [hb]; rfl
  unfold backTo at this
  rw [List.length_map] at this
  cases e <;> cases this
 | cons p t =>
  obtain ⟨b, q⟩ := p
  rw [hb] at hplain hany
  simp only [List.all_cons, Bool.and_eq_true, Bool.not_eq_true'] at hplain
  obtain rfl := hplain.1
  exact ⟨q, t, rfl, hany⟩
theorem abT (hG : GOK W k G) {f : Str} {p pos : Pos} {e : Expr} {r : List Expr} {id : Value} (hid : keeperOf id = pure .machine) (hb : isBlt G ρ f = true) (hn : nameOk f = true) (hv : bltV f = some id)
 (I : Inv W F s) (R : Rel W F s.heap env ρ ad) (hplain : (backTo pos (starEach (e :: r) env)).all (fun x => !x.1) = true) {Q : VP}
 (h : wpAny (model W.prog W.w) A (spliced (backTo pos (starEach (e :: r) env))) (fun vs s2 => wpAny (model W.prog W.w) A (call id vs) Q E s2) E s) :
 wpAny (model W.prog W.w) A (eval (.Call (.Name f p) (e :: r) [] pos) env) Q E s := by
 obtain ⟨h1, h2⟩ := adr hb
 refine wpAny_Call_Name_kw (ai3 hG I R h1 hn h2 hv ?_)
 obtain ⟨q, t, hqt, hany⟩ := ads hplain
 rw [hqt] at h ⊢
 exact adT hid hany h
theorem akc (H : EvOK W k S.ev) (hst : ∀ x p ρ, S.ev (.Starred x p) ρ = none) {e : Expr} {pos : Pos} {ρ' : CE} {c : CV} (h : S.evd e ρ = some (c, ρ')) (Rm : Room A k) (I : Inv W F s) (R : Rel W F s.heap env ρ ad)
 {Q : List Value -> Shared -> Prop}
 (hQ : ∀ v F' s' ad', Stp W (ownA ad) F F' s s' -> Rel W F' s'.heap env ρ' ad' -> (∀ x a, ad' x = some a -> ad x = some a) -> CvAt W F' s'.heap c v -> Q [v] s') :
 (backTo pos (starEach [e] env)).all (fun x => !x.1) = true ∧ wpAny (model W.prog W.w) A (spliced (backTo pos (starEach [e] env))) Q E s := by
 have hne : ∀ x p, e ≠ .Starred x p := fun x p q => by unfold SM.evd at h; rw [q, hst] at h; cases h
 rw [aah hne]
 refine ⟨rfl, ?_⟩
 exact aap (agV H h Rm I R fun v F1 s1 ad1 S1 R1 sub1 hv => aao (hQ v F1 s1 ad1 S1 R1 sub1 hv))
set_option tactic.hygienic true
theorem akd {f : Str} {c r : CV} {id : Value} (h : bltC f c = some r) (hv : bltV f = some id) (I : Inv W F s) {v : Value} (hc : CvAt W F s.heap c v) {Q : VP} (hQ : PV W F s r Q) :
 keeperOf id = pure .machine ∧ wpAny (model W.prog W.w) A (call id [v]) Q E s := by
 unfold bltC at h
 unfold bltV at hv
 split at h
 · rename_i hf
   rw [hf] at hv
   cases hv
   refine ⟨rfl, ?_⟩
   unfold lenC at h
   split at h
   · rename_i n hn
     split at h
     · rename_i hle
       cases h
       simp only [decide_eq_true_eq] at hle
       split at hn
       · cases hn
         obtain ⟨a, ob, vs, rfl, e, l, q⟩ := aaM I hc
         refine call_len_list (l.isList e) (by rw [List.size_toArray, q.len]; omega) ?_
         rw [List.size_toArray, q.len]
         exact hQ.int I _ _
       · cases hn
         obtain ⟨t, rfl⟩ := aaK hc
         exact P.len_str (by omega) (hQ.int I _ _)
       · cases hn
     · cases h
   · cases h
 · rename_i hf
   rw [hf] at hv
   dsimp only at hv
   split at h
   · rename_i hf2
     rw [hf2] at hv
     cases hv
     refine ⟨rfl, ?_⟩
     split at h
     · rename_i x
       split at h
       · rename_i n hn
         cases h
         obtain ⟨t, rfl⟩ := aaK hc
         have e : x.s = ⟨#[n]⟩ := by
          obtain ⟨⟨l⟩, b, hb⟩ := x
          simp only at hn
          have e : l = #[n] := Array.toList_inj.mp hn
          subst e; rfl
         rw [e]
         exact P.ord_of_char (hQ.int I _ _)
       · cases h
     · cases h
   · rename_i hf2
     rw [hf2] at hv
     dsimp only at hv
     split at h
     · rename_i hf3
       rw [hf3] at hv
       cases hv
       refine ⟨rfl, ?_⟩
       split at h
       · rename_i n
         split at h
         · rename_i hle
           cases h
           obtain ⟨t, rfl⟩ := aaP hc
           simp only [Bool.or_eq_true, Bool.and_eq_true] at hle
           refine P.chr_of_int ?_ ?_
           · simp only [Int.ofNat_eq_natCast, Bool.or_eq_false_iff, decide_eq_false_iff_not]
             rcases hle with h1 | ⟨_, h1⟩ <;> have := Nat.le_of_ble_eq_true h1 <;> lia
           · exact hQ.str (x := ⟨⟨#[n]⟩, 1, Nat.le_refl 1⟩) I _ _
         · cases h
       · cases h
     · cases h
end
section
variable {W : Wd} {F F' : FH} {s s' : Shared} {env : Env} {ρ : CE} {ad : Str -> Option Addr} {M : Addr -> Prop} {A : Around} {E : VP} {G : GE} {k : Nat} {S : SM}
set_option tactic.hygienic false
theorem aci {i : Int} (h : small i = true) : -1000000 ≤ i ∧ i ≤ 1000000 := by
 unfold small at h
 simpa only [Bool.and_eq_true, decide_eq_true_eq] using h
theorem afx (H : EvOK W k S.ev) (hst : ∀ x p ρ, S.ev (.Starred x p) ρ = none) {e : Expr} {es : List Expr} {pos : Pos} {ρ' : CE} {r : EV} (h : S.ev e ρ = some (r, ρ')) (Rm : Room A k) (I : Inv W F s) (R : Rel W F s.heap env ρ ad)
 {Q : List Value -> Shared -> Prop}
 (hQ : ∀ v F' s' ad', Stp W (ownA ad) F F' s s' -> Rel W F' s'.heap env ρ' ad' -> (∀ x a, ad' x = some a -> ad x = some a) -> EVR W F' s'.heap env r v ->
  wpAny (model W.prog W.w) A (spliced (backTo pos (starEach es env))) (fun vs s2 => Q (v :: vs) s2) E s') :
 wpAny (model W.prog W.w) A (spliced (backTo pos (starEach (e :: es) env))) Q E s := by
 have hne : ∀ x p, e ≠ .Starred x p := fun x p q => by rw [q, hst] at h; cases h
 rw [aah hne]
 exact aap (H e ρ r ρ' h A env F s ad Rm I R _ _ hQ)
set_option tactic.hygienic true
theorem afy (H : EvOK W k S.ev) (hst : ∀ x p ρ, S.ev (.Starred x p) ρ = none) (hG : GOK W k G) {f : Str} {p pos : Pos} {args : List Expr} {a b : Int} {ρ' : CE} (hb : isBlt G ρ f = true) (hf : (f == nRange) = true)
 (h : S.range args ρ = some (a, b, ρ')) (Rm : Room A k) (I : Inv W F s) (R : Rel W F s.heap env ρ ad) {Q : VP}
 (hQ : ∀ r t u v F' s' ad', Stp W (ownA ad) F F' s s' -> Rel W F' s'.heap env ρ' ad' -> (∀ x a, ad' x = some a -> ad x = some a) -> IsRange s'.heap r a b 1 t u v -> Fre s.heap r -> small a = true -> small b = true -> Q (.ref r) s') :
 wpAny (model W.prog W.w) A (eval (.Call (.Name f p) args [] pos) env) Q E s := by
 refine hid fun z0 => ?_
 obtain rfl := beq_iff_eq.mp hf
 have h0 : small 0 = true := by decide
 unfold SM.range at h
 rcases args with _ | ⟨e, args⟩
 · exact aab h
 dsimp only at h
 split at h
 · exact aab h
 rename_i x ρ1 h1
 replace h1 := adA h1
 rcases args with _ | ⟨e', args⟩
 · dsimp only at h
   split at h
   · rename_i hs
     cases h
     have hp := abS (env := env) (pos := pos) hst (es := [e]) (ρ := ρ) (as := [.val (.int b)]) (ρ' := ρ') (abl h1 rfl)
     refine z0 ?_
     refine abT hG (id := .type "range") rfl hb (by decide) (by decide) I R hp (afx H hst h1 Rm I R fun v F1 s1 ad1 S1 R1 sub1 r1 => aao ?_)
     have r1 : RV W.prog W.w F1 (.int b) v := r1
     obtain ⟨t, rfl⟩ := r1
     refine call_range_1 ?_
     have S2 := Stp.ofKeep (tk := s1.toks + 1 + 1) S1.inv (h' := s1.heap.push { cls := .type "range", data := .fields #[.int 0 s1.toks, .int b t, .int 1 (s1.toks + 1)] }) (aar _)
     exact hQ _ _ _ _ F1 _ ad1 (S1.trans S2 fun _ q => q.elim) (R1.keep0 S1.inv S2) sub1 (Heap.get?_push_size _ rfl) (S1.back (Fre.size _ (Nat.le_refl _))) h0 hs
   · exact aab h
 · dsimp only at h
   split at h
   · exact aab h
   rename_i y ρ2 h2
   replace h2 := adA h2
   split at h
   · rename_i hs
     simp only [Bool.and_eq_true] at hs
     obtain rfl := List.isEmpty_iff.mp hs.2
     cases h
     have hp := abS (env := env) (pos := pos) hst (es := [e, e']) (ρ := ρ) (as := [.val (.int a), .val (.int b)]) (ρ' := ρ') (abl h1 (abl h2 rfl))
     refine z0 ?_
     refine abT hG (id := .type "range") rfl hb (by decide) (by decide) I R hp (afx H hst h1 Rm I R fun v F1 s1 ad1 S1 R1 sub1 r1 => ?_)
     refine afx H hst h2 Rm S1.inv R1 fun v' F2 s2 ad2 S2 R2 sub2 r2 => aao ?_
     have r1 : RV W.prog W.w F1 (.int a) v := r1
     obtain ⟨t, rfl⟩ := r1
     have r2 : RV W.prog W.w F2 (.int b) v' := r2
     refine hid fun z3 => ?_
     obtain ⟨t', rfl⟩ := r2
     refine z3 ?_
     refine call_range_2 ?_
     have S3 := Stp.ofKeep (tk := s2.toks + 1) S2.inv (h' := s2.heap.push { cls := .type "range", data := .fields #[.int a t, .int b t', .int 1 s2.toks] }) (aar _)
     have S12 := S1.trans S2 (aai sub1)
     exact hQ _ _ _ _ F2 _ ad2 (S12.trans S3 fun _ q => q.elim) (R2.keep0 S2.inv S3) (fun x a q => sub1 x a (sub2 x a q)) (Heap.get?_push_size _ rfl) (S12.back (Fre.size _ (Nat.le_refl _))) hs.1.1 hs.1.2
   · exact aab h
set_option tactic.hygienic false
theorem abr (a b : Int) : Builtin.Range.rangeSize a b 1 = ((b - a).toNat : Int) := by
 unfold Builtin.Range.rangeSize
 rw [if_pos (by decide)]
 split <;> lia
theorem acZ {a b : Int} (ha : small a = true) (hb : small b = true) : Builtin.Range.small a b 1 = true := by
 have h1 := aci ha
 have h2 := aci hb
 unfold Builtin.Range.small
 rw [abr]
 simp only [Builtin.Range.rangeFitsLong, Bool.and_eq_true, Bool.or_eq_true, decide_eq_true_eq, beq_iff_eq, show (1 : Int) > 0 by decide, if_true]
 omega
theorem ac0 {a : Int} : ∀ {n : Nat} {vs : List Value} {o : Nat}, vs.length = n -> (∀ i v, vs[i]? = some v -> ∃ t, v = Value.int (a + ((o + i : Nat) : Int)) t) ->
 RVs W.prog W.w F ((List.range' o n).map fun (i : Nat) => CV.int (a + (i : Int))) vs
 | 0, vs, o, hl, _ => by
  have : vs = [] := List.length_eq_zero_iff.mp hl
  subst this
  simp
 | n + 1, [], o, hl, _ => by cases hl
 | n + 1, v :: vs, o, hl, h => by
  simp only [List.range'_succ, List.map_cons]
  obtain ⟨t, e⟩ := h 0 v rfl
  refine ⟨v, vs, rfl, ⟨t, by simpa using e⟩, ac0 (by simpa using hl) fun i u hu => ?_⟩
  obtain ⟨t, e⟩ := h (i + 1) u (by simpa using hu)
  exact ⟨t, by rw [e]; congr 2; lia⟩
theorem aid (H : EvOK W k S.ev) (hst : ∀ x p ρ, S.ev (.Starred x p) ρ = none) (hG : GOK W k G) {f g : Str} {p pos p' pos' : Pos} {args : List Expr} {a b : Int} {ρ' : CE} (hb : isBlt G ρ f = true) (hf : (f == nList) = true)
 (hb' : isBlt G ρ g = true) (hg : (g == nRange) = true)
 (h : S.range args ρ = some (a, b, ρ')) (Rm : Room A k) (I : Inv W F s) (R : Rel W F s.heap env ρ ad) {Q : VP} (hQ : MkPost W env ad F s (.list (rangeC a b)) ρ' Q) :
 wpAny (model W.prog W.w) A (eval (.Call (.Name f p) [.Call (.Name g p') args [] pos'] [] pos) env) Q E s := by
 obtain rfl := beq_iff_eq.mp hf
 refine abT hG (id := .type "list") rfl hb (by decide) (by decide) I R rfl ?_
 refine aap (afy H hst hG hb' hg h Rm I R fun r t u v F1 s1 ad1 S1 R1 sub1 hr hrs ha hbs => aao ?_)
 have hsz := abr a b
 have h1 := aci ha
 have h2 := aci hbs
 refine call_list_range Rm.hh hr (acZ ha hbs) hsz (by omega) fun h' tk acc' c' hk hn hit => ?_
 refine hQ.made S1 R1 sub1 hk (Fre.size _ (Nat.le_refl _)) (OR.ofList (vs := acc'.toList) ⟨c', by simpa using hn⟩ ?_)
 unfold rangeC
 rw [List.range_eq_range']
 refine ac0 (by simpa using hit.1) fun i v hv => ?_
 obtain ⟨t, e⟩ := hit.2 i v (by simpa using hv)
 exact ⟨t, by rw [e]; congr 1⟩
theorem RVs.ofStrs : ∀ (l : List Str) (tk : Nat), RVs W.prog W.w F (l.map fun p => CV.str (SS.pad p)) (strsFrom tk l)
 | [], _ => by simp [strsFrom]
 | x :: r, tk => by simp only [List.map_cons, strsFrom, RVs, RV, SS.pad_s]; exact ⟨_, _, rfl, ⟨_, rfl⟩, RVs.ofStrs r _⟩
theorem afX {x : SS} {y : Str} {t u : Tok} {Q : VP} (hle : Nat.ble (x.b + 2) LIM = true) (hy : (y.length == 0) = false)
 (h : ∀ vs tk, RVs W.prog W.w F (splitC x y) vs -> Q (.ref s.heap.objs.size) { s with heap := s.heap.push { cls := .type "list", data := .seq vs.toArray }, toks := tk }) :
 wpAny (model W.prog W.w) A (call (.builtin "str.split") [.str x.s t, .str y u]) Q E s := by
 have hle := Nat.le_of_ble_eq_true hle
 have hx := x.h
 have hxs : x.s.length ≤ sizeLine := by show x.s.length ≤ 16777216; unfold LIM at hle; lia
 have hlen := split_le x.s y
 unfold splitC at h
 unfold Txt.split at h hlen
 refine hid fun z0 => ?_
 cases h1 : (decide (x.s.length < y.length) || decide (Builtin.Str.strKind x.s < Builtin.Str.strKind y)) with
 | true =>
  rw [if_pos h1] at h
  refine z0 ?_
  exact call_meets PySem.F.slot_str_split (typeIs_str _ _ _) PySem.F.entry_str_split (PySem.F.args_str_split_2 _ _) (meets_str_split_cannot_occur x.s y t u h1)
   (h [.str x.s t] s.toks (by simp only [List.map_cons, List.map_nil, RVs, RV, SS.pad_s]; exact ⟨_, _, rfl, ⟨_, rfl⟩, rfl⟩))
 | false =>
  rw [if_neg (ne_true_of_eq_false h1)] at h hlen
  cases hf : (Builtin.Str.occurrences x.s y 0 x.s.length (x.s.length + 1)).isEmpty with
  | true =>
   rw [if_pos hf] at h
   refine z0 ?_
   exact call_meets PySem.F.slot_str_split (typeIs_str _ _ _) PySem.F.entry_str_split (PySem.F.args_str_split_2 _ _) (meets_str_split_not_found x.s y t u h1 hy hf)
    (h [.str x.s t] s.toks (by simp only [List.map_cons, List.map_nil, RVs, RV, SS.pad_s]; exact ⟨_, _, rfl, ⟨_, rfl⟩, rfl⟩))
  | false =>
   rw [if_neg (ne_true_of_eq_false hf)] at h hlen
   refine z0 ?_
   exact call_meets PySem.F.slot_str_split (typeIs_str _ _ _) PySem.F.entry_str_split (PySem.F.args_str_split_2 _ _)
    (meets_str_split_sep x.s y t u h1 hy hf hxs (by show _ ≤ 16777216; unfold LIM at hle; lia)) (h _ _ (RVs.ofStrs _ _))
set_option tactic.hygienic true
theorem aie (H : EvOK W k S.ev) (hst : ∀ x p ρ, S.ev (.Starred x p) ρ = none) {o e : Expr} {m : Str} {apos pos : Pos} {x y : SS} {ρ' : CE} (hm : (m == nSplit) = true) (hok : methOk o 1 apos pos = true)
 (h : S.evv2 o e ρ = some (.str x, .str y, ρ')) (hle : (Nat.ble (x.b + 2) LIM && !(y.s.length == 0)) = true) (Rm : Room A k) (I : Inv W F s) (R : Rel W F s.heap env ρ ad) {Q : VP} (hQ : MkPost W env ad F s (.list (splitC x y.s)) ρ' Q) :
 wpAny (model W.prog W.w) A (eval (.Call (.Attribute o m apos) [e] [] pos) env) Q E s := by
 refine hid fun z0 => ?_
 obtain rfl := beq_iff_eq.mp hm
 simp only [Bool.and_eq_true, Bool.not_eq_true'] at hle
 unfold SM.evv2 at h
 split at h
 · rename_i a ρ1 h1
   split at h
   · rename_i b ρ2 h2
     cases h
     unfold methOk at hok
     simp only [Bool.and_eq_true, decide_eq_true_eq] at hok
     have hp := abS (env := env) (pos := pos) hst (es := [e]) (ρ := ρ1) (as := [.val (.str y)]) (ρ' := ρ') (abl h2 rfl)
     refine z0 ?_
     refine wpAny_Call_method_late (aa7 hok.1.1) (by rw [hp]; rfl) hok.1.2 rfl (H o ρ _ ρ1 h1 A env F s ad Rm I R _ _ fun v F1 s1 ad1 S1 R1 sub1 r1 => ?_)
     have r1 : RV W.prog W.w F1 (.str x) v := r1
     obtain ⟨t, rfl⟩ := r1
     refine ⟨"str", "str.split", PySem.F.plainAttrs_str, PySem.F.slot_str_split, PySem.F.type_str_split, typeIs_str _ _ _, fun b q => (by cases q), ?_⟩
     obtain ⟨q, tt, hqt, hany⟩ := ads hp
     have hw := afx (pos := pos) (es := []) (E := E) (Q := fun vs s2 => wpAny (model W.prog W.w) A (call (.builtin "str.split") (.str x.s t :: vs)) Q E s2) H hst h2 Rm S1.inv R1 fun v' F2 s2 ad2 S2 R2 sub2 r2 => by
      have r2 : RV W.prog W.w F2 (.str y) v' := r2
      obtain ⟨t', rfl⟩ := r2
      refine aao (afX (F := F2) hle.1 hle.2 fun vs tk r => ?_)
      exact (hQ.step S1 sub1).made S2 R2 sub2 (aar _) (Fre.size _ (Nat.le_refl _)) (OR.pushed _ 0 r)
     rw [hqt] at hw ⊢
     exact callWith_builtin hany (evalArgs_plain (wpAny_mono hw (fun vs s2 h2z => h2z) fun _ _ e => e))
   · cases h
 · cases h
end
section
variable {W : Wd} {F F' : FH} {s s' : Shared} {env : Env} {ρ : CE} {ad : Str -> Option Addr} {M : Addr -> Prop} {A : Around} {E : VP} {G : GE} {k : Nat} {S : SM}
def ItemR (W : Wd) (F : FH) (h : Heap) (c : CV) (v : Value) : Prop := match c with
 | .tup ds => ∃ T vals, v = .ref T ∧ h.IsTuple T vals ∧ RVs W.prog W.w F ds vals.toList
 | c => RV W.prog W.w F c v
set_option tactic.hygienic false
theorem ItemR.mono {h : Heap} {c : CV} {v : Value} (r : ItemR W F h c v) (hF : ∀ a o, F a = some o -> F' a = some o) : ItemR W F' h c v := by
 cases c with
 | tup ds => exact match r with | ⟨T, vals, e1, e2, e3⟩ => ⟨T, vals, e1, e2, RVs.mono _ _ hF _ _ e3⟩
 | _ => exact RV.mono _ _ hF _ _ r
theorem aaN {ad ad' : Str -> Option Addr} (h : ∀ x a, ad' x = some a -> ad x = some a ∨ Fre s.heap a) : ∀ a, frmA env ad' a -> frmA env ad a ∨ Fre s.heap a := fun a q => by
 rcases q with ⟨x, e⟩ | q
 · rcases h x a e with q | q
   · exact .inl (.inl ⟨x, q⟩)
   · exact .inr q
 · exact .inl (.inr q)
def BPost (W : Wd) (env : Env) (ad : Str -> Option Addr) (F : FH) (s : Shared) (ρ' : CE) (Q : Unit -> Shared -> Prop) : Prop :=
 ∀ s' ad', Stp W (frmA env ad) F F s s' -> Rel W F s'.heap env ρ' ad' -> (∀ x a, ad' x = some a -> ad x = some a) -> Q () s'
theorem ac1 {x : Str} {pos : Pos} {c : CV} {v : Value} (hc : canSet ρ x = true) (I : Inv W F s) (R : Rel W F s.heap env ρ ad) (hv : RV W.prog W.w F c v) {Q : Unit -> Shared -> Prop} (hQ : BPost W env ad F s (ρ.set x (.val c)) Q) :
 wpAny (model W.prog W.w) A (assign (.Name x pos) env v) Q E s := by
 rw [arm_assign_Name]
 have hn : NewSlot W F s.heap env ad x (.val c) v none := ⟨hv, rfl⟩
 exact wpAny_bind (wpAny_standAt (wpAny_bindName (abR I R hc hn fun s' S' R' => hQ s' _ S' R' (abH hn))))
theorem ac2 {t : Expr} {ts : List Expr} {c : CV} {cs : List CV} {ρ' : CE} (h : bindNs (t :: ts) (c :: cs) ρ = some ρ') : ∃ x p, t = .Name x p ∧ canSet ρ x = true ∧ bindNs ts cs (ρ.set x (.val c)) = some ρ' := by
 replace h : (match eName t with | none => none | some (x, _) => match canSet ρ x with | true => bindNs ts cs (ρ.set x (.val c)) | false => none) = some ρ' := h
 refine hid fun z0 => ?_
 cases hn : eName t with
 | none => rw [hn] at h; exact aab h
 | some q =>
  rw [hn] at h
  cases hc : canSet ρ q.1 with
  | false => dsimp only at h; rw [hc] at h; exact aab h
  | true => dsimp only at h; rw [hc] at h; refine z0 ?_; exact ⟨q.1, q.2, aav hn, hc, h⟩
theorem aen : ∀ (ts : List Expr) (cs : List CV) (ρ ρ' : CE), bindNs ts cs ρ = some ρ' -> (assignEach ts env).length = cs.length ∧ (assignEach ts env).findIdx? (·.1) = none := by
 intro ts
 induction ts with
 | nil =>
  intro cs ρ ρ' h
  cases cs with
  | nil => exact ⟨rfl, rfl⟩
  | cons _ _ => cases h
 | cons t ts ih =>
  intro cs ρ ρ' h
  cases cs with
  | nil => exact aab h
  | cons c cs =>
   refine hid fun z2 => ?_
   obtain ⟨y, p, rfl, _, h⟩ := ac2 h
   obtain ⟨a, b⟩ := ih _ _ _ h
   have e : assignEach (.Name y p :: ts) env = (false, assign (.Name y p) env) :: assignEach ts env := rfl
   refine z2 ?_
   rw [e]
   exact ⟨congrArg (· + 1) a, by rw [List.findIdx?_cons, b]; rfl⟩
theorem ag4 : ∀ (ts : List Expr) {cs : List CV} {ρ ρ' : CE} {vs : List Value} {s : Shared} {ad : Str -> Option Addr}, bindNs ts cs ρ = some ρ' -> Inv W F s -> Rel W F s.heap env ρ ad -> RVs W.prog W.w F cs vs ->
 ∀ {Q : Unit -> Shared -> Prop}, BPost W env ad F s ρ' Q -> wpAny (model W.prog W.w) A (assignInOrder ((assignEach ts env).map (·.2)) vs) Q E s := by
 intro ts
 induction ts with
 | nil =>
  intro cs ρ ρ' vs s ad h I R hv Q hQ
  refine hid fun z0 => ?_
  cases cs with
  | nil =>
   cases h
   subst hv
   refine z0 ?_
   exact wpAny_pure (hQ s ad (.refl I) R fun _ _ e => e)
  | cons _ _ => cases h
 | cons t ts ih =>
  intro cs ρ ρ' vs s ad h I R hv Q hQ
  refine hid fun z1 => ?_
  cases cs with
  | nil => exact aab h
  | cons c cs =>
   obtain ⟨x, pos, rfl, hc, h⟩ := ac2 h
   obtain ⟨v, r, rfl, h1, h2⟩ := hv
   refine z1 ?_
   show wpAny _ A (do holding r (assign (.Name x pos) env v); assignInOrder ((assignEach ts env).map (·.2)) r) Q E s
   refine wpAny_bind (wpAny_holding (ac1 hc I R h1 fun s1 ad1 S1 R1 sub1 => ?_))
   exact ih h S1.inv R1 h2 fun s2 ad2 S2 R2 sub2 => hQ s2 ad2 (S1.trans S2 (aaN fun x a q => .inl (sub1 x a q))) R2 fun x a q => sub1 x a (sub2 x a q)
theorem afz {h h' : Heap} (hx : Heap.ExtBut h.objs.size h h') : ∀ a o, h.get? a = some o -> h'.get? a = some o := fun a o e => hx a o (Nat.ne_of_lt (Heap.lt_size e)) e
set_option tactic.hygienic true
theorem afA {t : Expr} {c : CV} {ρ' : CE} (h : bindT t c ρ = some ρ') (hh : A.handled = none) (I : Inv W F s) (R : Rel W F s.heap env ρ ad) {v : Value} (hv : ItemR W F s.heap c v) {Q : Unit -> Shared -> Prop} (hQ : BPost W env ad F s ρ' Q) :
 wpAny (model W.prog W.w) A (assign t env v) Q E s := by
 unfold bindT at h
 refine hid fun z0 => ?_
 split at h
 · rename_i x pos ht
   obtain rfl := aav ht
   split at h
   · rename_i hc
     cases h
     simp only [Bool.and_eq_true, Bool.not_eq_true'] at hc
     refine z0 ?_
     refine ac1 hc.1 I R ?_ hQ
     cases c with
     | tup ds => cases hc.2
     | _ => exact hv
   · cases h
 split at h
 · rename_i ts ht
   obtain ⟨kd, pos, rfl⟩ := acL ht
   have go : ∀ (cs : List CV) (vs : List Value) (h' : Heap), bindNs ts cs ρ = some ρ' -> RVs W.prog W.w F cs vs -> Heap.ExtBut s.heap.objs.size s.heap h' ->
    (assignEach ts env).length = vs.length ∧ (assignEach ts env).findIdx? (·.1) = none ∧ wpAny (model W.prog W.w) A (assignInOrder ((assignEach ts env).map (·.2)) vs) Q E { s with heap := h' } := fun cs vs h' hb hr hx => by
    have S1 := Stp.ofKeep (tk := s.toks) I (afz hx)
    have R1 := R.keep0 I S1
    obtain ⟨g1, g2⟩ := aen (env := env) ts cs ρ ρ' hb
    refine ⟨by rw [g1, hr.len], g2, ?_⟩
    exact ag4 ts hb S1.inv R1 hr fun s2 ad2 S2 R2 sub2 => hQ s2 ad2 (Stp.trans (M := frmA env ad) (S1.weaken fun _ q => q.elim) S2 fun _ q => .inl q) R2 sub2
   cases c with
   | list cs =>
    have hv : RV W.prog W.w F (.list cs) v := hv
    obtain ⟨a, o, vs, rfl, e, l, q⟩ := hv
    have hl := l.isList (I.frz _ _ e)
    obtain ⟨g1, g2, _⟩ := go cs vs s.heap h q (fun b o _ e => e)
    refine z0 ?_
    rw [arm_assign_Tuple]
    refine wpAny_bind (wpAny_standAt ?_)
    unfold unpack
    rw [g1, g2]
    have e2 : vs.length = vs.toArray.size := by simp
    rw [e2]
    exact wpAny_bind (wpAny_holding (PySem.W.kun_itemsOf hh hl fun h' hx => (go cs vs h' h q hx).2.2))
   | tup cs =>
    obtain ⟨T, vals, rfl, ht, q⟩ := hv
    obtain ⟨g1, g2, _⟩ := go cs vals.toList s.heap h q (fun b o _ e => e)
    refine z0 ?_
    exact wpAny_assign_Tuple hh ht (by rw [g1]; simp) g2 fun h' hx => (go cs vals.toList h' h q hx).2.2
   | _ => exact aab h
 · exact aab h
end
section
variable {W : Wd} {F F' : FH} {s s' : Shared} {env : Env} {ρ : CE} {ad : Str -> Option Addr} {M : Addr -> Prop} {A : Around} {E : VP} {G : GE} {k : Nat} {S : SM}
set_option tactic.hygienic false
set_option backward.match.sparseCases true in
theorem ac3 {target : Expr} {I : Addr} {o : Obj} {n : String} {v : Value} {Q : Unit -> Shared -> Prop} (ho : s.heap.get? I = some o) (hc : o.cls = .type n)
 (hn : ["enumerate", "zip", "dict_itemiterator", "dict_reverseitemiterator", "odict_iterator", "itertools.zip_longest", "itertools.pairwise"].contains n = false) (h : Q () s) :
 wpAny (model W.prog W.w) A (letOwnedTupleGo target (.ref I) v) Q E s := by
 have key : ∀ a : Addr, wpAny (model W.prog W.w) A (do
  let o <- load I
  match o.cls, o.data with
  | .type n, .fields vs =>
   if ["enumerate", "zip", "dict_itemiterator", "dict_reverseitemiterator", "odict_iterator", "itertools.zip_longest", "itertools.pairwise"].contains n && vs[0]? == some (rawInt a) then
    rule "for.unpacks-the-owned-tuple"
    updateField I 0 .none
  | _, _ => pure () : Sem Unit) Q E s := fun a => by
  refine wpAny_bind (wpAny_load ho ?_)
  rw [hc]
  cases o.data with
  | fields vs =>
   dsimp only
   rw [hn]
   exact wpAny_pure h
  | _ => exact wpAny_pure h
 cases target with
 | Tuple ts kd p =>
  cases v with
  | ref a => exact key a
  | _ => exact wpAny_pure h
 | List ts p =>
  cases v with
  | ref a => exact key a
  | _ => exact wpAny_pure h
 | _ => exact wpAny_pure h
inductive RecO (o : Obj) : Prop
 | fld (vs : Array Value) (h : o.data = .fields vs)
 | tup (xs : Array Value) (n : Nat) (h : o.cls = .type "tuple") (h' : o.data = .seq xs n)
theorem RecO.noList {o : Obj} {vs : List Value} (l : LO o vs) (r : RecO o) : False := by
 obtain ⟨n, l⟩ := l
 subst l
 cases r with
 | fld _ h => cases h
 | tup _ _ h _ => exact absurd (Value.type.inj h) (by decide)
theorem RecO.noDict {o : Obj} {es : Array DictEntry} {ep : Nat} (l : o.data = .dict es ep) (r : RecO o) : False := by
 cases r with
 | fld _ h => rw [l] at h; cases h
 | tup _ _ _ h => rw [l] at h; cases h
theorem RecO.noCell {o : Obj} {v : Option Value} (l : o.data = .cell v) (r : RecO o) : False := by
 cases r with
 | fld _ h => rw [l] at h; cases h
 | tup _ _ _ h => rw [l] at h; cases h
inductive SrcAt (W : Wd) (k : Bool) (A : Around) (F : FH) (h0 : Heap) (target : Expr) (it : Value) (cs : List CV) (s : Shared) : Prop
 | mk (I : Addr) (fp wr : List Addr) (n : Nat) (P Md : Nat -> Value -> Heap -> Prop) (St : Nat -> Heap -> Prop) (h1 : it = .ref I) (h2 : n = cs.length) (h3 : ∀ i (s : Shared) (Q : VP) (E : VP), St i s.heap -> Q (.ref I) s -> wpAny (model W.prog W.w) A (pyIter (.ref I)) Q E s) (h4 : PySem.W.KTurns W.prog W.w A target I fp wr n P Md St) (h5 : St 0 s.heap)
  (h6 : ∀ b ∈ wr, Fre h0 b ∧ F b = none ∧ ¬ W.T b) (h7 : ∀ i h, St i h -> ∀ b ∈ wr, ∃ o, h.get? b = some o ∧ RecO o)
  (h8 : ∀ b ∈ fp, b ∈ wr ∨ (k = true ∧ ∃ o, F b = some o) ∨ (k = false ∧ ¬ W.T b ∧ ∃ o, s.heap.get? b = some o))
  (h9 : ∀ i v h c, (∀ a o, F a = some o -> h.get? a = some o) -> P i v h -> cs[i]? = some c -> ItemR W F h c v)
def CvK (W : Wd) (k : Bool) (F : FH) (h : Heap) (c : CV) (v : Value) : Prop := match k with
 | true => RV W.prog W.w F c v
 | false => CvAt W F h c v
theorem CvK.at {k : Bool} {c : CV} {v : Value} {h : Heap} (r : CvK W k F h c v) : CvAt W F h c v := by
 cases k with
 | true => exact .inl r
 | false => exact r
theorem CvK.keepable (I : Inv W F s) {k : Bool} {c : CV} {a : Addr} (r : CvK W k F s.heap c (.ref a)) (hc : ∃ xs, c = .list xs) :
 (k = true ∧ ∃ o, F a = some o) ∨ (k = false ∧ ¬ W.T a ∧ ∃ o, s.heap.get? a = some o) := by
 obtain ⟨xs, rfl⟩ := hc
 cases k with
 | true =>
  obtain ⟨b, o, _, e, f, _⟩ := (r : RV W.prog W.w F (.list xs) (.ref a))
  cases e; exact .inl ⟨rfl, o, f⟩
 | false =>
  refine .inr ⟨rfl, ?_⟩
  rcases r with r | ⟨o, b, e1, e2, r⟩
  · simp only [RV] at r
    obtain ⟨b, o, _, e, f, _⟩ := r
    cases e; exact ⟨I.notTab f, o, I.frz _ _ f⟩
  · cases e2
    obtain ⟨ob, e, _⟩ := OR.cls r
    exact ⟨I.notTabOR r, ob, e⟩
theorem RVs.at {cs : List CV} {vs : List Value} (h : RVs W.prog W.w F cs vs) {i : Nat} {c : CV} {v : Value} (hc : cs[i]? = some c) (hv : vs[i]? = some v) : RV W.prog W.w F c v := by
 obtain ⟨u, hu, r⟩ := h.get hc
 rw [hv] at hu; cases hu; exact r
theorem ItemR.ofRV {h : Heap} {c : CV} {v : Value} (hc : isTup c = false) (r : RV W.prog W.w F c v) : ItemR W F h c v := by
 cases c with
 | tup ds => cases hc
 | _ => exact r
theorem ItemR.ofRV' {h : Heap} (I : ∀ a o, F a = some o -> h.get? a = some o) {c : CV} {v : Value} (r : RV W.prog W.w F c v) : ItemR W F h c v := by
 cases c with
 | tup ds =>
  obtain ⟨a, o, vs, rfl, e, ⟨h1, n, h2⟩, q⟩ := r
  exact ⟨a, vs.toArray, rfl, ⟨o, I _ _ e, h1, n, h2⟩, by simpa using q⟩
 | _ => exact r
def SrcPost (W : Wd) (k : Bool) (A : Around) (F : FH) (h0 : Heap) (target : Expr) (cs : List CV) (s : Shared) (Q : VP) : Prop :=
 ∀ it s', Stp W (fun _ => False) F F s s' -> SrcAt W k A F h0 target it cs s' -> Q it s'
theorem aif {kb : Bool} {h0 : Heap} {target : Expr} {cs : List CV} {v : Value} {A' : Around} (hh : A'.handled = none) (I : Inv W F s) (hb : ∀ a, Fre s.heap a -> Fre h0 a) (hv : CvK W kb F s.heap (.list cs) v) {Q : VP}
 (hQ : SrcPost W kb A' F h0 target cs s Q) : wpAny (model W.prog W.w) A (pyIter v) Q E s := by
 obtain ⟨a, ob, vs, rfl, e, l, q⟩ := aaM I hv.at
 have hl := l.isList e
 have hf : Fre s.heap s.heap.objs.size := Fre.size _ (Nat.le_refl _)
 have hne : a ≠ s.heap.objs.size := (hf.ne e).symm
 refine wpAny_pyIter_list hl ?_
 have S := Stp.ofKeep (tk := s.toks) I (aar { cls := .type "list_iterator", data := .fields #[.ref a, .int 0 0] })
 have hit : (s.heap.push { cls := .type "list_iterator", data := .fields #[.ref a, .int 0 0] }).get? s.heap.objs.size = some { cls := .type "list_iterator", data := .fields #[.ref a, .int 0 0] } := Heap.get?_push_size _ rfl
 refine hQ _ _ S ⟨_, _, _, _, _, _, _, rfl, ?_, (Walks.list hh s.heap.objs.size a hne vs.toArray).self, PySem.W.KTurns.ofWalks (Walks.list hh s.heap.objs.size a hne vs.toArray) fun i v s Q E st q => letGo_listiter st.1 q, ⟨⟨_, hit, rfl, rfl⟩, hl.push _⟩, ?_, fun i h st b hb' => ?_, ?_, ?_⟩
 · rw [List.size_toArray, q.len]
 · intro b hb'
   simp only [List.mem_cons, List.not_mem_nil, or_false] at hb'
   subst hb'
   exact ⟨hb _ hf, I.fresh hf, I.tabOld hf⟩
 · simp only [List.mem_cons, List.not_mem_nil, or_false] at hb'
   subst hb'
   obtain ⟨⟨o, e1, e2, e3⟩, _⟩ := st
   exact ⟨o, e1, .fld _ e3⟩
 · intro b hb'
   simp only [List.mem_cons, List.not_mem_nil, or_false] at hb'
   rcases hb' with rfl | rfl
   · exact .inl (.head _)
   · rcases hv.keepable I ⟨cs, rfl⟩ with h | ⟨h1, h2, o, h3⟩
     · exact .inr (.inl h)
     · exact .inr (.inr ⟨h1, h2, o, aar _ _ _ h3⟩)
 · intro i v h c hfz hp hc
   exact ItemR.ofRV' hfz (q.at hc (by simpa using hp))
theorem ag5 {kb : Bool} {h0 : Heap} {target : Expr} {r : Addr} {a b : Int} {t u v : Tok} {A' : Around} (hh : A'.handled = none) (I : Inv W F s) (hb : ∀ a, Fre s.heap a -> Fre h0 a) (hr : IsRange s.heap r a b 1 t u v) (ha : small a = true) (hbs : small b = true)
 {Q : VP} (hQ : SrcPost W kb A' F h0 target (rangeC a b) s Q) : wpAny (model W.prog W.w) A (pyIter (.ref r)) Q E s := by
 have hf : Fre s.heap s.heap.objs.size := Fre.size _ (Nat.le_refl _)
 refine wpAny_pyIter_range hr (acZ ha hbs) ?_
 rw [abr]
 have S := Stp.ofKeep (tk := s.toks) I (aar { cls := .type "range_iterator", data := .fields #[rawInt a, rawInt ((b - a).toNat : Int), rawInt 1] })
 have hit : (s.heap.push { cls := .type "range_iterator", data := .fields #[rawInt a, rawInt ((b - a).toNat : Int), rawInt 1] }).get? s.heap.objs.size = some { cls := .type "range_iterator", data := .fields #[rawInt a, rawInt ((b - a).toNat : Int), rawInt 1] } := Heap.get?_push_size _ rfl
 refine hQ _ _ S ⟨_, _, _, _, _, _, _, rfl, ?_, (Walks.range hh s.heap.objs.size a 1 (b - a).toNat).self, PySem.W.KTurns.ofWalks (Walks.range hh s.heap.objs.size a 1 (b - a).toNat) fun i v s Q E st q => ac3 st rfl (by decide) q, ?_, ?_, fun i h st b hb' => ?_, ?_, ?_⟩
 · unfold rangeC; simp
 · show IsRangeIter _ _ _ _ _
   unfold IsRangeIter
   rw [hit]; simp
 · intro b hb'
   simp only [List.mem_cons, List.not_mem_nil, or_false] at hb'
   subst hb'
   exact ⟨hb _ hf, I.fresh hf, I.tabOld hf⟩
 · simp only [List.mem_cons, List.not_mem_nil, or_false] at hb'
   subst hb'
   exact ⟨_, st, .fld _ rfl⟩
 · intro b hb'
   exact .inl hb'
 · intro i v h c hfz hp hc
   obtain ⟨t, rfl⟩ := hp
   unfold rangeC at hc
   rw [List.getElem?_map] at hc
   cases hi : (List.range (b - a).toNat)[i]? with
   | none => rw [hi] at hc; cases hc
   | some j =>
    rw [hi] at hc
    have hj : j = i := by
     rw [List.getElem?_eq_some_iff] at hi
     obtain ⟨_, e⟩ := hi
     simpa using e.symm
    subst hj
    simp only [Option.map_some, Option.some.injEq] at hc
    subst hc
    show RV W.prog W.w F (.int (a + (j : Int))) _
    exact ⟨t, by rw [Int.mul_one]⟩
theorem afB {x : SS} {i : Nat} {v : Value} {c : CV} (hp : SignAt x.s i v) (hc : (signsC x)[i]? = some c) : RV W.prog W.w F c v := by
 obtain ⟨ch, u, h1, rfl⟩ := hp
 unfold signsC at hc
 rw [List.getElem?_map, Array.getElem?_toList, h1] at hc
 simp only [Option.map_some, Option.some.injEq] at hc
 subst hc
 exact ⟨u, rfl⟩
theorem ake {kb : Bool} {h0 : Heap} {target : Expr} {x : SS} {t : Tok} {A' : Around} (hh : A'.handled = none) (I : Inv W F s) (hb : ∀ a, Fre s.heap a -> Fre h0 a) {Q : VP}
 (hQ : SrcPost W kb A' F h0 target (signsC x) s Q) : wpAny (model W.prog W.w) A (pyIter (.str x.s t)) Q E s := by
 have hf : Fre s.heap s.heap.objs.size := Fre.size _ (Nat.le_refl _)
 have hn : x.s.cps.size = (signsC x).length := by unfold signsC; simp
 have fin : ∀ n : String, (n = "str_ascii_iterator" ∨ n = "str_iterator") -> Q (.ref s.heap.objs.size) { s with heap := s.heap.push { cls := .type n, data := .fields #[.str x.s t, .int 0 0] } } := by
  intro n hn'
  have S := Stp.ofKeep (tk := s.toks) I (aar { cls := .type n, data := .fields #[.str x.s t, .int 0 0] })
  have hit : (s.heap.push { cls := .type n, data := .fields #[.str x.s t, .int 0 0] }).get? s.heap.objs.size = some { cls := .type n, data := .fields #[.str x.s t, .int 0 0] } := Heap.get?_push_size _ rfl
  have W1 : ∀ b ∈ [s.heap.objs.size], Fre h0 b ∧ F b = none ∧ ¬ W.T b := by
   intro b hb'
   simp only [List.mem_cons, List.not_mem_nil, or_false] at hb'
   subst hb'
   exact ⟨hb _ hf, I.fresh hf, I.tabOld hf⟩
  rcases hn' with rfl | rfl
  · refine hQ _ _ S ⟨_, _, _, _, _, _, _, rfl, hn, (Walks.strAscii hh s.heap.objs.size x.s t).self, PySem.W.KTurns.ofWalks (Walks.strAscii hh s.heap.objs.size x.s t) fun i v s Q E st q => ?_, ⟨_, hit, rfl, rfl⟩, W1, fun i h st b hb' => (by
     simp only [List.mem_cons, List.not_mem_nil, or_false] at hb'
     subst hb'
     obtain ⟨o, e1, e2, e3⟩ := st
     exact ⟨o, e1, .fld _ e3⟩), fun b hb' => .inl hb', fun i v h c hfz hp hc => ItemR.ofRV' hfz (afB hp hc)⟩
    obtain ⟨o, e1, e2, _⟩ := st
    exact ac3 e1 e2 (by decide) q
  · refine hQ _ _ S ⟨_, _, _, _, _, _, _, rfl, hn, (Walks.strWide hh s.heap.objs.size x.s t).self, PySem.W.KTurns.ofWalks (Walks.strWide hh s.heap.objs.size x.s t) fun i v s Q E st q => ?_, ⟨_, hit, rfl, rfl⟩, W1, fun i h st b hb' => (by
     simp only [List.mem_cons, List.not_mem_nil, or_false] at hb'
     subst hb'
     obtain ⟨o, e1, e2, e3⟩ := st
     exact ⟨o, e1, .fld _ e3⟩), fun b hb' => .inl hb', fun i v h c hfz hp hc => ItemR.ofRV' hfz (afB hp hc)⟩
    obtain ⟨o, e1, e2, _⟩ := st
    exact ac3 e1 e2 (by decide) q
 refine wpAny_pyIter_strU (fin _ ?_)
 unfold strIterType
 split
 · exact .inl rfl
 · exact .inr rfl
theorem afC : ∀ {cs : List CV} {j i : Nat} {c : CV}, (enumC j cs)[i]? = some c -> ∃ d, cs[i]? = some d ∧ c = .tup [.int ((j + i : Nat) : Int), d]
 | [], j, i, c, h => aab h
 | d :: cs, j, 0, c, h => by
  simp only [adz, List.getElem?_cons_zero, Option.some.injEq] at h
  exact ⟨d, rfl, h.symm⟩
 | d :: cs, j, i + 1, c, h => by
  simp only [adz, List.getElem?_cons_succ] at h
  obtain ⟨e, h1, h2⟩ := afC h
  exact ⟨e, by simpa using h1, by rw [h2]; congr 3; lia⟩
theorem aeo : ∀ (cs : List CV) (j : Nat), (enumC j cs).length = cs.length
 | [], _ => rfl
 | _ :: es, j => by simp only [adz, List.length_cons, aeo es]
theorem ag6 : ∀ {xs ys : List CV} {i : Nat} {c : CV}, (zipC xs ys)[i]? = some c -> ∃ a b, xs[i]? = some a ∧ ys[i]? = some b ∧ c = .tup [a, b]
 | [], _, i, c, h => aab h
 | _ :: _, [], i, c, h => aab h
 | x :: xs, y :: ys, 0, c, h => ⟨x, y, rfl, rfl, (Option.some.inj h).symm⟩
 | x :: xs, y :: ys, i + 1, c, h => ag6 (xs := xs) (ys := ys) h
theorem afD : ∀ (xs ys : List CV), (zipC xs ys).length = min xs.length ys.length
 | [], _ => (Nat.zero_min _).symm
 | _ :: _, [] => rfl
 | _ :: xs, _ :: ys => by
  show (zipC xs ys).length + 1 = _
  rw [afD xs ys, List.length_cons, List.length_cons, Nat.succ_min_succ]
end
section
variable {W : Wd} {F F' : FH} {s s' : Shared} {env : Env} {ρ : CE} {ad : Str -> Option Addr} {M : Addr -> Prop} {A : Around} {E : VP} {G : GE} {k : Nat} {S : SM}
set_option tactic.hygienic false
theorem ai4 (H : EvOK W k S.ev) {kb : Bool} {e : Expr} {ρ' : CE} {c : CV} (h : S.evk kb e ρ = some (c, ρ')) (Rm : Room A k) (I : Inv W F s) (R : Rel W F s.heap env ρ ad) {Q : VP}
 (hQ : ∀ v F' s' ad', Stp W (ownA ad) F F' s s' -> Rel W F' s'.heap env ρ' ad' -> (∀ x a, ad' x = some a -> ad x = some a) -> CvK W kb F' s'.heap c v -> Q v s') :
 wpAny (model W.prog W.w) A (eval e env) Q E s := by
 unfold SM.evk at h
 cases kb with
 | true => exact adp H h Rm I R hQ
 | false => exact agV H h Rm I R hQ
theorem abt {e : Expr} (h : ∀ es kd p, e ≠ .Set es kd p) (x : Value) : foldedSetIterable e env x = pure x := by
 cases e <;> first | rfl | exact absurd rfl (h _ _ _)
theorem aeW (n l1 l2 : Nat) (b1 : l1 < n) (b2 : l2 < n) : ZipApart (n + 4) (n + 2) (n + 3) n (n + 1) l1 l2 := by
 constructor <;> first | exact Nat.ne_of_gt (by lia) | exact Nat.ne_of_lt (by lia)
set_option tactic.hygienic true
theorem afE (H : EvOK W k S.ev) (hst : ∀ x p ρ, S.ev (.Starred x p) ρ = none) (hset : ∀ x kd p ρ, S.ev (.Set x kd p) ρ = none) (hG : GOK W k G) {kb : Bool} {t e : Expr} {ρ' : CE} {cs : List CV} (h : S.items G kb t e ρ = some (cs, ρ')) (Rm : Room A k)
 (I : Inv W F s) (R : Rel W F s.heap env ρ ad) (A' : Around) (hA' : A'.handled = none) {Q : VP}
 (hQ : ∀ it F' s' ad', Stp W (ownA ad) F F' s s' -> Rel W F' s'.heap env ρ' ad' -> (∀ x a, ad' x = some a -> ad x = some a) -> SrcAt W kb A' F' s.heap t it cs s' -> Q it s') :
 (∀ x, foldedSetIterable e env x = pure x) ∧ wpAny (model W.prog W.w) A (eval e env) (fun x s1z => wpAny (model W.prog W.w) A (pyIter x) Q E s1z) E s := by
 have hns : ∀ {q}, S.evk kb e ρ = some q -> ∀ es kd p, e ≠ .Set es kd p := fun h es kd p q => by
  unfold SM.evk at h
  subst q
  cases kb with
  | true => dsimp only at h; unfold SM.evf at h; rw [hset] at h; cases h
  | false => dsimp only at h; unfold SM.evd at h; rw [hset] at h; cases h
 unfold SM.items at h
 rcases ae3 G (ρ := ρ) (e := e) rfl with hz | ⟨f, p, args, pos, rfl, hb, ⟨hf, hz⟩ | ⟨hf, x, rfl, hz⟩ | ⟨hf, x, y, rfl, hz⟩⟩ <;> rw [hz] at h <;> dsimp only at h
 · refine hid fun z2 => ?_
   cases h1 : S.evk kb e ρ with
   | none => rw [h1] at h; cases h
   | some p =>
    obtain ⟨c, ρ1⟩ := p
    rw [h1] at h
    dsimp only at h
    refine z2 ?_
    refine ⟨abt (hns h1), ai4 H h1 Rm I R fun v F1 s1z ad1 S1 R1 sub1 hv => ?_⟩
    refine hid fun z3 => ?_
    cases h2 : itemsC c with
    | none => rw [h2] at h; cases h
    | some cs' =>
     rw [h2] at h
     dsimp only at h
     split at h
     · rename_i hle
       cases h
       have fin : SrcPost W kb A' F1 s.heap t cs s1z Q := fun it s2z S2 hs => hQ it F1 s2z ad1 (S1.trans S2 fun _ q => q.elim) (R1.keep0 S1.inv S2) sub1 hs
       unfold itemsC at h2
       cases c with
       | list xs => cases h2; refine z3 ?_; exact aif hA' S1.inv (fun a q => S1.back q) hv fin
       | str x =>
        cases h2
        obtain ⟨t', rfl⟩ := aaK hv.at
        refine z3 ?_
        exact ake hA' S1.inv (fun a q => S1.back q) fin
       | _ => exact aab h2
     · cases h
 · refine hid fun z4 => ?_
   cases h1 : S.range args ρ with
   | none => rw [h1] at h; cases h
   | some q =>
    obtain ⟨a, b, ρ1⟩ := q
    rw [h1] at h
    cases h
    refine z4 ?_
    refine ⟨abt (by intros; intro q; cases q), afy H hst hG hb hf h1 Rm I R fun r t' u v F1 s1z ad1 S1 R1 sub1 hr _ ha hbs => ?_⟩
    exact ag5 hA' S1.inv (fun a q => S1.back q) hr ha hbs fun it s2z S2 hs => hQ it F1 s2z ad1 (S1.trans S2 fun _ q => q.elim) (R1.keep0 S1.inv S2) sub1 hs
 · obtain rfl := beq_iff_eq.mp hf
   refine hid fun z6 => ?_
   split at h
   · cases h
   · rename_i ht
     cases h1 : S.evk kb x ρ with
     | none => rw [h1] at h; cases h
     | some q =>
      obtain ⟨c, ρ1⟩ := q
      rw [h1] at h
      cases c with
      | list ds =>
       dsimp only at h
       split at h
       · cases h
         have hne : ∀ y p, x ≠ .Starred y p := fun y p q => by
          subst q
          unfold SM.evk at h1
          cases kb with
          | true => dsimp only at h1; unfold SM.evf at h1; rw [hst] at h1; cases h1
          | false => dsimp only at h1; unfold SM.evd at h1; rw [hst] at h1; cases h1
         have hp : (backTo pos (starEach [x] env)).all (fun x => !x.1) = true := by rw [aah hne]; rfl
         refine z6 ?_
         refine ⟨abt (by intros; intro q; cases q), abT hG (id := .type "enumerate") rfl hb (by decide) (by decide) I R hp ?_⟩
         rw [aah hne]
         refine aap (ai4 H h1 Rm I R fun v F1 s1z ad1 S1 R1 sub1 hv => aao ?_)
         obtain ⟨a, ob, vs, rfl, ea, l, q⟩ := aaM S1.inv hv.at
         have hl := l.isList ea
         have hf : ∀ n, Fre s1z.heap (s1z.heap.objs.size + n) := fun n => Fre.size _ (Nat.le_add_right _ _)
         have hne0 : a ≠ s1z.heap.objs.size := ((hf 0).ne ea).symm
         have hne1 : a ≠ s1z.heap.objs.size + 1 := ((hf 1).ne ea).symm
         refine call_enumerate_list hl fun h' hen hli hsz hk => ?_
         have Wk := (WalksT.enumerate (prog := W.prog) (w := W.w) (A := A) Rm.hh (s1z.heap.objs.size + 1) s1z.heap.objs.size a (Nat.succ_ne_self _) hne1 hne0 vs.toArray)
         have Wk' := (WalksT.enumerate (prog := W.prog) (w := W.w) (A := A') hA' (s1z.heap.objs.size + 1) s1z.heap.objs.size a (Nat.succ_ne_self _) hne1 hne0 vs.toArray).toU
         have hl' : h'.IsList a vs.toArray := by obtain ⟨o, e, r⟩ := hl; exact ⟨o, hk _ _ e, r⟩
         have st0 : (∃ old, IsEnum h' (s1z.heap.objs.size + 1) s1z.heap.objs.size ((0 : Nat) : Int) old) ∧ h'.IsListIter s1z.heap.objs.size a 0 ∧ h'.IsList a vs.toArray := ⟨⟨_, hen⟩, hli, hl'⟩
         refine Wk.self 0 _ _ _ st0 ?_
         have S2 := Stp.ofKeep (tk := s1z.toks) S1.inv hk
         refine hid fun z8 => ?_
         cases t with
         | Tuple ts kd tp =>
          refine z8 ?_
          refine hQ _ F1 _ ad1 (S1.trans S2 fun _ q => q.elim) (R1.keep0 S1.inv S2) sub1 ⟨_, _, _, _, _, _, _, rfl, ?_, Wk'.self, PySem.W.KTurns.ofWalksU Wk', st0, ?_, fun i h st b hb' => ?_, ?_, ?_⟩
          · rw [aeo, List.size_toArray, q.len]
          · intro b hb'
            simp only [List.mem_cons, List.not_mem_nil, or_false] at hb'
            rcases hb' with rfl | rfl
            · exact ⟨S1.back (hf 1), S1.inv.fresh (hf 1), S1.inv.tabOld (hf 1)⟩
            · exact ⟨S1.back (hf 0), S1.inv.fresh (hf 0), S1.inv.tabOld (hf 0)⟩
          · refine hid fun z10 => ?_
            obtain ⟨⟨old, s1⟩, ⟨o2, s2, s3, s4⟩, _⟩ := st
            simp only [List.mem_cons, List.not_mem_nil, or_false] at hb'
            rcases hb' with rfl | rfl
            · refine z10 ?_
              exact ⟨_, s1, .fld _ rfl⟩
            · refine z10 ?_
              exact ⟨o2, s2, .fld _ s4⟩
          · intro b hb'
            simp only [List.mem_cons, List.not_mem_nil, or_false] at hb'
            refine hid fun z11 => ?_
            rcases hb' with rfl | rfl | rfl
            · refine z11 ?_
              exact .inl (.head _)
            · refine z11 ?_
              exact .inl (.tail _ (.head _))
            · rcases hv.keepable S1.inv ⟨ds, rfl⟩ with h | ⟨h1, h2, o, h3⟩
              · refine z11 ?_
                exact .inr (.inl h)
              · refine z11 ?_
                exact .inr (.inr ⟨h1, h2, o, hk _ _ h3⟩)
          · intro i v h c hfz hp hc
            refine hid fun z12 => ?_
            obtain ⟨T, vals, rfl, ⟨t', x', hx', rfl⟩, hT⟩ := hp
            obtain ⟨d, hd, rfl⟩ := afC hc
            refine z12 ?_
            refine ⟨T, _, rfl, hT, ?_⟩
            refine ⟨_, _, rfl, ⟨t', by simp⟩, _, _, rfl, q.at hd (by simpa using hx'), rfl⟩
         | _ => cases ht
       · cases h
      | _ => cases h
 · obtain rfl := beq_iff_eq.mp hf
   refine hid fun z6 => ?_
   split at h
   · cases h
   rename_i ht
   obtain ⟨ht, hk0⟩ := Bool.and_eq_true_iff.mp ht
   obtain rfl : kb = false := by simpa using hk0
   cases t with
   | Tuple ts kd tp =>
    cases h1 : S.evf x ρ with
    | none => rw [h1] at h; cases h
    | some q =>
    obtain ⟨c, ρ1⟩ := q
    rw [h1] at h
    dsimp only at h
    cases h2 : S.evf y ρ1 with
    | none => rw [h2] at h; cases h
    | some q =>
    obtain ⟨d, ρ2⟩ := q
    rw [h2] at h
    dsimp only at h
    cases h3 : cvList c with
    | none => rw [h3] at h; cases h
    | some xs =>
    cases h4 : cvList d with
    | none => rw [h3, h4] at h; cases h
    | some ys =>
    rw [h3, h4] at h
    cases h
    obtain rfl := aay h3; obtain rfl := aay h4
    have hne : ∀ {e : Expr} {ρ : CE} {q}, S.evf e ρ = some q -> ∀ y p, e ≠ .Starred y p := fun h y p q => by
     subst q
     unfold SM.evf at h; rw [hst] at h; cases h
    have hp : (backTo pos (starEach [x, y] env)).all (fun x => !x.1) = true := by rw [aah (hne h1), aah (hne h2)]; rfl
    refine z6 ?_
    refine ⟨abt (by intros; intro q; cases q), abT hG (id := .type "zip") rfl hb (by decide) (by decide) I R hp ?_⟩
    rw [aah (hne h1), aah (hne h2)]
    refine aap (adp H h1 Rm I R fun v F1 s1z ad1 S1 R1 sub1 hv => ?_)
    refine aap (adp H h2 Rm S1.inv R1 fun u F2 s2z ad2 S2 R2 sub2 hu => aao ?_)
    have S12 : Stp W (ownA ad) F F2 s s2z := S1.trans S2 (aai sub1)
    have hv : RV W.prog W.w F2 (.list xs) v := RV.mono _ _ S2.sub _ _ hv
    have hu : RV W.prog W.w F2 (.list ys) u := hu
    obtain ⟨l1, ob, vs, rfl, f1, la, ra⟩ := hv
    obtain ⟨l2, ob', us, rfl, f2, lb, rb⟩ := hu
    have e1 := S2.inv.frz _ _ f1
    have e2 := S2.inv.frz _ _ f2
    have hl1 := la.isList e1
    have hl2 := lb.isList e2
    have fre : ∀ n, Fre s2z.heap (s2z.heap.objs.size + n) := fun n => Fre.size _ (Nat.le_add_right _ _)
    have D := aeW s2z.heap.objs.size l1 l2 (Heap.lt_size e1) (Heap.lt_size e2)
    refine call_zip_2 hl1 hl2 fun h' z1 z2 z3 z4 z5 hsz hk => ?_
    have Wk := (WalksT.zip2 (prog := W.prog) (w := W.w) (A := A) Rm.hh _ _ _ _ _ l1 l2 D vs.toArray us.toArray)
    have Wk' := (WalksT.zip2 (prog := W.prog) (w := W.w) (A := A') hA' _ _ _ _ _ l1 l2 D vs.toArray us.toArray).toU
    have hl1' : h'.IsList l1 vs.toArray := by obtain ⟨o, e, r⟩ := hl1; exact ⟨o, hk _ _ e, r⟩
    have hl2' : h'.IsList l2 us.toArray := by obtain ⟨o, e, r⟩ := hl2; exact ⟨o, hk _ _ e, r⟩
    have st0 := (⟨z1, z2, ⟨_, _, z3⟩, z4, z5, hl1', hl2'⟩ : IsZip h' (s2z.heap.objs.size + 4) (s2z.heap.objs.size + 2) (s2z.heap.objs.size + 3) .none ∧ IsPair h' (s2z.heap.objs.size + 2) (.ref s2z.heap.objs.size) (.ref (s2z.heap.objs.size + 1)) ∧ (∃ a b, IsPair h' (s2z.heap.objs.size + 3) a b) ∧ h'.IsListIter s2z.heap.objs.size l1 0 ∧ h'.IsListIter (s2z.heap.objs.size + 1) l2 0 ∧ h'.IsList l1 vs.toArray ∧ h'.IsList l2 us.toArray)
    refine Wk.self 0 _ _ _ st0 ?_
    have S3 := Stp.ofKeep (tk := s2z.toks) S2.inv hk
    refine hQ _ F2 _ ad2 (S12.trans S3 fun _ q => q.elim) (R2.keep0 S2.inv S3) (fun x a q => sub1 x a (sub2 x a q)) ⟨_, _, _, _, _, _, _, rfl, ?_, Wk'.self, PySem.W.KTurns.ofWalksU Wk', st0, ?_, fun i h st b hb' => ?_, ?_, ?_⟩
    · rw [afD, List.size_toArray, List.size_toArray, ra.len, rb.len]
    · intro b hb'
      have ok : ∀ n, Fre s.heap (s2z.heap.objs.size + n) ∧ F2 (s2z.heap.objs.size + n) = none ∧ ¬ W.T (s2z.heap.objs.size + n) := fun n => ⟨S12.back (fre n), S2.inv.fresh (fre n), S2.inv.tabOld (fre n)⟩
      simp only [List.mem_cons, List.not_mem_nil, or_false] at hb'
      rcases hb' with rfl | rfl | rfl | rfl
      · exact ok 4
      · exact ok 3
      · exact ok 0
      · exact ok 1
    · obtain ⟨s1, _, ⟨a, b', s3⟩, ⟨o4, s4, _, d4⟩, ⟨o5, s5, _, d5⟩, _⟩ := st
      simp only [List.mem_cons, List.not_mem_nil, or_false] at hb'
      rcases hb' with rfl | rfl | rfl | rfl
      · exact ⟨_, s1, .fld _ rfl⟩
      · exact ⟨_, s3, .tup _ _ rfl rfl⟩
      · exact ⟨o4, s4, .fld _ d4⟩
      · exact ⟨o5, s5, .fld _ d5⟩
    · intro b hb'
      have keep : ∀ {l : Addr} {o : Obj}, F2 l = some o -> (false = true ∧ ∃ o, F2 l = some o) ∨ (false = false ∧ ¬ W.T l ∧ ∃ o, h'.get? l = some o) := fun {l o} f => .inr ⟨rfl, S2.inv.notTab f, o, hk _ _ (S2.inv.frz _ _ f)⟩
      simp only [List.mem_cons, List.not_mem_nil, or_false] at hb'
      rcases hb' with rfl | rfl | rfl | rfl | rfl | rfl | rfl
      · exact .inl (.head _)
      · exact .inr (.inr ⟨rfl, S2.inv.tabOld (fre 2), _, z2⟩)
      · exact .inl (.tail _ (.head _))
      · exact .inl (.tail _ (.tail _ (.head _)))
      · exact .inl (.tail _ (.tail _ (.tail _ (.head _))))
      · exact .inr (keep f1)
      · exact .inr (keep f2)
    · intro i v h c hfz hp hc
      obtain ⟨T, vals, rfl, ⟨x', y', hx', hy', rfl⟩, hT⟩ := hp
      obtain ⟨c1, c2, hc1, hc2, rfl⟩ := ag6 hc
      exact ⟨T, _, rfl, hT, _, _, rfl, ra.at hc1 (by simpa using hx'), _, _, rfl, rb.at hc2 (by simpa using hy'), rfl⟩
   | _ => cases ht
end
section
variable {W : Wd} {F F' : FH} {s s' : Shared} {env : Env} {ρ : CE} {ad : Str -> Option Addr} {M : Addr -> Prop} {A : Around} {E : VP} {G : GE} {k : Nat} {S : SM}
set_option tactic.hygienic false
theorem OR.data {h : Heap} {o : CO} {a : Addr} (r : OR W.prog W.w F h o a) : ∃ ob, h.get? a = some ob ∧ ¬ RecO ob := by
 cases o with
 | list xs => obtain ⟨ob, vs, e, l, _⟩ := r; exact ⟨ob, e, RecO.noList l⟩
theorem Rel.raw (R : Rel W F s.heap env ρ ad) {h' : Heap} {wr : Addr -> Prop} (hk : ∀ a o, ¬ wr a -> s.heap.get? a = some o -> h'.get? a = some o)
 (hw : ∀ a, wr a -> ∃ o, s.heap.get? a = some o ∧ RecO o) (hf : ∀ f, env.frame = some f -> ¬ wr f) : Rel W F h' env ρ ad := by
 have key : ∀ {a : Addr} {o : Obj}, s.heap.get? a = some o -> ¬ RecO o -> h'.get? a = some o := fun {a o} e hd => hk a o (fun q => by
  obtain ⟨o', e', d⟩ := hw a q
  rw [e] at e'; cases e'; exact hd d) e
 have kns : ∀ {a m}, s.heap.Ns a m -> h'.Ns a m := fun ⟨o, es, ep, e, d, r⟩ => ⟨o, es, ep, key e (RecO.noDict d), d, r⟩
 have kcl : ∀ {a v}, s.heap.IsCell a v -> h'.IsCell a v := fun ⟨o, e, d⟩ => ⟨o, key e (RecO.noCell d), d⟩
 have kor : ∀ {o a}, OR W.prog W.w F s.heap o a -> OR W.prog W.w F h' o a := fun {o a} r => r.mono _ _ (fun _ _ e => e) fun ob e => by
  obtain ⟨ob', e', hd⟩ := r.data
  rw [e] at e'; cases e'; exact key e hd
 refine ⟨R.kind, let ⟨m, n⟩ := R.ns; ⟨m, kns n⟩, R.nsF, R.nsT, fun x sl h => ?_, fun x h1 => ?_, fun x a e => ?_, R.inj, fun x a e => let ⟨v, c⟩ := R.cl x a e; ⟨v, kcl c⟩, fun f e => let ⟨o, q⟩ := R.frm f e; ⟨o, hk f o (hf f e) q⟩⟩
 · obtain ⟨v, hv, hs⟩ := R.var x sl h
   refine ⟨v, ?_, ?_⟩
   · rcases hv with ⟨q, m, n, e⟩ | ⟨q, ca, c, y⟩
     · exact .inl ⟨q, m, kns n, e⟩
     · exact .inr ⟨q, ca, c, kcl y⟩
   · cases sl with
     | val c => exact hs
     | own o => obtain ⟨a, e1, e2, e3⟩ := hs; exact ⟨a, e1, e2, kor e3⟩
     | bor o => obtain ⟨a, e1, e2, e3, e4⟩ := hs; exact ⟨a, e1, e2, kor e3, e4⟩
 · obtain ⟨ca, v0, e1, e2, e3, e4⟩ := R.cells x h1
   exact ⟨ca, v0, e1, kcl e2, e3, e4⟩
 · obtain ⟨q1, q2, q3, q4, q5, q6⟩ := R.own x a e
   refine ⟨q1, q2, q3, q4, q5, ?_⟩
   obtain ⟨o, ho⟩ := Option.isSome_iff_exists.mp q1
   refine hid fun z8 => ?_
   obtain ⟨a', e', _, r⟩ := acf R ho
   rw [e] at e'; cases e'
   obtain ⟨ob, e3, _⟩ := (kor r).data
   refine z8 ?_
   exact ⟨ob, e3⟩
def XsPost (W : Wd) (env : Env) (ad : Str -> Option Addr) (F : FH) (s : Shared) (r : FC) (ρ' : CE) (Q : Flow -> Shared -> Prop) : Prop :=
 ∀ f F' s' ad', Stp W (frmA env ad) F F' s s' -> Rel W F' s'.heap env ρ' ad' -> (∀ x a, ad' x = some a -> ad x = some a ∨ Fre s.heap a) -> FlR W F' r f -> Q f s'
theorem XsPost.step {r : FC} {ρ' : CE} {F1 : FH} {s1 : Shared} {ad1 : Str -> Option Addr} {Q : Flow -> Shared -> Prop} (h : XsPost W env ad F s r ρ' Q) (S : Stp W (frmA env ad) F F1 s s1) (sub : ∀ x a, ad1 x = some a -> ad x = some a ∨ Fre s.heap a) :
 XsPost W env ad1 F1 s1 r ρ' Q :=
 fun f F' s' ad' S' R' sub' r' => h f F' s' ad' (S.trans S' (aaN sub)) R' (fun x a q => (sub' x a q).elim (sub x a) fun z => .inr (S.back z)) r'
theorem aax (h : Stp W (ownA ad) F F' s s') : Stp W (frmA env ad) F F' s s' := h.weaken fun _ q => .inl (.inl q)
set_option tactic.hygienic true
theorem aep (H : XsOK W k S.xs) : ∀ (b : List Stmt) (ρ : CE) (r : FC) (ρ' : CE), S.xss b ρ = some (r, ρ') ->
 ∀ (A : Around) (env : Env) (F : FH) (s : Shared) (ad : Str -> Option Addr), Room A k -> Inv W F s -> Rel W F s.heap env ρ ad -> ∀ (Q : Flow -> Shared -> Prop) (E : VP), XsPost W env ad F s r ρ' Q ->
  wpAny (model W.prog W.w) A (execs b env) Q E s
 | [], ρ, r, ρ', h, A, env, F, s, ad, Rm, I, R, Q, E, hQ => by
  cases h
  exact wpAny_execs_nil (hQ .next F s ad (.refl I) R (fun _ _ e => .inl e) rfl)
 | st :: b, ρ, r, ρ', h, A, env, F, s, ad, Rm, I, R, Q, E, hQ => by
  refine D.el (.opt2 (S.xs st ρ) fun f ρ => .raw (match (f, ρ) with | (.next, ρ) => S.xss b ρ | (f, ρ) => some (f, ρ))) h (C := fun r ρ' => XsPost W env ad F s r ρ' Q) hQ fun f ρ1 h1 r h hQ => ?_
  refine wpAny_execs_cons (H st ρ f ρ1 h1 A env F s ad Rm I R _ _ fun fl F1 s1 ad1 S1 R1 sub1 r1 => ?_)
  cases f with
  | next =>
   obtain rfl : fl = .next := r1
   exact aep H b ρ1 r.1 r.2 h A env F1 s1 ad1 Rm S1.inv R1 Q E (hQ.step S1 sub1)
  | brk =>
   obtain rfl : fl = .brk := r1
   cases h; exact hQ _ F1 s1 ad1 S1 R1 sub1 rfl
  | cont =>
   obtain rfl : fl = .cont := r1
   cases h; exact hQ _ F1 s1 ad1 S1 R1 sub1 rfl
  | ret c =>
   obtain ⟨v, rfl, rv⟩ := r1
   cases h; exact hQ _ F1 s1 ad1 S1 R1 sub1 ⟨v, rfl, rv⟩
set_option tactic.hygienic false
theorem ada {α : Type} {q : Str -> Bool} {l : List (Str × α)} {x : Str} : (l.filter fun p => q p.1).lookup x = if q x then l.lookup x else none := by
 induction l with
 | nil => cases q x <;> rfl
 | cons p r ih =>
  obtain ⟨n, v⟩ := p
  cases hq : q n with
  | true =>
   rw [List.filter_cons_of_pos (by exact hq), List.lookup_cons, List.lookup_cons, ih]
   cases hx : x == n with
   | true => rw [beq_iff_eq.mp hx, hq]; rfl
   | false => rfl
  | false =>
   rw [List.filter_cons_of_neg (by simp [hq]), List.lookup_cons, ih]
   cases hx : x == n with
   | true => rw [beq_iff_eq.mp hx, hq]; rfl
   | false => rfl
theorem afF {ds : Str -> Bool} {ρ : CE} {x : Str} : (ρ.drop ds).get x = ρ.get x ∨ ((ρ.drop ds).get x = none ∧ isVal (ρ.get x) = true) := by
 have e : (ρ.drop ds).get x = if (!(ds x && isVal (ρ.get x))) then ρ.get x else none := ada (q := fun x => !(ds x && isVal (ρ.get x)))
 rw [e]
 cases h1 : ds x with
 | false => exact .inl rfl
 | true => cases h2 : isVal (ρ.get x) with
  | false => exact .inl rfl
  | true => exact .inr ⟨rfl, rfl⟩
theorem Rel.drop {h : Heap} (R : Rel W F h env ρ ad) (ds : Str -> Bool) : Rel W F h env (ρ.drop ds) ad where
 kind := ⟨R.kind.fn, R.kind.glo, R.kind.blt, R.kind.loc, R.kind.cell, R.kind.free, R.kind.glob, R.kind.apart, R.kind.cellF, R.kind.lam⟩
 ns := R.ns
 nsF := R.nsF
 nsT := R.nsT
 var := fun x sl e => by
  rcases afF (ds := ds) (ρ := ρ) (x := x) with q | ⟨q, _⟩
  · exact R.var x sl (q ▸ e)
  · rw [q] at e; cases e
 cells := R.cells
 own := fun x a e => by
  obtain ⟨q1, q2, q3, q4, q5, q6⟩ := R.own x a e
  refine ⟨?_, q2, q3, q4, q5, q6⟩
  rcases afF (ds := ds) (ρ := ρ) (x := x) with q | ⟨_, q⟩
  · rw [q]; exact q1
  · cases e' : ρ.get x with
    | none => rw [e'] at q; cases q
    | some sl => rw [e'] at q q1; cases sl <;> first | exact Bool.noConfusion q | exact Bool.noConfusion q1
 inj := R.inj
 cl := R.cl
 frm := R.frm
theorem ag7 (H : XsOK W k S.xs) {d : Str -> Bool} (b : List Stmt) (ρ : CE) (r : FC) (ρ' : CE) (h : S.xssD d b ρ = some (r, ρ'))
 (A : Around) (env : Env) (F : FH) (s : Shared) (ad : Str -> Option Addr) (Rm : Room A k) (I : Inv W F s) (R : Rel W F s.heap env ρ ad) (Q : Flow -> Shared -> Prop) (E : VP) (hQ : XsPost W env ad F s r ρ' Q) :
 wpAny (model W.prog W.w) A (execs b env) Q E s := by
 unfold SM.xssD at h
 cases e : S.xss b ρ with
 | none => rw [e] at h; exact aab h
 | some q =>
  obtain ⟨f, ρ1⟩ := q
  rw [e] at h; cases h
  exact aep H b ρ r ρ1 e A env F s ad Rm I R Q E fun fl F1 s1 ad1 S1 R1 sub1 r1 => hQ fl F1 s1 ad1 S1 (R1.drop d) sub1 r1
inductive ForJ (W : Wd) (env : Env) (ad : Str -> Option Addr) (F F1 : FH) (s : Shared) (lp : List CV -> CE -> Option (FC × CE)) (z : Option (FC × CE)) (cs : List CV) (n : Nat) (St : Nat -> Heap -> Prop) (wr : List Addr) (m : Nat) (s' : Shared) : Prop
 | mk (i : Nat) (ρi : CE) (Fi : FH) (adi : Str -> Option Addr) (h1 : m = n - i) (h2 : i ≤ n) (h3 : lp (cs.drop i) ρi = z) (h4 : St i s'.heap)
  (h5 : Stp W (frmA env ad) F Fi s s') (h6 : ∀ a o, F1 a = some o -> Fi a = some o) (h7 : Rel W Fi s'.heap env ρi adi) (h8 : ∀ x a, adi x = some a -> ad x = some a ∨ Fre s.heap a) (h9 : ∀ b ∈ wr, Fi b = none)
noncomputable def fS (S : SM) (d : Str -> Bool) (t : Expr) (b : List Stmt) (c : CV) (ρ : CE) : Option (FC × CE) := match bindT t c ρ with | some ρ => S.xssD d b ρ | none => none
theorem Rel.notFields {ad ad' : Str -> Option Addr} {s : Shared} (R : Rel W F s.heap env ρ ad) (sub : ∀ x a, ad' x = some a -> ad x = some a) {a : Addr} (hd : ∃ o, s.heap.get? a = some o ∧ RecO o) : ¬ frmA env ad' a := fun q => by
 obtain ⟨o, e, d⟩ := hd
 rcases q with ⟨x, q⟩ | q | ⟨_, x, _, q⟩
 · obtain ⟨q1, _⟩ := R.own x a (sub x a q)
   obtain ⟨o', ho⟩ := Option.isSome_iff_exists.mp q1
   obtain ⟨a', e', _, r'⟩ := acf R ho
   rw [sub x a q] at e'; cases e'
   obtain ⟨ob, e3, hnd⟩ := r'.data
   rw [e] at e3; cases e3
   exact hnd d
 · obtain ⟨m, o', es, ep, e', d', _⟩ := R.ns
   rw [q, e'] at e; cases e; exact RecO.noDict d' d
 · obtain ⟨u, o', e', d'⟩ := R.cl x a q
   rw [e] at e'; cases e'; exact RecO.noCell d' d
set_option tactic.hygienic true
theorem amn (H : SmOK W k S) (hst : ∀ x p ρ, S.ev (.Starred x p) ρ = none) (hset : ∀ x kd p ρ, S.ev (.Set x kd p) ρ = none) (hG : GOK W k G) {d : Str -> Bool} {t e : Expr} {b : List Stmt} {pos : Pos} {cs : List CV} {r : FC} {ρ1 ρ' : CE}
 (h1 : S.items G true t e ρ = some (cs, ρ1))
 (h2 : loopL (fun c ρ => match bindT t c ρ with | some ρ => S.xssD d b ρ | none => none) cs ρ1 = some (r, ρ')) (Rm : Room A k)
 (I : Inv W F s) (R : Rel W F s.heap env ρ ad) {Q : Flow -> Shared -> Prop} (hQ : XsPost W env ad F s r ρ' Q) : wpAny (model W.prog W.w) A (exec (.For t e b [] pos) env) Q E s := by
 refine (fun z => wpAny_For (And.right z) (And.left z)) (afE H.ev hst hset hG h1 Rm I R A Rm.hh (Q := fun it s2 => codeAny (model W.prog W.w) A (.forLoop t it b [] env) (fun r s' => match r with | .ok f => Q f s' | .error e => cameBackBy (model W.prog W.w) A env E e s') s2)
  fun it F1 s1 ad1 S1 R1 sub1 hsrc => ?_)
 obtain ⟨I0, fp, wr, n, P, Md, St, rfl, hn, _, K, hst0, hwr, hshape, hfp, hitem⟩ := hsrc
 let J : Nat -> Shared -> Prop := ForJ W env ad F F1 s (loopL (fS S d t b)) (some (r, ρ')) cs n St wr
 refine codeAny_forLoop_any J ?_ n ⟨0, ρ1, F1, ad1, rfl, Nat.zero_le _, by rw [List.drop_zero]; exact h2, hst0, aax S1, fun _ _ e => e, R1, fun x a q => .inl (sub1 x a q), fun b hb => (hwr b hb).2.1⟩
 rintro m s' ⟨i, ρi, Fi, adi, rfl, hi, hl, hSt, Si, hFi, Ri, subi, hFw⟩
 have hws : ∀ a, a ∈ wr -> ∃ o, s'.heap.get? a = some o ∧ RecO o := fun a ha => hshape i _ hSt a ha
 have hfr : ∀ f, env.frame = some f -> ¬ f ∈ wr := fun f e q => let ⟨_, z⟩ := R.frm f e; (hwr f q).1.ne z rfl
 have hwx : ∀ a, a ∈ wr -> Fre s.heap a ∧ Fi a = none ∧ ¬ W.T a := fun a ha => ⟨(hwr a ha).1, hFw a ha, (hwr a ha).2.2⟩
 by_cases hlt : i < n
 · have hlt' : i < cs.length := hn ▸ hlt
   have hdr : cs.drop i = cs[i] :: cs.drop (i + 1) := List.drop_eq_getElem_cons hlt'
   rw [hdr] at hl
   refine K.item i _ _ _ hlt hSt fun v h1z tk1 hMd hk1 => ?_
   refine K.go i v _ _ _ hMd fun h2z hP hSt2 hk2 => ?_
   have hk : ∀ a o, a ∉ wr -> s'.heap.get? a = some o -> h2z.get? a = some o := fun a o ha e => hk2 a o ha (hk1 a o ha e)
   have S2 : Stp W (frmA env ad) F Fi s { s' with heap := h2z, toks := tk1 } := Si.past (wr := (· ∈ wr)) hwx hk
   have R2 : Rel W Fi h2z env ρi adi := Ri.raw (wr := (· ∈ wr)) hk hws hfr
   have hci : cs[i]? = some cs[i] := List.getElem?_eq_getElem hlt'
   have hit : ItemR W Fi h2z cs[i] v := (hitem i v h2z cs[i] (fun a o e => S2.inv.frz a o (hFi a o e)) hP hci).mono hFi
   refine hid fun z5 => ?_
   refine Mine.D.el (.opt2 (fS S d t b cs[i] ρi) fun f ρ => .raw (match f with
    | .next => loopL (fS S d t b) (cs.drop (i + 1)) ρ
    | .cont => loopL (fS S d t b) (cs.drop (i + 1)) ρ
    | .brk => some (.next, ρ)
    | .ret v => some (.ret v, ρ))) hl (C := fun a b => ∀ q, q = some (a, b) -> q = some (r, ρ')) (fun _ h => h) fun f ρ3 hx z hz hl => ?_
   replace hl := hl _ hz
   refine Mine.D.el (.opt (bindT t cs[i] ρi) fun ρ => .raw (S.xssD d b ρ)) hx (C := fun a b => ∀ q, q = some (a, b) -> q = some (f, ρ3)) (fun _ h => h) fun ρ2 hb z hz hx => ?_
   replace hx := hx _ hz
   refine z5 (afA (s := { s' with heap := h2z, toks := tk1 }) hb Rm.hh S2.inv R2 hit fun s3 ad3 S3 R3 sub3 => ?_)
   have sub3' : ∀ x a, ad3 x = some a -> ad x = some a ∨ Fre s.heap a := fun x a q => subi x a (sub3 x a q)
   have S23 : Stp W (frmA env ad) F Fi s s3 := S2.trans S3 (aaN subi)
   have out : ∀ a, a ∈ wr -> ¬ frmA env ad3 a := fun a ha => R2.notFields (s := { s' with heap := h2z, toks := tk1 }) sub3 (hshape (i + 1) _ hSt2 a ha)
   have out' : ∀ a, a ∈ fp -> ∀ (F4 : FH) (s4 : Shared), Stp W (frmA env ad3) Fi F4 s3 s4 -> ∀ o, h2z.get? a = some o -> s4.heap.get? a = some o := fun a ha F4 s4 S4 o e => by
    refine hid fun z7 => ?_
    rcases hfp a ha with hw | ⟨_, o', hf⟩ | ⟨q, _⟩
    · have nT := (hwr a hw).2.2
      have n2 : ¬ frmA env adi a := Ri.notFields (fun _ _ e => e) (hws a hw)
      refine z7 ?_
      exact S4.keep a o (S3.keep a o e n2 nT) (out a hw) nT
    · have h3 : h2z.get? a = some o' := S2.inv.frz a o' (hFi a o' hf)
      rw [e] at h3; cases h3
      refine z7 ?_
      exact S4.inv.frz a o (S4.sub a o (hFi a o hf))
    · cases q
   have go : ∀ (F4 : FH) (s4 : Shared) (ad4 : Str -> Option Addr), Stp W (frmA env ad3) Fi F4 s3 s4 -> Rel W F4 s4.heap env ρ3 ad4 -> (∀ x a, ad4 x = some a -> ad3 x = some a ∨ Fre s3.heap a) ->
    loopL (fS S d t b) (cs.drop (i + 1)) ρ3 = some (r, ρ') -> ∃ m, m < n - i ∧ J m s4 := fun F4 s4 ad4 S4 R4 sub4 hl' => by
    refine ⟨n - (i + 1), Nat.sub_lt_sub_left hlt (Nat.lt_succ_self i), i + 1, ρ3, F4, ad4, rfl, hlt, hl', K.frame _ _ _ hSt2 fun a ha o e => out' a ha F4 s4 S4 o e, S23.trans S4 (aaN sub3'), fun a o e => S4.sub a o (hFi a o e), R4, fun x a q => ?_, fun a ha => ?_⟩
    · rcases sub4 x a q with q | q
      · exact sub3' x a q
      · exact .inr (S23.back q)
    · cases e : F4 a with
      | none => rfl
      | some o =>
       rcases S4.new a o e with q | q | q
       · rw [hFw a ha] at q; cases q
       · exact absurd q (out a ha)
       · obtain ⟨o', e', _⟩ := hshape (i + 1) _ hSt2 a ha
         obtain ⟨o'', e''⟩ := S3.there (s := { s' with heap := h2z, toks := tk1 }) e'
         exact absurd rfl (q.ne e'')
   refine ag7 H.xs b ρ2 f ρ3 hx A env Fi s3 ad3 Rm S3.inv R3 _ _ fun fl F4 s4 ad4 S4 R4 sub4 r4 => ?_
   have sub4' : ∀ x a, ad4 x = some a -> ad x = some a ∨ Fre s.heap a := fun x a q => (sub4 x a q).elim (sub3' x a) fun z => .inr (S23.back z)
   refine hid fun z8 => ?_
   cases f with
   | next =>
    obtain rfl : fl = .next := r4
    refine z8 ?_
    exact go F4 s4 ad4 S4 R4 sub4 hl
   | cont =>
    obtain rfl : fl = .cont := r4
    refine z8 ?_
    exact go F4 s4 ad4 S4 R4 sub4 hl
   | brk =>
    obtain rfl : fl = .brk := r4
    cases hl
    refine z8 ?_
    exact hQ _ F4 s4 ad4 (S23.trans S4 (aaN sub3')) R4 sub4' rfl
   | ret c =>
    obtain ⟨v', rfl, rv⟩ := r4
    cases hl
    refine z8 ?_
    exact hQ _ F4 s4 ad4 (S23.trans S4 (aaN sub3')) R4 sub4' ⟨v', rfl, rv⟩
 · have hin : i = n := Nat.le_antisymm hi (Nat.not_lt.mp hlt)
   have hdr : cs.drop i = [] := by rw [hin, hn]; exact List.drop_length
   rw [hdr] at hl
   refine hid fun z9 => ?_
   cases hl
   refine z9 ?_
   refine K.done _ _ _ (hin ▸ hSt) fun h1z tk1 hk1 => wpAny_execs_nil ?_
   exact hQ .next Fi _ adi (Si.past (wr := (· ∈ wr)) hwx fun a o ha e => hk1 a o ha e) (Ri.raw (wr := (· ∈ wr)) (fun a o ha e => hk1 a o ha e) hws hfr) subi rfl
end
section
variable {prog : Program} {w : World} {s : Shared} {env : Env} {A : Around} {E : VP} {R : Result -> Shared -> Prop}
noncomputable def testsS (ifs : List Expr) (env : Env) : Sem Bool :=
 forIn ifs true fun c r => if r = true then do let ok <- isTrue c env (eval c env); pure (ForInStep.yield ok) else pure (ForInStep.yield r)
set_option tactic.hygienic false
theorem adU {elt : Expr} {gens : List Comprehension} {scope : Scope} {pos : Pos} {d : Nat} {it acc : Value} {g : Comprehension} (hg : gens[d]? = some g) (ha : g.is_async = 0)
 (h0 : codeAny (model prog w) A (.compLoop (.ListComp elt gens scope pos) d it acc env) R s)
 (h : wpAny (model prog w) A (pyIter it) (fun it' s' => codeAny (model prog w) A (.compLoop (.ListComp elt gens scope pos) d it' acc env) R s') (notedBy (model prog w) A env fun x s' => R (.error x) s') s) :
 codeAny (model prog w) A (.compStart (.ListComp elt gens scope pos) d it acc env) R s := by
 have hc : (clausesOf (.ListComp elt gens scope pos))[d]? = some g := hg
 refine codeAny_of_tree ?_
 show wpAny _ _ ((compStart (.ListComp elt gens scope pos) d it acc env).onRaise (fun x => do noteFrame x env; standAt theWindowsPlace)) _ _ s
 refine wpAny_notedAt ?_
 unfold compStart
 rw [hc]
 simp only [Option.elim, ha]
 show wpAny _ _ (ask >>= _) _ _ s
 refine wpAny_bind (wpAny_askSetting (wpAny_ite ?_))
 split
 · first
    | exact wpAny_bind (wpAny_pure (wpAny_pure (And.intro rfl h0)))
    | exact wpAny_pure (And.intro rfl h0)
 · first
    | exact wpAny_bind (wpAny_rule (wpAny_bind (wpAny_standAt (wpAny_bind (wpAny_mono h (fun it' s' h' => wpAny_pure (And.intro rfl h')) fun _ _ x => x)))))
    | (refine wpAny_bind (wpAny_rule ?_); show wpAny _ _ (standAt g.iter.pos >>= _) _ _ s; exact wpAny_bind (wpAny_standAt (wpAny_bind (wpAny_mono h (fun it' s' h' => wpAny_pure (And.intro rfl h')) fun _ _ x => x))))
set_option tactic.hygienic true
theorem aeq {elt : Expr} {scope : Scope} {pos : Pos} {it acc : Value} {g : Comprehension} (ha : g.is_async = 0) (I : Nat -> Shared -> Prop)
 (turn : ∀ n s, I n s -> wpAny (model prog w) A (pyNext it) (fun r s1 => match r with
  | none => R (.ok .next) s1
  | some v => wpAny (model prog w) A (letOwnedTupleGo g.target it v) (fun _ s1' => wpAny (model prog w) A (assign g.target env v) (fun _ s2 =>
   wpAny (model prog w) A (testsS g.ifs env) (fun ok s3 => match ok with
    | false => ∃ m, m < n ∧ I m s3
    | true => wpAny (model prog w) A (eval elt env) (fun x s4 => wpAny (model prog w) A (call (.builtin "list.append") [acc, x]) (fun _ s5 => ∃ m, m < n ∧ I m s5) (notedBy (model prog w) A env fun e s' => R (.error e) s') s4)
     (notedBy (model prog w) A env fun e s' => R (.error e) s') s3)
    (notedBy (model prog w) A env fun e s' => R (.error e) s') s2) (notedBy (model prog w) A env fun e s' => R (.error e) s') s1') (notedBy (model prog w) A env fun e s' => R (.error e) s') s1)
  (notedBy (model prog w) A env fun e s' => R (.error e) s') s)
 (n : Nat) (h : I n s) : codeAny (model prog w) A (.compLoop (.ListComp elt [g] scope pos) 0 it acc env) R s := by
 refine codeAny_loop rfl I (fun n s hI => ?_) n h
 show wpAny _ A ((compTurn (.ListComp elt [g] scope pos) 0 it acc env).onRaise (fun x => do noteFrame x env; theTreesLotGoes x)) _ _ s
 refine wpAny_noted ?_
 unfold compTurn
 simp only [List.getElem?_cons_zero, ha, bne_self_eq_false, Bool.false_eq_true, if_false]
 refine wpAny_bind (wpAny_standAt (wpAny_bind (wpAny_mono (turn n s hI) (fun r s1 h1 => ?_) fun _ _ h' => h')))
 cases r with
 | none => exact wpAny_pure h1
 | some v =>
  refine wpAny_bind (wpAny_mono h1 (fun _ s1' h1' => ?_) fun _ _ h' => h')
  refine wpAny_bind (wpAny_mono h1' (fun _ s2 h2 => wpAny_bind (wpAny_mono h2 (fun ok s3 h3 => ?_) fun _ _ h' => h')) fun _ _ h' => h')
  cases ok with
  | false => exact wpAny_pure ⟨rfl, h3⟩
  | true =>
   dsimp only at h3
   simp only [if_true]
   exact wpAny_bind (wpAny_bind (wpAny_mono h3 (fun x s4 h4 => wpAny_bind (wpAny_mono h4 (fun _ s5 h5 => wpAny_pure (wpAny_pure ⟨rfl, h5⟩)) fun _ _ h' => h')) fun _ _ h' => h'))
end
section
variable {W : Wd} {F F' : FH} {s s' : Shared} {env : Env} {ρ : CE} {ad : Str -> Option Addr} {M : Addr -> Prop} {A : Around} {E : VP} {G : GE} {k : Nat} {S : SM}
set_option tactic.hygienic false
theorem aig (H : ItOK W k S.it) {ifs : List Expr} {b : Bool} {ρ' : CE} (h : ifsL S ifs ρ = some (b, ρ')) (Rm : Room A k) (I : Inv W F s) (R : Rel W F s.heap env ρ ad) {Q : Bool -> Shared -> Prop} (hQ : ItPost W env ad F s b ρ' Q) :
 wpAny (model W.prog W.w) A (testsS ifs env) Q E s := by
 unfold testsS
 refine wpAny_forIn_list _ (fun rest t s' => (t = false ∧ Q false s') ∨ (t = true ∧ ∃ ρi Fi adi, ifsL S rest ρi = some (b, ρ') ∧ Stp W (ownA ad) F Fi s s' ∧ Rel W Fi s'.heap env ρi adi ∧ ∀ x a, adi x = some a -> ad x = some a)) Q ?_ ?_ ifs true
  (.inr ⟨rfl, ρ, F, ad, h, .refl I, R, fun _ _ e => e⟩)
 · rintro x rest t s' (⟨rfl, q⟩ | ⟨rfl, ρi, Fi, adi, hl, Si, Ri, subi⟩)
   · exact wpAny_pure (.inl ⟨rfl, q⟩)
   · rw [aiw] at hl
     refine hid fun z0 => ?_
     cases h1 : S.it x ρi with
     | none => rw [h1] at hl; cases hl
     | some p =>
      obtain ⟨t, ρ1⟩ := p
      rw [h1] at hl
      refine z0 ?_
      refine wpAny_bind (H x ρi t ρ1 h1 A env Fi s' adi Rm Si.inv Ri _ _ fun F1 s1 ad1 S1 R1 sub1 => wpAny_pure ?_)
      have S' : Stp W (ownA ad) F F1 s s1 := Si.trans S1 (aai subi)
      have sub' : ∀ x a, ad1 x = some a -> ad x = some a := fun x a q => subi x a (sub1 x a q)
      refine hid fun z1 => ?_
      cases t with
      | true => refine z1 ?_; exact .inr ⟨rfl, ρ1, F1, ad1, hl, S', R1, sub'⟩
      | false => cases hl; refine z1 ?_; exact .inl ⟨rfl, hQ F1 s1 ad1 S' R1 sub'⟩
 · rintro t s' (⟨rfl, q⟩ | ⟨rfl, ρi, Fi, adi, hl, Si, Ri, subi⟩)
   · exact q
   · cases hl; exact hQ Fi s' adi Si Ri subi
noncomputable def noAd : Str -> Option Addr := fun _ => none
theorem aeX {ad : Str -> Option Addr} (h : ∀ x a, ad x = some a -> noAd x = some a) : ad = noAd := funext fun x => by
 cases e : ad x with
 | none => rfl
 | some a => cases h x a e
theorem abu (a : Addr) : ¬ ownA noAd a := fun ⟨_, e⟩ => by cases e
inductive SrcIn (W : Wd) (A : Around) (F : FH) (C D : Addr) (hB : Heap) (target : Expr) (it : Value) (cs : List CV) (s : Shared) : Prop
 | mk (I : Addr) (fp wr : List Addr) (n : Nat) (P Md : Nat -> Value -> Heap -> Prop) (St : Nat -> Heap -> Prop) (h1 : it = .ref I) (h2 : n = cs.length)
  (h3 : ∀ i (s : Shared) (Q : VP) (E : VP), St i s.heap -> Q (.ref I) s -> wpAny (model W.prog W.w) A (pyIter (.ref I)) Q E s)
  (h4 : PySem.W.KTurns W.prog W.w A target I fp wr n P Md St) (h5 : St 0 s.heap)
  (h6 : ∀ b ∈ wr, Fre hB b ∧ F b = none ∧ ¬ W.T b) (h7 : ∀ i h, St i h -> ∀ b ∈ wr, ∃ o, h.get? b = some o ∧ RecO o)
  (h8 : ∀ b ∈ fp, b ≠ D ∧ b ≠ C ∧ ¬ W.T b) (h9 : ∀ i v h c, (∀ a o, F a = some o -> h.get? a = some o) -> P i v h -> cs[i]? = some c -> ItemR W F h c v)
inductive CompJ (W : Wd) (MB : Addr -> Prop) (FB F : FH) (sB : Shared) (cenv : Env) (D : Addr) (Z : FH -> Shared -> Prop) (lp : List CV -> CE -> List CV -> Option (List CV × CE)) (z : Option (List CV × CE)) (cs : List CV) (n : Nat) (St : Nat -> Heap -> Prop) (wr : List Addr) (m : Nat) (s' : Shared) : Prop
 | mk (i : Nat) (ρi : CE) (acci : List CV) (Fi : FH) (vsi : List Value) (h1 : m = n - i) (h2 : i ≤ n) (h3 : lp (cs.drop i) ρi acci = z) (h4 : St i s'.heap) (h5 : Stp W MB FB Fi sB s')
  (h6 : ∀ a o, F a = some o -> Fi a = some o) (h7 : Rel W Fi s'.heap cenv ρi noAd) (h8 : Fi D = none) (h9 : s'.heap.PlainList D vsi.toArray) (h10 : RVs W.prog W.w Fi acci vsi) (h11 : ∀ b ∈ wr, Fi b = none) (h12 : Z Fi s')
set_option tactic.hygienic true
theorem ag8 (H : SmOK W k S) {elt : Expr} {g : Comprehension} {sc : Scope} {pos : Pos} {D : Addr} {cenv : Env}
 (hfr : cenv.frame ≠ some cenv.locals) (hDC1 : D + 1 = cenv.locals) (hDT : ¬ W.T D) (Rm : Room A k) (hasy : g.is_async = 0)
 {MB : Addr -> Prop} (hMB : ∀ a, (a = cenv.locals ∨ a = D) -> MB a) {Z : FH -> Shared -> Prop}
 (hZ1 : ∀ F s h' tk (wr : List Addr), Z F s -> (∀ f, cenv.frame = some f -> f ∉ wr) -> (∀ a o, a ∉ wr -> s.heap.get? a = some o -> h'.get? a = some o) -> (∀ a, a ∈ wr -> ∃ o, s.heap.get? a = some o ∧ RecO o) -> Z F { s with heap := h', toks := tk })
 (hZ2 : ∀ F F' s s', Z F s -> Inv W F s -> Stp W (fun a => a = cenv.locals ∨ a = D) F F' s s' -> Z F' s') {cs : List CV} {ρ ρ' : CE} {acc acc' : List CV} {FB F : FH} {sB s : Shared} {it : Value} {vs : List Value} {R : Result -> Shared -> Prop} (hacc : accL (compL S elt g) cs ρ acc = some (acc', ρ'))
 (SB : Stp W MB FB F sB s) (hfB : ∀ f, cenv.frame = some f -> ∃ o, sB.heap.get? f = some o) (RB : Rel W F s.heap cenv ρ noAd) (hFD : F D = none) (hD : s.heap.PlainList D vs.toArray) (hvs : RVs W.prog W.w F acc vs) (hsrc : SrcIn W A F cenv.locals D sB.heap g.target it cs s) (hZ0 : Z F s)
 (hR : ∀ F' s' vs', Stp W MB FB F' sB s' -> Z F' s' -> Rel W F' s'.heap cenv ρ' noAd -> F' D = none -> s'.heap.PlainList D vs'.toArray -> RVs W.prog W.w F' acc' vs' -> R (.ok .next) s') :
 codeAny (model W.prog W.w) A (.compLoop (.ListComp elt [g] sc pos) 0 it (.ref D) cenv) R s := by
 have hDC : D ≠ cenv.locals := fun q => by rw [<- hDC1] at q; exact (Nat.ne_of_lt (Nat.lt_succ_self _)) q
 obtain ⟨I0, fp, wr, n, P, Md, St, rfl, hn, hself, K, hst0, hwr, hshape, hfp, hitem⟩ := hsrc
 · let J : Nat -> Shared -> Prop := CompJ W MB FB F sB cenv D Z (accL (compL S elt g)) (some (acc', ρ')) cs n St wr
   refine aeq hasy J ?_ n ⟨0, ρ, acc, F, vs, rfl, Nat.zero_le _, by rw [List.drop_zero]; exact hacc, hst0, SB, fun _ _ e => e, RB, hFD, hD, hvs, fun b hb => (hwr b hb).2.1, hZ0⟩
   rintro m s' ⟨i, ρi, acci, Fi, vsi, rfl, hi, hl, hSt, Si, hFi, Ri, hFDi, hDi, hvi, hFw, hZi⟩
   have hDn : ∀ {h : Heap} {l : List Value}, h.PlainList D l.toArray -> ∀ a ∈ wr, (∃ o, h.get? a = some o ∧ RecO o) -> a ≠ D := fun {h l} hp a _ ⟨o, e, dd⟩ q => by
    obtain ⟨nn, e'⟩ := hp
    rw [q, e'] at e; cases e; exact RecO.noList ⟨nn, rfl⟩ dd
   have hws : ∀ a, a ∈ wr -> ∃ o, s'.heap.get? a = some o ∧ RecO o := fun a ha => hshape i _ hSt a ha
   have hwx : ∀ a, a ∈ wr -> Fre sB.heap a ∧ Fi a = none ∧ ¬ W.T a := fun a ha => ⟨(hwr a ha).1, hFw a ha, (hwr a ha).2.2⟩
   have hfrw : ∀ f, cenv.frame = some f -> ¬ f ∈ wr := fun f e q => let ⟨_, z⟩ := hfB f e; (hwr f q).1.ne z rfl
   by_cases hlt : i < n
   · have hlt' : i < cs.length := hn ▸ hlt
     have hdr : cs.drop i = cs[i] :: cs.drop (i + 1) := List.drop_eq_getElem_cons hlt'
     rw [hdr] at hl
     refine K.item i _ _ _ hlt hSt fun v h1 tk1 hMd hk1 => ?_
     refine K.go i v _ _ _ hMd fun h2 hP hSt2 hk2 => ?_
     have hk : ∀ a o, a ∉ wr -> s'.heap.get? a = some o -> h2.get? a = some o := fun a o ha e => hk2 a o ha (hk1 a o ha e)
     have S2 : Stp W MB FB Fi sB { s' with heap := h2, toks := tk1 } := Si.past (wr := (· ∈ wr)) hwx hk
     have R2 : Rel W Fi h2 cenv ρi noAd := Ri.raw (wr := (· ∈ wr)) hk hws hfrw
     have hD2 : h2.PlainList D vsi.toArray := hDi.at fun o e => hk D o (fun q => hDn hDi D q (hws D q) rfl) e
     have hci : cs[i]? = some cs[i] := List.getElem?_eq_getElem hlt'
     have hit : ItemR W Fi h2 cs[i] v := (hitem i v h2 cs[i] (fun a o e => S2.inv.frz a o (hFi a o e)) hP hci).mono hFi
     have frmC : ∀ a, frmA cenv noAd a -> a = cenv.locals ∨ a = D := fun a q => by
      rcases q with q | q | ⟨q, _⟩
      · exact absurd q (abu a)
      · exact .inl q
      · exact absurd q hfr
     have ownC : ∀ a, ownA noAd a -> a = cenv.locals ∨ a = D := fun a q => absurd q (abu a)
     have Dkeep : ∀ {Fa Fb : FH} {sa sb : Shared} {l : List Value}, Stp W (ownA noAd) Fa Fb sa sb -> Fa D = none -> sa.heap.PlainList D l.toArray -> Fb D = none ∧ sb.heap.PlainList D l.toArray := fun {Fa Fb sa sb l} X hf hp => by
      refine ⟨?_, hp.at fun o e => X.keep D o e (abu D) hDT⟩
      cases e : Fb D with
      | none => rfl
      | some o =>
       obtain ⟨nn, e'⟩ := hp
       rcases X.new D o e with q | q | q
       · rw [hf] at q; cases q
       · exact absurd q (abu D)
       · exact absurd rfl (q.ne e')
     have go : ∀ (F5 : FH) (s5 : Shared) (ρ5 : CE) (acc5 : List CV) (vs5 : List Value), Stp W (fun a => a = cenv.locals ∨ a = D) Fi F5 { s' with heap := h2, toks := tk1 } s5 -> Rel W F5 s5.heap cenv ρ5 noAd -> F5 D = none ->
      s5.heap.PlainList D vs5.toArray -> RVs W.prog W.w F5 acc5 vs5 -> accL (compL S elt g) (cs.drop (i + 1)) ρ5 acc5 = some (acc', ρ') -> ∃ m, m < n - i ∧ J m s5 := fun F5 s5 ρ5 acc5 vs5 T5 R5 hF5 hD5 hv5 hl5 => by
      refine ⟨n - (i + 1), Nat.sub_lt_sub_left hlt (Nat.lt_succ_self i), i + 1, ρ5, acc5, F5, vs5, rfl, hlt, hl5, K.frame _ _ _ hSt2 fun b hb o e => T5.keep b o e (fun q => q.elim (hfp b hb).2.1 (hfp b hb).1) (hfp b hb).2.2, S2.trans T5 fun a q => .inl (hMB a q),
       fun a o e => T5.sub a o (hFi a o e), R5, hF5, hD5, hv5, fun b hb => ?_, hZ2 _ _ _ _ (hZ1 Fi s' h2 tk1 wr hZi hfrw hk hws) S2.inv T5⟩
      cases e : F5 b with
      | none => rfl
      | some o =>
       have hb' := hfp b (K.sub b hb)
       rcases T5.new b o e with q | q | q
       · rw [hFw b hb] at q; cases q
       · exact absurd q fun q => q.elim hb'.2.1 hb'.1
       · obtain ⟨o', e', _⟩ := hshape (i + 1) _ hSt2 b hb
         exact absurd rfl (q.ne e')
     refine hid fun z10 => ?_
     refine Mine.D.el (.opt2 (compL S elt g cs[i] ρi acci) fun acc ρ => .raw (accL (compL S elt g) (cs.drop (i + 1)) ρ acc)) hl (C := fun a b => ∀ q, q = some (a, b) -> q = some (acc', ρ')) (fun _ h => h) fun acc5 ρ5 hstep z hz hl => ?_
     replace hl := hl _ hz
     refine Mine.D.el (.opt (bindT g.target cs[i] ρi) fun ρ => .opt2 (ifsL S g.ifs ρ) fun ok ρ => .raw (match ok with
      | false => some (acci, ρ)
      | true => match S.ev elt ρ with
       | some (.val v, ρ) => match Nat.ble acci.length LIM with
        | true => some (acci ++ [v], ρ)
        | false => none
       | _ => none)) hstep (C := fun a b => accL (compL S elt g) (cs.drop (i + 1)) b a = some (acc', ρ')) hl fun ρ2 hb ok ρ3 hi z hstep hl => ?_
     refine z10 ?_
     refine afA (s := { s' with heap := h2, toks := tk1 }) hb Rm.hh S2.inv R2 hit fun s3 ad3 S3 R3 sub3 => ?_
     have had3 := aeX sub3
     refine hid fun z12 => ?_
     subst had3
     have hD3 : s3.heap.PlainList D vsi.toArray := hD2.at fun o e => S3.keep D o e (fun q => by
      rcases q with q | q | ⟨q, _⟩
      · exact abu D q
      · exact hDC q
      · exact hfr q) hDT
     have T3 : Stp W (fun a => a = cenv.locals ∨ a = D) Fi Fi { s' with heap := h2, toks := tk1 } s3 := S3.weaken fun a q => .inl (frmC a q)
     refine z12 ?_
     refine aig H.it hi Rm S3.inv R3 fun F4 s4 ad4 S4 R4 sub4 => ?_
     have had4 := aeX sub4
     refine hid fun z14 => ?_
     subst had4
     obtain ⟨hF4, hD4⟩ := Dkeep S4 hFDi hD3
     have T4 : Stp W (fun a => a = cenv.locals ∨ a = D) Fi F4 { s' with heap := h2, toks := tk1 } s4 := T3.trans S4 fun a q => .inl (ownC a q)
     have hv4 : RVs W.prog W.w F4 acci vsi := RVs.mono _ _ S4.sub _ _ hvi
     cases ok with
     | false =>
      cases hstep
      refine z14 ?_
      exact go F4 s4 _ _ vsi T4 R4 hF4 hD4 hv4 hl
     | true =>
      refine z14 ?_
      refine Mine.D.el1 (.val (S.ev elt ρ3) fun v ρ => .grd (Nat.ble acci.length LIM) (.ret (acci ++ [v], ρ))) hstep (C := fun r => accL (compL S elt g) (cs.drop (i + 1)) r.2 r.1 = some (acc', ρ')) hl fun c ρ4 he hle hl => ?_
      refine H.ev elt ρ3 _ _ he A cenv F4 s4 noAd Rm S4.inv R4 _ _ fun u F5 s5 ad5 S5 R5 sub5 r5 => ?_
      have had5 := aeX sub5
      subst had5
      obtain ⟨hF5, hD5⟩ := Dkeep S5 hF4 hD4
      have hv5 : RVs W.prog W.w F5 acci vsi := RVs.mono _ _ S5.sub _ _ hv4
      refine wpAny_list_append_plain hD5 (fun h' hp' hb' => ?_) (by rw [List.size_toArray, hv5.len]; exact Nat.le_of_ble_eq_true hle)
      have hp'' : h'.PlainList D (vsi ++ [u]).toArray := by rw [List.push_toArray] at hp'; exact hp'
      have S6 : Stp W (· = D) F5 F5 s5 { s5 with heap := h', toks := s5.toks } := Stp.turn S5.inv hF5 hDT hb' (let ⟨nn, e⟩ := hp''; ⟨_, e⟩) s5.toks
      have T5 : Stp W (fun a => a = cenv.locals ∨ a = D) Fi F5 { s' with heap := h2, toks := tk1 } s5 := T4.trans S5 fun a q => .inl (ownC a q)
      have R6 : Rel W F5 h' cenv ρ4 noAd := R5.keep (s' := { s5 with heap := h', toks := s5.toks }) S5.inv S6 fun a q => by
       obtain rfl : a = D := q
       refine ⟨abu _, hDC, fun y e => ?_⟩
       obtain ⟨u', o', e', d'⟩ := R5.cl y _ e
       obtain ⟨nn, e''⟩ := hD5
       rw [e''] at e'; cases e'; cases d'
      exact go F5 _ _ _ (vsi ++ [u]) (T5.trans S6 fun a q => .inl (.inr q)) R6 hF5 hp'' (hv5.append (.one r5)) hl
   · have hin : i = n := Nat.le_antisymm hi (Nat.not_lt.mp hlt)
     have hd0 : cs.drop i = [] := by rw [hin, hn]; exact List.drop_length
     rw [hd0] at hl
     refine hid fun z32 => ?_
     cases hl
     refine z32 ?_
     refine K.done _ _ _ (hin ▸ hSt) fun h1 tk1 hk1 => ?_
     exact hR Fi _ vsi (Si.past (wr := (· ∈ wr)) hwx fun a o ha e => hk1 a o ha e) (hZ1 Fi s' h1 tk1 wr hZi hfrw (fun a o ha e => hk1 a o ha e) hws) (Ri.raw (wr := (· ∈ wr)) (fun a o ha e => hk1 a o ha e) hws hfrw) hFDi (hDi.at fun o e => hk1 D o (fun q => hDn hDi D q (hws D q) rfl) e) hvi
end
section
variable {W : Wd} {F F' : FH} {s s' : Shared} {env : Env} {ρ : CE} {ad : Str -> Option Addr} {M : Addr -> Prop} {A : Around} {E : VP} {G : GE} {k : Nat} {S : SM}
noncomputable def closOf (cells : List (Str × Addr)) : List (Str × NameKind) -> List (Str × Addr) -> List (Str × Addr)
 | [], cs => cs
 | (n, k) :: r, cs => closOf cells r (match k == .free with
  | true => (n, (cells.lookup n).getD 0) :: cs
  | false => cs)
set_option tactic.hygienic false
theorem acj (cells : List (Str × Addr)) (n : Str) (k : NameKind) (r : List (Str × NameKind)) (cs : List (Str × Addr)) : closOf cells ((n, k) :: r) cs = closOf cells r (match k == .free with | true => (n, (cells.lookup n).getD 0) :: cs | false => cs) := rfl
theorem ack {sc : Scope} (h : ∀ x ∈ sc.names, x.2 = .free -> ∃ ca, env.cells.lookup x.1 = some ca) : closureFor sc env = pure (closOf env.cells sc.names []) := by
 have key : ∀ (l : List (Str × NameKind)) (cs : List (Str × Addr)), (∀ x ∈ l, x.2 = .free -> ∃ ca, env.cells.lookup x.1 = some ca) ->
  (forIn l cs fun x r => match x with
   | (name, kind) => if (kind == NameKind.free) = true then do let a <- cellOf env name; pure (ForInStep.yield ((name, a) :: r)) else pure (ForInStep.yield r) : Sem (List (Str × Addr))) = pure (closOf env.cells l cs) := by
  intro l
  induction l with
  | nil => intro cs _; rfl
  | cons x r ih =>
   intro cs hl
   obtain ⟨n, kd⟩ := x
   rw [List.forIn_cons]
   dsimp only
   cases hk : kd == NameKind.free with
   | true =>
    obtain ⟨ca, hca⟩ := hl (n, kd) (.head _) (by simpa using hk)
    have hc : cellOf env n = pure ca := by
     have hca : env.cells.lookup n = some ca := hca
     unfold cellOf; rw [hca]
    simp only [if_true, hc, pure_bind]
    rw [ih _ fun y hy => hl y (.tail _ hy)]
    have hca : env.cells.lookup n = some ca := hca
    simp only [acj, hk, hca, Option.getD_some]
   | false =>
    simp only [Bool.false_eq_true, if_false, pure_bind]
    rw [ih _ fun y hy => hl y (.tail _ hy)]
    simp only [acj, hk]
 unfold closureFor
 simp only [bind_pure]
 exact key sc.names [] h
theorem acl {cells : List (Str × Addr)} : ∀ (l : List (Str × NameKind)) (cs : List (Str × Addr)) (n : Str) (a : Addr), (∀ x ∈ l, x.2 = .free -> ∃ ca, cells.lookup x.1 = some ca) -> (∀ n a, cs.lookup n = some a -> cells.lookup n = some a) ->
 (closOf cells l cs).lookup n = some a -> cells.lookup n = some a
 | [], cs, n, a, _, hcs, h => hcs n a h
 | (m, kd) :: r, cs, n, a, hl, hcs, h => by
  rw [acj] at h
  refine acl r _ n a (fun y hy => hl y (.tail _ hy)) ?_ h
  cases hk : kd == NameKind.free with
  | false => exact hcs
  | true =>
   obtain ⟨ca, hca⟩ := hl (m, kd) (.head _) (by simpa using hk)
   have hca : cells.lookup m = some ca := hca
   intro n' a' h'
   simp only [hca, Option.getD_some, List.lookup_cons] at h'
   cases hn : n' == m with
   | true => rw [hn] at h'; cases h'; rw [beq_iff_eq.mp hn]; exact hca
   | false => rw [hn] at h'; exact hcs n' a' h'
theorem adt {cells : List (Str × Addr)} : ∀ (l : List (Str × NameKind)) (cs : List (Str × Addr)) (n : Str), ((∃ a, cs.lookup n = some a) ∨ (n, NameKind.free) ∈ l) -> ∃ a, (closOf cells l cs).lookup n = some a
 | [], cs, n, h => by
  rcases h with h | h
  · exact h
  · cases h
 | (m, kd) :: r, cs, n, h => by
  rw [acj]
  refine adt r _ n ?_
  rcases h with ⟨a, h⟩ | h
  · left
    cases hk : kd == NameKind.free with
    | false => exact ⟨a, h⟩
    | true =>
     simp only [List.lookup_cons]
     cases hn : n == m with
     | true => exact ⟨_, rfl⟩
     | false => exact ⟨a, h⟩
  · rcases List.mem_cons.mp h with h | h
    · cases h
      left
      refine ⟨(cells.lookup m).getD 0, ?_⟩
      simp [List.lookup_cons]
    · exact .inr h
end
section
variable {W : Wd} {F F' : FH} {s s' : Shared} {env : Env} {ρ : CE} {ad : Str -> Option Addr} {M : Addr -> Prop} {A : Around} {E : VP} {G : GE} {k : Nat} {S : SM}
set_option tactic.hygienic false
theorem Rel.but (R : Rel W F s.heap env ρ ad) {h' : Heap} {C : Addr} (hk : ∀ a o, a ≠ C -> s.heap.get? a = some o -> h'.get? a = some o)
 (hL : env.locals < C) (ho : ∀ x a, ad x = some a -> a ≠ C) (hc : ∀ x a, env.cells.lookup x = some a -> a ≠ C) (hf : ∀ f, env.frame = some f -> f ≠ C) : Rel W F h' env ρ ad := by
 have kns : ∀ {m}, s.heap.Ns env.locals m -> h'.Ns env.locals m := fun ⟨o, es, ep, e, d, r⟩ => ⟨o, es, ep, hk _ o (Nat.ne_of_lt hL) e, d, r⟩
 have kcl : ∀ {x a v}, env.cells.lookup x = some a -> s.heap.IsCell a v -> h'.IsCell a v := fun {x a v} e ⟨o, q, d⟩ => ⟨o, hk a o (hc x a e) q, d⟩
 have kor : ∀ {o a}, a ≠ C -> OR W.prog W.w F s.heap o a -> OR W.prog W.w F h' o a := fun {o a} n r => r.mono _ _ (fun _ _ e => e) fun ob e => hk a ob n e
 refine ⟨R.kind, let ⟨m, n⟩ := R.ns; ⟨m, kns n⟩, R.nsF, R.nsT, fun x sl h => ?_, fun x h1 => ?_, fun x a e => ?_, R.inj, fun x a e => let ⟨v, c⟩ := R.cl x a e; ⟨v, kcl e c⟩,
  fun f e => let ⟨o, q⟩ := R.frm f e; ⟨o, hk f o (hf f e) q⟩⟩
 · obtain ⟨v, hv, hs⟩ := R.var x sl h
   refine ⟨v, ?_, ?_⟩
   · rcases hv with ⟨q, m, n, e⟩ | ⟨q, ca, c, y⟩
     · exact .inl ⟨q, m, kns n, e⟩
     · exact .inr ⟨q, ca, c, kcl c y⟩
   · cases sl with
     | val c => exact hs
     | own o => obtain ⟨a, e1, e2, e3⟩ := hs; exact ⟨a, e1, e2, kor (ho x a e2) e3⟩
     | bor o => obtain ⟨a, e1, e2, e3, e4⟩ := hs; exact ⟨a, e1, e2, kor (ho x a e2) e3, e4⟩
 · obtain ⟨ca, v0, e1, e2, e3, e4⟩ := R.cells x h1
   exact ⟨ca, v0, e1, kcl e1 e2, e3, e4⟩
 · obtain ⟨q1, q2, q3, q4, q5, o, q6⟩ := R.own x a e
   exact ⟨q1, q2, q3, q4, q5, o, hk a o (ho x a e) q6⟩
theorem adb {names : List (Str × NameKind)} {x : Str} {kd : NameKind} (h : names.lookup x = some kd) :
 (names.map fun (n, k) => if (k == NameKind.free && env.scope.kind == .function && env.kindOf n == some .cell) then (n, NameKind.cell) else (n, k)).lookup x =
  some (if (kd == NameKind.free && env.scope.kind == .function && env.kindOf x == some .cell) then NameKind.cell else kd) := by
 induction names with
 | nil => cases h
 | cons p r ih =>
  obtain ⟨n, k'⟩ := p
  simp only [List.lookup_cons] at h
  cases hx : x == n with
  | true =>
   rw [hx] at h
   cases h
   have e := beq_iff_eq.mp hx
   subst e
   simp only [List.map_cons]
   split <;> simp [List.lookup_cons]
  | false =>
   rw [hx] at h
   simp only [List.map_cons]
   split
   · simp only [List.lookup_cons, hx]; exact ih h
   · simp only [List.lookup_cons, hx]; exact ih h
end
section
variable {W : Wd} {F F' : FH} {s s' : Shared} {env : Env} {ρ : CE} {ad : Str -> Option Addr} {M : Addr -> Prop} {A : Around} {E : VP} {G : GE} {k : Nat} {S : SM}
set_option tactic.hygienic false
theorem aer {sl : Option Slot} {c : CV} (h : valC sl = some c) : sl = some (.val c) := by
 rcases sl with _ | ⟨⟨⟩⟩ <;> first | exact aab h | (cases h; rfl)
theorem ac4 : ∀ {l : List (Str × NameKind)} {r : List (Str × Slot)}, taken ρ l = some r -> ∀ {x : Str} {sl : Slot}, r.lookup x = some sl -> (x, NameKind.free) ∈ l ∧ isCellK (ρ.kind x) = true ∧ ∃ c, ρ.get x = some (.val c) ∧ sl = .val c
 | [], r, h, x, sl, hx => by cases h; cases hx
 | (n, kd) :: l, r, h, x, sl, hx => by
  cases kd with
  | free =>
   refine D.el1 (.grd (isCellK (ρ.kind n)) (.opt (valC (ρ.get n)) fun c => .opt (taken ρ l) fun l => .ret ((n, .val c) :: l))) h (C := fun r => r.lookup x = some sl) hx fun hc c h1 r' h2 hx => ?_
   rw [List.lookup_cons] at hx
   cases hn : x == n with
   | true =>
    rw [hn] at hx; cases hx
    obtain rfl := beq_iff_eq.mp hn
    exact ⟨.head _, hc, c, aer h1, rfl⟩
   | false =>
    rw [hn] at hx
    exact (ac4 h2 hx).imp (.tail _) id
  | _ => exact (ac4 (l := l) h hx).imp (.tail _) id
theorem acm : ∀ {l : List (Str × NameKind)} {r : List (Str × Slot)}, taken ρ l = some r -> ∀ {x : Str}, (x, NameKind.free) ∈ l -> isCellK (ρ.kind x) = true ∧ ∃ c, ρ.get x = some (.val c)
 | [], r, h, x, hx => by cases hx
 | (n, kd) :: l, r, h, x, hx => by
  cases kd with
  | free =>
   refine D.el1 (.grd (isCellK (ρ.kind n)) (.opt (valC (ρ.get n)) fun c => .opt (taken ρ l) fun l => .ret ((n, .val c) :: l))) h (C := fun _ => True) trivial fun hc c h1 r' h2 _ => ?_
   rcases List.mem_cons.mp hx with q | q
   · cases q; exact ⟨hc, c, aer h1⟩
   · exact acm h2 q
  | _ =>
   rcases List.mem_cons.mp hx with q | q
   · cases q
   · exact acm (l := l) h q
theorem afY {k : Option NameKind} (h : isCellK k = true) : k = some .cell ∨ k = some .free := by
 rcases k with _ | y
 · first | (cases h; done) | exact .inl rfl | exact .inr rfl
 cases y <;> first | (cases h; done) | exact .inl rfl | exact .inr rfl
theorem aeY (R : Rel W F s.heap env ρ ad) {x : Str} {sl : Slot} (hk : isCellK (ρ.kind x) = true) (h : ρ.get x = some sl) : ∃ ca v, env.cells.lookup x = some ca ∧ s.heap.IsCell ca (some v) ∧ SlotR W F s.heap ad x sl v := by
 refine hid fun z0 => ?_
 obtain ⟨v, hv, hs⟩ := R.var x sl h
 have hne : env.kindOf x ≠ some .local := by
  rcases afY hk with q | q
  · rw [R.kind.cell x q]; exact fun z => by cases z
  · rcases R.kind.free x q with z | z <;> rw [z] <;> exact fun z => by cases z
 rcases hv with ⟨q, _⟩ | ⟨_, ca, c, y⟩
 · exact absurd q hne
 · refine z0 ?_
   exact ⟨ca, v, c, y, hs⟩
end
section
variable {W : Wd} {F F' : FH} {s s' : Shared} {env : Env} {ρ : CE} {ad : Str -> Option Addr} {M : Addr -> Prop} {A : Around} {E : VP} {G : GE} {k : Nat} {S : SM}
set_option tactic.hygienic false
theorem adV {sc : Scope} (h : scOk sc = true) : sc.kind = .function ∧ (∀ x ∈ sc.names, x.2 ≠ .cell) ∧ ∀ x ∈ sc.names, sc.names.lookup x.1 = some x.2 := by
 unfold scOk at h
 simp only [Bool.and_eq_true, beq_iff_eq, List.all_eq_true, bne_iff_ne, ne_eq] at h
 exact ⟨h.1.1, h.1.2, h.2⟩
theorem aa8 {l : List (Str × NameKind)} {x : Str} {kd : NameKind} (h : l.lookup x = some kd) : (x, kd) ∈ l := by
 induction l with
 | nil => cases h
 | cons p r ih =>
  obtain ⟨n, k'⟩ := p
  simp only [List.lookup_cons] at h
  refine hid fun z1 => ?_
  cases hx : x == n with
  | true => rw [hx] at h; cases h; refine z1 ?_; rw [beq_iff_eq.mp hx]; exact .head _
  | false => rw [hx] at h; refine z1 ?_; exact .tail _ (ih h)
theorem akf (R : Rel W F s.heap env ρ ad) {sc : Scope} {l : List (Str × Slot)} (hsc : scOk sc = true) (hlam : lamS sc = false) (ht : taken ρ sc.names = some l) {h' : Heap} {C : Addr} (hk : ∀ a o, s.heap.get? a = some o -> h'.get? a = some o)
 (hC : Fre s.heap C) (hFC : F C = none) (hTC : ¬ W.T C) {m : Str -> Option Value} (hn : h'.Ns C m) :
 Rel W F h' (compEnvC sc (closOf env.cells sc.names []) C env) ⟨sc, l⟩ noAd ∧ env.frame ≠ some C := by
 refine hid fun z0 => ?_
 obtain ⟨h1, h2, h3⟩ := adV hsc
 have hfree : ∀ x ∈ sc.names, x.2 = .free -> ∃ ca, env.cells.lookup x.1 = some ca := fun x hx he => by
  obtain ⟨n, kd⟩ := x
  cases he
  obtain ⟨hc, sl, hg⟩ := acm ht hx
  obtain ⟨ca, v, e, _⟩ := aeY R hc hg
  exact ⟨ca, e⟩
 have hcl : ∀ n a, (closOf env.cells sc.names []).lookup n = some a -> env.cells.lookup n = some a := fun n a e => acl sc.names [] n a hfree (fun _ _ q => by cases q) e
 have kcl : ∀ {a v}, s.heap.IsCell a v -> h'.IsCell a v := fun {a v} ⟨o, e, d⟩ => ⟨o, hk a o e, d⟩
 have hkind : ∀ x kd, CE.kind ⟨sc, l⟩ x = some kd -> Env.kindOf (compEnvC sc (closOf env.cells sc.names []) C env) x =
  some (if (kd == NameKind.free && env.scope.kind == .function && env.kindOf x == some .cell) then NameKind.cell else kd) := fun x kd q => adb q
 have hnc : ∀ x, CE.kind ⟨sc, l⟩ x ≠ some .cell := fun x q => h2 _ (aa8 q) rfl
 refine z0 ?_
 refine ⟨⟨⟨?_, R.kind.glo, R.kind.blt, fun x q => ?_, fun x q => absurd q (hnc x), fun x q => ?_, fun x q => ?_, fun x y ca a b => R.kind.apart x y ca (hcl _ _ a) (hcl _ _ b), fun x q => absurd q (hnc x), fun q => ?_⟩,
  ⟨m, hn⟩, hFC, hTC, fun x sl q => ?_, fun x q => absurd q (hnc x), fun x a q => (by cases q), fun x y a q _ => (by cases q), fun x a q => ?_, fun f q => ?_⟩, fun q => ?_⟩
 · exact h1
 · rw [hkind x _ q]; rfl
 · rw [hkind x _ q]
   split
   · exact .inr rfl
   · exact .inl rfl
 · rw [hkind x _ q]; rfl
 · rw [show lamS sc = false from hlam] at q; cases q
 · refine hid fun z2 => ?_
   obtain ⟨hm, hc, c0, hg, rfl⟩ := ac4 ht q
   obtain ⟨ca, v, e, y, hs⟩ := aeY R hc hg
   have hkx : CE.kind ⟨sc, l⟩ x = some .free := h3 _ hm
   have hkk := hkind x _ hkx
   obtain ⟨a', ha'⟩ := adt (cells := env.cells) sc.names [] x (.inr hm)
   have hee := hcl _ _ ha'
   rw [e] at hee; cases hee
   refine z2 ?_
   refine ⟨v, .inr ⟨?_, ca, ha', kcl y⟩, ?_⟩
   · rw [hkk]
     split
     · exact .inl rfl
     · exact .inr rfl
   · exact hs
 · obtain ⟨v, y⟩ := R.cl x a (hcl _ _ q)
   exact ⟨v, kcl y⟩
 · obtain ⟨o, e⟩ := R.frm f q
   exact ⟨o, hk f o e⟩
 · obtain ⟨o, e⟩ := R.frm C q
   exact hC.ne e rfl
end
section
variable {W : Wd} {F F' : FH} {s s' : Shared} {env : Env} {ρ : CE} {ad : Str -> Option Addr} {M : Addr -> Prop} {A : Around} {E : VP} {G : GE} {k : Nat} {S : SM}
structure CompEnd (W : Wd) (env : Env) (ad : Str -> Option Addr) (F : FH) (s : Shared) (cs : List CV) (ρ' : CE) (D C : Addr) (F' : FH) (s' : Shared) (ad1 : Str -> Option Addr) : Prop where
 stp : Stp W (ownA ad) F F' s s'
 rel : Rel W F' s'.heap env ρ' ad1
 sub : ∀ x a, ad1 x = some a -> ad x = some a
 lst : OR W.prog W.w F' s'.heap (.list cs) D
 fd : F' D = none
 dD : Fre s.heap D
 dc : D ≠ C
 dC : Fre s.heap C
 loc : env.locals < C
 own : ∀ x a, ad1 x = some a -> a ≠ C
 cells : ∀ x a, env.cells.lookup x = some a -> a ≠ C
 frame : ∀ f, env.frame = some f -> f ≠ C
 fc : F' C = none
 tc : ¬ W.T C
 ns : ∃ m, s'.heap.Ns C m
set_option tactic.hygienic true
theorem aes (H : SmOK W k S) (hst : ∀ x p ρ, S.ev (.Starred x p) ρ = none) (hset : ∀ x kd p ρ, S.ev (.Set x kd p) ρ = none) (hG : GOK W k G) {elt : Expr} {g : Comprehension} {sc : Scope} {pos : Pos}
 {cs : List CV} {ρ' : CE} (h : S.comp G elt [g] sc ρ = some (cs, ρ')) (Rm : Room A k) (I : Inv W F s) (R : Rel W F s.heap env ρ ad) {use : Option (Value -> Sem Unit)} {Q : VP} {newPos : Pos}
 (hQ : ∀ D C F' s' ad1, CompEnd W env ad F s cs ρ' D C F' s' ad1 -> compPost (model W.prog W.w) A E use Q (.ref D) C (.ok .next) s') :
 wpAny (model W.prog W.w) A (comprehension (.ListComp elt [g] sc pos) sc env newPos (newList []) false (eval g.iter env) use) Q E s := by
 refine hid fun z0 => ?_
 refine Mine.D.el (.grd (scOk sc && !lamS sc && g.is_async == 0) (.opt (taken ρ sc.names) fun _ => .opt2 (S.items G false g.target g.iter ρ) fun cs ρ => .opt (taken ρ sc.names) fun l => .opt2 (accL (compL S elt g) cs ⟨sc, l⟩ []) fun acc _ => .ret (acc, ρ))) h
  (C := fun cs ρ' => ∀ D C F' s' ad1, CompEnd W env ad F s cs ρ' D C F' s' ad1 -> compPost (model W.prog W.w) A E use Q (.ref D) C (.ok .next) s') hQ fun hok l0 ht0 its ρ1 hit l ht acc ρ2 hacc hQ => ?_
 · simp only [Bool.and_eq_true, beq_iff_eq, Bool.not_eq_true'] at hok
   obtain ⟨⟨hsc, hlam⟩, hasy'⟩ := hok
   have hsc' := adV hsc
   have hfree : ∀ x ∈ sc.names, x.2 = .free -> ∃ ca, env.cells.lookup x.1 = some ca := fun x hx he => by
    obtain ⟨n, kd⟩ := x
    cases he
    obtain ⟨hc, c0, hg⟩ := acm ht0 hx
    obtain ⟨ca, v, e, _⟩ := aeY R hc hg
    exact ⟨ca, e⟩
   refine z0 ?_
   refine (fun z => wpAny_comprehension_free rfl (And.left z) (ack hfree) hsc'.1 (fun x hx e => (hsc'.2.2 x hx).trans (congrArg some e)) (And.right z)) (afE (A := A) (E := E) H.ev hst hset hG hit Rm I R A Rm.hh (Q := fun it s2 => wpAny (model W.prog W.w) A (newList []) (fun acc s3 =>
    wpAny (model W.prog W.w) A (newFunctionEnv sc env.globals (closOf env.cells sc.names []) [] env.qual none .none (some env)) (fun cenv s4 =>
     codeAny (model W.prog W.w) A (.compStart (.ListComp elt [g] sc pos) 0 it acc { cenv with scope := relabel sc env }) (compPost (model W.prog W.w) A E use Q acc cenv.locals) s4) E s3) E s2)
    (fun it F1 s1 ad1 S1 R1 sub1 hsrc => ?_))
   · refine wpAny_newObj_type (wpAny_newFunctionEnv hsc'.2.1 (by intro y hy; simp at hy) (fun h1 hns1 hsb1 => ?_) hsc'.1)
     dsimp only at hns1 hsb1 ⊢
     generalize hH2 : s1.heap.push { cls := .type "list", dict := none, data := .seq ([] : List Value).toArray } = H2 at hns1 hsb1 ⊢
     have hC : H2.objs.size = s1.heap.objs.size + 1 := by rw [<- hH2, Heap.size_push]
     generalize hCC : H2.objs.size = C at hns1 hsb1 hC ⊢
     generalize hDD : s1.heap.objs.size = D at hC ⊢
     have hDC : D ≠ C := by rw [hC]; exact Nat.ne_of_lt (Nat.lt_succ_self _)
     have fD : Fre s1.heap D := Fre.size _ (hDD ▸ Nat.le_refl _)
     have fC : Fre s1.heap C := Fre.size _ (by rw [hDD, hC]; exact Nat.le_succ _)
     have old : ∀ b o, s1.heap.get? b = some o -> h1.get? b = some o := fun b o e => hsb1.extBut b o (fun q => fC.ne e q.symm) (Heap.get?_push_of_some _ (hH2 ▸ Heap.get?_push_of_some _ e))
     have hacc1 : h1.PlainList D #[] := ⟨_, hsb1.extBut _ _ hDC (Heap.get?_push_of_some _ (by rw [<- hH2, <- hDD]; exact Heap.get?_push_size _ rfl))⟩
     obtain ⟨compR, frC⟩ := akf R1 hsc hlam ht old fC (S1.inv.fresh fC) (S1.inv.tabOld fC) hns1
     generalize hs3 : ({ s1 with heap := h1, toks := s1.toks + ([] : List (Str × Value)).length } : Shared) = s3
     have hs3h : s3.heap = h1 := by rw [<- hs3]
     have S2 : Stp W (fun _ => False) F1 F1 s1 s3 := by rw [<- hs3]; exact Stp.ofKeep S1.inv old
     have R3 : Rel W F1 s3.heap env ρ1 ad1 := R1.keep0 S1.inv S2
     have S13 : Stp W (fun a => ownA ad a ∨ a = C ∨ a = D) F F1 s s3 := (S1.trans S2 fun _ q => q.elim).weaken fun a q => .inl (.inl q)
     refine hid fun z2 => ?_
     obtain ⟨mL, oL, esL, epL, eL, rL⟩ := R1.ns
     have locD : env.locals < D := hDD ▸ Heap.lt_size eL
     have locC : env.locals < C := hC ▸ Nat.lt_succ_of_lt locD
     have ownC : ∀ x a, ad1 x = some a -> a ≠ C ∧ a ≠ D := fun x a e => by
      obtain ⟨_, _, _, _, _, o, q⟩ := R1.own x a e
      exact ⟨fun z => fC.ne q z.symm, fun z => fD.ne q z.symm⟩
     have cellC : ∀ x a, env.cells.lookup x = some a -> a ≠ C ∧ a ≠ D := fun x a e => by
      obtain ⟨v, o, q, _⟩ := R1.cl x a e
      exact ⟨fun z => fC.ne q z.symm, fun z => fD.ne q z.symm⟩
     have Z2 : ∀ F F' s s', Rel W F s.heap env ρ1 ad1 -> Inv W F s -> Stp W (fun a => a = C ∨ a = D) F F' s s' -> Rel W F' s'.heap env ρ1 ad1 := fun Fa Fb sa sb Ra Ia Sa => Ra.keep Ia Sa fun a q => by
      refine ⟨fun ⟨x, e⟩ => ?_, fun e => ?_, fun y e => ?_⟩
      · exact q.elim (ownC x a e).1 (ownC x a e).2
      · rcases q with q | q
        · exact Nat.ne_of_lt locC (e.symm.trans q)
        · exact Nat.ne_of_lt locD (e.symm.trans q)
      · exact q.elim (cellC y a e).1 (cellC y a e).2
     obtain ⟨I0, fp, wr, n, P, Md, St, rfl, hn, hself, K, hst0, hwr, hshape, hfp, hitem⟩ := hsrc
     have hst1 : St 0 h1 := K.frame _ _ _ hst0 fun b _ o e => old b o e
     have hsin : SrcIn W A F1 C D s.heap g.target (.ref I0) its s3 := by
      refine ⟨I0, fp, wr, n, P, Md, St, rfl, hn, hself, K, hs3h ▸ hst1, hwr, hshape, fun b hb => ?_, hitem⟩
      rcases hfp b hb with q | ⟨q, _⟩ | ⟨_, q, o, e⟩
      · obtain ⟨o, e, _⟩ := hshape 0 _ hst0 b q
        exact ⟨fun z => fD.ne e z.symm, fun z => fC.ne e z.symm, (hwr b q).2.2⟩
      · cases q
      · exact ⟨fun z => fD.ne e z.symm, fun z => fC.ne e z.symm, q⟩
     have body : codeAny (model W.prog W.w) A (.compLoop (.ListComp elt [g] sc pos) 0 (.ref I0) (.ref D) (compEnvC sc (closOf env.cells sc.names []) C env)) (compPost (model W.prog W.w) A E use Q (.ref D) C) s3 := by
      refine ag8 (cenv := compEnvC sc (closOf env.cells sc.names []) C env) H frC hC.symm (S1.inv.tabOld fD) Rm hasy' (MB := fun a => ownA ad a ∨ a = C ∨ a = D) (fun a q => .inr q)
       (Z := fun F s => Rel W F s.heap env ρ1 ad1) (fun Fa sa h' tk wr Ra hf hk hs => Ra.raw hk hs hf) Z2 hacc S13 (fun f e => R.frm f e) (hs3h ▸ compR) (S1.inv.fresh fD) (vs := []) (hs3h ▸ hacc1) (rfl) hsin R3
       fun F' s' vs' S' Rz R' hF' hD' hv' => ?_
      refine hQ D C F' s' ad1 ⟨S'.weaken fun a q => ?_, Rz, sub1, OR.ofList hD' hv', hF', S1.back fD, hDC, S1.back fC, locC, fun x a e => (ownC x a e).1, fun x a e => (cellC x a e).1, fun f e => ?_, R'.nsF, R'.nsT, R'.ns⟩
      · rcases q with q | q | q
        · exact .inl q
        · exact .inr (q ▸ S1.back fC)
        · exact .inr (q ▸ S1.back fD)
      · obtain ⟨o, q⟩ := R1.frm f e
        exact fun z => fC.ne q z.symm
     have fin := adU rfl hasy' body (hself 0 _ _ _ (hs3h ▸ hst1) body)
     refine z2 ?_
     exact fin
end
section
variable {W : Wd} {F F' : FH} {s s' : Shared} {env : Env} {ρ : CE} {ad : Str -> Option Addr} {M : Addr -> Prop} {A : Around} {E : VP} {G : GE} {k : Nat} {S : SM}
set_option tactic.hygienic false
theorem CompEnd.go {cs : List CV} {ρ' : CE} {D C : Addr} {ad1 : Str -> Option Addr} (c : CompEnd W env ad F s cs ρ' D C F' s' ad1) {h' : Heap} (hb : Heap.SameBut C s'.heap h') :
 Stp W (ownA ad) F F' s { s' with heap := h' } ∧ Rel W F' h' env ρ' ad1 ∧ OR W.prog W.w F' h' (.list cs) D :=
 have hk : ∀ a o, a ≠ C -> s'.heap.get? a = some o -> h'.get? a = some o := fun a o q e => (hb.2 a q).trans e
 ⟨Stp.past (tk := s'.toks) (wr := (· = C)) c.stp (fun a q => q ▸ ⟨c.dC, c.fc, c.tc⟩) hk, c.rel.but hk c.loc c.own c.cells c.frame, c.lst.mono _ _ (fun _ _ e => e) fun ob e => hk D ob c.dc e⟩
set_option tactic.hygienic true
theorem afG {elt : Expr} {gens : List Comprehension} {sc : Scope} {cs : List CV} {ρ' : CE} (h : S.comp G elt gens sc ρ = some (cs, ρ')) : ∃ g, gens = [g] ∧ firstAsync [g] = false ∧ firstIter [g] env = eval g.iter env := by
 unfold SM.comp at h
 split at h
 · cases h
 · rename_i g hg
   refine ⟨g, aaO hg, ?_⟩
   obtain ⟨t, i, f, a⟩ := g
   split at h
   · cases h
   · rename_i hok
     simp only [Bool.and_eq_true, beq_iff_eq] at hok
     obtain rfl : a = 0 := hok.2
     exact ⟨rfl, by first | rfl | simp only [firstIter]⟩
set_option tactic.hygienic false
theorem aih (H : SmOK W k S) (hst : ∀ x p ρ, S.ev (.Starred x p) ρ = none) (hset : ∀ x kd p ρ, S.ev (.Set x kd p) ρ = none) (hG : GOK W k G) {elt : Expr} {gens : List Comprehension} {sc : Scope} {pos : Pos}
 {cs : List CV} {ρ' : CE} (h : S.comp G elt gens sc ρ = some (cs, ρ')) (Rm : Room A k) (I : Inv W F s) (R : Rel W F s.heap env ρ ad) {Q : VP} (hQ : MkPost W env ad F s (.list cs) ρ' Q) :
 wpAny (model W.prog W.w) A (eval (.ListComp elt gens sc pos) env) Q E s := by
 obtain ⟨g, rfl, ha, hf⟩ := afG (env := env) h
 rw [eval_ListComp]
 rw [ha]
 rw [hf]
 refine aes H hst hset hG h Rm I R fun D C F' s' ad1 c => ?_
 obtain ⟨m, hn⟩ := c.ns
 refine ⟨m, hn, fun h' hb => ?_⟩
 obtain ⟨S', R', L'⟩ := c.go hb
 exact hQ D F' _ ad1 S' R' c.sub L' c.fd c.dD
end
section
variable {W : Wd} {F F' : FH} {s s' : Shared} {env : Env} {ρ : CE} {ad : Str -> Option Addr} {M : Addr -> Prop} {A : Around} {E : VP} {G : GE} {k : Nat} {S : SM}
set_option tactic.hygienic false
theorem amo (I : Inv W F s) (R : Rel W F s.heap env ρ ad) {ad1 : Str -> Option Addr} (sub : ∀ x a, ad1 x = some a -> ad x = some a) {D : Addr} (hD : Fre s.heap D) {o : CO} {h' : Heap} (ho : OR W.prog W.w F' h' o D) (hF : F' D = none) (x : Str) :
 NewSlot W F' h' env ad1 x (.own o) (.ref D) (some D) := by
 refine ⟨D, rfl, rfl, ho, hF, I.tabOld hD, fun q => ?_, fun y ca e q => ?_, fun y _ e => ?_⟩
 · obtain ⟨m, o, es, ep, e, _⟩ := R.ns
   exact hD.ne e q
 · obtain ⟨v, o, e', _⟩ := R.cl y ca e
   exact hD.ne e' q
 · obtain ⟨_, _, _, _, _, o, e'⟩ := R.own y D (sub y D e)
   exact hD.ne e' rfl
theorem aet (I : Inv W F s) (R : Rel W F s.heap env ρ ad) {ρ1 : CE} {ad1 : Str -> Option Addr} {F1 : FH} {s1 : Shared} {D : Addr} {o : CO} {x : Str} {b : Bool} (S1 : Stp W (ownA ad) F F1 s s1) (R1 : Rel W F1 s1.heap env ρ1 ad1)
 (sub1 : ∀ x a, ad1 x = some a -> ad x = some a) (ho : OR W.prog W.w F1 s1.heap o D) (hF : F1 D = none) (hD : Fre s.heap D) (hc : canSet ρ1 x = true) {Q : Unit -> Shared -> Prop}
 (hQ : ∀ F' s' ad', Stp W (frmA env ad) F F' s s' -> Rel W F' s'.heap env (ρ1.set x (match b with | true => .own o | false => .val o.cv)) ad' -> (∀ x a, ad' x = some a -> ad1 x = some a ∨ a = D) -> Stp W (fun a => frmA env ad1 a ∨ a = D) F1 F' s1 s' -> Q () s') :
 wpAny (model W.prog W.w) A (storeName env x (.ref D)) Q E s1 := by
 refine hid fun z0 => ?_
 cases b with
 | true =>
  refine z0 ?_
  refine abR S1.inv R1 hc (amo I R sub1 hD ho hF x) fun s' S' R' => hQ F1 s' _ ((aax S1).trans S' (aaN fun x a q => .inl (sub1 x a q))) R' (fun y a e => ?_) (S'.weaken fun a q => .inl (.inl q))
  unfold with1 at e
  refine hid fun z1 => ?_
  split at e
  · cases e; refine z1 ?_; exact .inr rfl
  · refine z1 ?_
    exact .inl e
 | false =>
  obtain ⟨ob, e, rv⟩ := ho.toRV hF
  have hT : ¬ W.T D := I.tabOld hD
  have S2 : Stp W (ownA ad) F (F1.add D ob) s s1 := S1.freeze hF e hT (.inr hD)
  have S12 : Stp W (· = D) F1 (F1.add D ob) s1 s1 := ((Stp.refl (M := fun _ => False) S1.inv).weaken fun a (q : False) => q.elim).freeze hF e hT (.inl rfl)
  have R2 : Rel W (F1.add D ob) s1.heap env ρ1 ad1 := R1.keep S1.inv S12 fun a q => by
   obtain rfl : a = D := q
   refine ⟨fun ⟨x, e⟩ => ?_, fun e => ?_, fun y e => ?_⟩
   · obtain ⟨_, _, _, _, _, o, e'⟩ := R.own x _ (sub1 x _ e); exact hD.ne e' rfl
   · obtain ⟨m, o, es, ep, e', _⟩ := R.ns; exact hD.ne e' e
   · obtain ⟨v, o, e', _⟩ := R.cl y _ e; exact hD.ne e' rfl
  have hn : NewSlot W (F1.add D ob) s1.heap env ad1 x (.val o.cv) (.ref D) none := ⟨rv, rfl⟩
  refine z0 ?_
  refine abR S2.inv R2 hc hn fun s' S' R' => hQ _ s' _ ((aax S2).trans S' (aaN fun x a q => .inl (sub1 x a q))) R' (fun y a e => .inl (abH hn y a e)) ?_
  exact (S12.weaken fun a q => .inl (.inr q)).trans S' fun a q => .inl (.inl q)
set_option tactic.hygienic true
theorem afZ (H : SmOK W k S) (hst : ∀ x p ρ, S.ev (.Starred x p) ρ = none) (hset : ∀ x kd p ρ, S.ev (.Set x kd p) ρ = none) (hG : GOK W k G) {elt : Expr} {gens : List Comprehension} {sc : Scope} {pos apos npos : Pos} {x : Str} {b : Bool}
 {cs : List CV} {ρ' : CE} (h : S.comp G elt gens sc ρ = some (cs, ρ')) (hc : canSet ρ' x = true) (Rm : Room A k) (I : Inv W F s) (R : Rel W F s.heap env ρ ad)
 (hsw : swapsWith (.ListComp elt gens sc pos) (some (.Name x npos)) apos.line env = pure true) {Q : Flow -> Shared -> Prop}
 (hQ : XsPost W env ad F s .next (ρ'.set x (match b with | true => .own (.list cs) | false => .val (.list cs))) Q) :
 wpAny (model W.prog W.w) A (exec (.Assign [.Name x npos] (.ListComp elt gens sc pos) apos) env) Q E s := by
 obtain ⟨g, rfl, ha, hf⟩ := afG (env := env) h
 rw [exec_Assign_Name_used _ _ _ _ hsw]
 refine wpAny_bind (wpAny_standAt (wpAny_bind ?_))
 show wpAny _ A (do let _ <- comprehension (.ListComp elt [g] sc pos) sc env _ (newList []) (firstAsync [g]) (firstIter [g] env) (some (assign (.Name x npos) env))) _ _ s
 rw [ha, hf]
 refine wpAny_bind (wpAny_mono (aes (use := some (assign (.Name x npos) env)) (Q := fun _ s' => Q .next s') H hst hset hG h Rm I R fun D C F1 s1 ad1 c => ?_) (fun _ s' hq => wpAny_pure (wpAny_pure hq)) fun _ _ e => e)
 show wpAny _ A (assign (.Name x npos) env (.ref D)) _ _ _
 rw [arm_assign_Name]
 refine wpAny_bind (wpAny_standAt (wpAny_bindName (aet (b := b) I R c.stp c.rel c.sub c.lst c.fd c.dD hc fun F' s' ad' S' R' sub' S1 => ?_)))
 have nC : ¬ (frmA env ad1 C ∨ C = D) := fun q => by
  rcases q with (⟨y, e⟩ | e | ⟨_, y, _, e⟩) | e
  · exact c.own y C e rfl
  · exact Nat.ne_of_gt c.loc e
  · exact c.cells y C e rfl
  · exact c.dc e.symm
 refine hid fun z3 => ?_
 obtain ⟨m, oC, es, ep, eC, rC⟩ := c.ns
 have hn : s'.heap.Ns C m := ⟨oC, es, ep, S1.keep C oC eC nC c.tc, rC⟩
 have fC : F' C = none := by
  cases e : F' C with
  | none => rfl
  | some o =>
   rcases S1.new C o e with q | q | q
   · rw [c.fc] at q; cases q
   · exact absurd q nC
   · exact absurd rfl (q.ne eC)
 refine z3 ?_
 refine ⟨m, hn, fun h' hb => ?_⟩
 have hk : ∀ a o, a ≠ C -> s'.heap.get? a = some o -> h'.get? a = some o := fun a o q e => (hb.2 a q).trans e
 refine hQ .next F' _ ad' (S'.past (wr := (· = C)) (tk := s'.toks) (fun a q => q ▸ ⟨c.dC, fC, c.tc⟩) hk) ?_ (fun y a e => (sub' y a e).elim (fun q => .inl (c.sub y a q)) fun q => .inr (q ▸ c.dD)) rfl
 have R'' := R'.but hk c.loc (fun y a e => (sub' y a e).elim (c.own y a) fun q z => c.dc (q.symm.trans z)) c.cells c.frame
 cases b <;> exact R''
end
end
section
open PySem PySem.Calls PyProof.Rows
set_option tactic.hygienic true
theorem af0 {pos p : Pos} {c cv : Value} (l : List Value) (h : TriplesOk l) (q : codeAmong pos (l ++ [rawInt p.line, rawInt p.col, c]) = some cv) : codeAmong pos l = some cv ∨ cv = c := by
 fun_induction TriplesOk l with
 | case1 =>
  right
  simp only [List.nil_append, codeAmong, rawInt] at q
  refine hid fun z0 => ?_
  split at q
  · refine z0 ?_
    exact (Option.some.inj q).symm
  · cases q
 | case2 a t b u x rest ih =>
  simp only [List.cons_append, codeAmong] at q ⊢
  split at q
  · rename_i hc; rw [if_pos hc]; exact .inl q
  · rename_i hc; rw [if_neg hc]; exact ih h q
 | case3 l h1 h2 => exact h.elim
section
variable {W : Wd} {F F' : FH} {s s' : Shared} {env : Env} {ρ : CE} {ad : Str -> Option Addr} {M : Addr -> Prop} {A : Around} {E : VP} {G : GE} {k : Nat} {S : SM}
set_option tactic.hygienic false
theorem adu {sc : Scope} (h : noFree sc = true) : ∀ x ∈ sc.names, x.2 ≠ .free := by
 unfold noFree at h
 simpa only [List.all_eq_true, bne_iff_ne, ne_eq] using h
theorem ac5 {cells : List (Str × Addr)} : ∀ (l : List (Str × NameKind)) (cs : List (Str × Addr)), (∀ x ∈ l, x.2 ≠ .free) -> closOf cells l cs = cs
 | [], _, _ => rfl
 | (m, kd) :: r, cs, h => by
  have hk : (kd == NameKind.free) = false := beq_eq_false_iff_ne.mpr (h (m, kd) (.head _))
  rw [acj, hk]
  exact ac5 r cs fun x hx => h x (.tail _ hx)
set_option tactic.hygienic true
theorem akg (I : Inv W F s) {c P c' : Addr} {q : Str} (ht : (c, P, q) ∈ W.tabs) {h' : Heap} {ps : Array Value} {pos : Pos} {tk : Nat} (hx : Heap.ExtBut P s.heap h') (hps : s.heap.get? P = some (PySem.W.tabObj ps)) (hok : TriplesOk ps.toList)
 (hP : h'.get? P = some (PySem.W.tabObj (ps ++ #[rawInt pos.line, rawInt pos.col, .ref c']))) {oc : Obj} {vs : Array Value} {t : Tok} (hc : Fre s.heap c') (hco : h'.get? c' = some oc) (hd : oc.data = .fields vs) (hv : vs[1]? = some (.str q t)) :
 Stp W (fun _ => False) F (F.add c' oc) s { s with heap := h', toks := tk } := by
 have hFc := I.fresh hc
 have hT : W.T P := ⟨_, ht, rfl⟩
 have hFP : F P = none := (I.tab _ ht).2
 have sub : ∀ a o, F a = some o -> F.add c' oc a = some o := FH.add_sub hFc
 have hFP' : c' ≠ P := hc.ne hps
 have inv : Inv W (F.add c' oc) { s with heap := h', toks := tk } := by
  refine ⟨fun a o e => ?_, fun a o e => sub a o (I.base a o e), fun u hu => ?_⟩
  · unfold FH.add at e
    refine hid fun z0 => ?_
    split at e
    · rename_i z; subst z; cases e; refine z0 ?_; exact hco
    · refine z0 ?_
      exact hx a o (fun z => by rw [z, hFP] at e; cases e) (I.frz a o e)
  · refine hid fun z1 => ?_
    obtain ⟨⟨ps', e1, e2, e3⟩, e4⟩ := I.tab u hu
    refine z1 ?_
    refine ⟨?_, ?_⟩
    · by_cases z : u.2.1 = P
      · have hq : q = u.2.2 := W.tabsOne _ ht _ hu z.symm
        rw [z, hps] at e1
        obtain rfl : ps = ps' := by injection e1 with e1; injection e1 with _ _ e1; injection e1
        refine ⟨ps ++ #[rawInt pos.line, rawInt pos.col, .ref c'], z ▸ hP, ?_, fun pos' cv h => ?_⟩
        · simpa using TriplesOk_snoc _ _ _ _ e2
        · rw [Array.toList_append] at h
          rcases af0 _ e2 h with h | rfl
          · refine hid fun z5 => ?_
            obtain ⟨c1, o1, v1, t1, a1, a2, a3, a4⟩ := e3 pos' cv h
            refine z5 ?_
            exact ⟨c1, o1, v1, t1, a1, sub _ _ a2, a3, a4⟩
          · exact ⟨c', oc, vs, t, rfl, FH.add_self .., hd, hq ▸ hv⟩
      · refine ⟨ps', hx _ _ z e1, e2, fun pos' cv h => ?_⟩
        refine hid fun z6 => ?_
        obtain ⟨c1, o1, v1, t1, a1, a2, a3, a4⟩ := e3 pos' cv h
        refine z6 ?_
        exact ⟨c1, o1, v1, t1, a1, sub _ _ a2, a3, a4⟩
    · unfold FH.add
      rw [if_neg (fun z => hc.ne e1 z.symm)]; exact e4
 refine ⟨fun a o e _ nt => hx a o (fun z => nt (z ▸ hT)) e, fun a o e m => m.elim, sub, fun a o e => ?_, ⟨rfl, rfl, rfl⟩, inv⟩
 unfold FH.add at e
 refine hid fun z7 => ?_
 split at e
 · rename_i z; subst z; refine z7 ?_; exact .inr (.inr hc)
 · refine z7 ?_
   exact .inl e
set_option tactic.hygienic false
theorem amp (hG : GOK W k G) {p : Arguments} {b : Expr} {sc : Scope} {pos : Pos} (h1 : (scOk sc && lamOk p && lamS ρ.scope && noFree sc) = true) (I : Inv W F s) (R : Rel W F s.heap env ρ ad) {Q : VP}
 (hQ : PV W F s (.lam ⟨p, b, sc⟩) Q) : wpAny (model W.prog W.w) A (eval (.Lambda p b sc pos) env) Q E s := by
 simp only [Bool.and_eq_true] at h1
 obtain ⟨⟨⟨hsc, hp⟩, hl⟩, hnf⟩ := h1
 obtain ⟨c, P, hcode, ht⟩ := R.kind.lam hl
 obtain ⟨C, hB, hgP⟩ := hG.tabs _ ht _ I.heap0
 obtain ⟨⟨ps, e1, e2, e3⟩, e4⟩ := I.tab _ ht
 have hclos := ack (env := env) (sc := sc) fun x hx he => absurd he (adu hnf x hx)
 rw [ac5 sc.names [] (adu hnf)] at hclos
 have hns := (hG.ns _ I.heap0).1
 have hd : p.defaults = [] ∧ p.kw_defaults = [] := by
  unfold lamOk at hp
  simp only [Bool.and_eq_true, List.isEmpty_iff] at hp
  exact ⟨hp.1.1.2, hp.1.2⟩
 obtain ⟨p1, p2, p3, p4, p5, p6, p7⟩ := p
 obtain ⟨rfl, rfl⟩ := hd
 show wpAny _ A (do let dv <- evalAll []; let kdv <- PySem.holding dv (evalAllOpt []); makeFunction "<lambda>" (env.qual ++ "<lambda>") _ (.expr b) sc env dv kdv [] pos pos.line) Q E s
 refine wpAny_bind (wpAny_pure (wpAny_bind (wpAny_holding (wpAny_pure ?_))))
 cases hf : codeAmong pos ps.toList with
 | none =>
  refine PySem.W.kla_makeFunction hclos R.kind.glo hns hcode C e1 e2 hf hgP hB fun c' ctv h' tk hx hge hlt hrec hP => ?_
  refine hid fun z9 => ?_
  obtain ⟨c1, oc, vs, t, q1, q2, q3, q4⟩ := hrec
  cases q1
  have S1 := akg (tk := tk) I ht hx e1 e2 hP (Fre.size _ hge) q2 q3 q4
  have S2 := Stp.ofKeep (tk := tk) S1.inv (h' := h'.push (PySem.W.kla_obj "<lambda>" (env.qual ++ "<lambda>") ⟨p1, p2, p3, p4, [], p6, []⟩ b sc [] ((W.mg "__name__").getD .none) c' ctv)) (aar _)
  have hnew : Fre h' h'.objs.size := Fre.size _ (Nat.le_refl _)
  have S3 := (S1.trans S2 fun _ q => q.elim).freeze (a := h'.objs.size) (S1.inv.fresh hnew) (Heap.get?_push_size _ rfl) (S1.inv.tabOld hnew) (.inr (S1.back hnew))
  refine z9 ?_
  refine hQ _ _ _ S3 ?_
  exact ⟨_, _, _, _, _, _, _, rfl, FH.add_self .., rfl, c', oc, vs, t, rfl, FH.add_sub (S1.inv.fresh hnew) _ _ (FH.add_self ..), q3, q4⟩
 | some cv =>
  refine PySem.W.kla_makeFunctionHit hclos R.kind.glo hns hcode C e1 e2 hf hB fun ctv h' tk hk hge => ?_
  refine hid fun z10 => ?_
  obtain ⟨c1, oc, vs, t, q1, q2, q3, q4⟩ := e3 pos cv hf
  have S2 := Stp.ofKeep (tk := tk) I (h' := h'.push { cls := .type "function", data := .func (PySem.W.kla_fn "<lambda>" (env.qual ++ "<lambda>") ⟨p1, p2, p3, p4, [], p6, []⟩ b sc [] ((W.mg "__name__").getD .none) cv ctv) }) (fun a o e => aar _ a o (hk a o e))
  have hnew : Fre s.heap h'.objs.size := Fre.size _ hge
  have S3 := S2.freeze (a := h'.objs.size) (I.fresh hnew) (Heap.get?_push_size _ rfl) (I.tabOld hnew) (.inr hnew)
  refine z10 ?_
  refine hQ _ _ _ S3 ?_
  exact ⟨_, _, _, _, _, _, _, rfl, FH.add_self .., rfl, c1, oc, vs, t, q1, FH.add_sub (I.fresh hnew) _ _ q2, q3, q4⟩
end
section
variable {W : Wd} {F F' : FH} {s s' : Shared} {env : Env} {ρ : CE} {ad : Str -> Option Addr} {M : Addr -> Prop} {A : Around} {E : VP} {G : GE} {k : Nat} {S : SM}
set_option tactic.hygienic false
theorem anm {fd : FuncData} {a : Arg} {v : Value} (h : lamOk fd.params = true) (h2 : fd.params.args = [a]) (h3 : fd.defaults = .none) : bindArgs fd ⟨[v], []⟩ = pure [(a.arg, v)] := by
 obtain ⟨name, qual, ⟨p1, p2, p3, p4, p5, p6, p7⟩, body, scope, glo, clo, dfl, kwd, doc, pm, ann, code, ct, blt⟩ := fd
 unfold lamOk at h
 dsimp only at h h2 h3
 subst h2 h3
 simp only [Bool.and_eq_true, List.isEmpty_iff, Option.isNone_iff_eq_none] at h
 obtain ⟨⟨⟨⟨⟨⟨rfl, rfl⟩, rfl⟩, rfl⟩, rfl⟩, rfl⟩, h4⟩ := h
 obtain ⟨x, y⟩ := a
 obtain rfl := beq_iff_eq.mp (Bool.and_eq_true_iff.mp h4).1
 ext
set_option tactic.hygienic true
theorem adv (H : EvOK W k S.ev) (hG : GOK W k G) {L : Lam} {cs : List CV} {c : CV} (h : S.callLam L cs = some c) (Rm : Room A (k + 1)) (I : Inv W F s) {v : Value} {vs : List Value}
 (hv : RV W.prog W.w F (.lam L) v) (hvs : RVs W.prog W.w F cs vs) {Q : VP} (hQ : PV W F s c Q) :
 (∃ a o fd, v = .ref a ∧ s.heap.get? a = some o ∧ o.data = .func fd) ∧ wpAny (model W.prog W.w) A (call v vs) Q E s := by
 unfold SM.callLam at h
 refine hid fun z0 => ?_
 split at h
 · cases h
 · rename_i hok
   simp only [Bool.and_eq_true, Bool.not_eq_true'] at hok
   obtain ⟨⟨⟨⟨⟨hp, hsc⟩, hco⟩, hge⟩, hcp⟩, hlam⟩ := hok
   split at h
   · rename_i a ca hargs
     split at h
     · rename_i hloc
       split at h
       · rename_i c' ρ' he
         cases h
         obtain ⟨fa, o, pm, cd, ct, qual, name, rfl, hF, rfl, cc, oc, us, t, rfl, e2, e3, e4⟩ := by simpa only [RV] using hv
         obtain ⟨u, hu, ru⟩ : ∃ u, vs = [u] ∧ RV W.prog W.w F ca u := by
          obtain ⟨u, r, e, ru, er⟩ := hvs
          exact ⟨u, by rw [e, er], ru⟩
         subst hu
         have ho := I.frz _ _ hF
         refine z0 ?_
         refine ⟨⟨fa, _, _, rfl, ho, rfl⟩, ?_⟩
         refine hid fun z1 => ?_
         obtain ⟨hk1, hk2, hk3⟩ := adV hsc
         refine z1 ?_
         refine wpAny_call (PySem.W.kla_callFunE Rm.dep ho rfl hco hge rfl ⟨cc, oc, us, t, rfl, I.frz _ _ e2, e3, e4⟩ ?_)
         refine wpAny_of_eq (anm hp hargs rfl) ?_
         refine wpAny_newFunctionEnv hk2 (by intro x hx; simp only [List.mem_singleton] at hx; subst hx; exact hloc) (fun h1 hns hsb => ?_) hk1
         simp only [Option.isSome_none, Bool.false_eq_true, if_false, List.length_singleton] at hsb ⊢
         have hold : ∀ b o, s.heap.get? b = some o -> h1.get? b = some o := fun b o e => hsb.extBut b o (Nat.ne_of_lt (Heap.lt_size e)) (aar _ b o e)
         have fL : Fre s.heap s.heap.objs.size := Fre.size _ (Nat.le_refl _)
         have S1 : Stp W (fun _ => False) F F s { s with heap := h1, toks := s.toks + 1 } := Stp.ofKeep I hold
         refine ⟨(hG.nolim _ S1.inv.heap0), PySem.W.kla_codeExpr ?_⟩
         generalize hL : s.heap.objs.size = Lc at hns hsb fL ⊢
         generalize henv : newEnv L.scope Lc mainGlobals [] (qual ++ ".<locals>.") (some fa) (.ref cc) none builtinsNs = env'
         have hcells : env'.cells = [] := by rw [<- henv]; rfl
         have hlocs : env'.locals = Lc := by rw [<- henv]; rfl
         have hkind : ∀ x, env'.kindOf x = L.scope.names.lookup x := fun x => by rw [<- henv]; rfl
         have nfr : ∀ x, CE.kind ⟨L.scope, [(a.arg, .val ca)]⟩ x ≠ some .cell := fun x q => hk2 _ (aa8 q) rfl
         have R1 : Rel W F h1 env' ⟨L.scope, [(a.arg, .val ca)]⟩ noAd := by
          refine ⟨⟨by rw [<- henv]; exact hk1, by rw [<- henv]; rfl, by rw [<- henv]; rfl, fun x q => (hkind x).trans q, fun x q => absurd q (nfr x), fun x q => .inl ((hkind x).trans q), fun x q => (hkind x).trans q, fun x y ca' p q => (by rw [hcells] at p; cases p), fun x q => absurd q (nfr x), fun q => ?_⟩,
           ⟨_, hlocs ▸ hns⟩, hlocs ▸ I.fresh fL, hlocs ▸ I.tabOld fL, fun x sl q => ?_, fun x q => absurd q (nfr x), fun x a q => (by cases q), fun x y a q _ => (by cases q), fun x a q => ?_, fun f q => ?_⟩
          · rw [show lamS L.scope = false from hlam] at q; cases q
          · have q : ([(a.arg, Slot.val ca)] : List (Str × Slot)).lookup x = some sl := q
            simp only [List.lookup_cons] at q
            refine hid fun z4 => ?_
            cases hx : x == a.arg with
            | true =>
             rw [hx] at q
             cases q
             obtain rfl := beq_iff_eq.mp hx
             refine z4 ?_
             refine ⟨u, .inl ⟨(hkind _).trans hloc, _, hlocs ▸ hns, ?_⟩, ru⟩
             simp
            | false =>
             rw [hx] at q
             cases q
          · rw [hcells] at q; cases q
          · have : some Lc = some f := by rw [<- q, <- henv]; rfl
            refine hid fun z6 => ?_
            cases this
            obtain ⟨o', _, _, e, _⟩ := hns
            refine z6 ?_
            exact ⟨o', e⟩
         refine H L.body _ _ _ he (A.deeper env') env' F _ noAd (Rm.deeper env') S1.inv R1 _ _ fun v' F2 s2 ad2 S2 R2 _ r2 => ?_
         exact hQ v' F2 s2 (S1.trans (S2.weaken (M' := fun _ => False) fun a q => absurd q (abu a)) fun _ q => q.elim) r2
       · cases h
     · cases h
   · cases h
end
end
section
open PySem PySem.Calls PyProof.Rows PySem.SeqAt PySem.W
set_option tactic.hygienic false
theorem aeu {α : Type} {cmp : Nat -> Nat -> (Bool -> Shared -> Prop) -> Shared -> Prop} {c : Nat -> Nat -> Bool} {n : Nat} {s : Shared} (hc : ∀ i j C, i < n -> j < n -> C (c i j) s -> cmp i j C s) {Q : α -> Shared -> Prop} : ∀ (t : KasT α) {a : α}, runT n c t = some a -> Q a s -> t.kasWp cmp Q s
 | .ret _, _, h, q => by cases h; exact q
 | .ask i j k, a, h, q => by
  rw [ahn] at h
  cases hb : Nat.blt i n && Nat.blt j n with
  | false => rw [hb] at h; cases h
  | true =>
   rw [hb] at h
   obtain ⟨h1, h2⟩ := Bool.and_eq_true_iff.mp hb
   exact hc i j _ (Nat.le_of_ble_eq_true h1) (Nat.le_of_ble_eq_true h2) (aeu hc (k (c i j)) h q)
section
variable {prog : Program} {w : World} {A : Around} {E : VP} {s : Shared}
set_option tactic.hygienic false
theorem af1 {l b : Addr} {ob ob' : Obj} {vs us : List Value} {ns ms : List Int} (e1 : s.heap.get? l = some ob) (l1 : LO ob vs) (e2 : s.heap.get? b = some ob') (l2 : LO ob' us) (hi : IntsAre vs ns) (hj : IntsAre us ms)
 (hA : A.units < cLine) {Q : Bool -> Shared -> Prop} (q : Q (ltL ns ms) s) : wpAny (model prog w) A (keyLt' oneType' (.ref l) (.ref b)) Q E s := by
 obtain ⟨n, l1⟩ := l1
 obtain ⟨n2, l2⟩ := l2
 subst l1 l2
 rw [keyLt'_oneType, oneLt'_eq]
 simp only [if_true]
 refine wpAny_bind (wpAny_cRoomFor hA ?_)
 refine wpAny_bind (wpAny_callSpecialIfBound?_slot ⟨_, e1, rfl⟩ F.slot_list_lt (call_meets F.slot_list_lt ⟨_, e1, rfl⟩ F.entry_list_lt (F.args_list_lt_2 _ _) (afu l b n n2 hi hj) ⟨e1, e2, ?_⟩))
 exact wpAny_truthy_bool q
end
section
variable {W : Wd} {F F' : FH} {s s' : Shared} {env : Env} {ρ : CE} {ad : Str -> Option Addr} {M : Addr -> Prop} {A : Around} {E : VP} {G : GE} {k : Nat} {S : SM}
def KeyR (W : Wd) (F : FH) : List (List Int) -> List Value -> Prop
 | [], vs => vs = []
 | z :: r, vs => ∃ v t l, vs = v :: t ∧ RV W.prog W.w F (.list l) v ∧ intsC l = some z ∧ KeyR W F r t
set_option tactic.hygienic false
theorem KeyR.mono (h : ∀ a o, F a = some o -> F' a = some o) : ∀ {zs : List (List Int)} {vs : List Value}, KeyR W F zs vs -> KeyR W F' zs vs
 | [], _, r => r
 | _ :: _, _, ⟨v, t, l, e, a, b, c⟩ => ⟨v, t, l, e, RV.mono _ _ h _ _ a, b, KeyR.mono h c⟩
theorem KeyR.snoc {z : List Int} {v : Value} {l : List CV} (hv : RV W.prog W.w F (.list l) v) (hl : intsC l = some z) : ∀ {zs : List (List Int)} {vs : List Value}, KeyR W F zs vs -> KeyR W F (zs ++ [z]) (vs ++ [v])
 | [], _, r => by obtain rfl := (r : _ = []); exact ⟨v, [], l, rfl, hv, hl, rfl⟩
 | _ :: _, _, ⟨u, t, l', e, a, b, c⟩ => by subst e; exact ⟨u, t ++ [v], l', rfl, a, b, KeyR.snoc hv hl c⟩
theorem KeyR.len : ∀ {zs : List (List Int)} {vs : List Value}, KeyR W F zs vs -> zs.length = vs.length
 | [], _, r => by obtain rfl := (r : _ = []); rfl
 | _ :: _, _, ⟨_, _, _, e, _, _, c⟩ => by subst e; exact congrArg (· + 1) (KeyR.len c)
theorem KeyR.at : ∀ {zs : List (List Int)} {vs : List Value}, KeyR W F zs vs -> ∀ {i : Nat}, i < zs.length -> ∃ l, RV W.prog W.w F (.list l) (vs.getD i .none) ∧ intsC l = some (zs.getD i [])
 | _ :: _, _, ⟨_, _, l, e, a, b, c⟩, 0, _ => by subst e; exact ⟨l, a, b⟩
 | _ :: _, _, ⟨_, _, _, e, _, _, c⟩, i + 1, h => by subst e; exact KeyR.at c (Nat.lt_of_succ_lt_succ h)
theorem ag9 {cs : List CV} {vs : List Value} (r : RVs W.prog W.w F cs vs) : ∀ p : List Nat, RVs W.prog W.w F (pickL cs p) (p.map fun i => vs.getD i .none)
 | [] => rfl
 | i :: p => by
  refine ⟨_, _, rfl, ?_, ag9 r p⟩
  show RV W.prog W.w F (cs.getD i .none) (vs.getD i .none)
  rw [List.getD_eq_getElem?_getD, List.getD_eq_getElem?_getD]
  cases hc : cs[i]? with
  | some c =>
   obtain ⟨v, hv, rv⟩ := r.get hc
   rw [hv]; exact rv
  | none =>
   have hv : vs[i]? = none := by
    rw [List.getElem?_eq_none_iff] at hc ⊢
    rw [r.len]; exact hc
   rw [hv]; exact rfl
inductive SJ (W : Wd) (S : SM) (L : Lam) (F Fb : FH) (sB : Shared) (D kS : Addr) (e1 : Nat) (kz : List (List Int)) (rest : List Value) (s : Shared) : Prop
 | mk (Fi : FH) (dn kr : List (List Int)) (crest : List CV) (ks : List Value) (c : Nat) (h1 : Stp W (fun _ => False) F Fi sB s) (h2 : Fi D = none) (h3 : Fi kS = none) (h4 : s.heap.get? D = some (seqObj "list" #[] e1)) (h5 : s.heap.get? kS = some (seqObj "list" ks.toArray c))
  (h6 : KeyR W Fi dn ks) (h7 : RVs W.prog W.w Fi crest rest) (h8 : S.keysOf L crest = some kr) (h9 : dn ++ kr = kz) (h10 : ∀ a o, Fb a = some o -> Fi a = some o)
theorem Stp.nil0 {Fi F'' : FH} {s1 s2 : Shared} (x : Stp W (fun _ => False) Fi F'' s1 s2) {a : Addr} {o : Obj} (h : Fi a = none) (e : s1.heap.get? a = some o) : F'' a = none := by
 cases q : F'' a with
 | none => rfl
 | some o' =>
  rcases x.new a o' q with z | z | z
  · rw [h] at z; cases z
  · exact z.elim
  · exact absurd rfl (z.ne e)
theorem Stp.upd {sB s1 : Shared} {Fi : FH} (x : Stp W (fun _ => False) F Fi sB s1) {a : Addr} (hf : Fre sB.heap a) (hF : Fi a = none) (hT : ¬ W.T a) (f : Obj -> Obj) : Stp W (fun _ => False) F Fi sB { s1 with heap := s1.heap.update a f } :=
 x.past (tk := s1.toks) (wr := (· = a)) (fun b e => e ▸ ⟨hf, hF, hT⟩) fun b o ne e => ((Heap.SameBut.update s1.heap a f).2 b ne).trans e
theorem acw {L : Lam} : ∀ {cs : List CV} {kz : List (List Int)}, S.keysOf L cs = some kz -> kz.length = cs.length
 | [], _, h => by cases h; rfl
 | c :: r, kz, h => Mine.D.el1 (.opt (S.callLam L [c]) fun k => .opt (cvList k) fun l => .opt (intsC l) fun z => .opt (S.keysOf L r) fun ks => .ret (z :: ks)) h (C := (· = kz)) rfl fun _ _ _ _ _ _ _ g4 hkr => by rw [<- hkr]; exact congrArg (· + 1) (acw g4)
theorem aha (H : EvOK W k S.ev) (hG : GOK W k G) {L : Lam} {cs : List CV} {kz : List (List Int)} {p : List Nat} (hk : S.keysOf L cs = some kz) (hp : sortP kz = some p) (Rm : Room A (k + 1)) (Ru : A.units < cLine) {sB : Shared} {Fi : FH} (x : Stp W (fun _ => False) F Fi sB s) {D : Addr} {n : Nat} {vs : List Value} {fv : Value}
 (hD : s.heap.get? D = some (seqObj "list" vs.toArray n)) (hfD : Fre sB.heap D) (hFD : Fi D = none) (hTD : ¬ W.T D) (hv : RVs W.prog W.w Fi cs vs) (hl : RV W.prog W.w Fi (.lam L) fv) (h64 : vs.length < 64) {P : PySem.Fin -> Shared -> Prop}
 (hP : ∀ F' s', Stp W (fun _ => False) F F' sB s' -> F' D = none -> OR W.prog W.w F' s'.heap (.list (pickL cs p)) D -> P (.done (.ret .none)) s') :
 wpAny (model W.prog W.w) A (ksk_tree D fv false) P E s := by
 unfold ksk_tree
 refine wpAny_bind (listItems_at hD rfl ?_)
 refine wpAny_bind (listUpdate_at hD rfl ?_ (by rw [List.size_toArray, sizeLine_eq]; omega) (Nat.zero_le _))
 obtain ⟨e1, ho1⟩ : ∃ e1, (s.heap.update D (Obj.mapSeq fun _ => (#[] : Array Value))).get? D = some (seqObj "list" #[] e1) := ⟨_, get?_update_seq hD fun _ => #[]⟩
 have x1 := x.upd hfD hFD hTD (Obj.mapSeq fun _ => (#[] : Array Value))
 refine wpAny_bind (seqEpoch_at ho1 rfl ?_)
 refine wpAny_bind (wpAny_newTuple ?_ (by show vs.length ≤ _; rw [sizeLine_eq]; omega))
 refine wpAny_bind (wpAny_newList ?_ (Nat.zero_le _))
 refine wpAny_holding ?_
 generalize hh1 : s.heap.update D (Obj.mapSeq fun _ => (#[] : Array Value)) = h1 at ho1 x1 ⊢
 have keep : ∀ b o, h1.get? b = some o -> ((h1.push (seqObj "tuple" vs.toArray 0)).push (seqObj "list" #[] 0)).get? b = some o := fun b o e => aar _ _ _ (aar _ _ _ e)
 have x2 := x1.trans (Stp.ofKeep (tk := s.toks) x1.inv keep) fun _ q => q.elim
 have fk : Fre h1 (h1.push (seqObj "tuple" vs.toArray 0)).objs.size := Fre.size _ (aem _ _)
 have hkS : ((h1.push (seqObj "tuple" vs.toArray 0)).push (seqObj "list" #[] 0)).get? (h1.push (seqObj "tuple" vs.toArray 0)).objs.size = some (seqObj "list" #[] 0) := Heap.get?_push_size _ rfl
 show wpAny (model W.prog W.w) A _ P E { s with heap := (h1.push (seqObj "tuple" vs.toArray 0)).push (seqObj "list" #[] 0) }
 generalize (h1.push (seqObj "tuple" vs.toArray 0)).objs.size = kS at fk hkS ⊢
 generalize (h1.push (seqObj "tuple" vs.toArray 0)).push (seqObj "list" #[] 0) = h3 at keep hkS x2 ⊢
 have hDk : D ≠ kS := fun q => fk.ne ho1 q.symm
 have fkB : Fre sB.heap kS := x1.back (s' := { s with heap := h1 }) fk
 have nTk : ¬ W.T kS := x1.inv.tabOld (s := { s with heap := h1 }) fk
 have hFk : Fi kS = none := x1.inv.fresh (s := { s with heap := h1 }) fk
 unfold ksk_rest
 refine wpAny_bind (wpAny_rule ?_)
 rw [List.forIn_toArray]
 refine wpAny_bind (wpAny_forIn_list _ (fun rest _ s' => SJ W S L F Fi sB D kS e1 kz rest s') _ ?_ ?_ vs PUnit.unit ⟨Fi, [], kz, cs, [], 0, x2, hFD, hFk, keep _ _ ho1, hkS, rfl, hv, hk, rfl, fun _ _ e => e⟩)
 · rintro x rest ⟨⟩ s' ⟨Fj, dn, kr, crest, ks, c, y1, y2, y3, y4, y5, y6, y7, y8, y9, y10⟩
   cases crest with
   | nil => cases y7
   | cons cx cr =>
   obtain ⟨v', r', e, rv, rr⟩ := y7
   cases e
   refine Mine.D.el1 (.opt (S.callLam L [cx]) fun k => .opt (cvList k) fun l => .opt (intsC l) fun z => .opt (S.keysOf L cr) fun ks => .ret (z :: ks)) y8 (C := (· = kr)) rfl fun k1 g1 l g2 z g3 ks' g4 hkr => ?_
   obtain rfl := aay g2
   refine wpAny_bind (wpAny_attempt ((adv H hG g1 Rm y1.inv (RV.mono _ _ y10 _ _ hl) (.one rv) fun u F2 s2 S2 ru => ?_).2))
   have z1 := y1.trans S2 fun _ q => q.elim
   have k1 := S2.keep _ _ y5 (fun q => q) nTk
   have z2 := z1.upd fkB (S2.nil0 y3 y5) nTk (Obj.mapSeq (·.push u))
   have hlen : ks.length < 64 := by
    have e1 := y6.len
    have e2 := acw hk
    have e3 := hv.len
    have e4 := congrArg List.length y9
    rw [List.length_append] at e4
    omega
   refine wpAny_bind (listUpdate_at k1 rfl ?_ (by rw [List.size_toArray, sizeLine_eq]; omega) (Nat.le_trans (Nat.le_of_eq (Array.size_push ..)) (by rw [List.size_toArray, sizeLine_eq]; omega)))
   obtain ⟨c2, hc2⟩ : ∃ c2, (s2.heap.update kS (Obj.mapSeq (·.push u))).get? kS = some (seqObj "list" (List.toArray (ks ++ [u])) c2) := ⟨_, by rw [<- List.push_toArray]; exact get?_update_seq k1 (·.push u)⟩
   refine wpAny_pure ⟨F2, dn ++ [z], ks', cr, ks ++ [u], c2, z2, S2.nil0 y2 y4, S2.nil0 y3 y5, ?_, hc2, (y6.mono S2.sub).snoc ru g3, RVs.mono _ _ S2.sub _ _ rr, g4, by rw [List.append_assoc, <- y9, <- hkr]; rfl, fun a o e => S2.sub a o (y10 a o e)⟩
   exact ((Heap.SameBut.update s2.heap kS (Obj.mapSeq (·.push u))).2 D hDk).trans (S2.keep _ _ y4 (fun q => q) hTD)
 · rintro ⟨⟩ s' ⟨Fj, dn, kr, crest, ks, c, y1, y2, y3, y4, y5, y6, y7, y8, y9, y10⟩
   cases crest with
   | cons _ _ => obtain ⟨_, _, e, _⟩ := y7; cases e
   | nil =>
   cases y8
   rw [List.append_nil] at y9
   subst y9
   refine wpAny_bind (listItems_at y5 rfl ?_)
   have hlen : ks.length = vs.length := by rw [<- y6.len, acw hk, hv.len]
   have tail : ∀ (st : SortSt) (out : List Nat), (arrOf st).map (·.2) = List.toArray (out.map fun i => vs.getD i Value.none) -> failedOf st = none -> out = p -> out.length = vs.length -> wpAny (model W.prog W.w) A (ksk_tail D false e1 (.ref kS) st) P E s' := fun st out h1 h2 h3 h4 => by
    subst h3
    unfold ksk_tail
    dsimp only
    rw [h1]
    refine wpAny_bind (listUpdate_at y5 rfl ?_ (by rw [List.size_toArray, sizeLine_eq]; omega) (Nat.zero_le _))
    refine wpAny_bind (wpAny_letGo ?_)
    have w1 := y1.upd fkB y3 nTk (Obj.mapSeq fun _ => (#[] : Array Value))
    have d1 : (s'.heap.update kS (Obj.mapSeq fun _ => (#[] : Array Value))).get? D = some (seqObj "list" #[] e1) := ((Heap.SameBut.update s'.heap kS _).2 D hDk).trans y4
    refine wpAny_bind (seqEpoch_at d1 rfl ?_)
    have hz : out.length < 64 := h4 ▸ h64
    refine wpAny_bind (listUpdate_at d1 rfl ?_ (Nat.zero_le _) (by show (List.toArray _).size ≤ _; rw [List.size_toArray, List.length_map, sizeLine_eq]; omega))
    rw [h2]
    simp only [bne_self_eq_false, Bool.false_eq_true, if_false]
    have w2 := w1.upd hfD y2 hTD (Obj.mapSeq fun _ => List.toArray (out.map fun i => vs.getD i Value.none))
    refine wpAny_pure (hP Fj _ w2 y2 (OR.ofList (vs := out.map fun i => vs.getD i Value.none) ⟨_, get?_update_seq d1 fun _ => List.toArray (out.map fun i => vs.getD i Value.none)⟩ (ag9 (RVs.mono _ _ y10 _ _ hv) out)))
   unfold ksk_end
   dsimp only
   simp only [Bool.false_eq_true, if_false]
   have hz : vs.toArray.size = vs.length := List.size_toArray
   have hkl : dn.length = vs.length := y6.len.trans hlen
   unfold sortP at hp
   rw [hkl] at hp
   by_cases h2 : 2 ≤ vs.length
   · rw [if_neg (by omega), if_neg (by omega)]
     rw [Nat.ble_eq_true_of_le h2] at hp
     dsimp only at hp
     cases hr : runT vs.length (ltAt dn) (kas_sort vs.length) with
     | none => rw [hr] at hp; cases hp
     | some pa =>
     rw [hr] at hp
     have at' : ∀ i, i < vs.length -> ∃ a ob us l, ks.getD i Value.none = .ref a ∧ s'.heap.get? a = some ob ∧ LO ob us ∧ RVs W.prog W.w Fj l us ∧ intsC l = some (dn.getD i []) := fun i hi => by
      obtain ⟨l, rv, hl⟩ := y6.at (i := i) (by omega)
      obtain ⟨a, o, us, e, f, lo, r⟩ := rv
      exact ⟨a, o, us, l, e, y1.inv.frz _ _ f, lo, r, hl⟩
     refine wpAny_bind (kas_kind (T := .type "list") (by omega) (fun v hv => ?_) (by decide) (by decide) ?_)
     · obtain ⟨i, hi⟩ := List.getElem?_of_mem hv
       have hi2 : i < vs.length := by rw [<- hlen]; exact (List.getElem?_eq_some_iff.mp hi).1
       obtain ⟨a, ob, us, l, e, q, ⟨m, lo⟩, _⟩ := at' i hi2
       rw [List.getD_eq_getElem?_getD, hi] at e
       obtain rfl : v = .ref a := e
       subst lo
       exact (show Looks (model W.prog W.w) s'.heap (typeOf (.ref a)) _ from (Looks.ld q).andThen .now)
     · refine wpAny_bind (wpAny_mono (kat_run (Q := fun st s'' => s'' = s' ∧ (arrOf st).map (·.2) = List.toArray (p.map fun i => vs.getD i Value.none) ∧ failedOf st = none ∧ p.length = vs.length) (G := fun p' s'' => s'' = s' ∧ p' = pa) hlen h2 h64 (fun p' st' s'' a1 a2 a3 a4 => ?_) (aeu (fun i j C hi hj hC => ?_) _ hr ⟨rfl, rfl⟩)) ?_ fun _ _ x => x)
       · obtain ⟨rfl, rfl⟩ := a4
         cases hp
         exact ⟨rfl, kat_snds hlen a2, a3, by rw [Array.length_toList]; exact a1⟩
       · obtain ⟨a, ob, us, l, e, q, lo, r, hl⟩ := at' i hi
         obtain ⟨a', ob', us', l', e', q', lo', r', hl'⟩ := at' j hj
         unfold kas_ask
         rw [e, e']
         exact af1 q lo q' lo' (r.ints hl) (r'.ints hl') Ru hC
       · rintro ⟨⟨⟩, st'⟩ s'' ⟨rfl, b1, b2, b3⟩
         exact tail st' p b1 b2 rfl b3
   · rw [if_pos (by omega), if_pos (by omega)]
     have hb : Nat.ble 2 vs.length = false := by
      cases q : Nat.ble 2 vs.length with
      | false => rfl
      | true => exact absurd (Nat.le_of_ble_eq_true q) h2
     rw [hb] at hp
     cases hp
     refine wpAny_bind (wpAny_pure ?_)
     rw [StateT.run_pure]
     refine wpAny_bind (wpAny_pure ?_)
     refine tail _ _ ?_ rfl rfl (by rw [List.length_range])
     rcases vs with _ | ⟨v, _ | ⟨v2, vs⟩⟩
     · rcases ks with _ | ⟨k, ks⟩
       · show (((#[] : Array Value).zip (#[] : Array Value)).map (·.2)) = #[]
         simp
       · cases hlen
     · rcases ks with _ | ⟨k, _ | ⟨k2, ks⟩⟩
       · cases hlen
       · show (((List.toArray [k]).zip (List.toArray [v])).map (·.2)) = List.toArray [v]
         simp
       · cases hlen
     · exact absurd (Nat.succ_le_succ (Nat.succ_le_succ (Nat.zero_le _))) h2
theorem aeZ (H : EvOK W k S.ev) (hG : GOK W k G) {L : Lam} {cs : List CV} {kz : List (List Int)} {p : List Nat} (hk : S.keysOf L cs = some kz) (hp : sortP kz = some p) (Rm : Room A (k + 3)) {v fv : Value} {n : Str} (hn : (n == nKey) = true) (I : Inv W F s)
 (hv : RV W.prog W.w F (.list cs) v) (hl : RV W.prog W.w F (.lam L) fv) (h64 : cs.length ≤ 63) {Q : VP}
 (hQ : ∀ a F' s', Stp W (fun _ => False) F F' s s' -> F' a = none -> Fre s.heap a -> OR W.prog W.w F' s'.heap (.list (pickL cs p)) a -> Q (.ref a) s') :
 wpAny (model W.prog W.w) A (call (.builtin "sorted") [v] [(n, fv)]) Q E s := by
 obtain rfl := beq_iff_eq.mp hn
 obtain ⟨l, ob, vs, rfl, f, ⟨m, rfl⟩, rvs⟩ := hv
 obtain ⟨q, o, pm, cd, ct, qual, name, rfl, hrest⟩ := id hl
 have e := I.frz _ _ f
 have hls : s.heap.IsList l vs.toArray := ⟨_, e, rfl, m, rfl⟩
 have h64' : vs.length < 64 := by rw [rvs.len]; omega
 refine call_function_entry_kw kind_sorted plain_sorted entry_sorted (ksk_s1 _ _) ?_
 unfold Builtin.«sorted»
 refine wpAny_bind (m := checkCount "sorted" 1 1 _) (wpAny_pure ?_)
 refine wpAny_bind (collect_list hls ?_ (by rw [sizeLine_eq]; omega))
 refine wpAny_bind (wpAny_newList ?_ (by rw [sizeLine_eq]; omega))
 generalize hh : (s.heap.push (seqObj "list" #[] 0)).update s.heap.objs.size (Obj.mapSeq (· ++ vs.toArray)) = h1
 have keep : ∀ b o, s.heap.get? b = some o -> h1.get? b = some o := fun b o q => by
  rw [<- hh, Heap.get?_update_ne _ _ _ _ (Nat.ne_of_lt (Heap.lt_size q))]
  exact aar _ _ _ q
 have hsz : h1.objs.size = s.heap.objs.size + 1 := by rw [<- hh, Heap.size_update, size_push']
 have hD : (h1.push (seqObj "list" vs.toArray 0)).get? h1.objs.size = some (seqObj "list" vs.toArray 0) := Heap.get?_push_size _ rfl
 have x := Stp.ofKeep (tk := s.toks) (h' := h1.push (seqObj "list" vs.toArray 0)) I fun b o q => aar _ _ _ (keep b o q)
 have fD : Fre s.heap h1.objs.size := Fre.size _ (by rw [hsz]; exact Nat.le_succ _)
 show wpAny (model W.prog W.w) A.in1 _ _ E { s with heap := h1.push (seqObj "list" vs.toArray 0) }
 refine wpAny_bind (wpAny_holding (wpAny_call_entry_kw slot_list_sort ⟨_, hD, rfl⟩ entry_list_sort ?_ (ksk_l1 _ _)))
 show wpAny (model W.prog W.w) A.in1.in1 (Builtin.«list.sort» ⟨[.ref h1.objs.size], [(nKey, .ref q)]⟩) _ _ _
 rw [show Builtin.«list.sort» ⟨[.ref h1.objs.size], [(nKey, .ref q)]⟩ = ksk_tree h1.objs.size (.ref q) false from ksk_t1 q h1.objs.size]
 refine aha (s := { s with heap := h1.push (seqObj "list" vs.toArray 0) }) H hG hk hp Rm.in1.in1 Rm.in1.in1.uni x hD fD (I.fresh fD) (I.tabOld fD) rvs hl h64' fun F' s' y1 y2 y3 => ⟨_, rfl, ?_⟩
 exact wpAny_pure ⟨_, rfl, hQ _ F' s' y1 y2 fD y3⟩
end
end
section
open PySem PySem.Calls PyProof.Rows
section
variable {W : Wd} {F F' : FH} {s s' : Shared} {env : Env} {ρ : CE} {ad : Str -> Option Addr} {M : Addr -> Prop} {A : Around} {E : VP} {G : GE} {k : Nat} {S : SM}
set_option tactic.hygienic false
theorem KwsR.mono {F F' : FH} (h : ∀ a o, F a = some o -> F' a = some o) : ∀ {kvs : List (Str × CV)} {kws : List (Str × Value)}, KwsR W F kvs kws -> KwsR W F' kvs kws
 | [], _, r => r
 | (n, c) :: r, _, ⟨v, t, e, a, b⟩ => ⟨v, t, e, RV.mono _ _ h _ _ a, KwsR.mono h b⟩
noncomputable def kwNames : List (Str × CV) -> List Str
 | [] => []
 | (n, _) :: r => n :: kwNames r
def KwsPost (W : Wd) (A : Around) (k : Nat) (env : Env) (pos : Pos) (kws : List Keyword) (ρ : CE) (kvs : List (Str × CV)) (ρ' : CE) : Prop :=
 (backToKw pos (keywordEach kws env)).all (·.1.isSome) = true ∧ (backToKw pos (keywordEach kws env)).filterMap (·.1) = kwNames kvs ∧
 ∀ (F : FH) (s : Shared) (ad : Str -> Option Addr), Room A k -> Inv W F s -> Rel W F s.heap env ρ ad -> ∀ (Q : List Value -> Shared -> Prop) (E : VP),
  (∀ ks F' s' ad', Stp W (ownA ad) F F' s s' -> Rel W F' s'.heap env ρ' ad' -> (∀ x a, ad' x = some a -> ad x = some a) -> KwsR W F' kvs ((kwNames kvs).zip ks) -> Q ks s') ->
  wpAny (model W.prog W.w) A (evalAll ((backToKw pos (keywordEach kws env)).map (·.2))) Q E s
theorem aev (H : EvOK W k S.ev) {pos : Pos} : ∀ (kws : List Keyword) (ρ : CE) (kvs : List (Str × CV)) (ρ' : CE), S.kws kws ρ = some (kvs, ρ') -> KwsPost W A k env pos kws ρ kvs ρ'
 | [], ρ, kvs, ρ', h => by
  cases h
  exact ⟨rfl, rfl, fun F s ad _ I R Q E hQ => wpAny_evalAll_nil (hQ [] F s ad (.refl I) R (fun _ _ e => e) rfl)⟩
 | ⟨none, e, p⟩ :: r, ρ, kvs, ρ', h => aab h
 | ⟨some n, e, p⟩ :: r, ρ, kvs, ρ', h => by
  refine hid fun ng => ?_
  refine D.el (.val (S.ev e ρ) fun c ρ => .opt2 (S.kws r ρ) fun l ρ => .ret ((n, c) :: l, ρ)) h (C := fun kvs ρ' => ¬KwsPost W A k env pos _ ρ kvs ρ') ng fun c ρ1 h1 l ρ2 h2 ng => ?_
  obtain ⟨a1, a2, a3⟩ := aev H r ρ1 l _ h2
  refine ng ⟨a1, congrArg (n :: ·) a2, fun F s ad Rm I R Q E hQ => ?_⟩
  refine wpAny_evalAll_cons (wpAny_bind (H e ρ _ ρ1 h1 A env F s ad Rm I R _ _ fun v F1 s1 ad1 S1 R1 sub1 r1 => wpAny_bind (wpAny_standAt (wpAny_pure ?_))))
  refine a3 F1 s1 ad1 Rm S1.inv R1 _ _ fun ks F2 s2 ad2 S2 R2 sub2 r2 => ?_
  exact hQ (v :: ks) F2 s2 ad2 (S1.trans S2 (aai sub1)) R2 (fun x a q => sub1 x a (sub2 x a q)) ⟨v, _, rfl, RV.mono _ _ S2.sub _ _ r1, r2⟩
end
section
variable {W : Wd} {F F' : FH} {s s' : Shared} {env : Env} {ρ : CE} {ad : Str -> Option Addr} {M : Addr -> Prop} {A : Around} {E : VP} {G : GE} {k : Nat} {S : SM}
set_option tactic.hygienic true
theorem aii (H : SmOK W k S) (hst : ∀ x p ρ, S.ev (.Starred x p) ρ = none) (hG : GOK W k G) {f : Str} {p pos : Pos} {a : Expr} {o : CO} {ρ' : CE} (h : S.make G (mkBlt G ρ f a) ρ = some (o, ρ')) (Rm : Room A k)
 (I : Inv W F s) (R : Rel W F s.heap env ρ ad) {Q : VP} (hQ : MkPost W env ad F s o ρ' Q) : wpAny (model W.prog W.w) A (eval (.Call (.Name f p) [a] [] pos) env) Q E s := by
 have no : ∀ {P : Prop}, S.make G .no ρ = some (o, ρ') -> P := fun h => aab h
 generalize hm : mkBlt G ρ f a = mk at h
 unfold mkBlt at hm
 split at hm
 · refine hid fun z1 => ?_
   subst hm; exact no h
 · rename_i hb
   obtain ⟨hb, hf⟩ := Bool.and_eq_true_iff.mp hb
   refine hid fun z2 => ?_
   split at hm
   · rename_i g args kws p' hc
     obtain rfl := adf hc
     split at hm
     · rename_i g' p'' hg'
       obtain rfl := aav hg'
       split at hm
       · rename_i hg
         subst hm
         simp only [Bool.and_eq_true] at hg
         obtain rfl := List.isEmpty_iff.mp hg.2
         refine Mine.D.el (.opt3 (S.range args ρ) fun a b ρ => .ret (CO.list (rangeC a b), ρ)) h (C := fun o ρ' => MkPost W env ad F s o ρ' Q) hQ fun a b ρ1 h1 hQ => z2 (aid H.ev hst hG hb hf hg.1.1 hg.1.2 h1 Rm I R hQ)
       · subst hm; exact no h
     · subst hm; exact no h
   · subst hm; exact no h
theorem af2 {kws : List Keyword} {l : Expr} (h : kwKey kws = some l) : ∃ n p, kws = [⟨some n, l, p⟩] ∧ (n == nKey) = true := by
 unfold kwKey at h
 split at h
 · rename_i n e p
   split at h
   · rename_i hn
     cases h
     exact ⟨n, p, rfl, hn⟩
   · cases h
 · cases h
set_option tactic.hygienic false
theorem ahb (H : SmOK W k S) (hst : ∀ x p ρ, S.ev (.Starred x p) ρ = none) (hG : GOK W k G) {f : Str} {p pos : Pos} {a l : Expr} {kws : List Keyword} {o : CO} {ρ' : CE} (hb : isBlt G ρ f = true) (hf : (f == nSorted) = true) (hk : kwKey kws = some l) (h : S.make G (.sortK a l) ρ = some (o, ρ')) (Rm : Room A (k + 3))
 (I : Inv W F s) (R : Rel W F s.heap env ρ ad) {Q : VP} (hQ : MkPost W env ad F s o ρ' Q) : wpAny (model W.prog W.w) A (eval (.Call (.Name f p) [a] kws pos) env) Q E s := by
 refine hid fun z => ?_
 have Rk : Room A k := Rm.le (Nat.le_add_right _ _)
 refine Mine.D.el (.opt2 (S.evf a ρ) fun c ρ => .opt (cvList c) fun cs => .val (S.ev l ρ) fun d ρ => .opt (cvLam d) fun L => .opt (S.keysOf L cs) fun ks => .opt (sortP ks) fun p => .grd (Nat.ble cs.length 63) (.ret (CO.list (pickL cs p), ρ))) h
  (C := fun o ρ' => MkPost W env ad F s o ρ' Q) hQ fun c ρ1 h1 cs h2 d ρ2 h3 L h4 ks h5 pp h6 h7 hQ => z ?_
 obtain rfl := aay h2
 obtain rfl := afJ h4
 obtain rfl := beq_iff_eq.mp hf
 obtain ⟨n, pk, rfl, hn⟩ := af2 hk
 obtain ⟨g1, g2⟩ := adr hb
 have hne : ∀ x p, a ≠ .Starred x p := fun x p q => by unfold SM.evf at h1; rw [q, hst] at h1; cases h1
 refine wpAny_Call_Name_kw (ai3 hG I R g1 (by decide) g2 (v := .builtin "sorted") (by decide) ?_)
 obtain ⟨a1, a2, a3⟩ := aev (A := A) (env := env) (pos := pos) H.ev [⟨some n, l, pk⟩] ρ1 [(n, .lam L)] ρ2 (by
  show (match S.ev l ρ1 with | some (.val c, ρ) => (match S.kws [] ρ with | some (l, ρ) => some ((n, c) :: l, ρ) | none => none) | _ => none) = _
  rw [h3]; rfl)
 rw [aah hne]
 refine callWith_builtin_kwB rfl rfl (evalArgs_kwB a1 ?_)
 refine aap (adp H.ev h1 Rk I R fun v F1 s1 ad1 S1 R1 sub1 hv => aao ?_)
 refine a3 F1 s1 ad1 Rk S1.inv R1 _ _ fun ks' F2 s2 ad2 S2 R2 sub2 r2 => ?_
 rw [a2]
 obtain ⟨fv, t, e, rf, et⟩ := r2
 rw [e, show t = [] from et]
 refine aeZ H.ev hG h5 h6 Rm hn S2.inv (RV.mono _ _ S2.sub _ _ hv) rf (Nat.le_of_ble_eq_true h7) fun D F3 s3 S3 hF hD ho => ?_
 have S12 : Stp W (ownA ad) F F2 s s2 := S1.trans S2 (aai sub1)
 exact hQ D F3 s3 ad2 (S12.trans S3 fun _ q => q.elim) (R2.keep0 S2.inv S3) (fun x a q => sub1 x a (sub2 x a q)) ho hF (S12.back hD)
set_option tactic.hygienic true
theorem ahc (H : SmOK W k S) (hst : ∀ x p ρ, S.ev (.Starred x p) ρ = none) (hset : ∀ x kd p ρ, S.ev (.Set x kd p) ρ = none) (hG : GOK W k G) {e : Expr} {o : CO} {ρ' : CE} (h : S.make G (mkOf G ρ e) ρ = some (o, ρ')) (Rm3 : Room A (k + 3))
 (I : Inv W F s) (R : Rel W F s.heap env ρ ad) {Q : VP} (hQ : MkPost W env ad F s o ρ' Q) : wpAny (model W.prog W.w) A (eval e env) Q E s := by
 have no : ∀ {P : Prop}, S.make G .no ρ = some (o, ρ') -> P := fun h => aab h
 have Rm : Room A k := Rm3.le (Nat.le_add_right _ _)
 refine hid fun z => ?_
 cases e with
 | List es pos =>
  exact Mine.D.el (.opt2 (S.evs es ρ) fun avs ρ => .opt2 (freezes avs ρ) fun cs ρ => .grd (Nat.ble cs.length LIM) (.ret (CO.list cs, ρ))) h (C := fun o ρ' => MkPost W env ad F s o ρ' Q) hQ fun _ _ h1 _ _ h2 hle hQ => z (akb H.ev hst h1 h2 hle Rm I R hQ)
 | ListComp elt gens sc pos =>
  exact Mine.D.el (.opt2 (S.comp G elt gens sc ρ) fun cs ρ => .ret (CO.list cs, ρ)) h (C := fun o ρ' => MkPost W env ad F s o ρ' Q) hQ fun _ _ h1 hQ => z (aih H hst hset hG h1 Rm I R hQ)
 | Call f args kws pos =>
  generalize hm : mkOf G ρ (.Call f args kws pos) = mk at h
  unfold mkOf at hm
  dsimp only at hm
  split at hm
  · rename_i a ha
    obtain rfl := aaO ha
    split at hm
    · rename_i hkw
      obtain rfl := List.isEmpty_iff.mp hkw
      unfold mkCall at hm
      split at hm
      · rename_i f' p hf
        obtain rfl := aav hf
        exact z (aii H hst hG (hm ▸ h) Rm I R hQ)
      · split at hm
        · rename_i ob m apos hat
          obtain rfl := ade hat
          split at hm
          · rename_i hg
            subst hm
            simp only [Bool.and_eq_true] at hg
            refine Mine.D.el (.opt3 (S.evv2 ob a ρ) fun a b ρ => .opt (cvStr a) fun x => .opt (cvStr b) fun y => .grd (Nat.ble (x.b + 2) LIM && !(y.s.length == 0)) (.ret (CO.list (splitC x y.s), ρ))) h (C := fun o ρ' => MkPost W env ad F s o ρ' Q) hQ fun _ _ _ h1 x hx y hy hle hQ => ?_
            rw [aaw hx, aaw hy] at h1
            exact z (aie H.ev hst hg.1 hg.2 h1 hle Rm I R hQ)
          · subst hm; exact no h
        · subst hm; exact no h
    · unfold mkSort at hm
      split at hm
      · rename_i f' p hf
        obtain rfl := aav hf
        split at hm
        · rename_i hg
          simp only [Bool.and_eq_true] at hg
          split at hm
          · rename_i l hl
            subst hm
            exact z (ahb H hst hG hg.1 hg.2 hl h Rm3 I R hQ)
          · subst hm; exact no h
        · subst hm; exact no h
      · subst hm; exact no h
  · subst hm; exact no h
 | _ => exact no h
end
section
variable {W : Wd} {F F' : FH} {s s' : Shared} {env : Env} {ρ : CE} {ad : Str -> Option Addr} {M : Addr -> Prop} {A : Around} {E : VP} {G : GE} {k : Nat} {S : SM}
set_option tactic.hygienic false
theorem ahd (H : EvOK W k S.ev) (hst : ∀ x p ρ, S.ev (.Starred x p) ρ = none) {pos : Pos} {args : List Expr} {kws : List Keyword} {ρ1 ρ' : CE} {avs : List EV} {kvs : List (Str × CV)} (h1 : S.evs args ρ = some (avs, ρ1)) (h2 : S.kws kws ρ1 = some (kvs, ρ'))
 (Rm : Room A k) (I : Inv W F s) (R : Rel W F s.heap env ρ ad) {fa : Addr} {o : Obj} {fd : FuncData} {Q : VP}
 (hQ : ∀ vs kw F' s' ad', Stp W (ownA ad) F F' s s' -> Rel W F' s'.heap env ρ' ad' -> (∀ x a, ad' x = some a -> ad x = some a) -> EVRs W F' s'.heap env avs vs -> KwsR W F' kvs kw ->
  (s'.heap.get? fa = some o ∧ o.data = .func fd) ∧ wpAny (model W.prog W.w) A (call (.ref fa) vs kw) Q E s') :
 wpAny (model W.prog W.w) A (callWith pos (.ref fa) [] (backTo pos (starEach args env)) (backToKw pos (keywordEach kws env))) Q E s := by
 refine callWith_function_kw (o := o) (fd := fd) ?_
 have hall := (aev (A := A) (env := env) (pos := pos) H kws ρ1 kvs ρ' h2).1
 cases args with
 | nil =>
  refine hid fun z1 => ?_
  cases h1
  obtain ⟨a1, a2, a3⟩ := aev (A := A) (env := env) (pos := pos) H kws ρ kvs ρ' h2
  refine z1 ?_
  refine evalArgs_kw_nil hall (a3 F s ad Rm I R _ _ fun ks F2 s2 ad2 S2 R2 sub2 r2 => ?_)
  rw [a2]
  exact hQ [] _ F2 s2 ad2 S2 R2 sub2 rfl r2
 | cons e r =>
  have hne : ∀ x p, e ≠ .Starred x p := aiY hst h1
  have body : wpAny (model W.prog W.w) A (spliced (backTo pos (starEach (e :: r) env))) (fun vs s1 => wpAny (model W.prog W.w) A (evalAll ((backToKw pos (keywordEach kws env)).map (·.2)))
   (fun ks s2 => (s2.heap.get? fa = some o ∧ o.data = .func fd) ∧ wpAny (model W.prog W.w) A (call (.ref fa) ([] ++ vs) (((backToKw pos (keywordEach kws env)).filterMap (·.1)).zip ks)) Q E s2) E s1) E s := by
   refine aeg H hst (e :: r) ρ avs ρ1 h1 A env F s ad pos Rm I R _ _ fun vs F1 s1 ad1 S1 R1 sub1 r1 => ?_
   obtain ⟨a1, a2, a3⟩ := aev (A := A) (env := env) (pos := pos) H kws ρ1 kvs ρ' h2
   refine a3 F1 s1 ad1 Rm S1.inv R1 _ _ fun ks F2 s2 ad2 S2 R2 sub2 r2 => ?_
   rw [a2]
   exact hQ vs _ F2 s2 ad2 (S1.trans S2 (aai sub1)) R2 (fun x a q => sub1 x a (sub2 x a q)) (EVRs.step S1.inv R1 S2 r1) r2
  rw [aah hne] at body ⊢
  exact evalArgs_kw hall body
end
section
variable {W : Wd} {F F' : FH} {s s' : Shared} {env : Env} {ρ : CE} {ad : Str -> Option Addr} {M : Addr -> Prop} {A : Around} {E : VP} {G : GE} {k : Nat} {S : SM}
abbrev RVsBut (W : Wd) (F : FH) : Option Nat -> List CV -> List Value -> Prop
 | none, cs, vs => RVs W.prog W.w F cs vs
 | some 0, c :: cs, vs => ∃ v r, vs = v :: r ∧ RVs W.prog W.w F cs r
 | some (i + 1), c :: cs, vs => ∃ v r, vs = v :: r ∧ RV W.prog W.w F c v ∧ RVsBut W F (some i) cs r
 | some _, [], vs => vs = []
set_option tactic.hygienic false
theorem RVsBut.none {cs : List CV} {vs : List Value} : RVsBut W F none cs vs = RVs W.prog W.w F cs vs := by cases cs <;> rfl
inductive FzB (W : Wd) (env : Env) (ad : Str -> Option Addr) (F : FH) (s : Shared) (ρ' : CE) (b : Option Nat) (cs : List CV) (vs : List Value) : Prop
 | mk (F' : FH) (ad' : Str -> Option Addr) (h1 : Stp W (ownA ad) F F' s s) (h2 : Rel W F' s.heap env ρ' ad') (h3 : ∀ x a, ad' x = some a -> ad x = some a) (h4 : RVsBut W F' b cs vs)
theorem abJ : ∀ (b : Option Nat) (as : List EV) (ρ : CE) (cs : List CV) (ρ' : CE) (F : FH) (ad : Str -> Option Addr), frzBut b as ρ = some (cs, ρ') -> Inv W F s -> Rel W F s.heap env ρ ad ->
 ∀ vs, EVRs W F s.heap env as vs -> FzB W env ad F s ρ' b cs vs
 | b, [], ρ, cs, ρ', F, ad, h, I, R, vs, hv => by
  cases h
  obtain rfl : vs = [] := hv
  exact ⟨F, ad, .refl I, R, fun _ _ e => e, match b with | none => rfl | some 0 => rfl | some (_ + 1) => rfl⟩
 | none, a :: as, ρ, cs, ρ', F, ad, h, I, R, vs, hv => by
  refine hid fun ng => ?_
  obtain ⟨v, r, rfl, ha, hr⟩ := hv
  refine D.el (.opt2 (freeze ρ a) fun c ρ => .opt2 (frzBut none as ρ) fun cs ρ => .ret (c :: cs, ρ)) h (C := fun cs ρ' => ¬FzB W env ad F s ρ' _ cs (v :: r)) ng fun c ρ1 h1 cs' ρ2 h2 ng => ?_
  obtain ⟨F1, ad1, S1, R1, sub1, rv1⟩ := ace I R h1 ha
  obtain ⟨F2, ad2, S2, R2, sub2, rv2⟩ := abJ none as ρ1 cs' _ F1 ad1 h2 S1.inv R1 r (EVRs.step I R S1 hr)
  exact ng ⟨F2, ad2, S1.trans S2 (aai sub1), R2, fun x a q => sub1 x a (sub2 x a q), v, r, rfl, RV.mono _ _ S2.sub _ _ rv1, RVsBut.none ▸ rv2⟩
 | some 0, a :: as, ρ, cs, ρ', F, ad, h, I, R, vs, hv => by
  refine hid fun ng => ?_
  obtain ⟨v, r, rfl, ha, hr⟩ := hv
  refine D.el (.opt2 (frzBut none as ρ) fun cs ρ => .ret (.none :: cs, ρ)) h (C := fun cs ρ' => ¬FzB W env ad F s ρ' _ cs (v :: r)) ng fun cs' ρ2 h2 ng => ?_
  obtain ⟨F2, ad2, S2, R2, sub2, rv2⟩ := abJ none as ρ cs' _ F ad h2 I R r hr
  exact ng ⟨F2, ad2, S2, R2, sub2, v, r, rfl, RVsBut.none ▸ rv2⟩
 | some (i + 1), a :: as, ρ, cs, ρ', F, ad, h, I, R, vs, hv => by
  refine hid fun ng => ?_
  obtain ⟨v, r, rfl, ha, hr⟩ := hv
  refine D.el (.opt2 (freeze ρ a) fun c ρ => .opt2 (frzBut (some i) as ρ) fun cs ρ => .ret (c :: cs, ρ)) h (C := fun cs ρ' => ¬FzB W env ad F s ρ' _ cs (v :: r)) ng fun c ρ1 h1 cs' ρ2 h2 ng => ?_
  obtain ⟨F1, ad1, S1, R1, sub1, rv1⟩ := ace I R h1 ha
  obtain ⟨F2, ad2, S2, R2, sub2, rv2⟩ := abJ (some i) as ρ1 cs' _ F1 ad1 h2 S1.inv R1 r (EVRs.step I R S1 hr)
  exact ng ⟨F2, ad2, S1.trans S2 (aai sub1), R2, fun x a q => sub1 x a (sub2 x a q), v, r, rfl, RV.mono _ _ S2.sub _ _ rv1, rv2⟩
theorem aew {h : Heap} {la : Addr} {o : CO} (ho : OR W.prog W.w F h o la) : ∀ {i : Nat} {cs : List CV} {vs : List Value}, RVsBut W F (some i) cs vs -> vs[i]? = some (.ref la) -> ArgsR W F h (some i) la (cs.set i o.cv) vs
 | i, [], vs, hb, hv => by
  have : vs = [] := by cases i <;> simpa only [RVsBut] using hb
  rw [this] at hv; cases hv
 | 0, c :: cs, vs, hb, hv => by
  obtain ⟨v, r, rfl, q⟩ := hb
  cases hv
  exact ⟨o, r, rfl, rfl, ho, q⟩
 | i + 1, c :: cs, vs, hb, hv => by
  obtain ⟨v, r, rfl, q1, q2⟩ := hb
  exact ⟨v, r, rfl, q1, aew ho q2 hv⟩
theorem EVRs.at {h : Heap} : ∀ {as : List EV} {vs : List Value}, EVRs W F h env as vs -> ∀ {i : Nat} {a : EV}, as[i]? = some a -> ∃ v, vs[i]? = some v ∧ EVR W F h env a v
 | [], _, _, i, a, e => by cases e
 | b :: as, _, ⟨v, r, e', x, y⟩, i, a, e => by
  subst e'
  cases i with
  | zero => cases e; exact ⟨v, rfl, x⟩
  | succ i => exact EVRs.at y e
theorem D.ev {o : Option (EV × CE)} {r : EV} {ρ' : CE} {Q : VP} (d : D (EV × CE)) (h : o = some (r, ρ')) (c : EvPost W env ad F s r ρ' Q) {P : Prop} (k : d.inv (fun z => EvPost W env ad F s z.1 z.2 Q -> P)) (e : d.run = o := by ext) : P :=
 D.ok (P := fun z => EvPost W env ad F s z.1 z.2 Q -> P) (e.trans h) k c
theorem af3 {a : Option EV} {x : Str} (h : evRef a = some x) : a = some (.ref x) := by
 rcases a with _ | _ | y
 · exact aab h
 · exact aab h
 · cases h; rfl
theorem afH {k : Option NameKind} (h : isG k = true) : k = some .globalImplicit := by
 rcases k with _ | k
 · cases h
 · cases k <;> first | rfl | cases h
theorem ahe {g : Option GV} {f : FS} (h : fnOf g = some f) : g = some (.fn f) := by
 rcases g with _ | _ | _ | _
 · exact aab h
 · exact aab h
 · cases h; rfl
 · exact aab h
theorem aij {g : Option GV} (h : isB g = true) : g = some .blt := by
 rcases g with _ | _ | _ | _
 · cases h
 · cases h
 · cases h
 · rfl
theorem amq {f : Str} {c v : CV} (h : bltC f c = some v) : ∃ id, bltV f = some id ∧ keeperOf id = pure .machine := by
 unfold bltC at h
 unfold bltV
 cases q1 : f == nLen with
 | true => exact ⟨_, rfl, rfl⟩
 | false => cases q2 : f == nOrd with
  | true => exact ⟨_, rfl, rfl⟩
  | false => cases q3 : f == nChr with
   | true => exact ⟨_, rfl, rfl⟩
   | false => rw [q1, q2, q3] at h; exact aab h
theorem af4 (H : EvOK W k S.ev) (hst : ∀ x p ρ, S.ev (.Starred x p) ρ = none) {f : FS} {fa : Addr} (hf : FunOK W k f fa) {pos : Pos} {args : List Expr} {kws : List Keyword} {r : EV} {ρ' : CE} (h : S.callDef f args kws ρ = some (r, ρ'))
 (Rm : Room A k) (I : Inv W F s) (R : Rel W F s.heap env ρ ad) {Q : VP} (hQ : EvPost W env ad F s r ρ' Q) :
 wpAny (model W.prog W.w) A (callWith pos (.ref fa) [] (backTo pos (starEach args env)) (backToKw pos (keywordEach kws env))) Q E s := by
 refine hid fun z0 => ?_
 obtain ⟨⟨o, fd, hF, hd⟩, hrun⟩ := hf
 refine D.ev (.opt2 (S.evs args ρ) fun avs ρ => .opt2 (S.kws kws ρ) fun kvs ρ => .opt2 (frzBut f.bor avs ρ) fun cs ρ => .alt f.bor (fun i => .opt (evRef avs[i]?) fun x => .opt (ownAt ρ x) fun o => .opt2 (f.run (cs.set i o.cv) kvs) fun c o' => .ret (.val c, ρ.set x (reown (ρ.get x) o')))
  (.opt2 (f.run cs kvs) fun c _ => .ret (.val c, ρ))) h hQ fun avs ρ1 h1 kvs ρ2 h2 cs ρ3 h3 => ⟨fun i hb x hx ob hob c o' hr hQ => z0 ?_, fun hb c o' hr hQ => z0 ?_⟩
 · refine ahd (o := o) (fd := fd) H hst h1 h2 Rm I R fun vs kw F1 s1 ad1 S1 R1 sub1 r1 k1 => ?_
   refine ⟨⟨S1.inv.heap0 _ _ hF, hd⟩, ?_⟩
   refine hid fun z1 => ?_
   obtain ⟨F2, ad2, S2, R2, sub2, rb⟩ := abJ f.bor avs ρ2 cs ρ3 F1 ad1 h3 S1.inv R1 vs r1
   have S12 : Stp W (ownA ad) F F2 s s1 := S1.trans S2 (aai sub1)
   have sub12 : ∀ x a, ad2 x = some a -> ad x = some a := fun x a q => sub1 x a (sub2 x a q)
   have hown : ownOf (ρ3.get x) = some ob := hob
   obtain ⟨la, hla, hva, hor⟩ := acf R2 hown
   obtain ⟨v, hv, hvr⟩ := EVRs.at (EVRs.step S1.inv R1 S2 r1) (af3 hx)
   obtain rfl := VarIs.uniq hvr hva
   obtain ⟨_, hFla, _⟩ := R2.own x la hla
   rw [hb] at rb
   refine z1 ?_
   refine hrun _ kvs c o' hr A F2 s1 la vs kw Rm S2.inv (by rw [hb]; exact aew hor rb hv) (KwsR.mono S2.sub k1) (fun _ => hFla) _ _ fun v F3 s3 S3 rv hb' => ?_
   obtain ⟨ho', hF'⟩ := hb' (by rw [hb]; rfl)
   have S3' : Stp W (· = la) F2 F3 s1 s3 := S3.weaken fun a q => .inl q.2
   have R3 := aiX S2.inv R2 hown hla S3' ho' hF'
   exact hQ v F3 s3 ad2 (S12.trans S3' fun a q => .inl ⟨x, sub12 x a (by rw [hla, show a = la from q])⟩) R3 sub12 rv
 · refine ahd (o := o) (fd := fd) H hst h1 h2 Rm I R fun vs kw F1 s1 ad1 S1 R1 sub1 r1 k1 => ?_
   refine ⟨⟨S1.inv.heap0 _ _ hF, hd⟩, ?_⟩
   refine hid fun z1 => ?_
   obtain ⟨F2, ad2, S2, R2, sub2, rb⟩ := abJ f.bor avs ρ2 cs ρ3 F1 ad1 h3 S1.inv R1 vs r1
   have S12 : Stp W (ownA ad) F F2 s s1 := S1.trans S2 (aai sub1)
   have sub12 : ∀ x a, ad2 x = some a -> ad x = some a := fun x a q => sub1 x a (sub2 x a q)
   rw [hb, RVsBut.none] at rb
   refine z1 ?_
   refine hrun cs kvs c o' hr A F2 s1 0 vs kw Rm S2.inv (by rw [hb]; unfold ArgsR; exact rb) (KwsR.mono S2.sub k1) (fun q => by rw [hb] at q; cases q) _ _ fun v F3 s3 S3 rv _ => ?_
   have S3' : Stp W (fun _ => False) F2 F3 s1 s3 := S3.weaken fun a q => by rw [hb] at q; cases q.1
   exact hQ v F3 s3 ad2 (S12.trans S3' fun _ q => q.elim) (R2.keep0 S2.inv S3') sub12 rv
theorem akh (H : EvOK W k S.ev) (hst : ∀ x p ρ, S.ev (.Starred x p) ρ = none) (hG : GOK W k G) {k' : Nat} (H' : EvOK W k' S.ev) (hG' : GOK W k' G) (hk : k' + 1 ≤ k) {f : Str} {p pos : Pos} {args : List Expr} {kws : List Keyword} {r : EV} {ρ' : CE} (hn : nameOk f = true) (h : S.call G f args kws ρ = some (r, ρ'))
 (Rm : Room A k) (I : Inv W F s) (R : Rel W F s.heap env ρ ad) {Q : VP} (hQ : EvPost W env ad F s r ρ' Q) :
 wpAny (model W.prog W.w) A (eval (.Call (.Name f p) args kws pos) env) Q E s := by
 refine hid fun z0 => ?_
 refine D.ev (.ite (isG (ρ.kind f)) (.alt (fnOf (G.glob f)) (fun fs => .raw (S.callDef fs args kws ρ)) (.grd (isB (G.glob f)) (.grd kws.isEmpty (.opt (l1 args) fun e => .opt2 (S.evd e ρ) fun c ρ => .opt (bltC f c) fun v => .ret (.val v, ρ)))))
  (.grd (isL (ρ.kind f)) (.grd kws.isEmpty (.opt (slLam (ρ.get f)) fun L => .opt2 (S.evs args ρ) fun avs ρ => .opt2 (freezes avs ρ) fun cs ρ => .opt (S.callLam L cs) fun c => .ret (.val c, ρ))))) h hQ
  ⟨fun hkd => ⟨fun fs hfs r' h hQ => z0 ?_, fun hfs hbl hkw e ha c ρ1 h1 v h2 hQ => z0 ?_⟩, fun _ hkd hkw L hg avs ρ1 h1 cs ρ2 h2 c h3 hQ => z0 ?_⟩
 · obtain ⟨fa, hm, hf⟩ := hG.fn f fs (ahe hfs)
   exact wpAny_Call_Name_kw (agZ hG I R (afH hkd) hn hm (af4 H hst hf h Rm I R hQ))
 · obtain rfl := aaO ha
   obtain rfl := List.isEmpty_iff.mp hkw
   have hb : isBlt G ρ f = true := by unfold isBlt; rw [afH hkd, aij hbl]
   obtain ⟨id, hid, hkeep⟩ := amq h2
   obtain ⟨hp, hw⟩ := akc (pos := pos) (E := E) (Q := fun vs s2 => keeperOf id = pure .machine ∧ wpAny (model W.prog W.w) A (call id vs) Q E s2) H hst h1 Rm I R fun v' F1 s1 ad1 S1 R1 sub1 hv =>
    akd h2 hid S1.inv hv (hQ.pvAt S1 R1 sub1)
   exact abT hG hkeep hb hn hid I R hp (wpAny_mono hw (fun _ _ q => q.2) fun _ _ q => q)
 · obtain rfl := List.isEmpty_iff.mp hkw
   obtain ⟨v, hv, hs⟩ := R.var f _ (afK hg)
   have hnn := aa4 hn
   refine wpAny_Call_Name_kw (wpAny_Name (adQ R.kind.fn hv ?_ hnn.2) hnn.1)
   refine hid fun z1 => ?_
   have hz := hs
   obtain ⟨fa, o, pm, cd, ct, qual, name, rfl, hF, rfl, _⟩ := hz
   refine z1 ?_
   refine ahd (kws := []) (o := _) (fd := _) H hst h1 (show S.kws [] ρ1 = some ([], ρ1) from rfl) Rm I R fun vs kw F1 s1 ad1 S1 R1 sub1 r1 k1 => ⟨⟨S1.inv.frz _ _ (S1.sub _ _ hF), rfl⟩, ?_⟩
   obtain rfl : kw = [] := k1
   refine hid fun z3 => ?_
   obtain ⟨F2, ad2, S2, R2, sub2, rv⟩ := abk avs ρ1 cs _ F1 ad1 h2 S1.inv R1 vs r1
   have S12 : Stp W (ownA ad) F F2 s s1 := S1.trans S2 (aai sub1)
   refine z3 ?_
   exact (adv H' hG' h3 (Rm.le hk) S2.inv (RV.mono _ _ (fun a o e => S2.sub _ _ (S1.sub _ _ e)) _ _ hs) rv (hQ.pvAt S12 R2 fun x a q => sub1 x a (sub2 x a q))).2
end
set_option tactic.hygienic false
theorem EvOK.mono {W : Wd} {k k' : Nat} {ev : Expr -> CE -> Option (EV × CE)} (h : EvOK W k ev) (hk : k ≤ k') : EvOK W k' ev := fun e ρ r ρ' q A env F s ad Rm => h e ρ r ρ' q A env F s ad (Rm.le hk)
theorem ItOK.mono {W : Wd} {k k' : Nat} {ev : Expr -> CE -> Option (Bool × CE)} (h : ItOK W k ev) (hk : k ≤ k') : ItOK W k' ev := fun e ρ r ρ' q A env F s ad Rm => h e ρ r ρ' q A env F s ad (Rm.le hk)
theorem XsOK.mono {W : Wd} {k k' : Nat} {ev : Stmt -> CE -> Option (FC × CE)} (h : XsOK W k ev) (hk : k ≤ k') : XsOK W k' ev := fun e ρ r ρ' q A env F s ad Rm => h e ρ r ρ' q A env F s ad (Rm.le hk)
theorem SmOK.mono {W : Wd} {k k' : Nat} {S : SM} (h : SmOK W k S) (hk : k ≤ k') : SmOK W k' S := ⟨h.ev.mono hk, h.it.mono hk, h.xs.mono hk⟩
theorem FunOK.mono {W : Wd} {k k' : Nat} {f : FS} {a : Addr} (h : FunOK W k f a) (hk : k ≤ k') : FunOK W k' f a := ⟨h.1, fun cs kvs c o' q A F s la vs kws Rm => h.2 cs kvs c o' q A F s la vs kws (Rm.le hk)⟩
theorem GOK.mono {W : Wd} {k k' : Nat} {G : GE} (h : GOK W k G) (hk : k ≤ k') : GOK W k' G := ⟨h.tabs, h.nolim, h.ns, h.const, h.blt, fun x f q => let ⟨a, e, r⟩ := h.fn x f q; ⟨a, e, r.mono hk⟩⟩
section
variable {W : Wd} {F F' : FH} {s s' : Shared} {env : Env} {ρ : CE} {ad : Str -> Option Addr} {M : Addr -> Prop} {A : Around} {E : VP} {G : GE} {k : Nat} {S : SM}
set_option tactic.hygienic false
theorem aki {o : CO} {ρ' : CE} {Q : VP} (I : Inv W F s) (R : Rel W F s.heap env ρ ad) (hQ : EvPost W env ad F s (.val o.cv) ρ' Q) : MkPost W env ad F s o ρ' Q := by
 intro a F' s' ad' S' R' sub' ho hF hD
 obtain ⟨ob, e, rv⟩ := ho.toRV hF
 have hT : ¬ W.T a := I.tabOld hD
 have S2 : Stp W (ownA ad) F (F'.add a ob) s s' := S'.freeze hF e hT (.inr hD)
 have S12 : Stp W (· = a) F' (F'.add a ob) s' s' := ((Stp.refl (M := fun _ => False) S'.inv).weaken fun a (q : False) => q.elim).freeze hF e hT (.inl rfl)
 refine hQ _ _ _ ad' S2 (R'.keep S'.inv S12 fun b q => ?_) sub' rv
 obtain rfl : b = a := q
 refine ⟨fun ⟨x, e⟩ => ?_, fun e => ?_, fun y e => ?_⟩
 · obtain ⟨_, _, _, _, _, o, e'⟩ := R.own x _ (sub' x _ e); exact hD.ne e' rfl
 · obtain ⟨m, o, es, ep, e', _⟩ := R.ns; exact hD.ne e' e
 · obtain ⟨v, o, e', _⟩ := R.cl y _ e; exact hD.ne e' rfl
set_option tactic.hygienic true
theorem ahf (H : SmOK W k S) (hst : ∀ x p ρ, S.ev (.Starred x p) ρ = none) (hset : ∀ x kd p ρ, S.ev (.Set x kd p) ρ = none) (hG : GOK W k G) (hk : 20 ≤ k) : EvOK W (k + 3) (evStep G S) := by
 intro e ρ r ρ' h A env F s ad Rm I R Q E hQ
 have Rk : Room A k := Rm.le (Nat.le_add_right k 3)
 have Rm1 : Room A (k + 1) := Rm.le (Nat.add_le_add_left (by decide) k)
 have hQ : EvPost W env ad F s r ρ' Q := hQ
 unfold evStep at h
 refine hid fun z0 => ?_
 split at h
 · rename_i hno
   clear hno
   cases e with
   | Constant c kd p => exact D.ev (.opt (constC c) fun v => .ret (.val v, ρ)) h hQ fun v hv hQ => z0 (aib hv I (EvPost.pv hQ I R))
   | Name x p =>
    unfold evN at h
    dsimp only at h
    split at h
    · exact aab h
    · rename_i hx
      exact z0 (aj8 hG I R hx h hQ)
   | BoolOp op es p =>
    refine z0 ?_
    rw [arm_eval_BoolOp]
    exact acY H.ev _ ρ r ρ' h F s ad Rk I R Q hQ
   | Compare l ops rs p =>
    refine D.ev (.opt (l1 ops) fun op => .opt (l1 rs) fun rr => .ite (behindInMarks op rr) .fail (.opt3 (S.ev2 l rr ρ) fun a b ρ => .opt (cmpC op a b) fun t => .ret (.val (.bool t), ρ))) h hQ fun op e1 rr e2 => ⟨fun _ => trivial, fun hm _ _ _ h1 _ h2 hQ => z0 ?_⟩
    rw [aaO e1, aaO e2]
    exact afV H.ev hm h1 h2 Rk hk I R hQ
   | BinOp l op rr p => exact D.ev (.opt3 (S.ev2 l rr ρ) fun a b ρ => .opt (binC op a b) fun c => .ret (.val c, ρ)) h hQ fun _ _ _ h1 _ h2 hQ => z0 (aic H.ev h1 h2 Rk I R hQ)
   | UnaryOp op x p => exact D.ev (.val (S.ev x ρ) fun c ρ => .opt (negC op c) fun v => .ret (.val v, ρ)) h hQ fun _ _ h1 _ h2 hQ => z0 (aj9 H.ev h1 h2 Rk I R hQ)
   | Lambda pa b sc p => exact D.ev (.grd (scOk sc && lamOk pa && lamS ρ.scope && noFree sc) (.ret (.val (.lam ⟨pa, b, sc⟩), ρ))) h hQ fun h1 hQ => z0 (amp hG h1 I R (EvPost.pv hQ I R))
   | IfExp t b o p =>
    refine D.ev (.opt2 (S.it t ρ) fun t ρ => .ite t (.raw (S.ev b ρ)) (.raw (S.ev o ρ))) h hQ fun t ρ1 h1 => ⟨fun ht r h2 hQ => z0 (wpAny_IfExp ?_), fun ht r h2 hQ => z0 (wpAny_IfExp ?_)⟩
    · rw [ht] at h1
      exact H.it _ ρ true ρ1 h1 A env F s ad Rk I R _ _ fun F1 s1 ad1 S1 R1 sub1 => H.ev _ ρ1 r.1 r.2 h2 A env F1 s1 ad1 Rk S1.inv R1 _ _ (EvPost.step hQ S1 sub1)
    · rw [ht] at h1
      exact H.it _ ρ false ρ1 h1 A env F s ad Rk I R _ _ fun F1 s1 ad1 S1 R1 sub1 => H.ev _ ρ1 r.1 r.2 h2 A env F1 s1 ad1 Rk S1.inv R1 _ _ (EvPost.step hQ S1 sub1)
   | Call f args kws pos =>
    refine D.ev (.alt (eAttr f) (fun q => .grd kws.isEmpty (.grd (methOk q.1 args.length q.2.2 pos) (.raw (S.meth q.1 q.2.1 args ρ)))) (.opt2 (eName f) fun f _ => .grd (nameOk f) (.raw (S.call G f args kws ρ)))) h hQ
     ⟨fun q hat hkw hok r h hQ => z0 ?_, fun _ f _ hnm hn r h hQ => z0 ?_⟩
    · rw [ade hat, List.isEmpty_iff.mp hkw]
      exact aka H.ev hk hst hok h Rk I R hQ
    · rw [aav hnm]
      exact akh (H.ev.mono (Nat.le_succ k)) hst (hG.mono (Nat.le_succ k)) H.ev hG (Nat.le_refl _) hn h Rm1 I R hQ
   | Subscript v i p =>
    refine D.ev (.alt (eSlice i) (fun q => .alt q.2.2 (fun _ => .fail) (.opt2 (S.ev v ρ) fun a ρ => .opt2 (S.oint q.1 ρ) fun l ρ => .opt2 (S.oint q.2.1 ρ) fun h ρ => .opt (deref ρ a) fun o => .opt (sliceC o l h) fun c => .ret (.val c, ρ)))
     (.opt3 (S.ev2 v i ρ) fun o k ρ => .opt (subC o k) fun c => .ret (.val c, ρ))) h hQ ⟨fun q hsl => ⟨fun _ _ => trivial, fun hst _ _ h1 _ _ h2 _ _ h3 _ h4 _ h5 hQ => z0 ?_⟩, fun _ _ _ _ h1 _ h2 hQ => z0 (afW H.ev h1 h2 Rk I R hQ)⟩
    obtain ⟨lo, hi, st⟩ := q
    obtain ⟨q, e⟩ := aeB hsl
    rw [e, show st = none from hst]
    exact aek H.ev h1 h2 h3 h4 h5 Rk I R hQ
   | _ => exact aab h
 · exact D.ev (.opt2 (S.make G (mkOf G ρ e) ρ) fun o ρ => .ret (.val o.cv, ρ)) h hQ fun _ _ h1 hQ => z0 (ahc H hst hset hG h1 Rm I R (aki I R hQ))
set_option tactic.hygienic false
theorem akj (x : Expr) (p : Pos) (ρ : CE) : evStep G S (.Starred x p) ρ = none := rfl
theorem akJ (x : List Expr) (kd : Nat) (p : Pos) (ρ : CE) : evStep G S (.Set x kd p) ρ = none := rfl
end
set_option tactic.hygienic false
theorem ac6 {e : Expr} (h : plainE e = true) (t : Option Expr) (l : Nat) (env : Env) : swapsWith e t l env = pure false := by
 cases e <;> first | rfl | cases h
theorem amr {e o i : Expr} {p : Pos} (l : Nat) (env : Env) : swapsWith e (some (.Subscript o i p)) l env = pure false := by
 cases e <;> rfl
section
variable {W : Wd} {F F' : FH} {s s' : Shared} {env : Env} {ρ : CE} {ad : Str -> Option Addr} {M : Addr -> Prop} {A : Around} {E : VP} {G : GE} {k : Nat} {S : SM}
set_option tactic.hygienic false
theorem adc (R : Rel W F s.heap env ρ ad) : interactive env = false := by
 unfold interactive
 rw [R.kind.fn]; rfl
set_option tactic.hygienic true
theorem ac7 {x : Str} {c : CV} {v : Value} {ρ1 : CE} {F1 : FH} {s1 : Shared} {ad1 : Str -> Option Addr} (S1 : Stp W (ownA ad) F F1 s s1) (R1 : Rel W F1 s1.heap env ρ1 ad1) (sub1 : ∀ x a, ad1 x = some a -> ad x = some a)
 (hc : canSet ρ1 x = true) (hv : RV W.prog W.w F1 c v) {Q : Flow -> Shared -> Prop} (hQ : XsPost W env ad F s .next (ρ1.set x (.val c)) Q) :
 wpAny (model W.prog W.w) A (storeName env x v) (fun _ => Q .next) E s1 := by
 have hn : NewSlot W F1 s1.heap env ad1 x (.val c) v none := ⟨hv, rfl⟩
 refine abR S1.inv R1 hc hn fun s' S' R' => ?_
 exact hQ .next F1 s' _ ((aax S1).trans S' (aaN fun x a q => .inl (sub1 x a q))) R' (fun y a e => .inl (sub1 y a (abH hn y a e))) rfl
set_option tactic.hygienic false
theorem ahg (R : Rel W F s.heap env ρ ad) {d : Str} {o : CO} (hn : nameOk d = true) (h : ownAt ρ d = some o) {p : Pos} {Q : VP}
 (hQ : ∀ a, ad d = some a -> VarIs s.heap env d (.ref a) -> Q (.ref a) s) : wpAny (model W.prog W.w) A (eval (.Name d p) env) Q E s := by
 refine hid fun z0 => ?_
 have hown : ownOf (ρ.get d) = some o := h
 obtain ⟨a, ha, hva, _⟩ := acf R hown
 have hnn := aa4 hn
 refine z0 ?_
 exact wpAny_Name (adQ R.kind.fn hva (hQ a ha hva) hnn.2) hnn.1
set_option tactic.hygienic true
theorem akk (H : EvOK W k S.ev) {e : Expr} {pos : Pos} {ρ' : CE} (hp : plainE e = true) (h : S.ev e ρ = some (.val .none, ρ')) (Rm : Room A k) (I : Inv W F s) (R : Rel W F s.heap env ρ ad) {Q : Flow -> Shared -> Prop} (hQ : XsPost W env ad F s .next ρ' Q) :
 wpAny (model W.prog W.w) A (exec (.Expr e pos) env) Q E s := by
 refine wpAny_Expr (H e ρ _ ρ' h A env F s ad Rm I R _ _ fun v F1 s1 ad1 S1 R1 sub1 r1 => ?_) (adc R) (ac6 hp _ _ _)
 have r1 : RV W.prog W.w F1 .none v := r1
 subst r1
 exact hQ .next F1 s1 ad1 (aax S1) R1 (fun x a q => .inl (sub1 x a q)) rfl
theorem ahh (H : EvOK W k S.ev) {e : Expr} {x : Str} {p pos : Pos} {c : CV} {ρ1 : CE} (hp : plainE e = true) (h : S.evf e ρ = some (c, ρ1)) (hc : canSet ρ1 x = true) (Rm : Room A k) (I : Inv W F s) (R : Rel W F s.heap env ρ ad) {Q : Flow -> Shared -> Prop}
 (hQ : XsPost W env ad F s .next (ρ1.set x (.val c)) Q) : wpAny (model W.prog W.w) A (exec (.Assign [.Name x p] e pos) env) Q E s := by
 refine wpAny_Assign_Name (adp H h Rm I R fun v F1 s1 ad1 S1 R1 sub1 hv => ?_) (ac6 hp _ _ _)
 exact ac7 S1 R1 sub1 hc hv hQ
theorem adw (H : SmOK W k S) (hst : ∀ x p ρ, S.ev (.Starred x p) ρ = none) (hset : ∀ x kd p ρ, S.ev (.Set x kd p) ρ = none) (hG : GOK W k G) {e : Expr} {x : Str} {p pos : Pos} {o : CO} {ρ1 : CE} {b : Bool} (h : S.make G (mkOf G ρ e) ρ = some (o, ρ1))
 (hc : canSet ρ1 x = true) (Rm : Room A (k + 3)) (I : Inv W F s) (R : Rel W F s.heap env ρ ad) {Q : Flow -> Shared -> Prop}
 (hQ : XsPost W env ad F s .next (ρ1.set x (match (generalizing := false) b with | true => .own o | false => .val o.cv)) Q) : wpAny (model W.prog W.w) A (exec (.Assign [.Name x p] e pos) env) Q E s := by
 have plain : swapsWith e (some (.Name x p)) pos.line env = pure false -> wpAny (model W.prog W.w) A (exec (.Assign [.Name x p] e pos) env) Q E s := fun hs => by
  refine wpAny_Assign_Name (ahc H hst hset hG h Rm I R fun a F1 s1 ad1 S1 R1 sub1 ho hF hD => ?_) hs
  refine aet (b := b) I R S1 R1 sub1 ho hF hD hc fun F' s' ad' S' R' sub' _ => ?_
  exact hQ .next F' s' ad' S' R' (fun y c q => (sub' y c q).elim (fun z => .inl (sub1 y c z)) fun z => .inr (z ▸ hD)) rfl
 cases e with
 | ListComp elt gens sc cpos =>
  have hsw : ∃ t, swapsWith (.ListComp elt gens sc cpos) (some (.Name x p)) pos.line env = pure t := ⟨_, rfl⟩
  refine hid fun z1 => ?_
  obtain ⟨t, ht⟩ := hsw
  cases t with
  | false => refine z1 ?_; exact plain ht
  | true =>
   have h : S.make G (.comp elt gens sc) ρ = some (o, ρ1) := h
   unfold SM.make at h
   dsimp only at h
   split at h
   · rename_i cs ρ2 h1
     cases h
     refine z1 ?_
     exact afZ (b := b) H hst hset hG h1 hc (Rm.le (Nat.le_add_right _ _)) I R ht hQ
   · cases h
 | SetComp _ _ _ _ => cases h
 | DictComp _ _ _ _ _ => cases h
 | _ => exact plain rfl
set_option tactic.hygienic false
set_option backward.match.sparseCases true in
theorem ahi {a : Expr} : noStar a = true -> (match a with | .Starred .. => true | _ => false) = true -> False := by
 cases a <;> first | exact fun _ q => Bool.false_ne_true q | exact fun h _ => Bool.false_ne_true h
theorem aik {x y : Str} {px py tp p' : Pos} {k' k'' : Nat} {a b : Expr} (h : pairOk ρ x px y py a b = true) (R : Rel W F s.heap env ρ ad) :
 swappedStores [.Tuple [.Name x px, .Name y py] k' tp] (.Tuple [a, b] k'' p') env = pure (some [x, y]) := by
 unfold pairOk at h
 simp only [Bool.and_eq_true, beq_iff_eq, Bool.not_eq_true', beq_eq_false_iff_ne, ne_eq] at h
 obtain ⟨⟨⟨⟨⟨⟨⟨h1, h2⟩, h3⟩, h4⟩, h5⟩, h6⟩, h7⟩, h8⟩ := h
 have k1 := R.kind.loc x h1
 have k2 := R.kind.loc y h2
 have hb : env.blockKind = .function := by unfold Env.blockKind; rw [R.kind.fn]; rfl
 have he : [x, y].eraseDups = [x, y] := by
  have : (y == x) = false := by simp; exact fun q => h3 q.symm
  simp [List.eraseDups_cons, this]
 unfold swappedStores
 dsimp only
 rw [if_neg (by simp [hb])]
 rw [if_neg (by
  show ¬ ([a, b].any _) = true
  rw [List.any_cons, List.any_cons, List.any_nil, Bool.or_false]
  intro q
  rcases Bool.or_eq_true_iff.mp q with q | q
  · exact ahi h5 q
  · exact ahi h6 q)]
 have hf : ∀ {f : Expr -> Option Str}, f (.Name x px) = some x -> f (.Name y py) = some y -> List.filterMap f [.Name x px, .Name y py] = [x, y] := fun a b => by rw [List.filterMap_cons_some a, List.filterMap_cons_some b, List.filterMap_nil]
 rw [hf (by show (if (env.kindOf x == some .local && px.line == px.line) = true then some x else none) = some x; rw [k1]; simp) (by show (if (env.kindOf y == some .local && py.line == px.line) = true then some y else none) = some y; rw [k2, h4]; simp)]
 rw [if_neg (by rw [he]; simp), h7, h8]
 rfl
end
section
variable {W : Wd} {F F' : FH} {s s' : Shared} {env : Env} {ρ : CE} {ad : Str -> Option Addr} {M : Addr -> Prop} {A : Around} {E : VP} {G : GE} {k : Nat} {S : SM}
set_option tactic.hygienic false
theorem ac8 {x : Str} {o : CO} (h : ownAt ρ x = some o) : ownOf (ρ.get x) = some o := h
set_option tactic.hygienic true
theorem akl (H : EvOK W k S.ev) (hst : ∀ x p ρ, S.ev (.Starred x p) ρ = none) {x y : Str} {px py tp p' pos : Pos} {k' k'' : Nat} {a b : Expr} {avs : List EV} {ρ1 ρ2 : CE} {c d : CV} (hp : pairOk ρ x px y py a b = true)
 (h1 : S.evs [a, b] ρ = some (avs, ρ1)) (h2 : freezes avs ρ1 = some ([c, d], ρ2)) (hcx : canSet ρ2 x = true) (hcy : canSet ρ2 y = true) (Rm : Room A k) (I : Inv W F s) (R : Rel W F s.heap env ρ ad) {Q : Flow -> Shared -> Prop}
 (hQ : XsPost W env ad F s .next ((ρ2.set y (.val d)).set x (.val c)) Q) : wpAny (model W.prog W.w) A (exec (.Assign [.Tuple [.Name x px, .Name y py] k' tp] (.Tuple [a, b] k'' p') pos) env) Q E s := by
 have hxy : x ≠ y := by
  unfold pairOk at hp
  simp only [Bool.and_eq_true, Bool.not_eq_true', beq_eq_false_iff_ne, ne_eq] at hp
  exact hp.1.1.1.1.1.2
 refine Assign_Tuple_swapped (names := [x, y]) ?_ rfl (aik hp R)
 refine wpAny_Tuple (aeg H hst [a, b] ρ avs ρ1 h1 A env F s ad p' Rm I R _ _ fun vs F1 s1 ad1 S1 R1 sub1 r1 => ?_)
 obtain ⟨F2, ad2, S2, R2, sub2, rv⟩ := abk avs ρ1 [c, d] ρ2 F1 ad1 h2 S1.inv R1 vs r1
 obtain ⟨v, u, rfl, rc, rd⟩ : ∃ v u, vs = [v, u] ∧ RV W.prog W.w F2 c v ∧ RV W.prog W.w F2 d u := by
  obtain ⟨v, r, e, rc, u, r', e', rd, e''⟩ := rv
  exact ⟨v, u, by rw [e, e', e''], rc, rd⟩
 refine ⟨by show 2 ≤ sizeLine; decide, ?_⟩
 have S12 : Stp W (ownA ad) F F2 s s1 := S1.trans S2 (aai sub1)
 have sub12 : ∀ x a, ad2 x = some a -> ad x = some a := fun x a q => sub1 x a (sub2 x a q)
 refine unpackItems_tuple (prog := W.prog) (w := W.w) (items := #[v, u]) Rm.hh ⟨_, Heap.get?_push_size _ rfl, rfl, 0, rfl⟩ fun h' he => ?_
 have S3 : Stp W (fun _ => False) F2 F2 s1 { s1 with heap := h', toks := s1.toks } := Stp.ofKeep S2.inv fun b o e => afz he b o (aar _ b o e)
 have R3 := R2.keep0 S2.inv S3
 have S13 : Stp W (ownA ad) F F2 s { s1 with heap := h', toks := s1.toks } := S12.trans S3 fun _ q => q.elim
 show wpAny _ A (do PySem.holding [v] (bindName env y u); assignInOrder [fun v => bindName env x v] [v]) _ _ _
 refine wpAny_bind (wpAny_holding (wpAny_bindName ?_))
 have hn : NewSlot W F2 h' env ad2 y (.val d) u none := ⟨rd, rfl⟩
 refine abR (s := { s1 with heap := h', toks := s1.toks }) S3.inv R3 hcy hn fun s4 S4 R4 => ?_
 show wpAny _ A (do PySem.holding [] (bindName env x v); assignInOrder [] []) _ _ _
 refine wpAny_bind (wpAny_holding (wpAny_bindName ?_))
 have hn' : NewSlot W F2 s4.heap env (with1 ad2 y none) x (.val c) v none := ⟨rc, rfl⟩
 have hcx' : canSet (ρ2.set y (.val d)) x = true := by
  exact hcx
 have sub4 : ∀ z a, with1 ad2 y none z = some a -> ad2 z = some a := abH (s := s1) (env := env) hn
 refine abR S4.inv R4 hcx' hn' fun s5 S5 R5 => wpAny_pure ?_
 refine hQ .next F2 s5 _ (((aax S13).trans S4 (aaN fun x a q => .inl (sub12 x a q))).trans S5 (aaN fun z a q => .inl (sub12 z a (sub4 z a q)))) R5 (fun z a e => .inl (sub12 z a (sub4 z a (abH (s := s1) (env := env) hn' z a e)))) rfl
theorem af5 (H : EvOK W k S.ev) {x : Str} {op : Operator} {e : Expr} {p pos : Pos} {a b c : CV} {ρ1 : CE} (hn : nameOk x = true) (hg : ρ.get x = some (.val a)) (h1 : S.ev e ρ = some (.val b, ρ1)) (h2 : augC op a b = some c) (hc : canSet ρ1 x = true)
 (Rm : Room A k) (I : Inv W F s) (R : Rel W F s.heap env ρ ad) {Q : Flow -> Shared -> Prop} (hQ : XsPost W env ad F s .next (ρ1.set x (.val c)) Q) : wpAny (model W.prog W.w) A (exec (.AugAssign (.Name x p) op e pos) env) Q E s := by
 obtain ⟨v, hv, rv⟩ := R.var x _ hg
 refine wpAny_AugAssign_Name (adQ R.kind.fn hv ?_ (aa4 hn).2)
 refine H e ρ _ ρ1 h1 A env F s ad Rm I R _ _ fun u F1 s1 ad1 S1 R1 sub1 hu => ?_
 have hu : RV W.prog W.w F1 b u := hu
 refine ai1 h2 S1.inv (.inl (RV.mono _ _ S1.sub _ _ rv)) (.inl hu) fun w F2 s2 S2 hw => ?_
 exact ac7 (S1.trans S2 fun _ q => q.elim) (R1.keep0 S1.inv S2) sub1 hc hw hQ
theorem ahj (H : EvOK W k S.ev) {d : Str} {op : Operator} {i e : Expr} {dp ip pos : Pos} {a b c kv : CV} {ρ1 ρ2 : CE} {o0 o o2 o' : CO} (hn : nameOk d = true) (hi : notSlice i = true) (h0 : ownAt ρ d = some o0) (h1 : S.ev i ρ = some (.val kv, ρ1)) (h3 : ownAt ρ1 d = some o)
 (h4 : subC o.cv kv = some a) (h5 : S.ev e ρ1 = some (.val b, ρ2)) (h6 : augC op a b = some c) (h7 : ownAt ρ2 d = some o2) (h8 : setC o2 kv c = some o')
 (Rm : Room A k) (I : Inv W F s) (R : Rel W F s.heap env ρ ad) {Q : Flow -> Shared -> Prop} (hQ : XsPost W env ad F s .next (ρ2.set d (reown (ρ2.get d) o')) Q) :
 wpAny (model W.prog W.w) A (exec (.AugAssign (.Subscript (.Name d dp) i ip) op e pos) env) Q E s := by
 refine wpAny_AugAssign_SubscriptAny ?_ (fun ov iv new => by cases i <;> first | rfl | cases hi)
 refine ahg R hn h0 fun la hla hva => ?_
 refine H i ρ _ ρ1 h1 A env F s ad Rm I R _ _ fun u F1 s1 ad1 S1 R1 sub1 hu => ?_
 have hu : RV W.prog W.w F1 kv u := hu
 have hown := ac8 h3
 obtain ⟨a', ha', hva', hor⟩ := acf R1 hown
 have hq : a' = la := by
  have e1 := sub1 d a' ha'
  rw [hla] at e1; exact (Option.some.inj e1).symm
 subst hq
 refine (fun z : SubscriptOn (model W.prog W.w) A (.ref a') u _ E s1 => let ⟨_, _, _, _, q⟩ := z; q) (ai2 h4 S1.inv (.inr ⟨o, a', rfl, rfl, hor⟩) (.inl hu) fun v F2 s2 S2 hv => ?_)
 have R2 := R1.keep0 S1.inv S2
 refine H e ρ1 _ ρ2 h5 A env F2 s2 ad1 Rm S2.inv R2 _ _ fun w F3 s3 ad3 S3 R3 sub3 hw => ?_
 have hw : RV W.prog W.w F3 b w := hw
 have S12 : Stp W (ownA ad) F F2 s s2 := S1.trans S2 fun _ q => q.elim
 have S13 : Stp W (ownA ad) F F3 s s3 := S12.trans S3 (aai sub1)
 have sub13 : ∀ x a, ad3 x = some a -> ad x = some a := fun x a q => sub1 x a (sub3 x a q)
 refine ai1 h6 S3.inv (.inl (RV.mono _ _ S3.sub _ _ hv)) (.inl hw) fun z F4 s4 S4 hz => ?_
 have R4 := R3.keep0 S3.inv S4
 have hown2 := ac8 h7
 obtain ⟨a'', ha'', hva'', hor2⟩ := acf R4 hown2
 have hq : a'' = a' := by
  have e1 := sub13 d a'' ha''
  rw [hla] at e1; exact (Option.some.inj e1).symm
 subst hq
 have S14 : Stp W (ownA ad) F F4 s s4 := S13.trans S4 fun _ q => q.elim
 refine aml h8 hor2 (RV.mono _ _ (fun a o e => S4.sub _ _ (S3.sub _ _ (S2.sub _ _ e))) _ _ hu) hz fun h' tk hb ho => ?_
 obtain ⟨S5, R5⟩ := ag1 (tk := tk) S4.inv R4 hown2 ha'' hb ho
 exact hQ .next F4 _ ad3 (aax (S14.trans S5 (aai sub13))) R5 (fun x a q => .inl (sub13 x a q)) rfl
theorem af6 (H : EvOK W k S.ev) {d : Str} {i : Expr} {dp ip pos : Pos} {kv : CV} {ρ1 : CE} {o0 o o' : CO} (hn : nameOk d = true) (h0 : ownAt ρ d = some o0) (h1 : S.ev i ρ = some (.val kv, ρ1)) (h3 : ownAt ρ1 d = some o) (h4 : delC o kv = some o')
 (Rm : Room A k) (I : Inv W F s) (R : Rel W F s.heap env ρ ad) {Q : Flow -> Shared -> Prop} (hQ : XsPost W env ad F s .next (ρ1.set d (reown (ρ1.get d) o')) Q) :
 wpAny (model W.prog W.w) A (exec (.Delete [.Subscript (.Name d dp) i ip] pos) env) Q E s := by
 refine wpAny_Delete (wpAny_deleteEach_cons (wpAny_delete_Subscript ?_))
 refine ahg R hn h0 fun la hla hva => ?_
 refine H i ρ _ ρ1 h1 A env F s ad Rm I R _ _ fun u F1 s1 ad1 S1 R1 sub1 hu => ?_
 have hu : RV W.prog W.w F1 kv u := hu
 have hown := ac8 h3
 obtain ⟨a', ha', hva', hor⟩ := acf R1 hown
 have hq : a' = la := by
  have e1 := sub1 d a' ha'
  rw [hla] at e1; exact (Option.some.inj e1).symm
 subst hq
 refine amm h4 hor hu fun h' tk hb ho => wpAny_deleteEach_nil ?_
 obtain ⟨S3, R3⟩ := ag1 (tk := tk) S1.inv R1 hown ha' hb ho
 exact hQ .next F1 _ ad1 (aax (S1.trans S3 (aai sub1))) R3 (fun x a q => .inl (sub1 x a q)) rfl
theorem ail (H : SmOK W k S) {d : Str -> Bool} {t : Expr} {b : List Stmt} {pos : Pos} {n : Nat} {r : FC} {ρ' : CE} (h : whileL (S.it t) (S.xssD d b) n ρ = some (r, ρ')) (Rm : Room A k) (I : Inv W F s) (R : Rel W F s.heap env ρ ad) {Q : Flow -> Shared -> Prop}
 (hQ : XsPost W env ad F s r ρ' Q) : wpAny (model W.prog W.w) A (exec (.While t b [] pos) env) Q E s := by
 refine wpAny_While ?_
 let J : Nat -> Shared -> Prop := fun m s' => ∃ ρi Fi adi, whileL (S.it t) (S.xssD d b) m ρi = some (r, ρ') ∧ Stp W (frmA env ad) F Fi s s' ∧ Rel W Fi s'.heap env ρi adi ∧ (∀ x a, adi x = some a -> ad x = some a ∨ Fre s.heap a)
 refine codeAny_whileLoop J ?_ n ⟨ρ, F, ad, h, .refl I, R, fun _ _ e => .inl e⟩
 rintro m s' ⟨ρi, Fi, adi, hl, Si, Ri, subi⟩
 cases m with
 | zero => cases hl
 | succ m =>
  rw [ae4] at hl
  cases h1 : S.it t ρi with
  | none => rw [h1] at hl; cases hl
  | some p =>
   obtain ⟨ok, ρ1⟩ := p
   rw [h1] at hl
   refine H.it t ρi ok ρ1 h1 A env Fi s' adi Rm Si.inv Ri _ _ fun F1 s1 ad1 S1 R1 sub1 => ?_
   have S01 : Stp W (frmA env ad) F F1 s s1 := Si.trans (aax S1) (aaN subi)
   have sub01 : ∀ x a, ad1 x = some a -> ad x = some a ∨ Fre s.heap a := fun x a q => subi x a (sub1 x a q)
   cases ok with
   | false =>
    cases hl
    simp only [Bool.false_eq_true, if_false]
    exact wpAny_execs_nil (hQ .next F1 s1 ad1 S01 R1 sub01 rfl)
   | true =>
    dsimp only at hl
    simp only [if_true]
    cases h2 : S.xssD d b ρ1 with
    | none => rw [h2] at hl; cases hl
    | some p =>
     obtain ⟨f, ρ2⟩ := p
     rw [h2] at hl
     refine ag7 H.xs b ρ1 f ρ2 h2 A env F1 s1 ad1 Rm S1.inv R1 _ _ fun fl F2 s2 ad2 S2 R2 sub2 r2 => ?_
     have S02 : Stp W (frmA env ad) F F2 s s2 := S01.trans S2 (aaN sub01)
     have sub02 : ∀ x a, ad2 x = some a -> ad x = some a ∨ Fre s.heap a := fun x a q => (sub2 x a q).elim (sub01 x a) fun z => .inr (S01.back z)
     cases f with
     | next =>
      obtain rfl : fl = .next := r2
      exact ⟨m, Nat.lt_succ_self _, ρ2, F2, ad2, hl, S02, R2, sub02⟩
     | cont =>
      obtain rfl : fl = .cont := r2
      exact ⟨m, Nat.lt_succ_self _, ρ2, F2, ad2, hl, S02, R2, sub02⟩
     | brk =>
      obtain rfl : fl = .brk := r2
      cases hl
      exact hQ .next F2 s2 ad2 S02 R2 sub02 rfl
     | ret c =>
      obtain ⟨v, rfl, rv⟩ := r2
      cases hl
      exact hQ _ F2 s2 ad2 S02 R2 sub02 ⟨v, rfl, rv⟩
end
section
variable {W : Wd} {F F' : FH} {s s' : Shared} {env : Env} {ρ : CE} {ad : Str -> Option Addr} {A : Around} {E : VP} {G : GE} {k : Nat} {S : SM}
set_option tactic.hygienic false
theorem D.xs {o : Option (FC × CE)} {r : FC} {ρ' : CE} {Q : Flow -> Shared -> Prop} (d : D (FC × CE)) (h : o = some (r, ρ')) (c : XsPost W env ad F s r ρ' Q) {P : Prop} (k : d.inv (fun z => XsPost W env ad F s z.1 z.2 Q -> P)) (e : d.run = o := by ext) : P :=
 D.ok (P := fun z => XsPost W env ad F s z.1 z.2 Q -> P) (e.trans h) k c
set_option tactic.hygienic true
theorem akm (H : SmOK W k S) (hst : ∀ x p ρ, S.ev (.Starred x p) ρ = none) (hset : ∀ x kd p ρ, S.ev (.Set x kd p) ρ = none) (hG : GOK W k G) {e : Expr} {x : Str} {px pos : Pos} {r : FC} {ρ' : CE} (h : asgN G S x e ρ = some (r, ρ')) (Rm : Room A (k + 3))
 (I : Inv W F s) (R : Rel W F s.heap env ρ ad) {Q : Flow -> Shared -> Prop} (hQ : XsPost W env ad F s r ρ' Q) : wpAny (model W.prog W.w) A (exec (.Assign [.Name x px] e pos) env) Q E s := by
 unfold asgN at h
 split at h
 · exact D.xs (.grd (plainE e) (.opt2 (S.evf e ρ) fun c ρ => .grd (canSet ρ x) (.ret (.next, ρ.set x (.val c))))) h hQ fun hp _ _ h1 hc hQ => ahh H.ev hp h1 hc (Rm.le (Nat.le_add_right _ _)) I R hQ
 · exact D.xs (.opt2 (S.make G (mkOf G ρ e) ρ) fun o ρ => .grd (canSet ρ x) (.ite (G.owns x && isL (ρ.kind x)) (.ret (.next, ρ.set x (.own o))) (.ret (.next, ρ.set x (.val o.cv))))) h hQ fun _ _ h1 hc =>
    ⟨fun _ hQ => adw (b := true) H hst hset hG h1 hc Rm I R hQ, fun _ hQ => adw (b := false) H hst hset hG h1 hc Rm I R hQ⟩
theorem akn (H : SmOK W k S) (hst : ∀ x p ρ, S.ev (.Starred x p) ρ = none) {a b : Expr} {x y : Str} {px py pos p1 p2 : Pos} {k1 k2} {r : FC} {ρ' : CE} (h : asgP S x px y py a b ρ = some (r, ρ')) (Rm : Room A k)
 (I : Inv W F s) (R : Rel W F s.heap env ρ ad) {Q : Flow -> Shared -> Prop} (hQ : XsPost W env ad F s r ρ' Q) : wpAny (model W.prog W.w) A (exec (.Assign [.Tuple [.Name x px, .Name y py] k1 p1] (.Tuple [a, b] k2 p2) pos) env) Q E s := by
 refine D.xs (.grd (pairOk ρ x px y py a b) (.opt2 (S.evs [a, b] ρ) fun avs ρ => .opt2 (freezes avs ρ) fun cs ρ => .opt2 (l2 cs) fun c d => .grd (canSet ρ x && canSet ρ y) (.ret (.next, (ρ.set y (.val d)).set x (.val c))))) h hQ fun hp _ _ h1 _ _ h2 _ _ h3 hc hQ => ?_
 rw [acM h3] at h2
 exact akl H.ev hst hp h1 h2 (Bool.and_eq_true_iff.mp hc).1 (Bool.and_eq_true_iff.mp hc).2 Rm I R hQ
theorem ako (H : SmOK W k S) {e : Expr} {op : Operator} {x : Str} {px pos : Pos} {r : FC} {ρ' : CE} (h : augN S x op e ρ = some (r, ρ')) (Rm : Room A k)
 (I : Inv W F s) (R : Rel W F s.heap env ρ ad) {Q : Flow -> Shared -> Prop} (hQ : XsPost W env ad F s r ρ' Q) : wpAny (model W.prog W.w) A (exec (.AugAssign (.Name x px) op e pos) env) Q E s := by
 unfold augN at h
 refine hid fun z0 => ?_
 split at h
 · rename_i hn hg
   simp only [Bool.and_eq_true] at hn
   split at h
   · rename_i h1
     split at h
     · rename_i h2
       split at h
       · rename_i hc
         cases h
         refine z0 ?_
         exact af5 H.ev hn.1 hg h1 h2 hc Rm I R hQ
       · exact aab h
     · exact aab h
   · exact aab h
 · exact aab h
theorem akp (H : SmOK W k S) {i e : Expr} {op : Operator} {d : Str} {dp ip pos : Pos} {r : FC} {ρ' : CE} (h : augS S d i op e ρ = some (r, ρ')) (Rm : Room A k)
 (I : Inv W F s) (R : Rel W F s.heap env ρ ad) {Q : Flow -> Shared -> Prop} (hQ : XsPost W env ad F s r ρ' Q) : wpAny (model W.prog W.w) A (exec (.AugAssign (.Subscript (.Name d dp) i ip) op e pos) env) Q E s :=
 D.xs (.grd (nameOk d && notSlice i) (.opt (ownAt ρ d) fun _ => .val (S.ev i ρ) fun k ρ => .opt (ownAt ρ d) fun o => .opt (subC o.cv k) fun a => .val (S.ev e ρ) fun b ρ => .opt (augC op a b) fun c => .opt (ownAt ρ d) fun o => .opt (setC o k c) fun o' => .ret (.next, ρ.set d (reown (ρ.get d) o')))) h hQ
  fun hn _ h0 _ _ h1 _ h3 _ h4 _ _ h5 _ h6 _ h7 _ h8 hQ => ahj H.ev (Bool.and_eq_true_iff.mp hn).1 (Bool.and_eq_true_iff.mp hn).2 h0 h1 h3 h4 h5 h6 h7 h8 Rm I R hQ
theorem akq (H : SmOK W k S) {i : Expr} {d : Str} {dp ip pos : Pos} {r : FC} {ρ' : CE} (h : delS S d i ρ = some (r, ρ')) (Rm : Room A k)
 (I : Inv W F s) (R : Rel W F s.heap env ρ ad) {Q : Flow -> Shared -> Prop} (hQ : XsPost W env ad F s r ρ' Q) : wpAny (model W.prog W.w) A (exec (.Delete [.Subscript (.Name d dp) i ip] pos) env) Q E s :=
 D.xs (.grd (nameOk d) (.opt (ownAt ρ d) fun _ => .val (S.ev i ρ) fun k ρ => .opt (ownAt ρ d) fun o => .opt (delC o k) fun o' => .ret (.next, ρ.set d (reown (ρ.get d) o')))) h hQ
  fun hn _ h0 _ _ h1 _ h3 _ h4 hQ => af6 H.ev hn h0 h1 h3 h4 Rm I R hQ
theorem ahk (H : SmOK W k S) (hst : ∀ x p ρ, S.ev (.Starred x p) ρ = none) (hset : ∀ x kd p ρ, S.ev (.Set x kd p) ρ = none) (hG : GOK W k G) : XsOK W (k + 3) (xsStep G S) := by
 intro st ρ r ρ' h A env F s ad Rm3 I R Q E hQ0
 have Rm : Room A k := Rm3.le (Nat.le_add_right k 3)
 have hQ : XsPost W env ad F s r ρ' Q := hQ0
 clear hQ0
 refine hid fun z => ?_
 cases st with
 | Expr e p =>
  unfold xsStep at h
  dsimp only at h
  split at h
  · exact aab h
  · rename_i hp
    split at h
    · rename_i h1
      cases h
      exact z (akk H.ev hp h1 Rm I R hQ)
    · exact aab h
 | Assign ts e pos =>
  refine D.xs (.opt (l1 ts) fun t => .alt (eName t) (fun q => .raw (asgN G S q.1 e ρ)) (.opt (eTup t) fun us => .opt (eTup e) fun vs => .opt2 (l2 us) fun u v => .opt2 (l2 vs) fun a b => .opt2 (eName u) fun x px => .opt2 (eName v) fun y py => .raw (asgP S x px y py a b ρ))) h hQ
   fun t ht => ⟨fun q hn r h hQ => z ?_, fun _ us h1 vs h2 u v h3 a b h4 x px h5 y py h6 r h hQ => z ?_⟩
  · rw [aaO ht, aav hn]
    exact akm H hst hset hG h Rm3 I R hQ
  · obtain ⟨_, _, e1⟩ := acL h1
    obtain ⟨_, _, e2⟩ := acL h2
    rw [aaO ht, e1, e2, acM h3, acM h4, aav h5, aav h6]
    exact akn H hst h Rm I R hQ
 | AugAssign t op e pos =>
  refine D.xs (.alt (eName t) (fun q => .raw (augN S q.1 op e ρ)) (.opt3 (eSub t) fun a i _ => .opt2 (eName a) fun d _ => .raw (augS S d i op e ρ))) h hQ ⟨fun q hn r h hQ => z ?_, fun _ a i _ hs d _ hn r h hQ => z ?_⟩
  · rw [aav hn]
    exact ako H h Rm I R hQ
  · rw [adW hs, aav hn]
    exact akp H h Rm I R hQ
 | Return v p =>
  cases v with
  | some e =>
   exact D.xs (.opt2 (S.evf e ρ) fun c ρ => .ret (.ret c, ρ)) h hQ fun c ρ1 h1 hQ => z (wpAny_Return_some (adp H.ev h1 Rm I R fun v F1 s1 ad1 S1 R1 sub1 hv =>
    hQ _ F1 s1 ad1 (aax S1) R1 (fun x a q => .inl (sub1 x a q)) ⟨v, rfl, hv⟩))
  | none =>
   cases h
   exact z (wpAny_Return_none (hQ _ F s ad (.refl I) R (fun _ _ e => .inl e) ⟨.none, rfl, rfl⟩))
 | If t b o p =>
  refine D.xs (.opt2 (S.it t ρ) fun t ρ => .ite t (.raw (S.xss b ρ)) (.raw (S.xss o ρ))) h hQ fun t ρ1 h1 => ⟨fun ht r h hQ => z (wpAny_If ?_), fun ht r h hQ => z (wpAny_If ?_)⟩
  · rw [ht] at h1
    exact H.it _ ρ true ρ1 h1 A env F s ad Rm I R _ _ fun F1 s1 ad1 S1 R1 sub1 => aep H.xs _ ρ1 r.1 r.2 h A env F1 s1 ad1 Rm S1.inv R1 _ _ (hQ.step (aax S1) fun x a q => .inl (sub1 x a q))
  · rw [ht] at h1
    exact H.it _ ρ false ρ1 h1 A env F s ad Rm I R _ _ fun F1 s1 ad1 S1 R1 sub1 => aep H.xs _ ρ1 r.1 r.2 h A env F1 s1 ad1 Rm S1.inv R1 _ _ (hQ.step (aax S1) fun x a q => .inl (sub1 x a q))
 | For t e b els p =>
  refine D.xs (.grd els.isEmpty (.opt2 (S.items G true t e ρ) fun cs ρ1 => .raw (loopL (fun c ρ => match bindT t c ρ with | some ρ => S.xssD (news ρ1) b ρ | none => none) cs ρ1))) h hQ fun he cs _ h1 r h hQ => z ?_
  rw [List.isEmpty_iff.mp he]
  exact amn H hst hset hG h1 h Rm I R hQ
 | While t b els p =>
  refine D.xs (.grd els.isEmpty (.raw (whileL (S.it t) (S.xssD (news ρ) b) 100 ρ))) h hQ fun he r h hQ => z ?_
  rw [List.isEmpty_iff.mp he]
  exact ail H h Rm I R hQ
 | Assert t m p =>
  cases m with
  | none =>
   exact D.xs (.opt2 (S.it t ρ) fun b ρ => .grd b (.ret (.next, ρ))) h hQ fun b ρ1 h1 hb hQ => z (wpAny_Assert Rm.hh (H.it _ ρ true _ (hb ▸ h1) A env F s ad Rm I R _ _ fun F1 s1 ad1 S1 R1 sub1 =>
    hQ .next F1 s1 ad1 (aax S1) R1 (fun x a q => .inl (sub1 x a q)) rfl))
  | some _ => exact aab h
 | Delete ts p =>
  refine D.xs (.opt (l1 ts) fun t => .opt3 (eSub t) fun a i _ => .opt2 (eName a) fun d _ => .raw (delS S d i ρ)) h hQ fun t ht a i _ hs d _ hn r h hQ => z ?_
  rw [aaO ht, adW hs, aav hn]
  exact akq H h Rm I R hQ
 | _ => exact aab h
set_option tactic.hygienic false
theorem ai5 (hG : GOK W k G) (hk : 20 ≤ k) : ∀ n, SmOK W (k + 3 * n) (sem G n) ∧ (∀ x p ρ, (sem G n).ev (.Starred x p) ρ = none) ∧ ∀ x kd p ρ, (sem G n).ev (.Set x kd p) ρ = none
 | 0 => ⟨⟨fun _ _ _ _ h => (by cases h), fun _ _ _ _ h => (by cases h), fun _ _ _ _ h => (by cases h)⟩, fun _ _ _ => rfl, fun _ _ _ _ => rfl⟩
 | n + 1 => by
  obtain ⟨H, hst, hset⟩ := ai5 hG hk n
  have hG' : GOK W (k + 3 * n) G := hG.mono (Nat.le_add_right _ _)
  have hk' : 20 ≤ k + 3 * n := Nat.le_trans hk (Nat.le_add_right _ _)
  exact ⟨⟨ahf H hst hset hG' hk', (ag2 H hk').mono (Nat.le_add_right _ 3), ahk H hst hset hG'⟩, fun _ _ _ => rfl, fun _ _ _ _ => rfl⟩
end
set_option tactic.hygienic true
theorem aaQ : ∀ (names : List (Str × NameKind)) (n : Nat) (acc : List (Str × Addr)) (x : Str), ((acc.lookup x).isSome = true ∨ (x, NameKind.cell) ∈ names) -> ((cellsFrom n names acc).lookup x).isSome = true
 | [], n, acc, x, h => by
  rcases h with h | h
  · exact h
  · cases h
 | (m, kd) :: r, n, acc, x, h => by
  unfold cellsFrom
  split
  · rename_i hk
    refine aaQ r _ _ x ?_
    rcases h with h | h
    · left
      simp only [List.lookup_cons]
      cases x == m with
      | true => rfl
      | false => exact h
    · rcases List.mem_cons.mp h with q | q
      · cases q; left; simp [List.lookup_cons]
      · exact .inr q
  · rename_i hk
    refine aaQ r _ _ x ?_
    rcases h with h | h
    · exact .inl h
    · rcases List.mem_cons.mp h with q | q
      · cases q; exact absurd rfl hk
      · exact .inr q
set_option tactic.hygienic false
theorem aex {kindOf : Str -> Option NameKind} : ∀ (bs : List (Str × Value)) (m : Str -> Option Value) (n : Str), n ∉ bs.map (·.1) -> bindL kindOf bs m n = m n
 | [], m, n, _ => rfl
 | (p, v) :: r, m, n, h => by
  simp only [List.map_cons, List.mem_cons, not_or] at h
  unfold bindL
  rw [aex r _ n h.2]
  split
  · exact if_neg h.1
  · rfl
theorem aey {kindOf : Str -> Option NameKind} : ∀ (bs : List (Str × Value)) (m : Str -> Option Value) (n : Str) (v : Value), (bs.map (·.1)).Nodup -> (n, v) ∈ bs -> kindOf n = some .local -> bindL kindOf bs m n = some v
 | [], m, n, v, _, h, _ => by cases h
 | (p, u) :: r, m, n, v, hn, h, hk => by
  simp only [List.map_cons, List.nodup_cons] at hn
  unfold bindL
  rcases List.mem_cons.mp h with q | q
  · obtain ⟨rfl, rfl⟩ := Prod.mk.inj q
    rw [aex r _ _ hn.1, if_pos hk]
    exact if_pos rfl
  · exact aey r _ n v hn.2 q hk
theorem aez {kindOf : Str -> Option NameKind} : ∀ (bs : List (Str × Value)) (m : Str -> Option Value) (n : Str), n ∉ bs.map (·.1) -> bindC kindOf bs m n = m n
 | [], m, n, _ => rfl
 | (p, v) :: r, m, n, h => by
  simp only [List.map_cons, List.mem_cons, not_or] at h
  unfold bindC
  rw [aez r _ n h.2]
  split
  · rfl
  · exact if_neg h.1
theorem aeA {kindOf : Str -> Option NameKind} : ∀ (bs : List (Str × Value)) (m : Str -> Option Value) (n : Str) (v : Value), (bs.map (·.1)).Nodup -> (n, v) ∈ bs -> kindOf n = some .cell -> bindC kindOf bs m n = some v
 | [], m, n, v, _, h, _ => by cases h
 | (p, u) :: r, m, n, v, hn, h, hk => by
  simp only [List.map_cons, List.nodup_cons] at hn
  unfold bindC
  rcases List.mem_cons.mp h with q | q
  · obtain ⟨rfl, rfl⟩ := Prod.mk.inj q
    have hk' : ¬ kindOf n = some .local := by rw [hk]; decide
    rw [aez r _ _ hn.1, if_neg hk']
    exact if_pos rfl
  · exact aeA r _ n v hn.2 q hk
section
variable {W : Wd} {F F' : FH} {s s' : Shared} {env : Env} {ρ : CE} {ad : Str -> Option Addr}
def SlotB (W : Wd) (F : FH) (h : Heap) (la : Addr) (sl : Slot) (v : Value) : Prop := match sl with
 | .val c => RV W.prog W.w F c v
 | .bor o => v = .ref la ∧ OR W.prog W.w F h o la ∧ W.lent = some la
 | _ => False
def BindR (W : Wd) (F : FH) (h : Heap) (la : Addr) : List (Str × Slot) -> List (Str × Value) -> Prop
 | [], bs => bs = []
 | (p, sl) :: l, bs => ∃ v r, bs = (p, v) :: r ∧ SlotB W F h la sl v ∧ BindR W F h la l r
set_option tactic.hygienic false
theorem BindR.names {h : Heap} {la : Addr} : ∀ {l : List (Str × Slot)} {bs : List (Str × Value)}, BindR W F h la l bs -> bs.map (·.1) = l.map (·.1)
 | [], bs, e => by obtain rfl : bs = [] := e; rfl
 | (p, sl) :: l, bs, ⟨v, r, e, _, q⟩ => by rw [e, List.map_cons, List.map_cons, BindR.names q]
theorem BindR.get {h : Heap} {la : Addr} : ∀ {l : List (Str × Slot)} {bs : List (Str × Value)}, BindR W F h la l bs -> ∀ {x : Str} {sl : Slot}, l.lookup x = some sl -> ∃ v, (x, v) ∈ bs ∧ SlotB W F h la sl v
 | [], bs, _, x, sl, e => by cases e
 | (p, s0) :: l, bs, ⟨v, r, e, a, q⟩, x, sl, hx => by
  simp only [List.lookup_cons] at hx
  cases hp : x == p with
  | true =>
   rw [hp] at hx; cases hx
   obtain rfl := beq_iff_eq.mp hp
   exact ⟨v, e ▸ .head _, a⟩
  | false =>
   rw [hp] at hx
   obtain ⟨v', m, b⟩ := BindR.get q hx
   exact ⟨v', e ▸ .tail _ m, b⟩
noncomputable def lentAd (l : List (Str × Slot)) (la : Addr) : Str -> Option Addr := fun x => match l.lookup x with
 | some (.bor _) => some la
 | _ => none
theorem abv {l : List (Str × Slot)} {la : Addr} {x : Str} {a : Addr} (h : lentAd l la x = some a) : a = la ∧ ∃ o, l.lookup x = some (.bor o) := by
 unfold lentAd at h
 revert h
 generalize l.lookup x = g
 intro h
 rcases g with _ | y
 · first | exact aab h | (cases h; exact ⟨rfl, _, rfl⟩)
 cases y <;> first | exact aab h | (cases h; exact ⟨rfl, _, rfl⟩)
theorem aim (I : Inv W F s) {sc : Scope} {l : List (Str × Slot)} {la : Addr} {binds : List (Str × Value)} {qual : Str} {fa : Addr} {code : Value}
 (hk : sc.kind = .function) (hb : BindR W F s.heap la l binds) (hnd : (l.map (·.1)).Nodup) (hkinds : ∀ x ∈ l.map (·.1), sc.names.lookup x = some .local ∨ sc.names.lookup x = some .cell)
 (hone : ∀ x y o o', l.lookup x = some (.bor o) -> l.lookup y = some (.bor o') -> x = y) (hla : ∀ x o, l.lookup x = some (.bor o) -> F la = none)
 (hlam : lamS sc = true -> ∃ c P, code = .ref c ∧ (c, P, qual ++ "<lambda>") ∈ W.tabs)
 (henv : env = newEnv sc s.heap.objs.size mainGlobals (cellsFrom (s.heap.objs.size + 1) sc.names []) qual (some fa) code none builtinsNs)
 (hin : InCallC s env.locals (bindL env.kindOf binds fun _ => none) env.cells (bindC env.kindOf binds fun _ => none) s') :
 Stp W (fun _ => False) F F s s' ∧ Rel W F s'.heap env ⟨sc, l⟩ (lentAd l la) := by
 obtain ⟨h', tk, rfl⟩ := hin.toInCall.same
 have hL : env.locals = s.heap.objs.size := by rw [henv]; rfl
 have hK : ∀ x, env.kindOf x = sc.names.lookup x := fun x => by rw [henv]; rfl
 have hF : env.frame = some env.locals := by rw [henv]; rfl
 have fL : Fre s.heap env.locals := Fre.size _ (hL ▸ Nat.le_refl _)
 have S : Stp W (fun _ => False) F F s { s with heap := h', toks := tk } := Stp.ofKeep I hin.toInCall.keep
 have above : ∀ x ca, env.cells.lookup x = some ca -> Fre s.heap ca := fun x ca e => Fre.size _ (Nat.le_of_lt (hL ▸ hin.above x ca (mem_of_lookup e)))
 refine ⟨S, ⟨⟨by rw [henv]; exact hk, by rw [henv]; rfl, by rw [henv]; rfl, fun x q => (hK x).trans q, fun x q => (hK x).trans q, fun x q => .inl ((hK x).trans q), fun x q => (hK x).trans q,
  fun x y ca p q => name_of_addr hin.apart (mem_of_lookup p) (mem_of_lookup q), fun x _ => hF, fun q => ?_⟩, ⟨_, hin.toInCall.ns⟩, I.fresh fL, I.tabOld fL, fun x sl q => ?_, fun x q => ?_, fun x a q => ?_, fun x y a p q => ?_, fun x a q => ⟨_, hin.cell x a q⟩, fun f q => ?_⟩⟩
 · obtain ⟨c, P, e1, e2⟩ := hlam q
   refine ⟨c, P, by rw [henv]; exact e1, ?_⟩
   have : env.qual = qual := by rw [henv]; rfl
   rw [this]; exact e2
 · have q : l.lookup x = some sl := q
   obtain ⟨v, hm, hs⟩ := hb.get q
   have hx : x ∈ l.map (·.1) := by
    rw [<- hb.names]; exact List.mem_map.mpr ⟨(x, v), hm, rfl⟩
   have hnd' : (binds.map (·.1)).Nodup := by rw [hb.names]; exact hnd
   refine ⟨v, ?_, ?_⟩
   · rcases hkinds x hx with e | e
     · exact .inl ⟨(hK x).trans e, _, hin.toInCall.ns, aey binds _ x v hnd' hm ((hK x).trans e)⟩
     · have hsome := aaQ sc.names (s.heap.objs.size + 1) [] x (.inr (aa8 e))
       obtain ⟨ca, hca⟩ := Option.isSome_iff_exists.mp hsome
       have hca' : env.cells.lookup x = some ca := by rw [henv]; exact hca
       refine .inr ⟨.inl ((hK x).trans e), ca, hca', ?_⟩
       have := hin.cell x ca hca'
       rw [aeA binds _ x v hnd' hm ((hK x).trans e)] at this
       exact this
   · cases sl with
     | val c => exact hs
     | bor o =>
      obtain ⟨e1, e2, e3⟩ := hs
      refine ⟨la, e1, by unfold lentAd; rw [q], e2.mono _ _ (fun _ _ e => e) fun ob e => hin.toInCall.keep _ _ e, e3⟩
     | own o => exact hs.elim
 · have q : sc.names.lookup x = some .cell := q
   have hsome := aaQ sc.names (s.heap.objs.size + 1) [] x (.inr (aa8 q))
   obtain ⟨ca, hca⟩ := Option.isSome_iff_exists.mp hsome
   have hca' : env.cells.lookup x = some ca := by rw [henv]; exact hca
   exact ⟨ca, _, hca', hin.cell x ca hca', I.fresh (above x ca hca'), I.tabOld (above x ca hca')⟩
 · obtain ⟨rfl, o, e⟩ := abv q
   obtain ⟨v, hm, hs⟩ := hb.get e
   obtain ⟨e1, e2, e3⟩ := hs
   obtain ⟨ob, e4, _⟩ := e2.cls
   refine ⟨?_, hla x o e, I.notTabOR e2, (fL.ne e4).symm, fun y ca p => ((above y ca p).ne e4).symm, ob, hin.toInCall.keep _ _ e4⟩
   have : CE.get ⟨sc, l⟩ x = some (.bor o) := e
   rw [this]; rfl
 · obtain ⟨_, o, e⟩ := abv p
   obtain ⟨_, o', e'⟩ := abv q
   exact hone x y o o' e e'
 · rw [hF] at q
   cases q
   obtain ⟨o, es, ep, e, _⟩ := hin.toInCall.ns
   exact ⟨o, e⟩
end
noncomputable def Wd.lend (W : Wd) (x : Option Addr) : Wd := { W with lent := x }
section
variable {W : Wd} {F F' : FH} {s s' : Shared} {x : Option Addr} {G : GE} {k : Nat} {M : Addr -> Prop}
set_option tactic.hygienic false
theorem Inv.lend (I : Inv W F s) : Inv (W.lend x) F s := ⟨I.frz, I.base, I.tab⟩
theorem Inv.unlend (I : Inv (W.lend x) F s) : Inv W F s := ⟨I.frz, I.base, I.tab⟩
theorem Stp.lend (S : Stp W M F F' s s') : Stp (W.lend x) M F F' s s' := ⟨S.keep, S.live, S.sub, S.new, S.same, S.inv.lend⟩
theorem Stp.unlend (S : Stp (W.lend x) M F F' s s') : Stp W M F F' s s' := ⟨S.keep, S.live, S.sub, S.new, S.same, S.inv.unlend⟩
theorem ArgsR.lend {h : Heap} {la : Addr} : ∀ {b : Option Nat} {cs : List CV} {vs : List Value}, ArgsR (W.lend x) F h b la cs vs -> ArgsR W F h b la cs vs
 | none, cs, vs, q => by unfold ArgsR at q ⊢; exact q
 | some 0, c :: cs, vs, q => by exact q
 | some (i + 1), c :: cs, vs, q => by
  obtain ⟨v, r, e, a, q⟩ := q
  exact ⟨v, r, e, a, ArgsR.lend q⟩
 | some 0, [], vs, q => by exact q.elim
 | some (_ + 1), [], vs, q => by exact q.elim
theorem KwsR.lend : ∀ {kvs : List (Str × CV)} {kws : List (Str × Value)}, KwsR (W.lend x) F kvs kws -> KwsR W F kvs kws
 | [], _, q => q
 | (n, c) :: r, _, ⟨v, t, e, a, b⟩ => ⟨v, t, e, a, KwsR.lend b⟩
theorem FunOK.lend {f : FS} {a : Addr} (h : FunOK W k f a) : FunOK (W.lend x) k f a :=
 ⟨h.1, fun cs kvs c o' q A F s la vs kws Rm I ha hk hl Q E hQ => h.2 cs kvs c o' q A F s la vs kws Rm I.unlend ha.lend hk.lend hl Q E fun v F' s' S rv hb => hQ v F' s' S.lend rv hb⟩
theorem GOK.lend (h : GOK W k G) : GOK (W.lend x) k G := ⟨h.tabs, h.nolim, h.ns, h.const, h.blt, fun y f q => let ⟨a, e, r⟩ := h.fn y f q; ⟨a, e, r.lend⟩⟩
end
set_option tactic.hygienic false
theorem aaR : ∀ {b : Option Nat} {ps : List Str} {cs : List CV} {d : List (Str × CV)} {l : List (Str × Slot)}, bindPos b ps cs d = some l -> l.map (·.1) = ps
 | b, [], [], d, l, h => by cases h; rfl
 | b, [], _ :: _, d, l, h => aab h
 | b, p :: ps, [], d, l, h => D.el1 (.opt (d.lookup p) fun c => .opt (bindPos none ps [] d) fun l => .ret ((p, .val c) :: l)) h (C := fun l => l.map (·.1) = p :: ps -> _) id fun c _ l h' k => k (congrArg (p :: ·) (aaR h'))
 | some 0, p :: ps, c :: cs, d, l, h => D.el1 (.opt (coOf c) fun o => .opt (bindPos none ps cs d) fun l => .ret ((p, .bor o) :: l)) h (C := fun l => l.map (·.1) = p :: ps -> _) id fun c _ l h' k => k (congrArg (p :: ·) (aaR h'))
 | some (i + 1), p :: ps, c :: cs, d, l, h => D.el1 (.opt (bindPos (some i) ps cs d) fun l => .ret ((p, .val c) :: l)) h (C := fun l => l.map (·.1) = p :: ps -> _) id fun l h' k => k (congrArg (p :: ·) (aaR h'))
 | none, p :: ps, c :: cs, d, l, h => D.el1 (.opt (bindPos none ps cs d) fun l => .ret ((p, .val c) :: l)) h (C := fun l => l.map (·.1) = p :: ps -> _) id fun l h' k => k (congrArg (p :: ·) (aaR h'))
theorem aa9 : ∀ {b : Option Nat} {ps : List Str} {cs : List CV} {d : List (Str × CV)} {l : List (Str × Slot)}, bindPos b ps cs d = some l -> ∀ {x : Str} {o : CO}, (x, Slot.bor o) ∈ l -> ∃ i, b = some i ∧ ps[i]? = some x
 | b, [], [], d, l, h, x, o, hx => by cases h; cases hx
 | b, [], _ :: _, d, l, h, x, o, hx => aab h
 | b, p :: ps, [], d, l, h, x, o, hx => by
  refine D.el1 (.opt (d.lookup p) fun c => .opt (bindPos none ps [] d) fun l => .ret ((p, .val c) :: l)) h (C := fun l => (x, Slot.bor o) ∈ l) hx fun c _ l h' hx => ?_
  rcases List.mem_cons.mp hx with q | q
  · cases q
  · obtain ⟨i, e, _⟩ := aa9 h' q; cases e
 | some 0, p :: ps, c :: cs, d, l, h, x, o, hx => by
  refine D.el1 (.opt (coOf c) fun o => .opt (bindPos none ps cs d) fun l => .ret ((p, .bor o) :: l)) h (C := fun l => (x, Slot.bor o) ∈ l) hx fun c _ l h' hx => ?_
  rcases List.mem_cons.mp hx with q | q
  · cases q; exact ⟨0, rfl, rfl⟩
  · obtain ⟨i, e, _⟩ := aa9 h' q; cases e
 | some (i + 1), p :: ps, c :: cs, d, l, h, x, o, hx => by
  refine D.el1 (.opt (bindPos (some i) ps cs d) fun l => .ret ((p, .val c) :: l)) h (C := fun l => (x, Slot.bor o) ∈ l) hx fun l h' hx => ?_
  rcases List.mem_cons.mp hx with q | q
  · cases q
  · obtain ⟨j, e, e'⟩ := aa9 h' q
    cases e
    exact ⟨i + 1, rfl, e'⟩
 | none, p :: ps, c :: cs, d, l, h, x, o, hx => by
  refine D.el1 (.opt (bindPos none ps cs d) fun l => .ret ((p, .val c) :: l)) h (C := fun l => (x, Slot.bor o) ∈ l) hx fun l h' hx => ?_
  rcases List.mem_cons.mp hx with q | q
  · cases q
  · obtain ⟨i, e, _⟩ := aa9 h' q; cases e
theorem acA : ∀ (ko kvs : List (Str × CV)), (bindKo ko kvs).map (·.1) = ko.map (·.1)
 | [], _ => rfl
 | (k, d) :: r, kvs => by unfold bindKo; rw [List.map_cons, List.map_cons, acA r kvs]
theorem adx : ∀ (ko kvs : List (Str × CV)) {x : Str} {o : CO}, (x, Slot.bor o) ∉ bindKo ko kvs
 | [], _, x, o => fun h => by cases h
 | (k, d) :: r, kvs, x, o => fun h => by
  unfold bindKo at h
  rcases List.mem_cons.mp h with q | q
  · cases q
  · exact adx r kvs q
theorem ae0 {l : List (Str × Slot)} {x : Str} {sl : Slot} (h : l.lookup x = some sl) : (x, sl) ∈ l := by
 induction l with
 | nil => cases h
 | cons p r ih =>
  obtain ⟨n, k'⟩ := p
  simp only [List.lookup_cons] at h
  refine hid fun z1 => ?_
  cases hx : x == n with
  | true => rw [hx] at h; cases h; refine z1 ?_; rw [beq_iff_eq.mp hx]; exact .head _
  | false => rw [hx] at h; refine z1 ?_; exact .tail _ (ih h)
structure DefAt (W : Wd) (d : DD) (fa : Addr) (fd : FuncData) : Prop where
 at_ : ∃ o, W.F0 fa = some o ∧ o.data = .func fd
 body : fd.body = .stmts d.body
 scope : fd.scope = d.scope
 glo : fd.globals = mainGlobals
 clo : fd.closure = []
 blt : fd.builtins = builtinsNs
 code : ∃ c oc vs t, fd.code = .ref c ∧ W.F0 c = some oc ∧ oc.data = .fields vs ∧ vs[1]? = some (.str fd.qualname t)
 lam : lamS d.scope = true -> ∃ c P, fd.code = .ref c ∧ (c, P, fd.qualname ++ ".<locals>." ++ "<lambda>") ∈ W.tabs
 kind : d.scope.kind = .function
 co : d.scope.isCoroutine = false
 gen : d.scope.isGenerator = false
 nodup : (d.ps ++ d.ko.map (·.1)).Nodup
 kinds : ∀ x ∈ d.ps ++ d.ko.map (·.1), d.scope.names.lookup x = some .local ∨ d.scope.names.lookup x = some .cell
 bind : ∀ cs kvs l vs kws F s la, kwFit d.ko kvs = true -> bindPos d.bor d.ps cs d.dflt = some l -> Inv W F s -> ArgsR W F s.heap d.bor la cs vs -> KwsR W F kvs kws ->
  ∃ binds, BindsTo s fd ⟨vs, kws⟩ binds ∧ BindR (W.lend (some la)) F s.heap la (l ++ bindKo d.ko kvs) binds
set_option tactic.hygienic true
set_option backward.match.sparseCases true in
theorem ai6 {W : Wd} {G : GE} {k : Nat} (hG : GOK W k G) (hk : 20 ≤ k) {d : DD} {n c : Nat} {fa : Addr} {fd : FuncData} (D : DefAt W d fa fd) : FunOK W (k + 3 * n + 1) ⟨d.bor, runDef G n d, c⟩ fa := by
 refine hid fun z0 => ?_
 obtain ⟨o, hF0, hdat⟩ := D.at_
 refine z0 ?_
 refine ⟨⟨o, fd, hF0, hdat⟩, fun cs kvs c o' hr A F s la vs kws Rm I ha hkw hla Q E hQ => ?_⟩
 have hr : runDef G n d cs kvs = some (c, o') := hr
 have ha : ArgsR W F s.heap d.bor la cs vs := ha
 have hla : d.bor.isSome = true -> F la = none := hla
 unfold runDef at hr
 refine hid fun z1 => ?_
 split at hr
 · cases hr
 · rename_i hfit
   split at hr
   · cases hr
   · rename_i l hl
     obtain ⟨binds, hbt, hbr⟩ := D.bind cs kvs l vs kws F s la hfit hl I ha hkw
     obtain ⟨cc, oc, us, t, hc1, hc2, hc3, hc4⟩ := D.code
     have hnames : (l ++ bindKo d.ko kvs).map (·.1) = d.ps ++ d.ko.map (·.1) := by rw [List.map_append, aaR hl, acA]
     have hbor : ∀ {x o}, (l ++ bindKo d.ko kvs).lookup x = some (.bor o) -> ∃ i, d.bor = some i ∧ d.ps[i]? = some x := fun {x o} e => by
      rcases List.mem_append.mp (ae0 e) with q | q
      · exact aa9 hl q
      · exact absurd q (adx _ _)
     refine z1 ?_
     refine wpAny_call (codeAny_call_function Rm.dep (I.heap0 _ _ hF0) hdat (D.scope ▸ D.co) (D.scope ▸ D.gen) D.body ⟨cc, oc, us, t, hc1, I.heap0 _ _ hc2, hc3, hc4⟩ (hbt _ _ _ _ ?_))
     rw [D.scope, D.glo, D.clo, D.blt, hc1]
     have hkb : ∀ x ∈ binds, d.scope.names.lookup x.1 = some .local ∨ (d.scope.names.lookup x.1 = some .cell ∧ ((cellsFrom (s.heap.objs.size + 1) d.scope.names []).lookup x.1).isSome = true) := fun x hx => by
      have hm : x.1 ∈ d.ps ++ d.ko.map (·.1) := by rw [<- hnames, <- hbr.names]; exact List.mem_map.mpr ⟨x, hx, rfl⟩
      refine hid fun z2 => ?_
      rcases D.kinds _ hm with e | e
      · refine z2 ?_
        exact .inl e
      · refine z2 ?_
        exact .inr ⟨e, aaQ _ _ _ _ (.inr (aa8 e))⟩
     refine wpAny_newFunctionEnv_cells D.kind hkb fun env henv s1 hin => ?_
     obtain ⟨S1, R1⟩ := aim (W := W.lend (some la)) I.lend D.kind hbr (by rw [hnames]; exact D.nodup) (by rw [hnames]; exact D.kinds) (fun x y o o' p q => by
      obtain ⟨i, e1, e2⟩ := hbor p
      obtain ⟨j, e3, e4⟩ := hbor q
      rw [e1] at e3; cases e3
      rw [e2] at e4; cases e4; rfl)
      (fun x o p => hla (by obtain ⟨i, e, _⟩ := hbor p; rw [e]; rfl)) (fun q => by obtain ⟨c', P, e1, e2⟩ := D.lam q; rw [hc1] at e1; exact ⟨c', P, e1, e2⟩) henv hin
     refine ⟨hG.nolim _ S1.inv.heap0, codeAny_func ?_⟩
     have hL : env.locals = s.heap.objs.size := by rw [henv]; rfl
     have above : ∀ x ca, env.cells.lookup x = some ca -> Fre s.heap ca := fun x ca e => Fre.size _ (Nat.le_of_lt (hL ▸ hin.above x ca (mem_of_lookup e)))
     have hMla : ∀ x a, lentAd (l ++ bindKo d.ko kvs) la x = some a -> d.bor.isSome = true ∧ a = la := fun x a e => by
      refine hid fun z3 => ?_
      obtain ⟨e1, o, e2⟩ := abv e
      obtain ⟨i, e3, _⟩ := hbor e2
      refine z3 ?_
      exact ⟨by rw [e3]; rfl, e1⟩
     refine hid fun z6 => ?_
     have H := (ai5 (W := W.lend (some la)) hG.lend hk n).1
     have fin : ∀ (fc : FC) (ρ' : CE) (c : CV) (o' : CO), (sem G n).xss d.body ⟨d.scope, l ++ bindKo d.ko kvs⟩ = some (fc, ρ') -> lentBack d ρ' = some o' -> (fc = .ret c ∨ (fc = .next ∧ c = .none)) ->
      (∀ v F' s', Stp W (fun b => d.bor.isSome = true ∧ b = la) F F' s s' -> RV W.prog W.w F' c v -> (d.bor.isSome = true -> OR W.prog W.w F' s'.heap o' la ∧ F' la = none) -> Q v s') ->
      wpAny (model W.prog W.w) (A.deeper env) (execs d.body env) (fun f s' => Q (match f with | .ret v => v | _ => .none) s')
       (fun e s' => wpAny (model W.prog W.w) (A.deeper env) (leaving env e) (fun _ s'' => E e s'') (fun e' s'' => E e' s'') s') s1 := fun fc ρ' c o' hx hlb hfc hQ => by
      refine aep H.xs d.body _ fc ρ' hx (A.deeper env) env F s1 _ (Rm.deeper env) S1.inv R1 _ _ fun f F' s' ad' S' R' sub' hf => ?_
      have S3 : Stp W (fun b => d.bor.isSome = true ∧ b = la) F F' s s' := (Stp.trans (S1.weaken (M' := fun b => d.bor.isSome = true ∧ b = la) fun _ q => q.elim) S' (fun a q => by
       rcases q with ⟨x, q⟩ | q | ⟨_, x, _, q⟩
       · exact .inl (hMla x a q)
       · exact .inr (q ▸ Fre.size _ (hL ▸ Nat.le_refl _))
       · exact .inr (above x a q))).unlend
      have back : d.bor.isSome = true -> OR W.prog W.w F' s'.heap o' la ∧ F' la = none := fun hb => by
       unfold lentBack at hlb
       split at hlb
       · rename_i e; rw [e] at hb; cases hb
       · rename_i i e
         split at hlb
         · cases hlb
         · rename_i p hp
           split at hlb
           · rename_i ob hg
             cases hlb
             obtain ⟨v, _, a, _, e2, e3, e4⟩ := R'.var p _ hg
             have e4 : some la = some a := e4
             cases e4
             exact ⟨e3, (R'.own p la e2).2⟩
           · cases hlb
      rcases hfc with rfl | ⟨rfl, rfl⟩
      · obtain ⟨v, rfl, rv⟩ := hf
        exact hQ v F' s' S3 rv back
      · obtain rfl : f = .next := hf
        exact hQ .none F' s' S3 (rfl) back
     split at hr
     · rename_i c1 ρ' hx
       split at hr
       · rename_i o1 hlb
         cases hr
         refine z6 ?_
         exact fin _ ρ' _ _ hx hlb (.inl rfl) hQ
       · cases hr
     · rename_i ρ' hx
       split at hr
       · rename_i o1 hlb
         cases hr
         refine z6 ?_
         exact fin _ ρ' _ _ hx hlb (.inr ⟨rfl, rfl⟩) hQ
       · cases hr
     · cases hr
section
variable {W : Wd} {F : FH} {h : Heap} {la : Addr}
set_option tactic.hygienic false
theorem akr {o o' : CO} (e : coOf (CO.cv o) = some o') : o = o' := by cases o <;> (cases e; rfl)
theorem BindR.app : ∀ {l l' : List (Str × Slot)} {b b' : List (Str × Value)}, BindR W F h la l b -> BindR W F h la l' b' -> BindR W F h la (l ++ l') (b ++ b')
 | [], l', b, b', x, y => by obtain rfl : b = [] := x; exact y
 | (p, sl) :: l, l', b, b', ⟨v, r, e, q, x⟩, y => ⟨v, r ++ b', by rw [e]; rfl, q, BindR.app x y⟩
def BpR (W : Wd) (F : FH) (h : Heap) (la : Addr) (dv : Str -> Value) (d : List (Str × CV)) (ps : List Str) (vs : List Value) (l : List (Str × Slot)) : Prop :=
 vs.length ≤ ps.length ∧ (∀ p ∈ ps.drop vs.length, (d.lookup p).isSome = true) ∧ BindR (W.lend (some la)) F h la l (ps.zip (vs ++ (ps.drop vs.length).map dv))
theorem ady {dv : Str -> Value} {d : List (Str × CV)} : ∀ {ps : List Str} {b : Option Nat} {l : List (Str × Slot)}, (∀ p ∈ ps, ∀ c, d.lookup p = some c -> RV W.prog W.w F c (dv p)) -> bindPos b ps [] d = some l -> BpR W F h la dv d ps [] l
 | [], b, l, _, hb => by cases hb; exact ⟨Nat.le_refl _, fun _ q => (nomatch q), rfl⟩
 | p :: ps, b, l, hd, hb => by
  refine hid fun ng => ?_
  refine D.el1 (.opt (d.lookup p) fun c => .opt (bindPos none ps [] d) fun l => .ret ((p, .val c) :: l)) hb (C := fun l => ¬BpR W F h la dv d _ [] l) ng fun c hc l' hl' ng => ?_
  obtain ⟨_, i1, i2⟩ := ady (fun q m => hd q (.tail _ m)) hl'
  refine ng ⟨Nat.zero_le _, fun q hq => ?_, dv p, _, rfl, hd p (.head _) c hc, i2⟩
  rcases List.mem_cons.mp hq with rfl | hq
  · rw [hc]; rfl
  · exact i1 q hq
theorem abK {dv : Str -> Value} {d : List (Str × CV)} : ∀ {b : Option Nat} {ps : List Str} {cs : List CV} {l : List (Str × Slot)} {vs : List Value},
 (∀ p ∈ ps, ∀ c, d.lookup p = some c -> RV W.prog W.w F c (dv p)) -> bindPos b ps cs d = some l -> ArgsR W F h b la cs vs -> BpR W F h la dv d ps vs l
 | b, ps, [], l, vs, hd, hb, ha => by
  obtain rfl : vs = [] := match b with
   | none => ha
   | some 0 => ha.elim
   | some (_ + 1) => ha.elim
  exact ady hd hb
 | b, [], c :: cs, l, vs, hd, hb, ha => aab hb
 | some 0, p :: ps, c :: cs, l, vs, hd, hb, ha => by
  refine hid fun ng => ?_
  obtain ⟨o, r, rfl, rfl, ho, hr⟩ := ha
  refine D.el1 (.opt (coOf (CO.cv o)) fun o => .opt (bindPos none ps cs d) fun l => .ret ((p, .bor o) :: l)) hb (C := fun l => ¬BpR W F h la dv d _ _ l) ng fun o' ho' l' hl' ng => ?_
  obtain ⟨i1, i2, i3⟩ := abK (fun q m => hd q (.tail _ m)) (b := none) (vs := r) hl' (.of hr)
  refine ng ⟨Nat.succ_le_succ i1, i2, .ref la, _, rfl, ?_, i3⟩
  obtain rfl := akr ho'
  exact ⟨rfl, ho, rfl⟩
 | some (i + 1), p :: ps, c :: cs, l, vs, hd, hb, ha => by
  refine hid fun ng => ?_
  obtain ⟨v, r, rfl, hv, hr⟩ := ha
  refine D.el1 (.opt (bindPos (some i) ps cs d) fun l => .ret ((p, .val c) :: l)) hb (C := fun l => ¬BpR W F h la dv d _ _ l) ng fun l' hl' ng => ?_
  obtain ⟨i1, i2, i3⟩ := abK (fun q m => hd q (.tail _ m)) (b := some i) (vs := r) hl' hr
  exact ng ⟨Nat.succ_le_succ i1, i2, v, _, rfl, hv, i3⟩
 | none, p :: ps, c :: cs, l, vs, hd, hb, ha => by
  refine hid fun ng => ?_
  obtain ⟨v, r, rfl, hv, hr⟩ := ha
  refine D.el1 (.opt (bindPos none ps cs d) fun l => .ret ((p, .val c) :: l)) hb (C := fun l => ¬BpR W F h la dv d _ _ l) ng fun l' hl' ng => ?_
  obtain ⟨i1, i2, i3⟩ := abK (fun q m => hd q (.tail _ m)) (b := none) (vs := r) hl' (.of hr)
  exact ng ⟨Nat.succ_le_succ i1, i2, v, _, rfl, hv, i3⟩
theorem aaC {d : List (Str × CV)} {b : Option Nat} {ps : List Str} {cs : List CV} {l : List (Str × Slot)} {vs : List Value} {kvs : List (Str × CV)} {kws : List (Str × Value)} {s : Shared} {fd : FuncData} (hn : ∀ p ∈ ps, d.lookup p = none)
 (hb : bindPos b ps cs d = some l) (ha : ArgsR W F s.heap b la cs vs) (hf : kwFit [] kvs = true) (hk : KwsR W F kvs kws)
 (e : vs.length = ps.length -> bindArgs fd ⟨vs, []⟩ = pure (ps.zip vs)) : ∃ binds, BindsTo s fd ⟨vs, kws⟩ binds ∧ BindR (W.lend (some la)) F s.heap la (l ++ bindKo [] kvs) binds := by
 obtain rfl : kvs = [] := by
  rcases kvs with _ | ⟨⟨k, c⟩, _ | ⟨y, r⟩⟩
  · rfl
  · cases hf
  · cases hf
 obtain rfl : kws = [] := hk
 obtain ⟨i1, i2, i3⟩ := abK (h := s.heap) (la := la) (dv := fun _ => .none) (fun p m c q => by rw [hn p m] at q; cases q) hb ha
 have hl : vs.length = ps.length := by
  cases hd : ps.drop vs.length with
  | nil => exact Nat.le_antisymm i1 (List.drop_eq_nil_iff.mp hd)
  | cons p r => have := i2 p (by rw [hd]; exact .head _); rw [hn p (List.mem_of_mem_drop (by rw [hd]; exact .head _))] at this; cases this
 rw [hl, List.drop_length, List.map_nil, List.append_nil] at i3
 refine ⟨ps.zip vs, .of_eq (e hl), ?_⟩
 show BindR _ _ _ _ (l ++ []) _
 rw [List.append_nil]
 exact i3
noncomputable def nmLo : Str := "lo"
noncomputable def nmHi : Str := "hi"
noncomputable def nmKey : Str := "key"
theorem acK {d : List (Str × CV)} {b : Option Nat} {p q : Str} {cs : List CV} {l : List (Str × Slot)} {vs : List Value} {kvs : List (Str × CV)} {kws : List (Str × Value)} {s : Shared} {fd : FuncData} {dl : Value}
 (hp : d.lookup p = none) (hq : d.lookup q = none) (hd : ∀ x c, d.lookup x = some c -> RV W.prog W.w F c (if x = nmLo then dl else .none))
 (hb : bindPos b [p, q, nmLo, nmHi] cs d = some l) (ha : ArgsR W F s.heap b la cs vs) (hf : kwFit [(nmKey, .none)] kvs = true) (hk : KwsR W F kvs kws)
 (e2 : ∀ u v, BindsTo s fd ⟨[u, v], []⟩ [(p, u), (q, v), (nmLo, dl), (nmHi, .none), (nmKey, .none)] ∧ ∀ k, BindsTo s fd ⟨[u, v], [(nmKey, k)]⟩ [(p, u), (q, v), (nmLo, dl), (nmHi, .none), (nmKey, k)])
 (e3 : ∀ u v x, BindsTo s fd ⟨[u, v, x], []⟩ [(p, u), (q, v), (nmLo, x), (nmHi, .none), (nmKey, .none)] ∧ ∀ k, BindsTo s fd ⟨[u, v, x], [(nmKey, k)]⟩ [(p, u), (q, v), (nmLo, x), (nmHi, .none), (nmKey, k)])
 (e4 : ∀ u v x y, BindsTo s fd ⟨[u, v, x, y], []⟩ [(p, u), (q, v), (nmLo, x), (nmHi, y), (nmKey, .none)] ∧ ∀ k, BindsTo s fd ⟨[u, v, x, y], [(nmKey, k)]⟩ [(p, u), (q, v), (nmLo, x), (nmHi, y), (nmKey, k)]) :
 ∃ binds, BindsTo s fd ⟨vs, kws⟩ binds ∧ BindR (W.lend (some la)) F s.heap la (l ++ bindKo [(nmKey, .none)] kvs) binds := by
 obtain ⟨i1, i2, i3⟩ := abK (h := s.heap) (la := la) (dv := fun x => if x = nmLo then dl else .none) (d := d) (fun x _ => hd x) hb ha
 have hlo : (if nmLo = nmLo then dl else Value.none) = dl := if_pos rfl
 have hhi : (if nmHi = nmLo then dl else Value.none) = .none := if_neg (by decide +kernel)
 have kb : (kws = [] ∧ bindKo [(nmKey, .none)] kvs = [(nmKey, .val .none)]) ∨ ∃ c k, kws = [(nmKey, k)] ∧ bindKo [(nmKey, .none)] kvs = [(nmKey, .val c)] ∧ RV W.prog W.w F c k := by
  rcases kvs with _ | ⟨⟨k, c⟩, _ | ⟨y, r⟩⟩
  · obtain rfl : kws = [] := hk
    exact .inl ⟨rfl, rfl⟩
  · obtain ⟨v, r, rfl, hv, hr⟩ := hk
    obtain rfl : r = [] := hr
    obtain rfl : nmKey = k := beq_iff_eq.mp ((Bool.or_false _).symm.trans hf)
    exact .inr ⟨c, v, rfl, rfl, hv⟩
  · cases hf
 have fin : ∀ {l : List (Str × Slot)} {bs : List (Str × Value)}, BindR (W.lend (some la)) F s.heap la l bs -> (BindsTo s fd ⟨vs, []⟩ (bs ++ [(nmKey, .none)]) ∧ ∀ k, BindsTo s fd ⟨vs, [(nmKey, k)]⟩ (bs ++ [(nmKey, k)])) ->
  ∃ binds, BindsTo s fd ⟨vs, kws⟩ binds ∧ BindR (W.lend (some la)) F s.heap la (l ++ bindKo [(nmKey, .none)] kvs) binds := fun hR hB => by
  rcases kb with ⟨rfl, e⟩ | ⟨c, k, rfl, e, hv⟩
  · exact ⟨_, hB.1, by rw [e]; exact hR.app ⟨.none, [], rfl, rfl, rfl⟩⟩
  · exact ⟨_, hB.2 k, by rw [e]; exact hR.app ⟨k, [], rfl, hv, rfl⟩⟩
 rcases vs with _ | ⟨u, _ | ⟨v, _ | ⟨x, _ | ⟨y, _ | ⟨z, r⟩⟩⟩⟩⟩
 · have := i2 p (.head _); rw [hp] at this; cases this
 · have := i2 q (.head _); rw [hq] at this; cases this
 · have i3 : BindR (W.lend (some la)) F s.heap la l [(p, u), (q, v), (nmLo, if nmLo = nmLo then dl else .none), (nmHi, if nmHi = nmLo then dl else .none)] := i3
   rw [hlo, hhi] at i3
   exact fin i3 (e2 u v)
 · have i3 : BindR (W.lend (some la)) F s.heap la l [(p, u), (q, v), (nmLo, x), (nmHi, if nmHi = nmLo then dl else .none)] := i3
   rw [hhi] at i3
   exact fin i3 (e3 u v x)
 · exact fin i3 (e4 u v x y)
 · exact absurd i1 (by simp)
end
end
section
open PySem PySem.W PySem.Calls PyProof.Rows
noncomputable def jF (P : Params) : FH := fun a => if a = 143 then none else (h5 P).get? a
set_option tactic.hygienic false
theorem ams {P : Params} {a : Addr} {o : Obj} (h : jF P a = some o) : (h5 P).get? a = some o := by
 unfold jF at h
 split at h
 · cases h
 · exact h
noncomputable def jW (w : World) : Wd where
 prog := p1
 w := w
 F0 := jF w.params
 mg := (h5 w.params).nsMap mainGlobals
 mb := (h5 w.params).nsMap builtinsNs
 tabs := [(145, 143, hNm 70 ++ ".<locals>." ++ "<lambda>")]
 tabsNone := fun t ht => by obtain rfl := List.mem_singleton.mp ht; rfl
 tabsOne := fun t ht u hu _ => by obtain rfl := List.mem_singleton.mp ht; obtain rfl := List.mem_singleton.mp hu; rfl
 mods := ⟨boot_o_1 w.params, by ext⟩
 lent := none
noncomputable def codeOK (F : FH) (c : Addr) (q : Str) : Bool := match F c with
 | some o => (match o.data with
  | .fields vs => (match (vs : Array PySem.Value)[1]? with
   | some (PySem.Value.str s _) => s == q
   | _ => false)
  | _ => false)
 | none => false
theorem amt {d : PySem.Data} {f : Array PySem.Value -> Bool} (h : (match d with | .fields vs => f vs | _ => false) = true) : ∃ vs, d = .fields vs ∧ f vs = true := by
 cases d <;> first | exact ⟨_, rfl, h⟩ | cases h
theorem amu {o : Option PySem.Value} {q : Str} (h : (match o with | some (PySem.Value.str s _) => s == q | _ => false) = true) : ∃ t, o = some (.str q t) := by
 rcases o with _ | y
 · cases h
 cases y <;> first | (cases h; done) | skip
 obtain rfl := beq_iff_eq.mp h
 exact ⟨_, rfl⟩
theorem aas {F : FH} {v : Value} {c : Addr} {q : Str} (e : v = .ref c) (h : codeOK F c q = true) : ∃ c oc vs t, v = .ref c ∧ F c = some oc ∧ oc.data = .fields vs ∧ vs[1]? = some (.str q t) := by
 unfold codeOK at h
 cases ho : F c with
 | none => rw [ho] at h; cases h
 | some o =>
  rw [ho] at h
  obtain ⟨vs, hv, h⟩ := amt h
  obtain ⟨t, hs⟩ := amu h
  exact ⟨c, o, vs, t, e, ho, hv, hs⟩
theorem aaG {ps : List Str} {names : List (Str × NameKind)} (h : (ps.all fun x => match names.lookup x with
 | some .local => true
 | some .cell => true
 | _ => false) = true) : ∀ x ∈ ps, names.lookup x = some .local ∨ names.lookup x = some .cell := fun x hx => by
 have := List.all_eq_true.mp h x hx
 exact acV this
theorem aby {ps : List Str} {d : List (Str × CV)} (h : (ps.all fun x => (d.lookup x).isNone) = true) : ∀ p ∈ ps, d.lookup p = none := fun p hp => Option.isNone_iff_eq_none.mp (List.all_eq_true.mp h p hp)
theorem vs0 {vs : List Value} (h : vs.length = 0) : vs = [] := List.length_eq_zero_iff.mp h
theorem vsC {vs : List Value} {n : Nat} (h : vs.length = n + 1) : ∃ a r, vs = a :: r ∧ r.length = n := by
 cases vs with
 | nil => cases h
 | cons a r => exact ⟨a, r, rfl, Nat.succ.inj h⟩
theorem vs1 {vs : List Value} (h : vs.length = 1) : ∃ a, vs = [a] := let ⟨a, r, e, h⟩ := vsC h; ⟨a, by rw [e, vs0 h]⟩
theorem vs2 {vs : List Value} (h : vs.length = 2) : ∃ a b, vs = [a, b] := let ⟨a, r, e, h⟩ := vsC h; let ⟨b, q⟩ := vs1 h; ⟨a, b, by rw [e, q]⟩
theorem vs3 {vs : List Value} (h : vs.length = 3) : ∃ a b c, vs = [a, b, c] := let ⟨a, r, e, h⟩ := vsC h; let ⟨b, c, q⟩ := vs2 h; ⟨a, b, c, by rw [e, q]⟩
theorem vs4 {vs : List Value} (h : vs.length = 4) : ∃ a b c d, vs = [a, b, c, d] := let ⟨a, r, e, h⟩ := vsC h; let ⟨b, c, d, q⟩ := vs3 h; ⟨a, b, c, d, by rw [e, q]⟩
set_option tactic.hygienic true
theorem in2 {h : Heap} {a b : Addr} {oa ob : Obj} (ha : h.get? a = some oa) (hb : h.get? b = some ob) : Frag.In [(a, oa), (b, ob)] h := fun c o e => by
 simp only [List.lookup_cons, List.lookup_nil] at e
 split at e
 · rename_i q; cases e; rw [beq_iff_eq.mp q]; exact ha
 · split at e
   · rename_i q; cases e; rw [beq_iff_eq.mp q]; exact hb
   · cases e
noncomputable def nmA : Str := "a"
noncomputable def nmX : Str := "x"
theorem dfl {W : Wd} {F : FH} (t : Nat) : ∀ x c, [(nmLo, CV.int 0), (nmHi, CV.none)].lookup x = some c -> RV W.prog W.w F c (if x = nmLo then .int 0 t else .none) := fun x c e => by
 simp only [List.lookup_cons, List.lookup_nil] at e
 split at e
 · rename_i q
   cases e
   rw [if_pos (beq_iff_eq.mp q)]
   exact ⟨t, rfl⟩
 · rename_i q
   split at e
   · cases e
     rw [if_neg (beq_eq_false_iff_ne.mp q)]
   · cases e
set_option tactic.hygienic false
theorem ano (w : World) : DefAt (jW w) dR 39 (hFn 5 3 (.ref 31) (.ref 32) (hS "cpy313.bisect" 203) (.ref 38)) where
 at_ := ⟨{ cls := .type "function", data := .func (hFn 5 3 (.ref 31) (.ref 32) (hS "cpy313.bisect" 203) (.ref 38)) }, by ext, rfl⟩
 body := by ext
 scope := by ext
 glo := by ext
 clo := by ext
 blt := by ext
 code := aas (c := 38) (by ext) (by ext)
 lam := fun q => absurd q (by rw [show lamS dR.scope = false by ext]; decide)
 kind := by ext
 co := by ext
 gen := by ext
 nodup := by decide +kernel
 kinds := aaG (by ext)
 bind := fun cs kvs l vs kws F s la hf hb I ha hk => by
  have hko : dR.ko = [(nmKey, .none)] := by ext
  have hps : dR.ps = [nmA, nmX, nmLo, nmHi] := by ext
  have hdf : dR.dflt = [(nmLo, .int 0), (nmHi, .none)] := by ext
  rw [hko] at hf ⊢; rw [hps, hdf] at hb
  have X : Frag.In [(31, hTup [.int 0 218, .none]), (32, hDict w.params [("key", 219, .none)])] s.heap := in2 (I.heap0 _ _ (by ext)) (I.heap0 _ _ (by ext))
  refine acK (dl := .int 0 218) (by ext) (by ext) (dfl _) hb ha hf hk (fun u v => ⟨kp_binds X fun S => ?_, fun k => kp_binds X fun S => ?_⟩) (fun u v x => ⟨kp_binds X fun S => ?_, fun k => kp_binds X fun S => ?_⟩) (fun u v x y => ⟨kp_binds X fun S => ?_, fun k => kp_binds X fun S => ?_⟩) <;> ext
theorem anp (w : World) : DefAt (jW w) dL 57 (hFn 7 3 (.ref 49) (.ref 50) (hS "cpy313.bisect" 203) (.ref 56)) where
 at_ := ⟨{ cls := .type "function", data := .func (hFn 7 3 (.ref 49) (.ref 50) (hS "cpy313.bisect" 203) (.ref 56)) }, by ext, rfl⟩
 body := by ext
 scope := by ext
 glo := by ext
 clo := by ext
 blt := by ext
 code := aas (c := 56) (by ext) (by ext)
 lam := fun q => absurd q (by rw [show lamS dL.scope = false by ext]; decide)
 kind := by ext
 co := by ext
 gen := by ext
 nodup := by decide +kernel
 kinds := aaG (by ext)
 bind := fun cs kvs l vs kws F s la hf hb I ha hk => by
  have hko : dL.ko = [(nmKey, .none)] := by ext
  have hps : dL.ps = [nmA, nmX, nmLo, nmHi] := by ext
  have hdf : dL.dflt = [(nmLo, .int 0), (nmHi, .none)] := by ext
  rw [hko] at hf ⊢; rw [hps, hdf] at hb
  have X : Frag.In [(49, hTup [.int 0 245, .none]), (50, hDict w.params [("key", 246, .none)])] s.heap := in2 (I.heap0 _ _ (by ext)) (I.heap0 _ _ (by ext))
  refine acK (dl := .int 0 245) (by ext) (by ext) (dfl _) hb ha hf hk (fun u v => ⟨kp_binds X fun S => ?_, fun k => kp_binds X fun S => ?_⟩) (fun u v x => ⟨kp_binds X fun S => ?_, fun k => kp_binds X fun S => ?_⟩) (fun u v x y => ⟨kp_binds X fun S => ?_, fun k => kp_binds X fun S => ?_⟩) <;> ext
theorem anq (w : World) : DefAt (jW w) iR 30 (hFn 4 3 (.ref 22) (.ref 23) (hS "cpy313.bisect" 203) (.ref 29)) where
 at_ := ⟨{ cls := .type "function", data := .func (hFn 4 3 (.ref 22) (.ref 23) (hS "cpy313.bisect" 203) (.ref 29)) }, by ext, rfl⟩
 body := by ext
 scope := by ext
 glo := by ext
 clo := by ext
 blt := by ext
 code := aas (c := 29) (by ext) (by ext)
 lam := fun q => absurd q (by rw [show lamS iR.scope = false by ext]; decide)
 kind := by ext
 co := by ext
 gen := by ext
 nodup := by decide +kernel
 kinds := aaG (by ext)
 bind := fun cs kvs l vs kws F s la hf hb I ha hk => by
  have hko : iR.ko = [(nmKey, .none)] := by ext
  have hps : iR.ps = [nmA, nmX, nmLo, nmHi] := by ext
  have hdf : iR.dflt = [(nmLo, .int 0), (nmHi, .none)] := by ext
  rw [hko] at hf ⊢; rw [hps, hdf] at hb
  have X : Frag.In [(22, hTup [.int 0 205, .none]), (23, hDict w.params [("key", 206, .none)])] s.heap := in2 (I.heap0 _ _ (by ext)) (I.heap0 _ _ (by ext))
  refine acK (dl := .int 0 205) (by ext) (by ext) (dfl _) hb ha hf hk (fun u v => ⟨kp_binds X fun S => ?_, fun k => kp_binds X fun S => ?_⟩) (fun u v x => ⟨kp_binds X fun S => ?_, fun k => kp_binds X fun S => ?_⟩) (fun u v x y => ⟨kp_binds X fun S => ?_, fun k => kp_binds X fun S => ?_⟩) <;> ext
theorem anr (w : World) : DefAt (jW w) iL 48 (hFn 6 3 (.ref 40) (.ref 41) (hS "cpy313.bisect" 203) (.ref 47)) where
 at_ := ⟨{ cls := .type "function", data := .func (hFn 6 3 (.ref 40) (.ref 41) (hS "cpy313.bisect" 203) (.ref 47)) }, by ext, rfl⟩
 body := by ext
 scope := by ext
 glo := by ext
 clo := by ext
 blt := by ext
 code := aas (c := 47) (by ext) (by ext)
 lam := fun q => absurd q (by rw [show lamS iL.scope = false by ext]; decide)
 kind := by ext
 co := by ext
 gen := by ext
 nodup := by decide +kernel
 kinds := aaG (by ext)
 bind := fun cs kvs l vs kws F s la hf hb I ha hk => by
  have hko : iL.ko = [(nmKey, .none)] := by ext
  have hps : iL.ps = [nmA, nmX, nmLo, nmHi] := by ext
  have hdf : iL.dflt = [(nmLo, .int 0), (nmHi, .none)] := by ext
  rw [hko] at hf ⊢; rw [hps, hdf] at hb
  have X : Frag.In [(40, hTup [.int 0 232, .none]), (41, hDict w.params [("key", 233, .none)])] s.heap := in2 (I.heap0 _ _ (by ext)) (I.heap0 _ _ (by ext))
  refine acK (dl := .int 0 232) (by ext) (by ext) (dfl _) hb ha hf hk (fun u v => ⟨kp_binds X fun S => ?_, fun k => kp_binds X fun S => ?_⟩) (fun u v x => ⟨kp_binds X fun S => ?_, fun k => kp_binds X fun S => ?_⟩) (fun u v x y => ⟨kp_binds X fun S => ?_, fun k => kp_binds X fun S => ?_⟩) <;> ext
theorem amv (w : World) : DefAt (jW w) dEM 21 (hFn 2 3 .none .none (hS "cpy313.doctest" 187) (.ref 20)) where
 at_ := ⟨{ cls := .type "function", data := .func (hFn 2 3 .none .none (hS "cpy313.doctest" 187) (.ref 20)) }, by ext, rfl⟩
 body := by ext
 scope := by ext
 glo := by ext
 clo := by ext
 blt := by ext
 code := aas (c := 20) (by ext) (by ext)
 lam := fun q => absurd q (by rw [show lamS dEM.scope = false by ext]; decide)
 kind := by ext
 co := by ext
 gen := by ext
 nodup := by decide +kernel
 kinds := aaG (by ext)
 bind := fun cs kvs l vs kws F s la hf hb I ha hk => by
  have hko : dEM.ko = [] := by ext
  rw [hko] at hf ⊢
  refine aaC (d := dEM.dflt) (ps := dEM.ps) (aby (by ext)) hb ha hf hk fun hl => ?_
  obtain ⟨a0, a1, rfl⟩ := vs2 (hl.trans (show dEM.ps.length = 2 by ext))
  ext
theorem aks (w : World) : DefAt (jW w) dTab 75 (hFn 10 3 .none .none (hS "cpy313.stringprep" 259) (.ref 74)) where
 at_ := ⟨{ cls := .type "function", data := .func (hFn 10 3 .none .none (hS "cpy313.stringprep" 259) (.ref 74)) }, by ext, rfl⟩
 body := by ext
 scope := by ext
 glo := by ext
 clo := by ext
 blt := by ext
 code := aas (c := 74) (by ext) (by ext)
 lam := fun q => absurd q (by rw [show lamS dTab.scope = false by ext]; decide)
 kind := by ext
 co := by ext
 gen := by ext
 nodup := by decide +kernel
 kinds := aaG (by ext)
 bind := fun cs kvs l vs kws F s la hf hb I ha hk => by
  have hko : dTab.ko = [] := by ext
  rw [hko] at hf ⊢
  refine aaC (d := dTab.dflt) (ps := dTab.ps) (aby (by ext)) hb ha hf hk fun hl => ?_
  obtain ⟨a0, rfl⟩ := vs1 (hl.trans (show dTab.ps.length = 1 by ext))
  ext
theorem akt (w : World) : DefAt (jW w) dOps 85 (hFn 61 3 .none .none (hS "law_uk0005_01" 521) (.ref 84)) where
 at_ := ⟨{ cls := .type "function", data := .func (hFn 61 3 .none .none (hS "law_uk0005_01" 521) (.ref 84)) }, by ext, rfl⟩
 body := by ext
 scope := by ext
 glo := by ext
 clo := by ext
 blt := by ext
 code := aas (c := 84) (by ext) (by ext)
 lam := fun q => absurd q (by rw [show lamS dOps.scope = false by ext]; decide)
 kind := by ext
 co := by ext
 gen := by ext
 nodup := by decide +kernel
 kinds := aaG (by ext)
 bind := fun cs kvs l vs kws F s la hf hb I ha hk => by
  have hko : dOps.ko = [] := by ext
  rw [hko] at hf ⊢
  refine aaC (d := dOps.dflt) (ps := dOps.ps) (aby (by ext)) hb ha hf hk fun hl => ?_
  obtain rfl := vs0 (hl.trans (show dOps.ps.length = 0 by ext))
  ext
theorem aku (w : World) : DefAt (jW w) dUns 92 (hFn 62 3 .none .none (hS "law_uk0005_01" 521) (.ref 91)) where
 at_ := ⟨{ cls := .type "function", data := .func (hFn 62 3 .none .none (hS "law_uk0005_01" 521) (.ref 91)) }, by ext, rfl⟩
 body := by ext
 scope := by ext
 glo := by ext
 clo := by ext
 blt := by ext
 code := aas (c := 91) (by ext) (by ext)
 lam := fun q => absurd q (by rw [show lamS dUns.scope = false by ext]; decide)
 kind := by ext
 co := by ext
 gen := by ext
 nodup := by decide +kernel
 kinds := aaG (by ext)
 bind := fun cs kvs l vs kws F s la hf hb I ha hk => by
  have hko : dUns.ko = [] := by ext
  rw [hko] at hf ⊢
  refine aaC (d := dUns.dflt) (ps := dUns.ps) (aby (by ext)) hb ha hf hk fun hl => ?_
  obtain ⟨a0, rfl⟩ := vs1 (hl.trans (show dUns.ps.length = 1 by ext))
  ext
theorem akv (w : World) : DefAt (jW w) dBes 99 (hFn 63 3 .none .none (hS "law_uk0005_01" 521) (.ref 98)) where
 at_ := ⟨{ cls := .type "function", data := .func (hFn 63 3 .none .none (hS "law_uk0005_01" 521) (.ref 98)) }, by ext, rfl⟩
 body := by ext
 scope := by ext
 glo := by ext
 clo := by ext
 blt := by ext
 code := aas (c := 98) (by ext) (by ext)
 lam := fun q => absurd q (by rw [show lamS dBes.scope = false by ext]; decide)
 kind := by ext
 co := by ext
 gen := by ext
 nodup := by decide +kernel
 kinds := aaG (by ext)
 bind := fun cs kvs l vs kws F s la hf hb I ha hk => by
  have hko : dBes.ko = [] := by ext
  rw [hko] at hf ⊢
  refine aaC (d := dBes.dflt) (ps := dBes.ps) (aby (by ext)) hb ha hf hk fun hl => ?_
  obtain ⟨a0, rfl⟩ := vs1 (hl.trans (show dBes.ps.length = 1 by ext))
  ext
theorem ain (w : World) : DefAt (jW w) dRead 106 (hFn 64 3 .none .none (hS "law_uk0005_01" 521) (.ref 105)) where
 at_ := ⟨{ cls := .type "function", data := .func (hFn 64 3 .none .none (hS "law_uk0005_01" 521) (.ref 105)) }, by ext, rfl⟩
 body := by ext
 scope := by ext
 glo := by ext
 clo := by ext
 blt := by ext
 code := aas (c := 105) (by ext) (by ext)
 lam := fun q => absurd q (by rw [show lamS dRead.scope = false by ext]; decide)
 kind := by ext
 co := by ext
 gen := by ext
 nodup := by decide +kernel
 kinds := aaG (by ext)
 bind := fun cs kvs l vs kws F s la hf hb I ha hk => by
  have hko : dRead.ko = [] := by ext
  rw [hko] at hf ⊢
  refine aaC (d := dRead.dflt) (ps := dRead.ps) (aby (by ext)) hb ha hf hk fun hl => ?_
  obtain ⟨a0, rfl⟩ := vs1 (hl.trans (show dRead.ps.length = 1 by ext))
  ext
theorem akw (w : World) : DefAt (jW w) dAsk 120 (hFn 66 3 .none .none (hS "law_uk0005_01" 521) (.ref 119)) where
 at_ := ⟨{ cls := .type "function", data := .func (hFn 66 3 .none .none (hS "law_uk0005_01" 521) (.ref 119)) }, by ext, rfl⟩
 body := by ext
 scope := by ext
 glo := by ext
 clo := by ext
 blt := by ext
 code := aas (c := 119) (by ext) (by ext)
 lam := fun q => absurd q (by rw [show lamS dAsk.scope = false by ext]; decide)
 kind := by ext
 co := by ext
 gen := by ext
 nodup := by decide +kernel
 kinds := aaG (by ext)
 bind := fun cs kvs l vs kws F s la hf hb I ha hk => by
  have hko : dAsk.ko = [] := by ext
  rw [hko] at hf ⊢
  refine aaC (d := dAsk.dflt) (ps := dAsk.ps) (aby (by ext)) hb ha hf hk fun hl => ?_
  obtain ⟨a0, a1, a2, rfl⟩ := vs3 (hl.trans (show dAsk.ps.length = 3 by ext))
  ext
theorem akx (w : World) : DefAt (jW w) dBeg 113 (hFn 65 3 .none .none (hS "law_uk0005_01" 521) (.ref 112)) where
 at_ := ⟨{ cls := .type "function", data := .func (hFn 65 3 .none .none (hS "law_uk0005_01" 521) (.ref 112)) }, by ext, rfl⟩
 body := by ext
 scope := by ext
 glo := by ext
 clo := by ext
 blt := by ext
 code := aas (c := 112) (by ext) (by ext)
 lam := fun q => absurd q (by rw [show lamS dBeg.scope = false by ext]; decide)
 kind := by ext
 co := by ext
 gen := by ext
 nodup := by decide +kernel
 kinds := aaG (by ext)
 bind := fun cs kvs l vs kws F s la hf hb I ha hk => by
  have hko : dBeg.ko = [] := by ext
  rw [hko] at hf ⊢
  refine aaC (d := dBeg.dflt) (ps := dBeg.ps) (aby (by ext)) hb ha hf hk fun hl => ?_
  obtain ⟨a0, rfl⟩ := vs1 (hl.trans (show dBeg.ps.length = 1 by ext))
  ext
theorem aio (w : World) : DefAt (jW w) dLaid 127 (hFn 67 3 .none .none (hS "law_uk0005_01" 521) (.ref 126)) where
 at_ := ⟨{ cls := .type "function", data := .func (hFn 67 3 .none .none (hS "law_uk0005_01" 521) (.ref 126)) }, by ext, rfl⟩
 body := by ext
 scope := by ext
 glo := by ext
 clo := by ext
 blt := by ext
 code := aas (c := 126) (by ext) (by ext)
 lam := fun q => absurd q (by rw [show lamS dLaid.scope = false by ext]; decide)
 kind := by ext
 co := by ext
 gen := by ext
 nodup := by decide +kernel
 kinds := aaG (by ext)
 bind := fun cs kvs l vs kws F s la hf hb I ha hk => by
  have hko : dLaid.ko = [] := by ext
  rw [hko] at hf ⊢
  refine aaC (d := dLaid.dflt) (ps := dLaid.ps) (aby (by ext)) hb ha hf hk fun hl => ?_
  obtain ⟨a0, a1, rfl⟩ := vs2 (hl.trans (show dLaid.ps.length = 2 by ext))
  ext
theorem aip (w : World) : DefAt (jW w) dEnds 134 (hFn 68 3 .none .none (hS "law_uk0005_01" 521) (.ref 133)) where
 at_ := ⟨{ cls := .type "function", data := .func (hFn 68 3 .none .none (hS "law_uk0005_01" 521) (.ref 133)) }, by ext, rfl⟩
 body := by ext
 scope := by ext
 glo := by ext
 clo := by ext
 blt := by ext
 code := aas (c := 133) (by ext) (by ext)
 lam := fun q => absurd q (by rw [show lamS dEnds.scope = false by ext]; decide)
 kind := by ext
 co := by ext
 gen := by ext
 nodup := by decide +kernel
 kinds := aaG (by ext)
 bind := fun cs kvs l vs kws F s la hf hb I ha hk => by
  have hko : dEnds.ko = [] := by ext
  rw [hko] at hf ⊢
  refine aaC (d := dEnds.dflt) (ps := dEnds.ps) (aby (by ext)) hb ha hf hk fun hl => ?_
  obtain ⟨a0, a1, a2, rfl⟩ := vs3 (hl.trans (show dEnds.ps.length = 3 by ext))
  ext
theorem aiq (w : World) : DefAt (jW w) dTold 141 (hFn 69 3 .none .none (hS "law_uk0005_01" 521) (.ref 140)) where
 at_ := ⟨{ cls := .type "function", data := .func (hFn 69 3 .none .none (hS "law_uk0005_01" 521) (.ref 140)) }, by ext, rfl⟩
 body := by ext
 scope := by ext
 glo := by ext
 clo := by ext
 blt := by ext
 code := aas (c := 140) (by ext) (by ext)
 lam := fun q => absurd q (by rw [show lamS dTold.scope = false by ext]; decide)
 kind := by ext
 co := by ext
 gen := by ext
 nodup := by decide +kernel
 kinds := aaG (by ext)
 bind := fun cs kvs l vs kws F s la hf hb I ha hk => by
  have hko : dTold.ko = [] := by ext
  rw [hko] at hf ⊢
  refine aaC (d := dTold.dflt) (ps := dTold.ps) (aby (by ext)) hb ha hf hk fun hl => ?_
  obtain ⟨a0, a1, a2, a3, rfl⟩ := vs4 (hl.trans (show dTold.ps.length = 4 by ext))
  ext
theorem aky (w : World) : DefAt (jW w) dLaw 146 (hFn 70 3 .none .none (hS "law_uk0005_01" 521) (.ref 145)) where
 at_ := ⟨{ cls := .type "function", data := .func (hFn 70 3 .none .none (hS "law_uk0005_01" 521) (.ref 145)) }, by ext, rfl⟩
 body := by ext
 scope := by ext
 glo := by ext
 clo := by ext
 blt := by ext
 code := aas (c := 145) (by ext) (by ext)
 lam := fun _ => ⟨145, 143, by ext, by unfold jW; exact List.mem_singleton.mpr (by ext)⟩
 kind := by ext
 co := by ext
 gen := by ext
 nodup := by decide +kernel
 kinds := aaG (by ext)
 bind := fun cs kvs l vs kws F s la hf hb I ha hk => by
  have hko : dLaw.ko = [] := by ext
  rw [hko] at hf ⊢
  refine aaC (d := dLaw.dflt) (ps := dLaw.ps) (aby (by ext)) hb ha hf hk fun hl => ?_
  obtain ⟨a0, rfl⟩ := vs1 (hl.trans (show dLaw.ps.length = 1 by ext))
  ext
theorem jNs {P : Params} {a : Addr} (ha : a ≠ 143) (hn : (h5 P).isNs a = true) {h : Heap} (k : ∀ b o, jF P b = some o -> h.get? b = some o) : h.Ns a ((h5 P).nsMap a) := by
 obtain ⟨o, es, ep, e, r⟩ := Heap.Ns.of_isNs hn
 exact ⟨o, es, ep, k _ _ (by unfold jF; rw [if_neg ha]; exact e), r⟩
theorem jNs3 (P : Params) : (h5 P).isNs mainGlobals = true := by ext
theorem jNs0 (P : Params) : (h5 P).isNs builtinsNs = true := by ext
theorem jNs2 (P : Params) : (h5 P).isNs cStatics = true := by ext
theorem ans (P : Params) : (h5 P).nsMap cStatics "sys.recursionlimit" = none := by
 rw [Fast.te8920871248978507458]; ext
theorem jHd {P : Params} {h : Heap} (k : ∀ b o, jF P b = some o -> h.get? b = some o) : CodeHd h 145 143 :=
 ⟨hCo 70 142 626 206 1 0 3 .none .none (.ref 144) 0, _, _, _, _, _, _, _, _, k _ _ (by ext), rfl, rfl, rfl, rfl, rfl, rfl, rfl, rfl, by decide⟩
theorem jBi {P : Params} {h : Heap} (k : ∀ b o, jF P b = some o -> h.get? b = some o) : h.BuiltinsAt ((h5 P).nsMap mainGlobals) 143 :=
 ⟨4, boot_o_4 P, by rw [Fast.te8920871248978507458]; ext, by decide, by decide, by decide, k _ _ (by ext), by ext, by ext, by ext⟩
theorem ant (P : Params) : (h5 P).nsMap mainGlobals nEM = some (hS "..." 189) := by rw [Fast.te8920871248978507458]; ext
theorem anu (P : Params) : (h5 P).nsMap mainGlobals nB1 = some (.ref 65) := by rw [Fast.te8920871248978507458]; ext
theorem amw (P : Params) : (h5 P).nsMap mainGlobals nETT = some (.ref 76) := by rw [Fast.te8920871248978507458]; ext
noncomputable def setT (P : Params) : SetTable := { mask := 127, place := [0, 1, 2, 3, 4, 5, 6, 7, 8, 9, 10, 11, 12, 13, 14, 15, 16, 17, 18, 19, 20, 21, 22, 45, 79, 96, 127].toArray, dummies := [].toArray, finger := 0, led := !P.followText "set-order", moves := 2, plain := true }
noncomputable def setO (P : Params) : Obj := { cls := .type "set", data := .set (hSet.map fun x => (x.1, PySem.Value.int x.1 x.2)).toArray 29 (setT P) }
theorem anv (w : World) : SO p1 w (setO w.params) b1s := by
 refine ⟨_, _, _, ⟨rfl, rfl, rfl⟩, rfl, fun e he => ?_, fun k => ?_, by decide +kernel, by ext⟩
 · obtain ⟨x, hx, rfl⟩ := List.mem_map.mp he
   refine ⟨⟨x.1, beq_self_eq_true _, ?_⟩, rfl⟩
   have all : (hSet.all fun x => hashInt x.1 == x.1) = true := by decide +kernel
   exact (beq_iff_eq.mp (List.all_eq_true.mp all x hx)).symm
 · have p : b1s.Perm (hSet.map (·.1)) := by decide +kernel
   rw [List.contains_iff_mem, p.mem_iff]
   constructor
   · intro h
     obtain ⟨x, hx, rfl⟩ := List.mem_map.mp h
     exact ⟨_, List.mem_map.mpr ⟨x, hx, rfl⟩, beq_self_eq_true _⟩
   · rintro ⟨e, he, hk⟩
     obtain ⟨x, hx, rfl⟩ := List.mem_map.mp he
     have hk : (x.1 == k) = true := hk
     exact List.mem_map.mpr ⟨x, hx, beq_iff_eq.mp hk⟩
noncomputable def ettC : PySem.Value -> CV
 | .int i _ => .int i
 | _ => .none
noncomputable def isI : PySem.Value -> Bool
 | .int _ _ => true
 | _ => false
theorem ai7 (W : Wd) (F : FH) : ∀ (l : List (String × Nat × PySem.Value)) (c : List (SS × CV)), (c.map fun x => (x.1.s, x.2)) = l.map (fun x => (Str.ofString x.1, ettC x.2.2)) -> (l.all fun x => isI x.2.2) = true ->
 RVd W.prog W.w F c (l.map fun x => (Str.ofString x.1, x.2.2))
 | [], c, e, _ => by
  obtain rfl : c = [] := List.map_eq_nil_iff.mp e
  simp only [RVd, List.map_nil]
 | (n, t, v) :: l, c, e, a => by
  cases c with
  | nil => cases e
  | cons p c =>
   obtain ⟨k, y⟩ := p
   simp only [List.map_cons, List.cons.injEq, Prod.mk.injEq] at e
   obtain ⟨⟨e1, e2⟩, e3⟩ := e
   simp only [List.all_cons, Bool.and_eq_true] at a
   obtain ⟨a1, a2⟩ := a
   simp only [RVd, List.map_cons]
   refine ⟨v, _, by rw [e1], ?_, ai7 W F l c e3 a2⟩
   cases v <;> first | (cases a1; done) | skip
   subst e2
   exact ⟨_, rfl⟩
theorem anw (w : World) : DO p1 w (hDict w.params hEtt) (hEtt.map fun x => (Str.ofString x.1, x.2.2)) := by
 refine ⟨⟨rfl, rfl, rfl⟩, _, _, rfl, fun e he => ?_, ?_, by decide +kernel⟩
 · have he : e ∈ hEtt.map (hE w.params) := by simpa using he
   obtain ⟨x, hx, rfl⟩ := List.mem_map.mp he
   exact ⟨Str.ofString x.1, beq_self_eq_true _, rfl⟩
 · have : ∀ l : List (String × Nat × PySem.Value), Pairs (strKind p1 w) (l.map (hE w.params)) (l.map fun x => (Str.ofString x.1, x.2.2)) := fun l => by
    induction l with
    | nil => exact .nil
    | cons x l ih => exact .cons (beq_self_eq_true _) rfl ih
   simpa using this hEtt
theorem jBlt (P : Params) : ∀ y ∈ bltL, (h5 P).nsMap mainGlobals (Str.ofString y) = none ∧ (h5 P).nsMap builtinsNs (Str.ofString y) = bltV (Str.ofString y) := by
 rw [Fast.te8920871248978507458]
 unfold bltL
 simp only [List.forall_mem_cons, List.not_mem_nil, false_imp_iff, implies_true, and_true]
 refine ⟨⟨?_, ?_⟩, ⟨?_, ?_⟩, ⟨?_, ?_⟩, ⟨?_, ?_⟩, ⟨?_, ?_⟩, ⟨?_, ?_⟩, ⟨?_, ?_⟩, ⟨?_, ?_⟩⟩ <;> ext
set_option tactic.hygienic true
theorem jG (w : World) {K : Nat} {fn : Str -> Option FS} (hfn : ∀ x f, fn x = some f -> ∃ a, (jW w).mg x = some (.ref a) ∧ FunOK (jW w) K f a) : GOK (jW w) K (GF fn) where
 tabs := fun t ht h k => by
  obtain rfl := List.mem_singleton.mp ht
  exact ⟨jHd k, jBi k, by decide⟩
 nolim := fun h k => ⟨_, jNs (by decide) (jNs2 _) k, ans _⟩
 ns := fun h k => ⟨jNs (by decide) (jNs3 _) k, jNs (by decide) (jNs0 _) k⟩
 const := fun x c e => by
  unfold GF at e
  dsimp only at e
  split at e
  · cases e
  · split at e
    · rename_i q
      cases e
      obtain rfl := beq_iff_eq.mp q
      exact ⟨_, ant _, ⟨_, rfl⟩⟩
    · split at e
      · rename_i q
        cases e
        obtain rfl := beq_iff_eq.mp q
        refine ⟨_, anu _, ?_⟩
        exact ⟨_, setO w.params, rfl, by ext, anv w⟩
      · split at e
        · rename_i q
          cases e
          obtain rfl := beq_iff_eq.mp q
          refine ⟨_, amw _, ?_⟩
          exact ⟨_, hDict w.params hEtt, _, rfl, by ext, ⟨anw w, by decide⟩, ai7 _ _ _ _ (by ext) (by ext)⟩
        · split at e <;> cases e
 blt := fun x e => by
  unfold GF at e
  dsimp only at e
  split at e
  · rename_i q
    obtain ⟨y, hy, hx⟩ := List.any_eq_true.mp q
    obtain rfl := beq_iff_eq.mp hx
    exact jBlt _ y hy
  · split at e
    · cases e
    · split at e
      · cases e
      · split at e
        · cases e
        · split at e <;> cases e
 fn := fun x f e => by
  unfold GF at e
  dsimp only at e
  split at e
  · cases e
  · split at e
    · cases e
    · split at e
      · cases e
      · split at e
        · cases e
        · split at e
          · rename_i g q
            cases e
            exact hfn x _ q
          · cases e
set_option tactic.hygienic false
theorem FunOK.le {W : Wd} {k j : Nat} {f : FS} {a : Addr} (h : FunOK W k f a) (hj : k ≤ j) : FunOK W j f a :=
 ⟨h.1, fun cs kvs c o' q A F s la vs kws Rm => h.2 cs kvs c o' q A F s la vs kws (Rm.le hj)⟩
theorem jMg (w : World) : (jW w).mg = (h5 w.params).nsMap mainGlobals := rfl
theorem amx (w : World) : (jW w).mg nBR = some (.ref 39) := by rw [jMg, Fast.te8920871248978507458]; ext
theorem amy (w : World) : (jW w).mg nBL = some (.ref 57) := by rw [jMg, Fast.te8920871248978507458]; ext
theorem amz (w : World) : (jW w).mg nIR = some (.ref 30) := by rw [jMg, Fast.te8920871248978507458]; ext
theorem amA (w : World) : (jW w).mg nIL = some (.ref 48) := by rw [jMg, Fast.te8920871248978507458]; ext
theorem akz (w : World) : (jW w).mg nEMf = some (.ref 21) := by rw [jMg, Fast.te8920871248978507458]; ext
theorem akA (w : World) : (jW w).mg nTab = some (.ref 75) := by rw [jMg, Fast.te8920871248978507458]; ext
theorem akB (w : World) : (jW w).mg nOps = some (.ref 85) := by rw [jMg, Fast.te8920871248978507458]; ext
theorem akC (w : World) : (jW w).mg nUns = some (.ref 92) := by rw [jMg, Fast.te8920871248978507458]; ext
theorem akD (w : World) : (jW w).mg nBes = some (.ref 99) := by rw [jMg, Fast.te8920871248978507458]; ext
theorem amB (w : World) : (jW w).mg nRd = some (.ref 106) := by rw [jMg, Fast.te8920871248978507458]; ext
theorem akE (w : World) : (jW w).mg nAsk = some (.ref 120) := by rw [jMg, Fast.te8920871248978507458]; ext
theorem akF (w : World) : (jW w).mg nBeg = some (.ref 113) := by rw [jMg, Fast.te8920871248978507458]; ext
theorem air (w : World) : (jW w).mg nLaid = some (.ref 127) := by rw [jMg, Fast.te8920871248978507458]; ext
theorem ais (w : World) : (jW w).mg nEnds = some (.ref 134) := by rw [jMg, Fast.te8920871248978507458]; ext
theorem ait (w : World) : (jW w).mg nTold = some (.ref 141) := by rw [jMg, Fast.te8920871248978507458]; ext
theorem ae1 {β : Type} {l : List (Str × β)} {x : Str} {b : β} (h : l.lookup x = some b) : (x, b) ∈ l := by
 induction l with
 | nil => cases h
 | cons p r ih =>
  obtain ⟨n, k'⟩ := p
  simp only [List.lookup_cons] at h
  cases hx : x == n with
  | true => rw [hx] at h; cases h; rw [beq_iff_eq.mp hx]; exact .head _
  | false => rw [hx] at h; exact .tail _ (ih h)
theorem jAll {w : World} {j : Nat} (G : GOK (jW w) (20 + 37 * j) (GF (lv j))) : ∀ p ∈ defsT, ∃ a, (jW w).mg p.1 = some (.ref a) ∧ FunOK (jW w) (20 + 37 * (j + 1)) (fsOf (lv j) p.2.1 p.2.2) a := by
 have go : ∀ {x : Str} {d : DD} {n : Nat} {fa : Addr} {fd : FuncData}, n ≤ 12 -> (jW w).mg x = some (.ref fa) -> DefAt (jW w) d fa fd -> ∃ a, (jW w).mg (x, d, n).1 = some (.ref a) ∧ FunOK (jW w) (20 + 37 * (j + 1)) (fsOf (lv j) (x, d, n).2.1 (x, d, n).2.2) a := fun {x d n fa fd} hn hx D => ⟨fa, hx, (ai6 (n := n) (c := 0) G (by lia) D).le (by lia)⟩
 unfold defsT
 simp only [List.forall_mem_cons]
 exact ⟨go (by decide) (amx w) (ano w), go (by decide) (amy w) (anp w), go (by decide) (amz w) (anq w), go (by decide) (amA w) (anr w), go (by decide) (akz w) (amv w), go (by decide) (akA w) (aks w), go (by decide) (akB w) (akt w), go (by decide) (akC w) (aku w), go (by decide) (akD w) (akv w), go (by decide) (amB w) (ain w), go (by decide) (akE w) (akw w), go (by decide) (akF w) (akx w), go (by decide) (air w) (aio w), go (by decide) (ais w) (aip w), go (by decide) (ait w) (aiq w), fun _ q => (nomatch q)⟩
set_option tactic.hygienic true
theorem jLv (w : World) : ∀ j x f, lv j x = some f -> ∃ a, (jW w).mg x = some (.ref a) ∧ FunOK (jW w) (20 + 37 * j) f a
 | 0, x, f, e => by cases e
 | j + 1, x, f, e => by
  have e : (match defsT.lookup x with | some (d, n) => some (fsOf (lv j) d n) | none => none) = some f := e
  split at e
  · rename_i d n q
    cases e
    exact jAll (jG w (jLv w j)) (x, d, n) (ae1 q)
  · cases e
set_option tactic.hygienic false
theorem jLaw (w : World) : FunOK (jW w) 229 (fsOf (lv 4) dLaw 20) 146 :=
 (ai6 (n := 20) (c := 0) (jG w (jLv w 4)) (by decide) (aky w)).le (by decide)
noncomputable def hDef : DefRec := match p1.main.body[70]? with
 | some (PySem.Stmt.FunctionDef n a b _ _ _ sc _ _ pos) => ⟨n, a, b, sc, pos⟩
 | _ => ⟨Str.empty, hBad.2.1, [], hBad.2.2.2, ⟨0, 0, 0, 0⟩⟩
theorem akG : defOf hQ PySem.Challenge.rw_uk0005_01.row.name = some (hDef, []) := by ext
theorem akH : PySem.Challenge.rw_uk0005_01.row.prog.theDef PySem.Challenge.rw_uk0005_01.row.name = some (hDef.params, hDef.body, hDef.scope) := by ext
def YPj (w : World) (h : Heap) : Prop := ∀ a o, (h5 w.params).get? a = some o -> h.get? a = some o
set_option tactic.hygienic true
theorem aiu {args : List WData} (hpre : PySem.Challenge.rw_uk0005_01.row.toRowW.claim.pre args = true) : ∃ ns : List Int, args = [.list (ns.map .int)] ∧ ns.length ≤ 63 := by
 have hsh := (pre_splitW hpre).1
 have hcond := (pre_splitW hpre).2
 have hsh : WShape.hasAll [] args [.list .int] = true := hsh
 obtain ⟨d, r, rfl, h1, h2⟩ := hasAllW_cons hsh
 obtain rfl := hasAllW_nil h2
 obtain ⟨xs, rfl, hi⟩ := hasW_list h1
 obtain ⟨ns, rfl⟩ := items_int hi
 refine ⟨ns, rfl, ?_⟩
 w_cond hcond
 rename_i q _
 rw [List.length_map] at q
 omega
set_option tactic.hygienic false
theorem Ns.uniq {h : Heap} {a : Addr} {m m' : Str -> Option PySem.Value} (x : h.Ns a m) (y : h.Ns a m') : m = m' := by
 obtain ⟨o, es, ep, e, e2, _, e3⟩ := x
 obtain ⟨o', es', ep', e', e2', _, e3'⟩ := y
 rw [e] at e'; cases e'
 rw [e2] at e2'; cases e2'
 exact funext fun n => (e3 n).symm.trans (e3' n)
theorem ai8 {W : Wd} {F : FH} {P : Params} {h : Heap} : ∀ {ns : List Int} {vs : List PySem.Value}, WellAll P h vs (ns.map .int) -> RVs W.prog W.w F (scr ns) vs
 | [], vs, x => by cases x; simp only [scr, List.map_nil]
 | n :: ns, vs, x => by
  obtain ⟨v, r, rfl, hv, hr⟩ := wellAll_cons_inv x
  cases hv
  have ih := ai8 (W := W) (F := F) hr
  unfold scr at ih ⊢
  simp only [List.map_cons]
  refine ⟨_, _, rfl, ?_, ih⟩
  exact ⟨_, rfl⟩
theorem jBor : (fsOf (lv 4) dLaw 20).bor = none := by ext
set_option tactic.hygienic true
theorem anx : WalkO hQ hLoose (fun _ _ => True) YPj PySem.Challenge.rw_uk0005_01.row.toRowW hDef [] (fun f vs => PySem.call f vs) := by
 intro w s0 s1 mg mb G Y a o pm cd doc dV kV ho hd hcd hD hmg hg args vs as hpre hlay hrd hwl hlo
 obtain ⟨ns, rfl, hlen⟩ := aiu hpre
 obtain ⟨v, r, rfl, hv, hr⟩ := wellAll_cons_inv hwl
 cases hr
 generalize hxs : ns.map WData.int = xs at hv
 cases hv with
 | list hla hvs =>
 rename_i la vs
 subst hxs
 have Y : ∀ a o, (h5 w.params).get? a = some o -> s1.heap.get? a = some o := Y
 have hK : ∀ b ob, jF w.params b = some ob -> s1.heap.get? b = some ob := fun b ob e => Y b ob (ams e)
 have e143 : s1.heap.get? 143 = some (tabObj #[]) := Y _ _ (by ext)
 have hmg' : mg = (h5 w.params).nsMap mainGlobals := Ns.uniq G.T.g (jNs (by decide) (jNs3 _) hK)
 have ha : a = 146 := by
  have : (h5 w.params).nsMap mainGlobals hDef.name = some (.ref 146) := by rw [Fast.te8920871248978507458]; ext
  rw [hmg', this] at hmg
  cases hmg; rfl
 subst ha
 have hne : la ≠ 143 := fun e => by rw [e, e143] at hla; cases hla
 let F : FH := fun b => if b = 143 then none else s1.heap.get? b
 have I : Inv (jW w) F s1 := ⟨fun b ob e => by
  show s1.heap.get? b = some ob
  have e : (if b = 143 then none else s1.heap.get? b) = some ob := e
  split at e
  · cases e
  · exact e, fun b ob e => by
  have h := hK b ob e
  have hb : b ≠ 143 := fun q => by
   have e : jF w.params b = some ob := e
   unfold jF at e
   rw [if_pos q] at e; cases e
  show (if b = 143 then none else s1.heap.get? b) = some ob
  rw [if_neg hb]; exact h, fun t ht => by
  obtain rfl := List.mem_singleton.mp ht
  exact ⟨⟨#[], e143, trivial, fun pos cv q => by cases q⟩, if_pos rfl⟩⟩
 refine (jLaw w).2 [.list (scr ns)] [] (.bool true) (.list []) (ah6 hlen) callerA F s1 0 _ [] ⟨rfl, by decide, by decide⟩ I ?_ rfl (fun q => by rw [jBor] at q; cases q) _ _ fun v F' s' S rv _ => ?_
 · rw [jBor]
   unfold ArgsR
   refine ⟨_, _, rfl, ?_, rfl⟩
   exact ⟨la, _, vs, rfl, (if_neg hne).trans hla, ⟨_, rfl⟩, ai8 hvs⟩
 · simp only [RV] at rv
   subst rv
   refine ⟨.inl ⟨_, .bool true, [], rfl, fun _ => rfl, .bool true, by ext, fun _ => ⟨List.nodup_nil, fun _ q => (nomatch q)⟩⟩, ⟨fun b ob e => ?_, fun b ob e => S.there e⟩, S.same.2.2, .of_eq (S.same.1.trans hg)⟩
   by_cases hb : b = 143
   · subst hb
     rw [e143] at e
     cases e
     obtain ⟨⟨ps, e1, _⟩, _⟩ := S.inv.tab _ (List.mem_singleton.mpr rfl)
     refine .inr (.inl ⟨⟨145, _, _, hK _ (hCo 70 142 626 206 1 0 3 .none .none (.ref 144) 0) (by ext), rfl, rfl, rfl⟩, rfl, #[], ps, rfl, ?_⟩)
     rw [Array.empty_append]
     exact e1
   · refine .inl (S.keep b ob e (fun q => ?_) fun ⟨t, ht, q⟩ => ?_)
     · have q := q.1; rw [jBor] at q; cases q
     · obtain rfl := List.mem_singleton.mp ht
       exact hb q.symm
set_option tactic.hygienic false
theorem hRow (said : PySem.Challenge.rw_uk0005_01.row.wellSaid = true) : PySem.Challenge.rw_uk0005_01.row.Holds :=
 holds_open (q := hQ) (loose := hLoose) (Xt := fun _ => true) (XP := fun _ _ => True) (Yf := fun s => s.heap) (Ya := fun w => h5 w.params) (YP := YPj) (d := hDef) (kwd := []) (N := 8000)
  anj (fun w s e b o h => by rw [show s.heap = h5 w.params from e]; exact h) (fun w h h' y k b o e => k _ _ (y _ _ e)) (fun _ _ => trivial) (fun _ _ _ _ _ => trivial) akG akH (by ext) (fun _ _ => recFacts_nil rfl) rfl
  said (by decide +kernel) ⟨rfl, rfl, rfl, rfl, rfl, by decide +kernel⟩ ⟨[.list []], by decide +kernel, by decide +kernel⟩ anx
theorem hSaid : PySem.Challenge.rw_uk0005_01.wellSaid = true := by
 rw [Fast.te9446332074065402090]
 ext
end
end
end Mine
open PySem PySem.W PySem.Calls PyProof.Rows
open Mine in
theorem PySem.Challenge.cw_uk0005_01_holds : PySem.Challenge.rw_uk0005_01.Holds := by
  exact holds_law hSaid hRow
