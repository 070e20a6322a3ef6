import PyProof.Rows.All
import Wide.All
import OpenK.AllK
import Wide.FinOn
import PySem.Challenge.RW_dm0264_10
set_option Elab.async false
section part_W1
set_option Elab.async false
set_option linter.unusedVariables false
namespace Mine
open PySem

/-- pure values -/
inductive PV where
  | none
  | bool (b : Bool)
  | int (i : Int)
  | str (s : List Nat)
  | list (xs : List PV)
  | tuple (xs : List PV)
  | range (lo hi : Int)
  | dict (kvs : List (List Nat × PV))
  | type (n : String)

inductive Slot where
  | no
  | val (v : PV)
  | own (xs : List PV)

noncomputable def getS : List Slot → Nat → Slot
  | [], _ => .no
  | x :: _, 0 => x
  | _ :: r, n + 1 => getS r n
noncomputable def setS : List Slot → Nat → Slot → List Slot
  | [], _, _ => []
  | _ :: r, 0, v => v :: r
  | x :: r, n + 1, v => x :: setS r n v

inductive Blt where
  | abs | len | range | max | isinst | int | str | ord | sum | list | divmod

inductive MX where
  | cnone | cbool (b : Bool) | cint (i : Int) | cstr (s : List Nat)
  | var (j : Nat)
  | ty (n : String)
  | bin (op : Operator) (l r : MX)
  | neg (x : MX)
  | not (x : MX)
  | boolop (op : BoolOp) (xs : MX)
  | ite (t a b : MX)
  | cmp (op : CmpOp) (l r : MX)
  | call (f : String) (args : MX)
  | blt (b : Blt) (args : MX)
  | meth (m : String) (o : MX) (a : MX)
  | item (o i : MX)
  | slice (o lo hi : MX)
  | absent
  | list (xs : MX)
  | tuple (xs : MX)
  | dict (ks : List (List Nat)) (vs : MX)
  | comp (j : Nat) (elt iter tests : MX)
  | nil
  | cons (h t : MX)
  | hole

inductive MS where
  | assign (j : Nat) (e : MX)
  | assignOwn (j : Nat) (es : MX)
  | swap (js : List Nat) (e : MX)
  | unpack (js : List Nat) (e : MX)
  | aug (j : Nat) (op : Operator) (e : MX)
  | append (j : Nat) (e : MX)
  | ifs (t : MX) (a b : MS)
  | whil (t : MX) (body : MS)
  | fors (j : Nat) (iter : MX) (body : MS)
  | ret (e : MX)
  | nil
  | cons (h t : MS)
  | freeze (j : Nat)
  | hole

inductive MFlow where
  | next | brk | cont
  | ret (v : PV)

structure Fenv where
  known : String → Prop
  run : String → List PV → (PV → Prop) → Prop

abbrev bits (i : Int) : Nat := Builtin.Int.intBits i

noncomputable def truthK : PV → (Bool → Prop) → Prop
  | .none, P => P false
  | .bool b, P => P b
  | .int i, P => P (i != 0)
  | .str s, P => s.length ≤ 16777216 ∧ P (!s.isEmpty)
  | _, _ => False

noncomputable def useS : Slot → (PV → Prop) → Prop
  | .val v, P => P v
  | _, _ => False
noncomputable def ownS : Slot → (List PV → Prop) → Prop
  | .own xs, P => P xs
  | _, _ => False
noncomputable def negK : PV → (PV → Prop) → Prop
  | .int i, P => P (.int (-i))
  | _, _ => False
noncomputable def tupK : PV → (List PV → Prop) → Prop
  | .tuple vs, P => P vs
  | .list vs, P => P vs
  | _, _ => False
noncomputable def intsK : PV → PV → Prop → Prop
  | .int _, .int _, P => P
  | _, _, _ => False

noncomputable def intCmp : PV → PV → (Int → Int → Prop) → Prop
  | .int a, .int b, K => K a b
  | _, _, _ => False
noncomputable def numK : PV → (Int → Prop) → Prop
  | .int b, P => P b
  | .bool b, P => P (if b = true then 1 else 0)
  | _, _ => False
noncomputable def txtK : PV → (List Nat → Prop) → Prop
  | .str s, P => P s
  | _, _ => False
noncomputable def lstK : PV → (List PV → Prop) → Prop
  | .list s, P => P s
  | _, _ => False
noncomputable def intK : PV → (Int → Prop) → Prop
  | .int b, P => P b
  | _, _ => False
noncomputable def addM : PV → PV → (PV → Prop) → Prop
  | .int a, y, P => numK y fun b => P (.int (a + b))
  | .str a, y, P => txtK y fun b => a.length + b.length ≤ 16777216 ∧ P (.str (a ++ b))
  | .list a, y, P => lstK y fun b => a.length + b.length ≤ 16777216 ∧ P (.list (a ++ b))
  | _, _, _ => False
noncomputable def mulM : PV → PV → (PV → Prop) → Prop
  | .int a, y, P => intK y fun b => IntMulOk a b ∧ P (.int (a * b))
  | .str a, y, P => intK y fun b => a.length ≤ 16 ∧ b ≤ 1048576 ∧ -1048576 ≤ b ∧ P (.str (List.replicate b.toNat a).flatten)
  | _, _, _ => False
noncomputable def binM (op : Operator) (x y : PV) (P : PV → Prop) : Prop := match op with
  | .Add => addM x y P
  | .Mult => mulM x y P
  | .Sub => intCmp x y fun a b => P (.int (a - b))
  | .FloorDiv => intCmp x y fun a b => b ≠ 0 ∧ Builtin.divisionGoesByPylong a b = false ∧ P (.int (a.fdiv b))
  | .Mod => intCmp x y fun a b => b ≠ 0 ∧ P (.int (a.fmod b))
  | .Pow => intCmp x y fun a b => 0 ≤ b ∧ (bits a : Int) * b ≤ 2 ^ 27 ∧ P (.int (a ^ b.toNat))
  | .LShift => intCmp x y fun a b => 0 ≤ b ∧ (bits a : Int) + b ≤ 2 ^ 27 ∧ P (.int (a * 2 ^ b.toNat))
  | .RShift => intCmp x y fun a b => 0 ≤ b ∧ P (.int (a.fdiv (2 ^ b.toNat)))
  | .BitAnd => intCmp x y fun a b => P (.int (Builtin.bitAnd a b))
  | _ => False

/-- equality of plain values -/
noncomputable def eqA : PV → PV → Option Bool
  | .int a, .int b => some (a == b)
  | .bool a, .bool b => some (a == b)
  | .str a, .str b => some (a == b)
  | .none, .none => some true
  | .none, .int _ => some false
  | .int _, .none => some false
  | _, _ => Option.none
noncomputable def andO : Option Bool → Option Bool → Option Bool
  | some a, some b => some (a && b)
  | _, _ => Option.none
noncomputable def orO : Option Bool → Option Bool → Option Bool
  | some a, some b => some (a || b)
  | _, _ => Option.none
noncomputable def eqL : List PV → List PV → Option Bool
  | x :: xs, y :: ys => andO (eqA x y) (eqL xs ys)
  | _, _ => some true
noncomputable def eqV : PV → PV → Option Bool
  | .list xs, .list ys => if xs.length = ys.length then eqL xs ys else some false
  | x, y => eqA x y
noncomputable def inV (x : PV) : List PV → Option Bool
  | [] => some false
  | y :: ys => orO (eqA y x) (inV x ys)
noncomputable def eqK : Option Bool → (Bool → Prop) → Prop
  | some b, P => P b
  | Option.none, _ => False
/-- less than, of ints and of texts -/
noncomputable def ltK : PV → PV → (Bool → Prop) → Prop
  | .int a, .int b, P => P (decide (a < b))
  | .str a, .str b, P => P (decide (a < b))
  | _, _, _ => False
noncomputable def isNone : PV → Option Bool
  | .none => some true
  | .int _ => some false
  | _ => Option.none
noncomputable def isK : PV → PV → (Bool → Prop) → Prop
  | a, .none, P => eqK (isNone a) P
  | _, _, _ => False
noncomputable def inM : PV → PV → (Bool → Prop) → Prop
  | x, .list ys, P => eqK (inV x ys) P
  | .str [c], .str ys, P => P (decide (c ∈ ys))
  | _, _, _ => False
noncomputable def cmpM : CmpOp → PV → PV → (Bool → Prop) → Prop
  | .Eq, a, b, P => eqK (eqV a b) P
  | .NotEq, a, b, P => eqK (eqV a b) fun c => P (!c)
  | .Lt, a, b, P => ltK a b P
  | .LtE, a, b, P => intCmp a b fun a b => P (decide (a ≤ b))
  | .Gt, a, b, P => ltK b a P
  | .GtE, a, b, P => intCmp a b fun a b => P (decide (b ≤ a))
  | .In, a, b, P => inM a b P
  | .NotIn, a, b, P => inM a b fun c => P (!c)
  | .Is, a, b, P => isK a b P
  | .IsNot, a, b, P => isK a b fun c => P (!c)

noncomputable def rangeItems (lo hi : Int) : List PV := (List.range (hi - lo).toNat).map fun (i : Nat) => PV.int (lo + (i : Int))

noncomputable def itemsK : PV → (List PV → Prop) → Prop
  | .list xs, P => P xs
  | .range lo hi, P => P (rangeItems lo hi)
  | .str xs, P => P (xs.map fun c => .str [c])
  | _, _ => False

/-- the figures of a number -/
noncomputable def decS (i : Int) : List Nat := (Str.ofString (toString i)).cps.toList
noncomputable def rstripS (x y : List Nat) : List Nat := (x.reverse.dropWhile fun c => y.contains c).reverse
noncomputable def lenK : PV → (PV → Prop) → Prop
  | .list xs, P => xs.length ≤ 16777216 ∧ P (.int xs.length)
  | .str xs, P => xs.length ≤ 16777216 ∧ P (.int xs.length)
  | _, _ => False
noncomputable def toIntK : PV → (PV → Prop) → Prop
  | .str xs, P => xs.length ≤ 640 ∧ ∃ n, PySem.intText? ⟨xs.toArray⟩ = some n ∧ P (.int n)
  | .bool b, P => P (.int (if b = true then 1 else 0))
  | _, _ => False
noncomputable def ordK : List Nat → (PV → Prop) → Prop
  | [c], P => P (.int c)
  | _, _ => False
noncomputable def blt1 (b : Blt) (x : PV) (P : PV → Prop) : Prop := match b with
  | .abs => intK x fun a => P (.int (if a < 0 then -a else a))
  | .len => lenK x P
  | .range => intK x fun n => n ≤ 16777216 ∧ -16777216 ≤ n ∧ P (.range 0 n)
  | .str => intK x fun a => a.natAbs.log2 < 1920 ∧ P (.str (decS a))
  | .int => toIntK x P
  | .ord => txtK x fun s => ordK s P
  | .sum => lstK x fun xs => ∃ ns : List Int, xs = ns.map .int ∧ P (.int ns.sum)
  | .list => lstK x fun xs => xs.length ≤ 16777216 ∧ P (.list xs)
  | .max => lstK x fun xs => ∃ ns : List Int, xs = ns.map .int ∧ ns ≠ [] ∧ ∀ m, m ∈ ns → (∀ x ∈ ns, x ≤ m) → P (.int m)
  | _ => False
noncomputable def blt2 (b : Blt) (x y : PV) (P : PV → Prop) : Prop := match b with
  | .max => intCmp x y fun a b => P (.int (if a < b then b else a))
  | .divmod => intCmp x y fun a b => b ≠ 0 ∧ Builtin.divisionGoesByPylong a b = false ∧ P (.tuple [.int (a.fdiv b), .int (a.fmod b)])
  | .range => intCmp x y fun lo hi => lo ≤ hi ∧ hi - lo ≤ 16777216 ∧ P (.range lo hi)
  | _ => False
noncomputable def bltM (b : Blt) (xs : List PV) (P : PV → Prop) : Prop := match xs with
  | [x] => blt1 b x P
  | [x, y] => blt2 b x y P
  | _ => False

noncomputable def strK : PV → (List Nat → Prop) → Prop
  | .str xs, P => xs.length ≤ 16777216 ∧ P xs
  | _, _ => False
noncomputable def methM (m : String) (o : List Nat) (x : PV) (P : PV → Prop) : Prop :=
  (m = "rstrip" ∧ ∃ b, x = .str b ∧ P (.str (rstripS o b))) ∨
  (m = "join" ∧ ∃ ss : List (List Nat), o = [] ∧ x = .list (ss.map .str) ∧ (ss.map (·.length)).sum + ss.length ≤ 1048576 ∧ P (.str ss.flatten))

noncomputable def dget (k : List Nat) : List (List Nat × PV) → Option PV
  | [] => Option.none
  | (x, v) :: r => if x = k then some v else dget k r

noncomputable def itemM : PV → PV → (PV → Prop) → Prop
  | .list xs, .int i, P => xs.length ≤ 16777216 ∧ ∃ v, (if 0 ≤ i then xs[i.toNat]? else if -(xs.length : Int) ≤ i then xs[(i + xs.length).toNat]? else Option.none) = some v ∧ P v
  | .str xs, .int i, P => xs.length ≤ 16777216 ∧ ∃ v, (if 0 ≤ i then xs[i.toNat]? else if -(xs.length : Int) ≤ i then xs[(i + xs.length).toNat]? else Option.none) = some v ∧ P (.str [v])
  | .dict kvs, .str k, P => ∃ v, dget k kvs = some v ∧ P v
  | _, _, _ => False

/-- a part of a slice -/
noncomputable def partK : PV → (Option Int → Prop) → Prop
  | .none, P => P Option.none
  | .int i, P => P (some i)
  | _, _ => False

noncomputable def cut {α : Type} (xs : List α) (lo hi : Option Int) : List α :=
  (xs.drop (PySem.W.kms_lo lo xs.length)).take (PySem.W.kms_hi hi xs.length - PySem.W.kms_lo lo xs.length)

noncomputable def sliceM : PV → Option Int → Option Int → (PV → Prop) → Prop
  | .list xs, lo, hi, P => xs.length ≤ 16777216 ∧ P (.list (cut xs lo hi))
  | .str xs, lo, hi, P => xs.length ≤ 16777216 ∧ P (.str (cut xs lo hi))
  | _, _, _, _ => False

noncomputable def stops : BoolOp → Bool → Bool
  | .And, b => !b
  | .Or, b => b

noncomputable def compGo (test : PV → (Bool → Prop) → Prop) (el : PV → (PV → Prop) → Prop) (P : List PV → Prop) : List PV → List PV → Prop
  | [], acc => P acc
  | x :: xs, acc => test x fun ok => if ok = true then el x fun v => compGo test el P xs (acc ++ [v]) else compGo test el P xs acc

mutual
noncomputable def evalM (Φ : Fenv) : MX → List Slot → (PV → Prop) → Prop
  | .cnone, _, P => P .none
  | .cbool b, _, P => P (.bool b)
  | .cint i, _, P => P (.int i)
  | .cstr s, _, P => P (.str s)
  | .var j, σ, P => useS (getS σ j) P
  | .ty n, _, P => P (.type n)
  | .bin op l r, σ, P => evalM Φ l σ fun a => evalM Φ r σ fun b => binM op a b P
  | .neg x, σ, P => evalM Φ x σ fun a => negK a P
  | .not x, σ, P => evalM Φ x σ fun a => truthK a fun b => P (.bool !b)
  | .boolop op xs, σ, P => boolM Φ op xs σ P
  | .ite t a b, σ, P => truthM Φ t σ fun c => if c = true then evalM Φ a σ P else evalM Φ b σ P
  | .cmp op l r, σ, P => evalM Φ l σ fun a => evalM Φ r σ fun b => cmpM op a b fun c => P (.bool c)
  | .call f args, σ, P => Φ.known f ∧ evalL Φ args σ fun vs => Φ.run f vs P
  | .blt b args, σ, P => evalL Φ args σ fun vs => bltM b vs P
  | .meth m o a, σ, P => evalM Φ o σ fun ov => strK ov fun s => evalM Φ a σ fun v => methM m s v P
  | .item o i, σ, P => evalM Φ o σ fun ov => evalM Φ i σ fun iv => itemM ov iv P
  | .slice o lo hi, σ, P => evalM Φ o σ fun ov => evalM Φ lo σ fun l => evalM Φ hi σ fun h =>
      partK l fun a => partK h fun b => sliceM ov a b P
  | .absent, _, P => P .none
  | .list xs, σ, P => evalL Φ xs σ fun vs => vs.length ≤ 1048576 ∧ P (.list vs)
  | .tuple xs, σ, P => evalL Φ xs σ fun vs => vs.length ≤ 1048576 ∧ P (.tuple vs)
  | .dict ks vs, σ, P => evalL Φ vs σ fun xs => xs.length = ks.length ∧ P (.dict (ks.zip xs))
  | .comp j elt iter tests, σ, P => evalM Φ iter σ fun it => itemsK it fun items =>
      items.length ≤ 16777216 ∧ compGo (fun x R => testM Φ tests (setS σ j (.val x)) R) (fun x R => evalM Φ elt (setS σ j (.val x)) R) (fun ys => P (.list ys)) items []
  | .nil, _, _ => False
  | .cons _ _, _, _ => False
  | .hole, _, _ => False
noncomputable def evalL (Φ : Fenv) : MX → List Slot → (List PV → Prop) → Prop
  | .nil, _, P => P []
  | .cons h t, σ, P => evalM Φ h σ fun v => evalL Φ t σ fun vs => P (v :: vs)
  | _, _, _ => False
noncomputable def boolM (Φ : Fenv) (op : BoolOp) : MX → List Slot → (PV → Prop) → Prop
  | .cons x .nil, σ, P => evalM Φ x σ P
  | .cons x t, σ, P => evalM Φ x σ fun v => truthK v fun b => if stops op b = true then P v else boolM Φ op t σ P
  | _, _, _ => False
noncomputable def truthM (Φ : Fenv) : MX → List Slot → (Bool → Prop) → Prop
  | .not x, σ, P => truthM Φ x σ fun b => P (!b)
  | .boolop op xs, σ, P => allM Φ op xs σ P
  | .ite t a b, σ, P => truthM Φ t σ fun c => if c = true then truthM Φ a σ P else truthM Φ b σ P
  | .cmp op l r, σ, P => evalM Φ l σ fun a => evalM Φ r σ fun b => cmpM op a b P
  | .var j, σ, P => useS (getS σ j) fun v => truthK v P
  | .call f args, σ, P => Φ.known f ∧ evalL Φ args σ fun vs => Φ.run f vs fun v => truthK v P
  | .blt b args, σ, P => evalL Φ args σ fun vs => bltM b vs fun v => truthK v P
  | _, _, _ => False
noncomputable def allM (Φ : Fenv) (op : BoolOp) : MX → List Slot → (Bool → Prop) → Prop
  | .nil, _, P => P (match op with | .And => true | .Or => false)
  | .cons x t, σ, P => truthM Φ x σ fun b => if stops op b = true then P b else allM Φ op t σ P
  | _, _, _ => False
noncomputable def testM (Φ : Fenv) : MX → List Slot → (Bool → Prop) → Prop
  | .nil, _, P => P true
  | .cons x .nil, σ, P => truthM Φ x σ P
  | _, _, _ => False
end

/-- how a turn's end goes on -/
noncomputable def turnK (f : MFlow) (σ' : List Slot) (Q : MFlow → List Slot → Prop) (go : Prop) : Prop := match f with
  | .next => go
  | .cont => go
  | .brk => Q .next σ'
  | .ret v => Q (.ret v) σ'
noncomputable def seqK (f : MFlow) (σ' : List Slot) (Q : MFlow → List Slot → Prop) (go : Prop) : Prop := match f with
  | .next => go
  | .cont => Q .cont σ'
  | .brk => Q .brk σ'
  | .ret v => Q (.ret v) σ'

noncomputable def forGo (body : List Slot → (MFlow → List Slot → Prop) → Prop) (j : Nat) (Q : MFlow → List Slot → Prop) : List PV → List Slot → Prop
  | [], σ => Q .next σ
  | x :: xs, σ => body (setS σ j (.val x)) fun f σ' => turnK f σ' Q (forGo body j Q xs σ')

noncomputable def whileGo (test : List Slot → (Bool → Prop) → Prop) (body : List Slot → (MFlow → List Slot → Prop) → Prop) (Q : MFlow → List Slot → Prop) : Nat → List Slot → Prop
  | 0, _ => False
  | n + 1, σ => test σ fun b => if b = true then body σ fun f σ' => turnK f σ' Q (whileGo test body Q n σ') else Q .next σ

/-- no slot but j is owned -/
noncomputable def others : List Slot → Nat → Bool
  | [], _ => true
  | x :: r, 0 => r.all fun y => match y with | .own _ => false | _ => true
  | x :: r, n + 1 => (match x with | .own _ => false | _ => true) && others r n

noncomputable def setMany : List Slot → List Nat → List PV → List Slot
  | σ, j :: js, v :: vs => setMany (setS σ j (.val v)) js vs
  | σ, _, _ => σ

noncomputable def execM (Φ : Fenv) : MS → List Slot → (MFlow → List Slot → Prop) → Prop
  | .assign j e, σ, Q => evalM Φ e σ fun v => Q .next (setS σ j (.val v))
  | .assignOwn j es, σ, Q => evalL Φ es σ fun vs => vs.length ≤ 1048576 ∧ Q .next (setS σ j (.own vs))
  | .swap js e, σ, Q => evalM Φ e σ fun v => tupK v fun vs => vs.length = js.length ∧ Q .next (setMany σ js.reverse vs.reverse)
  | .unpack js e, σ, Q => evalM Φ e σ fun v => tupK v fun vs => vs.length = js.length ∧ Q .next (setMany σ js vs)
  | .aug j op e, σ, Q => useS (getS σ j) fun old => evalM Φ e σ fun v => intsK old v (binM op old v fun r => Q .next (setS σ j (.val r)))
  | .append j e, σ, Q => ownS (getS σ j) fun xs => evalM Φ e σ fun v => xs.length ≤ 1048576 ∧ others σ j = true ∧ Q .next (setS σ j (.own (xs ++ [v])))
  | .ifs t a b, σ, Q => truthM Φ t σ fun c => if c = true then execM Φ a σ Q else execM Φ b σ Q
  | .whil t body, σ, Q => ∃ n, whileGo (fun σ R => truthM Φ t σ R) (fun σ R => execM Φ body σ R) Q n σ
  | .fors j iter body, σ, Q => evalM Φ iter σ fun it => itemsK it fun items => forGo (fun σ R => execM Φ body σ R) j Q items σ
  | .ret e, σ, Q => evalM Φ e σ fun v => Q (.ret v) σ
  | .nil, σ, Q => Q .next σ
  | .cons h t, σ, Q => execM Φ h σ fun f σ' => seqK f σ' Q (execM Φ t σ' Q)
  | .freeze j, σ, Q => ownS (getS σ j) fun xs => others σ j = true ∧ Q .next (setS σ j (.val (.list xs)))
  | .hole, _, _ => False
theorem useS_val {v : PV} {P : PV → Prop} : (useS (.val v) P) = P v := rfl
theorem ownS_own {xs : List PV} {P : List PV → Prop} : (ownS (.own xs) P) = P xs := rfl
theorem negK_int {i : Int} {P : PV → Prop} : (negK (.int i) P) = P (.int (-i)) := rfl
theorem tupK_tuple {vs : List PV} {P : List PV → Prop} : (tupK (.tuple vs) P) = P vs := rfl
theorem tupK_list {vs : List PV} {P : List PV → Prop} : (tupK (.list vs) P) = P vs := rfl
theorem intsK_int {a b : Int} {P : Prop} : (intsK (.int a) (.int b) P) = P := rfl
theorem truthK_none {P : Bool → Prop} : (truthK .none P) = P false := rfl
theorem truthK_bool {b : Bool} {P : Bool → Prop} : (truthK (.bool b) P) = P b := rfl
theorem truthK_int {i : Int} {P : Bool → Prop} : (truthK (.int i) P) = P (i != 0) := rfl
theorem truthK_str {s : List Nat} {P : Bool → Prop} : (truthK (.str s) P) = (s.length ≤ 16777216 ∧ P (!s.isEmpty)) := rfl
theorem itemsK_list {xs : List PV} {P : List PV → Prop} : (itemsK (.list xs) P) = P xs := rfl
theorem itemsK_range {lo hi : Int} {P : List PV → Prop} : (itemsK (.range lo hi) P) = P (rangeItems lo hi) := rfl
theorem itemsK_str {xs : List Nat} {P : List PV → Prop} : (itemsK (.str xs) P) = P (xs.map fun c => .str [c]) := rfl
theorem bltM_lenS {xs : List Nat} {P : PV → Prop} : (bltM .len [.str xs] P) = (xs.length ≤ 16777216 ∧ P (.int xs.length)) := rfl
theorem bltM_str {a : Int} {P : PV → Prop} : (bltM .str [.int a] P) = (a.natAbs.log2 < 1920 ∧ P (.str (decS a))) := rfl
theorem bltM_intS {xs : List Nat} {P : PV → Prop} : (bltM .int [.str xs] P) = (xs.length ≤ 640 ∧ ∃ n, PySem.intText? ⟨xs.toArray⟩ = some n ∧ P (.int n)) := rfl
theorem bltM_intB {b : Bool} {P : PV → Prop} : (bltM .int [.bool b] P) = P (.int (if b = true then 1 else 0)) := rfl
theorem bltM_ord {c : Nat} {P : PV → Prop} : (bltM .ord [.str [c]] P) = P (.int c) := rfl
theorem bltM_sum {xs : List PV} {P : PV → Prop} : (bltM .sum [.list xs] P) = (∃ ns : List Int, xs = ns.map .int ∧ P (.int ns.sum)) := rfl
theorem bltM_list {xs : List PV} {P : PV → Prop} : (bltM .list [.list xs] P) = (xs.length ≤ 16777216 ∧ P (.list xs)) := rfl
theorem bltM_maxL {xs : List PV} {P : PV → Prop} : (bltM .max [.list xs] P) = (∃ ns : List Int, xs = ns.map .int ∧ ns ≠ [] ∧ ∀ m, m ∈ ns → (∀ x ∈ ns, x ≤ m) → P (.int m)) := rfl
theorem strK_str {xs : List Nat} {P : List Nat → Prop} : (strK (.str xs) P) = (xs.length ≤ 16777216 ∧ P xs) := rfl
theorem methM_rstrip {a b : List Nat} {P : PV → Prop} : (methM "rstrip" a (.str b) P) = P (.str (rstripS a b)) := propext
  ⟨fun h => by
    rcases h with ⟨_, b', h2, h3⟩ | ⟨h, _⟩
    · cases h2; exact h3
    · exact absurd h (by decide), fun h => .inl ⟨rfl, _, rfl, h⟩⟩
theorem methM_join {x : PV} {P : PV → Prop} : (methM "join" [] x P) = (∃ ss : List (List Nat), x = .list (ss.map .str) ∧ (ss.map (·.length)).sum + ss.length ≤ 1048576 ∧ P (.str ss.flatten)) := propext
  ⟨fun h => by
    rcases h with ⟨h, _⟩ | ⟨_, ss, h1, h2⟩
    · exact absurd h (by decide)
    · exact ⟨ss, h2⟩, fun ⟨ss, h⟩ => .inr ⟨rfl, ss, rfl, h⟩⟩
theorem sliceM_str {xs : List Nat} {lo hi : Option Int} {P : PV → Prop} : (sliceM (.str xs) lo hi P) = (xs.length ≤ 16777216 ∧ P (.str (cut xs lo hi))) := rfl
theorem itemM_str {xs : List Nat} {i : Int} {P : PV → Prop} : (itemM (.str xs) (.int i) P) = (xs.length ≤ 16777216 ∧ ∃ v, (if 0 ≤ i then xs[i.toNat]? else if -(xs.length : Int) ≤ i then xs[(i + xs.length).toNat]? else Option.none) = some v ∧ P (.str [v])) := rfl
theorem itemM_dict {kvs : List (List Nat × PV)} {k : List Nat} {P : PV → Prop} : (itemM (.dict kvs) (.str k) P) = (∃ v, dget k kvs = some v ∧ P v) := rfl
theorem cmpM_InS {c : Nat} {ys : List Nat} {P : Bool → Prop} : (cmpM .In (.str [c]) (.str ys) P) = P (decide (c ∈ ys)) := rfl
theorem cmpM_NotInS {c : Nat} {ys : List Nat} {P : Bool → Prop} : (cmpM .NotIn (.str [c]) (.str ys) P) = P (!decide (c ∈ ys)) := rfl
theorem cmpM_LtS {a b : List Nat} {P : Bool → Prop} : (cmpM .Lt (.str a) (.str b) P) = P (decide (a < b)) := rfl
theorem cmpM_GtS {a b : List Nat} {P : Bool → Prop} : (cmpM .Gt (.str a) (.str b) P) = P (decide (b < a)) := rfl
theorem cmpM_IsNN {P : Bool → Prop} : (cmpM .Is .none .none P) = P true := rfl
theorem cmpM_IsIN {a : Int} {P : Bool → Prop} : (cmpM .Is (.int a) .none P) = P false := rfl
theorem cmpM_IsNotNN {P : Bool → Prop} : (cmpM .IsNot .none .none P) = P false := rfl
theorem cmpM_IsNotIN {a : Int} {P : Bool → Prop} : (cmpM .IsNot (.int a) .none P) = P true := rfl
theorem partK_none {P : Option Int → Prop} : (partK .none P) = P Option.none := rfl
theorem partK_int {i : Int} {P : Option Int → Prop} : (partK (.int i) P) = P (some i) := rfl
theorem sliceM_list {xs : List PV} {lo hi : Option Int} {P : PV → Prop} : (sliceM (.list xs) lo hi P) = (xs.length ≤ 16777216 ∧ P (.list (cut xs lo hi))) := rfl
theorem itemM_list {xs : List PV} {i : Int} {P : PV → Prop} : (itemM (.list xs) (.int i) P) = (xs.length ≤ 16777216 ∧ ∃ v, (if 0 ≤ i then xs[i.toNat]? else if -(xs.length : Int) ≤ i then xs[(i + xs.length).toNat]? else Option.none) = some v ∧ P v) := rfl
theorem bltM_abs {a : Int} {P : PV → Prop} : (bltM .abs [.int a] P) = P (.int (if a < 0 then -a else a)) := rfl
theorem bltM_len {xs : List PV} {P : PV → Prop} : (bltM .len [.list xs] P) = (xs.length ≤ 16777216 ∧ P (.int xs.length)) := rfl
theorem bltM_range {n : Int} {P : PV → Prop} : (bltM .range [.int n] P) = (n ≤ 16777216 ∧ -16777216 ≤ n ∧ P (.range 0 n)) := rfl
theorem bltM_max {a b : Int} {P : PV → Prop} : (bltM .max [.int a, .int b] P) = P (.int (if a < b then b else a)) := rfl
theorem bltM_divmod {a b : Int} {P : PV → Prop} : (bltM .divmod [.int a, .int b] P) = (b ≠ 0 ∧ Builtin.divisionGoesByPylong a b = false ∧ P (.tuple [.int (a.fdiv b), .int (a.fmod b)])) := rfl
theorem bltM_range2 {a b : Int} {P : PV → Prop} : (bltM .range [.int a, .int b] P) = (a ≤ b ∧ b - a ≤ 16777216 ∧ P (.range a b)) := rfl
theorem binM_Add {a b : Int} {P : PV → Prop} : (binM .Add (.int a) (.int b) P) = P (.int (a + b)) := rfl
theorem binM_Sub {a b : Int} {P : PV → Prop} : (binM .Sub (.int a) (.int b) P) = P (.int (a - b)) := rfl
theorem binM_Mult {a b : Int} {P : PV → Prop} : (binM .Mult (.int a) (.int b) P) = (IntMulOk a b ∧ P (.int (a * b))) := rfl
theorem binM_FloorDiv {a b : Int} {P : PV → Prop} : (binM .FloorDiv (.int a) (.int b) P) = (b ≠ 0 ∧ Builtin.divisionGoesByPylong a b = false ∧ P (.int (a.fdiv b))) := rfl
theorem binM_Mod {a b : Int} {P : PV → Prop} : (binM .Mod (.int a) (.int b) P) = (b ≠ 0 ∧ P (.int (a.fmod b))) := rfl
theorem binM_Pow {a b : Int} {P : PV → Prop} : (binM .Pow (.int a) (.int b) P) = (0 ≤ b ∧ (bits a : Int) * b ≤ 2 ^ 27 ∧ P (.int (a ^ b.toNat))) := rfl
theorem binM_LShift {a b : Int} {P : PV → Prop} : (binM .LShift (.int a) (.int b) P) = (0 ≤ b ∧ (bits a : Int) + b ≤ 2 ^ 27 ∧ P (.int (a * 2 ^ b.toNat))) := rfl
theorem binM_RShift {a b : Int} {P : PV → Prop} : (binM .RShift (.int a) (.int b) P) = (0 ≤ b ∧ P (.int (a.fdiv (2 ^ b.toNat)))) := rfl
theorem binM_BitAnd {a b : Int} {P : PV → Prop} : (binM .BitAnd (.int a) (.int b) P) = P (.int (Builtin.bitAnd a b)) := rfl
theorem binM_AddB {a : Int} {b : Bool} {P : PV → Prop} : (binM .Add (.int a) (.bool b) P) = P (.int (a + if b = true then 1 else 0)) := rfl
theorem binM_AddS {a b : List Nat} {P : PV → Prop} : (binM .Add (.str a) (.str b) P) = (a.length + b.length ≤ 16777216 ∧ P (.str (a ++ b))) := rfl
theorem binM_AddL {a b : List PV} {P : PV → Prop} : (binM .Add (.list a) (.list b) P) = (a.length + b.length ≤ 16777216 ∧ P (.list (a ++ b))) := rfl
theorem binM_MultS {a : List Nat} {b : Int} {P : PV → Prop} : (binM .Mult (.str a) (.int b) P) = (a.length ≤ 16 ∧ b ≤ 1048576 ∧ -1048576 ≤ b ∧ P (.str (List.replicate b.toNat a).flatten)) := rfl
theorem cmpM_EqL {xs ys : List PV} {P : Bool → Prop} : (cmpM .Eq (.list xs) (.list ys) P) = eqK (eqV (.list xs) (.list ys)) P := rfl
theorem cmpM_NotEqL {xs ys : List PV} {P : Bool → Prop} : (cmpM .NotEq (.list xs) (.list ys) P) = eqK (eqV (.list xs) (.list ys)) (fun c => P (!c)) := rfl
theorem cmpM_EqB {a b : Bool} {P : Bool → Prop} : (cmpM .Eq (.bool a) (.bool b) P) = P (a == b) := rfl
theorem cmpM_NotEqB {a b : Bool} {P : Bool → Prop} : (cmpM .NotEq (.bool a) (.bool b) P) = P (!(a == b)) := rfl
theorem cmpM_EqS {a b : List Nat} {P : Bool → Prop} : (cmpM .Eq (.str a) (.str b) P) = P (a == b) := rfl
theorem cmpM_NotEqS {a b : List Nat} {P : Bool → Prop} : (cmpM .NotEq (.str a) (.str b) P) = P (!(a == b)) := rfl
theorem cmpM_EqNN {P : Bool → Prop} : (cmpM .Eq .none .none P) = P true := rfl
theorem cmpM_EqNI {a : Int} {P : Bool → Prop} : (cmpM .Eq .none (.int a) P) = P false := rfl
theorem cmpM_EqIN {a : Int} {P : Bool → Prop} : (cmpM .Eq (.int a) .none P) = P false := rfl
theorem cmpM_NotEqNN {P : Bool → Prop} : (cmpM .NotEq .none .none P) = P false := rfl
theorem cmpM_NotEqNI {a : Int} {P : Bool → Prop} : (cmpM .NotEq .none (.int a) P) = P true := rfl
theorem cmpM_NotEqIN {a : Int} {P : Bool → Prop} : (cmpM .NotEq (.int a) .none P) = P true := rfl
theorem cmpM_InL {x : PV} {ys : List PV} {P : Bool → Prop} : (cmpM .In x (.list ys) P) = eqK (inV x ys) P := rfl
theorem cmpM_NotInL {x : PV} {ys : List PV} {P : Bool → Prop} : (cmpM .NotIn x (.list ys) P) = eqK (inV x ys) (fun c => P (!c)) := rfl
theorem cmpM_Eq {a b : Int} {P : Bool → Prop} : (cmpM .Eq (.int a) (.int b) P) = P (a == b) := rfl
theorem cmpM_NotEq {a b : Int} {P : Bool → Prop} : (cmpM .NotEq (.int a) (.int b) P) = P (a != b) := rfl
theorem cmpM_Lt {a b : Int} {P : Bool → Prop} : (cmpM .Lt (.int a) (.int b) P) = P (decide (a < b)) := rfl
theorem cmpM_LtE {a b : Int} {P : Bool → Prop} : (cmpM .LtE (.int a) (.int b) P) = P (decide (a ≤ b)) := rfl
theorem cmpM_Gt {a b : Int} {P : Bool → Prop} : (cmpM .Gt (.int a) (.int b) P) = P (decide (b < a)) := rfl
theorem cmpM_GtE {a b : Int} {P : Bool → Prop} : (cmpM .GtE (.int a) (.int b) P) = P (decide (b ≤ a)) := rfl
theorem turnK_next {σ : List Slot} {Q : MFlow → List Slot → Prop} {G : Prop} : (turnK .next σ Q G) = G := rfl
theorem turnK_cont {σ : List Slot} {Q : MFlow → List Slot → Prop} {G : Prop} : (turnK .cont σ Q G) = G := rfl
theorem turnK_brk {σ : List Slot} {Q : MFlow → List Slot → Prop} {G : Prop} : (turnK .brk σ Q G) = Q .next σ := rfl
theorem turnK_ret {v : PV} {σ : List Slot} {Q : MFlow → List Slot → Prop} {G : Prop} : (turnK (.ret v) σ Q G) = Q (.ret v) σ := rfl
theorem seqK_next {σ : List Slot} {Q : MFlow → List Slot → Prop} {G : Prop} : (seqK .next σ Q G) = G := rfl
theorem seqK_cont {σ : List Slot} {Q : MFlow → List Slot → Prop} {G : Prop} : (seqK .cont σ Q G) = Q .cont σ := rfl
theorem seqK_brk {σ : List Slot} {Q : MFlow → List Slot → Prop} {G : Prop} : (seqK .brk σ Q G) = Q .brk σ := rfl
theorem seqK_ret {v : PV} {σ : List Slot} {Q : MFlow → List Slot → Prop} {G : Prop} : (seqK (.ret v) σ Q G) = Q (.ret v) σ := rfl
theorem stops_And {b : Bool} : (stops .And b) = (!b) := rfl
theorem stops_Or {b : Bool} : (stops .Or b) = b := rfl
end Mine
end part_W1
section part_W2
set_option Elab.async false
set_option maxRecDepth 10000
set_option linter.unusedVariables false
namespace Mine
open PySem PySem.W PyProof.Rows

noncomputable def Ghost (prog : Program) (w : World) := Addr → Option Obj

mutual
/-- value v stands for the pure value, its objects looked up in g -/
inductive Rep (g : Ghost prog w) : Value → PV → Prop
  | none : Rep g .none .none
  | bool (b : Bool) : Rep g (.bool b) (.bool b)
  | int (i : Int) (t : Tok) : Rep g (.int i t) (.int i)
  | str (xs : List Nat) (t : Tok) : Rep g (.str ⟨xs.toArray⟩ t) (.str xs)
  | list {a : Addr} {o : Obj} {vs : List Value} {n : Nat} {xs : List PV} : g a = some o → o.cls = .type "list" → o.data = .seq vs.toArray n → RepL g vs xs → Rep g (.ref a) (.list xs)
  | tuple {a : Addr} {o : Obj} {vs : List Value} {n : Nat} {xs : List PV} : g a = some o → o.cls = .type "tuple" → o.data = .seq vs.toArray n → RepL g vs xs → Rep g (.ref a) (.tuple xs)
  | range {a : Addr} {lo hi : Int} {t u v : Tok} : g a = some { cls := .type "range", dict := Option.none, data := .fields #[.int lo t, .int hi u, .int 1 v], slots := #[] } → Rep g (.ref a) (.range lo hi)
  | type (n : String) : Rep g (.type n) (.type n)
  | dict {a : Addr} {o : Obj} {kvs : List (Str × Value)} {xs : List (List Nat × PV)} : g a = some o → o.IsDictOf (PySem.strKind prog w) kvs → kvs.map (·.1) = xs.map (fun p => (⟨p.1.toArray⟩ : Str)) → RepL g (kvs.map (·.2)) (xs.map (·.2)) → Rep g (.ref a) (.dict xs)
inductive RepL (g : Ghost prog w) : List Value → List PV → Prop
  | nil : RepL g [] []
  | cons {v : Value} {p : PV} {vs : List Value} {ps : List PV} : Rep g v p → RepL g vs ps → RepL g (v :: vs) (p :: ps)
end

noncomputable def Le (g g' : Ghost prog w) : Prop := ∀ b o, g b = some o → g' b = some o
theorem Le.refl (g : Ghost prog w) : Le g g := fun _ _ e => e
theorem Le.trans {a b c : Ghost prog w} (h : Le a b) (k : Le b c) : Le a c := fun x o e => k x o (h x o e)

mutual
theorem Rep.mono {g g' : Ghost prog w} (h : Le g g') : ∀ {v p}, Rep g v p → Rep g' v p
  | _, _, .none => .none
  | _, _, .bool b => .bool b
  | _, _, .int i t => .int i t
  | _, _, .str xs t => .str xs t
  | _, _, .list e c d r => .list (h _ _ e) c d (RepL.mono h r)
  | _, _, .tuple e c d r => .tuple (h _ _ e) c d (RepL.mono h r)
  | _, _, .range e => .range (h _ _ e)
  | _, _, .type n => .type n
  | _, _, .dict e d k r => .dict (h _ _ e) d k (RepL.mono h r)
theorem RepL.mono {g g' : Ghost prog w} (h : Le g g') : ∀ {v p}, RepL g v p → RepL g' v p
  | _, _, .nil => .nil
  | _, _, .cons a b => .cons (Rep.mono h a) (RepL.mono h b)
end

theorem Rep.intI {g : Ghost prog w} {v : Value} {i : Int} (h : Rep g v (.int i)) : ∃ t, v = .int i t := by cases h; exact ⟨_, rfl⟩
theorem Rep.strI {g : Ghost prog w} {v : Value} {i : List Nat} (h : Rep g v (.str i)) : ∃ t, v = .str ⟨i.toArray⟩ t := by cases h; exact ⟨_, rfl⟩
theorem Rep.boolI {g : Ghost prog w} {v : Value} {i : Bool} (h : Rep g v (.bool i)) : v = .bool i := by cases h; rfl
theorem Rep.noneI {g : Ghost prog w} {v : Value} (h : Rep g v .none) : v = .none := by cases h; rfl
theorem Rep.listI {g : Ghost prog w} {v : Value} {xs : List PV} (h : Rep g v (.list xs)) : ∃ a o vs n, v = .ref a ∧ g a = some o ∧ o.cls = .type "list" ∧ o.data = .seq vs.toArray n ∧ RepL g vs xs := by cases h; exact ⟨_, _, _, _, rfl, ‹_›, ‹_›, ‹_›, ‹_›⟩
theorem RepL.nilI {g : Ghost prog w} {vs : List Value} (h : RepL g vs []) : vs = [] := by cases h; rfl
theorem RepL.consI {g : Ghost prog w} {vs : List Value} {p : PV} {ps : List PV} (h : RepL g vs (p :: ps)) : ∃ v us, vs = v :: us ∧ Rep g v p ∧ RepL g us ps := by cases h; exact ⟨_, _, rfl, ‹_›, ‹_›⟩
theorem RepL.length {g : Ghost prog w} {vs : List Value} {ps : List PV} (h : RepL g vs ps) : vs.length = ps.length := by
  induction ps generalizing vs with
  | nil => rw [h.nilI]; rfl
  | cons p ps ih => obtain ⟨v, us, rfl, _, r⟩ := h.consI; rw [List.length_cons, List.length_cons, ih r]
theorem RepL.get {g : Ghost prog w} {vs : List Value} {ps : List PV} (h : RepL g vs ps) (i : Nat) (p : PV) (e : ps[i]? = some p) : ∃ v, vs[i]? = some v ∧ Rep g v p := by
  induction ps generalizing vs i with
  | nil => cases e
  | cons q ps ih =>
    obtain ⟨v, us, rfl, a, r⟩ := h.consI
    cases i with
    | zero => cases e; exact ⟨_, rfl, a⟩
    | succ i => exact ih r i e
theorem RepL.get' {g : Ghost prog w} {vs : List Value} {ps : List PV} (h : RepL g vs ps) (i : Nat) (v : Value) (e : vs[i]? = some v) : ∃ p, ps[i]? = some p ∧ Rep g v p := by
  have hl := h.length
  have hi : i < ps.length := by rw [← hl]; exact (List.getElem?_eq_some_iff.mp e).1
  have e2 : ps[i]? = some ps[i] := by simp [hi]
  obtain ⟨u, e3, r⟩ := h.get i _ e2
  rw [e] at e3
  cases e3
  exact ⟨_, e2, r⟩
theorem RepL.append {g : Ghost prog w} {vs : List Value} {ps : List PV} {ws : List Value} {qs : List PV} (h : RepL g vs ps) (k : RepL g ws qs) : RepL g (vs ++ ws) (ps ++ qs) := by
  induction ps generalizing vs with
  | nil => rw [h.nilI]; exact k
  | cons p ps ih => obtain ⟨v, us, rfl, a, r⟩ := h.consI; exact .cons a (ih r)
theorem RepL.take {g : Ghost prog w} {vs : List Value} {ps : List PV} (h : RepL g vs ps) (n : Nat) : RepL g (vs.take n) (ps.take n) := by
  induction ps generalizing vs n with
  | nil => rw [h.nilI, List.take_nil, List.take_nil]; exact .nil
  | cons p ps ih =>
    obtain ⟨v, us, rfl, a, r⟩ := h.consI
    cases n with
    | zero => exact .nil
    | succ n => exact .cons a (ih r n)
theorem RepL.drop {g : Ghost prog w} {vs : List Value} {ps : List PV} (h : RepL g vs ps) (n : Nat) : RepL g (vs.drop n) (ps.drop n) := by
  induction ps generalizing vs n with
  | nil => rw [h.nilI, List.drop_nil, List.drop_nil]; exact .nil
  | cons p ps ih =>
    obtain ⟨v, us, rfl, a, r⟩ := h.consI
    cases n with
    | zero => exact .cons a r
    | succ n => exact ih r n
theorem RepL.reverse {g : Ghost prog w} {vs : List Value} {ps : List PV} (h : RepL g vs ps) : RepL g vs.reverse ps.reverse := by
  induction ps generalizing vs with
  | nil => rw [h.nilI]; exact .nil
  | cons p ps ih => obtain ⟨v, us, rfl, a, r⟩ := h.consI; rw [List.reverse_cons, List.reverse_cons]; exact (ih r).append (.cons a .nil)

theorem rep_dget {g : Ghost prog w} {k : List Nat} {p : PV} : ∀ {kvs : List (Str × Value)} {xs : List (List Nat × PV)}, kvs.map (·.1) = xs.map (fun p => (⟨p.1.toArray⟩ : Str)) → RepL g (kvs.map (·.2)) (xs.map (·.2)) → dget k xs = some p →
    ∃ v, valueAt kvs ⟨k.toArray⟩ = some v ∧ Rep g v p
  | [], [], _, _, h => by cases h
  | (a, v) :: kvs, (x, q) :: xs, h, r, hd => by
    simp only [List.map_cons, List.cons.injEq] at h
    obtain ⟨h1, h2⟩ := h
    cases r with | cons r rs =>
    unfold valueAt
    rw [List.find?_cons]
    simp only [dget] at hd
    by_cases hx : x = k
    · rw [if_pos hx] at hd; cases hd
      subst hx
      simp only [h1, decide_true]
      exact ⟨v, rfl, r⟩
    · rw [if_neg hx] at hd
      have hne : decide (a = (⟨k.toArray⟩ : Str)) = false := by
        rw [decide_eq_false_iff_not]
        intro e
        rw [h1] at e
        apply hx
        have := congrArg (fun s : Str => s.cps.toList) e
        simpa using this
      simp only [hne]
      exact rep_dget h2 rs hd
  | [], _ :: _, h, _, _ => by simp at h
  | _ :: _, [], h, _, _ => by simp at h

noncomputable def Keep (g : Ghost prog w) (h : Heap) : Prop := ∀ b o, g b = some o → h.get? b = some o

structure Step (s : Shared) (g : Ghost prog w) (s' : Shared) (g' : Ghost prog w) : Prop where
  keeps : Keeps s s'
  le : Le g g'
  new : ∀ b, g b = Option.none → g' b ≠ Option.none → s.heap.get? b = Option.none
  keep : Keep g' s'.heap

theorem Keeps.up {s s' : Shared} (h : Keeps s s') : ∀ b o, s.heap.get? b = some o → s'.heap.get? b = some o := by
  obtain ⟨h', tk, rfl, hk⟩ := h; exact hk
theorem Keeps.rfl' (s : Shared) : Keeps s s := ⟨s.heap, s.toks, rfl, fun _ _ e => e⟩
theorem Keeps.trans' {a b c : Shared} (h : Keeps a b) (k : Keeps b c) : Keeps a c := by
  obtain ⟨h', tk, rfl, hk⟩ := h
  obtain ⟨h'', tk', rfl, hk'⟩ := k
  exact ⟨h'', tk', rfl, fun b o e => hk' b o (hk b o e)⟩

theorem Step.refl {s : Shared} {g : Ghost prog w} (k : Keep g s.heap) : Step s g s g := ⟨Keeps.rfl' s, Le.refl g, fun b h h' => absurd h h', k⟩
theorem Step.trans {s s' s'' : Shared} {g g' g'' : Ghost prog w} (a : Step s g s' g') (b : Step s' g' s'' g'') : Step s g s'' g'' :=
  ⟨Keeps.trans' a.keeps b.keeps, a.le.trans b.le, fun x h h' => by
    cases e : g' x with
    | none =>
      have := b.new x e h'
      cases e2 : s.heap.get? x with
      | none => rfl
      | some o => rw [Keeps.up a.keeps x o e2] at this; cases this
    | some o => exact a.new x h (by rw [e]; simp), b.keep⟩

/-- only tokens are new -/
theorem Step.toks {s : Shared} {g : Ghost prog w} (k : Keep g s.heap) (t : Nat) : Step s g { s with toks := t } g :=
  ⟨⟨s.heap, t, rfl, fun _ _ e => e⟩, Le.refl g, fun b h h' => absurd h h', k⟩
theorem Step.keeps0 {s s' : Shared} {g : Ghost prog w} (k : Keep g s.heap) (h : Keeps s s') : Step s g s' g :=
  ⟨h, Le.refl g, fun b h h' => absurd h h', fun b o e => Keeps.up h b o (k b o e)⟩

theorem fresh_none (h : Heap) : h.get? h.objs.size = Option.none := by
  cases e : h.get? h.objs.size with
  | none => rfl
  | some o => exact absurd (Heap.lt_size e) (Nat.lt_irrefl _)

noncomputable def putG (g : Ghost prog w) (a : Addr) (o : Obj) : Ghost prog w := fun b => if b = a then some o else g b

/-- a heap in which one new object stands besides -/
theorem Step.add {s s' : Shared} {g : Ghost prog w} (k : Keep g s.heap) (h : Keeps s s') {a : Addr} {o : Obj} (ha : s.heap.get? a = Option.none) (ho : s'.heap.get? a = some o) : Step s g s' (putG g a o) := by
  have hga : g a = Option.none := by
    cases e : g a with
    | none => rfl
    | some o' => rw [k a o' e] at ha; cases ha
  refine ⟨h, fun b o' e => ?_, fun b h1 h2 => ?_, fun b o' e => ?_⟩
  · unfold putG; rw [if_neg (by rintro rfl; rw [hga] at e; cases e)]; exact e
  · unfold putG at h2
    by_cases hb : b = a
    · rw [hb]; exact ha
    · rw [if_neg hb] at h2; exact absurd h1 h2
  · unfold putG at e
    by_cases hb : b = a
    · rw [if_pos hb] at e; cases e; rw [hb]; exact ho
    · rw [if_neg hb] at e; exact Keeps.up h b o' (k b o' e)
theorem putG_self (g : Ghost prog w) (a : Addr) (o : Obj) : putG g a o a = some o := by simp [putG]

theorem Step.push {s : Shared} {g : Ghost prog w} (k : Keep g s.heap) (o : Obj) (hf : o.isFreed = false := by rfl) (t : Nat) : Step s g { s with heap := s.heap.push o, toks := t } (putG g s.heap.objs.size o) :=
  Step.add k ⟨_, _, rfl, fun _ _ e => Heap.get?_push_of_some _ e⟩ (fresh_none _) (Heap.get?_push_size _ hf)

/-- where a name's value stands -/
noncomputable def VarAt (h : Heap) (env : Env) (x : Str) (v : Value) : Prop :=
  (env.kindOf x = some .local ∧ ∃ m, h.Ns env.locals m ∧ m x = some v) ∨
  ((env.kindOf x = some .cell ∨ env.kindOf x = some .free) ∧ ∃ c, env.cells.lookup x = some c ∧ h.IsCell c (some v))

theorem VarAt.keeps {h h' : Heap} {env : Env} {x : Str} {v : Value} (k : ∀ b o, h.get? b = some o → h'.get? b = some o) (H : VarAt h env x v) : VarAt h' env x v := by
  rcases H with ⟨a, m, n, e⟩ | ⟨a, c, e, i⟩
  · exact .inl ⟨a, m, n.keeps k, e⟩
  · exact .inr ⟨a, c, e, i.keeps k⟩

noncomputable def nameAt (nm : List (Option Str)) (j : Nat) : Option Str := nm.getD j Option.none

noncomputable def SlotOK (h : Heap) (g k : Ghost prog w) (env : Env) (x : Str) : Slot → Prop
  | .no => True
  | .val p => ∃ v, VarAt h env x v ∧ Rep g v p
  | .own xs => ∃ a vs, VarAt h env x (.ref a) ∧ h.PlainList a vs.toArray ∧ g a = Option.none ∧ k a = Option.none ∧ RepL g vs xs

theorem Step.still {s s' : Shared} {g g' : Ghost prog w} (S : Step s g s' g') {a : Addr} {o : Obj} (h : s.heap.get? a = some o) (n : g a = Option.none) : g' a = Option.none := by
  cases e2 : g' a with
  | none => rfl
  | some o' =>
    have := S.new a n (by rw [e2]; simp)
    rw [h] at this; cases this

theorem SlotOK.step {s s' : Shared} {g g' k : Ghost prog w} {env : Env} {x : Str} {sl : Slot} (S : Step s g s' g') (H : SlotOK s.heap g k env x sl) : SlotOK s'.heap g' k env x sl := by
  cases sl with
  | no => exact trivial
  | val p => obtain ⟨v, a, b⟩ := H; exact ⟨v, a.keeps (Keeps.up S.keeps), b.mono S.le⟩
  | own xs =>
    obtain ⟨a, vs, e, p, n, n', r⟩ := H
    refine ⟨a, vs, e.keeps (Keeps.up S.keeps), p.at fun o e => Keeps.up S.keeps _ o e, ?_, n', r.mono S.le⟩
    obtain ⟨_, hp⟩ := p
    exact S.still hp n

/-- the ground that the text's own run has laid -/
structure Gnd (mg mb : Str → Option Value) (B : Heap) : Prop where
  g : B.Ns mainGlobals mg
  b : B.Ns builtinsNs mb
  lim : B.NoLimit
  boot : ∀ x : Str, x ≠ "__name__" → mb x = bootBuiltins x

structure EnvOK (B : Heap) (sc : Scope) (nm : List (Option Str)) (env : Env) (k : Ghost prog w) (σ : List Slot) (g : Ghost prog w) (s : Shared) : Prop where
  base : ∀ b o, B.get? b = some o → g b = some o
  keep : Keep g s.heap
  glob : env.globals = mainGlobals
  blt : env.builtins = builtinsNs
  kind : env.scope.kind = .function
  names : ∀ x, sc.names.lookup x = some .globalImplicit → env.kindOf x = some .globalImplicit
  locs : ∀ x, sc.names.lookup x = some .local → env.kindOf x = some .local
  cells : ∀ x, sc.names.lookup x = some .cell ∨ sc.names.lookup x = some .free → (env.kindOf x = some .cell ∨ env.kindOf x = some .free) ∧ (env.cells.lookup x).isSome = true
  vals : ∀ j x, nameAt nm j = some x → SlotOK s.heap g k env x (getS σ j)

theorem EnvOK.step {B : Heap} {sc : Scope} {nm : List (Option Str)} {env : Env} {k : Ghost prog w} {σ : List Slot} {g g' : Ghost prog w} {s s' : Shared} (H : EnvOK B sc nm env k σ g s) (S : Step s g s' g') : EnvOK B sc nm env k σ g' s' :=
  { H with base := fun b o e => S.le b o (H.base b o e), keep := S.keep, vals := fun j x e => (H.vals j x e).step S }

theorem EnvOK.up {B : Heap} {sc : Scope} {nm : List (Option Str)} {env : Env} {k : Ghost prog w} {σ : List Slot} {g : Ghost prog w} {s : Shared} (H : EnvOK B sc nm env k σ g s) : ∀ b o, B.get? b = some o → s.heap.get? b = some o :=
  fun b o e => H.keep b o (H.base b o e)

/-- room on the stack for d more calls -/
structure Room (d : Nat) (A : Around) : Prop where
  handled : A.handled = Option.none
  depth : A.depth + d < 600
  units : A.units + 40 * d < 5000

theorem Room.in1 {d : Nat} {A : Around} (h : Room (d + 1) A) : Room d A.in1 := ⟨h.handled, by have := h.depth; show A.depth + d < 600; omega, by have := h.units; show A.units + 1 + 40 * d < 5000; omega⟩
theorem Room.less {d : Nat} {A : Around} (h : Room (d + 1) A) : Room d A := ⟨h.handled, by have := h.depth; omega, by have := h.units; omega⟩
theorem Room.deeper {d : Nat} {A : Around} (h : Room (d + 1) A) (env : Env) : Room d (A.deeper env) := ⟨h.handled, by have := h.depth; show A.depth + 1 + d < 600; omega, by have := h.units; show A.units + 3 + 40 * d < 5000; omega⟩

noncomputable def Post (s : Shared) (g : Ghost prog w) (P : PV → Prop) (v : Value) (s' : Shared) : Prop := ∃ g' p, Step s g s' g' ∧ Rep g' v p ∧ P p
noncomputable def PostB (s : Shared) (g : Ghost prog w) (P : Bool → Prop) (b : Bool) (s' : Shared) : Prop := ∃ g', Step s g s' g' ∧ P b
noncomputable def PostL (s : Shared) (g : Ghost prog w) (P : List PV → Prop) (vs : List Value) (s' : Shared) : Prop := ∃ g' ps, Step s g s' g' ∧ RepL g' vs ps ∧ P ps

theorem Post.at {s s' s'' : Shared} {g g' : Ghost prog w} {P : PV → Prop} {v : Value} (S : Step s g s' g') (h : Post s' g' P v s'') : Post s g P v s'' := by
  obtain ⟨g'', p, a, b, c⟩ := h; exact ⟨g'', p, S.trans a, b, c⟩
theorem PostB.at {s s' s'' : Shared} {g g' : Ghost prog w} {P : Bool → Prop} {v : Bool} (S : Step s g s' g') (h : PostB s' g' P v s'') : PostB s g P v s'' := by
  obtain ⟨g'', a, c⟩ := h; exact ⟨g'', S.trans a, c⟩
theorem PostL.at {s s' s'' : Shared} {g g' : Ghost prog w} {P : List PV → Prop} {v : List Value} (S : Step s g s' g') (h : PostL s' g' P v s'') : PostL s g P v s'' := by
  obtain ⟨g'', p, a, b, c⟩ := h; exact ⟨g'', p, S.trans a, b, c⟩

section ops
variable {prog : Program} {w : World} {A : Around} {E : Value → Shared → Prop} {s : Shared} {g : Ghost prog w}

theorem Post.toks {P : PV → Prop} {v : Value} {p : PV} (k : Keep g s.heap) (t : Nat) (r : Rep g v p) (h : P p) : Post s g P v { s with toks := t } := ⟨g, p, Step.toks k t, r, h⟩

theorem list_isList {h : Heap} (k : Keep g h) {a : Addr} {o : Obj} {vs : List Value} {n : Nat} (e : g a = some o) (c : o.cls = .type "list") (d : o.data = .seq vs.toArray n) : h.IsList a vs.toArray :=
  ⟨o, k a o e, c, n, d⟩
theorem tuple_isTup {h : Heap} (k : Keep g h) {a : Addr} {o : Obj} {vs : List Value} {n : Nat} (e : g a = some o) (c : o.cls = .type "tuple") (d : o.data = .seq vs.toArray n) : IsTup h a vs.toArray :=
  ⟨o, k a o e, c, n, d⟩

theorem list_at {h : Heap} {a : Addr} {xs : Array Value} (hl : h.IsList a xs) : ∃ d n sl, h.get? a = some { cls := .type "list", dict := d, data := .seq xs n, slots := sl } := by
  obtain ⟨o, ho, hc, n, hd⟩ := hl
  exact ⟨o.dict, n, o.slots, by rw [ho, ← hc, ← hd]⟩
theorem add_lists' {l b : Addr} {vs ws : List Value} {Q : Value → Shared → Prop} (hl : s.heap.IsList l vs.toArray) (hb : s.heap.IsList b ws.toArray)
    (h : Q (.ref s.heap.objs.size) { s with heap := s.heap.push { cls := .type "list", data := .seq (vs ++ ws).toArray } }) (hsz : vs.length + ws.length ≤ sizeLine) :
    wpAny (model prog w) A (binaryOp .Add (.ref l) (.ref b)) Q E s := by
  have e : vs.toArray ++ ws.toArray = (vs ++ ws).toArray := by simp
  rw [← e] at h
  obtain ⟨d, n, sl, el⟩ := list_at hl
  obtain ⟨d', n', sl', eb⟩ := list_at hb
  have sum := list_addW l b vs.toArray ws.toArray n n' d d' sl sl' (show vs.length + ws.length ≤ sizeLine from hsz)
  exact concat_meets ⟨_, el, rfl⟩ ⟨_, eb, rfl⟩ noFill_list_add seq_list_add PySem.F.slot_list_add PySem.F.entry_list_add (PySem.F.args_list_add_2 _ _) sum ⟨el, eb, h⟩

theorem size16 {n : Nat} (h : n ≤ 16777216) : n ≤ sizeLine := by rw [sizeLine_eq]; exact h

theorem foldl_arr (xs : List Nat) : ∀ (k : Nat) (acc : Array Nat), (List.replicate k xs.toArray).foldl (· ++ ·) acc = acc ++ (List.replicate k xs).flatten.toArray
  | 0, acc => by simp
  | k + 1, acc => by
    rw [List.replicate_succ, List.foldl_cons, foldl_arr xs k, List.replicate_succ, List.flatten_cons]
    simp
theorem txt_mul (xs : List Nat) (n : Int) : Txt.mul ⟨xs.toArray⟩ n = ⟨(List.replicate n.toNat xs).flatten.toArray⟩ := by
  unfold Txt.mul
  split
  · rename_i h
    have : n.toNat = 0 := by omega
    rw [this]; rfl
  · split
    · rename_i h1 h
      rw [Bool.or_eq_true, beq_iff_eq, beq_iff_eq] at h
      rcases h with h | h
      · subst h; simp
      · have : xs = [] := by
          have e : (⟨xs.toArray⟩ : Str).length = xs.length := by show xs.toArray.size = _; simp
          rw [e] at h
          exact List.length_eq_zero_iff.mp h
        subst this; simp
    · show (⟨(List.replicate n.toNat xs.toArray).foldl (· ++ ·) #[]⟩ : Str) = _
      rw [foldl_arr]; simp

theorem intCmp_is {x y : PV} {K : Int → Int → Prop} (h : intCmp x y K) : ∃ a b, x = .int a ∧ y = .int b ∧ K a b := by
  unfold intCmp at h
  split at h
  · exact ⟨_, _, rfl, rfl, h⟩
  · exact h.elim
theorem numK_is {y : PV} {K : Int → Prop} (h : numK y K) : (∃ b, y = .int b ∧ K b) ∨ (∃ b : Bool, y = .bool b ∧ K (if b = true then 1 else 0)) := by
  cases y <;> first | exact .inl ⟨_, rfl, h⟩ | exact .inr ⟨_, rfl, h⟩ | exact False.elim h
theorem txtK_is {y : PV} {K : List Nat → Prop} (h : txtK y K) : ∃ s, y = .str s ∧ K s := by
  cases y <;> first | exact ⟨_, rfl, h⟩ | exact False.elim h
theorem lstK_is {y : PV} {K : List PV → Prop} (h : lstK y K) : ∃ s, y = .list s ∧ K s := by
  cases y <;> first | exact ⟨_, rfl, h⟩ | exact False.elim h
theorem intK_is {y : PV} {K : Int → Prop} (h : intK y K) : ∃ s, y = .int s ∧ K s := by
  cases y <;> first | exact ⟨_, rfl, h⟩ | exact False.elim h
theorem sound_add {a b : Value} {x y : PV} {P : PV → Prop} (k : Keep g s.heap) (ra : Rep g a x) (rb : Rep g b y) (h : addM x y P) :
    wpAny (model prog w) A (binaryOp .Add a b) (Post s g P) E s := by
  cases ra <;> try exact False.elim h
  · rcases numK_is h with ⟨b, rfl, h⟩ | ⟨b, rfl, h⟩
    · obtain ⟨_, rfl⟩ := rb.intI; exact PyProof.Rows.add_int (Post.toks k _ (.int _ _) h)
    · cases rb.boolI; exact PySem.add_int_bool (Post.toks k _ (.int _ _) h)
  · rename_i xa t
    obtain ⟨xb, rfl, h⟩ := txtK_is h
    obtain ⟨_, rfl⟩ := rb.strI
    refine PyProof.Rows.add_str (fun t' tk => ?_) (by show xa.toArray.size + xb.toArray.size ≤ sizeLine; simpa using size16 h.1)
    have e : (⟨xa.toArray⟩ ++ ⟨xb.toArray⟩ : Str) = ⟨(xa ++ xb).toArray⟩ := by
      show (⟨xa.toArray ++ xb.toArray⟩ : Str) = _; simp
    rw [e]
    exact Post.toks k _ (.str _ _) h.2
  · rename_i e1 c1 d1 r1
    obtain ⟨xb, rfl, h⟩ := lstK_is h
    obtain ⟨_, _, _, _, rfl, e2, c2, d2, r2⟩ := rb.listI
    refine add_lists' (list_isList k e1 c1 d1) (list_isList k e2 c2 d2) ?_ (by rw [r1.length, r2.length]; exact size16 h.1)
    exact ⟨_, _, Step.push k _ rfl _, .list (putG_self _ _ _) rfl rfl ((r1.append r2).mono (Step.push k _ rfl s.toks).le), h.2⟩
theorem sound_mul {a b : Value} {x y : PV} {P : PV → Prop} (k : Keep g s.heap) (ra : Rep g a x) (rb : Rep g b y) (h : mulM x y P) :
    wpAny (model prog w) A (binaryOp .Mult a b) (Post s g P) E s := by
  cases ra <;> try exact False.elim h
  · obtain ⟨b, rfl, h⟩ := intK_is h
    obtain ⟨_, rfl⟩ := rb.intI; exact PyProof.Rows.mul_int (Post.toks k _ (.int _ _) h.2) h.1
  · rename_i xa t
    obtain ⟨b, rfl, h⟩ := intK_is h
    obtain ⟨_, rfl⟩ := rb.intI
    refine SB.mul (mulOk_of 16 1048576 (by show xa.toArray.size ≤ 16; simpa using h.1) h.2.1 (by have := h.2.2.1; omega) (by decide) (by decide)) fun t' tk => ?_
    rw [txt_mul]
    exact Post.toks k _ (.str _ _) h.2.2.2
theorem sound_bin (op : Operator) {a b : Value} {x y : PV} {P : PV → Prop} (k : Keep g s.heap) (ra : Rep g a x) (rb : Rep g b y) (h : binM op x y P) :
    wpAny (model prog w) A (binaryOp op a b) (Post s g P) E s := by
  cases op <;> try exact False.elim h
  case Add => exact sound_add k ra rb h
  case Mult => exact sound_mul k ra rb h
  all_goals
    obtain ⟨i, j, rfl, rfl, h⟩ := intCmp_is h
    obtain ⟨_, rfl⟩ := ra.intI; obtain ⟨_, rfl⟩ := rb.intI
  case Sub => exact PyProof.Rows.sub_int (Post.toks k _ (.int _ _) h)
  case FloorDiv => exact PyProof.Rows.floordiv_int h.1 (Post.toks k _ (.int _ _) h.2.2) (.inl h.2.1)
  case Mod => exact PyProof.Rows.mod_int h.1 (Post.toks k _ (.int _ _) h.2)
  case Pow => exact PyProof.Rows.pow_int h.1 h.2.1 (Post.toks k _ (.int _ _) h.2.2)
  case LShift => exact PyProof.Rows.lshift_int h.1 h.2.1 (Post.toks k _ (.int _ _) h.2.2)
  case RShift => exact PyProof.Rows.rshift_int h.1 (Post.toks k _ (.int _ _) h.2)
  case BitAnd => exact PyProof.Rows.and_int (Post.toks k _ (.int _ _) h)

noncomputable def PostC (s : Shared) (g : Ghost prog w) (P : Bool → Prop) (v : Value) (s' : Shared) : Prop := ∃ g' b, Step s g s' g' ∧ v = .bool b ∧ P b

/-- equality of the plain values themselves -/
noncomputable def eqVal : Value → Value → Bool
  | .int a _, .int b _ => a == b
  | .bool a, .bool b => a == b
  | .str a _, .str b _ => a == b
  | .none, .none => true
  | _, _ => false

theorem str_beq (a b : List Nat) : ((⟨a.toArray⟩ : Str) == ⟨b.toArray⟩) = (a == b) := by
  rw [Bool.eq_iff_iff, beq_iff_eq, beq_iff_eq]
  constructor
  · intro h
    have := congrArg (fun s : Str => s.cps.toList) h
    simpa using this
  · rintro rfl; rfl

theorem eqA_is {a b : Value} {x y : PV} {c : Bool} (ra : Rep g a x) (rb : Rep g b y) (h : eqA x y = some c) : eqVal a b = c ∧ ∀ (A : Around) (s : Shared), SeqAt.EqAt A s a b c ∧ SeqAt.RcAt A s a b c ∧ SeqAt.RcNeAt A s a b (!c) := by
  unfold eqA at h
  split at h
  · obtain ⟨_, rfl⟩ := ra.intI; obtain ⟨_, rfl⟩ := rb.intI; cases h; exact ⟨rfl, fun A s => ⟨SeqAt.EqAt.int_int _ _ _ _, SeqAt.RcAt.int_int _ _ _ _, SeqAt.RcNeAt.int_int _ _ _ _⟩⟩
  · cases ra.boolI; cases rb.boolI; cases h; exact ⟨rfl, fun A s => ⟨SeqAt.EqAt.bool_bool _ _, SeqAt.RcAt.bool_bool _ _, SeqAt.RcNeAt.bool_bool _ _⟩⟩
  · obtain ⟨_, rfl⟩ := ra.strI; obtain ⟨_, rfl⟩ := rb.strI; cases h
    rw [← str_beq]
    exact ⟨rfl, fun A s => ⟨SeqAt.EqAt.str_str _ _ _ _, SeqAt.RcAt.str_str _ _ _ _, SeqAt.RcNeAt.str_str _ _ _ _⟩⟩
  · cases ra.noneI; cases rb.noneI; cases h; exact ⟨rfl, fun A s => ⟨SeqAt.EqAt.same _, SeqAt.RcAt.none_none, SeqAt.RcNeAt.none_none⟩⟩
  · cases ra.noneI; obtain ⟨_, rfl⟩ := rb.intI; cases h; exact ⟨rfl, fun A s => ⟨SeqAt.EqAt.none_int _ _, SeqAt.RcAt.none_int _ _, SeqAt.RcNeAt.none_int _ _⟩⟩
  · obtain ⟨_, rfl⟩ := ra.intI; cases rb.noneI; cases h; exact ⟨rfl, fun A s => ⟨SeqAt.EqAt.int_none _ _, SeqAt.RcAt.int_none _ _, SeqAt.RcNeAt.int_none _ _⟩⟩
  · cases h

theorem andO_is {a b : Option Bool} {c : Bool} (h : andO a b = some c) : ∃ x y, a = some x ∧ b = some y ∧ c = (x && y) := by
  cases a <;> cases b <;> cases h; exact ⟨_, _, rfl, rfl, rfl⟩
theorem orO_is {a b : Option Bool} {c : Bool} (h : orO a b = some c) : ∃ x y, a = some x ∧ b = some y ∧ c = (x || y) := by
  cases a <;> cases b <;> cases h; exact ⟨_, _, rfl, rfl, rfl⟩

theorem eqL_is {vs us : List Value} {xs ys : List PV} {c : Bool} (R : RepL g vs xs) (S : RepL g us ys) (hl : xs.length = ys.length) (h : eqL xs ys = some c) :
    (∀ (A : Around) (s : Shared) j (h1 : j < vs.length) (h2 : j < us.length), SeqAt.EqAt A s vs[j] us[j] (eqVal vs[j] us[j])) ∧ (List.range vs.length).all (fun j => eqVal (vs.getD j .none) (us.getD j .none)) = c := by
  induction xs generalizing vs us ys c with
  | nil => cases R.nilI; exact ⟨fun A s j h1 => absurd h1 (Nat.not_lt_zero _), by cases h; rfl⟩
  | cons x xs ih =>
    cases ys with
    | nil => cases hl
    | cons y ys =>
    obtain ⟨v, vs, rfl, r, rs⟩ := R.consI
    obtain ⟨u, us, rfl, q, qs⟩ := S.consI
    obtain ⟨x, y, h1, h2, rfl⟩ := andO_is h
    obtain ⟨e1, e2⟩ := eqA_is r q h1
    obtain ⟨e3, e4⟩ := ih rs qs (Nat.succ.inj hl) h2
    refine ⟨fun A s j h1 h2 => ?_, ?_⟩
    · cases j with
      | zero => show SeqAt.EqAt A s _ _ (eqVal _ _); simp only [List.getElem_cons_zero]; rw [e1]; exact (e2 A s).1
      | succ j => exact e3 A s j (Nat.lt_of_succ_lt_succ h1) (Nat.lt_of_succ_lt_succ h2)
    · rw [List.length_cons, List.range_succ_eq_map, List.all_cons, List.all_map, ← e4, ← e1]
      rfl

theorem inV_is {u : Value} {x : PV} (ru : Rep g u x) {vs : List Value} {ys : List PV} {c : Bool} (R : RepL g vs ys) (h : inV x ys = some c) :
    (∀ (A : Around) (s : Shared), ∀ v ∈ vs, SeqAt.EqAt A s v u (eqVal v u)) ∧ vs.any (fun v => eqVal v u) = c := by
  induction ys generalizing vs c with
  | nil => cases R.nilI; exact ⟨fun A s v hv => (nomatch hv), by cases h; rfl⟩
  | cons y ys ih =>
    obtain ⟨v, vs, rfl, r, rs⟩ := R.consI
    obtain ⟨a, b, h1, h2, rfl⟩ := orO_is h
    obtain ⟨e1, e2⟩ := eqA_is r ru h1
    obtain ⟨e3, e4⟩ := ih rs h2
    refine ⟨fun A s v hv => ?_, ?_⟩
    · rcases List.mem_cons.mp hv with rfl | hv
      · rw [e1]; exact (e2 A s).1
      · exact e3 A s v hv
    · rw [List.any_cons, e1, e4]

theorem eqK_is {o : Option Bool} {P : Bool → Prop} (h : eqK o P) : ∃ c, o = some c ∧ P c := by
  cases o with
  | none => exact h.elim
  | some c => exact ⟨c, rfl, h⟩

theorem eqLists_is {a b : Addr} {vs us : List Value} {xs ys : List PV} {c : Bool} {A : Around} {s : Shared} (hu : A.units < cLine) (ha : s.heap.IsList a vs.toArray) (hb : s.heap.IsList b us.toArray) (r1 : RepL g vs xs) (r2 : RepL g us ys)
    (h : (if xs.length = ys.length then eqL xs ys else some false) = some c) : SeqAt.RcAt A s (.ref a) (.ref b) c ∧ SeqAt.RcNeAt A s (.ref a) (.ref b) (!c) := by
  split at h
  · rename_i hl
    obtain ⟨q1, q2⟩ := eqL_is r1 r2 hl h
    have hsz : vs.toArray.size = us.toArray.size := by simp only [List.size_toArray]; rw [r1.length, r2.length, hl]
    have hall : (List.range vs.toArray.size).all (fun j => eqVal (vs.getD j .none) (us.getD j .none)) = c := by rw [List.size_toArray]; exact q2
    have he : ∀ j (h1 : j < vs.toArray.size) (h2 : j < us.toArray.size), SeqAt.EqAt A.in1 s vs.toArray[j] us.toArray[j] (eqVal (vs.getD j .none) (us.getD j .none)) := fun j h1 h2 => by
      have g1 : j < vs.length := by simpa using h1
      have g2 : j < us.length := by simpa using h2
      have := q1 A.in1 s j g1 g2
      rw [← List.getElem_eq_getD (h := g1), ← List.getElem_eq_getD (h := g2)]
      simpa using this
    have A1 := SeqAt.RcAt.lists ha hb hsz hu he
    have A2 := SeqAt.RcNeAt.lists ha hb hsz hu he
    rw [hall] at A1 A2
    exact ⟨A1, A2⟩
  · rename_i hl
    cases h
    have hsz : (vs.toArray.size != us.toArray.size) = true := by simp only [List.size_toArray]; rw [r1.length, r2.length]; simpa using hl
    exact ⟨SeqAt.RcAt.lists_lengths ha hb hsz hu, SeqAt.RcNeAt.lists_lengths ha hb hsz hu⟩

theorem eqV_is {a b : Value} {x y : PV} {c : Bool} {A : Around} {s : Shared} (hu : A.units < cLine) (k : Keep g s.heap) (ra : Rep g a x) (rb : Rep g b y) (h : eqV x y = some c) : SeqAt.RcAt A s a b c ∧ SeqAt.RcNeAt A s a b (!c) := by
  unfold eqV at h
  split at h
  · obtain ⟨_, _, _, _, rfl, e1, c1, d1, r1⟩ := ra.listI
    obtain ⟨_, _, _, _, rfl, e2, c2, d2, r2⟩ := rb.listI
    exact eqLists_is hu (list_isList k e1 c1 d1) (list_isList k e2 c2 d2) r1 r2 h
  · exact ((eqA_is ra rb h).2 A s).2

theorem inM_is {a b : Value} {x y : PV} {P : Bool → Prop} (h : inM x y P) : (∃ ys c, y = .list ys ∧ inV x ys = some c ∧ P c) ∨ (∃ c ys, x = .str [c] ∧ y = .str ys ∧ P (decide (c ∈ ys))) := by
  unfold inM at h
  split at h
  · obtain ⟨c, h1, h2⟩ := eqK_is h
    exact .inl ⟨_, c, rfl, h1, h2⟩
  · exact .inr ⟨_, _, rfl, rfl, h⟩
  · exact h.elim
theorem ltK_is {x y : PV} {P : Bool → Prop} (h : ltK x y P) : (∃ a b, x = .int a ∧ y = .int b ∧ P (decide (a < b))) ∨ (∃ a b, x = .str a ∧ y = .str b ∧ P (decide (a < b))) := by
  unfold ltK at h
  split at h
  · exact .inl ⟨_, _, rfl, rfl, h⟩
  · exact .inr ⟨_, _, rfl, rfl, h⟩
  · exact h.elim
theorem isK_is {x y : PV} {P : Bool → Prop} (h : isK x y P) : y = .none ∧ ((x = .none ∧ P true) ∨ (∃ a, x = .int a ∧ P false)) := by
  unfold isK at h
  split at h
  · refine ⟨rfl, ?_⟩
    cases x <;> first | exact .inl ⟨rfl, h⟩ | exact .inr ⟨_, rfl, h⟩ | exact False.elim h
  · exact h.elim
theorem sound_cmp (op : CmpOp) {a b : Value} {x y : PV} {P : Bool → Prop} (hu : A.units < cLine) (k : Keep g s.heap) (ra : Rep g a x) (rb : Rep g b y) (h : cmpM op x y P) :
    wpAny (model prog w) A (compareOp op a b) (PostC s g P) E s := by
  cases op with
  | Eq =>
    obtain ⟨c, h1, h2⟩ := eqK_is h
    exact (eqV_is hu k ra rb h1).1 prog w E _ ⟨g, _, Step.refl k, rfl, h2⟩
  | NotEq =>
    obtain ⟨c, h1, h2⟩ := eqK_is h
    exact (eqV_is hu k ra rb h1).2 prog w E _ ⟨g, _, Step.refl k, rfl, h2⟩
  | Lt =>
    rcases ltK_is h with ⟨i, j, rfl, rfl, h⟩ | ⟨i, j, rfl, rfl, h⟩
    · obtain ⟨_, rfl⟩ := ra.intI; obtain ⟨_, rfl⟩ := rb.intI; exact PyProof.Rows.lt_int ⟨g, _, Step.refl k, rfl, h⟩
    · obtain ⟨_, rfl⟩ := ra.strI; obtain ⟨_, rfl⟩ := rb.strI; exact PySem.P.lt_str ⟨g, _, Step.refl k, rfl, h⟩
  | LtE =>
    obtain ⟨i, j, rfl, rfl, h⟩ := intCmp_is h
    obtain ⟨_, rfl⟩ := ra.intI; obtain ⟨_, rfl⟩ := rb.intI; exact PyProof.Rows.le_int ⟨g, _, Step.refl k, rfl, h⟩
  | Gt =>
    rcases ltK_is h with ⟨i, j, rfl, rfl, h⟩ | ⟨i, j, rfl, rfl, h⟩
    · obtain ⟨_, rfl⟩ := ra.intI; obtain ⟨_, rfl⟩ := rb.intI; exact PyProof.Rows.gt_int ⟨g, _, Step.refl k, rfl, h⟩
    · obtain ⟨_, rfl⟩ := ra.strI; obtain ⟨_, rfl⟩ := rb.strI; exact PySem.P.gt_str ⟨g, _, Step.refl k, rfl, h⟩
  | GtE =>
    obtain ⟨i, j, rfl, rfl, h⟩ := intCmp_is h
    obtain ⟨_, rfl⟩ := ra.intI; obtain ⟨_, rfl⟩ := rb.intI; exact PyProof.Rows.ge_int ⟨g, _, Step.refl k, rfl, h⟩
  | In =>
    rcases inM_is (a := a) (b := b) h with ⟨ys, c, rfl, h1, h2⟩ | ⟨c, ys, rfl, rfl, h⟩
    · obtain ⟨_, _, _, _, rfl, e1, c1, d1, r1⟩ := rb.listI
      obtain ⟨q1, q2⟩ := inV_is ra r1 h1
      refine SeqAt.in_listAt (fun v => eqVal v a) (list_isList k e1 c1 d1) (fun v hv => q1 _ _ v (by simpa using hv)) ⟨g, _, Step.refl k, rfl, ?_⟩
      rw [List.any_toArray, q2]; exact h2
    · obtain ⟨_, rfl⟩ := ra.strI; obtain ⟨_, rfl⟩ := rb.strI
      refine PySem.P.in_str ⟨g, _, Step.refl k, rfl, ?_⟩
      rw [show ((⟨[c].toArray⟩ : Str)) = ⟨#[c]⟩ from rfl, StrLaws.found_one]; exact h
  | NotIn =>
    rcases inM_is (a := a) (b := b) h with ⟨ys, c, rfl, h1, h2⟩ | ⟨c, ys, rfl, rfl, h⟩
    · obtain ⟨_, _, _, _, rfl, e1, c1, d1, r1⟩ := rb.listI
      obtain ⟨q1, q2⟩ := inV_is ra r1 h1
      refine SeqAt.notIn_listAt (fun v => eqVal v a) (list_isList k e1 c1 d1) (fun v hv => q1 _ _ v (by simpa using hv)) ⟨g, _, Step.refl k, rfl, ?_⟩
      rw [List.any_toArray, q2]; exact h2
    · obtain ⟨_, rfl⟩ := ra.strI; obtain ⟨_, rfl⟩ := rb.strI
      refine PySem.P.notIn_str ⟨g, _, Step.refl k, rfl, ?_⟩
      rw [show ((⟨[c].toArray⟩ : Str)) = ⟨#[c]⟩ from rfl, StrLaws.found_one]; exact h
  | Is =>
    obtain ⟨rfl, ⟨rfl, h⟩ | ⟨i, rfl, h⟩⟩ := isK_is h
    · cases ra.noneI; cases rb.noneI; exact wpAny_is_self rfl ⟨g, _, Step.refl k, rfl, h⟩
    · obtain ⟨_, rfl⟩ := ra.intI; cases rb.noneI; exact wpAny_is_other rfl (by simp) ⟨g, _, Step.refl k, rfl, h⟩
  | IsNot =>
    obtain ⟨rfl, ⟨rfl, h⟩ | ⟨i, rfl, h⟩⟩ := isK_is h
    · cases ra.noneI; cases rb.noneI; exact wpAny_isNot_self rfl ⟨g, _, Step.refl k, rfl, h⟩
    · obtain ⟨_, rfl⟩ := ra.intI; cases rb.noneI; exact wpAny_isNot_other rfl (by simp) ⟨g, _, Step.refl k, rfl, h⟩
end ops
end Mine
end part_W2
section part_W2s
set_option Elab.async false
set_option maxRecDepth 10000
set_option linter.unusedVariables false
namespace Mine
open PySem PySem.W PyProof.Rows

theorem dec_str (a : Int) : Str.ofString (toString a) = ⟨(decS a).toArray⟩ := by unfold decS; simp
theorem repL_ints {g : Ghost prog w} : ∀ {vs : List Value} {ns : List Int}, RepL g vs (ns.map .int) → IntsAre vs ns
  | [], [], _ => .nil
  | [], _ :: _, h => by cases h
  | _ :: _, [], h => by cases h
  | _ :: _, n :: ns, h => by
    cases h with | cons r rs =>
    cases r
    exact .cons _ _ (repL_ints rs)
theorem repL_strs {g : Ghost prog w} : ∀ {vs : List Value} {ss : List (List Nat)}, RepL g vs (ss.map .str) → ∃ l : List (Str × Tok), vs = strValues l ∧ l.map (·.1) = ss.map (fun x => (⟨x.toArray⟩ : Str))
  | [], [], _ => ⟨[], rfl, rfl⟩
  | [], _ :: _, h => by cases h
  | _ :: _, [], h => by cases h
  | _ :: _, n :: ns, h => by
    cases h with | cons r rs =>
    cases r
    rename_i t
    obtain ⟨l, h1, h2⟩ := repL_strs rs
    exact ⟨(⟨n.toArray⟩, t) :: l, by rw [h1]; rfl, by simp [h2]⟩

section
variable {prog : Program} {w : World} {A : Around} {E : Value → Shared → Prop} {s : Shared} {g : Ghost prog w}

theorem repL1 {vs : List Value} {x : PV} (h : RepL g vs [x]) : ∃ v, vs = [v] ∧ Rep g v x := by
  cases h with | cons a r => cases r; exact ⟨_, rfl, a⟩

/-- a list of whole numbers, with their tokens -/
theorem ints_items {vs : List Value} {ns : List Int} (hi : IntsAre vs ns) : ∃ xs, vs.toArray = intItems xs ∧ xs.toList.map (·.1) = ns := by
  obtain ⟨xs, e⟩ := hi.allInts.items
  exact ⟨xs, e, by rw [← nums_intItems, ← e]; exact hi.numsOf⟩
theorem sum_ints {l : Addr} {vs : List Value} {ns : List Int} {Q : Value → Shared → Prop} (hh : A.handled = none) (hl : s.heap.IsList l vs.toArray) (hi : IntsAre vs ns)
    (h : ∀ h' tk t', (∀ b o, s.heap.get? b = some o → h'.get? b = some o) → Q (.int ns.sum t') { s with heap := h', toks := tk }) : wpAny (model prog w) A (call (.builtin "sum") [.ref l]) Q E s := by
  obtain ⟨xs, e, rfl⟩ := ints_items hi
  refine sum_intListG hh (e ▸ hl) fun h' tk t' hk => ?_
  rw [preSum_eq, List.take_of_length_le (by simp)]
  exact h h' tk t' hk
theorem max_ints {l : Addr} {vs : List Value} {ns : List Int} {Q : Value → Shared → Prop} (hh : A.handled = none) (hl : s.heap.IsList l vs.toArray) (hi : IntsAre vs ns) (hne : ns ≠ [])
    (h : ∀ h' tk t' m, m ∈ ns → (∀ x ∈ ns, x ≤ m) → (∀ b o, s.heap.get? b = some o → h'.get? b = some o) → Q (.int m t') { s with heap := h', toks := tk }) : wpAny (model prog w) A (call (.builtin "max") [.ref l]) Q E s := by
  obtain ⟨xs, e, hn⟩ := ints_items hi
  have num : numAt xs = fun j => ns.getD j 0 := funext fun j => by rw [numAt_eq, hn]
  have len : xs.size = ns.length := by rw [← hn, List.length_map, Array.length_toList]
  have pos := List.length_pos_iff.mpr hne
  have best := argBest_gt (numAt xs) (xs.size - 1)
  refine max_intList hh (e ▸ hl) (by omega) fun v h' tk hv hk => ?_
  generalize argBest _ (xs.size - 1) = i at hv best
  obtain ⟨t, rfl⟩ := intItems_at hv
  rw [num, len] at best
  rw [num]
  refine h h' tk t _ (getD_mem (by omega)) (fun x hx => ?_) hk
  obtain ⟨j, hj, rfl⟩ := List.getElem_of_mem hx
  have := best.2 j (by omega)
  dsimp only at this
  rwa [getD_at hj] at this


theorem repL2 {vs : List Value} {x y : PV} (h : RepL g vs [x, y]) : ∃ v u, vs = [v, u] ∧ Rep g v x ∧ Rep g u y := by
  cases h with | cons a r => cases r with | cons b r => cases r; exact ⟨_, _, rfl, a, b⟩
noncomputable def bltVal : Blt → Value
  | .abs => .builtin "abs" | .len => .builtin "len" | .range => .type "range" | .max => .builtin "max" | .isinst => .builtin "isinstance" | .int => .type "int" | .str => .type "str" | .ord => .builtin "ord" | .sum => .builtin "sum" | .list => .type "list" | .divmod => .builtin "divmod"
theorem sound_blt1 (b : Blt) {v : Value} {x : PV} {P : PV → Prop} (hh : A.handled = Option.none) (k : Keep g s.heap) (r1 : Rep g v x) (h : blt1 b x P) :
    wpAny (model prog w) A (call (bltVal b) [v]) (Post s g P) E s := by
  cases b <;> try exact False.elim h
  case abs =>
    obtain ⟨a, rfl, h⟩ := intK_is h
    cases r1
    exact PyProof.Rows.call_abs_int fun u tk => Post.toks k _ (.int _ _) h
  case range =>
    obtain ⟨a, rfl, h⟩ := intK_is h
    cases r1
    refine call_range_1 ?_
    exact ⟨_, _, Step.push k _ rfl _, .range (putG_self _ _ _), h.2.2⟩
  case str =>
    obtain ⟨a, rfl, h⟩ := intK_is h
    cases r1
    refine PySem.P.str_of_int h.1 ?_
    rw [dec_str]
    exact Post.toks k _ (.str _ _) h.2
  case len =>
    cases r1 <;> try exact False.elim h
    · rename_i xs t
      obtain ⟨h1, h2⟩ : xs.length ≤ 16777216 ∧ _ := h
      refine PySem.P.len_str (by show ¬ ((xs.toArray.size : Nat) : Int) ≥ 2 ^ 63; rw [List.size_toArray]; omega) ?_
      have e : ((Str.length ⟨xs.toArray⟩ : Nat) : Int) = (xs.length : Int) := by show ((xs.toArray.size : Nat) : Int) = _; rw [List.size_toArray]
      rw [e]
      exact Post.toks k _ (.int _ _) h2
    · rename_i a o us n xs e c d rr
      obtain ⟨h1, h2⟩ : xs.length ≤ 16777216 ∧ _ := h
      refine PyProof.Rows.len_list (list_isList k e c d) (by rw [List.size_toArray, rr.length]; omega) ?_
      refine Post.toks k _ (.int _ _) ?_
      rw [List.size_toArray, rr.length]; exact h2
  case int =>
    cases r1 <;> try exact False.elim h
    · exact call_int_bool (Post.toks k _ (.int _ _) h)
    · obtain ⟨hl, n, hn, hP⟩ := h
      exact KIN.call_text hn (by show Array.size _ ≤ _; rw [List.size_toArray]; exact hl) (Post.toks k _ (.int _ _) hP)
  case ord =>
    obtain ⟨xs, rfl, h⟩ := txtK_is h
    cases r1
    match xs, h with
    | [c], h => exact PySem.P.ord_of_char (Post.toks k _ (.int _ _) h)
    | [], h => exact False.elim h
    | _ :: _ :: _, h => exact False.elim h
  case sum =>
    obtain ⟨xs, rfl, ns, rfl, h2⟩ := lstK_is h
    cases r1 with | list e c d rr =>
    exact sum_ints hh (list_isList k e c d) (repL_ints rr) fun h' tk t' hk => ⟨g, _, Step.keeps0 k ⟨_, _, rfl, hk⟩, .int _ _, h2⟩
  case list =>
    obtain ⟨xs, rfl, h⟩ := lstK_is h
    cases r1 with | list e c d rr =>
    refine call_list_seq (hsz := by rw [List.size_toArray, rr.length]; exact size16 h.1) _ (.inl rfl) (k _ _ e) c d fun h' c' hk ho => ?_
    have S : Step s g { s with heap := h' } _ := Step.add k ⟨h', s.toks, rfl, hk⟩ (fresh_none _) ho
    exact ⟨_, _, S, .list (putG_self _ _ _) rfl rfl (rr.mono S.le), h.2⟩
  case max =>
    obtain ⟨xs, rfl, ns, rfl, hne, h2⟩ := lstK_is h
    cases r1 with | list e c d rr =>
    exact max_ints hh (list_isList k e c d) (repL_ints rr) hne fun h' tk t' m hm hx hk => ⟨g, _, Step.keeps0 k ⟨_, _, rfl, hk⟩, .int _ _, h2 m hm hx⟩
theorem sound_blt2 (b : Blt) {v u : Value} {x y : PV} {P : PV → Prop} (hh : A.handled = Option.none) (k : Keep g s.heap) (r1 : Rep g v x) (r2 : Rep g u y) (h : blt2 b x y P) :
    wpAny (model prog w) A (call (bltVal b) [v, u]) (Post s g P) E s := by
  cases b <;> try exact False.elim h
  all_goals
    obtain ⟨a, b, rfl, rfl, h⟩ := intCmp_is h
    cases r1; cases r2
  case range =>
    refine call_range_2 ?_
    exact ⟨_, _, Step.push k _ rfl _, .range (putG_self _ _ _), h.2.2⟩
  case max =>
    refine max_two_ints hh fun h' tk hk => ?_
    refine ⟨g, _, Step.keeps0 k ⟨_, _, rfl, hk⟩, ?_, h⟩
    by_cases hc : b > a
    · rw [if_pos hc, if_pos (show a < b from hc)]; exact .int _ _
    · rw [if_neg hc, if_neg (show ¬ a < b from hc)]; exact .int _ _
  case divmod =>
    refine divmod_int h.1 ?_ (.inl h.2.1)
    exact ⟨_, _, Step.push k _ rfl _, .tuple (vs := [_, _]) (putG_self _ _ _) rfl rfl (.cons (.int _ _) (.cons (.int _ _) .nil)), h.2.2⟩
theorem sound_blt (b : Blt) {vs : List Value} {xs : List PV} {P : PV → Prop} (hh : A.handled = Option.none) (k : Keep g s.heap) (r : RepL g vs xs) (h : bltM b xs P) :
    wpAny (model prog w) A (call (bltVal b) vs) (Post s g P) E s := by
  unfold bltM at h
  split at h
  · obtain ⟨v, rfl, r1⟩ := repL1 r; exact sound_blt1 b hh k r1 h
  · obtain ⟨v, u, rfl, r1, r2⟩ := repL2 r; exact sound_blt2 b hh k r1 r2 h
  · exact h.elim
end

/-- a slice of a text -/
theorem range_map_get (x : List Nat) (a n : Nat) (h : a + n ≤ x.length) : ((List.range n).map fun i => a + i).filterMap (fun i => x.toArray[i]?) = (x.drop a).take n := by
  induction n with
  | zero => simp
  | succ n ih =>
    rw [List.range_succ, List.map_append, List.filterMap_append, ih (by omega)]
    have : a + n < x.length := by omega
    simp only [List.map_cons, List.map_nil]
    rw [List.filterMap_cons, List.filterMap_nil]
    have e : x.toArray[a + n]? = some x[a + n] := by simp [this]
    rw [e]
    simp only
    rw [List.take_add_one]
    congr 1
    rw [List.getElem?_drop]
    simp [this]
theorem indices_is (lo hi : Option Int) (n : Nat) : Builtin.Str.strSliceIndices lo hi 1 n = (List.range (kms_hi hi n - kms_lo lo n)).map fun i => kms_lo lo n + i := by
  have e : Builtin.Str.strSliceIndices lo hi 1 n = sliceRange (sliceBounds lo hi none n).1 (sliceBounds lo hi none n).2.1 (sliceBounds lo hi none n).2.2 := rfl
  rw [e, kms_bounds]
  unfold sliceRange
  simp only [show (1 : Int) > 0 by decide, if_true]
  have e2 : (if ((kms_lo lo n : Nat) : Int) < ((kms_hi hi n : Nat) : Int) then (((kms_hi hi n : Nat) : Int) - ((kms_lo lo n : Nat) : Int) + 1 - 1) / 1 else 0).toNat = kms_hi hi n - kms_lo lo n := by
    split
    · rw [Int.ediv_one]; omega
    · omega
  rw [e2]
  refine List.map_congr_left fun k _ => ?_
  omega
theorem kms_hi_le (hi : Option Int) (n : Nat) : kms_hi hi n ≤ n := by
  unfold kms_hi
  cases hi with
  | none => exact Nat.le_refl _
  | some y => simp only; split <;> omega
theorem kms_lo_le (lo : Option Int) (n : Nat) : kms_lo lo n ≤ n := by
  unfold kms_lo
  cases lo with
  | none => exact Nat.zero_le _
  | some y => simp only; split <;> omega
theorem slice_is (x : List Nat) (lo hi : Option Int) : Txt.slice ⟨x.toArray⟩ lo hi = ⟨(cut x lo hi).toArray⟩ := by
  have hl : Str.length ⟨x.toArray⟩ = x.length := by show x.toArray.size = _; simp
  unfold Txt.slice
  rw [hl, indices_is]
  have h1 := kms_hi_le hi x.length
  have h2 := kms_lo_le lo x.length
  have main : ((List.range (kms_hi hi x.length - kms_lo lo x.length)).map fun i => kms_lo lo x.length + i).filterMap (fun i => x.toArray[i]?) = cut x lo hi := by
    by_cases hc : kms_lo lo x.length ≤ kms_hi hi x.length
    · rw [range_map_get _ _ _ (by omega)]; rfl
    · have : kms_hi hi x.length - kms_lo lo x.length = 0 := by omega
      unfold cut
      rw [this]; simp
  split
  · rename_i hc
    simp only [Bool.and_eq_true, beq_iff_eq, List.length_map, List.length_range] at hc
    have e1 : kms_lo lo x.length = 0 := by omega
    have e2 : kms_hi hi x.length = x.length := by omega
    unfold cut
    rw [e1, e2]; simp
  · rw [← main]
theorem strip_is (x y : List Nat) : Txt.rstripChars ⟨x.toArray⟩ ⟨y.toArray⟩ = ⟨(rstripS x y).toArray⟩ := by
  have hl : Str.length ⟨x.toArray⟩ = x.length := by show x.toArray.size = _; simp
  unfold Txt.rstripChars
  rw [PyProof.Rows.stripBy_eq]
  unfold stripLo stripHi
  simp only [Bool.false_eq_true, if_false, if_true, List.drop_zero]
  show (⟨Array.extract _ _ _⟩ : Str) = _
  rw [hl]
  have e : ∀ (l : List Nat) (p : Nat → Bool), l.dropWhile p = l.drop (l.takeWhile p).length := by
    intro l p
    induction l with
    | nil => rfl
    | cons a l ih =>
      rw [List.dropWhile_cons, List.takeWhile_cons]
      split
      · simp [ih]
      · simp
  unfold rstripS
  rw [e, List.reverse_drop]
  have hc : (fun c => y.contains c) = y.toArray.contains := by funext c; simp
  rw [hc]
  simp
theorem glued_is (ss : List (List Nat)) : (Txt.join ⟨([] : List Nat).toArray⟩ (ss.map fun x => (⟨x.toArray⟩ : Str))) = ⟨ss.flatten.toArray⟩ := by
  have e : ∀ l : List Str, Str.join ⟨#[]⟩ l = ⟨(l.map fun s => s.cps.toList).flatten.toArray⟩ := by
    intro l
    induction l with
    | nil => rfl
    | cons a l ih =>
      cases l with
      | nil => simp [Str.join]
      | cons b l =>
        show a ++ (⟨#[]⟩ : Str) ++ Str.join ⟨#[]⟩ (b :: l) = _
        rw [ih]
        show (⟨a.cps ++ #[] ++ _⟩ : Str) = _
        simp
  have h := join_plain_closes ⟨([] : List Nat).toArray⟩ (ss.map fun x => (⟨x.toArray⟩ : Str))
  rw [beq_iff_eq] at h
  rw [h, e, List.map_map]
  congr 1
  congr 1
  congr 1
  conv => rhs; rw [← List.map_id ss]
  refine List.map_congr_left fun x _ => ?_
  simp
end Mine
end part_W2s
section part_W3
set_option Elab.async false
set_option maxRecDepth 10000
set_option linter.unusedVariables false
namespace Mine
open PySem PySem.W PyProof.Rows

noncomputable def notStarred (e : Expr) : Bool := e.ctorIdx != 22
noncomputable def notSlice (e : Expr) : Bool := e.ctorIdx != 26

theorem starEach_cons {e : Expr} {es : List Expr} {env : Env} (h : notStarred e = true) : starEach (e :: es) env = (false, eval e env) :: starEach es env := by
  cases e <;> first | rfl | (cases h)
theorem subscripted_plain {sl : Expr} {o i : Value} (h : notSlice sl = true) : subscripted sl false o i = operate [o, i] (getItem o i) := by
  cases sl <;> first | rfl | (cases h)

noncomputable def bltName : Blt → String
  | .abs => "abs" | .len => "len" | .range => "range" | .max => "max" | .isinst => "isinstance" | .int => "int" | .str => "str" | .ord => "ord" | .sum => "sum" | .list => "list" | .divmod => "divmod"
theorem boot_blt (b : Blt) : bootBuiltins (Str.ofString (bltName b)) = some (bltVal b) := by cases b <;> (unfold bltName bltVal; decide +kernel)
theorem bltName_ne (b : Blt) : Str.ofString (bltName b) ≠ Str.ofString "__name__" := by cases b <;> (unfold bltName; decide +kernel)

noncomputable def isG (sc : Scope) (x : Str) : Bool := sc.names.lookup x == some .globalImplicit && !(x == Str.ofString "__debug__")

/-- the names seen within a block of its own -/
noncomputable def innerNames (nm : List (Option Str)) (sc' : Scope) (j : Nat) (x : Str) : List (Option Str) :=
  (nm.map fun n => match n with
    | some y => if y != x && sc'.names.lookup y == some .free then some y else Option.none
    | Option.none => Option.none).set j (some x)

noncomputable def compOK (sc sc' : Scope) (x : Str) (nm : List (Option Str)) (j : Nat) : Bool :=
  sc'.kind == .function && sc'.names.all (fun y => y.2 != .cell) && sc'.names.all (fun y => y.2 != .local || sc'.names.lookup y.1 == some .local) &&
  sc'.names.lookup x == some .local && sc'.names.all (fun y => y.2 != .free || (sc'.names.lookup y.1 == some .free && (sc.names.lookup y.1 == some .cell || sc.names.lookup y.1 == some .free))) && decide (j < nm.length) && !(x == Str.ofString "__debug__")

noncomputable def sole {α : Type} : List α → Option α
  | [x] => some x
  | _ => Option.none
theorem sole_is {α : Type} {l : List α} {x : α} (h : sole l = some x) : l = [x] := by
  unfold sole at h; split at h <;> cases h; rfl
/-- what stands in one constructor -/
noncomputable def pick {α : Type} (i n : Nat) (f : i = n → Option α) : Option α := if h : i = n then f h else Option.none
theorem pick_is {α : Type} {i n : Nat} {f : i = n → Option α} {x : α} (h : pick i n f = some x) : ∃ hi, f hi = some x := by
  unfold pick at h
  split at h
  · exact ⟨_, h⟩
  · cases h
noncomputable def constOf (e : Expr) : Option (Const) := pick e.ctorIdx 19 fun hi => Expr.Constant.elim (motive_1 := fun _ => Option (Const)) e hi fun c _ _ => some c
theorem constOf_is {e : Expr} {c' : Const} (h : constOf e = some c') : ∃ k p, e = .Constant c' k p :=
  let ⟨hi, h⟩ := pick_is h
  Expr.Constant.elim (motive_1 := fun e => ∀ hi, (Expr.Constant.elim (motive_1 := fun _ => Option (Const)) e hi fun c _ _ => some c) = some c' → ∃ k p, e = .Constant c' k p) e hi (fun c k p hi h => by cases h; exact ⟨_, _, rfl⟩) hi h
noncomputable def nameOf (e : Expr) : Option (Str) := pick e.ctorIdx 23 fun hi => Expr.Name.elim (motive_1 := fun _ => Option (Str)) e hi fun x _ => some x
theorem nameOf_is {e : Expr} {x' : Str} (h : nameOf e = some x') : ∃ p, e = .Name x' p :=
  let ⟨hi, h⟩ := pick_is h
  Expr.Name.elim (motive_1 := fun e => ∀ hi, (Expr.Name.elim (motive_1 := fun _ => Option (Str)) e hi fun x _ => some x) = some x' → ∃ p, e = .Name x' p) e hi (fun x p hi h => by cases h; exact ⟨_, rfl⟩) hi h
noncomputable def binOf (e : Expr) : Option (Expr × Operator × Expr) := pick e.ctorIdx 2 fun hi => Expr.BinOp.elim (motive_1 := fun _ => Option (Expr × Operator × Expr)) e hi fun a o b _ => some (a, o, b)
theorem binOf_is {e : Expr} {a' : Expr} {o' : Operator} {b' : Expr} (h : binOf e = some (a', o', b')) : ∃ p, e = .BinOp a' o' b' p :=
  let ⟨hi, h⟩ := pick_is h
  Expr.BinOp.elim (motive_1 := fun e => ∀ hi, (Expr.BinOp.elim (motive_1 := fun _ => Option (Expr × Operator × Expr)) e hi fun a o b _ => some (a, o, b)) = some (a', o', b') → ∃ p, e = .BinOp a' o' b' p) e hi (fun a o b p hi h => by cases h; exact ⟨_, rfl⟩) hi h
noncomputable def unOf (e : Expr) : Option (UnaryOp × Expr) := pick e.ctorIdx 3 fun hi => Expr.UnaryOp.elim (motive_1 := fun _ => Option (UnaryOp × Expr)) e hi fun o a _ => some (o, a)
theorem unOf_is {e : Expr} {o' : UnaryOp} {a' : Expr} (h : unOf e = some (o', a')) : ∃ p, e = .UnaryOp o' a' p :=
  let ⟨hi, h⟩ := pick_is h
  Expr.UnaryOp.elim (motive_1 := fun e => ∀ hi, (Expr.UnaryOp.elim (motive_1 := fun _ => Option (UnaryOp × Expr)) e hi fun o a _ => some (o, a)) = some (o', a') → ∃ p, e = .UnaryOp o' a' p) e hi (fun o a p hi h => by cases h; exact ⟨_, rfl⟩) hi h
noncomputable def boolOf (e : Expr) : Option (BoolOp × List Expr) := pick e.ctorIdx 0 fun hi => Expr.BoolOp.elim (motive_1 := fun _ => Option (BoolOp × List Expr)) e hi fun o a _ => some (o, a)
theorem boolOf_is {e : Expr} {o' : BoolOp} {a' : List Expr} (h : boolOf e = some (o', a')) : ∃ p, e = .BoolOp o' a' p :=
  let ⟨hi, h⟩ := pick_is h
  Expr.BoolOp.elim (motive_1 := fun e => ∀ hi, (Expr.BoolOp.elim (motive_1 := fun _ => Option (BoolOp × List Expr)) e hi fun o a _ => some (o, a)) = some (o', a') → ∃ p, e = .BoolOp o' a' p) e hi (fun o a p hi h => by cases h; exact ⟨_, rfl⟩) hi h
noncomputable def iteOf (e : Expr) : Option (Expr × Expr × Expr) := pick e.ctorIdx 5 fun hi => Expr.IfExp.elim (motive_1 := fun _ => Option (Expr × Expr × Expr)) e hi fun a b c _ => some (a, b, c)
theorem iteOf_is {e : Expr} {a' : Expr} {b' : Expr} {c' : Expr} (h : iteOf e = some (a', b', c')) : ∃ p, e = .IfExp a' b' c' p :=
  let ⟨hi, h⟩ := pick_is h
  Expr.IfExp.elim (motive_1 := fun e => ∀ hi, (Expr.IfExp.elim (motive_1 := fun _ => Option (Expr × Expr × Expr)) e hi fun a b c _ => some (a, b, c)) = some (a', b', c') → ∃ p, e = .IfExp a' b' c' p) e hi (fun a b c p hi h => by cases h; exact ⟨_, rfl⟩) hi h
noncomputable def cmpOf (e : Expr) : Option (Expr × List CmpOp × List Expr) := pick e.ctorIdx 15 fun hi => Expr.Compare.elim (motive_1 := fun _ => Option (Expr × List CmpOp × List Expr)) e hi fun a o b _ => some (a, o, b)
theorem cmpOf_is {e : Expr} {a' : Expr} {o' : List CmpOp} {b' : List Expr} (h : cmpOf e = some (a', o', b')) : ∃ p, e = .Compare a' o' b' p :=
  let ⟨hi, h⟩ := pick_is h
  Expr.Compare.elim (motive_1 := fun e => ∀ hi, (Expr.Compare.elim (motive_1 := fun _ => Option (Expr × List CmpOp × List Expr)) e hi fun a o b _ => some (a, o, b)) = some (a', o', b') → ∃ p, e = .Compare a' o' b' p) e hi (fun a o b p hi h => by cases h; exact ⟨_, rfl⟩) hi h
noncomputable def callOf (e : Expr) : Option (Expr × List Expr × List Keyword) := pick e.ctorIdx 16 fun hi => Expr.Call.elim (motive_1 := fun _ => Option (Expr × List Expr × List Keyword)) e hi fun a o b _ => some (a, o, b)
theorem callOf_is {e : Expr} {a' : Expr} {o' : List Expr} {b' : List Keyword} (h : callOf e = some (a', o', b')) : ∃ p, e = .Call a' o' b' p :=
  let ⟨hi, h⟩ := pick_is h
  Expr.Call.elim (motive_1 := fun e => ∀ hi, (Expr.Call.elim (motive_1 := fun _ => Option (Expr × List Expr × List Keyword)) e hi fun a o b _ => some (a, o, b)) = some (a', o', b') → ∃ p, e = .Call a' o' b' p) e hi (fun a o b p hi h => by cases h; exact ⟨_, rfl⟩) hi h
noncomputable def subOf (e : Expr) : Option (Expr × Expr) := pick e.ctorIdx 21 fun hi => Expr.Subscript.elim (motive_1 := fun _ => Option (Expr × Expr)) e hi fun a b _ => some (a, b)
theorem subOf_is {e : Expr} {a' : Expr} {b' : Expr} (h : subOf e = some (a', b')) : ∃ p, e = .Subscript a' b' p :=
  let ⟨hi, h⟩ := pick_is h
  Expr.Subscript.elim (motive_1 := fun e => ∀ hi, (Expr.Subscript.elim (motive_1 := fun _ => Option (Expr × Expr)) e hi fun a b _ => some (a, b)) = some (a', b') → ∃ p, e = .Subscript a' b' p) e hi (fun a b p hi h => by cases h; exact ⟨_, rfl⟩) hi h
noncomputable def sliceOf (e : Expr) : Option (Option Expr × Option Expr × Option Expr) := pick e.ctorIdx 26 fun hi => Expr.Slice.elim (motive_1 := fun _ => Option (Option Expr × Option Expr × Option Expr)) e hi fun a b c _ => some (a, b, c)
theorem sliceOf_is {e : Expr} {a' : Option Expr} {b' : Option Expr} {c' : Option Expr} (h : sliceOf e = some (a', b', c')) : ∃ p, e = .Slice a' b' c' p :=
  let ⟨hi, h⟩ := pick_is h
  Expr.Slice.elim (motive_1 := fun e => ∀ hi, (Expr.Slice.elim (motive_1 := fun _ => Option (Option Expr × Option Expr × Option Expr)) e hi fun a b c _ => some (a, b, c)) = some (a', b', c') → ∃ p, e = .Slice a' b' c' p) e hi (fun a b c p hi h => by cases h; exact ⟨_, rfl⟩) hi h
noncomputable def listOf' (e : Expr) : Option (List Expr) := pick e.ctorIdx 24 fun hi => Expr.List.elim (motive_1 := fun _ => Option (List Expr)) e hi fun r _ => some r
theorem listOf_is {e : Expr} {r' : List Expr} (h : listOf' e = some r') : ∃ p, e = .List r' p :=
  let ⟨hi, h⟩ := pick_is h
  Expr.List.elim (motive_1 := fun e => ∀ hi, (Expr.List.elim (motive_1 := fun _ => Option (List Expr)) e hi fun r _ => some r) = some r' → ∃ p, e = .List r' p) e hi (fun r p hi h => by cases h; exact ⟨_, rfl⟩) hi h
noncomputable def tupleOf (e : Expr) : Option (List Expr) := pick e.ctorIdx 25 fun hi => Expr.Tuple.elim (motive_1 := fun _ => Option (List Expr)) e hi fun r _ _ => some r
theorem tupleOf_is {e : Expr} {r' : List Expr} (h : tupleOf e = some r') : ∃ k p, e = .Tuple r' k p :=
  let ⟨hi, h⟩ := pick_is h
  Expr.Tuple.elim (motive_1 := fun e => ∀ hi, (Expr.Tuple.elim (motive_1 := fun _ => Option (List Expr)) e hi fun r _ _ => some r) = some r' → ∃ k p, e = .Tuple r' k p) e hi (fun r k p hi h => by cases h; exact ⟨_, _, rfl⟩) hi h
noncomputable def compOf (e : Expr) : Option (Expr × List Comprehension × Scope) := pick e.ctorIdx 8 fun hi => Expr.ListComp.elim (motive_1 := fun _ => Option (Expr × List Comprehension × Scope)) e hi fun a o b _ => some (a, o, b)
theorem compOf_is {e : Expr} {a' : Expr} {o' : List Comprehension} {b' : Scope} (h : compOf e = some (a', o', b')) : ∃ p, e = .ListComp a' o' b' p :=
  let ⟨hi, h⟩ := pick_is h
  Expr.ListComp.elim (motive_1 := fun e => ∀ hi, (Expr.ListComp.elim (motive_1 := fun _ => Option (Expr × List Comprehension × Scope)) e hi fun a o b _ => some (a, o, b)) = some (a', o', b') → ∃ p, e = .ListComp a' o' b' p) e hi (fun a o b p hi h => by cases h; exact ⟨_, rfl⟩) hi h
noncomputable def dictOf (e : Expr) : Option (List (Option Expr) × List Expr) := pick e.ctorIdx 6 fun hi => Expr.Dict.elim (motive_1 := fun _ => Option (List (Option Expr) × List Expr)) e hi fun ks vs _ => some (ks, vs)
theorem dictOf_is {e : Expr} {ks' : List (Option Expr)} {vs' : List Expr} (h : dictOf e = some (ks', vs')) : ∃ p, e = .Dict ks' vs' p :=
  let ⟨hi, h⟩ := pick_is h
  Expr.Dict.elim (motive_1 := fun e => ∀ hi, (Expr.Dict.elim (motive_1 := fun _ => Option (List (Option Expr) × List Expr)) e hi fun ks vs _ => some (ks, vs)) = some (ks', vs') → ∃ p, e = .Dict ks' vs' p) e hi (fun ks vs p hi h => by cases h; exact ⟨_, rfl⟩) hi h
noncomputable def attrOf (e : Expr) : Option (Expr × Str × Pos) := pick e.ctorIdx 20 fun hi => Expr.Attribute.elim (motive_1 := fun _ => Option (Expr × Str × Pos)) e hi fun o a p => some (o, a, p)
theorem attrOf_is {e : Expr} {o' : Expr} {a' : Str} {p' : Pos} (h : attrOf e = some (o', a', p')) : e = .Attribute o' a' p' :=
  let ⟨hi, h⟩ := pick_is h
  Expr.Attribute.elim (motive_1 := fun e => ∀ hi, (Expr.Attribute.elim (motive_1 := fun _ => Option (Expr × Str × Pos)) e hi fun o a p => some (o, a, p)) = some (o', a', p') → e = .Attribute o' a' p') e hi (fun o a p hi h => by cases h; exact rfl) hi h
noncomputable def notSet (e : Expr) : Bool := e.ctorIdx != 7
theorem andSome {b : Bool} {α : Type} {x : Option α} {y : α} (h : (if b = true then x else Option.none) = some y) : b = true ∧ x = some y := by
  cases b with
  | false => cases h
  | true => exact ⟨rfl, h⟩
/-- f(e, ...): the name, the first, the rest -/
noncomputable def ownCall (e : Expr) : Option (Str × Expr × List Expr) :=
  (callOf e).bind fun q => (nameOf q.1).bind fun x => q.2.1.head?.bind fun a => if q.2.2.isEmpty = true then some (x, a, q.2.1.tail) else Option.none
noncomputable def oneCmp (e : Expr) : Option (Expr × CmpOp × Expr) :=
  (cmpOf e).bind fun q => (sole q.2.1).bind fun o => (sole q.2.2).map fun b => (q.1, o, b)
noncomputable def oneSlice (e : Expr) : Option (Expr × Option Expr × Option Expr) :=
  (subOf e).bind fun q => (sliceOf q.2).bind fun r => if r.2.2.isNone = true then some (q.1, r.1, r.2.1) else Option.none
noncomputable def oneComp (e : Expr) : Option (Expr × Str × Expr × List Expr × Int × Scope) :=
  (compOf e).bind fun q => (sole q.2.1).bind fun g => (nameOf g.target).map fun x => (q.1, x, g.iter, g.ifs, g.is_async, q.2.2)
section
variable {e : Expr}
theorem ownCall_is {x : Str} {a : Expr} {as : List Expr} (h : ownCall e = some (x, a, as)) : ∃ px p, e = .Call (.Name x px) (a :: as) [] p := by
  obtain ⟨⟨f, bs, ks⟩, h1, h⟩ := Option.bind_eq_some_iff.mp h
  obtain ⟨y, h2, h⟩ := Option.bind_eq_some_iff.mp h
  obtain ⟨b, h3, h⟩ := Option.bind_eq_some_iff.mp h
  obtain ⟨hc, h4⟩ := andSome h
  obtain ⟨p, rfl⟩ := callOf_is h1
  obtain ⟨px, h2⟩ := nameOf_is h2
  cases ks with
  | cons _ _ => cases hc
  | nil =>
    cases bs with
    | nil => cases h3
    | cons _ _ =>
      cases h3
      cases h4
      cases h2
      exact ⟨_, _, rfl⟩
theorem oneCmp_is {o : CmpOp} {a b : Expr} (h : oneCmp e = some (a, o, b)) : ∃ p, e = .Compare a [o] [b] p := by
  obtain ⟨⟨f, bs, ks⟩, h1, h⟩ := Option.bind_eq_some_iff.mp h
  obtain ⟨y, h2, h⟩ := Option.bind_eq_some_iff.mp h
  obtain ⟨z, h3, h⟩ := Option.map_eq_some_iff.mp h
  obtain ⟨p, rfl⟩ := cmpOf_is h1
  cases sole_is h2
  cases sole_is h3
  cases h
  exact ⟨_, rfl⟩
theorem oneSlice_is {v : Expr} {l r : Option Expr} (h : oneSlice e = some (v, l, r)) : ∃ ps p, e = .Subscript v (.Slice l r Option.none ps) p := by
  obtain ⟨⟨f, bs⟩, h1, h⟩ := Option.bind_eq_some_iff.mp h
  obtain ⟨⟨x, y, z⟩, h2, h⟩ := Option.bind_eq_some_iff.mp h
  obtain ⟨hc, h⟩ := andSome h
  obtain ⟨p, rfl⟩ := subOf_is h1
  obtain ⟨ps, h2⟩ := sliceOf_is h2
  cases h2
  cases z with
  | some _ => cases hc
  | none => cases h; exact ⟨_, _, rfl⟩
theorem oneComp_is {e' it : Expr} {x : Str} {ifs : List Expr} {n : Int} {sc : Scope} (h : oneComp e = some (e', x, it, ifs, n, sc)) : ∃ px p, e = .ListComp e' [⟨.Name x px, it, ifs, n⟩] sc p := by
  obtain ⟨⟨f, bs, ks⟩, h1, h⟩ := Option.bind_eq_some_iff.mp h
  obtain ⟨⟨t, i, g, m⟩, h2, h⟩ := Option.bind_eq_some_iff.mp h
  obtain ⟨z, h3, h⟩ := Option.map_eq_some_iff.mp h
  obtain ⟨p, rfl⟩ := compOf_is h1
  cases sole_is h2
  obtain ⟨px, h3⟩ := nameOf_is h3
  cases h3
  cases h
  exact ⟨_, _, rfl⟩
end
noncomputable def notCall (e : Expr) : Bool := e.ctorIdx != 16
/-- o.m(v): o, m, v -/
noncomputable def callPos (e : Expr) : Option (Expr × List Expr × List Keyword × Pos) := pick e.ctorIdx 16 fun hi => Expr.Call.elim (motive_1 := fun _ => Option (Expr × List Expr × List Keyword × Pos)) e hi fun a o b p => some (a, o, b, p)
theorem callPos_is {e : Expr} {a' : Expr} {o' : List Expr} {b' : List Keyword} {p' : Pos} (h : callPos e = some (a', o', b', p')) : e = .Call a' o' b' p' :=
  let ⟨hi, h⟩ := pick_is h
  Expr.Call.elim (motive_1 := fun e => ∀ hi, (Expr.Call.elim (motive_1 := fun _ => Option (Expr × List Expr × List Keyword × Pos)) e hi fun a o b p => some (a, o, b, p)) = some (a', o', b', p') → e = .Call a' o' b' p') e hi (fun a o b p hi h => by cases h; rfl) hi h
noncomputable def methOf (e : Expr) : Option (Expr × Str × Expr) :=
  (callPos e).bind fun q => (sole q.2.1).bind fun v => (attrOf q.1).bind fun r => if (q.2.2.1.isEmpty && r.2.2.endLine == q.2.2.2.line && notStarred v && notCall r.1) = true then some (r.1, r.2.1, v) else Option.none
theorem methOf_is {e o v : Expr} {a : Str} (h : methOf e = some (o, a, v)) : ∃ ap p, e = .Call (.Attribute o a ap) [v] [] p ∧ (ap.endLine == p.line) = true ∧ notStarred v = true ∧ notCall o = true := by
  obtain ⟨⟨f, as, ks, p⟩, h1, h⟩ := Option.bind_eq_some_iff.mp h
  obtain ⟨u, h2, h⟩ := Option.bind_eq_some_iff.mp h
  obtain ⟨⟨o', a', ap⟩, h3, h⟩ := Option.bind_eq_some_iff.mp h
  obtain ⟨hc, h⟩ := andSome h
  cases h
  simp only [Bool.and_eq_true, List.isEmpty_iff] at hc
  obtain ⟨⟨⟨rfl, c2⟩, c3⟩, c4⟩ := hc
  have e1 := callPos_is h1
  have e2 := sole_is h2
  have e3 := attrOf_is h3
  simp only at e1 e2 e3
  subst e1 e2 e3
  exact ⟨_, _, rfl, c2, c3, c4⟩
noncomputable def keysOK : List (List Nat) → List (Option Expr) → Bool
  | [], [] => true
  | k :: ks, some e :: es => constOf e == some (.str ⟨k.toArray⟩) && keysOK ks es
  | _, _ => false
noncomputable def isAbsent : MX → Bool
  | .absent => true
  | _ => false
mutual
noncomputable def agX (sc : Scope) (nm : List (Option Str)) : MX → Expr → Bool
  | .cnone, e => constOf e == some .none
  | .cbool b, e => constOf e == some (.bool b)
  | .cint i, e => constOf e == some (.int i)
  | .cstr s, e => constOf e == some (.str ⟨s.toArray⟩)
  | .var j, e => (match nameOf e with | some x => nameAt nm j == some x && !(x == Str.ofString "__debug__") && !(x == Str.ofString "__classdict__") | Option.none => false)
  | .ty n, e => nameOf e == some (Str.ofString n) && isG sc (Str.ofString n) && (n == "int" || n == "bool")
  | .bin op l r, e => (match binOf e with | some (a, o, b) => op == o && agX sc nm l a && agX sc nm r b | Option.none => false)
  | .neg x, e => (match unOf e with | some (o, a) => o == .USub && agX sc nm x a | Option.none => false)
  | .not x, e => (match unOf e with | some (o, a) => o == .Not && agX sc nm x a | Option.none => false)
  | .boolop op xs, e => (match boolOf e with | some (o, vs) => op == o && agL sc nm xs vs | Option.none => false)
  | .ite t a b, e => (match iteOf e with | some (t', a', b') => agX sc nm t t' && agX sc nm a a' && agX sc nm b b' | Option.none => false)
  | .cmp op l r, e => (match oneCmp e with | some (a, o, b) => op == o && agX sc nm l a && agX sc nm r b && !(behindInMarks o b) | Option.none => false)
  | .call f args, e => (match ownCall e with | some (x, a, as) => x == Str.ofString f && isG sc x && agL sc nm args (a :: as) | Option.none => false)
  | .blt b args, e => (match ownCall e with | some (x, a, as) => x == Str.ofString (bltName b) && isG sc x && agL sc nm args (a :: as) | Option.none => false)
  | .item o i, e => (match subOf e with | some (v, sl) => agX sc nm o v && agX sc nm i sl && notSlice sl | Option.none => false)
  | .slice o lo hi, e => (match oneSlice e with | some (v, l, h) => agX sc nm o v && (match l with | Option.none => isAbsent lo | some x => agX sc nm lo x) && (match h with | Option.none => isAbsent hi | some x => agX sc nm hi x) | Option.none => false)
  | .list xs, e => (match listOf' e with | some es => agL sc nm xs es | Option.none => false)
  | .tuple xs, e => (match tupleOf e with | some es => agL sc nm xs es | Option.none => false)
  | .comp j elt iter tests, e => (match oneComp e with
    | some (e, x, it, ifs, as, sc') => decide (as = 0) && agX sc nm iter it && compOK sc sc' x nm j && agX sc' (innerNames nm sc' j x) elt e && agL sc' (innerNames nm sc' j x) tests ifs && notSet it
    | Option.none => false)
  | .meth m o a, e => (match methOf e with | some (o', x, v) => x == Str.ofString m && (m == "rstrip" || m == "join") && agX sc nm o o' && agX sc nm a v | Option.none => false)
  | .absent, _ => false
  | .dict ks vs, e => (match dictOf e with | some (keys, es) => keysOK ks keys && keys.length == es.length && decide (0 < ks.length) && decide (ks.length ≤ 15) && decide (ks.map fun k => (⟨k.toArray⟩ : Str)).Nodup && agL sc nm vs es | Option.none => false)
  | .nil, _ => false
  | .cons .., _ => false
  | .hole, _ => true
termination_by structural m => m
noncomputable def agL (sc : Scope) (nm : List (Option Str)) : MX → List Expr → Bool
  | .nil, [] => true
  | .cons h t, e :: es => agX sc nm h e && notStarred e && agL sc nm t es
  | _, _ => false
termination_by structural m => m
end
noncomputable def agO (sc : Scope) (nm : List (Option Str)) (m : MX) (e : Option Expr) : Bool := match e with
  | Option.none => isAbsent m
  | some x => agX sc nm m x

/-- what is known of the text's own functions -/
noncomputable def FnOK (prog : Program) (w : World) (B : Heap) (mg : Str → Option Value) (d : Nat) (Φ : Fenv) : Prop :=
  ∀ f, Φ.known f → ∃ a o fd, mg (Str.ofString f) = some (.ref a) ∧ B.get? a = some o ∧ o.data = .func fd ∧
    ∀ args P, Φ.run f args P → ∀ (A : Around) (E : Value → Shared → Prop) (s : Shared) (g : Ghost prog w) (vs : List Value), Room d A → (∀ b o, B.get? b = some o → g b = some o) → Keep g s.heap → RepL g vs args →
      wpAny (model prog w) A (call (.ref a) vs) (Post s g P) E s

theorem FnOK.less {prog : Program} {w : World} {B : Heap} {mg : Str → Option Value} {d : Nat} {Φ : Fenv} (h : FnOK prog w B mg d Φ) : FnOK prog w B mg (d + 1) Φ := fun f hf => by
  obtain ⟨a, o, fd, h1, h2, h3, h4⟩ := h f hf
  exact ⟨a, o, fd, h1, h2, h3, fun args P hp A E s g vs hr => h4 args P hp A E s g vs hr.less⟩

section ops
variable {prog : Program} {w : World} {A : Around} {E : Value → Shared → Prop} {s : Shared} {g : Ghost prog w}

theorem char_is {x : List Nat} {i : Int} {v : Nat} (hv : (if 0 ≤ i then x[i.toNat]? else if -(x.length : Int) ≤ i then x[(i + x.length).toNat]? else Option.none) = some v) :
    (seqIndex? i (Str.length ⟨x.toArray⟩)).bind (fun j => (⟨x.toArray⟩ : Str).cps[j]?) = some v := by
  have hl : Str.length ⟨x.toArray⟩ = x.length := by show x.toArray.size = _; simp
  rw [hl]
  have key : ∀ n : Nat, x[n]? = some v → n < x.length := fun n h => (List.getElem?_eq_some_iff.mp h).1
  unfold seqIndex?
  split at hv
  · rename_i h0
    have := key _ hv
    have e1 : ¬ i < 0 := by omega
    have e2 : (0 : Int) ≤ i ∧ i < x.length := by omega
    simp only [e1, if_false]
    simp [e2]
    exact (List.getElem?_eq_some_iff.mp hv).2
  · split at hv
    · rename_i h0 h1
      have := key _ hv
      have e1 : i < 0 := by omega
      have e2 : (0 : Int) ≤ i + x.length ∧ i + x.length < x.length := by omega
      simp only [e1, if_true]
      simp [e2]
      exact (List.getElem?_eq_some_iff.mp hv).2
    · cases hv

theorem sound_item {o i : Value} {x y : PV} {P : PV → Prop} {value sl : Expr} (hs : notSlice sl = true) (k : Keep g s.heap) (ro : Rep g o x) (ri : Rep g i y) (h : itemM x y P) :
    wpAny (model prog w) A (subscriptTail value sl o i) (Post s g P) E s := by
  unfold itemM at h
  split at h
  · cases ri; cases ro with | list e c d rr =>
    obtain ⟨hl, v, hv, hP⟩ := h
    have hL := list_isList k e c d
    split at hv
    · rename_i h0
      obtain ⟨u, hu, ru⟩ := rr.get _ _ hv
      have hlt := (List.getElem?_eq_some_iff.mp hv).1
      exact tail_any hL.typeIs slot_list_getitem.lookup (wpAny_getItem_list hL h0 (by omega) (by simpa using hu) ⟨g, _, Step.refl k, ru, hP⟩) (subscripted_plain hs)
    · split at hv
      · rename_i h0 h1
        obtain ⟨u, hu, ru⟩ := rr.get _ _ hv
        exact tail_any hL.typeIs slot_list_getitem.lookup (wpAny_getItem_list_neg hL (by omega) (by rw [List.size_toArray, rr.length]; exact h1) (by omega) (by rw [List.size_toArray, rr.length]; simpa using hu) ⟨g, _, Step.refl k, ru, hP⟩) (subscripted_plain hs)
      · cases hv
  · cases ri; cases ro
    obtain ⟨hl, v, hv, hP⟩ := h
    rename_i xs i ti t
    have hb : ¬ (i < -(2 ^ 63 : Int)) ∧ ¬ (i ≥ 2 ^ 63) := by
      split at hv
      · have := (List.getElem?_eq_some_iff.mp hv).1
        omega
      · split at hv
        · omega
        · cases hv
    refine tail_any (typeIs_str _ _ _) PySem.F.slot_str_getitem.lookup (PySem.P.getItem_str (c := v) (by simp; omega) (char_is hv) ?_) (subscripted_plain hs)
    exact Post.toks k _ (.str [v] _) hP
  · cases ri; cases ro with | dict e d hk rr =>
    obtain ⟨v, hv, hP⟩ := h
    obtain ⟨u, hu, ru⟩ := rep_dget hk rr hv
    have hd := Heap.dictOf_iff.mpr ⟨_, k _ _ e, d⟩
    refine tail_any hd.typeIs slot_dict_getitem.lookup (wpAny_getItem_of (strKind_is prog w _ _) hd.mapOf hu ?_) (subscripted_plain hs)
    exact Post.toks k _ ru hP
  · exact h.elim

theorem RepL.cut {vs : List Value} {ps : List PV} (h : RepL g vs ps) (lo hi : Option Int) : RepL g (kms_pick vs lo hi) (Mine.cut ps lo hi) := by
  unfold kms_pick Mine.cut
  rw [h.length]
  exact (h.drop _).take _

theorem part_isPart {v : Value} {x : PV} {K : Option Int → Prop} (r : Rep g v x) (h : partK x K) : ∃ o, IsPart v o ∧ K o := by
  cases r <;> try exact False.elim h
  · exact ⟨_, .none, h⟩
  · exact ⟨_, .int _ _, h⟩

theorem sound_slice {o vl vu : Value} {x : PV} {lo hi : Option Int} {P : PV → Prop} {value : Expr} {a b : Option Expr} {p : Pos} (k : Keep g s.heap) (ro : Rep g o x) (hl : IsPart vl lo) (hu : IsPart vu hi) (h : sliceM x lo hi P) :
    wpAny (model prog w) A (subscriptTail value (.Slice a b Option.none p) o (.ref s.heap.objs.size)) (Post s g P) E { s with heap := s.heap.push { cls := .type "slice", data := .fields #[vl, vu, .none] } } := by
  unfold sliceM at h
  split at h
  · cases ro with | list e c d rr =>
    have S := Step.push k { cls := .type "slice", data := .fields #[vl, vu, .none] } rfl s.toks
    have hL := list_isList (Step.keep S) (S.le _ _ e) c d
    refine tail_any hL.typeIs slot_list_getitem.lookup (wpAny_getItem_list_slice (hsz := by rw [List.size_toArray, rr.length]; exact size16 h.1) hL (Heap.IsSliceOf.new ..) hl hu .none (by simp) ?_) (ops := [.ref s.heap.objs.size, .ref _]) rfl
    refine Post.at S ?_
    rw [kms_pick_eq]
    refine ⟨_, _, Step.push S.keep _ rfl _, .list (putG_self _ _ _) rfl rfl ?_, h.2⟩
    exact (RepL.cut rr lo hi).mono (Le.trans S.le (Step.push S.keep _ rfl s.toks).le)
  · cases ro
    rename_i xs t
    have S := Step.push k { cls := .type "slice", data := .fields #[vl, vu, .none] } rfl s.toks
    have key : ∀ (l u : Option (Int × Tok)), vl = partValue l → vu = partValue u → lo = l.map (·.1) → hi = u.map (·.1) →
        wpAny (model prog w) A (subscriptTail value (.Slice a b Option.none p) (.str ⟨xs.toArray⟩ t) (.ref s.heap.objs.size)) (Post s g P) E { s with heap := s.heap.push { cls := .type "slice", data := .fields #[vl, vu, .none] } } := by
      rintro l u rfl rfl rfl rfl
      have hlen : (⟨xs.toArray⟩ : Str).length ≤ sizeLine := by show Array.size _ ≤ _; rw [List.size_toArray]; exact size16 h.1
      have hsz : (Txt.slice ⟨xs.toArray⟩ (l.map (·.1)) (u.map (·.1))).length ≤ sizeLine := Nat.le_trans (Txt.slice_le _ _ _) hlen
      have hp : ∀ t' k', Post s g P (.str (Txt.slice ⟨xs.toArray⟩ (l.map (·.1)) (u.map (·.1))) t') { s with heap := s.heap.push { cls := .type "slice", data := .fields #[partValue l, partValue u, .none] }, toks := k' } := fun t' k' => by
        rw [slice_is]
        exact Post.at S (Post.toks S.keep _ (.str _ _) h.2)
      have hpost : (sliceMade ⟨xs.toArray⟩ t l u Option.none).post (Post s g P) { s with heap := s.heap.push { cls := .type "slice", data := .fields #[partValue l, partValue u, .none] } } := by
        unfold sliceMade
        unfold Txt.slice at hsz hp
        exact post_val_or_str ⟨hsz, hp⟩
      exact tail_any (typeIs_str _ _ _) PySem.F.slot_str_getitem.lookup (wpAny_getItem_str_slice (l := l) (u := u) (st := none) ⟨_, Heap.get?_push_size _ rfl, rfl, rfl⟩ rfl hpost) (ops := [.ref s.heap.objs.size, .str ⟨xs.toArray⟩ t]) rfl
    cases hl with
    | none => cases hu with
      | none => exact key Option.none Option.none rfl rfl rfl rfl
      | int j u => exact key Option.none (some (j, u)) rfl rfl rfl rfl
    | int i t => cases hu with
      | none => exact key (some (i, t)) Option.none rfl rfl rfl rfl
      | int j u => exact key (some (i, t)) (some (j, u)) rfl rfl rfl rfl
  · exact h.elim

theorem sound_truthy {v : Value} {x : PV} {K : Bool → Prop} {Q : Bool → Shared → Prop} (r : Rep g v x) (h : truthK x K) (hQ : ∀ b t, K b → Q b { s with toks := t }) : wpAny (model prog w) A (PySem.truthy v) Q E s := by
  cases r <;> try exact False.elim h
  · exact PyProof.Rows.truthy_none (hQ _ s.toks h)
  · exact wpAny_truthy_bool (hQ _ s.toks h)
  · exact PyProof.Rows.truthy_int (hQ _ s.toks h)
  · rename_i xs t
    obtain ⟨h1, h2⟩ : xs.length ≤ 16777216 ∧ K (!xs.isEmpty) := h
    have := hQ _ (s.toks + 1 + 1) h2
    refine PySem.P.truthy_str (by show ¬ ((xs.toArray.size : Nat) : Int) ≥ 2 ^ 63; rw [List.size_toArray]; omega) ?_
    have e : ((Str.length ⟨xs.toArray⟩ : Int) != 0) = !xs.isEmpty := by
      show (((xs.toArray.size : Nat) : Int) != 0) = _
      rw [List.size_toArray]
      cases xs <;> simp
      omega
    rw [e]; exact this
end ops
end Mine
end part_W3
section part_W4
set_option Elab.async false
set_option maxRecDepth 10000
set_option linter.unusedVariables false
namespace Mine
open PySem PySem.W PyProof.Rows

noncomputable def bltNames : List String := ["abs", "len", "range", "max", "isinstance", "int", "str", "ord", "sum", "list", "divmod", "bool", "sorted"]
theorem bltName_mem (b : Blt) : bltName b ∈ bltNames := by cases b <;> decide

/-- what is fixed for the whole law -/
structure Law (prog : Program) (w : World) (B : Heap) (mg mb : Str → Option Value) : Prop where
  gnd : Gnd mg mb B
  free : ∀ n ∈ bltNames, mg (Str.ofString n) = Option.none

theorem loadVar {M : Model} {A : Around} {E : Value → Shared → Prop} {s : Shared} {env : Env} {x : Str} {v : Value} {Q : Value → Shared → Prop} (hk : env.scope.kind = .function) (hv : VarAt s.heap env x v) (hd : (x == Str.ofString "__classdict__") = false) (h : Q v s) :
    wpAny M A (loadName env x) Q E s := by
  rcases hv with ⟨hl, m, hn, hm⟩ | ⟨hl, c, hc, hi⟩
  · exact wpAny_loadName_local hk hl hn hm h
  · rcases hl with hl | hl
    · exact wpAny_loadName_cell hk hl hc hi h
    · exact wpAny_loadName_free hk hl hc hi h hd

section
variable {prog : Program} {w : World} {B : Heap} {mg mb : Str → Option Value} {A : Around} {E : Value → Shared → Prop} {s : Shared} {g : Ghost prog w} {sc : Scope} {nm : List (Option Str)} {env : Env} {k : Ghost prog w} {σ : List Slot}

theorem isG_iff {x : Str} (h : isG sc x = true) : sc.names.lookup x = some .globalImplicit ∧ (x == Str.ofString "__debug__") = false := by
  unfold isG at h
  simp only [Bool.and_eq_true, Bool.not_eq_true', beq_iff_eq] at h
  exact ⟨h.1, h.2⟩

theorem sound_builtinName {n : String} {v : Value} {pos : Pos} {Q : Value → Shared → Prop} (L : Law prog w B mg mb) (H : EnvOK B sc nm env k σ g s) (hx : isG sc (Str.ofString n) = true) (hn : n ∈ bltNames) (hne : Str.ofString n ≠ Str.ofString "__name__") (hv : bootBuiltins (Str.ofString n) = some v)
    (h : Q v s) : wpAny (model prog w) A (eval (.Name (Str.ofString n) pos) env) Q E s := by
  obtain ⟨h1, h2⟩ := isG_iff hx
  refine Calls.Name_function_global H.kind (H.names _ h1) (Calls.loadGlobal_builtin (mg := mg) (mb := mb) (by rw [H.glob]; exact L.gnd.g.keeps H.up) (L.free n hn) (by rw [H.blt]; exact L.gnd.b.keeps H.up) ?_ h) h2
  rw [L.gnd.boot _ hne]; exact hv

theorem sound_ownName {f : String} {v : Value} {pos : Pos} {Q : Value → Shared → Prop} (L : Law prog w B mg mb) (H : EnvOK B sc nm env k σ g s) (hx : isG sc (Str.ofString f) = true) (hv : mg (Str.ofString f) = some v)
    (h : Q v s) : wpAny (model prog w) A (eval (.Name (Str.ofString f) pos) env) Q E s := by
  obtain ⟨h1, h2⟩ := isG_iff hx
  exact Calls.Name_function_global H.kind (H.names _ h1) (Calls.loadGlobal_global (mg := mg) (by rw [H.glob]; exact L.gnd.g.keeps H.up) hv h) h2

theorem callWith_bltVal (b : Blt) {pos : Pos} {e : Expr} {es : List Expr} {Q : Value → Shared → Prop} (he : notStarred e = true) (hes : (backTo pos (starEach es env)).any (·.1) = false)
    (h : wpAny (model prog w) A (spliced (backTo pos (starEach (e :: es) env))) (fun vs s₁ => wpAny (model prog w) A (call (bltVal b) vs) Q E s₁) E s) :
    wpAny (model prog w) A (callWith pos (bltVal b) [] (backTo pos (starEach (e :: es) env)) []) Q E s := by
  rw [starEach_cons he] at h ⊢
  have hp : (backTo pos ((false, eval e env) :: starEach es env)).any (·.1) = false := by
    show (false || (backTo pos (starEach es env)).any (·.1)) = false
    rw [hes]; rfl
  cases b
  case abs => exact Calls.callWith_builtin hp (Calls.evalArgs_plain h)
  case len => exact Calls.callWith_builtin hp (Calls.evalArgs_plain h)
  case max => exact Calls.callWith_builtin hp (Calls.evalArgs_plain h)
  case isinst => exact Calls.callWith_builtin hp (Calls.evalArgs_plain h)
  case ord => exact Calls.callWith_builtin hp (Calls.evalArgs_plain h)
  case sum => exact Calls.callWith_builtin hp (Calls.evalArgs_plain h)
  case divmod => exact Calls.callWith_builtin hp (Calls.evalArgs_plain h)
  case range => exact PyProof.Rows.callWith_type hp (Calls.evalArgs_plain h)
  case int => exact PyProof.Rows.callWith_type hp (Calls.evalArgs_plain h)
  case str => exact PyProof.Rows.callWith_type hp (Calls.evalArgs_plain h)
  case list => exact PyProof.Rows.callWith_type hp (Calls.evalArgs_plain h)

theorem agL_plain : ∀ (m : MX) (es : List Expr) (pos : Pos), agL sc nm m es = true → (backTo pos (starEach es env)).any (·.1) = false
  | m, [], pos, h => rfl
  | m, e :: es, pos, h => by
    cases m <;> simp [agL] at h
    rename_i a b
    rw [starEach_cons h.1.2]
    show (false || (backTo pos (starEach es env)).any (·.1)) = false
    rw [agL_plain b es pos h.2]; rfl
end
end Mine
end part_W4
section part_W5
set_option Elab.async false
set_option maxRecDepth 10000
set_option linter.unusedVariables false
namespace Mine
open PySem PySem.W PyProof.Rows

/-- an iterator over the items, at its start -/
noncomputable def IterAt (prog : Program) (w : World) (A : Around) (g : Ghost prog w) (items : List PV) (s₂ : Shared) (I : Addr) : Prop :=
  ∃ fp P St, Walks prog w A I fp [I] items.length P St ∧ (∀ i v, i < items.length → P i v → ∃ p, items[i]? = some p ∧ Rep g v p) ∧ St 0 s₂.heap ∧ (∀ b ∈ fp, b = I ∨ ∃ o, g b = some o) ∧ (∀ i h, St i h → ∃ o, h.get? I = some o)

section
variable {prog : Program} {w : World} {A : Around} {E : Value → Shared → Prop} {s : Shared} {g : Ghost prog w}

theorem rangeSize_one (lo hi : Int) : Builtin.Range.rangeSize lo hi 1 = (((hi - lo).toNat : Nat) : Int) := by
  unfold Builtin.Range.rangeSize
  simp
  split <;> omega

theorem rangeItems_get {lo hi : Int} {i : Nat} (h : i < (hi - lo).toNat) : (rangeItems lo hi)[i]? = some (.int (lo + (i : Int))) := by
  simp [rangeItems, h]
theorem rangeItems_length (lo hi : Int) : (rangeItems lo hi).length = (hi - lo).toNat := by simp [rangeItems]

theorem sound_iter {v : Value} {x : PV} {K : List PV → Prop} {Q : Value → Shared → Prop} (hh : A.handled = Option.none) (k : Keep g s.heap) (r : Rep g v x) (hi : itemsK x K)
    (h : ∀ items I s₂, K items → Keeps s s₂ → s.heap.get? I = Option.none → IterAt prog w A g items s₂ I → Q (.ref I) s₂) : wpAny (model prog w) A (pyIter v) Q E s := by
  cases r <;> try exact False.elim hi
  · rename_i xs t
    have hi : K (xs.map fun c => .str [c]) := hi
    have hsz : (⟨xs.toArray⟩ : Str).cps.size = (xs.map fun c => PV.str [c]).length := by simp
    have hat : ∀ i v, i < (xs.map fun c => PV.str [c]).length → SignAt ⟨xs.toArray⟩ i v → ∃ p, (xs.map fun c => PV.str [c])[i]? = some p ∧ Rep g v p := by
      rintro i v hi ⟨c, u, hc, rfl⟩
      refine ⟨.str [c], ?_, .str [c] u⟩
      have hc : xs[i]? = some c := by simpa using hc
      rw [List.getElem?_map, hc]; rfl
    cases ha : (⟨xs.toArray⟩ : Str).cps.all (· < 128) with
    | false =>
      refine wpAny_pyIter_wide ha (h _ _ _ hi ⟨_, _, rfl, fun b o e => Heap.get?_push_of_some _ e⟩ (fresh_none _) ?_)
      have W := Walks.strWide (prog := prog) (w := w) hh s.heap.objs.size ⟨xs.toArray⟩ t
      rw [hsz] at W
      exact ⟨_, _, _, W, hat, ⟨_, Heap.get?_push_size _ rfl, rfl, rfl⟩, fun b hb => .inl (List.mem_singleton.mp hb), fun i h' st => let ⟨o, ho, _⟩ := st; ⟨o, ho⟩⟩
    | true =>
      refine wpAny_pyIter_ascii ha (h _ _ _ hi ⟨_, _, rfl, fun b o e => Heap.get?_push_of_some _ e⟩ (fresh_none _) ?_)
      have W := Walks.strAscii (prog := prog) (w := w) hh s.heap.objs.size ⟨xs.toArray⟩ t
      rw [hsz] at W
      exact ⟨_, _, _, W, hat, ⟨_, Heap.get?_push_size _ rfl, rfl, rfl⟩, fun b hb => .inl (List.mem_singleton.mp hb), fun i h' st => let ⟨o, ho, _⟩ := st; ⟨o, ho⟩⟩
  · rename_i a o vs n xs e c d r
    have hi : K xs := hi
    have hL := list_isList k e c d
    have hlt := Heap.lt_size (k _ _ e)
    refine wpAny_pyIter_list hL (h _ _ _ hi ⟨_, _, rfl, fun b o e => Heap.get?_push_of_some _ e⟩ (fresh_none _) ?_)
    have W := Walks.list (prog := prog) (w := w) hh s.heap.objs.size a (Nat.ne_of_lt hlt) vs.toArray
    have hsz : vs.toArray.size = xs.length := by rw [List.size_toArray, r.length]
    rw [hsz] at W
    refine ⟨_, _, _, W, ?_, ⟨⟨_, Heap.get?_push_size _ rfl, rfl, rfl⟩, hL.push _⟩, ?_, ?_⟩
    · intro i v hi hv
      obtain ⟨p, hp, rp⟩ := r.get' i v (by simpa using hv)
      exact ⟨p, hp, rp⟩
    · intro b hb
      rcases List.mem_cons.mp hb with hb | hb
      · exact .inl hb
      · rw [List.mem_singleton.mp hb]; exact .inr ⟨_, e⟩
    · rintro i h' ⟨⟨o', ho', _⟩, _⟩; exact ⟨o', ho'⟩
  · rename_i a lo hi' t u v' e
    have hi : K (rangeItems lo hi') := hi
    cases hsm : Builtin.Range.small lo hi' 1 with
    | true =>
      refine wpAny_pyIter_range (k _ _ e) hsm (h _ _ _ hi ⟨_, _, rfl, fun b o e => Heap.get?_push_of_some _ e⟩ (fresh_none _) ?_)
      have W := Walks.range (prog := prog) (w := w) hh s.heap.objs.size lo 1 (rangeItems lo hi').length
      refine ⟨_, _, _, W, ?_, ?_, ?_, ?_⟩
      · rintro i v hi ⟨t, rfl⟩
        rw [rangeItems_length] at hi
        rw [Int.mul_one]
        exact ⟨_, rangeItems_get hi, .int _ _⟩
      · rw [rangeItems_length, rangeSize_one]
        have := Heap.get?_push_size s.heap (o := { cls := .type "range_iterator", data := .fields #[rawInt lo, rawInt ((hi' - lo).toNat : Nat), rawInt 1] }) rfl
        simpa using this
      · intro b hb
        exact .inl (List.mem_singleton.mp hb)
      · intro i h' st; exact ⟨_, st⟩
    | false =>
      refine wpAny_pyIter_longrange (k _ _ e) hsm (h _ _ _ hi ⟨_, _, rfl, fun b o e => Heap.get?_push_of_some _ e⟩ (fresh_none _) ?_)
      have W := Walks.longrange (prog := prog) (w := w) hh s.heap.objs.size lo 1 (rangeItems lo hi').length
      refine ⟨_, _, _, W, ?_, ?_, ?_, ?_⟩
      · rintro i v hi ⟨t, rfl⟩
        rw [rangeItems_length] at hi
        rw [Int.mul_one]
        exact ⟨_, rangeItems_get hi, .int _ _⟩
      · rw [rangeItems_length, rangeSize_one]
        have := Heap.get?_push_size s.heap (o := { cls := .type "longrange_iterator", data := .fields #[rawInt lo, rawInt ((hi' - lo).toNat : Nat), rawInt 1] }) rfl
        simpa using this
      · intro b hb
        exact .inl (List.mem_singleton.mp hb)
      · intro i h' st; exact ⟨_, st⟩
end
end Mine
end part_W5
section part_W6
set_option Elab.async false
set_option maxRecDepth 10000
set_option linter.unusedVariables false
namespace Mine
open PySem PySem.W PyProof.Rows

section
variable {prog : Program} {w : World} {A : Around} {s : Shared} {g : Ghost prog w}

/-- what a turn may lean on -/
noncomputable def InComp (s : Shared) (g : Ghost prog w) (C I D : Addr) (x : Str) (p : PV) (s₃ : Shared) (g₃ : Ghost prog w) : Prop :=
  (∃ m v, s₃.heap.Ns C m ∧ m x = some v ∧ Rep g₃ v p) ∧ Keep g₃ s₃.heap ∧ Le g g₃ ∧ (∀ b o, b ≠ I → b ≠ C → b ≠ D → s.heap.get? b = some o → s₃.heap.get? b = some o) ∧ (∀ b, g b = Option.none → g₃ b ≠ Option.none → s.heap.get? b = Option.none)

theorem comp_loop {elt iter : Expr} {x : Str} {px : Pos} {ifs : List Expr} {scope : Scope} {pos : Pos} {I D : Addr} {items : List PV} {cenv : Env} {m : Str → Option Value} {R : Result → Shared → Prop}
    {test : PV → (Bool → Prop) → Prop} {el : PV → (PV → Prop) → Prop} {P : List PV → Prop}
    (hI : IterAt prog w A g items s I) (hn : items.length ≤ 16777216) (hx : cenv.kindOf x = some .local) (hp : (cenv.scope.kind == .class || (cenv.scope.kind == .module && cenv.locals != cenv.globals)) = false)
    (hDC : D ≠ cenv.locals) (hIC : I ≠ cenv.locals) (hID : I ≠ D) (k : Keep g s.heap) (gI : g I = Option.none) (gC : g cenv.locals = Option.none) (gD : g D = Option.none)
    (hD : s.heap.PlainList D #[]) (hC : s.heap.Ns cenv.locals m)
    (htest : ∀ p s₃ g₃ R (E' : Value → Shared → Prop), InComp s g cenv.locals I D x p s₃ g₃ → test p R →
      wpAny (model prog w) A (forIn ifs true fun c r => if r = true then do let ok ← isTrue c cenv (eval c cenv); pure (ForInStep.yield ok) else pure (ForInStep.yield r)) (PostB s₃ g₃ R) E' s₃)
    (helt : ∀ p s₃ g₃ R (E' : Value → Shared → Prop), InComp s g cenv.locals I D x p s₃ g₃ → el p R → wpAny (model prog w) A (eval elt cenv) (Post s₃ g₃ R) E' s₃)
    (hgo : compGo test el P items [])
    (hR : ∀ h' tk m' ys acc g' o, h'.Ns cenv.locals m' → h'.PlainList D ys → RepL g' ys.toList acc → Le g g' → (∀ b, g b = Option.none → g' b ≠ Option.none → s.heap.get? b = Option.none) → Keep g' h' → g' cenv.locals = Option.none → g' D = Option.none →
      (∀ b o, b ≠ I → b ≠ cenv.locals → b ≠ D → s.heap.get? b = some o → h'.get? b = some o) → h'.get? D = some o → P acc → R (.ok .next) { s with heap := h', toks := tk }) :
    codeAny (model prog w) A (.compLoop (.ListComp elt [⟨.Name x px, iter, ifs, 0⟩] scope pos) 0 (.ref I) (.ref D) cenv) R s := by
  obtain ⟨fp, PP, St, W, hP, hst, hfp, hIo⟩ := hI
  refine codeAny_compLoop_tests
    (fun kk s' => ∃ h' tk m' i ys acc g', s' = { s with heap := h', toks := tk } ∧ i ≤ items.length ∧ kk = items.length + 1 - i ∧ St i h' ∧ h'.Ns cenv.locals m' ∧ h'.PlainList D ys ∧ ys.size ≤ i ∧ RepL g' ys.toList acc ∧ Le g g' ∧
      (∀ b, g b = Option.none → g' b ≠ Option.none → s.heap.get? b = Option.none) ∧ Keep g' h' ∧ g' I = Option.none ∧ g' cenv.locals = Option.none ∧ g' D = Option.none ∧
      (∀ b o, b ≠ I → b ≠ cenv.locals → b ≠ D → s.heap.get? b = some o → h'.get? b = some o) ∧ compGo test el P (items.drop i) acc) ?_ (items.length + 1)
    ⟨s.heap, s.toks, m, 0, #[], [], g, rfl, Nat.zero_le _, rfl, hst, hC, hD, Nat.le_refl _, .nil, Le.refl g, fun b h h' => absurd h h', k, gI, gC, gD, fun _ _ _ _ _ e => e, by simpa using hgo⟩
  rintro kk s' ⟨h', tk, m', i, ys, acc, g', rfl, hi, rfl, hst', hC', hD', hys, rys, hle, hnew, hk, gI', gC', gD', hkeep, hgo'⟩
  -- a heap that keeps the ghost and the iterator keeps the walk
  have frame : ∀ {j : Nat} {a b : Heap} {gg : Ghost prog w}, St j a → Keep gg a → Keep gg b → Le g gg → (∀ o, a.get? I = some o → b.get? I = some o) → St j b := fun st ka kb l e =>
    W.frame _ _ _ st fun x hx o ho => by
      rcases hfp x hx with rfl | ⟨o', ho'⟩
      · exact e o ho
      · have h1 := ka x o' (l x o' ho')
        rw [h1] at ho; cases ho
        exact kb x _ (l x _ ho')
  by_cases hlt : i < items.length
  · refine W.item i _ _ _ hlt hst' fun v h₁ tk₁ hPv hst₁ hk₁ => ?_
    obtain ⟨p, hpi, rv⟩ := hP i v hlt hPv
    have hdrop : items.drop i = p :: items.drop (i + 1) := by
      rw [List.drop_eq_getElem_cons hlt]
      congr 1
      have := List.getElem?_eq_some_iff.mp hpi
      exact this.2
    rw [hdrop] at hgo'
    unfold compGo at hgo'
    have hC₁ : h₁.Ns cenv.locals m' := hC'.at' fun o e => hk₁ _ o (by simpa using Ne.symm hIC) e
    refine wpAny_assign_Name (wpAny_storeName_local hx hC₁ (fun h₂ hC₂ hs₂ => ?_) hp)
    have up₂ : ∀ b o, b ≠ I → b ≠ cenv.locals → h'.get? b = some o → h₂.get? b = some o := fun b o hb1 hb2 e => hs₂.extBut b o hb2 (hk₁ b o (by simpa using hb1) e)
    have k₁ : Keep g' h₁ := fun b o e => hk₁ b o (by intro hm; rw [List.mem_singleton.mp hm, gI'] at e; cases e) (hk b o e)
    have k₂ : Keep g' h₂ := fun b o e => hs₂.extBut b o (by rintro rfl; rw [gC'] at e; cases e) (k₁ b o e)
    have hst₂ : St (i + 1) h₂ := frame hst₁ k₁ k₂ hle fun o e => hs₂.extBut _ o hIC e
    have hD₂ : h₂.PlainList D ys := hD'.at fun o e => up₂ D o (Ne.symm hID) hDC e
    have inC : InComp s g cenv.locals I D x p { s with heap := h₂, toks := tk₁ + 1 } g' :=
      ⟨⟨_, v, hC₂, by simp, rv.mono hle⟩, k₂, hle, fun b o h1 h2 h3 e => up₂ b o h1 h2 (hkeep b o h1 h2 h3 e), hnew⟩
    refine wpAny_mono (htest p _ g' _ _ inC hgo') (fun ok s₃ h₃ => ?_) fun _ _ e => e
    obtain ⟨g₃, S₃, hok⟩ := h₃
    obtain ⟨h₃, tk₃, rfl, hk₃⟩ := S₃.keeps
    obtain ⟨oI, eI⟩ := hIo _ _ hst₂
    obtain ⟨oC, _, _, eC, _⟩ := id hC₂
    obtain ⟨nD, eD⟩ := id hD₂
    have gI₃ := S₃.still eI gI'
    have gC₃ := S₃.still eC gC'
    have gD₃ := S₃.still eD gD'
    have hst₃ : St (i + 1) h₃ := frame hst₂ (fun b o e => k₂ b o e) (fun b o e => hk₃ b o (k₂ b o e)) hle fun o e => hk₃ _ o e
    have hnew₃ : ∀ b, g b = Option.none → g₃ b ≠ Option.none → s.heap.get? b = Option.none := fun b h1 h2 => by
      by_cases hb : g' b = Option.none
      · have hb2 := S₃.new b hb h2
        cases e2 : s.heap.get? b with
        | none => rfl
        | some o =>
          by_cases hbI : b = I
          · rw [hbI, gI₃] at h2; exact absurd rfl h2
          by_cases hbC : b = cenv.locals
          · rw [hbC, gC₃] at h2; exact absurd rfl h2
          by_cases hbD : b = D
          · rw [hbD, gD₃] at h2; exact absurd rfl h2
          have := up₂ b o hbI hbC (hkeep b o hbI hbC hbD e2)
          rw [this] at hb2; cases hb2
      · exact hnew b h1 hb
    have keep₃ : ∀ b o, b ≠ I → b ≠ cenv.locals → b ≠ D → s.heap.get? b = some o → h₃.get? b = some o := fun b o h1 h2 h3 e => hk₃ b o (up₂ b o h1 h2 (hkeep b o h1 h2 h3 e))
    cases ok with
    | false =>
      simp only [Bool.false_eq_true, if_false] at hok ⊢
      exact ⟨items.length + 1 - (i + 1), by omega, h₃, tk₃, _, i + 1, ys, acc, g₃, rfl, hlt, rfl, hst₃, hC₂.keeps hk₃, hD₂.at fun o e => hk₃ _ o e, by omega, rys.mono S₃.le, hle.trans S₃.le, hnew₃, S₃.keep, gI₃, gC₃, gD₃, keep₃, hok⟩
    | true =>
      simp only [if_true] at hok ⊢
      have inC₃ : InComp s g cenv.locals I D x p { s with heap := h₃, toks := tk₃ } g₃ :=
        ⟨⟨_, v, hC₂.keeps hk₃, by simp, (rv.mono hle).mono S₃.le⟩, S₃.keep, hle.trans S₃.le, keep₃, hnew₃⟩
      refine wpAny_mono (helt p _ g₃ _ _ inC₃ hok) (fun y s₄ h₄ => ?_) fun _ _ e => e
      obtain ⟨g₄, q, S₄, rq, hq⟩ := h₄
      obtain ⟨h₄, tk₄, rfl, hk₄⟩ := S₄.keeps
      have eI₃ := hk₃ _ _ eI
      have eC₃ := hk₃ _ _ eC
      have eD₃ := hk₃ _ _ eD
      have gI₄ := S₄.still eI₃ gI₃
      have gC₄ := S₄.still eC₃ gC₃
      have gD₄ := S₄.still eD₃ gD₃
      have hD₄ : h₄.PlainList D ys := (hD₂.at fun o e => hk₃ _ o e).at fun o e => hk₄ _ o e
      refine wpAny_list_append_plain (hsz := by have := hys; rw [sizeLine_eq]; omega) hD₄ fun h₅ hD₅ hs₅ => ?_
      have k₅ : Keep g₄ h₅ := fun b o e => hs₅.extBut b o (by rintro rfl; rw [gD₄] at e; cases e) (S₄.keep b o e)
      have hst₅ : St (i + 1) h₅ := frame hst₃ S₃.keep (fun b o e => k₅ b o (S₄.le b o e)) (hle.trans S₃.le) fun o e => hs₅.extBut _ o hID (hk₄ _ o e)
      refine ⟨items.length + 1 - (i + 1), by omega, h₅, tk₄, _, i + 1, ys.push y, acc ++ [q], g₄, rfl, hlt, rfl, hst₅, ((hC₂.keeps hk₃).keeps hk₄).sameBut hs₅ (Ne.symm hDC), hD₅, by rw [Array.size_push]; omega, ?_, (hle.trans S₃.le).trans S₄.le, ?_, k₅, gI₄, gC₄, gD₄,
        fun b o h1 h2 h3 e => hs₅.extBut b o h3 (hk₄ b o (keep₃ b o h1 h2 h3 e)), hq⟩
      · rw [Array.toList_push]; exact ((rys.mono S₃.le).mono S₄.le).append (.cons rq .nil)
      · intro b h1 h2
        by_cases hb : g₃ b = Option.none
        · have hb2 := S₄.new b hb h2
          cases e2 : s.heap.get? b with
          | none => rfl
          | some o =>
            by_cases hbI : b = I
            · rw [hbI, gI₄] at h2; exact absurd rfl h2
            by_cases hbC : b = cenv.locals
            · rw [hbC, gC₄] at h2; exact absurd rfl h2
            by_cases hbD : b = D
            · rw [hbD, gD₄] at h2; exact absurd rfl h2
            have := keep₃ b o hbI hbC hbD e2
            rw [this] at hb2; cases hb2
        · exact hnew₃ b h1 hb
  · have hin : i = items.length := by omega
    subst hin
    refine W.done _ _ _ hst' fun h₁ tk₁ hk₁ => ?_
    rw [List.drop_length] at hgo'
    unfold compGo at hgo'
    have k₁ : Keep g' h₁ := fun b o e => hk₁ b o (by intro hm; rw [List.mem_singleton.mp hm, gI'] at e; cases e) (hk b o e)
    have hD₁ : h₁.PlainList D ys := hD'.at fun o e => hk₁ _ o (by simpa using Ne.symm hID) e
    obtain ⟨nD, eD⟩ := id hD₁
    exact hR h₁ tk₁ m' ys acc g' _ (hC'.at' fun o e => hk₁ _ o (by simpa using Ne.symm hIC) e) hD₁ rys hle hnew k₁ gC' gD' (fun b o h1 h2 h3 e => hk₁ b o (by simpa using h1) (hkeep b o h1 h2 h3 e)) eD hgo'
end
end Mine
end part_W6
section part_W7
set_option Elab.async false
set_option maxRecDepth 10000
set_option linter.unusedVariables false
namespace Mine
open PySem PySem.W PyProof.Rows

theorem clos_go (env : Env) : ∀ (l : List (Str × NameKind)) (acc : List (Str × Addr)), (∀ y ∈ l, y.2 = .free → (env.cells.lookup y.1).isSome = true) →
    ∃ cl, (forIn l acc (fun (x : Str × NameKind) (r : List (Str × Addr)) => (if (x.2 == NameKind.free) = true then (do let a ← cellOf env x.1; pure (ForInStep.yield ((x.1, a) :: r))) else pure (ForInStep.yield r) : Sem (ForInStep (List (Str × Addr)))))) = pure cl ∧
      ∀ x, cl.lookup x = if (∃ y ∈ l, y.1 = x ∧ y.2 = .free) then env.cells.lookup x else acc.lookup x
  | [], acc, _ => ⟨acc, rfl, fun x => by simp⟩
  | (n, kd) :: r, acc, h => by
    by_cases hk : kd = .free
    · subst hk
      obtain ⟨c, hc⟩ := Option.isSome_iff_exists.mp (h (n, .free) List.mem_cons_self rfl)
      obtain ⟨cl, e, hl⟩ := clos_go env r ((n, c) :: acc) fun y hy => h y (List.mem_cons_of_mem _ hy)
      refine ⟨cl, ?_, fun x => ?_⟩
      · rw [List.forIn_cons]
        simp only [beq_self_eq_true, if_true]
        have e1 : cellOf env n = pure c := by unfold cellOf; simp only at hc; rw [hc]
        rw [e1]; exact e
      · rw [hl x]
        by_cases h1 : ∃ y ∈ r, y.1 = x ∧ y.2 = .free
        · obtain ⟨y, hy, h2⟩ := h1
          rw [if_pos ⟨y, hy, h2⟩, if_pos ⟨y, List.mem_cons_of_mem _ hy, h2⟩]
        · rw [if_neg h1]
          by_cases hx : n = x
          · rw [if_pos ⟨(n, .free), List.mem_cons_self, hx, rfl⟩, ← hx, List.lookup_cons]; simp only at hc; simp [hc]
          · rw [if_neg]
            · rw [List.lookup_cons]; simp [show (x == n) = false by simpa using fun e => hx e.symm]
            · rintro ⟨y, hy, h2, h3⟩
              rcases List.mem_cons.mp hy with rfl | hy
              · exact hx h2
              · exact h1 ⟨y, hy, h2, h3⟩
    · obtain ⟨cl, e, hl⟩ := clos_go env r acc fun y hy => h y (List.mem_cons_of_mem _ hy)
      refine ⟨cl, ?_, fun x => ?_⟩
      · rw [List.forIn_cons]
        have : (kd == NameKind.free) = false := by simpa using hk
        simp only [this, Bool.false_eq_true, if_false]
        exact e
      · rw [hl x]
        by_cases h1 : ∃ y ∈ r, y.1 = x ∧ y.2 = .free
        · obtain ⟨y, hy, h2⟩ := h1
          rw [if_pos ⟨y, hy, h2⟩, if_pos ⟨y, List.mem_cons_of_mem _ hy, h2⟩]
        · rw [if_neg h1, if_neg]
          rintro ⟨y, hy, h2, h3⟩
          rcases List.mem_cons.mp hy with rfl | hy
          · exact hk h3
          · exact h1 ⟨y, hy, h2, h3⟩

theorem closureFor_is {env : Env} {scope : Scope} (h : ∀ y ∈ scope.names, y.2 = .free → (env.cells.lookup y.1).isSome = true) :
    ∃ cl, closureFor scope env = pure cl ∧ ∀ x, scope.names.lookup x = some .free → cl.lookup x = env.cells.lookup x := by
  obtain ⟨cl, e, hl⟩ := clos_go env scope.names [] h
  refine ⟨cl, ?_, fun x hx => ?_⟩
  · unfold closureFor
    have : ∀ t : Sem (List (Str × Addr)), (t >>= fun r => pure r) = t := fun t => by simp
    refine Eq.trans ?_ e
    simp only [bind_pure]
  · rw [hl x, if_pos ⟨(x, .free), mem_of_lookup hx, rfl, rfl⟩]

/-- a change of the kinds alone is seen through a look-up -/
theorem lookup_map {g : Str × NameKind → Str × NameKind} (hg : ∀ y, (g y).1 = y.1) (x : Str) : ∀ l : List (Str × NameKind), (l.map g).lookup x = (l.lookup x).map fun kd => (g (x, kd)).2
  | [] => rfl
  | (n, kd) :: r => by
    have e : g (n, kd) = (n, (g (n, kd)).2) := Prod.ext (hg _) rfl
    rw [List.map_cons, e, List.lookup_cons, List.lookup_cons, lookup_map hg x r]
    cases hx : x == n with
    | false => rfl
    | true => rw [eq_of_beq hx]; rfl
theorem relabel_at {sc : Scope} {env : Env} (x : Str) : ∃ F : NameKind → NameKind, (relabel sc env).names.lookup x = (sc.names.lookup x).map F ∧ (∀ kd, kd ≠ .free → F kd = kd) ∧ (F .free = .cell ∨ F .free = .free) := by
  refine ⟨_, lookup_map (fun y => ?_) x sc.names, fun kd hk => ?_, ?_⟩
  · dsimp only
    split <;> rfl
  · have : (kd == NameKind.free) = false := by simpa using hk
    dsimp only
    rw [this]
    rfl
  · dsimp only
    split
    · exact .inl rfl
    · exact .inr rfl
theorem lookup_relabel_global {env : Env} {sc : Scope} {x : Str} {kd : NameKind} (hk : kd ≠ .free) (h : sc.names.lookup x = some kd) : (relabel sc env).names.lookup x = some kd := by
  obtain ⟨F, e, f1, _⟩ := relabel_at (sc := sc) (env := env) x
  rw [e, h, Option.map_some, f1 kd hk]
theorem lookup_relabel_free {env : Env} {sc : Scope} {x : Str} (h : sc.names.lookup x = some .free) : (relabel sc env).names.lookup x = some .cell ∨ (relabel sc env).names.lookup x = some .free := by
  obtain ⟨F, e, _, f2⟩ := relabel_at (sc := sc) (env := env) x
  rw [e, h, Option.map_some]
  exact f2.imp (congrArg some) (congrArg some)

structure CompOK (sc sc' : Scope) (x : Str) (nm : List (Option Str)) (j : Nat) : Prop where
  kind : sc'.kind = .function
  nocell : ∀ y ∈ sc'.names, y.2 ≠ .cell
  locs : ∀ y ∈ sc'.names, y.2 = .local → sc'.names.lookup y.1 = some .local
  x : sc'.names.lookup x = some .local
  free : ∀ y ∈ sc'.names, y.2 = .free → sc'.names.lookup y.1 = some .free ∧ (sc.names.lookup y.1 = some .cell ∨ sc.names.lookup y.1 = some .free)
  j : j < nm.length
theorem compOK_iff {sc sc' : Scope} {x : Str} {nm : List (Option Str)} {j : Nat} (h : compOK sc sc' x nm j = true) : CompOK sc sc' x nm j := by
  unfold compOK at h
  simp only [Bool.and_eq_true, beq_iff_eq, List.all_eq_true, bne_iff_ne, ne_eq, Bool.or_eq_true, decide_eq_true_eq, Bool.not_eq_true'] at h
  obtain ⟨⟨⟨⟨⟨⟨h1, h2⟩, h3⟩, h4⟩, h5⟩, h6⟩, h7⟩ := h
  refine ⟨h1, h2, fun y hy e => ?_, h4, fun y hy e => ?_, h6⟩
  · rcases h3 y hy with h | h
    · exact absurd e h
    · exact h
  · rcases h5 y hy with h | h
    · exact absurd e h
    · exact h

theorem getS_setS_self : ∀ (σ : List Slot) (j : Nat) (v : Slot), j < σ.length → getS (setS σ j v) j = v
  | [], j, v, h => by simp at h
  | x :: r, 0, v, h => rfl
  | x :: r, j + 1, v, h => getS_setS_self r j v (by simpa using h)
theorem getS_setS_ne : ∀ (σ : List Slot) (j i : Nat) (v : Slot), i ≠ j → getS (setS σ j v) i = getS σ i
  | [], j, i, v, h => rfl
  | x :: r, 0, 0, v, h => absurd rfl h
  | x :: r, 0, i + 1, v, h => rfl
  | x :: r, j + 1, 0, v, h => rfl
  | x :: r, j + 1, i + 1, v, h => getS_setS_ne r j i v (by omega)
theorem getS_setS_or (σ : List Slot) (j : Nat) (v : Slot) : getS (setS σ j v) j = v ∨ getS (setS σ j v) j = .no := by
  by_cases h : j < σ.length
  · exact .inl (getS_setS_self σ j v h)
  · refine .inr ?_
    have : ∀ (σ : List Slot) (j : Nat) (v : Slot), σ.length ≤ j → getS (setS σ j v) j = .no := by
      intro σ
      induction σ with
      | nil => intro j v h; rfl
      | cons x r ih =>
        intro j v h
        cases j with
        | zero => simp at h
        | succ j => exact ih j v (by simpa using h)
    exact this σ j v (by omega)

theorem nameAt_inner {nm : List (Option Str)} {sc' : Scope} {j i : Nat} {x y : Str} (hj : j < nm.length) (h : nameAt (innerNames nm sc' j x) i = some y) :
    (i = j ∧ y = x) ∨ (i ≠ j ∧ nameAt nm i = some y ∧ y ≠ x ∧ sc'.names.lookup y = some .free) := by
  unfold nameAt innerNames at h
  by_cases hi : i = j
  · subst hi
    left
    refine ⟨rfl, ?_⟩
    rw [List.getD_eq_getElem?_getD, List.getElem?_set_self (by simpa using hj)] at h
    simpa using h.symm
  · right
    refine ⟨hi, ?_⟩
    rw [List.getD_eq_getElem?_getD, List.getElem?_set_ne (by omega), List.getElem?_map] at h
    unfold nameAt
    rw [List.getD_eq_getElem?_getD]
    cases e : nm[i]? with
    | none => rw [e] at h; simp at h
    | some o =>
      rw [e] at h
      cases o with
      | none => simp at h
      | some z =>
        simp only [Option.map_some, Option.getD_some] at h
        split at h
        · rename_i hc
          simp only [Bool.and_eq_true, bne_iff_ne, ne_eq, beq_iff_eq] at hc
          cases h
          exact ⟨rfl, hc.1, hc.2⟩
        · cases h

section
variable {prog : Program} {w : World} {B : Heap} {A : Around} {sc : Scope} {nm : List (Option Str)} {env : Env} {k : Ghost prog w} {σ : List Slot} {g : Ghost prog w} {s : Shared}

/-- the block's own frame -/
theorem inner_env {sc' : Scope} {x : Str} {j : Nat} {cl : List (Str × Addr)} {C I D : Addr} {s₄ s₃ : Shared} {g₃ : Ghost prog w} {p : PV} (H : EnvOK B sc nm env k σ g s) (O : CompOK sc sc' x nm j)
    (hcl : ∀ y, sc'.names.lookup y = some .free → cl.lookup y = env.cells.lookup y)
    (h4 : ∀ b o, s.heap.get? b = some o → s₄.heap.get? b = some o) (hI : s.heap.get? I = Option.none) (hC : s.heap.get? C = Option.none) (hD : s.heap.get? D = Option.none)
    (inC : InComp s₄ g C I D x p s₃ g₃) : EnvOK B sc' (innerNames nm sc' j x) (compEnvC sc' cl C env) k (setS σ j (.val p)) g₃ s₃ := by
  obtain ⟨⟨m, v, hns, hm, rv⟩, hk, hle, hup, hnew⟩ := inC
  have up : ∀ b o, s.heap.get? b = some o → s₃.heap.get? b = some o := fun b o e => hup b o (by rintro rfl; rw [hI] at e; cases e) (by rintro rfl; rw [hC] at e; cases e) (by rintro rfl; rw [hD] at e; cases e) (h4 b o e)
  refine ⟨fun b o e => hle b o (H.base b o e), hk, H.glob, H.blt, O.kind, fun y hy => lookup_relabel_global (by decide) hy, fun y hy => lookup_relabel_global (by decide) hy, fun y hy => ?_, fun i y hy => ?_⟩
  · rcases hy with hy | hy
    · exact absurd rfl (O.nocell _ (mem_of_lookup hy))
    · refine ⟨lookup_relabel_free hy, ?_⟩
      show (cl.lookup y).isSome = true
      rw [hcl y hy]
      exact (H.cells y (O.free _ (mem_of_lookup hy) rfl).2).2
  · rcases nameAt_inner O.j hy with ⟨rfl, rfl⟩ | ⟨hi, hn, hne, hf⟩
    · rcases getS_setS_or σ i (.val p) with e | e
      · rw [e]; exact ⟨v, .inl ⟨lookup_relabel_global (by decide) O.x, m, hns, hm⟩, rv⟩
      · rw [e]; exact trivial
    · rw [getS_setS_ne _ _ _ _ hi]
      have hv := H.vals i y hn
      have hcell := H.cells y (O.free _ (mem_of_lookup hf) rfl).2
      have look : ∀ u, VarAt s.heap env y u → VarAt s₃.heap (compEnvC sc' cl C env) y u := fun u hu => by
        rcases hu with ⟨hl, _⟩ | ⟨_, c, hc, hi⟩
        · rcases hcell.1 with h | h <;> (rw [h] at hl; cases hl)
        · exact .inr ⟨lookup_relabel_free hf, c, (hcl y hf).trans hc, hi.keeps up⟩
      cases e : getS σ i with
      | no => exact trivial
      | val q =>
        rw [e] at hv
        obtain ⟨u, hu, ru⟩ := hv
        exact ⟨u, look u hu, ru.mono hle⟩
      | own xs =>
        rw [e] at hv
        obtain ⟨a, vs, h1, h2, h3, h4', h5⟩ := hv
        refine ⟨a, vs, look _ h1, h2.at fun o e => up _ o e, ?_, h4', h5.mono hle⟩
        cases e2 : g₃ a with
        | none => rfl
        | some o =>
          obtain ⟨n, h2⟩ := h2
          have := hnew a h3 (by rw [e2]; simp)
          rw [h4 _ _ h2] at this; cases this
end
end Mine
end part_W7
section part_W8
set_option Elab.async false
set_option maxRecDepth 10000
set_option linter.unusedVariables false
namespace Mine
open PySem PySem.W PyProof.Rows

section
variable {prog : Program} {w : World} {B : Heap} {A : Around} {sc : Scope} {nm : List (Option Str)} {env : Env} {k : Ghost prog w} {σ : List Slot} {g : Ghost prog w} {s : Shared}

/-- an empty list and the names of an inner function, both new -/
theorem list_and_env {E : Value → Shared → Prop} {sc' : Scope} {gl bl : Addr} {cl : List (Str × Addr)} {qual : Str} {R : Value → Env → Shared → Prop} (hc : ∀ y ∈ sc'.names, y.2 ≠ .cell) (hk : sc'.kind = .function)
    (h : ∀ D C H m tk, s.heap.get? D = Option.none → s.heap.get? C = Option.none → D ≠ C → (∀ b o, s.heap.get? b = some o → H.get? b = some o) → H.Ns C m → H.PlainList D #[] →
      R (.ref D) (newEnv sc' C gl cl qual Option.none .none (some env) bl) { s with heap := H, toks := tk }) :
    wpAny (model prog w) A (newList []) (fun acc s₃ => wpAny (model prog w) A (newFunctionEnv sc' gl cl [] qual Option.none .none (some env) bl) (R acc) E s₃) E s := by
  refine wpAny_newObj_type (wpAny_newFunctionEnv hc (fun y hy => nomatch hy) (fun H ns sb => ?_) hk)
  have at' : (s.heap.push { cls := .type "list", dict := Option.none, data := .seq ([] : List Value).toArray }).get? s.heap.objs.size = some { cls := .type "list", dict := Option.none, data := .seq ([] : List Value).toArray } := Heap.get?_push_size _ rfl
  have lt := Heap.lt_size at'
  exact h _ _ H _ _ (Heap.get?_none_of_le (Nat.le_refl _)) (Heap.get?_none_of_le (Nat.le_of_lt lt)) (Nat.ne_of_lt lt)
    (fun b o e => sb.extBut b o (Nat.ne_of_lt (Heap.lt_size (Heap.get?_push_of_some _ e))) (Heap.get?_push_of_some _ (Heap.get?_push_of_some _ e))) ns ⟨_, sb.extBut _ _ (Nat.ne_of_lt lt) (Heap.get?_push_of_some _ at')⟩
/-- a comprehension's block, from its source on -/
theorem comp_block {E : Value → Shared → Prop} {elt iter : Expr} {x : Str} {px : Pos} {ifs : List Expr} {sc' : Scope} {pos : Pos} {j : Nat} {cl : List (Str × Addr)} {xv : Value} {it : PV} {P : List PV → Prop}
    {test : PV → (Bool → Prop) → Prop} {el : PV → (PV → Prop) → Prop} {RR : Value → Addr → Result → Shared → Prop}
    (hh : A.handled = Option.none) (H : EnvOK B sc nm env k σ g s) (O : CompOK sc sc' x nm j) (hcl : ∀ y, sc'.names.lookup y = some .free → cl.lookup y = env.cells.lookup y)
    (rx : Rep g xv it) (hit : itemsK it fun items => items.length ≤ 16777216 ∧ compGo test el P items [])
    (htest : ∀ p cenv s₃ g₃ R (E' : Value → Shared → Prop), EnvOK B sc' (innerNames nm sc' j x) cenv k (setS σ j (.val p)) g₃ s₃ → test p R →
      wpAny (model prog w) A (forIn ifs true fun c r => if r = true then do let ok ← isTrue c cenv (eval c cenv); pure (ForInStep.yield ok) else pure (ForInStep.yield r)) (PostB s₃ g₃ R) E' s₃)
    (helt : ∀ p cenv s₃ g₃ R (E' : Value → Shared → Prop), EnvOK B sc' (innerNames nm sc' j x) cenv k (setS σ j (.val p)) g₃ s₃ → el p R → wpAny (model prog w) A (eval elt cenv) (Post s₃ g₃ R) E' s₃)
    (hRR : ∀ C D s' g' acc, Step s g s' g' → s.heap.get? C = Option.none → (∃ m, s'.heap.Ns C m) → g' C = Option.none → C ≠ D → Rep g' (.ref D) (.list acc) → P acc → RR (.ref D) C (.ok .next) s') :
    wpAny (model prog w) A (pyIter xv) (fun itv s₂ => wpAny (model prog w) A (newList []) (fun acc s₃ => wpAny (model prog w) A (newFunctionEnv sc' env.globals cl [] env.qual none .none (some env)) (fun cenv s₄ =>
      codeAny (model prog w) A (.compStart (.ListComp elt [⟨.Name x px, iter, ifs, 0⟩] sc' pos) 0 itv acc { cenv with scope := relabel sc' env }) (RR acc cenv.locals) s₄) E s₃) E s₂) E s := by
  refine sound_iter hh H.keep rx hit fun items I s₂ hit K₂ hI hIt => ?_
  obtain ⟨hn, hgo⟩ := hit
  refine list_and_env O.nocell O.kind fun D C h₁ m₁ tk₁ fD fC hDC old hns₁ hacc => ?_
  -- what is new beside s₂ is new beside s, too
  have fresh : ∀ a, s₂.heap.get? a = Option.none → s.heap.get? a = Option.none := fun a ha => by
    cases e : s.heap.get? a with
    | none => rfl
    | some o' => exact absurd (ha.symm.trans (Keeps.up K₂ a o' e)) (by simp)
  have hfD := fresh D fD
  have hfC := fresh C fC
  have gnone : ∀ a, s.heap.get? a = Option.none → g a = Option.none := fun a ha => by
    cases e : g a with
    | none => rfl
    | some o => rw [H.keep a o e] at ha; cases ha
  obtain ⟨h₂', tk₂, rfl, hk₂⟩ := id K₂
  obtain ⟨fp, PP, St, W, hP, hst, hfp, hIo⟩ := hIt
  obtain ⟨oI, eI⟩ := hIo _ _ hst
  have hID : I ≠ D := by rintro rfl; exact absurd (fD.symm.trans eI) (by simp)
  have hIC : I ≠ C := by rintro rfl; exact absurd (fC.symm.trans eI) (by simp)
  have k₁ : Keep g h₁ := fun b o e => old b o (hk₂ b o (H.keep b o e))
  have hIt₁ : IterAt prog w A g items { s with heap := h₁, toks := tk₁ } I := ⟨fp, PP, St, W, hP, W.frame _ _ _ hst fun b _ o e => old b o e, hfp, hIo⟩
  have loop : codeAny (model prog w) A (.compLoop (.ListComp elt [⟨.Name x px, iter, ifs, 0⟩] sc' pos) 0 (.ref I) (.ref D) (compEnvC sc' cl C env)) (RR (.ref D) C) { s with heap := h₁, toks := tk₁ } := by
    refine comp_loop (cenv := compEnvC sc' cl C env) hIt₁ hn (lookup_relabel_local O.x) (by simp [compEnvC, relabel, O.kind]) hDC hIC hID k₁ (gnone _ hI) (gnone _ hfC) (gnone _ hfD) hacc hns₁
      (fun p s₃ g₃ R E' inC ht => htest p _ s₃ g₃ R E' (inner_env H O hcl (fun b o e => old b o (hk₂ b o e)) hI hfC hfD inC) ht)
      (fun p s₃ g₃ R E' inC ht => helt p _ s₃ g₃ R E' (inner_env H O hcl (fun b o e => old b o (hk₂ b o e)) hI hfC hfD inC) ht) hgo ?_
    intro h' tk m' ys acc g' o hC' hD' rys hle hnew hk' gC' gD' hkeep eD hPa
    obtain ⟨nD, eD'⟩ := id hD'
    have S : Step s g { s with heap := h', toks := tk } (putG g' D { cls := .type "list", data := .seq ys nD }) := by
      refine ⟨⟨h', tk, rfl, fun b o e => ?_⟩, fun b o e => ?_, fun b h1 h2 => ?_, fun b o e => ?_⟩
      · exact hkeep b o (by rintro rfl; rw [hI] at e; cases e) (by rintro rfl; exact absurd (hfC.symm.trans e) (by simp)) (by rintro rfl; rw [hfD] at e; cases e) (old b o (hk₂ b o e))
      · unfold putG
        rw [if_neg (by rintro rfl; rw [gnone _ hfD] at e; cases e)]
        exact hle b o e
      · unfold putG at h2
        by_cases hb : b = D
        · rw [hb]; exact hfD
        · rw [if_neg hb] at h2
          have := hnew b h1 h2
          cases e2 : s.heap.get? b with
          | none => rfl
          | some o => exact absurd (this.symm.trans (old b o (hk₂ b o e2))) (by simp)
      · unfold putG at e
        by_cases hb : b = D
        · rw [if_pos hb] at e; cases e; rw [hb]; exact eD'
        · rw [if_neg hb] at e; exact hk' b o e
    refine hRR _ _ _ _ acc S hfC ⟨m', hC'⟩ ?_ (Ne.symm hDC) ?_ hPa
    · unfold putG; rw [if_neg (Ne.symm hDC)]; exact gC'
    · refine .list (vs := ys.toList) (putG_self _ _ _) rfl (by simp; rfl) (rys.mono ?_)
      intro b o e
      unfold putG
      rw [if_neg (by rintro rfl; rw [gD'] at e; cases e)]
      exact e
  exact codeAny_compStart_list loop (W.self 0 _ _ _ (W.frame _ _ _ hst fun b _ o e => old b o e) loop)
end
end Mine
end part_W8
section part_W9
set_option Elab.async false
set_option maxRecDepth 10000
set_option linter.unusedVariables false
set_option maxHeartbeats 1000000
namespace Mine
open PySem PySem.W PyProof.Rows

section
variable {prog : Program} {w : World} {B : Heap} {mg mb : Str → Option Value} {Φ : Fenv} {d : Nat}

theorem wp_of_truthy {A : Around} {E : Value → Shared → Prop} {s s' : Shared} {g g' : Ghost prog w} {v : Value} {p : PV} {P : Bool → Prop} (S : Step s g s' g') (r : Rep g' v p)
    (h : truthK p P) : wpAny (model prog w) A (PySem.truthy v) (PostB s g P) E s' :=
  sound_truthy r h fun b t hb => ⟨g', S.trans (Step.toks S.keep t), hb⟩

theorem isTrue_name {M : Model} {A : Around} {E : Value → Shared → Prop} {s : Shared} {env : Env} {x : Str} {p : Pos} {Q : Bool → Shared → Prop} (h : wpAny M A (eval (.Name x p) env) (fun v s₁ => wpAny M A (PySem.truthy v) Q E s₁) E s) :
    wpAny M A (PySem.isTrue (.Name x p) env (eval (.Name x p) env)) Q E s := isTrue_plain h
theorem isTrue_call {M : Model} {A : Around} {E : Value → Shared → Prop} {s : Shared} {env : Env} {f : Expr} {as : List Expr} {p : Pos} {Q : Bool → Shared → Prop} (h : wpAny M A (eval (.Call f as [] p) env) (fun v s₁ => wpAny M A (PySem.truthy v) Q E s₁) E s) :
    wpAny M A (PySem.isTrue (.Call f as [] p) env (eval (.Call f as [] p) env)) Q E s := isTrue_plain h

theorem agL_cons {sc : Scope} {nm : List (Option Str)} {m : MX} {e : Expr} {es : List Expr} (h : agL sc nm m (e :: es) = true) : ∃ a b, m = .cons a b ∧ agX sc nm a e = true ∧ notStarred e = true ∧ agL sc nm b es = true := by
  cases m <;> simp [agL] at h
  rename_i a b
  exact ⟨a, b, rfl, h.1.1, h.1.2, h.2⟩

theorem eval_call_own {A : Around} {E : Value → Shared → Prop} {s : Shared} {g : Ghost prog w} {sc : Scope} {nm : List (Option Str)} {env : Env} {k : Ghost prog w} {σ : List Slot} {f : String} {args : MX} {e : Expr} {es : List Expr} {p pos : Pos} {Q : Value → Shared → Prop} {R : List PV → Prop} {P : PV → Prop}
    (L : Law prog w B mg mb) (hF : FnOK prog w B mg d Φ) (hR : Room d A) (H : EnvOK B sc nm env k σ g s) (hx : isG sc (Str.ofString f) = true) (ha : agL sc nm args (e :: es) = true)
    (hargs : wpAny (model prog w) A (spliced (backTo pos (starEach (e :: es) env))) (PostL s g (fun ps => Φ.run f ps P)) E s) (hex : Φ.known f)
    (hQ : ∀ v s', Post s g P v s' → Q v s') :
    wpAny (model prog w) A (eval (.Call (.Name (Str.ofString f) p) (e :: es) [] pos) env) Q E s := by
  obtain ⟨a, o, fd, h1, h2, h3, hc⟩ := hF f hex
  refine wpAny_bind (sound_ownName L H hx h1 ?_)
  obtain ⟨m1, m2, rfl, ha1, ha2, ha3⟩ := agL_cons ha
  rw [starEach_cons ha2] at hargs ⊢
  refine Calls.callWith_function (o := o) (fd := fd) (Calls.evalArgs_plain (wpAny_mono hargs (fun vs s₁ h => ?_) fun _ _ x => x))
  obtain ⟨g₁, ps, S, r, hp⟩ := h
  refine ⟨⟨S.keep _ _ (S.le _ _ (H.base _ _ h2)), h3⟩, ?_⟩
  refine wpAny_mono (hc ps P hp A E s₁ g₁ vs hR (fun b o e => S.le _ _ (H.base b o e)) S.keep r) (fun v s' h => hQ v s' (h.at S)) fun _ _ x => x

theorem eval_call_blt {A : Around} {E : Value → Shared → Prop} {s : Shared} {g : Ghost prog w} {sc : Scope} {nm : List (Option Str)} {env : Env} {k : Ghost prog w} {σ : List Slot} {b : Blt} {args : MX} {e : Expr} {es : List Expr} {p pos : Pos} {Q : Value → Shared → Prop} {P : PV → Prop}
    (L : Law prog w B mg mb) (hR : Room d A) (H : EnvOK B sc nm env k σ g s) (hx : isG sc (Str.ofString (bltName b)) = true) (ha : agL sc nm args (e :: es) = true)
    (hargs : wpAny (model prog w) A (spliced (backTo pos (starEach (e :: es) env))) (PostL s g (fun ps => bltM b ps P)) E s)
    (hQ : ∀ v s', Post s g P v s' → Q v s') :
    wpAny (model prog w) A (eval (.Call (.Name (Str.ofString (bltName b)) p) (e :: es) [] pos) env) Q E s := by
  refine wpAny_bind (sound_builtinName L H hx (bltName_mem b) (bltName_ne b) (boot_blt b) ?_)
  obtain ⟨m1, m2, rfl, ha1, ha2, ha3⟩ := agL_cons ha
  refine callWith_bltVal b ha2 (agL_plain m2 es pos ha3) (wpAny_mono hargs (fun vs s₁ h => ?_) fun _ _ x => x)
  obtain ⟨g₁, ps, S, r, hp⟩ := h
  exact wpAny_mono (sound_blt b hR.handled S.keep r hp) (fun v s' h => hQ v s' (h.at S)) fun _ _ x => x


theorem folded_plain {it : Expr} {env : Env} (h : notSet it = true) : ∀ x, foldedSetIterable it env x = pure x := by
  intro x
  cases it <;> first | rfl | (cases h)

section inv
variable {sc : Scope} {nm : List (Option Str)} {e : Expr} {env : Env}
theorem ag_cnone (ha : agX sc nm .cnone e = true) : ∃ k p, e = .Constant .none k p := constOf_is (beq_iff_eq.mp (by rw [agX.eq_1] at ha; exact ha))
theorem ag_cbool {b : Bool} (ha : agX sc nm (.cbool b) e = true) : ∃ k p, e = .Constant (.bool b) k p := constOf_is (beq_iff_eq.mp (by rw [agX.eq_2] at ha; exact ha))
theorem ag_cint {b : Int} (ha : agX sc nm (.cint b) e = true) : ∃ k p, e = .Constant (.int b) k p := constOf_is (beq_iff_eq.mp (by rw [agX.eq_3] at ha; exact ha))
theorem ag_cstr {b : List Nat} (ha : agX sc nm (.cstr b) e = true) : ∃ k p, e = .Constant (.str ⟨b.toArray⟩) k p := constOf_is (beq_iff_eq.mp (by rw [agX.eq_4] at ha; exact ha))
theorem ag_var {j : Nat} (ha : agX sc nm (.var j) e = true) : ∃ x p, e = .Name x p ∧ nameAt nm j = some x ∧ (x == Str.ofString "__debug__") = false ∧ (x == Str.ofString "__classdict__") = false := by
  rw [agX.eq_5] at ha
  split at ha
  · rename_i x h
    obtain ⟨p, rfl⟩ := nameOf_is h
    simp only [Bool.and_eq_true, beq_iff_eq, Bool.not_eq_true'] at ha
    exact ⟨_, _, rfl, ha.1.1, ha.1.2, ha.2⟩
  · cases ha
theorem ag_ty {n : String} (ha : agX sc nm (.ty n) e = true) : ∃ p, e = .Name (Str.ofString n) p ∧ isG sc (Str.ofString n) = true ∧ (n = "int" ∨ n = "bool") := by
  rw [agX.eq_6] at ha
  simp only [Bool.and_eq_true, beq_iff_eq, Bool.or_eq_true] at ha
  obtain ⟨p, rfl⟩ := nameOf_is ha.1.1
  exact ⟨_, rfl, ha.1.2, ha.2⟩
theorem ag_bin {op : Operator} {l r : MX} (ha : agX sc nm (.bin op l r) e = true) : ∃ a b p, e = .BinOp a op b p ∧ agX sc nm l a = true ∧ agX sc nm r b = true := by
  rw [agX.eq_7] at ha
  split at ha
  · rename_i a o b h
    obtain ⟨p, rfl⟩ := binOf_is h
    simp only [Bool.and_eq_true, beq_iff_eq] at ha
    obtain ⟨⟨rfl, h1⟩, h2⟩ := ha
    exact ⟨_, _, _, rfl, h1, h2⟩
  · cases ha
theorem ag_neg {x : MX} (ha : agX sc nm (.neg x) e = true) : ∃ a p, e = .UnaryOp .USub a p ∧ agX sc nm x a = true := by
  rw [agX.eq_8] at ha
  split at ha
  · rename_i o a h
    obtain ⟨p, rfl⟩ := unOf_is h
    simp only [Bool.and_eq_true, beq_iff_eq] at ha
    obtain ⟨rfl, h1⟩ := ha
    exact ⟨_, _, rfl, h1⟩
  · cases ha
theorem ag_not {x : MX} (ha : agX sc nm (.not x) e = true) : ∃ a p, e = .UnaryOp .Not a p ∧ agX sc nm x a = true := by
  rw [agX.eq_9] at ha
  split at ha
  · rename_i o a h
    obtain ⟨p, rfl⟩ := unOf_is h
    simp only [Bool.and_eq_true, beq_iff_eq] at ha
    obtain ⟨rfl, h1⟩ := ha
    exact ⟨_, _, rfl, h1⟩
  · cases ha
theorem ag_boolop {op : BoolOp} {x : MX} (ha : agX sc nm (.boolop op x) e = true) : ∃ vs p, e = .BoolOp op vs p ∧ agL sc nm x vs = true := by
  rw [agX.eq_10] at ha
  split at ha
  · rename_i o a h
    obtain ⟨p, rfl⟩ := boolOf_is h
    simp only [Bool.and_eq_true, beq_iff_eq] at ha
    obtain ⟨rfl, h1⟩ := ha
    exact ⟨_, _, rfl, h1⟩
  · cases ha
theorem ag_ite {t a b : MX} (ha : agX sc nm (.ite t a b) e = true) : ∃ t' a' b' p, e = .IfExp t' a' b' p ∧ agX sc nm t t' = true ∧ agX sc nm a a' = true ∧ agX sc nm b b' = true := by
  rw [agX.eq_11] at ha
  split at ha
  · rename_i h
    obtain ⟨p, rfl⟩ := iteOf_is h
    simp only [Bool.and_eq_true] at ha
    exact ⟨_, _, _, _, rfl, ha.1.1, ha.1.2, ha.2⟩
  · cases ha
theorem ag_cmp {op : CmpOp} {l r : MX} (ha : agX sc nm (.cmp op l r) e = true) : ∃ a b p, e = .Compare a [op] [b] p ∧ agX sc nm l a = true ∧ agX sc nm r b = true ∧ behindInMarks op b = false := by
  rw [agX.eq_12] at ha
  split at ha
  · rename_i h
    obtain ⟨p, rfl⟩ := oneCmp_is h
    simp only [Bool.and_eq_true, beq_iff_eq, Bool.not_eq_true'] at ha
    obtain ⟨⟨⟨rfl, h1⟩, h2⟩, h3⟩ := ha
    exact ⟨_, _, _, rfl, h1, h2, h3⟩
  · cases ha
theorem ag_call {f : String} {args : MX} (ha : agX sc nm (.call f args) e = true) : ∃ px a as p, e = .Call (.Name (Str.ofString f) px) (a :: as) [] p ∧ isG sc (Str.ofString f) = true ∧ agL sc nm args (a :: as) = true := by
  rw [agX.eq_13] at ha
  split at ha
  · rename_i h
    obtain ⟨px, p, rfl⟩ := ownCall_is h
    simp only [Bool.and_eq_true, beq_iff_eq] at ha
    obtain ⟨⟨rfl, h1⟩, h2⟩ := ha
    exact ⟨_, _, _, _, rfl, h1, h2⟩
  · cases ha
theorem ag_blt {b : Blt} {args : MX} (ha : agX sc nm (.blt b args) e = true) : ∃ px a as p, e = .Call (.Name (Str.ofString (bltName b)) px) (a :: as) [] p ∧ isG sc (Str.ofString (bltName b)) = true ∧ agL sc nm args (a :: as) = true := by
  rw [agX.eq_14] at ha
  split at ha
  · rename_i h
    obtain ⟨px, p, rfl⟩ := ownCall_is h
    simp only [Bool.and_eq_true, beq_iff_eq] at ha
    obtain ⟨⟨rfl, h1⟩, h2⟩ := ha
    exact ⟨_, _, _, _, rfl, h1, h2⟩
  · cases ha
theorem ag_item {o i : MX} (ha : agX sc nm (.item o i) e = true) : ∃ v sl p, e = .Subscript v sl p ∧ agX sc nm o v = true ∧ agX sc nm i sl = true ∧ notSlice sl = true := by
  rw [agX.eq_15] at ha
  split at ha
  · rename_i h
    obtain ⟨p, rfl⟩ := subOf_is h
    simp only [Bool.and_eq_true] at ha
    exact ⟨_, _, _, rfl, ha.1.1, ha.1.2, ha.2⟩
  · cases ha
theorem ag_slice {o lo hi : MX} (ha : agX sc nm (.slice o lo hi) e = true) : ∃ v l h ps p, e = .Subscript v (.Slice l h Option.none ps) p ∧ agX sc nm o v = true ∧ agO sc nm lo l = true ∧ agO sc nm hi h = true := by
  rw [agX.eq_16] at ha
  split at ha
  · rename_i h
    obtain ⟨ps, p, rfl⟩ := oneSlice_is h
    simp only [Bool.and_eq_true] at ha
    exact ⟨_, _, _, _, _, rfl, ha.1.1, ha.1.2, ha.2⟩
  · cases ha
theorem ag_list {x : MX} (ha : agX sc nm (.list x) e = true) : ∃ es p, e = .List es p ∧ agL sc nm x es = true := by
  rw [agX.eq_17] at ha
  split at ha
  · rename_i h
    obtain ⟨p, rfl⟩ := listOf_is h
    exact ⟨_, _, rfl, ha⟩
  · cases ha
theorem ag_tuple {x : MX} (ha : agX sc nm (.tuple x) e = true) : ∃ es k p, e = .Tuple es k p ∧ agL sc nm x es = true := by
  rw [agX.eq_18] at ha
  split at ha
  · rename_i h
    obtain ⟨k, p, rfl⟩ := tupleOf_is h
    exact ⟨_, _, _, rfl, ha⟩
  · cases ha
theorem ag_comp {j : Nat} {elt iter tests : MX} (ha : agX sc nm (.comp j elt iter tests) e = true) :
    ∃ e' x px it ifs sc' p, e = .ListComp e' [⟨.Name x px, it, ifs, 0⟩] sc' p ∧ agX sc nm iter it = true ∧ compOK sc sc' x nm j = true ∧ agX sc' (innerNames nm sc' j x) elt e' = true ∧ agL sc' (innerNames nm sc' j x) tests ifs = true ∧ ∀ env x, foldedSetIterable it env x = pure x := by
  rw [agX.eq_19] at ha
  split at ha
  · rename_i e' x it ifs as sc' h
    obtain ⟨px, p, rfl⟩ := oneComp_is h
    simp only [Bool.and_eq_true, decide_eq_true_eq] at ha
    obtain ⟨⟨⟨⟨⟨rfl, h1⟩, h2⟩, h3⟩, h4⟩, h5⟩ := ha
    exact ⟨e', x, px, it, ifs, sc', p, rfl, h1, h2, h3, h4, fun env => folded_plain h5⟩
  · cases ha
theorem ag_meth {m : String} {o a : MX} (ha : agX sc nm (.meth m o a) e = true) : ∃ o' v ap p, e = .Call (.Attribute o' (Str.ofString m) ap) [v] [] p ∧ (ap.endLine == p.line) = true ∧ notStarred v = true ∧ notCall o' = true ∧ (m = "rstrip" ∨ m = "join") ∧ agX sc nm o o' = true ∧ agX sc nm a v = true := by
  rw [agX.eq_20] at ha
  split at ha
  · rename_i h
    obtain ⟨ap, p, rfl, h1, h2, h3⟩ := methOf_is h
    simp only [Bool.and_eq_true, beq_iff_eq, Bool.or_eq_true] at ha
    obtain ⟨⟨⟨rfl, h4⟩, h5⟩, h6⟩ := ha
    exact ⟨_, _, _, _, rfl, h1, h2, h3, h4, h5, h6⟩
  · cases ha
theorem ag_dict {ks : List (List Nat)} {vs : MX} (ha : agX sc nm (.dict ks vs) e = true) : ∃ keys es p, e = .Dict keys es p ∧ keysOK ks keys = true ∧ keys.length = es.length ∧ 0 < ks.length ∧ ks.length ≤ 15 ∧ (ks.map fun k => (⟨k.toArray⟩ : Str)).Nodup ∧ agL sc nm vs es = true := by
  rw [agX.eq_22] at ha
  split at ha
  · rename_i h
    obtain ⟨p, rfl⟩ := dictOf_is h
    simp only [Bool.and_eq_true, beq_iff_eq, decide_eq_true_eq] at ha
    obtain ⟨⟨⟨⟨⟨h1, h2⟩, h3⟩, h4⟩, h5⟩, h6⟩ := ha
    exact ⟨_, _, _, rfl, h1, h2, h3, h4, h5, h6⟩
  · cases ha
theorem keysOK_len : ∀ {ks : List (List Nat)} {keys : List (Option Expr)}, keysOK ks keys = true → keys.length = ks.length ∧ keys.all (·.isSome) = true
  | [], [], _ => ⟨rfl, rfl⟩
  | k :: ks, some e :: es, h => by
    simp only [keysOK, Bool.and_eq_true] at h
    obtain ⟨h1, h2⟩ := keysOK_len h.2
    exact ⟨by simp [h1], by simpa using h2⟩
  | [], _ :: _, h => by simp [keysOK] at h
  | _ :: _, [], h => by simp [keysOK] at h
  | _ :: _, Option.none :: _, h => by simp [keysOK] at h
theorem ag_no {m : MX} (hm : (match m with | .absent | .nil | .cons .. => true | _ => false) = true) (ha : agX sc nm m e = true) : False := by
  cases m with
  | absent => rw [agX.eq_21] at ha; cases ha
  | nil => rw [agX.eq_23] at ha; cases ha
  | cons => rw [agX.eq_24] at ha; cases ha
  | _ => cases hm
theorem agL_nil {es : List Expr} (ha : agL sc nm .nil es = true) : es = [] := by
  cases es <;> simp [agL] at ha; rfl
theorem agL_cons' {h t : MX} {es : List Expr} (ha : agL sc nm (.cons h t) es = true) : ∃ e r, es = e :: r ∧ agX sc nm h e = true ∧ notStarred e = true ∧ agL sc nm t r = true := by
  cases es <;> simp [agL] at ha
  exact ⟨_, _, rfl, ha.1.1, ha.1.2, ha.2⟩
end inv
end
end Mine
end part_W9
section part_W10
set_option Elab.async false
set_option maxRecDepth 10000
set_option linter.unusedVariables false
set_option maxHeartbeats 1000000
namespace Mine
open PySem PySem.W PyProof.Rows

section
variable {prog : Program} {w : World} {B : Heap} {mg mb : Str → Option Value} {Φ : Fenv} {d : Nat}

/-- what a display's keys and values come to -/
noncomputable def PostD (ks : List (List Nat)) (s : Shared) (g : Ghost prog w) (P : List PV → Prop) (vs : List (Value × Value)) (s' : Shared) : Prop :=
  ∃ g' xs, Step s g s' g' ∧ P xs ∧ ∃ kvs : List (Str × Value), Carries (PySem.strKind prog w) vs kvs ∧ kvs.map (·.1) = ks.map (fun k => (⟨k.toArray⟩ : Str)) ∧ RepL g' (kvs.map (·.2)) xs

theorem base_plain {o : Expr} {name : Str} {env : Env} {x : Sem Value} (h : notCall o = true) : attributeBase o name env x = x := by
  cases o <;> first | rfl | (cases h)

structure Snd (prog : Program) (w : World) (B : Heap) (Φ : Fenv) (d : Nat) (m : MX) : Prop where
  X : ∀ {sc : Scope} {nm : List (Option Str)} {e : Expr} {env : Env} {k : Ghost prog w} {σ : List Slot} {P : PV → Prop} {A : Around} {E : Value → Shared → Prop} {s : Shared} {g : Ghost prog w}, Room d A → agX sc nm m e = true →
    EnvOK B sc nm env k σ g s → evalM Φ m σ P → wpAny (model prog w) A (eval e env) (Post s g P) E s
  L : ∀ {sc : Scope} {nm : List (Option Str)} {es : List Expr} {env : Env} {k : Ghost prog w} {σ : List Slot} {P : List PV → Prop} {A : Around} {E : Value → Shared → Prop} {s : Shared} {g : Ghost prog w} {pos : Pos}, Room d A → agL sc nm m es = true →
    EnvOK B sc nm env k σ g s → evalL Φ m σ P → wpAny (model prog w) A (spliced (backTo pos (starEach es env))) (PostL s g P) E s
  Bo : ∀ {op : BoolOp} {sc : Scope} {nm : List (Option Str)} {es : List Expr} {env : Env} {k : Ghost prog w} {σ : List Slot} {P : PV → Prop} {A : Around} {E : Value → Shared → Prop} {s : Shared} {g : Ghost prog w} {pos : Pos}, Room d A → agL sc nm m es = true →
    EnvOK B sc nm env k σ g s → boolM Φ op m σ P → wpAny (model prog w) A (boolOp pos op (evalEach es env)) (Post s g P) E s
  T : ∀ {sc : Scope} {nm : List (Option Str)} {e : Expr} {env : Env} {k : Ghost prog w} {σ : List Slot} {P : Bool → Prop} {A : Around} {E : Value → Shared → Prop} {s : Shared} {g : Ghost prog w}, Room d A → agX sc nm m e = true →
    EnvOK B sc nm env k σ g s → truthM Φ m σ P → wpAny (model prog w) A (PySem.isTrue e env (eval e env)) (PostB s g P) E s
  Al : ∀ {op : BoolOp} {sc : Scope} {nm : List (Option Str)} {es : List Expr} {env : Env} {k : Ghost prog w} {σ : List Slot} {P : Bool → Prop} {A : Around} {E : Value → Shared → Prop} {s : Shared} {g : Ghost prog w}, Room d A → agL sc nm m es = true →
    EnvOK B sc nm env k σ g s → allM Φ op m σ P → wpAny (model prog w) A (allTrue op es env) (PostB s g P) E s
  Te : ∀ {sc : Scope} {nm : List (Option Str)} {es : List Expr} {env : Env} {k : Ghost prog w} {σ : List Slot} {P : Bool → Prop} {A : Around} {E : Value → Shared → Prop} {s : Shared} {g : Ghost prog w}, Room d A → agL sc nm m es = true →
    EnvOK B sc nm env k σ g s → testM Φ m σ P → wpAny (model prog w) A (forIn es true fun c r => if r = true then do let ok ← PySem.isTrue c env (eval c env); pure (ForInStep.yield ok) else pure (ForInStep.yield r)) (PostB s g P) E s
  D : ∀ {sc : Scope} {nm : List (Option Str)} {ks : List (List Nat)} {keys : List (Option Expr)} {es : List Expr} {env : Env} {k : Ghost prog w} {σ : List Slot} {P : List PV → Prop} {A : Around} {E : Value → Shared → Prop} {s : Shared} {g : Ghost prog w} {pos : Pos}, Room d A → keysOK ks keys = true → keys.length = es.length → agL sc nm m es = true →
    EnvOK B sc nm env k σ g s → evalL Φ m σ P → wpAny (model prog w) A (evalPairs (pairTrees keys es env pos)) (PostD ks s g P) E s

/-- a term that is no list of terms, and no test but by its value -/
theorem Snd.ofX {m : MX}
    (X : ∀ {sc : Scope} {nm : List (Option Str)} {e : Expr} {env : Env} {k : Ghost prog w} {σ : List Slot} {P : PV → Prop} {A : Around} {E : Value → Shared → Prop} {s : Shared} {g : Ghost prog w}, Room d A → agX sc nm m e = true →
      EnvOK B sc nm env k σ g s → evalM Φ m σ P → wpAny (model prog w) A (eval e env) (Post s g P) E s)
    (T : ∀ {sc : Scope} {nm : List (Option Str)} {e : Expr} {env : Env} {k : Ghost prog w} {σ : List Slot} {P : Bool → Prop} {A : Around} {E : Value → Shared → Prop} {s : Shared} {g : Ghost prog w}, Room d A → agX sc nm m e = true →
      EnvOK B sc nm env k σ g s → truthM Φ m σ P → wpAny (model prog w) A (PySem.isTrue e env (eval e env)) (PostB s g P) E s)
    (hl : ∀ σ P, ¬ evalL Φ m σ P) (hb : ∀ op σ P, ¬ boolM Φ op m σ P) (ha : ∀ op σ P, ¬ allM Φ op m σ P) (ht : ∀ σ P, ¬ testM Φ m σ P) : Snd prog w B Φ d m :=
  ⟨X, fun _ _ _ h => absurd h (hl _ _), fun _ _ _ h => absurd h (hb _ _ _), T, fun _ _ _ h => absurd h (ha _ _ _), fun _ _ _ h => absurd h (ht _ _), fun _ _ _ _ _ h => absurd h (hl _ _)⟩

theorem Snd.O {m : MX} (S : Snd prog w B Φ d m) {sc : Scope} {nm : List (Option Str)} {e : Option Expr} {env : Env} {k : Ghost prog w} {σ : List Slot} {P : PV → Prop} {A : Around} {E : Value → Shared → Prop} {s : Shared} {g : Ghost prog w} (hR : Room d A) (ha : agO sc nm m e = true)
    (H : EnvOK B sc nm env k σ g s) (hm : evalM Φ m σ P) : wpAny (model prog w) A (evalPart e env) (Post s g P) E s := by
  cases e with
  | some e =>
    have : agX sc nm m e = true := ha
    rw [evalPart_some]
    exact S.X hR this H hm
  | none =>
    have ha : isAbsent m = true := ha
    cases m <;> first | (cases ha; done) | skip
    simp only [evalM] at hm
    rw [evalPart_none]
    exact wpAny_pure ⟨g, _, Step.refl H.keep, .none, hm⟩

theorem snd (LL : Law prog w B mg mb) (hF : FnOK prog w B mg d Φ) (m : MX) : Snd prog w B Φ d m := by
  induction m with
  | cnone =>
    refine Snd.ofX (fun {sc nm e env k σ P A E s g} hR ha H hm => ?_) (fun {sc nm e env k σ P A E s g} hR ha H hm => by simp only [truthM] at hm) (by intros; simp only [evalL, not_false_eq_true]) (by intros; simp only [boolM, not_false_eq_true]) (by intros; simp only [allM, not_false_eq_true]) (by intros; simp only [testM, not_false_eq_true])
    obtain ⟨_, _, rfl⟩ := ag_cnone ha
    simp only [evalM] at hm
    exact fun _ _ _ => ⟨g, _, Step.refl H.keep, .none, hm⟩
  | cbool b =>
    refine Snd.ofX (fun {sc nm e env k σ P A E s g} hR ha H hm => ?_) (fun {sc nm e env k σ P A E s g} hR ha H hm => by simp only [truthM] at hm) (by intros; simp only [evalL, not_false_eq_true]) (by intros; simp only [boolM, not_false_eq_true]) (by intros; simp only [allM, not_false_eq_true]) (by intros; simp only [testM, not_false_eq_true])
    obtain ⟨_, _, rfl⟩ := ag_cbool ha
    simp only [evalM] at hm
    exact fun _ _ _ => ⟨g, _, Step.refl H.keep, .bool _, hm⟩
  | cint i =>
    refine Snd.ofX (fun {sc nm e env k σ P A E s g} hR ha H hm => ?_) (fun {sc nm e env k σ P A E s g} hR ha H hm => by simp only [truthM] at hm) (by intros; simp only [evalL, not_false_eq_true]) (by intros; simp only [boolM, not_false_eq_true]) (by intros; simp only [allM, not_false_eq_true]) (by intros; simp only [testM, not_false_eq_true])
    obtain ⟨_, _, rfl⟩ := ag_cint ha
    simp only [evalM] at hm
    exact wpAny_Constant_int (Post.toks H.keep _ (.int _ _) hm)
  | cstr x =>
    refine Snd.ofX (fun {sc nm e env k σ P A E s g} hR ha H hm => ?_) (fun {sc nm e env k σ P A E s g} hR ha H hm => by simp only [truthM] at hm) (by intros; simp only [evalL, not_false_eq_true]) (by intros; simp only [boolM, not_false_eq_true]) (by intros; simp only [allM, not_false_eq_true]) (by intros; simp only [testM, not_false_eq_true])
    obtain ⟨_, _, rfl⟩ := ag_cstr ha
    simp only [evalM] at hm
    exact Calls.Constant_str (Post.toks H.keep _ (.str _ _) hm)
  | var j =>
    have X : ∀ {sc : Scope} {nm : List (Option Str)} {e : Expr} {env : Env} {k : Ghost prog w} {σ : List Slot} {P : PV → Prop} {A : Around} {E : Value → Shared → Prop} {s : Shared} {g : Ghost prog w}, Room d A → agX sc nm (.var j) e = true →
        EnvOK B sc nm env k σ g s → evalM Φ (.var j) σ P → wpAny (model prog w) A (eval e env) (Post s g P) E s := fun {sc nm e env k σ P A E s g} hR ha H hm => by
      obtain ⟨x, p, rfl, h1, h2, h3⟩ := ag_var ha
      simp only [evalM] at hm
      have hv := H.vals j x h1
      cases e : getS σ j with
      | no => rw [e] at hm; exact False.elim hm
      | own xs => rw [e] at hm; exact False.elim hm
      | val q =>
        rw [e] at hm hv
        obtain ⟨v, hv, rv⟩ := hv
        exact wpAny_Name (loadVar H.kind hv h3 ⟨g, q, Step.refl H.keep, rv, hm⟩) h2
    refine Snd.ofX X (fun {sc nm e env k σ P A E s g} hR ha H hm => ?_) (by intros; simp only [evalL, not_false_eq_true]) (by intros; simp only [boolM, not_false_eq_true]) (by intros; simp only [allM, not_false_eq_true]) (by intros; simp only [testM, not_false_eq_true])
    simp only [truthM] at hm
    have h := X (E := E) (P := fun v => truthK v P) hR ha H (by simp only [evalM]; exact hm)
    obtain ⟨x, p, rfl, h1, h2, h3⟩ := ag_var ha
    refine isTrue_name (wpAny_mono h (fun v s₁ h => ?_) fun _ _ x => x)
    obtain ⟨g₁, q, S, r, h⟩ := h
    exact wp_of_truthy S r h
  | ty n =>
    refine Snd.ofX (fun {sc nm e env k σ P A E s g} hR ha H hm => ?_) (fun {sc nm e env k σ P A E s g} hR ha H hm => by simp only [truthM] at hm) (by intros; simp only [evalL, not_false_eq_true]) (by intros; simp only [boolM, not_false_eq_true]) (by intros; simp only [allM, not_false_eq_true]) (by intros; simp only [testM, not_false_eq_true])
    obtain ⟨p, rfl, h2, h3⟩ := ag_ty ha
    simp only [evalM] at hm
    rcases h3 with rfl | rfl
    · exact sound_builtinName LL H h2 (by decide) (by decide +kernel) (by decide +kernel) ⟨g, _, Step.refl H.keep, .type _, hm⟩
    · exact sound_builtinName LL H h2 (by decide) (by decide +kernel) (by decide +kernel) ⟨g, _, Step.refl H.keep, .type _, hm⟩
  | bin op l r il ir =>
    refine Snd.ofX (fun {sc nm e env k σ P A E s g} hR ha H hm => ?_) (fun {sc nm e env k σ P A E s g} hR ha H hm => by simp only [truthM] at hm) (by intros; simp only [evalL, not_false_eq_true]) (by intros; simp only [boolM, not_false_eq_true]) (by intros; simp only [allM, not_false_eq_true]) (by intros; simp only [testM, not_false_eq_true])
    obtain ⟨a, b, p, rfl, h1, h2⟩ := ag_bin ha
    simp only [evalM] at hm
    refine wpAny_BinOp (wpAny_mono (il.X hR h1 H hm) (fun a s₁ h => ?_) fun _ _ x => x)
    obtain ⟨g₁, p, S₁, ra, hm⟩ := h
    refine wpAny_mono (ir.X hR h2 (H.step S₁) hm) (fun b s₂ h => ?_) fun _ _ x => x
    obtain ⟨g₂, q, S₂, rb, hm⟩ := h
    exact wpAny_mono (sound_bin op S₂.keep (ra.mono S₂.le) rb hm) (fun v s' h => h.at (S₁.trans S₂)) fun _ _ x => x
  | neg x ix =>
    refine Snd.ofX (fun {sc nm e env k σ P A E s g} hR ha H hm => ?_) (fun {sc nm e env k σ P A E s g} hR ha H hm => by simp only [truthM] at hm) (by intros; simp only [evalL, not_false_eq_true]) (by intros; simp only [boolM, not_false_eq_true]) (by intros; simp only [allM, not_false_eq_true]) (by intros; simp only [testM, not_false_eq_true])
    obtain ⟨a, p, rfl, h1⟩ := ag_neg ha
    simp only [evalM] at hm
    refine wpAny_UnaryOp (wpAny_mono (ix.X hR h1 H hm) (fun v s₁ h => ?_) fun _ _ x => x)
    obtain ⟨g₁, p, S₁, ra, hm⟩ := h
    cases ra <;> try exact False.elim hm
    exact PyProof.Rows.neg_int ((Post.toks S₁.keep _ (.int _ _) hm).at S₁)
  | not x ix =>
    refine Snd.ofX (fun {sc nm e env k σ P A E s g} hR ha H hm => ?_) (fun {sc nm e env k σ P A E s g} hR ha H hm => ?_) (by intros; simp only [evalL, not_false_eq_true]) (by intros; simp only [boolM, not_false_eq_true]) (by intros; simp only [allM, not_false_eq_true]) (by intros; simp only [testM, not_false_eq_true])
    · obtain ⟨a, p, rfl, h1⟩ := ag_not ha
      simp only [evalM] at hm
      refine wpAny_UnaryOp (wpAny_mono (ix.X hR h1 H hm) (fun v s₁ h => ?_) fun _ _ x => x)
      obtain ⟨g₁, p, S₁, ra, hm⟩ := h
      refine not_of (wpAny_mono (wp_of_truthy (P := fun b => P (.bool !b)) S₁ ra hm) (fun b s₂ h => ?_) fun _ _ x => x)
      obtain ⟨g₂, S₂, h⟩ := h
      exact ⟨g₂, _, S₂, .bool _, h⟩
    · obtain ⟨a, p, rfl, h1⟩ := ag_not ha
      simp only [truthM] at hm
      exact isTrue_not (wpAny_mono (ix.T hR h1 H hm) (fun b s₁ h => h) fun _ _ x => x)
  | boolop op xs ix =>
    refine Snd.ofX (fun {sc nm e env k σ P A E s g} hR ha H hm => ?_) (fun {sc nm e env k σ P A E s g} hR ha H hm => ?_) (by intros; simp only [evalL, not_false_eq_true]) (by intros; simp only [boolM, not_false_eq_true]) (by intros; simp only [allM, not_false_eq_true]) (by intros; simp only [testM, not_false_eq_true])
    · obtain ⟨vs, p, rfl, h1⟩ := ag_boolop ha
      simp only [evalM] at hm
      rw [arm_eval_BoolOp]
      exact ix.Bo hR h1 H hm
    · obtain ⟨vs, p, rfl, h1⟩ := ag_boolop ha
      simp only [truthM] at hm
      rw [arm_isTrue_BoolOp]
      exact ix.Al hR h1 H hm
  | ite t a b it ia ib =>
    refine Snd.ofX (fun {sc nm e env k σ P A E s g} hR ha H hm => ?_) (fun {sc nm e env k σ P A E s g} hR ha H hm => ?_) (by intros; simp only [evalL, not_false_eq_true]) (by intros; simp only [boolM, not_false_eq_true]) (by intros; simp only [allM, not_false_eq_true]) (by intros; simp only [testM, not_false_eq_true])
    · obtain ⟨t', a', b', p, rfl, h1, h2, h3⟩ := ag_ite ha
      simp only [evalM] at hm
      refine wpAny_IfExp (wpAny_mono (it.T hR h1 H hm) (fun c s₁ h => ?_) fun _ _ x => x)
      obtain ⟨g₁, S₁, hm⟩ := h
      cases c with
      | true => simp only [if_true] at hm ⊢; exact wpAny_mono (ia.X hR h2 (H.step S₁) hm) (fun v s' h => h.at S₁) fun _ _ x => x
      | false => simp only [Bool.false_eq_true, if_false] at hm ⊢; exact wpAny_mono (ib.X hR h3 (H.step S₁) hm) (fun v s' h => h.at S₁) fun _ _ x => x
    · obtain ⟨t', a', b', p, rfl, h1, h2, h3⟩ := ag_ite ha
      simp only [truthM] at hm
      refine isTrue_IfExp (wpAny_mono (it.T hR h1 H hm) (fun c s₁ h => ?_) fun _ _ x => x)
      obtain ⟨g₁, S₁, hm⟩ := h
      cases c with
      | true => simp only [if_true] at hm ⊢; exact wpAny_mono (ia.T hR h2 (H.step S₁) hm) (fun v s' h => h.at S₁) fun _ _ x => x
      | false => simp only [Bool.false_eq_true, if_false] at hm ⊢; exact wpAny_mono (ib.T hR h3 (H.step S₁) hm) (fun v s' h => h.at S₁) fun _ _ x => x
  | cmp op l r il ir =>
    refine Snd.ofX (fun {sc nm e env k σ P A E s g} hR ha H hm => ?_) (fun {sc nm e env k σ P A E s g} hR ha H hm => ?_) (by intros; simp only [evalL, not_false_eq_true]) (by intros; simp only [boolM, not_false_eq_true]) (by intros; simp only [allM, not_false_eq_true]) (by intros; simp only [testM, not_false_eq_true])
    · obtain ⟨a, b, p, rfl, h1, h2, h3⟩ := ag_cmp ha
      simp only [evalM] at hm
      refine wpAny_Compare1 (wpAny_mono (il.X hR h1 H hm) (fun a s₁ h => ?_) fun _ _ x => x) h3
      obtain ⟨g₁, p, S₁, ra, hm⟩ := h
      refine wpAny_mono (ir.X hR h2 (H.step S₁) hm) (fun b s₂ h => ?_) fun _ _ x => x
      obtain ⟨g₂, q, S₂, rb, hm⟩ := h
      refine wpAny_mono (sound_cmp op (by have := hR.units; show A.units < 9900; omega) S₂.keep (ra.mono S₂.le) rb hm) (fun v s' h => ?_) fun _ _ x => x
      obtain ⟨g₃, c, S₃, rfl, h⟩ := h
      exact ⟨g₃, _, (S₁.trans S₂).trans S₃, .bool _, h⟩
    · obtain ⟨a, b, p, rfl, h1, h2, h3⟩ := ag_cmp ha
      simp only [truthM] at hm
      refine wpAny_isTrue_Compare1 (wpAny_mono (il.X hR h1 H hm) (fun a s₁ h => ?_) fun _ _ x => x) h3
      obtain ⟨g₁, p, S₁, ra, hm⟩ := h
      refine wpAny_mono (ir.X hR h2 (H.step S₁) hm) (fun b s₂ h => ?_) fun _ _ x => x
      obtain ⟨g₂, q, S₂, rb, hm⟩ := h
      refine wpAny_mono (sound_cmp op (by have := hR.units; show A.units < 9900; omega) S₂.keep (ra.mono S₂.le) rb hm) (fun v s' h => ?_) fun _ _ x => x
      obtain ⟨g₃, c, S₃, rfl, h⟩ := h
      exact wpAny_truthy_bool ⟨g₃, (S₁.trans S₂).trans S₃, h⟩
  | call f args ia =>
    refine Snd.ofX (fun {sc nm e env k σ P A E s g} hR ha H hm => ?_) (fun {sc nm e env k σ P A E s g} hR ha H hm => ?_) (by intros; simp only [evalL, not_false_eq_true]) (by intros; simp only [boolM, not_false_eq_true]) (by intros; simp only [allM, not_false_eq_true]) (by intros; simp only [testM, not_false_eq_true])
    · obtain ⟨px, a, as, p, rfl, h1, h2⟩ := ag_call ha
      simp only [evalM] at hm
      exact eval_call_own (R := fun _ => True) LL hF hR H h1 h2 (ia.L hR h2 H hm.2) hm.1 fun v s' h => h
    · obtain ⟨px, a, as, p, rfl, h1, h2⟩ := ag_call ha
      simp only [truthM] at hm
      refine isTrue_call (eval_call_own (R := fun _ => True) LL hF hR H h1 h2 (ia.L hR h2 H hm.2) hm.1 fun v s' h => ?_)
      obtain ⟨g₁, q, S, r, h⟩ := h
      exact wp_of_truthy S r h
  | blt b args ia =>
    refine Snd.ofX (fun {sc nm e env k σ P A E s g} hR ha H hm => ?_) (fun {sc nm e env k σ P A E s g} hR ha H hm => ?_) (by intros; simp only [evalL, not_false_eq_true]) (by intros; simp only [boolM, not_false_eq_true]) (by intros; simp only [allM, not_false_eq_true]) (by intros; simp only [testM, not_false_eq_true])
    · obtain ⟨px, a, as, p, rfl, h1, h2⟩ := ag_blt ha
      simp only [evalM] at hm
      exact eval_call_blt LL hR H h1 h2 (ia.L hR h2 H hm) fun v s' h => h
    · obtain ⟨px, a, as, p, rfl, h1, h2⟩ := ag_blt ha
      simp only [truthM] at hm
      refine isTrue_call (eval_call_blt LL hR H h1 h2 (ia.L hR h2 H hm) fun v s' h => ?_)
      obtain ⟨g₁, q, S, r, h⟩ := h
      exact wp_of_truthy S r h
  | meth m o a io ia =>
    refine Snd.ofX (fun {sc nm e env k σ P A E s g} hR ha H hm => ?_) (fun {sc nm e env k σ P A E s g} hR ha H hm => by simp only [truthM] at hm) (by intros; simp only [evalL, not_false_eq_true]) (by intros; simp only [boolM, not_false_eq_true]) (by intros; simp only [allM, not_false_eq_true]) (by intros; simp only [testM, not_false_eq_true])
    obtain ⟨o', v, ap, p, rfl, h1, h2, h3, h4, h5, h6⟩ := ag_meth ha
    simp only [evalM] at hm
    refine Call_method1 (base_plain h3) (by rw [starEach_cons h2]; rfl) h1 (wpAny_mono (io.X hR h5 H hm) (fun ov s₁ h => ?_) fun _ _ x => x)
    obtain ⟨g₁, q, S₁, ro, hm⟩ := h
    have H₁ := H.step S₁
    cases ro <;> try exact False.elim hm
    rename_i xs t
    obtain ⟨hl, hm⟩ : xs.length ≤ 16777216 ∧ _ := hm
    have hsz : (⟨xs.toArray⟩ : Str).length ≤ sizeLine := by show Array.size _ ≤ _; rw [List.size_toArray]; exact size16 hl
    rcases h4 with rfl | rfl
    · refine SB.rstripChars (wpAny_mono (ia.X hR h6 H₁ hm) (fun v s₂ h => ?_) fun _ _ x => x) hsz
      obtain ⟨g₂, q, S₂, ra, h⟩ := h
      rcases h with ⟨_, b, rfl, h⟩ | ⟨h, _⟩
      · cases ra
        refine ⟨_, _, rfl, fun t' k' => ?_⟩
        rw [strip_is]
        exact Post.at (S₁.trans S₂) (Post.toks S₂.keep _ (.str _ _) h)
      · exact absurd h (by decide)
    · refine SB.join (wpAny_mono (ia.X hR h6 H₁ hm) (fun v s₂ h => ?_) fun _ _ x => x)
      obtain ⟨g₂, q, S₂, ra, h⟩ := h
      rcases h with ⟨h, _⟩ | ⟨_, ss, rfl, rfl, hw, h⟩
      · exact absurd h (by decide)
      · cases ra with | list e c d rr =>
        obtain ⟨l, rfl, hl2⟩ := repL_strs rr
        refine ⟨_, l, rfl, list_isList S₂.keep e c d, _, hl2, joinOk_of_weight ?_ (by decide), fun t' k' => ?_⟩
        · have e1 : (ss.map fun x => (⟨x.toArray⟩ : Str)).map (·.length) = ss.map (·.length) := by
            rw [List.map_map]
            refine List.map_congr_left fun x _ => ?_
            show x.toArray.size = _; simp
          rw [e1, List.length_map]; exact hw
        · rw [glued_is]
          exact Post.at (S₁.trans S₂) (Post.toks S₂.keep _ (.str _ _) h)
  | item o i io ii =>
    refine Snd.ofX (fun {sc nm e env k σ P A E s g} hR ha H hm => ?_) (fun {sc nm e env k σ P A E s g} hR ha H hm => by simp only [truthM] at hm) (by intros; simp only [evalL, not_false_eq_true]) (by intros; simp only [boolM, not_false_eq_true]) (by intros; simp only [allM, not_false_eq_true]) (by intros; simp only [testM, not_false_eq_true])
    obtain ⟨v, sl, p, rfl, h1, h2, h3⟩ := ag_item ha
    simp only [evalM] at hm
    refine Subscript_ (wpAny_mono (io.X hR h1 H hm) (fun a s₁ h => ?_) fun _ _ x => x)
    obtain ⟨g₁, p, S₁, ra, hm⟩ := h
    refine wpAny_mono (ii.X hR h2 (H.step S₁) hm) (fun b s₂ h => ?_) fun _ _ x => x
    obtain ⟨g₂, q, S₂, rb, hm⟩ := h
    exact wpAny_mono (sound_item h3 S₂.keep (ra.mono S₂.le) rb hm) (fun v s' h => h.at (S₁.trans S₂)) fun _ _ x => x
  | slice o lo hi io il ih =>
    refine Snd.ofX (fun {sc nm e env k σ P A E s g} hR ha H hm => ?_) (fun {sc nm e env k σ P A E s g} hR ha H hm => by simp only [truthM] at hm) (by intros; simp only [evalL, not_false_eq_true]) (by intros; simp only [boolM, not_false_eq_true]) (by intros; simp only [allM, not_false_eq_true]) (by intros; simp only [testM, not_false_eq_true])
    obtain ⟨v, l, u, ps, p, rfl, h1, h2, h3⟩ := ag_slice ha
    simp only [evalM] at hm
    refine Subscript_ (wpAny_mono (io.X hR h1 H hm) (fun a s₁ h => ?_) fun _ _ x => x)
    obtain ⟨g₁, p, S₁, ra, hm⟩ := h
    refine wpAny_Slice (wpAny_mono (il.O hR h2 (H.step S₁) hm) (fun b s₂ h => ?_) fun _ _ x => x)
    obtain ⟨g₂, q, S₂, rb, hm⟩ := h
    refine wpAny_mono (ih.O hR h3 ((H.step S₁).step S₂) hm) (fun c s₃ h => ?_) fun _ _ x => x
    obtain ⟨g₃, r, S₃, rc, hm⟩ := h
    refine wpAny_pure ?_
    obtain ⟨a', ia', hm⟩ := part_isPart (rb.mono S₃.le) hm
    obtain ⟨b', ib', hm⟩ := part_isPart rc hm
    exact wpAny_mono (sound_slice S₃.keep ((ra.mono S₂.le).mono S₃.le) ia' ib' hm) (fun v s' h => h.at ((S₁.trans S₂).trans S₃)) fun _ _ x => x
  | absent =>
    exact Snd.ofX (fun {sc nm e env k σ P A E s g} hR ha H hm => (ag_no rfl ha).elim) (fun {sc nm e env k σ P A E s g} hR ha H hm => by simp only [truthM] at hm) (by intros; simp only [evalL, not_false_eq_true]) (by intros; simp only [boolM, not_false_eq_true]) (by intros; simp only [allM, not_false_eq_true]) (by intros; simp only [testM, not_false_eq_true])
  | list xs ix =>
    refine Snd.ofX (fun {sc nm e env k σ P A E s g} hR ha H hm => ?_) (fun {sc nm e env k σ P A E s g} hR ha H hm => by simp only [truthM] at hm) (by intros; simp only [evalL, not_false_eq_true]) (by intros; simp only [boolM, not_false_eq_true]) (by intros; simp only [allM, not_false_eq_true]) (by intros; simp only [testM, not_false_eq_true])
    obtain ⟨es, p, rfl, h1⟩ := ag_list ha
    simp only [evalM] at hm
    refine List_ (wpAny_mono (ix.L hR h1 H hm) (fun vs s₁ h => ?_) fun _ _ x => x)
    obtain ⟨g₁, ps, S, r, hl, hp⟩ := h
    refine wpAny_newObj_type ?_ (by show vs.toArray.size ≤ sizeLine; rw [List.size_toArray, r.length, sizeLine_eq]; omega)
    exact Post.at S ⟨_, _, Step.push S.keep _ rfl _, .list (putG_self _ _ _) rfl rfl (r.mono (Step.push S.keep _ rfl s₁.toks).le), hp⟩
  | tuple xs ix =>
    refine Snd.ofX (fun {sc nm e env k σ P A E s g} hR ha H hm => ?_) (fun {sc nm e env k σ P A E s g} hR ha H hm => by simp only [truthM] at hm) (by intros; simp only [evalL, not_false_eq_true]) (by intros; simp only [boolM, not_false_eq_true]) (by intros; simp only [allM, not_false_eq_true]) (by intros; simp only [testM, not_false_eq_true])
    obtain ⟨es, _, p, rfl, h1⟩ := ag_tuple ha
    simp only [evalM] at hm
    refine Tuple_ (wpAny_mono (ix.L hR h1 H hm) (fun vs s₁ h => ?_) fun _ _ x => x)
    obtain ⟨g₁, ps, S, r, hl, hp⟩ := h
    refine wpAny_newObj_type ?_ (by show vs.toArray.size ≤ sizeLine; rw [List.size_toArray, r.length, sizeLine_eq]; omega)
    exact Post.at S ⟨_, _, Step.push S.keep _ rfl _, .tuple (putG_self _ _ _) rfl rfl (r.mono (Step.push S.keep _ rfl s₁.toks).le), hp⟩
  | dict ks vs iv =>
    refine Snd.ofX (fun {sc nm e env k σ P A E s g} hR ha H hm => ?_) (fun {sc nm e env k σ P A E s g} hR ha H hm => by simp only [truthM] at hm) (by intros; simp only [evalL, not_false_eq_true]) (by intros; simp only [boolM, not_false_eq_true]) (by intros; simp only [allM, not_false_eq_true]) (by intros; simp only [testM, not_false_eq_true])
    obtain ⟨keys, es, p, rfl, h1, h2, h3, h4, h5, h6⟩ := ag_dict ha
    simp only [evalM] at hm
    obtain ⟨l1, l2⟩ := keysOK_len h1
    have S₀ : Step s g { s with heap := s.heap.push { cls := .type "dict", data := .dict #[] } } g := Step.keeps0 H.keep ⟨_, _, rfl, fun b o e => Heap.get?_push_of_some _ e⟩
    refine wpAny_Dict_walk (knd := PySem.strKind prog w) l2 h2 (by intro e; rw [e] at l1; simp at l1; omega) (by omega) ?_
    refine wpAny_mono (iv.D hR h1 h2 h6 (H.step S₀) hm) (fun pv s₁ h => ?_) fun _ _ x => x
    obtain ⟨g₁, xs, S₁, ⟨hl, hP⟩, kvs, hc, hk, rr⟩ := h
    have hd0 : s₁.heap.DictOf (PySem.strKind prog w) s.heap.objs.size [] := (Heap.DictOf.new s.heap).keep (Keeps.up S₁.keeps)
    refine ⟨kvs, hc, hd0, fun h' hd hs' => ?_⟩
    rw [merged_nil_of_nodup _ (by rw [hk]; exact h5)] at hd
    obtain ⟨o, ho, hio⟩ := Heap.dictOf_iff.mp hd
    have hfr := fresh_none s.heap
    have gD : g s.heap.objs.size = Option.none := by
      cases e : g s.heap.objs.size with
      | none => rfl
      | some o => rw [H.keep _ o e] at hfr; cases hfr
    have gD₁ : g₁ s.heap.objs.size = Option.none := S₁.still (Heap.get?_push_size _ rfl) gD
    have le : Le g₁ (putG g₁ s.heap.objs.size o) := fun b o' e => by
      unfold putG; rw [if_neg (by rintro rfl; rw [gD₁] at e; cases e)]; exact e
    have S : Step s g { s₁ with heap := h', toks := s₁.toks + pv.length } (putG g₁ s.heap.objs.size o) := by
      have S₂ := S₀.trans S₁
      obtain ⟨hh, tk, rfl, hkk⟩ := S₂.keeps
      refine ⟨⟨h', _, rfl, fun b o' e => ?_⟩, fun b o' e => le b o' (S₂.le b o' e), fun b e1 e2 => ?_, fun b o' e => ?_⟩
      · exact hs'.extBut b o' (by rintro rfl; rw [hfr] at e; cases e) (hkk b o' e)
      · by_cases hb : b = s.heap.objs.size
        · rw [hb]; exact hfr
        · unfold putG at e2; rw [if_neg hb] at e2; exact S₂.new b e1 e2
      · unfold putG at e
        by_cases hb : b = s.heap.objs.size
        · rw [if_pos hb] at e; cases e; rw [hb]; exact ho
        · rw [if_neg hb] at e; exact hs'.extBut b o' hb (S₂.keep b o' e)
    refine ⟨_, _, S, .dict (putG_self _ _ _) hio ?_ ?_, hP⟩
    · rw [hk]
      have : (ks.zip xs).map (·.1) = ks := List.map_fst_zip (by omega)
      conv => lhs; rw [← this]
      rw [List.map_map]; rfl
    · have : (ks.zip xs).map (·.2) = xs := List.map_snd_zip (by omega)
      rw [this]
      exact rr.mono le
  | hole =>
    exact Snd.ofX (fun {sc nm e env k σ P A E s g} hR ha H hm => by simp only [evalM] at hm) (fun {sc nm e env k σ P A E s g} hR ha H hm => by simp only [truthM] at hm) (by intros; simp only [evalL, not_false_eq_true]) (by intros; simp only [boolM, not_false_eq_true]) (by intros; simp only [allM, not_false_eq_true]) (by intros; simp only [testM, not_false_eq_true])
  | comp j elt iter tests ie ii it =>
    refine Snd.ofX (fun {sc nm e env k σ P A E s g} hR ha H hm => ?_) (fun {sc nm e env k σ P A E s g} hR ha H hm => by simp only [truthM] at hm) (by intros; simp only [evalL, not_false_eq_true]) (by intros; simp only [boolM, not_false_eq_true]) (by intros; simp only [allM, not_false_eq_true]) (by intros; simp only [testM, not_false_eq_true])
    obtain ⟨e', x, px, itx, ifs, sc', p, rfl, h1, h2, h3, h4, h5⟩ := ag_comp ha
    have O := compOK_iff h2
    simp only [evalM] at hm
    obtain ⟨cl, hc1, hc2⟩ := closureFor_is (env := env) (scope := sc') fun y hy e => (H.cells _ (O.free y hy e).2).2
    rw [eval_ListComp]
    refine wpAny_comprehension_free (use := none) rfl (h5 env) hc1 O.kind O.locs (wpAny_mono (ii.X hR h1 H hm) (fun xv s₁ h => ?_) fun _ _ x => x)
    obtain ⟨g₁, q, S₁, rx, hm⟩ := h
    · refine comp_block (RR := fun acc C => compPost (model prog w) A E none (Post s g P) acc C) hR.handled (H.step S₁) O hc2 rx hm (fun p cenv s₃ g₃ R E' H' ht => it.Te hR h4 H' ht) (fun p cenv s₃ g₃ R E' H' ht => ie.X hR h3 H' ht) ?_
      intro C D s' g' acc S hC hns gC hCD rD hP
      obtain ⟨m, hns⟩ := hns
      refine ⟨m, hns, fun h' hs' => Post.at S₁ ⟨g', _, ⟨?_, S.le, S.new, ?_⟩, rD, hP⟩⟩
      · obtain ⟨h'', tk, rfl, hk⟩ := S.keeps
        exact ⟨h', tk, rfl, fun b o e => hs'.extBut b o (by rintro rfl; rw [hC] at e; cases e) (hk b o e)⟩
      · exact fun b o e => hs'.extBut b o (by rintro rfl; rw [gC] at e; cases e) (S.keep b o e)
  | nil =>
    refine ⟨fun {sc nm e env k σ P A E s g} hR ha H hm => (ag_no rfl ha).elim, fun {sc nm es env k σ P A E s g pos} hR ha H hm => ?_, fun {op sc nm es env k σ P A E s g pos} hR ha H hm => by simp only [boolM] at hm,
      fun {sc nm e env k σ P A E s g} hR ha H hm => by simp only [truthM] at hm, fun {op sc nm es env k σ P A E s g} hR ha H hm => ?_, fun {sc nm es env k σ P A E s g} hR ha H hm => ?_, fun {sc nm ks keys es env k σ P A E s g pos} hR hk hl ha H hm => ?_⟩
    · cases agL_nil ha
      simp only [evalL] at hm
      exact Calls.spliced_nil ⟨g, _, Step.refl H.keep, .nil, hm⟩
    · cases agL_nil ha
      simp only [allM] at hm
      rw [arm_allTrue_nil]
      refine wpAny_pure ⟨g, Step.refl H.keep, ?_⟩
      cases op <;> exact hm
    · cases agL_nil ha
      simp only [testM] at hm
      exact wpAny_tests_nil ⟨g, Step.refl H.keep, hm⟩
    · cases agL_nil ha
      simp only [evalL] at hm
      have hk0 : keys = [] := List.length_eq_zero_iff.mp hl
      subst hk0
      have hks : ks = [] := by cases ks <;> simp [keysOK] at hk; rfl
      subst hks
      exact pairTrees_nil_walk ⟨g, _, Step.refl H.keep, hm, [], trivial, rfl, .nil⟩
  | cons h t ih it =>
    refine ⟨fun {sc nm e env k σ P A E s g} hR ha H hm => (ag_no rfl ha).elim, fun {sc nm es env k σ P A E s g pos} hR ha H hm => ?_, fun {op sc nm es env k σ P A E s g pos} hR ha H hm => ?_,
      fun {sc nm e env k σ P A E s g} hR ha H hm => by simp only [truthM] at hm, fun {op sc nm es env k σ P A E s g} hR ha H hm => ?_, fun {sc nm es env k σ P A E s g} hR ha H hm => ?_, fun {sc nm ks keys es env k σ P A E s g pos} hR hk hl ha H hm => ?_⟩
    · obtain ⟨e, r, rfl, h1, h2, h3⟩ := agL_cons' ha
      simp only [evalL] at hm
      rw [starEach_cons h2]
      refine Calls.spliced_cons (wpAny_mono (ih.X hR h1 H hm) (fun v s₁ hh => ?_) fun _ _ x => x)
      obtain ⟨g₁, p, S₁, ra, hm⟩ := hh
      refine wpAny_mono (it.L hR h3 (H.step S₁) hm) (fun vs s₂ hh => ?_) fun _ _ x => x
      obtain ⟨g₂, ps, S₂, rs, hm⟩ := hh
      exact ⟨g₂, _, S₁.trans S₂, .cons (ra.mono S₂.le) rs, hm⟩
    · obtain ⟨e, r, rfl, h1, h2, h3⟩ := agL_cons' ha
      cases t <;> try (exfalso; (cases r <;> simp [agL] at h3); done)
      case nil =>
        cases agL_nil h3
        simp only [boolM] at hm
        show wpAny _ A (eval e env) _ _ s
        exact ih.X hR h1 H hm
      case cons y t =>
        obtain ⟨e2, es, rfl, h4, h5, h6⟩ := agL_cons' h3
        simp only [boolM] at hm
        show wpAny _ A (do
          let v ← eval e env
          standAt pos
          let t ← holding [v] (PySem.truthy v)
          match op, t with
          | .And, false | .Or, true => pure v
          | _, _ => boolOp pos op (evalEach (e2 :: es) env)) _ _ s
        refine wpAny_bind (wpAny_mono (ih.X hR h1 H hm) (fun v s₁ h => ?_) fun _ _ x => x)
        obtain ⟨g₁, p, S₁, rv, hq⟩ := h
        refine wpAny_bind (wpAny_standAt (wpAny_bind (wpAny_holding ?_)))
        refine sound_truthy rv hq fun b tk hz => ?_
        have S₂ := S₁.trans (Step.toks S₁.keep tk)
        by_cases hs : stops op b = true
        · rw [if_pos hs] at hz
          cases op <;> cases b <;> simp [stops] at hs <;> exact wpAny_pure ⟨g₁, p, S₂, rv, hz⟩
        · rw [if_neg hs] at hz
          have hb := it.Bo (op := op) (pos := pos) (A := A) (E := E) hR h3 (H.step S₂) hz
          cases op <;> cases b <;> simp [stops] at hs <;> exact wpAny_mono hb (fun v s' h => h.at S₂) fun _ _ x => x
    · obtain ⟨e, r, rfl, h1, h2, h3⟩ := agL_cons' ha
      simp only [allM] at hm
      rw [arm_allTrue_cons]
      refine wpAny_bind (wpAny_mono (ih.T hR h1 H hm) (fun b s₁ h => ?_) fun _ _ x => x)
      obtain ⟨g₁, S₁, hq⟩ := h
      by_cases hs : stops op b = true
      · rw [if_pos hs] at hq
        cases op <;> cases b <;> simp [stops] at hs <;> exact wpAny_pure ⟨g₁, S₁, hq⟩
      · rw [if_neg hs] at hq
        have hb := it.Al (op := op) (A := A) (E := E) hR h3 (H.step S₁) hq
        cases op <;> cases b <;> simp [stops] at hs <;> exact wpAny_mono hb (fun v s' h => h.at S₁) fun _ _ x => x
    · obtain ⟨e, r, rfl, h1, h2, h3⟩ := agL_cons' ha
      cases t <;> try (simp only [testM] at hm; done)
      cases agL_nil h3
      simp only [testM] at hm
      exact wpAny_tests_one (ih.T hR h1 H hm)
    · obtain ⟨e, r, rfl, h1, h2, h3⟩ := agL_cons' ha
      simp only [evalL] at hm
      cases keys with
      | nil => simp at hl
      | cons key keys =>
      cases ks with
      | nil => simp [keysOK] at hk
      | cons kk ks =>
      cases key with
      | none => simp [keysOK] at hk
      | some ke =>
      simp only [keysOK, Bool.and_eq_true, beq_iff_eq] at hk
      obtain ⟨hk1, hk2⟩ := hk
      obtain ⟨c1, c2, rfl⟩ := constOf_is hk1
      refine pairTrees_cons_walk (Calls.Constant_str ?_)
      have S₀ : Step s g { s with toks := s.toks + 1 } g := Step.toks H.keep _
      refine wpAny_mono (ih.X hR h1 (H.step S₀) hm) (fun v s₁ hh => ?_) fun _ _ x => x
      obtain ⟨g₁, p, S₁, ra, hm⟩ := hh
      refine wpAny_mono (it.D hR hk2 (by simpa using hl) h3 ((H.step S₀).step S₁) hm) (fun vs s₂ hh => ?_) fun _ _ x => x
      obtain ⟨g₂, xs, S₂, hP, kvs, hc, hkk, rr⟩ := hh
      exact ⟨g₂, _, (S₀.trans S₁).trans S₂, hP, (⟨kk.toArray⟩, v) :: kvs, ⟨strKind_is prog w _ _, rfl, hc⟩, by simp [hkk], .cons (ra.mono S₂.le) rr⟩
end
end Mine
end part_W10
section part_W11
set_option Elab.async false
set_option maxRecDepth 10000
set_option linter.unusedVariables false
set_option maxHeartbeats 1000000
namespace Mine
open PySem PySem.W PyProof.Rows

theorem ns_unique {h : Heap} {a : Addr} {m m' : Str → Option Value} (x : h.Ns a m) (y : h.Ns a m') : m = m' := by
  obtain ⟨o, es, ep, e, d, _, f⟩ := x
  obtain ⟨o', es', ep', e', d', _, f'⟩ := y
  rw [e] at e'; cases e'
  rw [d] at d'; cases d'
  funext n
  rw [← f n, ← f' n]

theorem others_ne : ∀ (σ : List Slot) (j i : Nat) (xs : List PV), others σ j = true → getS σ i = .own xs → i = j
  | [], j, i, xs, h, e => by simp [getS] at e
  | x :: r, 0, 0, xs, h, e => rfl
  | x :: r, 0, i + 1, xs, h, e => by
    simp only [others, List.all_eq_true] at h
    simp only [getS] at e
    exfalso
    have : ∀ (r : List Slot) (i : Nat), getS r i = .own xs → Slot.own xs ∈ r := by
      intro r
      induction r with
      | nil => intro i e; simp [getS] at e
      | cons y r ih =>
        intro i e
        cases i with
        | zero => simp only [getS] at e; rw [e]; exact List.mem_cons_self
        | succ i => exact List.mem_cons_of_mem _ (ih i e)
    have := h _ (this r i e)
    simp at this
  | x :: r, j + 1, 0, xs, h, e => by
    simp only [getS] at e
    subst e
    simp [others] at h
  | x :: r, j + 1, i + 1, xs, h, e => by
    simp only [others, Bool.and_eq_true] at h
    simp only [getS] at e
    rw [others_ne r j i xs h.2 e]

structure SInv (B : Heap) (sc : Scope) (nm : List (Option Str)) (env : Env) (s₀ : Shared) (g₀ : Ghost prog w) (k : Ghost prog w) (σ : List Slot) (g : Ghost prog w) (s : Shared) : Prop where
  E : EnvOK B sc nm env k σ g s
  same : ∃ h tk, s = { s₀ with heap := h, toks := tk }
  k0 : ∀ b o, s₀.heap.get? b = some o → k b = some o
  kk : Keep k s.heap
  le : Le g₀ g
  gk : ∀ b, g₀ b = Option.none → k b ≠ Option.none → g b = Option.none
  loc : ∃ m, s.heap.Ns env.locals m
  gL : g env.locals = Option.none
  kL : k env.locals = Option.none
  cell : ∀ x c, env.cells.lookup x = some c → (∃ v, s.heap.IsCell c v) ∧ g c = Option.none ∧ k c = Option.none ∧ c ≠ env.locals
  apart : ∀ x y c, env.cells.lookup x = some c → env.cells.lookup y = some c → x = y
  nodup : ∀ i j x, nameAt nm i = some x → nameAt nm j = some x → i = j

section
variable {prog : Program} {w : World} {B : Heap} {sc : Scope} {nm : List (Option Str)} {env : Env} {s₀ : Shared} {g₀ k : Ghost prog w} {σ : List Slot} {g : Ghost prog w} {s : Shared} {A : Around} {E : Value → Shared → Prop}

theorem SInv.step {g' : Ghost prog w} {s' : Shared} (I : SInv B sc nm env s₀ g₀ k σ g s) (S : Step s g s' g') : SInv B sc nm env s₀ g₀ k σ g' s' := by
  have up := Keeps.up S.keeps
  refine ⟨I.E.step S, ?_, I.k0, fun b o e => up b o (I.kk b o e), I.le.trans S.le, fun b h1 h2 => ?_, ?_, ?_, I.kL, fun x c hc => ?_, I.apart, I.nodup⟩
  · obtain ⟨h, tk, rfl⟩ := I.same
    obtain ⟨h', tk', rfl, _⟩ := S.keeps
    exact ⟨h', tk', rfl⟩
  · cases e : k b with
    | none => exact absurd e h2
    | some o => exact S.still (I.kk b o e) (I.gk b h1 h2)
  · obtain ⟨m, hm⟩ := I.loc; exact ⟨m, hm.keeps up⟩
  · obtain ⟨m, o, _, _, ho, _⟩ := I.loc; exact S.still ho I.gL
  · obtain ⟨⟨v, hv⟩, h2, h3, h4⟩ := I.cell x c hc
    refine ⟨⟨v, hv.keeps up⟩, ?_, h3, h4⟩
    obtain ⟨o, ho, _⟩ := hv
    exact S.still ho h2

/-- what another part of the heap may do: only a changes, which is neither the frame's nor known -/
theorem SInv.heap {h' : Heap} {tk : Nat} {k' : Ghost prog w} (I : SInv B sc nm env s₀ g₀ k σ g s) {a : Addr} (hup : ∀ b o, b ≠ a → s.heap.get? b = some o → h'.get? b = some o) (ga : g a = Option.none) (haL : a ≠ env.locals) (hac : ∀ x c, env.cells.lookup x = some c → a ≠ c)
    (hown : ∀ i x xs b, nameAt nm i = some x → getS σ i = .own xs → VarAt s.heap env x (.ref b) → a ≠ b) (hk0 : ∀ b o, s₀.heap.get? b = some o → k' b = some o) (hkk : Keep k' h') (hgk : ∀ b, g₀ b = Option.none → k' b ≠ Option.none → g b = Option.none)
    (hkL : k' env.locals = Option.none) (hkc : ∀ x c, env.cells.lookup x = some c → k' c = Option.none) (hko : ∀ i x xs b, nameAt nm i = some x → getS σ i = .own xs → VarAt s.heap env x (.ref b) → k' b = Option.none) :
    SInv B sc nm env s₀ g₀ k' σ g { s with heap := h', toks := tk } := by
  have kp : Keep g h' := fun b o e => hup b o (by rintro rfl; rw [ga] at e; cases e) (I.E.keep b o e)
  have ns : ∀ m, s.heap.Ns env.locals m → h'.Ns env.locals m := fun m hm => hm.at' fun o e => hup _ o (Ne.symm haL) e
  have va : ∀ x v, VarAt s.heap env x v → VarAt h' env x v := fun x v hv => by
    rcases hv with ⟨h1, m, h2, h3⟩ | ⟨h1, c, h2, o, h3, h4⟩
    · exact .inl ⟨h1, m, ns m h2, h3⟩
    · exact .inr ⟨h1, c, h2, o, hup c o (Ne.symm (hac x c h2)) h3, h4⟩
  refine ⟨{ I.E with keep := kp, vals := fun i x hx => ?_ }, ?_, hk0, hkk, I.le, hgk, ?_, I.gL, hkL, fun x c hc => ?_, I.apart, I.nodup⟩
  · have hv := I.E.vals i x hx
    cases e : getS σ i with
    | no => exact trivial
    | val p =>
      rw [e] at hv
      obtain ⟨v, h1, h2⟩ := hv
      exact ⟨v, va x v h1, h2⟩
    | own xs =>
      rw [e] at hv
      obtain ⟨b, vs, h1, h2, h3, h4, h5⟩ := hv
      exact ⟨b, vs, va x _ h1, h2.at fun o e' => hup b o (Ne.symm (hown i x xs b hx e h1)) e', h3, hko i x xs b hx e h1, h5⟩
  · obtain ⟨h, t, rfl⟩ := I.same; exact ⟨h', tk, rfl⟩
  · obtain ⟨m, hm⟩ := I.loc; exact ⟨m, ns m hm⟩
  · obtain ⟨⟨v, o, ho, hd⟩, h2, h3, h4⟩ := I.cell x c hc
    exact ⟨⟨v, o, hup c o (Ne.symm (hac x c hc)) ho, hd⟩, h2, hkc x c hc, h4⟩

theorem plain_not_ns {h : Heap} {a b : Addr} {xs : Array Value} {m : Str → Option Value} (x : h.PlainList a xs) (y : h.Ns b m) : a ≠ b := by
  rintro rfl
  obtain ⟨n, e⟩ := x
  obtain ⟨o, es, ep, e', d, _⟩ := y
  rw [e] at e'; cases e'; cases d
theorem plain_not_cell {h : Heap} {a b : Addr} {xs : Array Value} {v : Option Value} (x : h.PlainList a xs) (y : h.IsCell b v) : a ≠ b := by
  rintro rfl
  obtain ⟨n, e⟩ := x
  obtain ⟨o, e', d⟩ := y
  rw [e] at e'; cases e'; cases d

noncomputable def isLoc (sc : Scope) (x : Str) : Bool := sc.names.lookup x == some .local || sc.names.lookup x == some .cell

/-- the slot of the name that a store has turned, and of all others -/
theorem sound_store {j : Nat} {x : Str} {v : Value} {sl : Slot} {Q : Unit → Shared → Prop} (I : SInv B sc nm env s₀ g₀ k σ g s) (hx : nameAt nm j = some x) (hl : isLoc sc x = true)
    (hc0 : sc.names.lookup x = some .cell → env.kindOf x = some .cell)
    (hsl : ∀ h', VarAt h' env x v → (∀ b o, b ≠ env.locals → (∀ y c, env.cells.lookup y = some c → b ≠ c) → s.heap.get? b = some o → h'.get? b = some o) → SlotOK h' g k env x sl)
    (h : ∀ s', SInv B sc nm env s₀ g₀ k (setS σ j sl) g s' → Q () s') :
    wpAny (model prog w) A (storeName env x v) Q E s := by
  obtain ⟨m, hm⟩ := I.loc
  have fin : ∀ (h' : Heap) (a : Addr), VarAt h' env x v → (∀ b o, b ≠ a → s.heap.get? b = some o → h'.get? b = some o) → (a = env.locals ∨ ∃ y, env.cells.lookup y = some a) →
      (∀ y u, y ≠ x → VarAt s.heap env y u → VarAt h' env y u) → (∃ m, h'.Ns env.locals m) → (∀ y c, env.cells.lookup y = some c → ∃ u, h'.IsCell c u) → ∀ tk, SInv B sc nm env s₀ g₀ k (setS σ j sl) g { s with heap := h', toks := tk } := by
    intro h' a hv hup ha hva hns hcl tk
    have ga : g a = Option.none := by
      rcases ha with rfl | ⟨y, hy⟩
      · exact I.gL
      · exact (I.cell y a hy).2.1
    have ka : k a = Option.none := by
      rcases ha with rfl | ⟨y, hy⟩
      · exact I.kL
      · exact (I.cell y a hy).2.2.1
    have kp : Keep g h' := fun b o e => hup b o (by rintro rfl; rw [ga] at e; cases e) (I.E.keep b o e)
    refine ⟨{ I.E with keep := kp, vals := fun i y hy => ?_ }, ?_, I.k0, fun b o e => hup b o (by rintro rfl; rw [ka] at e; cases e) (I.kk b o e), I.le, I.gk, hns, I.gL, I.kL, fun y c hc => ?_, I.apart, I.nodup⟩
    · by_cases hij : i = j
      · subst hij
        have hxy : y = x := by rw [hx] at hy; exact (Option.some.inj hy).symm
        subst hxy
        rcases getS_setS_or σ i sl with e | e
        · rw [e]
          refine hsl h' hv fun b o h1 h2 e => hup b o ?_ e
          rcases ha with rfl | ⟨z, hz⟩
          · exact h1
          · exact h2 z a hz
        · rw [e]; exact trivial
      · rw [getS_setS_ne _ _ _ _ hij]
        have hyx : y ≠ x := by rintro rfl; exact hij (I.nodup i j y hy hx)
        have hvv := I.E.vals i y hy
        cases e : getS σ i with
        | no => exact trivial
        | val p =>
          rw [e] at hvv
          obtain ⟨u, h1, h2⟩ := hvv
          exact ⟨u, hva y u hyx h1, h2⟩
        | own xs =>
          rw [e] at hvv
          obtain ⟨b, vs, h1, h2, h3, h4, h5⟩ := hvv
          refine ⟨b, vs, hva y _ hyx h1, h2.at fun o e' => hup b o ?_ e', h3, h4, h5⟩
          rcases ha with rfl | ⟨z, hz⟩
          · exact plain_not_ns h2 hm
          · obtain ⟨⟨u, hu⟩, _⟩ := I.cell z a hz
            exact plain_not_cell h2 hu
    · obtain ⟨hh, t, rfl⟩ := I.same; exact ⟨h', tk, rfl⟩
    · exact ⟨hcl y c hc, (I.cell y c hc).2⟩
  unfold isLoc at hl
  simp only [Bool.or_eq_true, beq_iff_eq] at hl
  rcases hl with hl | hl
  · have hk := I.E.locs x hl
    refine wpAny_storeName_local hk hm (fun h' hn' hs' => h _ ?_) (by rw [I.E.kind]; rfl)
    refine fin h' env.locals (.inl ⟨hk, _, hn', by simp⟩) (fun b o hb e => hs'.extBut b o hb e) (.inl rfl) (fun y u hyx hv => ?_) ⟨_, hn'⟩ (fun y c hc => ?_) _
    · rcases hv with ⟨h1, m', h2, h3⟩ | ⟨h1, c, h2, h3⟩
      · have := ns_unique hm h2
        subst this
        exact .inl ⟨h1, _, hn', by simp [hyx, h3]⟩
      · exact .inr ⟨h1, c, h2, h3.sameBut hs' (I.cell y c h2).2.2.2⟩
    · obtain ⟨⟨u, hu⟩, _, _, hne⟩ := I.cell y c hc
      exact ⟨u, hu.sameBut hs' hne⟩
  · have hk := hc0 hl
    obtain ⟨c, hc⟩ := Option.isSome_iff_exists.mp (I.E.cells x (.inl hl)).2
    obtain ⟨⟨v₀, hv₀⟩, g1, k1, hne⟩ := I.cell x c hc
    refine wpAny_storeName_cell I.E.kind hk hc hv₀ fun h' hn' hs' => h _ ?_
    refine fin h' c (.inr ⟨.inl hk, c, hc, hn'⟩) (fun b o hb e => hs'.extBut b o hb e) (.inr ⟨x, hc⟩) (fun y u hyx hv => ?_) ⟨m, hm.sameBut hs' (Ne.symm hne)⟩ (fun y c' hc' => ?_) s.toks
    · rcases hv with ⟨h1, m', h2, h3⟩ | ⟨h1, c', h2, h3⟩
      · exact .inl ⟨h1, m', h2.sameBut hs' (Ne.symm hne), h3⟩
      · exact .inr ⟨h1, c', h2, h3.sameBut hs' (by rintro rfl; exact hyx (I.apart y x _ h2 hc))⟩
    · by_cases hcc : c' = c
      · subst hcc; exact ⟨_, hn'⟩
      · obtain ⟨⟨u, hu⟩, _⟩ := I.cell y c' hc'
        exact ⟨u, hu.sameBut hs' hcc⟩

theorem sound_storeV {j : Nat} {x : Str} {v : Value} {p : PV} {Q : Unit → Shared → Prop} (I : SInv B sc nm env s₀ g₀ k σ g s) (hx : nameAt nm j = some x) (hl : isLoc sc x = true)
    (hc0 : sc.names.lookup x = some .cell → env.kindOf x = some .cell) (r : Rep g v p)
    (h : ∀ s', SInv B sc nm env s₀ g₀ k (setS σ j (.val p)) g s' → Q () s') :
    wpAny (model prog w) A (storeName env x v) Q E s := sound_store (sl := .val p) I hx hl hc0 (fun h' hv _ => ⟨v, hv, r⟩) h

noncomputable def storeNames (nm : List (Option Str)) (sc : Scope) : List Nat → List Str → Bool
  | [], [] => true
  | j :: js, x :: xs => (nameAt nm j == some x && isLoc sc x) && storeNames nm sc js xs
  | _, _ => false

theorem sound_storeMany (hc0 : ∀ x, sc.names.lookup x = some .cell → env.kindOf x = some .cell) : ∀ (js : List Nat) (xs : List Str) (vs : List Value) (ps : List PV) (σ : List Slot) (s : Shared) (Q : Unit → Shared → Prop), SInv B sc nm env s₀ g₀ k σ g s → storeNames nm sc js xs = true → RepL g vs ps → ps.length = js.length →
    (∀ s', SInv B sc nm env s₀ g₀ k (setMany σ js ps) g s' → Q () s') → wpAny (model prog w) A (assignInOrder (xs.map fun n => bindName env n) vs) Q E s
  | [], [], vs, ps, σ, s, Q, I, hs, r, hl, h => by
    cases r with
    | nil => exact wpAny_pure (h s (by simpa [setMany] using I))
    | cons _ _ => simp at hl
  | j :: js, x :: xs, vs, ps, σ, s, Q, I, hs, r, hl, h => by
    cases r with
    | nil => simp at hl
    | cons a r =>
      simp only [storeNames, Bool.and_eq_true, beq_iff_eq] at hs
      refine wpAny_bind (wpAny_holding (wpAny_bindName (sound_storeV I hs.1.1 hs.1.2 (hc0 x) a fun s' I' => ?_)))
      exact sound_storeMany hc0 js xs _ _ _ s' Q I' hs.2 r (by simpa using hl) (by simpa only [setMany] using h)
  | [], _ :: _, vs, ps, σ, s, Q, I, hs, r, hl, h => by simp [storeNames] at hs
  | _ :: _, [], vs, ps, σ, s, Q, I, hs, r, hl, h => by simp [storeNames] at hs
end
end Mine
end part_W11
section part_W12
set_option Elab.async false
set_option maxRecDepth 10000
set_option linter.unusedVariables false
set_option maxHeartbeats 1000000
namespace Mine
open PySem PySem.W PyProof.Rows

noncomputable def isComp (e : Expr) : Bool := e.ctorIdx == 8 || e.ctorIdx == 9 || e.ctorIdx == 10
noncomputable def isTuple (e : Expr) : Bool := e.ctorIdx == 25

noncomputable def namesOf : List Expr → Option (List Str)
  | [] => some []
  | e :: es => match nameOf e, namesOf es with
    | some x, some xs => some (x :: xs)
    | _, _ => Option.none

noncomputable def isStar : Expr → Bool
  | .Starred .. => true
  | _ => false
noncomputable def namePos (e : Expr) : Option (Str × Pos) := pick e.ctorIdx 23 fun hi => Expr.Name.elim (motive_1 := fun _ => Option (Str × Pos)) e hi fun x p => some (x, p)
theorem namePos_is {e : Expr} {x' : Str} {p' : Pos} (h : namePos e = some (x', p')) : e = .Name x' p' :=
  let ⟨hi, h⟩ := pick_is h
  Expr.Name.elim (motive_1 := fun e => ∀ hi, (Expr.Name.elim (motive_1 := fun _ => Option (Str × Pos)) e hi fun x p => some (x, p)) = some (x', p') → e = .Name x' p') e hi (fun x p hi h => by cases h; rfl) hi h
noncomputable def locAt (sc : Scope) (line : Nat) (e : Expr) : Bool := match namePos e with
  | some (id, pos) => sc.names.lookup id == some .local && pos.line == line
  | Option.none => false
noncomputable def locOf (env : Env) (line : Nat) : Expr → Option Str
  | .Name id pos => if env.kindOf id == some .local && pos.line == line then some id else Option.none
  | _ => Option.none
/-- a tuple of locals on one line, from a tuple that is not written data -/
noncomputable def swapOK (sc : Scope) (ts vs : List Expr) : Bool :=
  (ts.length == 2 || ts.length == 3) && vs.length == ts.length && !(vs.any isStar) &&
  ts.all (locAt sc ((ts.head?.map (·.pos.line)).getD 0)) &&
  (match namesOf ts with | some xs => xs.eraseDups.length == xs.length | Option.none => false) && !(vs.all (foldedForSure 8)) && !(vs.all (constantsAlone 8))

noncomputable def soleName (ts : List Expr) : Option Str := (sole ts).bind nameOf
noncomputable def soleTuple (ts : List Expr) : Option (List Expr) := (sole ts).bind tupleOf
/-- x.append(v): x, v -/
noncomputable def appendOf (e : Expr) : Option (Str × Expr) :=
  (methOf e).bind fun q => (nameOf q.1).bind fun x => if (q.2.1 == Str.ofString "append") = true then some (x, q.2.2) else Option.none
theorem soleName_is {ts : List Expr} {x : Str} (h : soleName ts = some x) : ∃ p, ts = [.Name x p] := by
  obtain ⟨e, h1, h⟩ := Option.bind_eq_some_iff.mp h
  obtain ⟨p, rfl⟩ := nameOf_is h
  exact ⟨p, sole_is h1⟩
theorem soleTuple_is {ts r : List Expr} (h : soleTuple ts = some r) : ∃ k p, ts = [.Tuple r k p] := by
  obtain ⟨e, h1, h⟩ := Option.bind_eq_some_iff.mp h
  obtain ⟨k, p, rfl⟩ := tupleOf_is h
  exact ⟨k, p, sole_is h1⟩
theorem appendOf_is {e : Expr} {x : Str} {v : Expr} (h : appendOf e = some (x, v)) : ∃ px ap p, e = .Call (.Attribute (.Name x px) (Str.ofString "append") ap) [v] [] p ∧ (ap.endLine == p.line) = true ∧ notStarred v = true := by
  obtain ⟨⟨o, a, u⟩, h1, h⟩ := Option.bind_eq_some_iff.mp h
  obtain ⟨y, h2, h⟩ := Option.bind_eq_some_iff.mp h
  obtain ⟨hc, h⟩ := andSome h
  cases h
  obtain ⟨px, e2⟩ := nameOf_is h2
  obtain ⟨ap, p, e1, h3, h4, _⟩ := methOf_is h1
  have e3 : a = Str.ofString "append" := beq_iff_eq.mp hc
  have e2 : o = .Name x px := e2
  rw [e3, e2] at e1
  exact ⟨px, ap, p, e1, h3, h4⟩

noncomputable def okName (nm : List (Option Str)) (sc : Scope) (j : Nat) (x : Option Str) : Bool := match x with
  | some x => nameAt nm j == some x && isLoc sc x && !(x == Str.ofString "__debug__") && !(x == Str.ofString "__classdict__")
  | Option.none => false
theorem okName_is {nm : List (Option Str)} {sc : Scope} {j : Nat} {x : Option Str} (h : okName nm sc j x = true) : ∃ y, x = some y ∧ nameAt nm j = some y ∧ isLoc sc y = true ∧ (y == Str.ofString "__debug__") = false ∧ (y == Str.ofString "__classdict__") = false := by
  cases x with
  | none => simp [okName] at h
  | some y =>
    simp only [okName, Bool.and_eq_true, beq_iff_eq, Bool.not_eq_true'] at h
    exact ⟨y, rfl, h.1.1.1, h.1.1.2, h.1.2, h.2⟩
noncomputable def okNames (nm : List (Option Str)) (sc : Scope) (js : List Nat) (rev : Bool) (ts : Option (List Expr)) : Bool := match ts with
  | some ts => (match namesOf ts with
    | some xs => (if rev then storeNames nm sc js.reverse xs.reverse else storeNames nm sc js xs) && xs.length == js.length
    | Option.none => false)
  | Option.none => false
theorem okNames_is {nm : List (Option Str)} {sc : Scope} {js : List Nat} {rev : Bool} {ts : Option (List Expr)} (h : okNames nm sc js rev ts = true) : ∃ us xs, ts = some us ∧ namesOf us = some xs ∧ (if rev then storeNames nm sc js.reverse xs.reverse else storeNames nm sc js xs) = true ∧ xs.length = js.length := by
  cases ts with
  | none => simp [okNames] at h
  | some us =>
    simp only [okNames] at h
    cases e : namesOf us with
    | none => rw [e] at h; cases h
    | some xs =>
      rw [e] at h
      simp only [Bool.and_eq_true, beq_iff_eq] at h
      exact ⟨us, xs, rfl, e, h.1, h.2⟩
noncomputable def swapOKo (sc : Scope) (ts vs : Option (List Expr)) : Bool := match ts, vs with
  | some ts, some vs => swapOK sc ts vs
  | _, _ => false
noncomputable def agLo (sc : Scope) (nm : List (Option Str)) (m : MX) (es : Option (List Expr)) : Bool := match es with
  | some es => agL sc nm m es
  | Option.none => false
noncomputable def agXo (sc : Scope) (nm : List (Option Str)) (m : MX) (e : Option Expr) : Bool := match e with
  | some e => agX sc nm m e
  | Option.none => false

noncomputable def stAssign (e : Stmt) : Option (List PySem.Expr × PySem.Expr) := pick e.ctorIdx 5 fun hi => Stmt.Assign.elim (motive_2 := fun _ => Option (List PySem.Expr × PySem.Expr)) e hi fun a b _ => some (a, b)
theorem stAssign_is {e : Stmt} {a' : List PySem.Expr} {b' : PySem.Expr} (h : stAssign e = some (a', b')) : ∃ p, e = .Assign a' b' p :=
  let ⟨hi, h⟩ := pick_is h
  Stmt.Assign.elim (motive_2 := fun e => ∀ hi, (Stmt.Assign.elim (motive_2 := fun _ => Option (List PySem.Expr × PySem.Expr)) e hi fun a b _ => some (a, b)) = some (a', b') → ∃ p, e = .Assign a' b' p) e hi (fun a b p hi h => by cases h; exact ⟨_, rfl⟩) hi h
noncomputable def stAug (e : Stmt) : Option (PySem.Expr × Operator × PySem.Expr) := pick e.ctorIdx 7 fun hi => Stmt.AugAssign.elim (motive_2 := fun _ => Option (PySem.Expr × Operator × PySem.Expr)) e hi fun a o b _ => some (a, o, b)
theorem stAug_is {e : Stmt} {a' : PySem.Expr} {o' : Operator} {b' : PySem.Expr} (h : stAug e = some (a', o', b')) : ∃ p, e = .AugAssign a' o' b' p :=
  let ⟨hi, h⟩ := pick_is h
  Stmt.AugAssign.elim (motive_2 := fun e => ∀ hi, (Stmt.AugAssign.elim (motive_2 := fun _ => Option (PySem.Expr × Operator × PySem.Expr)) e hi fun a o b _ => some (a, o, b)) = some (a', o', b') → ∃ p, e = .AugAssign a' o' b' p) e hi (fun a o b p hi h => by cases h; exact ⟨_, rfl⟩) hi h
noncomputable def stExpr (e : Stmt) : Option (PySem.Expr) := pick e.ctorIdx 24 fun hi => Stmt.Expr.elim (motive_2 := fun _ => Option (PySem.Expr)) e hi fun c _ => some c
theorem stExpr_is {e : Stmt} {c' : PySem.Expr} (h : stExpr e = some c') : ∃ p, e = .Expr c' p :=
  let ⟨hi, h⟩ := pick_is h
  Stmt.Expr.elim (motive_2 := fun e => ∀ hi, (Stmt.Expr.elim (motive_2 := fun _ => Option (PySem.Expr)) e hi fun c _ => some c) = some c' → ∃ p, e = .Expr c' p) e hi (fun c p hi h => by cases h; exact ⟨_, rfl⟩) hi h
noncomputable def stIf (e : Stmt) : Option (PySem.Expr × List Stmt × List Stmt) := pick e.ctorIdx 12 fun hi => Stmt.If.elim (motive_2 := fun _ => Option (PySem.Expr × List Stmt × List Stmt)) e hi fun t a b _ => some (t, a, b)
theorem stIf_is {e : Stmt} {t' : PySem.Expr} {a' : List Stmt} {b' : List Stmt} (h : stIf e = some (t', a', b')) : ∃ p, e = .If t' a' b' p :=
  let ⟨hi, h⟩ := pick_is h
  Stmt.If.elim (motive_2 := fun e => ∀ hi, (Stmt.If.elim (motive_2 := fun _ => Option (PySem.Expr × List Stmt × List Stmt)) e hi fun t a b _ => some (t, a, b)) = some (t', a', b') → ∃ p, e = .If t' a' b' p) e hi (fun t a b p hi h => by cases h; exact ⟨_, rfl⟩) hi h
noncomputable def stWhile (e : Stmt) : Option (PySem.Expr × List Stmt × List Stmt) := pick e.ctorIdx 11 fun hi => Stmt.While.elim (motive_2 := fun _ => Option (PySem.Expr × List Stmt × List Stmt)) e hi fun t a b _ => some (t, a, b)
theorem stWhile_is {e : Stmt} {t' : PySem.Expr} {a' : List Stmt} {b' : List Stmt} (h : stWhile e = some (t', a', b')) : ∃ p, e = .While t' a' b' p :=
  let ⟨hi, h⟩ := pick_is h
  Stmt.While.elim (motive_2 := fun e => ∀ hi, (Stmt.While.elim (motive_2 := fun _ => Option (PySem.Expr × List Stmt × List Stmt)) e hi fun t a b _ => some (t, a, b)) = some (t', a', b') → ∃ p, e = .While t' a' b' p) e hi (fun t a b p hi h => by cases h; exact ⟨_, rfl⟩) hi h
noncomputable def stFor (e : Stmt) : Option (PySem.Expr × PySem.Expr × List Stmt × List Stmt) := pick e.ctorIdx 9 fun hi => Stmt.For.elim (motive_2 := fun _ => Option (PySem.Expr × PySem.Expr × List Stmt × List Stmt)) e hi fun t i a b _ => some (t, i, a, b)
theorem stFor_is {e : Stmt} {t' : PySem.Expr} {i' : PySem.Expr} {a' : List Stmt} {b' : List Stmt} (h : stFor e = some (t', i', a', b')) : ∃ p, e = .For t' i' a' b' p :=
  let ⟨hi, h⟩ := pick_is h
  Stmt.For.elim (motive_2 := fun e => ∀ hi, (Stmt.For.elim (motive_2 := fun _ => Option (PySem.Expr × PySem.Expr × List Stmt × List Stmt)) e hi fun t i a b _ => some (t, i, a, b)) = some (t', i', a', b') → ∃ p, e = .For t' i' a' b' p) e hi (fun t i a b p hi h => by cases h; exact ⟨_, rfl⟩) hi h
noncomputable def stRet (e : Stmt) : Option (Option PySem.Expr) := pick e.ctorIdx 3 fun hi => Stmt.Return.elim (motive_2 := fun _ => Option (Option PySem.Expr)) e hi fun v _ => some v
theorem stRet_is {e : Stmt} {v' : Option PySem.Expr} (h : stRet e = some v') : ∃ p, e = .Return v' p :=
  let ⟨hi, h⟩ := pick_is h
  Stmt.Return.elim (motive_2 := fun e => ∀ hi, (Stmt.Return.elim (motive_2 := fun _ => Option (Option PySem.Expr)) e hi fun v _ => some v) = some v' → ∃ p, e = .Return v' p) e hi (fun v p hi h => by cases h; exact ⟨_, rfl⟩) hi h
mutual
noncomputable def agS (sc : Scope) (nm : List (Option Str)) : MS → Stmt → Bool
  | .assign j e, s => (match stAssign s with | some (ts, v) => okName nm sc j (soleName ts) && agX sc nm e v | Option.none => false)
  | .assignOwn j es, s => (match stAssign s with | some (ts, v) => okName nm sc j (soleName ts) && agLo sc nm es (listOf' v) | Option.none => false)
  | .swap js e, s => (match stAssign s with | some (ts, v) => swapOKo sc (soleTuple ts) (tupleOf v) && okNames nm sc js true (soleTuple ts) && agX sc nm e v | Option.none => false)
  | .unpack js e, s => (match stAssign s with | some (ts, v) => !isComp v && !isTuple v && okNames nm sc js false (soleTuple ts) && agX sc nm e v | Option.none => false)
  | .aug j op e, s => (match stAug s with | some (t, o, v) => op == o && okName nm sc j (nameOf t) && agX sc nm e v | Option.none => false)
  | .append j e, s => (match stExpr s with | some c => okName nm sc j ((appendOf c).map (·.1)) && agXo sc nm e ((appendOf c).map (·.2)) | Option.none => false)
  | .ifs t a b, s => (match stIf s with | some (t', a', b') => agX sc nm t t' && agB sc nm a a' && agB sc nm b b' | Option.none => false)
  | .whil t b, s => (match stWhile s with | some (t', b', o) => agX sc nm t t' && agB sc nm b b' && o.isEmpty | Option.none => false)
  | .fors j it b, s => (match stFor s with | some (t, it', b', o) => okName nm sc j (nameOf t) && agX sc nm it it' && notSet it' && agB sc nm b b' && o.isEmpty | Option.none => false)
  | .ret e, s => (match stRet s with | some v => agXo sc nm e v | Option.none => false)
  | .hole, _ => true
  | .nil, _ => false
  | .cons _ _, _ => false
  | .freeze _, _ => false
termination_by structural m => m
noncomputable def agB (sc : Scope) (nm : List (Option Str)) : MS → List Stmt → Bool
  | .nil, [] => true
  | .cons h t, ss => (match h with
    | .freeze _ => agB sc nm t ss
    | h => (match ss with
      | s :: ss => agS sc nm h s && agB sc nm t ss
      | [] => false))
  | _, _ => false
termination_by structural m => m
end

inductive FRep (g : Ghost prog w) : Flow → MFlow → Prop
  | next : FRep g .next .next
  | brk : FRep g .brk .brk
  | cont : FRep g .cont .cont
  | ret {v : Value} {p : PV} : Rep g v p → FRep g (.ret v) (.ret p)

noncomputable def SPost (B : Heap) (sc : Scope) (nm : List (Option Str)) (env : Env) (s₀ : Shared) (g₀ k : Ghost prog w) (Q : MFlow → List Slot → Prop) (f : Flow) (s' : Shared) : Prop :=
  ∃ g' σ' mf, SInv B sc nm env s₀ g₀ k σ' g' s' ∧ FRep g' f mf ∧ Q mf σ'

section
variable {prog : Program} {w : World} {B : Heap} {mg mb : Str → Option Value} {Φ : Fenv} {d : Nat} {sc : Scope} {nm : List (Option Str)} {env : Env} {s₀ : Shared} {g₀ k : Ghost prog w} {σ : List Slot} {g : Ghost prog w} {s : Shared} {A : Around} {E : Value → Shared → Prop}

theorem noswap {v : Expr} {t : Option Expr} {n : Nat} (h : isComp v = false) : swapsWith v t n env = pure false := by
  cases v <;> first | rfl | (cases h)

theorem agX_notComp {m : MX} {e : Expr} (ha : agX sc nm m e = true) (hm : (match m with | .comp .. => false | .hole => false | _ => true) = true) : isComp e = false := by
  cases m with
  | cnone => obtain ⟨_, _, rfl⟩ := ag_cnone ha; rfl
  | cbool => obtain ⟨_, _, rfl⟩ := ag_cbool ha; rfl
  | cint => obtain ⟨_, _, rfl⟩ := ag_cint ha; rfl
  | cstr => obtain ⟨_, _, rfl⟩ := ag_cstr ha; rfl
  | var => obtain ⟨_, _, rfl, _⟩ := ag_var ha; rfl
  | ty => obtain ⟨_, rfl, _⟩ := ag_ty ha; rfl
  | bin => obtain ⟨_, _, _, rfl, _⟩ := ag_bin ha; rfl
  | neg => obtain ⟨_, _, rfl, _⟩ := ag_neg ha; rfl
  | not => obtain ⟨_, _, rfl, _⟩ := ag_not ha; rfl
  | boolop => obtain ⟨_, _, rfl, _⟩ := ag_boolop ha; rfl
  | ite => obtain ⟨_, _, _, _, rfl, _⟩ := ag_ite ha; rfl
  | cmp => obtain ⟨_, _, _, rfl, _⟩ := ag_cmp ha; rfl
  | call => obtain ⟨_, _, _, _, rfl, _⟩ := ag_call ha; rfl
  | blt => obtain ⟨_, _, _, _, rfl, _⟩ := ag_blt ha; rfl
  | item => obtain ⟨_, _, _, rfl, _⟩ := ag_item ha; rfl
  | slice => obtain ⟨_, _, _, _, _, rfl, _⟩ := ag_slice ha; rfl
  | list => obtain ⟨_, _, rfl, _⟩ := ag_list ha; rfl
  | tuple => obtain ⟨_, _, _, rfl, _⟩ := ag_tuple ha; rfl
  | comp => cases hm
  | hole => cases hm
  | meth => obtain ⟨_, _, _, _, rfl, _⟩ := ag_meth ha; rfl
  | absent => exact (ag_no rfl ha).elim
  | dict => obtain ⟨_, _, _, rfl, _⟩ := ag_dict ha; rfl
  | nil => exact (ag_no rfl ha).elim
  | cons => exact (ag_no rfl ha).elim

theorem sound_bin_inplace (op : Operator) {a b : Int} {t u : Tok} {P : PV → Prop} (kp : Keep g s.heap) (h : binM op (.int a) (.int b) P) :
    wpAny (model prog w) A (inplaceOp op (.int a t) (.int b u)) (Post s g P) E s := by
  cases op <;> simp only [binM, addM, mulM, intCmp, numK, intK] at h
  · exact PyProof.Rows.iadd_int (Post.toks kp _ (.int _ _) h)
  · exact PyProof.Rows.isub_int (Post.toks kp _ (.int _ _) h)
  · exact PyProof.Rows.imul_int (Post.toks kp _ (.int _ _) h.2) h.1
  · exact PyProof.Rows.imod_int h.1 (Post.toks kp _ (.int _ _) h.2)
  · exact PyProof.Rows.ipow_int h.1 h.2.1 (Post.toks kp _ (.int _ _) h.2.2)
  · exact PyProof.Rows.ilshift_int h.1 h.2.1 (Post.toks kp _ (.int _ _) h.2.2)
  · exact PyProof.Rows.irshift_int h.1 (Post.toks kp _ (.int _ _) h.2)
  · exact PyProof.Rows.iand_int (Post.toks kp _ (.int _ _) h)
  · exact PyProof.Rows.ifloordiv_int h.1 (Post.toks kp _ (.int _ _) h.2.2) (.inl h.2.1)
end
end Mine
end part_W12
section part_W13
set_option Elab.async false
set_option maxRecDepth 10000
set_option linter.unusedVariables false
set_option maxHeartbeats 1000000
namespace Mine
open PySem PySem.W PyProof.Rows

section
variable {prog : Program} {w : World} {B : Heap} {mg mb : Str → Option Value} {Φ : Fenv} {d : Nat} {sc : Scope} {nm : List (Option Str)} {env : Env} {s₀ : Shared} {g₀ k : Ghost prog w} {σ : List Slot} {g : Ghost prog w} {s : Shared} {A : Around} {E : Value → Shared → Prop}

theorem swap_names (hl : ∀ x, sc.names.lookup x = some .local → env.kindOf x = some .local) (line : Nat) : ∀ (ts : List Expr) (xs : List Str), ts.all (locAt sc line) = true → namesOf ts = some xs →
    ts.filterMap (locOf env line) = xs
  | [], xs, _, h => by simp [namesOf] at h; subst h; rfl
  | t :: ts, xs, ha, h => by
    rw [List.all_cons, Bool.and_eq_true] at ha
    obtain ⟨id, pos, rfl⟩ : ∃ id pos, t = .Name id pos := by
      have h1 := ha.1
      unfold locAt at h1
      split at h1
      · rename_i id pos e; exact ⟨id, pos, namePos_is e⟩
      · cases h1
    have hnn : nameOf (.Name id pos) = some id := rfl
    simp only [namesOf, hnn] at h
    cases e : namesOf ts with
    | none => rw [e] at h; cases h
    | some r =>
      rw [e] at h; cases h
      have h1 := ha.1
      have h1 := Bool.and_eq_true_iff.mp (show (sc.names.lookup id == some .local && pos.line == line) = true from h1)
      rw [beq_iff_eq, beq_iff_eq] at h1
      have ih := swap_names hl line ts r ha.2 e
      rw [List.filterMap_cons]
      simp only [locOf, hl _ h1.1, h1.2, beq_self_eq_true, Bool.and_self, if_true]
      rw [ih]

theorem swapped_is {ts vs : List Expr} {k1 k2 : Nat} {p1 p2 : Pos} {xs : List Str} (hk : env.scope.kind = .function) (hl : ∀ x, sc.names.lookup x = some .local → env.kindOf x = some .local) (h : swapOK sc ts vs = true) (hx : namesOf ts = some xs) :
    swappedStores [.Tuple ts k1 p1] (.Tuple vs k2 p2) env = pure (some xs) := by
  unfold swapOK at h
  rw [hx] at h
  simp only [Bool.and_eq_true, Bool.not_eq_true'] at h
  obtain ⟨⟨⟨⟨⟨⟨h1, h2⟩, h3⟩, h4⟩, h5⟩, h6⟩, h7⟩ := h
  have hn := swap_names hl _ ts xs h4 hx
  have hlen : xs.length = ts.length := by
    have : ∀ (ts : List Expr) (xs : List Str), namesOf ts = some xs → xs.length = ts.length := by
      intro ts
      induction ts with
      | nil => intro xs h; simp [namesOf] at h; subst h; rfl
      | cons t ts ih =>
        intro xs h
        simp only [namesOf] at h
        cases e1 : nameOf t with
        | none => rw [e1] at h; cases h
        | some x => cases e2 : namesOf ts with
          | none => rw [e1, e2] at h; cases h
          | some r => rw [e1, e2] at h; cases h; simp [ih r e2]
    exact this ts xs hx
  have hbk : env.blockKind = .function := by unfold Env.blockKind; rw [hk]; rfl
  have e2 : (vs.length != ts.length) = false := by simpa using h2
  have e3 : (xs.length != ts.length) = false := by simpa using hlen
  have e4 : (xs.eraseDups.length != xs.length) = false := by simpa using h5
  show (if (!(ts.length == 2 || ts.length == 3) || vs.length != ts.length || env.blockKind != .function) = true then pure Option.none
      else if (vs.any isStar) = true then pure Option.none
      else if ((ts.filterMap (locOf env ((ts.head?.map (·.pos.line)).getD 0))).length != ts.length || (ts.filterMap (locOf env ((ts.head?.map (·.pos.line)).getD 0))).eraseDups.length != (ts.filterMap (locOf env ((ts.head?.map (·.pos.line)).getD 0))).length) = true then pure Option.none
      else if vs.all (foldedForSure 8) = true then pure Option.none
      else if vs.all (constantsAlone 8) = true then unsupported "assign.tuple-of-constant-expressions:order-of-the-stores" else pure (some (ts.filterMap (locOf env ((ts.head?.map (·.pos.line)).getD 0)))) : Sem (Option (List Str))) = pure (some xs)
  rw [hn, if_neg (by rw [h1, e2, hbk]; decide), if_neg (by rw [h3]; decide), if_neg (by rw [e3, e4]; decide), if_neg (by rw [h6]; decide), if_neg (by rw [h7]; decide)]

theorem unpack_tuple {t : Addr} {vs : List Value} {n : Nat} {Q : List Value → Shared → Prop} (hh : A.handled = Option.none) (kp : Keep g s.heap) (ht : IsTup s.heap t vs.toArray) (hn : vs.length = n) (h : ∀ s', Step s g s' g → Q vs s') :
    wpAny (model prog w) A (unpackItems (.ref t) n none) Q E s := by
  have : n = vs.toArray.size := by simp [hn]
  subst this
  refine unpackItems_tuple hh ht fun h' he => ?_
  have : vs.toArray.toList = vs := by simp
  rw [this]
  exact h _ (Step.keeps0 kp ⟨h', s.toks, rfl, fun b o e => he b o (Nat.ne_of_lt (Heap.lt_size e)) e⟩)

theorem draw_walk {I : Addr} {fp : List Addr} {N : Nat} {P : Nat → Value → Prop} {St : Nat → Heap → Prop} (W : Walks prog w A I fp [I] N P St) : ∀ (n i : Nat) (s : Shared) (Q : List Value → Shared → Prop), St i s.heap → i + n ≤ N →
    (∀ vs h' tk, vs.length = n → (∀ j v, vs[j]? = some v → P (i + j) v) → St (i + n) h' → (∀ b o, b ≠ I → s.heap.get? b = some o → h'.get? b = some o) → Q vs { s with heap := h', toks := tk }) → wpAny (model prog w) A (draw (.ref I) n) Q E s
  | 0, i, s, Q, hst, _, hQ => by
    show wpAny _ _ (pure []) Q E s
    exact wpAny_pure (hQ [] s.heap s.toks rfl (fun j v e => by simp at e) (by simpa using hst) fun _ _ _ e => e)
  | n + 1, i, s, Q, hst, hle, hQ => by
    show wpAny _ _ (pyNext (.ref I) >>= _) Q E s
    refine wpAny_bind (W.item i s _ _ (by omega) hst fun v h₁ tk₁ hv hst₁ hk₁ => ?_)
    refine wpAny_bind (wpAny_holding (draw_walk W n (i + 1) _ _ hst₁ (by omega) fun vs h₂ tk₂ hl hP hst₂ hk₂ => wpAny_pure ?_))
    refine hQ (v :: vs) h₂ tk₂ (by simp [hl]) (fun j u e => ?_) (by rw [show i + (n + 1) = i + 1 + n by omega]; exact hst₂) fun b o hb e => hk₂ b o hb (hk₁ b o (by simpa using hb) e)
    cases j with
    | zero => simp at e; subst e; exact hv
    | succ j => rw [show i + (j + 1) = i + 1 + j by omega]; exact hP j u (by simpa using e)

theorem unpack_list {l : Addr} {vs : List Value} {n : Nat} {Q : List Value → Shared → Prop} (hh : A.handled = Option.none) (kp : Keep g s.heap) (ht : s.heap.IsList l vs.toArray) (hn : vs.length = n) (h : ∀ s', Step s g s' g → Q vs s') :
    wpAny (model prog w) A (unpackItems (.ref l) n none) Q E s := by
  have hlt : l ≠ s.heap.objs.size := by obtain ⟨o, ho, _⟩ := id ht; exact Nat.ne_of_lt (Heap.lt_size ho)
  have W := Walks.list (prog := prog) (w := w) hh s.heap.objs.size l hlt vs.toArray
  have hsz : vs.toArray.size = n := by simp [hn]
  rw [hsz] at W
  unfold unpackItems
  refine wpAny_bind ?_
  unfold notIterableAtAll
  refine wpAny_bind (wpAny_specialOf ht.typeIs slot_list_iter.lookup ?_)
  refine wpAny_pure ?_
  simp only [Bool.false_eq_true, if_false]
  refine wpAny_bind (wpAny_holding (wpAny_pyIter_list ht ?_))
  refine wpAny_bind (wpAny_holding (draw_walk W n 0 _ _ ⟨⟨_, Heap.get?_push_size _ rfl, rfl, rfl⟩, ht.push _⟩ (by omega) fun us h₁ tk₁ hl hP hst₁ hk₁ => ?_))
  rw [if_neg (by omega)]
  rw [Nat.zero_add] at hst₁
  refine wpAny_bind (wpAny_holding (W.done _ _ _ hst₁ fun h₂ tk₂ hk₂ => ?_))
  simp only [Option.isSome_none, Bool.false_eq_true, if_false]
  have he : us = vs := by
    apply List.ext_getElem?
    intro j
    by_cases hj : j < n
    · have h1 : us[j]? = some (us[j]'(by omega)) := by simp [hl, hj]
      have h2 := hP j _ h1
      rw [Nat.zero_add] at h2
      have h2 : vs[j]? = some (us[j]'(by omega)) := by simpa using h2
      rw [h1, h2]
    · rw [List.getElem?_eq_none (by omega), List.getElem?_eq_none (by omega)]
  subst he
  refine wpAny_pure (h _ (Step.keeps0 kp ⟨h₂, tk₂, rfl, fun b o e => ?_⟩))
  have hb : b ≠ s.heap.objs.size := Nat.ne_of_lt (Heap.lt_size e)
  exact hk₂ b o (by simpa using hb) (hk₁ b o hb (Heap.get?_push_of_some _ e))

theorem assignEach_plain : ∀ (ts : List Expr) (xs : List Str), namesOf ts = some xs → (assignEach ts env).length = xs.length ∧ (assignEach ts env).findIdx? (·.1) = Option.none
  | [], xs, h => by simp [namesOf] at h; subst h; exact ⟨rfl, rfl⟩
  | t :: ts, xs, h => by
    simp only [namesOf] at h
    cases e1 : nameOf t with
    | none => rw [e1] at h; cases h
    | some x => cases e2 : namesOf ts with
      | none => rw [e1, e2] at h; cases h
      | some r =>
        rw [e1, e2] at h; cases h
        obtain ⟨p, rfl⟩ := nameOf_is e1

        obtain ⟨h1, h2⟩ := assignEach_plain ts r e2
        have e : assignEach (.Name x p :: ts) env = (false, assign (.Name x p) env) :: assignEach ts env := rfl
        rw [e]
        refine ⟨by simp [h1], ?_⟩
        rw [List.findIdx?_cons]; simp [h2]

theorem sound_storeTargets (hc0 : ∀ x, sc.names.lookup x = some .cell → env.kindOf x = some .cell) : ∀ (js : List Nat) (ts : List Expr) (xs : List Str) (vs : List Value) (ps : List PV) (σ : List Slot) (s : Shared) (Q : Unit → Shared → Prop), SInv B sc nm env s₀ g₀ k σ g s → namesOf ts = some xs → storeNames nm sc js xs = true → RepL g vs ps → ps.length = js.length →
    (∀ s', SInv B sc nm env s₀ g₀ k (setMany σ js ps) g s' → Q () s') → wpAny (model prog w) A (assignInOrder ((assignEach ts env).map (·.2)) vs) Q E s
  | js, [], xs, vs, ps, σ, s, Q, I, hn, hs, r, hl, h => by
    simp [namesOf] at hn; subst hn
    cases js <;> simp [storeNames] at hs
    cases r with
    | nil => exact wpAny_pure (h s (by simpa [setMany] using I))
    | cons _ _ => simp at hl
  | js, t :: ts, xs, vs, ps, σ, s, Q, I, hn, hs, r, hl, h => by
    simp only [namesOf] at hn
    cases e1 : nameOf t with
    | none => rw [e1] at hn; cases hn
    | some x => cases e2 : namesOf ts with
      | none => rw [e1, e2] at hn; cases hn
      | some xr =>
        rw [e1, e2] at hn; cases hn
        obtain ⟨p, rfl⟩ := nameOf_is e1

        cases js with
        | nil => simp [storeNames] at hs
        | cons j js =>
          cases r with
          | nil => simp at hl
          | cons a r =>
            rename_i v p vs ps
            simp only [storeNames, Bool.and_eq_true, beq_iff_eq] at hs
            refine wpAny_bind (wpAny_holding (wpAny_assign_Name (sound_storeV I hs.1.1 hs.1.2 (hc0 x) a fun s' I' => ?_)))
            exact sound_storeTargets hc0 js ts xr _ _ _ s' Q I' e2 hs.2 r (by simpa using hl) (by simpa only [setMany] using h)
end
end Mine
end part_W13
section part_W14
set_option Elab.async false
set_option maxRecDepth 10000
set_option linter.unusedVariables false
set_option maxHeartbeats 1000000
namespace Mine
open PySem PySem.W PyProof.Rows

section
variable {prog : Program} {w : World} {B : Heap} {mg mb : Str → Option Value} {Φ : Fenv} {d : Nat} {sc : Scope} {nm : List (Option Str)} {env : Env} {s₀ : Shared} {g₀ k : Ghost prog w} {σ : List Slot} {g : Ghost prog w} {s : Shared} {A : Around} {E : Value → Shared → Prop}

/-- an address that is none of the frame's -/
structure Off (nm : List (Option Str)) (env : Env) (σ : List Slot) (s : Shared) (a : Addr) : Prop where
  loc : a ≠ env.locals
  cell : ∀ x c, env.cells.lookup x = some c → a ≠ c
  own : ∀ i x xs b, nameAt nm i = some x → getS σ i = .own xs → VarAt s.heap env x (.ref b) → a ≠ b

theorem varAt_unique {h : Heap} {x : Str} {u v : Value} (a : VarAt h env x u) (b : VarAt h env x v) : u = v := by
  rcases a with ⟨h1, m, h2, h3⟩ | ⟨h1, c, h2, o, h3, h4⟩ <;> rcases b with ⟨k1, m', k2, k3⟩ | ⟨k1, c', k2, o', k3, k4⟩
  · have := ns_unique h2 k2; subst this; rw [h3] at k3; exact Option.some.inj k3
  · rcases k1 with k1 | k1 <;> (rw [h1] at k1; cases k1)
  · rcases h1 with h1 | h1 <;> (rw [h1] at k1; cases k1)
  · rw [h2] at k2; cases k2; rw [h3] at k3; cases k3; rw [h4] at k4; cases k4; rfl

theorem SInv.ownAt (I : SInv B sc nm env s₀ g₀ k σ g s) {i : Nat} {x : Str} {xs : List PV} {b : Addr} (hx : nameAt nm i = some x) (e : getS σ i = .own xs) (hv : VarAt s.heap env x (.ref b)) :
    ∃ vs, s.heap.PlainList b vs.toArray ∧ g b = Option.none ∧ k b = Option.none ∧ RepL g vs xs := by
  have h := I.E.vals i x hx
  rw [e] at h
  obtain ⟨a, vs, h1, h2, h3, h4, h5⟩ := h
  have := varAt_unique h1 hv
  cases this
  exact ⟨vs, h2, h3, h4, h5⟩

theorem SInv.off (I : SInv B sc nm env s₀ g₀ k σ g s) {a : Addr} (h : s.heap.get? a = Option.none) : Off nm env σ s a := by
  refine ⟨?_, fun x c hc => ?_, fun i x xs b hx e hv => ?_⟩
  · rintro rfl
    obtain ⟨m, o, _, _, ho, _⟩ := I.loc
    rw [ho] at h; cases h
  · rintro rfl
    obtain ⟨⟨v, o, ho, _⟩, _⟩ := I.cell x _ hc
    rw [ho] at h; cases h
  · rintro rfl
    obtain ⟨vs, ⟨n, hp⟩, _⟩ := I.ownAt hx e hv
    rw [hp] at h; cases h

theorem SInv.offStep {g' : Ghost prog w} {s' : Shared} (I : SInv B sc nm env s₀ g₀ k σ g s) (S : Step s g s' g') {a : Addr} (O : Off nm env σ s a) : Off nm env σ s' a := by
  refine ⟨O.loc, O.cell, fun i x xs b hx e hv => ?_⟩
  have h := I.E.vals i x hx
  rw [e] at h
  obtain ⟨a', vs, h1, _⟩ := h
  have := varAt_unique (h1.keeps (Keeps.up S.keeps)) hv
  cases this
  exact O.own i x xs _ hx e h1

theorem SInv.addK (I : SInv B sc nm env s₀ g₀ k σ g s) {a : Addr} {o : Obj} (O : Off nm env σ s a) (ho : s.heap.get? a = some o) (ga : g a = Option.none) (ka : k a = Option.none) : SInv B sc nm env s₀ g₀ (putG k a o) σ g s := by
  have h := SInv.heap (h' := s.heap) (tk := s.toks) (k' := putG k a o) I (a := a) (fun b o' _ e => e) ga O.loc O.cell O.own
    (fun b o' e => by unfold putG; rw [if_neg (by rintro rfl; rw [I.k0 _ _ e] at ka; cases ka)]; exact I.k0 b o' e)
    (fun b o' e => by
      unfold putG at e
      by_cases hb : b = a
      · rw [if_pos hb] at e; cases e; rw [hb]; exact ho
      · rw [if_neg hb] at e; exact I.kk b o' e)
    (fun b h1 h2 => by
      unfold putG at h2
      by_cases hb : b = a
      · rw [hb]; exact ga
      · rw [if_neg hb] at h2; exact I.gk b h1 h2)
    (by unfold putG; rw [if_neg (Ne.symm O.loc)]; exact I.kL)
    (fun x c hc => by unfold putG; rw [if_neg (Ne.symm (O.cell x c hc))]; exact (I.cell x c hc).2.2.1)
    (fun i x xs b hx e hv => by
      unfold putG
      rw [if_neg (Ne.symm (O.own i x xs b hx e hv))]
      obtain ⟨_, _, _, h, _⟩ := I.ownAt hx e hv
      exact h)
  exact h

theorem put_off {a b : Addr} {o : Obj} (h : putG k a o b = Option.none) : b ≠ a ∧ k b = Option.none := by
  unfold putG at h
  by_cases hb : b = a
  · rw [if_pos hb] at h; cases h
  · rw [if_neg hb] at h; exact ⟨hb, h⟩

/-- the heap turned at a, which stood among what is kept -/
theorem SInv.turn {a : Addr} {o o' : Obj} {h' : Heap} {tk : Nat} (I : SInv B sc nm env s₀ g₀ (putG k a o) σ g s) (ka : k a = Option.none) (ga : g a = Option.none) (hk0 : ∀ b o, s₀.heap.get? b = some o → k b = some o)
    (hup : ∀ b o, b ≠ a → s.heap.get? b = some o → h'.get? b = some o) (ho' : h'.get? a = some o') : SInv B sc nm env s₀ g₀ (putG k a o') σ g { s with heap := h', toks := tk } := by
  refine SInv.heap I (a := a) hup ga (Ne.symm (put_off I.kL).1) (fun x c hc => Ne.symm (put_off (I.cell x c hc).2.2.1).1) (fun i x xs b hx e hv => ?_)
    (fun b o' e => by unfold putG; rw [if_neg (by rintro rfl; rw [hk0 _ _ e] at ka; cases ka)]; exact hk0 b o' e)
    (fun b o2 e => by
      unfold putG at e
      by_cases hb : b = a
      · rw [if_pos hb] at e; cases e; rw [hb]; exact ho'
      · rw [if_neg hb] at e; exact hup b o2 hb (I.kk b o2 (by unfold putG; rw [if_neg hb]; exact e)))
    (fun b h1 h2 => by
      unfold putG at h2
      by_cases hb : b = a
      · rw [hb]; exact ga
      · rw [if_neg hb] at h2; exact I.gk b h1 (by unfold putG; rw [if_neg hb]; exact h2))
    (by unfold putG; rw [if_neg (put_off I.kL).1]; exact (put_off I.kL).2)
    (fun x c hc => by have := put_off (I.cell x c hc).2.2.1; unfold putG; rw [if_neg this.1]; exact this.2)
    (fun i x xs b hx e hv => by
      obtain ⟨_, _, _, h, _⟩ := I.ownAt hx e hv
      have := put_off h
      unfold putG; rw [if_neg this.1]; exact this.2)
  obtain ⟨_, _, _, h, _⟩ := I.ownAt hx e hv
  exact Ne.symm (put_off h).1

theorem SInv.dropK {a : Addr} {o : Obj} {h' : Heap} {tk : Nat} (I : SInv B sc nm env s₀ g₀ (putG k a o) σ g s) (ka : k a = Option.none) (ga : g a = Option.none) (hk0 : ∀ b o, s₀.heap.get? b = some o → k b = some o)
    (hup : ∀ b o, b ≠ a → s.heap.get? b = some o → h'.get? b = some o) : SInv B sc nm env s₀ g₀ k σ g { s with heap := h', toks := tk } := by
  refine SInv.heap I (a := a) hup ga (Ne.symm (put_off I.kL).1) (fun x c hc => Ne.symm (put_off (I.cell x c hc).2.2.1).1) (fun i x xs b hx e hv => ?_) hk0
    (fun b o2 e => by
      have hb : b ≠ a := by rintro rfl; rw [ka] at e; cases e
      exact hup b o2 hb (I.kk b o2 (by unfold putG; rw [if_neg hb]; exact e)))
    (fun b h1 h2 => by
      have hb : b ≠ a := by rintro rfl; exact h2 ka
      exact I.gk b h1 (by unfold putG; rw [if_neg hb]; exact h2))
    (put_off I.kL).2 (fun x c hc => (put_off (I.cell x c hc).2.2.1).2)
    (fun i x xs b hx e hv => by
      obtain ⟨_, _, _, h, _⟩ := I.ownAt hx e hv
      exact (put_off h).2)
  obtain ⟨_, _, _, h, _⟩ := I.ownAt hx e hv
  exact Ne.symm (put_off h).1

theorem SInv.none_of (I : SInv B sc nm env s₀ g₀ k σ g s) {a : Addr} (h : s.heap.get? a = Option.none) : g a = Option.none ∧ k a = Option.none := by
  constructor
  · cases e : g a with
    | none => rfl
    | some o => rw [I.E.keep a o e] at h; cases h
  · cases e : k a with
    | none => rfl
    | some o => rw [I.kk a o e] at h; cases h

/-- a list that the frame owns grows -/
theorem SInv.grown {j : Nat} {x : Str} {a : Addr} {vs : List Value} {xs : List PV} {v : Value} {p : PV} {h' : Heap} {tk : Nat} (I : SInv B sc nm env s₀ g₀ k σ g s) (hx : nameAt nm j = some x) (e : getS σ j = .own xs) (ho : others σ j = true)
    (hv : VarAt s.heap env x (.ref a)) (hp : s.heap.PlainList a vs.toArray) (r : RepL g vs xs) (rp : Rep g v p) (hp' : h'.PlainList a (vs ++ [v]).toArray) (hs : Heap.SameBut a s.heap h') :
    SInv B sc nm env s₀ g₀ k (setS σ j (.own (xs ++ [p]))) g { s with heap := h', toks := tk } := by
  obtain ⟨vs', hp2, ga, ka, _⟩ := I.ownAt hx e hv
  obtain ⟨m, hm⟩ := I.loc
  have haL : a ≠ env.locals := plain_not_ns hp hm
  have hac : ∀ y c, env.cells.lookup y = some c → a ≠ c := fun y c hc => by
    obtain ⟨⟨u, hu⟩, _⟩ := I.cell y c hc
    exact plain_not_cell hp hu
  have hup : ∀ b o, b ≠ a → s.heap.get? b = some o → h'.get? b = some o := fun b o hb e => hs.extBut b o hb e
  have kp : Keep g h' := fun b o e => hup b o (by rintro rfl; rw [ga] at e; cases e) (I.E.keep b o e)
  have va : ∀ y u, VarAt s.heap env y u → VarAt h' env y u := fun y u hv => by
    rcases hv with ⟨h1, m, h2, h3⟩ | ⟨h1, c, h2, o, h3, h4⟩
    · exact .inl ⟨h1, m, h2.at' fun o e => hup _ o (Ne.symm haL) e, h3⟩
    · exact .inr ⟨h1, c, h2, o, hup c o (Ne.symm (hac y c h2)) h3, h4⟩
  refine ⟨{ I.E with keep := kp, vals := fun i y hy => ?_ }, ?_, I.k0, fun b o e => hup b o (by rintro rfl; rw [ka] at e; cases e) (I.kk b o e), I.le, I.gk, ⟨m, hm.at' fun o e => hup _ o (Ne.symm haL) e⟩, I.gL, I.kL, fun y c hc => ?_, I.apart, I.nodup⟩
  · by_cases hij : i = j
    · subst hij
      have hxy : y = x := by rw [hx] at hy; exact (Option.some.inj hy).symm
      subst hxy
      rcases getS_setS_or σ i (.own (xs ++ [p])) with e1 | e1
      · rw [e1]; exact ⟨a, vs ++ [v], va _ _ hv, hp', ga, ka, r.append (.cons rp .nil)⟩
      · rw [e1]; exact trivial
    · rw [getS_setS_ne _ _ _ _ hij]
      have hvv := I.E.vals i y hy
      cases e1 : getS σ i with
      | no => exact trivial
      | val q =>
        rw [e1] at hvv
        obtain ⟨u, h1, h2⟩ := hvv
        exact ⟨u, va y u h1, h2⟩
      | own zs => exact absurd (others_ne σ j i zs ho e1) hij
  · obtain ⟨h, t, rfl⟩ := I.same; exact ⟨h', tk, rfl⟩
  · obtain ⟨⟨u, o, ho, hd⟩, h2⟩ := I.cell y c hc
    exact ⟨⟨u, o, hup c o (Ne.symm (hac y c hc)) ho, hd⟩, h2⟩

theorem SInv.frozen {j : Nat} {x : Str} {xs : List PV} (I : SInv B sc nm env s₀ g₀ k σ g s) (hx : nameAt nm j = some x) (e : getS σ j = .own xs) (ho : others σ j = true) : ∃ g', SInv B sc nm env s₀ g₀ k (setS σ j (.val (.list xs))) g' s := by
  have h := I.E.vals j x hx
  rw [e] at h
  obtain ⟨a, vs, hv, hp, ga, ka, r⟩ := h
  obtain ⟨n, hp1⟩ := id hp
  obtain ⟨m, hm⟩ := I.loc
  have haL : a ≠ env.locals := plain_not_ns hp hm
  have hac : ∀ y c, env.cells.lookup y = some c → a ≠ c := fun y c hc => by
    obtain ⟨⟨u, hu⟩, _⟩ := I.cell y c hc
    exact plain_not_cell hp hu
  have le : Le g (putG g a { cls := .type "list", data := .seq vs.toArray n }) := fun b o e => by
    unfold putG; rw [if_neg (by rintro rfl; rw [ga] at e; cases e)]; exact e
  have kp : Keep (putG g a { cls := .type "list", data := .seq vs.toArray n }) s.heap := fun b o e => by
    unfold putG at e
    by_cases hb : b = a
    · rw [if_pos hb] at e; cases e; rw [hb]; exact hp1
    · rw [if_neg hb] at e; exact I.E.keep b o e
  refine ⟨putG g a { cls := .type "list", data := .seq vs.toArray n }, { I.E with base := fun b o e => le b o (I.E.base b o e), keep := kp, vals := fun i y hy => ?_ }, I.same, I.k0, I.kk, I.le.trans le, fun b h1 h2 => ?_, I.loc, ?_, I.kL, fun y c hc => ?_, I.apart, I.nodup⟩
  · by_cases hij : i = j
    · subst hij
      have hxy : y = x := by rw [hx] at hy; exact (Option.some.inj hy).symm
      subst hxy
      rcases getS_setS_or σ i (.val (.list xs)) with e1 | e1
      · rw [e1]; exact ⟨_, hv, .list (putG_self _ _ _) rfl rfl (r.mono le)⟩
      · rw [e1]; exact trivial
    · rw [getS_setS_ne _ _ _ _ hij]
      have hvv := I.E.vals i y hy
      cases e1 : getS σ i with
      | no => exact trivial
      | val q =>
        rw [e1] at hvv
        obtain ⟨u, h1, h2⟩ := hvv
        exact ⟨u, h1, h2.mono le⟩
      | own zs => exact absurd (others_ne σ j i zs ho e1) hij
  · unfold putG
    rw [if_neg (by rintro rfl; exact h2 ka)]
    exact I.gk b h1 h2
  · unfold putG; rw [if_neg (Ne.symm haL)]; exact I.gL
  · obtain ⟨h1, h2, h3, h4⟩ := I.cell y c hc
    refine ⟨h1, ?_, h3, h4⟩
    unfold putG; rw [if_neg (Ne.symm (hac y c hc))]; exact h2
end
end Mine
end part_W14
section part_W15
set_option Elab.async false
set_option maxRecDepth 10000
set_option linter.unusedVariables false
set_option maxHeartbeats 1000000
namespace Mine
open PySem PySem.W PyProof.Rows

section
variable {prog : Program} {w : World} {B : Heap} {mg mb : Str → Option Value} {Φ : Fenv} {d : Nat}

structure SndS (prog : Program) (w : World) (B : Heap) (Φ : Fenv) (d : Nat) (m : MS) : Prop where
  S : ∀ {sc : Scope} {nm : List (Option Str)} {st : Stmt} {env : Env} {s₀ : Shared} {g₀ k : Ghost prog w} {σ : List Slot} {Q : MFlow → List Slot → Prop} {A : Around} {E : Value → Shared → Prop} {s : Shared} {g : Ghost prog w}, Room d A → agS sc nm m st = true → (∀ x, sc.names.lookup x = some .cell → env.kindOf x = some .cell) →
    SInv B sc nm env s₀ g₀ k σ g s → execM Φ m σ Q → wpAny (model prog w) A (exec st env) (SPost B sc nm env s₀ g₀ k Q) E s
  Bk : ∀ {sc : Scope} {nm : List (Option Str)} {ss : List Stmt} {env : Env} {s₀ : Shared} {g₀ k : Ghost prog w} {σ : List Slot} {Q : MFlow → List Slot → Prop} {A : Around} {E : Value → Shared → Prop} {s : Shared} {g : Ghost prog w}, Room d A → agB sc nm m ss = true → (∀ x, sc.names.lookup x = some .cell → env.kindOf x = some .cell) →
    SInv B sc nm env s₀ g₀ k σ g s → execM Φ m σ Q → wpAny (model prog w) A (execs ss env) (SPost B sc nm env s₀ g₀ k Q) E s

theorem agB_no {sc : Scope} {nm : List (Option Str)} {m : MS} {ss : List Stmt} (hm : (match m with | .nil | .cons .. => false | _ => true) = true) (h : agB sc nm m ss = true) : False := by
  cases m <;> simp at hm <;> (cases ss <;> simp [agB] at h)

theorem SInv.rebase {sc : Scope} {nm : List (Option Str)} {env : Env} {s₀ : Shared} {g₀ k : Ghost prog w} {σ : List Slot} {g : Ghost prog w} {s : Shared} (I : SInv B sc nm env s₀ g₀ k σ g s) : SInv B sc nm env s₀ g k σ g s :=
  { I with le := Le.refl g, gk := fun b h _ => h }
theorem SInv.back {sc : Scope} {nm : List (Option Str)} {env : Env} {s₀ : Shared} {g₀ k : Ghost prog w} {σ σ' : List Slot} {g g' : Ghost prog w} {s s' : Shared} (I : SInv B sc nm env s₀ g₀ k σ g s) (J : SInv B sc nm env s₀ g k σ' g' s') : SInv B sc nm env s₀ g₀ k σ' g' s' :=
  { J with le := I.le.trans J.le, gk := fun b h1 h2 => J.gk b (I.gk b h1 h2) h2 }

theorem SndS.ofS {m : MS} (hm : (match m with | .nil | .cons .. => false | _ => true) = true)
    (S : ∀ {sc : Scope} {nm : List (Option Str)} {st : Stmt} {env : Env} {s₀ : Shared} {g₀ k : Ghost prog w} {σ : List Slot} {Q : MFlow → List Slot → Prop} {A : Around} {E : Value → Shared → Prop} {s : Shared} {g : Ghost prog w}, Room d A → agS sc nm m st = true → (∀ x, sc.names.lookup x = some .cell → env.kindOf x = some .cell) →
      SInv B sc nm env s₀ g₀ k σ g s → execM Φ m σ Q → wpAny (model prog w) A (exec st env) (SPost B sc nm env s₀ g₀ k Q) E s) : SndS prog w B Φ d m :=
  ⟨S, fun _ h _ _ _ => (agB_no hm h).elim⟩

section inv
variable {sc : Scope} {nm : List (Option Str)} {st : Stmt}
theorem ag_assign1 {j : Nat} {e : MX} (h : agS sc nm (.assign j e) st = true) : ∃ x px v p, st = .Assign [.Name x px] v p ∧ nameAt nm j = some x ∧ isLoc sc x = true ∧ agX sc nm e v = true := by
  rw [agS.eq_1] at h
  split at h
  rotate_left
  · cases h
  · rename_i hst
    obtain ⟨_, rfl⟩ := stAssign_is hst
    simp only [Bool.and_eq_true] at h
    obtain ⟨x, h1, h2, h3, _⟩ := okName_is h.1
    obtain ⟨px, rfl⟩ := soleName_is h1
    exact ⟨_, _, _, _, rfl, h2, h3, h.2⟩
theorem ag_assignOwn1 {j : Nat} {e : MX} (h : agS sc nm (.assignOwn j e) st = true) : ∃ x px es lp p, st = .Assign [.Name x px] (.List es lp) p ∧ nameAt nm j = some x ∧ isLoc sc x = true ∧ agL sc nm e es = true := by
  rw [agS.eq_2] at h
  split at h
  rotate_left
  · cases h
  · rename_i hst
    obtain ⟨_, rfl⟩ := stAssign_is hst
    simp only [Bool.and_eq_true] at h
    rename_i ts v p
    obtain ⟨x, h1, h2, h3, _⟩ := okName_is h.1
    obtain ⟨px, rfl⟩ := soleName_is h1
    cases e1 : listOf' v with
    | none => rw [e1] at h; simp [agLo] at h
    | some es =>
      rw [e1] at h
      obtain ⟨lp, rfl⟩ := listOf_is e1
      exact ⟨_, _, _, _, _, rfl, h2, h3, h.2⟩
theorem ag_swap1 {js : List Nat} {e : MX} (h : agS sc nm (.swap js e) st = true) : ∃ ts k1 p1 vs k2 p2 p xs, st = .Assign [.Tuple ts k1 p1] (.Tuple vs k2 p2) p ∧ swapOK sc ts vs = true ∧ namesOf ts = some xs ∧ storeNames nm sc js.reverse xs.reverse = true ∧ xs.length = js.length ∧ agX sc nm e (.Tuple vs k2 p2) = true := by
  rw [agS.eq_3] at h
  split at h
  rotate_left
  · cases h
  · rename_i hst
    obtain ⟨_, rfl⟩ := stAssign_is hst
    simp only [Bool.and_eq_true] at h
    rename_i ts v p
    obtain ⟨⟨h1, h2⟩, h3⟩ := h
    obtain ⟨us, xs, e1, e2, e3, e4⟩ := okNames_is h2
    obtain ⟨k1, p1, rfl⟩ := soleTuple_is e1
    rw [e1] at h1
    cases e5 : tupleOf v with
    | none => rw [e5] at h1; simp [swapOKo] at h1
    | some vs =>
      rw [e5] at h1
      obtain ⟨k2, p2, rfl⟩ := tupleOf_is e5
      exact ⟨us, k1, p1, vs, k2, p2, p, xs, rfl, h1, e2, e3, e4, h3⟩
theorem ag_unpack1 {js : List Nat} {e : MX} (h : agS sc nm (.unpack js e) st = true) : ∃ ts k1 p1 v p xs, st = .Assign [.Tuple ts k1 p1] v p ∧ isComp v = false ∧ isTuple v = false ∧ namesOf ts = some xs ∧ storeNames nm sc js xs = true ∧ xs.length = js.length ∧ agX sc nm e v = true := by
  rw [agS.eq_4] at h
  split at h
  rotate_left
  · cases h
  · rename_i hst
    obtain ⟨_, rfl⟩ := stAssign_is hst
    simp only [Bool.and_eq_true, Bool.not_eq_true'] at h
    rename_i ts v p
    obtain ⟨⟨⟨h0, h1⟩, h2⟩, h3⟩ := h
    obtain ⟨us, xs, e1, e2, e3, e4⟩ := okNames_is h2
    obtain ⟨k1, p1, rfl⟩ := soleTuple_is e1
    exact ⟨us, k1, p1, v, p, xs, rfl, h0, h1, e2, e3, e4, h3⟩
theorem ag_aug1 {j : Nat} {op : Operator} {e : MX} (h : agS sc nm (.aug j op e) st = true) : ∃ x px v p, st = .AugAssign (.Name x px) op v p ∧ nameAt nm j = some x ∧ isLoc sc x = true ∧ (x == Str.ofString "__classdict__") = false ∧ agX sc nm e v = true := by
  rw [agS.eq_5] at h
  split at h
  rotate_left
  · cases h
  · rename_i hst
    obtain ⟨_, rfl⟩ := stAug_is hst
    simp only [Bool.and_eq_true, beq_iff_eq] at h
    obtain ⟨⟨rfl, h1⟩, h2⟩ := h
    obtain ⟨x, e1, e2, e3, _, e4⟩ := okName_is h1
    obtain ⟨px, rfl⟩ := nameOf_is e1
    exact ⟨_, _, _, _, rfl, e2, e3, e4, h2⟩
theorem ag_append1 {j : Nat} {e : MX} (h : agS sc nm (.append j e) st = true) : ∃ x px ap v p p', st = .Expr (.Call (.Attribute (.Name x px) (Str.ofString "append") ap) [v] [] p) p' ∧ nameAt nm j = some x ∧ (x == Str.ofString "__debug__") = false ∧ (x == Str.ofString "__classdict__") = false ∧ (ap.endLine == p.line) = true ∧ notStarred v = true ∧ agX sc nm e v = true := by
  rw [agS.eq_6] at h
  split at h
  rotate_left
  · cases h
  · rename_i hst
    obtain ⟨_, rfl⟩ := stExpr_is hst
    simp only [Bool.and_eq_true] at h
    rename_i c p'
    cases e1 : appendOf c with
    | none => rw [e1] at h; simp [okName] at h
    | some q =>
      obtain ⟨x, v⟩ := q
      rw [e1] at h
      obtain ⟨px, ap, p, rfl, h1, h2⟩ := appendOf_is e1
      obtain ⟨y, e2, e3, e4, e5, e6⟩ := okName_is h.1
      cases e2
      exact ⟨_, _, _, _, _, _, rfl, e3, e5, e6, h1, h2, h.2⟩
theorem ag_ifs1 {t : MX} {a b : MS} (h : agS sc nm (.ifs t a b) st = true) : ∃ t' a' b' p, st = .If t' a' b' p ∧ agX sc nm t t' = true ∧ agB sc nm a a' = true ∧ agB sc nm b b' = true := by
  rw [agS.eq_7] at h
  split at h
  rotate_left
  · cases h
  · rename_i hst
    obtain ⟨_, rfl⟩ := stIf_is hst
    simp only [Bool.and_eq_true] at h
    exact ⟨_, _, _, _, rfl, h.1.1, h.1.2, h.2⟩
theorem ag_whil1 {t : MX} {b : MS} (h : agS sc nm (.whil t b) st = true) : ∃ t' b' p, st = .While t' b' [] p ∧ agX sc nm t t' = true ∧ agB sc nm b b' = true := by
  rw [agS.eq_8] at h
  split at h
  rotate_left
  · cases h
  · rename_i hst
    obtain ⟨_, rfl⟩ := stWhile_is hst
    simp only [Bool.and_eq_true] at h
    rename_i t' b' o p
    cases o <;> simp at h
    exact ⟨_, _, _, rfl, h.1, h.2⟩
theorem ag_fors1 {j : Nat} {it : MX} {b : MS} (h : agS sc nm (.fors j it b) st = true) : ∃ x px it' b' p, st = .For (.Name x px) it' b' [] p ∧ nameAt nm j = some x ∧ isLoc sc x = true ∧ agX sc nm it it' = true ∧ (∀ env x, foldedSetIterable it' env x = pure x) ∧ agB sc nm b b' = true := by
  rw [agS.eq_9] at h
  split at h
  rotate_left
  · cases h
  · rename_i hst
    obtain ⟨_, rfl⟩ := stFor_is hst
    simp only [Bool.and_eq_true] at h
    rename_i t it' b' o p
    cases o <;> simp at h
    obtain ⟨⟨⟨h1, h2⟩, h3⟩, h4⟩ := h
    obtain ⟨x, e1, e2, e3, _⟩ := okName_is h1
    obtain ⟨px, rfl⟩ := nameOf_is e1
    refine ⟨_, _, _, _, _, rfl, e2, e3, h2, fun env x => ?_, h4⟩
    cases it' <;> first | rfl | (cases h3)
theorem ag_ret1 {e : MX} (h : agS sc nm (.ret e) st = true) : ∃ v p, st = .Return (some v) p ∧ agX sc nm e v = true := by
  rw [agS.eq_10] at h
  split at h
  rotate_left
  · cases h
  · rename_i hst
    obtain ⟨_, rfl⟩ := stRet_is hst
    rename_i v p
    cases v with
    | none => simp [agXo] at h
    | some v => exact ⟨_, _, rfl, h⟩
end inv

theorem sndS (LL : Law prog w B mg mb) (hF : FnOK prog w B mg d Φ) (m : MS) : SndS prog w B Φ d m := by
  induction m with
  | assign j e =>
    refine SndS.ofS rfl fun {sc nm st env s₀ g₀ k σ Q A E s g} hR ha hc0 I hm => ?_
    obtain ⟨x, px, v, p, rfl, h1, h2, h3⟩ := ag_assign1 ha
    simp only [execM] at hm
    have plain : swapsWith v (some (.Name x px)) p.line env = pure false → wpAny (model prog w) A (exec (.Assign [.Name x px] v p) env) (SPost B sc nm env s₀ g₀ k Q) E s := fun hs => by
      refine wpAny_Assign_Name (wpAny_mono ((snd LL hF e).X hR h3 I.E hm) (fun v s₁ h => ?_) fun _ _ x => x) hs
      obtain ⟨g₁, q, S₁, rv, hq⟩ := h
      exact sound_storeV (I.step S₁) h1 h2 (hc0 x) rv fun s' I' => ⟨g₁, _, .next, I', .next, hq⟩
    cases hic : isComp v with
    | false => exact plain (noswap hic)
    | true =>
      have hcm : ∃ jj elt iter tests, e = .comp jj elt iter tests := by
        cases e <;> first | exact ⟨_, _, _, _, rfl⟩ | (exfalso; simp only [evalM] at hm; done) | (exfalso; rw [agX_notComp h3 rfl] at hic; cases hic)
      obtain ⟨jj, elt, iter, tests, rfl⟩ := hcm
      obtain ⟨e', y, py, itx, ifs, sc', p', rfl, h4, h5, h6, h7, h8⟩ := ag_comp h3
      cases hsw : (env.blockKind == .function && env.kindOf x == some .local && px.line == (Expr.ListComp e' [⟨.Name y py, itx, ifs, 0⟩] sc' p').pos.line && !(sc'.names.any fun (n, kd) => n == x && (kd == .local || kd == .cell))) with
      | false => exact plain (by show (pure _ : Sem Bool) = _; rw [hsw])
      | true =>
        have hsw' : swapsWith (.ListComp e' [⟨.Name y py, itx, ifs, 0⟩] sc' p') (some (.Name x px)) p.line env = pure true := by show (pure _ : Sem Bool) = _; rw [hsw]
        have O := compOK_iff h5
        simp only [evalM] at hm
        obtain ⟨cl, hc1, hc2⟩ := closureFor_is (env := env) (scope := sc') fun y hy e => (I.E.cells _ (O.free y hy e).2).2
        rw [exec_Assign_Name_used _ _ _ _ hsw']
        refine wpAny_bind (wpAny_standAt (wpAny_bind ?_))
        show wpAny _ A (do let _ ← comprehension (.ListComp e' [⟨.Name y py, itx, ifs, 0⟩] sc' p') sc' env _ (newList []) false (eval itx env) (some (assign (.Name x px) env))) _ _ s
        refine wpAny_bind (wpAny_mono (wpAny_comprehension_free (use := some (assign (.Name x px) env)) (Q := fun _ s' => SPost B sc nm env s₀ g₀ k Q .next s') rfl (h8 env) hc1 O.kind O.locs (wpAny_mono ((snd LL hF iter).X hR h4 I.E hm) (fun xv s₁ h => ?_) fun _ _ x => x)) (fun _ s' hq => wpAny_pure (wpAny_pure hq)) fun _ _ e => e)
        obtain ⟨g₁, q, S₁, rx, hm⟩ := h
        have I₁ := I.step S₁
        · refine comp_block (RR := fun acc C => compPost (model prog w) A E (some (assign (.Name x px) env)) (fun _ s' => SPost B sc nm env s₀ g₀ k Q .next s') acc C) hR.handled I₁.E O hc2 rx hm (fun p cenv s₃ g₃ R E' H' ht => (snd LL hF tests).Te hR h7 H' ht) (fun p cenv s₃ g₃ R E' H' ht => (snd LL hF elt).X hR h6 H' ht) ?_
          intro C D s' g' acc S hC hns gC hCD rD hP
          obtain ⟨m, hns⟩ := hns
          obtain ⟨oC, es, ep, eC, rest⟩ := id hns
          have I₂ := I₁.step S
          have off := I₁.offStep S (I₁.off hC)
          have kC := (I₁.none_of hC).2
          have I₃ := I₂.addK off eC gC kC
          show wpAny _ A (assign (.Name x px) env (.ref D)) _ _ s'
          refine wpAny_assign_Name (sound_storeV I₃ h1 h2 (hc0 x) rD fun s'' I'' => ?_)
          have eC' : s''.heap.get? C = some oC := I''.kk C oC (by unfold putG; rw [if_pos rfl])
          refine ⟨m, ⟨oC, es, ep, eC', rest⟩, fun h' hs' => ?_⟩
          exact ⟨g', _, .next, SInv.dropK (tk := s''.toks) I'' kC gC I.k0 (fun b o hb e => hs'.extBut b o hb e), .next, hP⟩
  | assignOwn j es =>
    refine SndS.ofS rfl fun {sc nm st env s₀ g₀ k σ Q A E s g} hR ha hc0 I hm => ?_
    obtain ⟨x, px, elts, lp, p, rfl, h1, h2, h3⟩ := ag_assignOwn1 ha
    simp only [execM] at hm
    refine wpAny_Assign_Name (List_ (wpAny_mono ((snd LL hF es).L hR h3 I.E hm) (fun vs s₁ h => ?_) fun _ _ x => x)) rfl
    obtain ⟨g₁, ps, S, r, hl, hp⟩ := h
    refine wpAny_newObj_type ?_ (by show vs.toArray.size ≤ sizeLine; rw [List.size_toArray, r.length, sizeLine_eq]; omega)
    have I₁ := I.step S
    have hfr := fresh_none s₁.heap
    obtain ⟨gn, kn⟩ := I₁.none_of hfr
    have off := I₁.off hfr
    have S₂ : Step s₁ g₁ { s₁ with heap := s₁.heap.push { cls := .type "list", data := .seq vs.toArray } } g₁ := Step.keeps0 S.keep ⟨_, _, rfl, fun b o e => Heap.get?_push_of_some _ e⟩
    have I₂ := I₁.step S₂
    have off₂ := I₁.offStep S₂ off
    refine sound_store (sl := .own ps) I₂ h1 h2 (hc0 x) (fun h' hv hup => ⟨s₁.heap.objs.size, vs, hv, ⟨0, hup _ _ off₂.loc off₂.cell (Heap.get?_push_size _ rfl)⟩, gn, kn, r⟩) fun s' I' => ⟨g₁, _, .next, I', .next, hp⟩
  | swap js e =>
    refine SndS.ofS rfl fun {sc nm st env s₀ g₀ k σ Q A E s g} hR ha hc0 I hm => ?_
    obtain ⟨ts, k1, p1, vs, k2, p2, p, xs, rfl, h1, h2, h3, h4, h5⟩ := ag_swap1 ha
    simp only [execM] at hm
    refine Assign_Tuple_swapped (wpAny_mono ((snd LL hF e).X hR h5 I.E hm) (fun v s₁ h => ?_) fun _ _ x => x) rfl (swapped_is I.E.kind I.E.locs h1 h2)
    obtain ⟨g₁, q, S₁, rv, hq⟩ := h
    have I₁ := I.step S₁
    cases rv <;> try exact False.elim hq
    · rename_i a o us n ps e1 c1 d1 r
      obtain hq : ps.length = js.length ∧ _ := hq
      refine unpack_list hR.handled S₁.keep (list_isList S₁.keep e1 c1 d1) (by rw [r.length, hq.1, h4]) fun s₂ S₂ => ?_
      exact sound_storeMany hc0 _ _ _ _ _ _ _ (I₁.step S₂) h3 r.reverse (by simp [hq.1]) fun s' I' => ⟨g₁, _, .next, I', .next, hq.2⟩
    · rename_i a o us n ps e1 c1 d1 r
      obtain hq : ps.length = js.length ∧ _ := hq
      refine unpack_tuple hR.handled S₁.keep (tuple_isTup S₁.keep e1 c1 d1) (by rw [r.length, hq.1, h4]) fun s₂ S₂ => ?_
      exact sound_storeMany hc0 _ _ _ _ _ _ _ (I₁.step S₂) h3 r.reverse (by simp [hq.1]) fun s' I' => ⟨g₁, _, .next, I', .next, hq.2⟩
  | unpack js e =>
    refine SndS.ofS rfl fun {sc nm st env s₀ g₀ k σ Q A E s g} hR ha hc0 I hm => ?_
    obtain ⟨ts, k1, p1, v, p, xs, rfl, h0, h1, h2, h3, hlen, h4⟩ := ag_unpack1 ha
    simp only [execM] at hm
    refine Assign_Tuple (wpAny_mono ((snd LL hF e).X hR h4 I.E hm) (fun v s₁ h => ?_) fun _ _ x => x) (noswap (env := env) (n := p.line) (t := some (.Tuple ts k1 p1)) h0 : swapsWithSole [.Tuple ts k1 p1] v p.line env = pure false) (by cases v <;> first | rfl | (cases h1))
    obtain ⟨g₁, q, S₁, rv, hq⟩ := h
    have I₁ := I.step S₁
    rw [arm_assign_Tuple]
    refine wpAny_bind (wpAny_standAt ?_)
    unfold unpack
    obtain ⟨a1, a2⟩ := assignEach_plain (env := env) ts xs h2
    rw [a2]
    cases rv <;> try exact False.elim hq
    · rename_i a o us n ps e1 c1 d1 r
      obtain hq : ps.length = js.length ∧ _ := hq
      refine wpAny_bind (wpAny_holding (unpack_list hR.handled S₁.keep (list_isList S₁.keep e1 c1 d1) (by rw [a1, r.length, hq.1, hlen]) fun s₂ S₂ => ?_))
      exact sound_storeTargets hc0 js ts xs _ _ _ _ _ (I₁.step S₂) h2 h3 r hq.1 fun s' I' => ⟨g₁, _, .next, I', .next, hq.2⟩
    · rename_i a o us n ps e1 c1 d1 r
      obtain hq : ps.length = js.length ∧ _ := hq
      refine wpAny_bind (wpAny_holding (unpack_tuple hR.handled S₁.keep (tuple_isTup S₁.keep e1 c1 d1) (by rw [a1, r.length, hq.1, hlen]) fun s₂ S₂ => ?_))
      exact sound_storeTargets hc0 js ts xs _ _ _ _ _ (I₁.step S₂) h2 h3 r hq.1 fun s' I' => ⟨g₁, _, .next, I', .next, hq.2⟩
  | aug j op e =>
    refine SndS.ofS rfl fun {sc nm st env s₀ g₀ k σ Q A E s g} hR ha hc0 I hm => ?_
    obtain ⟨x, px, v, p, rfl, h1, h2, h3, h4⟩ := ag_aug1 ha
    simp only [execM] at hm
    have hv := I.E.vals j x h1
    cases e1 : getS σ j with
    | no => rw [e1] at hm; exact False.elim hm
    | own xs => rw [e1] at hm; exact False.elim hm
    | val q =>
      rw [e1] at hm hv
      simp only [useS] at hm
      obtain ⟨u, hu, ru⟩ := hv
      refine wpAny_AugAssign_Name (loadVar I.E.kind hu h3 (wpAny_mono ((snd LL hF e).X hR h4 I.E hm) (fun v s₁ h => ?_) fun _ _ x => x))
      obtain ⟨g₁, q', S₁, rv, hq⟩ := h
      cases ru <;> try exact False.elim hq
      cases rv <;> try exact False.elim hq
      refine wpAny_mono (sound_bin_inplace op S₁.keep hq) (fun r s₂ h => ?_) fun _ _ x => x
      obtain ⟨g₂, q2, S₂, rr, hq2⟩ := h
      exact sound_storeV ((I.step S₁).step S₂) h1 h2 (hc0 x) rr fun s' I' => ⟨g₂, _, .next, I', .next, hq2⟩
  | append j e =>
    refine SndS.ofS rfl fun {sc nm st env s₀ g₀ k σ Q A E s g} hR ha hc0 I hm => ?_
    obtain ⟨x, px, ap, v, p, p', rfl, h1, h2, h3, h4, h5, h6⟩ := ag_append1 ha
    simp only [execM] at hm
    have hint : interactive env = false := by unfold interactive; rw [I.E.kind]; rfl
    refine wpAny_Expr ?_ hint rfl
    have htr : backTo p (starEach [v] env) = [(false, eval v env)] := by rw [starEach_cons h5]; rfl
    refine wpAny_Call_append rfl (by rw [htr]; rfl) h4 htr ?_
    cases e1 : getS σ j with
    | no => rw [e1] at hm; exact False.elim hm
    | val q => rw [e1] at hm; exact False.elim hm
    | own xs =>
      rw [e1] at hm
      simp only [ownS] at hm
      have hv := I.E.vals j x h1
      rw [e1] at hv
      obtain ⟨a, vs, hva, hp, ga, ka, r⟩ := hv
      obtain ⟨n, hpn⟩ := id hp
      refine wpAny_Name (loadVar I.E.kind hva h3 ⟨a, vs.toArray, rfl, ⟨_, n, hpn, rfl, rfl, rfl⟩, ?_⟩) h2
      refine wpAny_mono ((snd LL hF e).X hR h6 I.E hm) (fun u s₁ h => ?_) fun _ _ x => x
      obtain ⟨g₁, q, S₁, ru, hl, ho, hq⟩ := h
      have I₁ := I.step S₁
      have hp₁ : s₁.heap.PlainList a vs.toArray := hp.at fun o e => Keeps.up S₁.keeps _ o e
      refine wpAny_list_append_plain (hsz := by rw [List.size_toArray, r.length, sizeLine_eq]; omega) hp₁ fun h' hp' hs' => ?_
      refine ⟨g₁, _, .next, SInv.grown (tk := s₁.toks) I₁ h1 e1 ho (hva.keeps (Keeps.up S₁.keeps)) hp₁ (r.mono S₁.le) ru (by simpa using hp') hs', .next, hq⟩
  | ifs t a b ia ib =>
    refine SndS.ofS rfl fun {sc nm st env s₀ g₀ k σ Q A E s g} hR ha hc0 I hm => ?_
    obtain ⟨t', a', b', p, rfl, h1, h2, h3⟩ := ag_ifs1 ha
    simp only [execM] at hm
    refine wpAny_If (wpAny_mono ((snd LL hF t).T hR h1 I.E hm) (fun c s₁ h => ?_) fun _ _ x => x)
    obtain ⟨g₁, S₁, hq⟩ := h
    cases c with
    | true => simp only [if_true] at hq ⊢; exact ia.Bk hR h2 hc0 (I.step S₁) hq
    | false => simp only [Bool.false_eq_true, if_false] at hq ⊢; exact ib.Bk hR h3 hc0 (I.step S₁) hq
  | whil t b ib =>
    refine SndS.ofS rfl fun {sc nm st env s₀ g₀ k σ Q A E s g} hR ha hc0 I hm => ?_
    obtain ⟨t', b', p, rfl, h1, h2⟩ := ag_whil1 ha
    simp only [execM] at hm
    obtain ⟨n, hm⟩ := hm
    refine wpAny_While (codeAny_whileLoop (fun n s' => ∃ σ' g', SInv B sc nm env s₀ g₀ k σ' g' s' ∧ whileGo (fun σ R => truthM Φ t σ R) (fun σ R => execM Φ b σ R) Q n σ') ?_ n ⟨σ, g, I, hm⟩)
    rintro n s' ⟨σ', g', I', hm'⟩
    cases n with
    | zero => exact hm'.elim
    | succ n =>
      simp only [whileGo] at hm'
      refine wpAny_mono ((snd LL hF t).T hR h1 I'.E hm') (fun c s₁ h => ?_) fun _ _ x => x
      obtain ⟨g₁, S₁, hq⟩ := h
      cases c with
      | false =>
        simp only [Bool.false_eq_true, if_false] at hq ⊢
        exact wpAny_execs_nil ⟨g₁, σ', .next, I'.step S₁, .next, hq⟩
      | true =>
        simp only [if_true] at hq ⊢
        refine wpAny_mono (ib.Bk hR h2 hc0 (I'.step S₁) hq) (fun f s₃ h => ?_) fun _ _ x => x
        obtain ⟨g₃, σ₃, mf, I₃, fr, hq3⟩ := h
        cases fr with
        | next => exact ⟨n, Nat.lt_succ_self n, σ₃, g₃, I₃, hq3⟩
        | cont => exact ⟨n, Nat.lt_succ_self n, σ₃, g₃, I₃, hq3⟩
        | brk => exact ⟨g₃, σ₃, .next, I₃, .next, hq3⟩
        | ret r => exact ⟨g₃, σ₃, _, I₃, .ret r, hq3⟩
  | fors j it b ib =>
    refine SndS.ofS rfl fun {sc nm st env s₀ g₀ k σ Q A E s g} hR ha hc0 I hm => ?_
    obtain ⟨x, px, it', b', p, rfl, h1, h2, h3, h4, h5⟩ := ag_fors1 ha
    simp only [execM] at hm
    refine wpAny_For (wpAny_mono ((snd LL hF it).X hR h3 I.E hm) (fun xv s₁ h => ?_) fun _ _ x => x) (h4 env)
    obtain ⟨g₁, q, S₁, rx, hq⟩ := h
    · have I₁ := I.step S₁
      refine sound_iter hR.handled S₁.keep rx hq fun items T s₂ hq K₂ hT hIt => ?_
      obtain ⟨fp, PP, St, W, hP, hst, hfp, hIo⟩ := hIt
      have S₂ : Step s₁ g₁ s₂ g₁ := Step.keeps0 S₁.keep K₂
      have I₂ := I₁.step S₂
      obtain ⟨gT, kT⟩ := I₁.none_of hT
      obtain ⟨oT, eT⟩ := hIo _ _ hst
      have I₂' := I₂.addK (I₁.offStep S₂ (I₁.off hT)) eT gT kT
      refine codeAny_forLoop (fun n s' => ∃ σ' g' i o, SInv B sc nm env s₀ g₀ (putG k T o) σ' g' s' ∧ i ≤ items.length ∧ n = items.length + 1 - i ∧ St i s'.heap ∧ Le g₁ g' ∧ g' T = Option.none ∧ forGo (fun σ R => execM Φ b σ R) j Q (items.drop i) σ') ?_ (items.length + 1)
        ⟨σ, g₁, 0, oT, I₂', Nat.zero_le _, rfl, hst, Le.refl _, gT, by simpa using hq⟩
      rintro n s' ⟨σ', g', i, o, I', hi, rfl, hst', hle, gT', hgo⟩
      by_cases hlt : i < items.length
      · refine W.item i _ _ _ hlt hst' fun v h₁ tk₁ hPv hst₁ hk₁ => ?_
        obtain ⟨pv, hpi, rv⟩ := hP i v hlt hPv
        have hdrop : items.drop i = pv :: items.drop (i + 1) := by
          rw [List.drop_eq_getElem_cons hlt]
          congr 1
          exact (List.getElem?_eq_some_iff.mp hpi).2
        rw [hdrop] at hgo
        simp only [forGo] at hgo
        obtain ⟨o₁, eo₁⟩ := hIo _ _ hst₁
        have J₁ : SInv B sc nm env s₀ g₀ (putG k T o₁) σ' g' { s' with heap := h₁, toks := tk₁ } := SInv.turn I' kT gT' I.k0 (fun b o hb e => hk₁ b o (by simpa using hb) e) eo₁
        refine wpAny_assign_Name (sound_storeV J₁ h1 h2 (hc0 x) (rv.mono hle) fun s₃ I₃ => ?_)
        have fr3 : ∀ (s₄ : Shared) (σ₄ : List Slot) (g₄ : Ghost prog w), SInv B sc nm env s₀ g₀ (putG k T o₁) σ₄ g₄ s₄ → Le g' g₄ → St (i + 1) s₄.heap := fun s₄ σ₄ g₄ I₄ l4 =>
          W.frame _ _ _ hst₁ fun y hy oo ho => by
            rcases hfp y hy with rfl | ⟨o', ho'⟩
            · have ho2 : h₁.get? y = some oo := ho
              rw [eo₁] at ho2; cases ho2
              exact I₄.kk _ _ (by unfold putG; rw [if_pos rfl])
            · have e2 := J₁.E.keep y o' (hle y o' ho')
              have ho2 : h₁.get? y = some oo := ho
              rw [show h₁.get? y = some o' from e2] at ho2
              cases ho2
              exact I₄.E.keep y _ (l4 _ _ (hle y _ ho'))
        refine wpAny_mono (ib.Bk hR h5 hc0 I₃.rebase hgo) (fun f s₄ h => ?_) fun _ _ x => x
        obtain ⟨g₄, σ₄, mf, I₄', fr, hq4⟩ := h
        have l4 : Le g' g₄ := I₄'.le
        have I₄ := I₃.back I₄'
        have gT4 : g₄ T = Option.none := by
          refine I₄.gk T ?_ (by unfold putG; rw [if_pos rfl]; simp)
          cases e9 : g₀ T with
          | none => rfl
          | some o9 => exact absurd (I₁.le T o9 e9) (by rw [gT]; simp)
        cases fr with
        | next => exact ⟨items.length + 1 - (i + 1), by omega, σ₄, g₄, i + 1, o₁, I₄, hlt, rfl, fr3 _ _ _ I₄ l4, hle.trans l4, gT4, hq4⟩
        | cont => exact ⟨items.length + 1 - (i + 1), by omega, σ₄, g₄, i + 1, o₁, I₄, hlt, rfl, fr3 _ _ _ I₄ l4, hle.trans l4, gT4, hq4⟩
        | brk => exact ⟨g₄, σ₄, .next, SInv.dropK (h' := s₄.heap) (tk := s₄.toks) I₄ kT gT4 I.k0 (fun _ _ _ e => e), .next, hq4⟩
        | ret r => exact ⟨g₄, σ₄, _, SInv.dropK (h' := s₄.heap) (tk := s₄.toks) I₄ kT gT4 I.k0 (fun _ _ _ e => e), .ret r, hq4⟩
      · have hin : i = items.length := by omega
        subst hin
        rw [List.drop_length] at hgo
        simp only [forGo] at hgo
        refine W.done _ _ _ hst' fun h₁ tk₁ hk₁ => ?_
        exact wpAny_execs_nil ⟨g', σ', .next, SInv.dropK (tk := tk₁) I' kT gT' I.k0 (fun b o hb e => hk₁ b o (by simpa using hb) e), .next, hgo⟩
  | ret e =>
    refine SndS.ofS rfl fun {sc nm st env s₀ g₀ k σ Q A E s g} hR ha hc0 I hm => ?_
    obtain ⟨v, p, rfl, h1⟩ := ag_ret1 ha
    simp only [execM] at hm
    refine wpAny_Return_some (wpAny_mono ((snd LL hF e).X hR h1 I.E hm) (fun v s₁ h => ?_) fun _ _ x => x)
    obtain ⟨g₁, q, S₁, rv, hq⟩ := h
    exact ⟨g₁, σ, .ret q, I.step S₁, .ret rv, hq⟩
  | nil =>
    refine ⟨fun {sc nm st env s₀ g₀ k σ Q A E s g} hR ha hc0 I hm => by cases st <;> simp [agS] at ha, fun {sc nm ss env s₀ g₀ k σ Q A E s g} hR ha hc0 I hm => ?_⟩
    cases ss <;> simp [agB] at ha
    simp only [execM] at hm
    exact wpAny_execs_nil ⟨g, σ, .next, I, .next, hm⟩
  | cons h t ih it =>
    refine ⟨fun {sc nm st env s₀ g₀ k σ Q A E s g} hR ha hc0 I hm => by cases st <;> simp [agS] at ha, fun {sc nm ss env s₀ g₀ k σ Q A E s g} hR ha hc0 I hm => ?_⟩
    simp only [execM] at hm
    have plain : ∀ st r, ss = st :: r → agS sc nm h st = true → agB sc nm t r = true → wpAny (model prog w) A (execs ss env) (SPost B sc nm env s₀ g₀ k Q) E s := by
      rintro st r rfl h1 h2
      refine wpAny_execs_cons (wpAny_mono (ih.S hR h1 hc0 I hm) (fun f s₁ h => ?_) fun _ _ x => x)
      obtain ⟨g₁, σ₁, mf, I₁, fr, hq⟩ := h
      cases fr with
      | next => exact it.Bk hR h2 hc0 I₁ hq
      | cont => exact ⟨g₁, σ₁, _, I₁, .cont, hq⟩
      | brk => exact ⟨g₁, σ₁, _, I₁, .brk, hq⟩
      | ret r => exact ⟨g₁, σ₁, _, I₁, .ret r, hq⟩
    cases h
    case freeze j =>
      simp only [agB] at ha
      simp only [execM] at hm
      cases e1 : getS σ j with
      | no => rw [e1] at hm; exact False.elim hm
      | val q => rw [e1] at hm; exact False.elim hm
      | own xs =>
        rw [e1] at hm
        simp only [ownS, seqK] at hm
        cases hx : nameAt nm j with
        | none =>
          have hv : ∀ i y, nameAt nm i = some y → SlotOK s.heap g k env y (getS (setS σ j (.val (.list xs))) i) := fun i y hy => by
            rw [getS_setS_ne _ _ _ _ (by rintro rfl; rw [hx] at hy; cases hy)]
            exact I.E.vals i y hy
          have I' : SInv B sc nm env s₀ g₀ k (setS σ j (.val (.list xs))) g s := { I with E := { I.E with vals := hv } }
          exact it.Bk hR ha hc0 I' hm.2
        | some x =>
          obtain ⟨g', I'⟩ := I.frozen hx e1 hm.1
          exact it.Bk hR ha hc0 I' hm.2
    all_goals (
      cases ss with
      | nil => simp [agB] at ha
      | cons st r =>
        simp only [agB, Bool.and_eq_true] at ha
        exact plain st r rfl ha.1 ha.2)
  | freeze j =>
    exact SndS.ofS rfl fun {sc nm st env s₀ g₀ k σ Q A E s g} hR ha hc0 I hm => by cases st <;> simp [agS] at ha
  | hole =>
    exact SndS.ofS rfl fun {sc nm st env s₀ g₀ k σ Q A E s g} hR ha hc0 I hm => by simp only [execM] at hm
end
end Mine
end part_W15
section part_W16
set_option Elab.async false
set_option maxRecDepth 10000
set_option linter.unusedVariables false
set_option maxHeartbeats 1000000
namespace Mine
open PySem PySem.W PyProof.Rows

theorem bindL_other (kd : Str → Option NameKind) : ∀ (bs : List (Str × Value)) (m : Str → Option Value) (x : Str), x ∉ bs.map (·.1) → bindL kd bs m x = m x
  | [], m, x, h => rfl
  | (n, u) :: r, m, x, h => by
    simp only [List.map_cons, List.mem_cons, not_or] at h
    unfold bindL
    rw [bindL_other kd r _ x h.2]
    split
    · simp [h.1]
    · rfl
theorem bindC_other (kd : Str → Option NameKind) : ∀ (bs : List (Str × Value)) (m : Str → Option Value) (x : Str), x ∉ bs.map (·.1) → bindC kd bs m x = m x
  | [], m, x, h => rfl
  | (n, u) :: r, m, x, h => by
    simp only [List.map_cons, List.mem_cons, not_or] at h
    unfold bindC
    rw [bindC_other kd r _ x h.2]
    split
    · rfl
    · simp [h.1]
theorem bindL_get (kd : Str → Option NameKind) : ∀ (bs : List (Str × Value)) (m : Str → Option Value) (x : Str) (v : Value), (bs.map (·.1)).Nodup → (x, v) ∈ bs → kd x = some .local → bindL kd bs m x = some v
  | (n, u) :: r, m, x, v, hn, hm, hk => by
    rw [List.map_cons, List.nodup_cons] at hn
    unfold bindL
    rcases List.mem_cons.mp hm with e | hm
    · cases e
      rw [bindL_other kd r _ _ hn.1, if_pos hk]; simp
    · exact bindL_get kd r _ x v hn.2 hm hk
theorem bindC_get (kd : Str → Option NameKind) : ∀ (bs : List (Str × Value)) (m : Str → Option Value) (x : Str) (v : Value), (bs.map (·.1)).Nodup → (x, v) ∈ bs → kd x ≠ some .local → bindC kd bs m x = some v
  | (n, u) :: r, m, x, v, hn, hm, hk => by
    rw [List.map_cons, List.nodup_cons] at hn
    unfold bindC
    rcases List.mem_cons.mp hm with e | hm
    · cases e
      rw [bindC_other kd r _ _ hn.1, if_neg hk]; simp
    · exact bindC_get kd r _ x v hn.2 hm hk

/-- the slots at a call -/
noncomputable def slots0 (args : List PV) (n : Nat) : List Slot := args.map .val ++ List.replicate n .no

theorem getS_append_left : ∀ (a b : List Slot) (j : Nat), j < a.length → getS (a ++ b) j = getS a j
  | [], b, j, h => by simp at h
  | x :: a, b, 0, h => rfl
  | x :: a, b, j + 1, h => getS_append_left a b j (by simpa using h)
theorem getS_append_right : ∀ (a b : List Slot) (j : Nat), a.length ≤ j → getS (a ++ b) j = getS b (j - a.length)
  | [], b, j, h => by simp
  | x :: a, b, 0, h => by simp at h
  | x :: a, b, j + 1, h => by
    have := getS_append_right a b j (by simpa using h)
    show getS (a ++ b) j = _
    rw [this]; congr 1; simp
theorem getS_no : ∀ (n j : Nat), getS (List.replicate n .no) j = .no
  | 0, j => rfl
  | n + 1, 0 => rfl
  | n + 1, j + 1 => getS_no n j
theorem getS_val : ∀ (ps : List PV) (j : Nat) (p : PV), ps[j]? = some p → getS (ps.map .val) j = .val p
  | [], j, p, h => by simp at h
  | q :: ps, 0, p, h => by simp at h; subst h; rfl
  | q :: ps, j + 1, p, h => getS_val ps j p (by simpa using h)

/-- what a function's text must be for a call of it -/
noncomputable def fnOK (scope : Scope) (params : Arguments) (nm : List (Option Str)) (body : List Stmt) (m : MS) : Bool :=
  scope.kind == .function && !scope.isCoroutine && !scope.isGenerator && scope.names.all (fun y => y.2 != .free) && decide (nm.filterMap id).Nodup &&
  (nm.take params.args.length == params.args.map fun a => some a.arg) && decide (params.args.map (·.arg)).Nodup &&
  (params.args.all fun a => scope.names.lookup a.arg == some .local || (scope.names.lookup a.arg == some .cell)) && agB scope nm m body

theorem nodup_names : ∀ (nm : List (Option Str)), (nm.filterMap id).Nodup → ∀ i j x, nameAt nm i = some x → nameAt nm j = some x → i = j
  | [], h, i, j, x, hi, hj => by simp [nameAt] at hi
  | n :: nm, h, i, j, x, hi, hj => by
    have mem : ∀ i, nameAt nm i = some x → x ∈ nm.filterMap id := fun i hi => by
      unfold nameAt at hi
      rw [List.getD_eq_getElem?_getD] at hi
      cases e : nm[i]? with
      | none => rw [e] at hi; simp at hi
      | some o =>
        rw [e] at hi
        simp only [Option.getD_some] at hi
        subst hi
        exact List.mem_filterMap.mpr ⟨some x, List.mem_of_getElem? e, rfl⟩
    have tl : (nm.filterMap id).Nodup := by
      cases n with
      | none => simpa using h
      | some y => simp at h; simpa using h.2
    have hd : ∀ i, n = some x → nameAt nm i = some x → False := fun i' hn hi' => by
      rw [hn] at h
      simp only [List.filterMap_cons, id] at h
      exact (List.nodup_cons.mp h).1 (mem i' hi')
    cases i with
    | zero => cases j with
      | zero => rfl
      | succ j => exact (hd j (by simpa [nameAt] using hi) (by simpa [nameAt] using hj)).elim
    | succ i => cases j with
      | zero => exact (hd i (by simpa [nameAt] using hj) (by simpa [nameAt] using hi)).elim
      | succ j => rw [nodup_names nm tl i j x (by simpa [nameAt] using hi) (by simpa [nameAt] using hj)]

theorem mem_zip : ∀ {xs : List Str} {vs : List Value} {j : Nat} {x : Str} {v : Value}, xs[j]? = some x → vs[j]? = some v → (x, v) ∈ xs.zip vs
  | x :: xs, v :: vs, 0, _, _, h1, h2 => by simp at h1 h2; subst h1 h2; simp
  | x :: xs, v :: vs, j + 1, _, _, h1, h2 => by
    simp only [List.zip_cons_cons, List.mem_cons]
    exact .inr (mem_zip (by simpa using h1) (by simpa using h2))
  | [], _, j, _, _, h1, h2 => by simp at h1
  | _ :: _, [], j, _, _, h1, h2 => by simp at h2
theorem zip_fst : ∀ (xs : List Str) (vs : List Value), vs.length = xs.length → (xs.zip vs).map (·.1) = xs
  | [], [], _ => rfl
  | x :: xs, v :: vs, h => by simp only [List.zip_cons_cons, List.map_cons]; rw [zip_fst xs vs (by simpa using h)]
  | [], _ :: _, h => by simp at h
  | _ :: _, [], h => by simp at h

noncomputable def retK (P : PV → Prop) (f : MFlow) (σ : List Slot) : Prop := match f with
  | .ret v => P v
  | .next => P .none
  | _ => False

theorem retK_ret {P : PV → Prop} {v : PV} {σ : List Slot} : retK P (.ret v) σ = P v := rfl
theorem retK_next {P : PV → Prop} {σ : List Slot} : retK P .next σ = P .none := rfl

section
variable {prog : Program} {w : World} {B : Heap} {mg mb : Str → Option Value} {Φ : Fenv} {d : Nat}

theorem fn_code (LL : Law prog w B mg mb) (hF : FnOK prog w B mg d Φ) {name : Str} {params : Arguments} {body : List Stmt} {scope : Scope} {pm cd doc : Value} {a : Addr} {o : Obj} {nm : List (Option Str)} {m : MS}
    (h2 : B.get? a = some o) (h3 : o.data = .func (Calls.docDef name params body scope pm cd doc)) (hcd : B.CodeRec cd name) (hok : fnOK scope params nm body m = true)
    (hbind : ∀ vs : List Value, vs.length = params.args.length → bindArgs (Calls.docDef name params body scope pm cd doc) ⟨vs, []⟩ = pure ((params.args.map (·.arg)).zip vs))
    {args : List PV} {P : PV → Prop} {A : Around} {s : Shared} {g : Ghost prog w} {vs : List Value} (hlen : args.length = params.args.length) (hm : execM Φ m (slots0 args (nm.length - args.length)) (retK P)) (hR : Room (d + 1) A) (hb : ∀ b o, B.get? b = some o → g b = some o) (kp : Keep g s.heap) (r : RepL g vs args) :
    codeAny (model prog w) A (.call (.ref a) ⟨vs, []⟩) (fun res s' => ∃ v, res = .ok (.ret v) ∧ Post s g P v s') s := by
  unfold fnOK at hok
  simp only [Bool.and_eq_true, beq_iff_eq, Bool.not_eq_true', List.all_eq_true, bne_iff_ne, ne_eq, decide_eq_true_eq, Bool.or_eq_true] at hok
  obtain ⟨⟨⟨⟨⟨⟨⟨⟨k1, k2⟩, k3⟩, k4⟩, k5⟩, k6⟩, k7⟩, k8⟩, k9⟩ := hok
  have hvl : vs.length = params.args.length := by rw [r.length, hlen]
  have up : ∀ b o, B.get? b = some o → s.heap.get? b = some o := fun b o e => kp b o (hb b o e)
  have hroom : A.depth < recursionLimit := by have := hR.depth; show A.depth < 1000; omega
  refine codeAny_call_function hroom (up _ _ h2) h3 k2 k3 rfl (hcd.keeps up) ?_
  rw [hbind vs hvl]
  refine wpAny_pure ?_
  have hkinds : ∀ x ∈ (params.args.map (·.arg)).zip vs, scope.names.lookup x.1 = some .local ∨ scope.names.lookup x.1 = some .cell := fun x hx => by
    have hx1 : x.1 ∈ params.args.map (·.arg) := by
      have := zip_fst (params.args.map (·.arg)) vs (by simpa using hvl)
      rw [← this]; exact List.mem_map_of_mem hx
    obtain ⟨ar, har, e⟩ := List.mem_map.mp hx1
    rw [← e]; exact k8 ar har
  refine wpAny_newFunctionEnv_cells k1 (fun x hx => ?_) fun env he s' hin => ?_
  · rcases hkinds x hx with h | h
    · exact .inl h
    · exact .inr ⟨h, cellsFrom_some _ _ _ (.inl h)⟩
  · have hkeep : ∀ b o, s.heap.get? b = some o → s'.heap.get? b = some o := hin.toInCall.keep
    have hL : env.locals = s.heap.objs.size := by rw [he]; rfl
    have hsc : env.scope = scope := by rw [he]; rfl
    have hko : ∀ x, env.kindOf x = scope.names.lookup x := fun x => by unfold Env.kindOf; rw [hsc]
    have fresh : ∀ b, s.heap.objs.size ≤ b → s.heap.get? b = Option.none := fun b hb => by
      cases e : s.heap.get? b with
      | none => rfl
      | some o => exact absurd (Heap.lt_size e) (Nat.not_lt.mpr hb)
    have gfresh : ∀ b, s.heap.objs.size ≤ b → g b = Option.none := fun b hb => by
      cases e : g b with
      | none => rfl
      | some o => have := kp b o e; rw [fresh b hb] at this; cases this
    have hcl : env.cells = cellsFrom (s.heap.objs.size + 1) scope.names [] := by rw [he]; rfl
    refine ⟨(LL.gnd.lim.keeps up).keeps hkeep, codeAny_func ?_⟩
    have I : SInv B scope nm env s g (fun b => s.heap.get? b) (slots0 args (nm.length - args.length)) g s' := by
      refine ⟨⟨hb, fun b o e => hkeep b o (kp b o e), by rw [he]; rfl, by rw [he]; rfl, by rw [hsc]; exact k1, fun x h => by rw [hko]; exact h, fun x h => by rw [hko]; exact h, fun x h => ?_, fun j x hx => ?_⟩,
        hin.toInCall.same, fun _ _ e => e, hkeep, Le.refl g, fun b h _ => h, ⟨_, hin.toInCall.ns⟩, gfresh _ (by rw [hL]; exact Nat.le_refl _), fresh _ (by rw [hL]; exact Nat.le_refl _), fun x c hc => ?_, fun x y c hx hy => name_of_addr hin.apart (mem_of_lookup hx) (mem_of_lookup hy), nodup_names nm k5⟩
      · rcases h with h | h
        · refine ⟨.inl (by rw [hko]; exact h), ?_⟩
          rw [hcl]; exact cellsFrom_some _ _ _ (.inl h)
        · exact absurd rfl (k4 _ (mem_of_lookup h))
      · unfold slots0
        by_cases hj : j < args.length
        · rw [getS_append_left _ _ _ (by simpa using hj)]
          have e1 : args[j]? = some args[j] := by simp [hj]
          rw [getS_val args j _ e1]
          obtain ⟨v, hv, rv⟩ := r.get j _ e1
          have hxa : (params.args.map (·.arg))[j]? = some x := by
            have h1 : nm[j]? = some (some x) := by
              unfold nameAt at hx
              rw [List.getD_eq_getElem?_getD] at hx
              cases e : nm[j]? with
              | none => rw [e] at hx; simp at hx
              | some o => rw [e] at hx; simp at hx; rw [hx]
            have h4 : (nm.take params.args.length)[j]? = some (some x) := by rw [List.getElem?_take_of_lt (by omega)]; exact h1
            rw [k6] at h4
            rw [List.getElem?_map] at h4 ⊢
            cases e : params.args[j]? with
            | none => rw [e] at h4; simp at h4
            | some ar => rw [e] at h4; simp at h4; simp [h4]
          have hmem := mem_zip hxa hv
          have hnd : (((params.args.map (·.arg)).zip vs).map (·.1)).Nodup := by rw [zip_fst _ _ (by simpa using hvl)]; exact k7
          refine ⟨v, ?_, rv⟩
          rcases hkinds _ hmem with h | h
          · exact .inl ⟨by rw [hko]; exact h, _, hin.toInCall.ns, bindL_get _ _ _ _ _ hnd hmem (by rw [hko]; exact h)⟩
          · have hc := cellsFrom_some (x := x) scope.names (s.heap.objs.size + 1) [] (.inl h)
            rw [← hcl] at hc
            obtain ⟨c, hc⟩ := Option.isSome_iff_exists.mp hc
            refine .inr ⟨.inl (by rw [hko]; exact h), c, hc, ?_⟩
            have := hin.cell x c hc
            rw [bindC_get _ _ _ _ _ hnd hmem (by rw [hko, h]; decide)] at this
            exact this
        · rw [getS_append_right _ _ _ (by simpa using hj), getS_no]; exact trivial
      · have hab := hin.above x c (mem_of_lookup hc)
        have hlt : s.heap.objs.size ≤ c := by rw [hL] at hab; exact Nat.le_of_lt hab
        exact ⟨⟨_, hin.cell x c hc⟩, gfresh _ hlt, fresh _ hlt, Nat.ne_of_gt hab⟩
    refine wpAny_mono ((sndS LL hF m).Bk (hR.deeper env) k9 (fun x h => by rw [hko]; exact h) I hm) (fun f s₂ h => ?_) fun e s₂ (h : False) => h.elim
    obtain ⟨g', σ', mf, I', fr, hq⟩ := h
    have S : Step s g s₂ g' := by
      obtain ⟨h', tk, rfl⟩ := I'.same
      refine ⟨⟨h', tk, rfl, I'.kk⟩, I'.le, fun b h1 h2 => ?_, I'.E.keep⟩
      cases e : s.heap.get? b with
      | none => rfl
      | some o => exact absurd (I'.gk b h1 (by show s.heap.get? b ≠ Option.none; rw [e]; simp)) h2
    cases fr with
    | next => exact ⟨_, rfl, g', _, S, .none, hq⟩
    | brk => exact hq.elim
    | cont => exact hq.elim
    | ret rv => exact ⟨_, rfl, g', _, S, rv, hq⟩

/-- one function more -/
noncomputable def addFn (Φ : Fenv) (f : String) (spec : List PV → (PV → Prop) → Prop) : Fenv where
  known := fun x => x = f ∨ Φ.known x
  run := fun x args P => (x = f ∧ spec args P) ∨ (x ≠ f ∧ Φ.known x ∧ Φ.run x args P)

/-- a function is known by what it tells -/
noncomputable def Has (Φ : Fenv) (f : String) (spec : List PV → (PV → Prop) → Prop) : Prop := Φ.known f ∧ ∀ args P, spec args P → Φ.run f args P
theorem Has.self (Φ : Fenv) (f : String) (spec : List PV → (PV → Prop) → Prop) : Has (addFn Φ f spec) f spec := ⟨.inl rfl, fun args P h => .inl ⟨rfl, h⟩⟩
theorem Has.next {Φ : Fenv} {f x : String} {spec sp : List PV → (PV → Prop) → Prop} (h : Has Φ x sp) (hne : x ≠ f) : Has (addFn Φ f spec) x sp := ⟨.inr h.1, fun args P hp => .inr ⟨hne, h.1, h.2 args P hp⟩⟩

noncomputable def noFn : Fenv := ⟨fun _ => False, fun _ _ _ => False⟩
theorem noFn_ok : FnOK prog w B mg d noFn := fun f h => h.elim

theorem addFn_ok (LL : Law prog w B mg mb) (hF : FnOK prog w B mg d Φ) {f : String} {spec : List PV → (PV → Prop) → Prop} {params : Arguments} {body : List Stmt} {scope : Scope} {pm cd doc : Value} {a : Addr} {o : Obj} {nm : List (Option Str)} {m : MS}
    (h1 : mg (Str.ofString f) = some (.ref a)) (h2 : B.get? a = some o) (h3 : o.data = .func (Calls.docDef (Str.ofString f) params body scope pm cd doc)) (hcd : B.CodeRec cd (Str.ofString f)) (hok : fnOK scope params nm body m = true)
    (hbind : ∀ vs : List Value, vs.length = params.args.length → bindArgs (Calls.docDef (Str.ofString f) params body scope pm cd doc) ⟨vs, []⟩ = pure ((params.args.map (·.arg)).zip vs))
    (hspec : ∀ args P, spec args P → args.length = params.args.length ∧ execM Φ m (slots0 args (nm.length - args.length)) (retK P)) : FnOK prog w B mg (d + 1) (addFn Φ f spec) := by
  intro x hx
  by_cases hxf : x = f
  · subst hxf
    refine ⟨a, o, _, h1, h2, h3, fun args P hp A E s g vs hR hb kp r => ?_⟩
    rcases hp with ⟨_, hp⟩ | ⟨hne, _⟩
    · obtain ⟨hl, hm⟩ := hspec args P hp
      refine wpAny_call (codeAny_mono (fn_code LL hF h2 h3 hcd hok hbind hl hm hR hb kp r) fun res s' h => ?_)
      obtain ⟨v, rfl, h⟩ := h
      exact h
    · exact absurd rfl hne
  · rcases hx with hx | hx
    · exact absurd hx hxf
    · obtain ⟨a', o', fd', e1, e2, e3, e4⟩ := hF.less x hx
      refine ⟨a', o', fd', e1, e2, e3, fun args P hp => ?_⟩
      rcases hp with ⟨e, _⟩ | ⟨_, _, hp⟩
      · exact absurd e hxf
      · exact e4 args P hp
end
end Mine
end part_W16
section part_W17
set_option Elab.async false
set_option maxRecDepth 10000
set_option linter.unusedVariables false
namespace Mine
open PySem PySem.W PyProof.Rows

theorem good_of {l : OpenLaw} {M : Model} {A : Around} {c : Code} {cl : Str → Option Addr} {mean : ExcName → Option Value} {args : List WData} {s₁ : Shared} {g : Ghost prog w} (hg : s₁.gens = #[])
    (h : codeAny M A c (fun res s' => ∃ v, res = .ok (.ret v) ∧ Post s₁ g (fun p => p = .bool true) v s') s₁) : codeAny M A c (GoodW l.row.claim cl mean args s₁) s₁ := by
  refine codeAny_mono h fun res s' h => ?_
  obtain ⟨v, rfl, g', p, S, r, rfl⟩ := h
  cases r
  obtain ⟨h', tk, rfl, hk⟩ := S.keeps
  exact ⟨.inl ⟨.bool true, .bool true, [], rfl, fun _ => rfl, .bool true, postW_of (by rfl) (w_eq_bool (w_res rfl) w_lit) rfl, fun _ => ⟨List.Pairwise.nil, fun _ h => nomatch h⟩⟩, hk, rfl, hg⟩

theorem ints_rep {h : Heap} : ∀ {vs : List Value} {ns : List Int}, IntsAre vs ns → RepL (prog := prog) (w := w) (fun b => h.get? b) vs (ns.map .int)
  | _, _, .nil => .nil
  | _, _, .cons n t r => .cons (.int n t) (ints_rep r)

theorem list_rep {h : Heap} {a : Addr} {vs : List Value} {ns : List Int} (hl : h.IsList a vs.toArray) (hi : IntsAre vs ns) : Rep (prog := prog) (w := w) (fun b => h.get? b) (.ref a) (.list (ns.map .int)) := by
  obtain ⟨o, ho, hc, n, hd⟩ := hl
  exact .list ho hc hd (ints_rep hi)

theorem law_of_top {p : Program} {loose : List Str} {mean : ExcName → Option Value} {mg mb : Str → Option Value} {h : Heap} {prog : Program} {w : World} (T : Top p loose mean mg mb h)
    (hfree : bltNames.all (fun n => !(startupNames.contains (Str.ofString n)) && !(loose.contains (Str.ofString n)) && !(((recsOf p).map (·.name)).contains (Str.ofString n)) && !(((litsOf p).map (·.1)).contains (Str.ofString n)) && !(((clssOf p loose).map (·.name)).contains (Str.ofString n))) = true) : Law prog w h mg mb := by
  refine ⟨⟨T.g, T.b, T.nolimit, T.builtins⟩, fun n hn => ?_⟩
  have := List.all_eq_true.mp hfree n hn
  simp only [Bool.and_eq_true, Bool.not_eq_true'] at this
  obtain ⟨⟨⟨⟨h1, h2⟩, h3⟩, h4⟩, h5⟩ := this
  have nc : ∀ {l : List Str} {x : Str}, l.contains x = false → x ∉ l := fun h hm => by rw [List.contains_eq_mem, decide_eq_false_iff_not] at h; exact h hm
  exact T.free _ (nc h1) (nc h2) (nc h3) (nc h4) (nc h5)

/-- the def at a place of the text -/
theorem fn_at {p : Program} {loose : List Str} {mean : ExcName → Option Value} {mg mb : Str → Option Value} {h : Heap} (T : Top p loose mean mg mb h) (i : Nat) {d : DefRec} (hd : (recsOf p)[i]? = some d) :
    ∃ a o pm code doc, mg d.name = some (.ref a) ∧ h.get? a = some o ∧ o.data = .func (Calls.docDef d.name d.params d.body d.scope pm code doc) ∧ h.CodeRec code d.name := T.fn d (List.mem_of_getElem? hd)
end Mine
end part_W17
section part_P1
set_option Elab.async false
set_option linter.unusedVariables false
namespace Mine
open PySem PySem.W PyProof.Rows

/-- what _rshift_nearest tells -/
noncomputable def rsn (x : Int) (n : Nat) : Int := x / 2 ^ n + (if 2 * (x % 2 ^ n) + x / 2 ^ n % 2 > 2 ^ n then 1 else 0)

theorem fdiv_pos {a b : Int} (h : 0 < b) : a.fdiv b = a / b := Int.fdiv_eq_ediv_of_nonneg _ (by omega)
theorem fmod_pos {a b : Int} (h : 0 < b) : a.fmod b = a % b := Int.fmod_eq_emod_of_nonneg _ (by omega)

noncomputable def nm_rshift_nearest : List (Option Str) := [some (Str.ofString "x"), some (Str.ofString "shift"), some (Str.ofString "b"), some (Str.ofString "q")]
noncomputable def m_rshift_nearest : MS :=
  (.cons (.swap [2, 3] (.tuple (.cons (.bin .LShift (.cint 1) (.var 1)) (.cons (.bin .RShift (.var 0) (.var 1)) .nil))))
    (.cons (.ret (.bin .Add (.var 3) (.cmp .Gt (.bin .Add (.bin .Mult (.cint 2) (.bin .BitAnd (.var 0) (.bin .Sub (.var 2) (.cint 1)))) (.bin .BitAnd (.var 3) (.cint 1))) (.var 2))))
    .nil))

noncomputable def sp_rshift (args : List PV) (P : PV → Prop) : Prop := ∃ (x n : Int), args = [.int x, .int n] ∧ 0 ≤ n ∧ n ≤ 100000000 ∧ P (.int (rsn x n.toNat))

/-- a for's turns, one after the other -/
theorem forGo_ind {body : List Slot → (MFlow → List Slot → Prop) → Prop} {j : Nat} {Q : MFlow → List Slot → Prop} (items : List PV) (Inv : Nat → List Slot → Prop)
    (hstep : ∀ i x σ (R : List Slot → Prop), items[i]? = some x → Inv i σ → (∀ σ', Inv (i + 1) σ' → R σ') → body (setS σ j (.val x)) (fun f σ' => turnK f σ' Q (R σ')))
    (hend : ∀ σ, Inv items.length σ → Q .next σ) : ∀ (n i : Nat) (σ : List Slot), n = items.length - i → i ≤ items.length → Inv i σ → forGo body j Q (items.drop i) σ
  | 0, i, σ, hn, hi, hI => by
    have : i = items.length := by omega
    subst this
    rw [List.drop_length]
    exact hend σ hI
  | n + 1, i, σ, hn, hi, hI => by
    have hlt : i < items.length := by omega
    rw [List.drop_eq_getElem_cons hlt]
    unfold forGo
    exact hstep i _ σ (fun σ' => forGo body j Q (items.drop (i + 1)) σ') (by simp [hlt]) hI fun σ' hI' => forGo_ind items Inv hstep hend n (i + 1) σ' (by omega) hlt hI'

theorem forGo_of {body : List Slot → (MFlow → List Slot → Prop) → Prop} {j : Nat} {Q : MFlow → List Slot → Prop} {items : List PV} {σ : List Slot} (Inv : Nat → List Slot → Prop) (h0 : Inv 0 σ)
    (hstep : ∀ i x σ (R : List Slot → Prop), items[i]? = some x → Inv i σ → (∀ σ', Inv (i + 1) σ' → R σ') → body (setS σ j (.val x)) (fun f σ' => turnK f σ' Q (R σ')))
    (hend : ∀ σ, Inv items.length σ → Q .next σ) : forGo body j Q items σ := by
  simpa using forGo_ind items Inv hstep hend _ 0 σ rfl (Nat.zero_le _) h0

theorem whileGo_ind {test : List Slot → (Bool → Prop) → Prop} {body : List Slot → (MFlow → List Slot → Prop) → Prop} {Q : MFlow → List Slot → Prop} (K : Nat) (Inv : Nat → List Slot → Prop)
    (hstep : ∀ i σ (R : List Slot → Prop), i < K → Inv i σ → (∀ σ', Inv (i + 1) σ' → R σ') → test σ (fun b => if b = true then body σ (fun f σ' => turnK f σ' Q (R σ')) else Q .next σ))
    (hend : ∀ σ (R : List Slot → Prop), Inv K σ → test σ (fun b => if b = true then body σ (fun f σ' => turnK f σ' Q (R σ')) else Q .next σ)) : ∀ (n i : Nat) (σ : List Slot), i + n = K → Inv i σ → whileGo test body Q (n + 1) σ
  | 0, i, σ, hi, hI => by
    have : i = K := by omega
    subst this
    unfold whileGo
    exact hend σ _ hI
  | n + 1, i, σ, hi, hI => by
    unfold whileGo
    exact hstep i σ _ (by omega) hI fun σ' h' => whileGo_ind K Inv hstep hend n (i + 1) σ' (by omega) h'

theorem whileGo_of {test : List Slot → (Bool → Prop) → Prop} {body : List Slot → (MFlow → List Slot → Prop) → Prop} {Q : MFlow → List Slot → Prop} {σ : List Slot} (K : Nat) (Inv : Nat → List Slot → Prop) (h0 : Inv 0 σ)
    (hstep : ∀ i σ (R : List Slot → Prop), i < K → Inv i σ → (∀ σ', Inv (i + 1) σ' → R σ') → test σ (fun b => if b = true then body σ (fun f σ' => turnK f σ' Q (R σ')) else Q .next σ))
    (hend : ∀ σ (R : List Slot → Prop), Inv K σ → test σ (fun b => if b = true then body σ (fun f σ' => turnK f σ' Q (R σ')) else Q .next σ)) : ∃ n, whileGo test body Q n σ :=
  ⟨K + 1, whileGo_ind K Inv hstep hend K 0 σ (by omega) h0⟩
end Mine
end part_P1
section part_P3
set_option Elab.async false
set_option linter.unusedVariables false
namespace Mine
open PySem PySem.W PyProof.Rows

/-- what _div_nearest tells -/
noncomputable def dn (a b : Int) : Int := a / b + (if 2 * (a % b) + a / b % 2 > b then 1 else 0)
noncomputable def dueI (a b off : Int) : Int :=
  if 2 * a % b = 0 ∧ 2 * a / b % 2 = 1 then (if off = 0 then 2 * ((2 * a / b + 1) / 4) else 2 * a / b / 2 + (if 0 < a * off then 1 else 0)) else dn a b

theorem noPylong9 {x y : Int} (h : y.natAbs < 2 ^ 9000) : Builtin.divisionGoesByPylong x y = false := by
  refine PyProof.noPylong_of_log2 ?_
  by_cases h0 : y.natAbs = 0
  · rw [h0]; decide
  · exact (Nat.log2_lt h0).mpr h
end Mine
end part_P3
section part_P4
set_option Elab.async false
set_option linter.unusedVariables false
set_option linter.unusedSimpArgs false
namespace Mine
open PySem PySem.W PyProof.Rows PySem.NumText

theorem absI (a : Int) : (if a < 0 then -a else a) = (a.natAbs : Int) := by split <;> omega
theorem bits_le {x : Int} {k : Nat} (h : x.natAbs < 2 ^ k) : bits x ≤ k := intBits_le_iff.mpr h
/-- the figures of a number, from the last on -/
noncomputable def rd (n : Nat) : List Nat := if h : n < 10 then [48 + n] else (48 + n % 10) :: rd (n / 10)
termination_by n
decreasing_by omega
noncomputable def dg (n : Nat) : List Nat := (rd n).reverse
theorem rd_lt {n : Nat} (h : n < 10) : rd n = [48 + n] := by rw [rd, dif_pos h]
theorem rd_ge {n : Nat} (h : ¬ n < 10) : rd n = (48 + n % 10) :: rd (n / 10) := by rw [rd, dif_neg h]
theorem digit_nat : ∀ d : Nat, d < 10 → (Nat.digitChar d).toNat = 48 + d := by decide
theorem dg_digits (n : Nat) : (Nat.toDigits 10 n).map Char.toNat = dg n := by
  induction n using Nat.strongRecOn with
  | _ n ih =>
    unfold dg
    by_cases h : n < 10
    · rw [rd_lt h, Nat.toDigits_of_lt_base h]
      simp [digit_nat n h]
    · have hm : n % 10 < 10 := Nat.mod_lt n (by decide)
      have t : Nat.toDigits 10 (n / 10) ++ Nat.toDigits 10 (n % 10) = Nat.toDigits 10 (10 * (n / 10) + n % 10) := Nat.toDigits_append_toDigits (by decide) (by omega) hm
      rw [Nat.div_add_mod] at t
      rw [← t, List.map_append, ih (n / 10) (by omega), rd_ge h, List.reverse_cons, Nat.toDigits_of_lt_base hm]
      simp [digit_nat _ hm, dg]
theorem decS_nat (n : Nat) : decS (n : Int) = dg n := by
  unfold decS
  rw [KIN.signs_num, dg_digits]
theorem rd_ne (n : Nat) : rd n ≠ [] := by
  by_cases h : n < 10
  · rw [rd_lt h]; simp
  · rw [rd_ge h]; simp
theorem dg_ne (n : Nat) : dg n ≠ [] := by unfold dg; simpa using rd_ne n
theorem rd_all (n : Nat) : ∀ c ∈ rd n, 48 ≤ c ∧ c ≤ 57 := by
  induction n using Nat.strongRecOn with
  | _ n ih =>
    intro c hc
    by_cases h : n < 10
    · rw [rd_lt h] at hc; simp at hc; omega
    · rw [rd_ge h] at hc
      rcases List.mem_cons.mp hc with rfl | hc
      · omega
      · exact ih _ (by omega) c hc
theorem dg_all (n : Nat) : ∀ c ∈ dg n, 48 ≤ c ∧ c ≤ 57 := fun c hc => rd_all n c (by simpa [dg] using hc)
/-- n has at most k figures -/
theorem rd_len (k : Nat) : ∀ n, n < 10 ^ k → 0 < k → (rd n).length ≤ k := by
  induction k with
  | zero => intro n _ h; omega
  | succ k ih =>
    intro n hn _
    by_cases h : n < 10
    · rw [rd_lt h]; simp
    · rw [rd_ge h, List.length_cons]
      have hk : 0 < k := by
        rcases Nat.eq_zero_or_pos k with h0 | h0
        · subst h0; simp at hn; omega
        · exact h0
      have := ih (n / 10) (by rw [Nat.pow_succ] at hn; omega) hk
      omega
theorem rd_len_ge (k : Nat) : ∀ n, 10 ^ k ≤ n → k < (rd n).length := by
  induction k with
  | zero => intro n _; exact List.length_pos_iff.mpr (rd_ne n)
  | succ k ih =>
    intro n hn
    have h10 : 10 ≤ n := by
      have : 0 < 10 ^ k := Nat.pow_pos (by decide)
      rw [Nat.pow_succ] at hn; omega
    rw [rd_ge (by omega), List.length_cons]
    have := ih (n / 10) (by rw [Nat.pow_succ] at hn; omega)
    omega
theorem dg_len {k n : Nat} (h : n < 10 ^ k) (hk : 0 < k) : (dg n).length ≤ k := by unfold dg; rw [List.length_reverse]; exact rd_len k n h hk
theorem dg_len_ge {k n : Nat} (h : 10 ^ k ≤ n) : k < (dg n).length := by unfold dg; rw [List.length_reverse]; exact rd_len_ge k n h

/-- what figures are worth -/
noncomputable def worth (l : List Nat) : Nat := l.foldl (fun a c => 10 * a + (c - 48)) 0
theorem worth_from (l : List Nat) (a : Nat) : l.foldl (fun a c => 10 * a + (c - 48)) a = a * 10 ^ l.length + worth l := by
  induction l generalizing a with
  | nil => simp [worth]
  | cons c l ih =>
    unfold worth
    rw [List.foldl_cons, List.foldl_cons, ih, ih (10 * 0 + (c - 48)), List.length_cons, Nat.pow_succ, Nat.add_mul, Nat.add_mul]
    have : 10 * a * 10 ^ l.length = a * (10 ^ l.length * 10) := by rw [Nat.mul_comm 10 a, Nat.mul_assoc, Nat.mul_comm 10]
    omega
theorem worth_append (a b : List Nat) : worth (a ++ b) = worth a * 10 ^ b.length + worth b := by
  conv => lhs; unfold worth
  rw [List.foldl_append, worth_from]; rfl
theorem worth_one (c : Nat) : worth [c] = c - 48 := by simp [worth]
theorem worth_dg (n : Nat) : worth (dg n) = n := by
  induction n using Nat.strongRecOn with
  | _ n ih =>
    by_cases h : n < 10
    · unfold dg; rw [rd_lt h]; simp [worth]
    · have hi := ih (n / 10) (by omega)
      unfold dg at hi ⊢
      rw [rd_ge h, List.reverse_cons, worth_append, hi, worth_one]
      simp; omega
theorem worth_zeros (k : Nat) : worth (List.replicate k 48) = 0 := by
  induction k with
  | zero => rfl
  | succ k ih => rw [List.replicate_succ', worth_append, ih, worth_one]; simp
theorem worth_lt (l : List Nat) (h : ∀ c ∈ l, 48 ≤ c ∧ c ≤ 57) : worth l < 10 ^ l.length := by
  induction l with
  | nil => simp [worth]
  | cons c l ih =>
    have := ih fun x hx => h x (List.mem_cons_of_mem _ hx)
    rw [show c :: l = [c] ++ l from rfl, worth_append, worth_one]
    have hc := h c List.mem_cons_self
    simp only [List.length_append, List.length_singleton, Nat.pow_add, Nat.pow_one]
    have : (c - 48) * 10 ^ l.length ≤ 9 * 10 ^ l.length := Nat.mul_le_mul_right _ (by omega)
    omega

/-- how many noughts end a number -/
theorem tz_rd (k : Nat) : ∀ n, 0 < n → (k ≤ ((rd n).takeWhile (fun c => [48].contains c)).length ↔ 10 ^ k ∣ n) := by
  induction k with
  | zero => intro n _; simp
  | succ k ih =>
    intro n hn
    by_cases h0 : n % 10 = 0
    · have h : ¬ n < 10 := by omega
      rw [rd_ge h, h0, List.takeWhile_cons]
      have h48 : [48].contains (48 + 0) = true := rfl
      rw [if_pos h48, List.length_cons]
      have := ih (n / 10) (by omega)
      constructor
      · intro hk
        obtain ⟨q, hq⟩ := this.mp (by omega)
        refine ⟨q, ?_⟩
        have e : n = 10 * (n / 10) := by omega
        rw [e, hq, Nat.pow_succ, Nat.mul_comm (10 ^ k) 10, Nat.mul_assoc]
      · rintro ⟨q, hq⟩
        have : 10 ^ k ∣ n / 10 := ⟨q, by rw [hq, Nat.pow_succ, Nat.mul_comm (10 ^ k) 10, Nat.mul_assoc, Nat.mul_div_cancel_left _ (by decide)]⟩
        have := (ih (n / 10) (by omega)).mpr this
        omega
    · have hno : ¬ 10 ^ (k + 1) ∣ n := by
        rintro ⟨q, hq⟩
        apply h0
        rw [hq, Nat.pow_succ, Nat.mul_comm (10 ^ k) 10, Nat.mul_assoc, Nat.mul_mod_right]
      have : (rd n).takeWhile (fun c => [48].contains c) = [] := by
        have hc : ([48].contains (48 + n % 10)) = false := by simp; omega
        by_cases h : n < 10
        · rw [rd_lt h, List.takeWhile_cons]
          have : 48 + n = 48 + n % 10 := by omega
          rw [this, hc]; simp
        · rw [rd_ge h, List.takeWhile_cons, hc]; simp
      rw [this]
      simp only [List.length_nil, hno, iff_false]; omega
theorem drop_take_len (l : List Nat) (p : Nat → Bool) : (l.dropWhile p).length + (l.takeWhile p).length = l.length := by
  induction l with
  | nil => rfl
  | cons a l ih =>
    rw [List.dropWhile_cons, List.takeWhile_cons]
    split <;> simp <;> omega
theorem tz_dg (k n : Nat) (hn : 0 < n) : (k : Int) ≤ ((dg n).length : Int) - ((rstripS (dg n) [48]).length : Int) ↔ 10 ^ k ∣ n := by
  rw [← tz_rd k n hn]
  have h := drop_take_len (rd n) (fun c => [48].contains c)
  unfold rstripS dg
  rw [List.reverse_reverse, List.length_reverse, List.length_reverse]
  omega
theorem rstrip_len (x y : List Nat) : (rstripS x y).length ≤ x.length := by
  have h := drop_take_len x.reverse (fun c => y.contains c)
  unfold rstripS
  rw [List.length_reverse] at h ⊢
  omega

theorem noPylong_l {x y : Int} (h : x.natAbs.log2 < 13000) : Builtin.divisionGoesByPylong x y = false := by
  unfold Builtin.divisionGoesByPylong
  simp only [Bool.and_eq_false_iff, decide_eq_false_iff_not, Nat.not_lt, gt_iff_lt]
  by_cases hx : x = 0
  · right; simp [hx]
  · by_cases hy : y = 0
    · left; simp [hy]
    · by_cases h1 : y.natAbs.log2 / 30 + 1 ≤ 300
      · left; simp [hy]; omega
      · right; simp [hx, hy]; omega
theorem decS_len {a : Int} (h : a.natAbs.log2 < 1920) : (decS a).length ≤ 1921 := by
  have := int_text_length_le (a := a) (k := 1920) (by decide) h
  unfold decS
  rw [signs_ofString, List.length_map, String.length_toList]
  exact this

noncomputable def nm_decimal_lshift_exact : List (Option Str) := [some (Str.ofString "n"), some (Str.ofString "e"), some (Str.ofString "str_n"), some (Str.ofString "val_n")]
noncomputable def m_decimal_lshift_exact : MS :=
  (.cons (.ifs (.cmp .Eq (.var 0) (.cint 0)) (.cons (.ret (.cint 0))
    .nil) (.cons (.ifs (.cmp .GtE (.var 1) (.cint 0)) (.cons (.ret (.bin .Mult (.var 0) (.bin .Pow (.cint 10) (.var 1))))
    .nil) (.cons (.assign 2 (.blt .str (.cons (.blt .abs (.cons (.var 0) .nil)) .nil)))
    (.cons (.assign 3 (.bin .Sub (.blt .len (.cons (.var 2) .nil)) (.blt .len (.cons (.meth "rstrip" (.var 2) (.cstr [48])) .nil))))
    (.cons (.ret (.ite (.cmp .Lt (.var 3) (.neg (.var 1))) .cnone (.bin .FloorDiv (.var 0) (.bin .Pow (.cint 10) (.neg (.var 1))))))
    .nil))))
    .nil))
    .nil)
noncomputable def nm_div_nearest : List (Option Str) := [some (Str.ofString "a"), some (Str.ofString "b"), some (Str.ofString "q"), some (Str.ofString "r")]
noncomputable def m_div_nearest : MS :=
  (.cons (.unpack [2, 3] (.blt .divmod (.cons (.var 0) (.cons (.var 1) .nil))))
    (.cons (.ret (.bin .Add (.var 2) (.cmp .Gt (.bin .Add (.bin .Mult (.cint 2) (.var 3)) (.bin .BitAnd (.var 2) (.cint 1))) (.var 1))))
    .nil))

noncomputable def dlsV (n e : Int) : PV := if 0 ≤ e then .int (n * 10 ^ e.toNat) else if (10 : Int) ^ (-e).toNat ∣ n then .int (n / 10 ^ (-e).toNat) else .none
noncomputable def sp_dls (args : List PV) (P : PV → Prop) : Prop := ∃ n e : Int, args = [.int n, .int e] ∧ -10000 ≤ e ∧ e ≤ 10000 ∧ (0 ≤ e → IntMulOk n (10 ^ e.toNat)) ∧ (e < 0 → n.natAbs.log2 < 1920) ∧ P (dlsV n e)
theorem dls_ok (Φ : Fenv) (args : List PV) (P : PV → Prop) (h : sp_dls args P) : args.length = 2 ∧ execM Φ m_decimal_lshift_exact (slots0 args (nm_decimal_lshift_exact.length - args.length)) (retK P) := by
  obtain ⟨n, e, rfl, h0, h1, h2, h3, hP⟩ := h
  refine ⟨rfl, ?_⟩
  simp only [m_decimal_lshift_exact, nm_decimal_lshift_exact, slots0, List.map, List.length, List.replicate, List.cons_append, List.nil_append]
  simp only [↓execM, ↓evalM, ↓evalL, ↓truthM, ↓allM, ↓boolM, ↓testM, ↓getS, ↓setS, ↓setMany, ↓retK_ret, ↓retK_next, ↓useS_val, ↓ownS_own, ↓negK_int, ↓tupK_tuple, ↓tupK_list, ↓intsK_int, ↓truthK_none, ↓truthK_bool, ↓truthK_int, ↓truthK_str, ↓itemsK_list, ↓itemsK_range, ↓itemsK_str, ↓partK_none, ↓partK_int, ↓sliceM_list, ↓sliceM_str, ↓itemM_list, ↓itemM_str, ↓itemM_dict, ↓strK_str, ↓methM_rstrip, ↓methM_join, ↓bltM_abs, ↓bltM_len, ↓bltM_range, ↓bltM_max, ↓bltM_divmod, ↓bltM_range2, ↓bltM_lenS, ↓bltM_str, ↓bltM_intS, ↓bltM_intB, ↓bltM_ord, ↓bltM_sum, ↓bltM_list, ↓bltM_maxL, ↓binM_Add, ↓binM_Sub, ↓binM_Mult, ↓binM_FloorDiv, ↓binM_Mod, ↓binM_Pow, ↓binM_LShift, ↓binM_RShift, ↓binM_BitAnd, ↓binM_AddB, ↓binM_AddS, ↓binM_AddL, ↓binM_MultS, ↓cmpM_Eq, ↓cmpM_EqL, ↓cmpM_NotEqL, ↓cmpM_EqB, ↓cmpM_NotEqB, ↓cmpM_EqS, ↓cmpM_NotEqS, ↓cmpM_EqNN, ↓cmpM_EqNI, ↓cmpM_EqIN, ↓cmpM_NotEqNN, ↓cmpM_NotEqNI, ↓cmpM_NotEqIN, ↓cmpM_InS, ↓cmpM_NotInS, ↓cmpM_LtS, ↓cmpM_GtS, ↓cmpM_IsNN, ↓cmpM_IsIN, ↓cmpM_IsNotNN, ↓cmpM_IsNotIN, ↓cmpM_InL, ↓cmpM_NotInL, ↓cmpM_NotEq, ↓cmpM_Lt, ↓cmpM_LtE, ↓cmpM_Gt, ↓cmpM_GtE, ↓turnK_next, ↓turnK_cont, ↓turnK_brk, ↓turnK_ret, ↓seqK_next, ↓seqK_cont, ↓seqK_brk, ↓seqK_ret, ↓stops_And, ↓stops_Or, ↓List.reverse_cons, ↓List.reverse_nil, ↓List.nil_append, ↓List.cons_append]
  by_cases hn : n = 0
  · subst hn
    simp only [beq_self_eq_true, if_true]
    unfold dlsV at hP
    split at hP
    · simpa using hP
    · rw [if_pos (Int.dvd_zero _)] at hP
      simpa using hP
  · have hn0 : (n == 0) = false := by simpa using hn
    have hb : (bits 10 : Int) = 4 := by decide
    simp only [hn0, Bool.false_eq_true, if_false]
    by_cases he : 0 ≤ e
    · have hd : decide (0 ≤ e) = true := by simpa using he
      simp only [hd, if_true]
      unfold dlsV at hP
      rw [if_pos he] at hP
      exact ⟨he, by rw [hb]; omega, h2 he, hP⟩
    · have hd : decide (0 ≤ e) = false := by simpa using he
      simp only [hd, Bool.false_eq_true, if_false]
      have hl := h3 (by omega)
      rw [absI, decS_nat]
      have hlen : (dg n.natAbs).length ≤ 1921 := by
        have := decS_len (a := (n.natAbs : Int)) (by simpa using hl)
        rwa [decS_nat] at this
      have hrl := rstrip_len (dg n.natAbs) [48]
      refine ⟨by simpa using hl, by omega, by omega, by omega, ?_⟩
      have key := tz_dg (-e).toNat n.natAbs (by omega)
      have hcast : (((-e).toNat : Nat) : Int) = -e := by omega
      rw [hcast] at key
      have hdv : (10 : Int) ^ (-e).toNat ∣ n ↔ 10 ^ (-e).toNat ∣ n.natAbs := by
        rw [← Int.natAbs_dvd_natAbs, Int.natAbs_pow]; rfl
      have hpos : (0 : Int) < 10 ^ (-e).toNat := Int.pow_pos (by decide)
      unfold dlsV at hP
      rw [if_neg he] at hP
      by_cases hc : 10 ^ (-e).toNat ∣ n.natAbs
      · rw [if_pos (hdv.mpr hc)] at hP
        have := key.mpr hc
        have hd : decide ((((dg n.natAbs).length : Nat) : Int) - (((rstripS (dg n.natAbs) [48]).length : Nat) : Int) < -e) = false := by
          rw [decide_eq_false_iff_not]; omega
        rw [hd, if_neg (by decide)]
        rw [fdiv_pos hpos]
        exact ⟨by omega, by rw [hb]; omega, Int.ne_of_gt hpos, noPylong_l (by omega), hP⟩
      · rw [if_neg (fun h => hc (hdv.mp h))] at hP
        have hd : decide ((((dg n.natAbs).length : Nat) : Int) - (((rstripS (dg n.natAbs) [48]).length : Nat) : Int) < -e) = true := by
          rw [decide_eq_true_eq]
          have := mt key.mp hc
          omega
        rw [hd, if_pos rfl]
        exact hP

noncomputable def sp_div (args : List PV) (P : PV → Prop) : Prop := ∃ a b : Int, args = [.int a, .int b] ∧ 0 < b ∧ Builtin.divisionGoesByPylong a b = false ∧ P (.int (dn a b))
end Mine
end part_P4
section part_P5
set_option Elab.async false
set_option linter.unusedVariables false
set_option linter.unusedSimpArgs false
namespace Mine
open PySem PySem.W PyProof.Rows
noncomputable def nm_format_align : List (Option Str) := [some (Str.ofString "sign"), some (Str.ofString "body"), some (Str.ofString "spec"), some (Str.ofString "minimumwidth"), some (Str.ofString "fill"), some (Str.ofString "padding"), some (Str.ofString "align"), some (Str.ofString "result"), some (Str.ofString "half")]
noncomputable def m_format_align_k1 : MS :=
  (.cons (.ret (.var 7))
    .nil)
noncomputable def m_format_align : MS :=
  (.cons (.assign 3 (.item (.var 2) (.cstr [109, 105, 110, 105, 109, 117, 109, 119, 105, 100, 116, 104])))
    (.cons (.assign 4 (.item (.var 2) (.cstr [102, 105, 108, 108])))
    (.cons (.assign 5 (.bin .Mult (.var 4) (.bin .Sub (.bin .Sub (.var 3) (.blt .len (.cons (.var 0) .nil))) (.blt .len (.cons (.var 1) .nil)))))
    (.cons (.assign 6 (.item (.var 2) (.cstr [97, 108, 105, 103, 110])))
    (.cons (.ifs (.cmp .Eq (.var 6) (.cstr [60])) (.cons (.assign 7 (.bin .Add (.bin .Add (.var 0) (.var 1)) (.var 5)))
    .nil) (.cons (.ifs (.cmp .Eq (.var 6) (.cstr [62])) (.cons (.assign 7 (.bin .Add (.bin .Add (.var 5) (.var 0)) (.var 1)))
    .nil) (.cons (.ifs (.cmp .Eq (.var 6) (.cstr [61])) (.cons (.assign 7 (.bin .Add (.bin .Add (.var 0) (.var 5)) (.var 1)))
    .nil) (.cons (.ifs (.cmp .Eq (.var 6) (.cstr [94])) (.cons (.assign 8 (.bin .FloorDiv (.blt .len (.cons (.var 5) .nil)) (.cint 2)))
    (.cons (.assign 7 (.bin .Add (.bin .Add (.bin .Add (.slice (.var 5) .absent (.var 8)) (.var 0)) (.var 1)) (.slice (.var 5) (.var 8) .absent)))
    .nil)) (.cons .hole
    .nil))
    .nil))
    .nil))
    .nil))
    m_format_align_k1)))))
noncomputable def nm_format_sign : List (Option Str) := [some (Str.ofString "is_negative"), some (Str.ofString "spec")]
noncomputable def m_format_sign : MS :=
  (.cons (.ifs (.var 0) (.cons (.ret (.cstr [45]))
    .nil) (.cons (.ifs (.cmp .In (.item (.var 1) (.cstr [115, 105, 103, 110])) (.cstr [32, 43])) (.cons (.ret (.item (.var 1) (.cstr [115, 105, 103, 110])))
    .nil) (.cons (.ret (.cstr []))
    .nil))
    .nil))
    .nil)
abbrev kMw : List Nat := [109, 105, 110, 105, 109, 117, 109, 119, 105, 100, 116, 104]
abbrev kFill : List Nat := [102, 105, 108, 108]
abbrev kAlign : List Nat := [97, 108, 105, 103, 110]
abbrev kSign : List Nat := [115, 105, 103, 110]
noncomputable def ah (al N : Nat) : Nat := if al = 62 then N else if al = 94 then N / 2 else 0
noncomputable def bt (al N : Nat) : Nat := if al = 61 then N else 0
noncomputable def bh (al N : Nat) : Nat := if al = 60 then N else if al = 94 then N - N / 2 else 0
noncomputable def fa (sign body : List Nat) (c al N : Nat) : List Nat := List.replicate (ah al N) c ++ (sign ++ (List.replicate (bt al N) c ++ (body ++ List.replicate (bh al N) c)))
theorem rep_is (c n : Nat) : (List.replicate n [c]).flatten = List.replicate n c := by
  induction n with
  | zero => rfl
  | succ n ih => rw [List.replicate_succ, List.flatten_cons, ih]; rfl
theorem cutN_hi {α : Type} (xs : List α) (n : Nat) : cut xs Option.none (some (n : Int)) = xs.take n := by
  unfold cut kms_lo kms_hi
  simp only
  rw [if_neg (by omega), Int.toNat_natCast, List.drop_zero, Nat.sub_zero]
  by_cases h : n ≤ xs.length
  · rw [Nat.min_eq_left h]
  · rw [Nat.min_eq_right (by omega), List.take_of_length_le (Nat.le_refl _), List.take_of_length_le (by omega)]
theorem cutN_lo {α : Type} (xs : List α) (n : Nat) : cut xs (some (n : Int)) Option.none = xs.drop n := by
  unfold cut kms_lo kms_hi
  simp only
  rw [if_neg (by omega), Int.toNat_natCast]
  by_cases h : n ≤ xs.length
  · rw [Nat.min_eq_left h]; exact List.take_of_length_le (by simp)
  · rw [Nat.min_eq_right (by omega), List.drop_eq_nil_of_le (Nat.le_refl _), List.drop_eq_nil_of_le (by omega)]; simp
noncomputable def sp_fa (args : List PV) (P : PV → Prop) : Prop := ∃ (sign body : List Nat) (kvs : List (List Nat × PV)) (w : Int) (c al : Nat), args = [.str sign, .str body, .dict kvs] ∧ dget kMw kvs = some (.int w) ∧ dget kFill kvs = some (.str [c]) ∧ dget kAlign kvs = some (.str [al]) ∧
  (al = 60 ∨ al = 62 ∨ al = 61 ∨ al = 94) ∧ sign.length ≤ 10000 ∧ body.length ≤ 10000 ∧ w ≤ 10000 ∧ -10000 ≤ w ∧ P (.str (fa sign body c al (w - sign.length - body.length).toNat))
theorem fa_ok (Φ : Fenv) (args : List PV) (P : PV → Prop) (h : sp_fa args P) : args.length = 3 ∧ execM Φ m_format_align (slots0 args (nm_format_align.length - args.length)) (retK P) := by
  obtain ⟨sign, body, kvs, w, c, al, rfl, hw, hf, ha, hal, ls, lb, lw, lw', hP⟩ := h
  refine ⟨rfl, ?_⟩
  simp only [m_format_align, nm_format_align, m_format_align_k1, slots0, List.map, List.length, List.replicate, List.cons_append, List.nil_append]
  simp only [↓execM, ↓evalM, ↓evalL, ↓truthM, ↓allM, ↓boolM, ↓testM, ↓getS, ↓setS, ↓setMany, ↓retK_ret, ↓retK_next, ↓useS_val, ↓ownS_own, ↓negK_int, ↓tupK_tuple, ↓tupK_list, ↓intsK_int, ↓truthK_none, ↓truthK_bool, ↓truthK_int, ↓truthK_str, ↓itemsK_list, ↓itemsK_range, ↓itemsK_str, ↓partK_none, ↓partK_int, ↓sliceM_list, ↓sliceM_str, ↓itemM_list, ↓itemM_str, ↓itemM_dict, ↓strK_str, ↓methM_rstrip, ↓methM_join, ↓bltM_abs, ↓bltM_len, ↓bltM_range, ↓bltM_max, ↓bltM_divmod, ↓bltM_range2, ↓bltM_lenS, ↓bltM_str, ↓bltM_intS, ↓bltM_intB, ↓bltM_ord, ↓bltM_sum, ↓bltM_list, ↓bltM_maxL, ↓binM_Add, ↓binM_Sub, ↓binM_Mult, ↓binM_FloorDiv, ↓binM_Mod, ↓binM_Pow, ↓binM_LShift, ↓binM_RShift, ↓binM_BitAnd, ↓binM_AddB, ↓binM_AddS, ↓binM_AddL, ↓binM_MultS, ↓cmpM_Eq, ↓cmpM_EqL, ↓cmpM_NotEqL, ↓cmpM_EqB, ↓cmpM_NotEqB, ↓cmpM_EqS, ↓cmpM_NotEqS, ↓cmpM_EqNN, ↓cmpM_EqNI, ↓cmpM_EqIN, ↓cmpM_NotEqNN, ↓cmpM_NotEqNI, ↓cmpM_NotEqIN, ↓cmpM_InS, ↓cmpM_NotInS, ↓cmpM_LtS, ↓cmpM_GtS, ↓cmpM_IsNN, ↓cmpM_IsIN, ↓cmpM_IsNotNN, ↓cmpM_IsNotIN, ↓cmpM_InL, ↓cmpM_NotInL, ↓cmpM_NotEq, ↓cmpM_Lt, ↓cmpM_LtE, ↓cmpM_Gt, ↓cmpM_GtE, ↓turnK_next, ↓turnK_cont, ↓turnK_brk, ↓turnK_ret, ↓seqK_next, ↓seqK_cont, ↓seqK_brk, ↓seqK_ret, ↓stops_And, ↓stops_Or, ↓List.reverse_cons, ↓List.reverse_nil, ↓List.nil_append, ↓List.cons_append]
  refine ⟨_, hw, _, hf, ?_⟩
  simp only [↓execM, ↓evalM, ↓evalL, ↓truthM, ↓allM, ↓boolM, ↓testM, ↓getS, ↓setS, ↓setMany, ↓retK_ret, ↓retK_next, ↓useS_val, ↓ownS_own, ↓negK_int, ↓tupK_tuple, ↓tupK_list, ↓intsK_int, ↓truthK_none, ↓truthK_bool, ↓truthK_int, ↓truthK_str, ↓itemsK_list, ↓itemsK_range, ↓itemsK_str, ↓partK_none, ↓partK_int, ↓sliceM_list, ↓sliceM_str, ↓itemM_list, ↓itemM_str, ↓itemM_dict, ↓strK_str, ↓methM_rstrip, ↓methM_join, ↓bltM_abs, ↓bltM_len, ↓bltM_range, ↓bltM_max, ↓bltM_divmod, ↓bltM_range2, ↓bltM_lenS, ↓bltM_str, ↓bltM_intS, ↓bltM_intB, ↓bltM_ord, ↓bltM_sum, ↓bltM_list, ↓bltM_maxL, ↓binM_Add, ↓binM_Sub, ↓binM_Mult, ↓binM_FloorDiv, ↓binM_Mod, ↓binM_Pow, ↓binM_LShift, ↓binM_RShift, ↓binM_BitAnd, ↓binM_AddB, ↓binM_AddS, ↓binM_AddL, ↓binM_MultS, ↓cmpM_Eq, ↓cmpM_EqL, ↓cmpM_NotEqL, ↓cmpM_EqB, ↓cmpM_NotEqB, ↓cmpM_EqS, ↓cmpM_NotEqS, ↓cmpM_EqNN, ↓cmpM_EqNI, ↓cmpM_EqIN, ↓cmpM_NotEqNN, ↓cmpM_NotEqNI, ↓cmpM_NotEqIN, ↓cmpM_InS, ↓cmpM_NotInS, ↓cmpM_LtS, ↓cmpM_GtS, ↓cmpM_IsNN, ↓cmpM_IsIN, ↓cmpM_IsNotNN, ↓cmpM_IsNotIN, ↓cmpM_InL, ↓cmpM_NotInL, ↓cmpM_NotEq, ↓cmpM_Lt, ↓cmpM_LtE, ↓cmpM_Gt, ↓cmpM_GtE, ↓turnK_next, ↓turnK_cont, ↓turnK_brk, ↓turnK_ret, ↓seqK_next, ↓seqK_cont, ↓seqK_brk, ↓seqK_ret, ↓stops_And, ↓stops_Or, ↓List.reverse_cons, ↓List.reverse_nil, ↓List.nil_append, ↓List.cons_append]
  rw [rep_is]
  generalize hN : (w - sign.length - body.length).toNat = N at *
  have hN' : N ≤ 10000 := by omega
  refine ⟨by omega, by omega, by simp, by omega, by omega, _, ha, ?_⟩
  simp only [↓execM, ↓evalM, ↓evalL, ↓truthM, ↓allM, ↓boolM, ↓testM, ↓getS, ↓setS, ↓setMany, ↓retK_ret, ↓retK_next, ↓useS_val, ↓ownS_own, ↓negK_int, ↓tupK_tuple, ↓tupK_list, ↓intsK_int, ↓truthK_none, ↓truthK_bool, ↓truthK_int, ↓truthK_str, ↓itemsK_list, ↓itemsK_range, ↓itemsK_str, ↓partK_none, ↓partK_int, ↓sliceM_list, ↓sliceM_str, ↓itemM_list, ↓itemM_str, ↓itemM_dict, ↓strK_str, ↓methM_rstrip, ↓methM_join, ↓bltM_abs, ↓bltM_len, ↓bltM_range, ↓bltM_max, ↓bltM_divmod, ↓bltM_range2, ↓bltM_lenS, ↓bltM_str, ↓bltM_intS, ↓bltM_intB, ↓bltM_ord, ↓bltM_sum, ↓bltM_list, ↓bltM_maxL, ↓binM_Add, ↓binM_Sub, ↓binM_Mult, ↓binM_FloorDiv, ↓binM_Mod, ↓binM_Pow, ↓binM_LShift, ↓binM_RShift, ↓binM_BitAnd, ↓binM_AddB, ↓binM_AddS, ↓binM_AddL, ↓binM_MultS, ↓cmpM_Eq, ↓cmpM_EqL, ↓cmpM_NotEqL, ↓cmpM_EqB, ↓cmpM_NotEqB, ↓cmpM_EqS, ↓cmpM_NotEqS, ↓cmpM_EqNN, ↓cmpM_EqNI, ↓cmpM_EqIN, ↓cmpM_NotEqNN, ↓cmpM_NotEqNI, ↓cmpM_NotEqIN, ↓cmpM_InS, ↓cmpM_NotInS, ↓cmpM_LtS, ↓cmpM_GtS, ↓cmpM_IsNN, ↓cmpM_IsIN, ↓cmpM_IsNotNN, ↓cmpM_IsNotIN, ↓cmpM_InL, ↓cmpM_NotInL, ↓cmpM_NotEq, ↓cmpM_Lt, ↓cmpM_LtE, ↓cmpM_Gt, ↓cmpM_GtE, ↓turnK_next, ↓turnK_cont, ↓turnK_brk, ↓turnK_ret, ↓seqK_next, ↓seqK_cont, ↓seqK_brk, ↓seqK_ret, ↓stops_And, ↓stops_Or, ↓List.reverse_cons, ↓List.reverse_nil, ↓List.nil_append, ↓List.cons_append]
  have hr : (List.replicate N c).length = N := List.length_replicate
  rcases hal with rfl | rfl | rfl | rfl
  · rw [show (([60] : List Nat) == [60]) = true by decide, if_pos rfl]
    refine ⟨by omega, by rw [List.length_append, hr]; omega, ?_⟩
    have e : fa sign body c 60 N = sign ++ body ++ List.replicate N c := by simp [fa, ah, bt, bh]
    rw [e] at hP; exact hP
  · rw [show (([62] : List Nat) == [60]) = false by decide, if_neg (by decide), show (([62] : List Nat) == [62]) = true by decide, if_pos rfl]
    refine ⟨by omega, by rw [List.length_append, hr]; omega, ?_⟩
    have e : fa sign body c 62 N = List.replicate N c ++ sign ++ body := by simp [fa, ah, bt, bh]
    rw [e] at hP; exact hP
  · rw [show (([61] : List Nat) == [60]) = false by decide, if_neg (by decide), show (([61] : List Nat) == [62]) = false by decide, if_neg (by decide), show (([61] : List Nat) == [61]) = true by decide, if_pos rfl]
    refine ⟨by omega, by rw [List.length_append, hr]; omega, ?_⟩
    have e : fa sign body c 61 N = sign ++ List.replicate N c ++ body := by simp [fa, ah, bt, bh]
    rw [e] at hP; exact hP
  · rw [show (([94] : List Nat) == [60]) = false by decide, if_neg (by decide), show (([94] : List Nat) == [62]) = false by decide, if_neg (by decide), show (([94] : List Nat) == [61]) = false by decide, if_neg (by decide), show (([94] : List Nat) == [94]) = true by decide, if_pos rfl]
    rw [hr, fdiv_pos (by decide), show (N : Int) / 2 = ((N / 2 : Nat) : Int) by omega, cutN_hi, cutN_lo, List.take_replicate, List.drop_replicate, Nat.min_eq_left (by omega)]
    have e : fa sign body c 94 N = List.replicate (N / 2) c ++ sign ++ body ++ List.replicate (N - N / 2) c := by simp [fa, ah, bt, bh]
    rw [e] at hP
    refine ⟨by omega, by decide, noPylong9 (Nat.lt_of_lt_of_le (show (2 : Int).natAbs < 2 ^ 2 by decide) (Nat.pow_le_pow_right (by decide) (by decide))), by omega, by simp; omega, by simp; omega, by omega, by simp; omega, hP⟩
theorem fa_len (sign body : List Nat) (c al N : Nat) (hal : al = 60 ∨ al = 62 ∨ al = 61 ∨ al = 94) : ah al N + bt al N + bh al N = N ∧ (fa sign body c al N).length = sign.length + body.length + N := by
  have h : ah al N + bt al N + bh al N = N := by
    rcases hal with rfl | rfl | rfl | rfl <;> simp [ah, bt, bh]
    omega
  refine ⟨h, ?_⟩
  simp only [fa, List.length_append, List.length_replicate]
  omega

noncomputable def fs (neg : Bool) (c : Nat) : List Nat := if neg then [45] else if c = 32 ∨ c = 43 then [c] else []
noncomputable def sp_fs (args : List PV) (P : PV → Prop) : Prop := ∃ (neg : Bool) (kvs : List (List Nat × PV)) (c : Nat), (args = [.bool neg, .dict kvs] ∨ args = [.int (if neg then 1 else 0), .dict kvs]) ∧ dget kSign kvs = some (.str [c]) ∧ P (.str (fs neg c))
theorem fs_ok (Φ : Fenv) (args : List PV) (P : PV → Prop) (h : sp_fs args P) : args.length = 2 ∧ execM Φ m_format_sign (slots0 args (nm_format_sign.length - args.length)) (retK P) := by
  obtain ⟨neg, kvs, c, ha, hs, hP⟩ := h
  have key : ∀ v : PV, truthK v (fun b => b = neg) → (∀ K : Bool → Prop, K neg → truthK v K) → execM Φ m_format_sign (slots0 [v, .dict kvs] (nm_format_sign.length - [v, PV.dict kvs].length)) (retK P) := by
    intro v _ hv
    simp only [m_format_sign, nm_format_sign, slots0, List.map, List.length, List.replicate, List.cons_append, List.nil_append]
    simp only [↓execM, ↓evalM, ↓evalL, ↓truthM, ↓allM, ↓boolM, ↓testM, ↓getS, ↓setS, ↓setMany, ↓retK_ret, ↓retK_next, ↓useS_val, ↓ownS_own, ↓negK_int, ↓tupK_tuple, ↓tupK_list, ↓intsK_int, ↓truthK_none, ↓truthK_bool, ↓truthK_int, ↓truthK_str, ↓itemsK_list, ↓itemsK_range, ↓itemsK_str, ↓partK_none, ↓partK_int, ↓sliceM_list, ↓sliceM_str, ↓itemM_list, ↓itemM_str, ↓itemM_dict, ↓strK_str, ↓methM_rstrip, ↓methM_join, ↓bltM_abs, ↓bltM_len, ↓bltM_range, ↓bltM_max, ↓bltM_divmod, ↓bltM_range2, ↓bltM_lenS, ↓bltM_str, ↓bltM_intS, ↓bltM_intB, ↓bltM_ord, ↓bltM_sum, ↓bltM_list, ↓bltM_maxL, ↓binM_Add, ↓binM_Sub, ↓binM_Mult, ↓binM_FloorDiv, ↓binM_Mod, ↓binM_Pow, ↓binM_LShift, ↓binM_RShift, ↓binM_BitAnd, ↓binM_AddB, ↓binM_AddS, ↓binM_AddL, ↓binM_MultS, ↓cmpM_Eq, ↓cmpM_EqL, ↓cmpM_NotEqL, ↓cmpM_EqB, ↓cmpM_NotEqB, ↓cmpM_EqS, ↓cmpM_NotEqS, ↓cmpM_EqNN, ↓cmpM_EqNI, ↓cmpM_EqIN, ↓cmpM_NotEqNN, ↓cmpM_NotEqNI, ↓cmpM_NotEqIN, ↓cmpM_InS, ↓cmpM_NotInS, ↓cmpM_LtS, ↓cmpM_GtS, ↓cmpM_IsNN, ↓cmpM_IsIN, ↓cmpM_IsNotNN, ↓cmpM_IsNotIN, ↓cmpM_InL, ↓cmpM_NotInL, ↓cmpM_NotEq, ↓cmpM_Lt, ↓cmpM_LtE, ↓cmpM_Gt, ↓cmpM_GtE, ↓turnK_next, ↓turnK_cont, ↓turnK_brk, ↓turnK_ret, ↓seqK_next, ↓seqK_cont, ↓seqK_brk, ↓seqK_ret, ↓stops_And, ↓stops_Or, ↓List.reverse_cons, ↓List.reverse_nil, ↓List.nil_append, ↓List.cons_append]
    refine hv _ ?_
    cases neg with
    | true => rw [if_pos rfl]; exact hP
    | false =>
      rw [if_neg (by decide)]
      refine ⟨_, hs, ?_⟩
      simp only [↓execM, ↓evalM, ↓evalL, ↓truthM, ↓allM, ↓boolM, ↓testM, ↓getS, ↓setS, ↓setMany, ↓retK_ret, ↓retK_next, ↓useS_val, ↓ownS_own, ↓negK_int, ↓tupK_tuple, ↓tupK_list, ↓intsK_int, ↓truthK_none, ↓truthK_bool, ↓truthK_int, ↓truthK_str, ↓itemsK_list, ↓itemsK_range, ↓itemsK_str, ↓partK_none, ↓partK_int, ↓sliceM_list, ↓sliceM_str, ↓itemM_list, ↓itemM_str, ↓itemM_dict, ↓strK_str, ↓methM_rstrip, ↓methM_join, ↓bltM_abs, ↓bltM_len, ↓bltM_range, ↓bltM_max, ↓bltM_divmod, ↓bltM_range2, ↓bltM_lenS, ↓bltM_str, ↓bltM_intS, ↓bltM_intB, ↓bltM_ord, ↓bltM_sum, ↓bltM_list, ↓bltM_maxL, ↓binM_Add, ↓binM_Sub, ↓binM_Mult, ↓binM_FloorDiv, ↓binM_Mod, ↓binM_Pow, ↓binM_LShift, ↓binM_RShift, ↓binM_BitAnd, ↓binM_AddB, ↓binM_AddS, ↓binM_AddL, ↓binM_MultS, ↓cmpM_Eq, ↓cmpM_EqL, ↓cmpM_NotEqL, ↓cmpM_EqB, ↓cmpM_NotEqB, ↓cmpM_EqS, ↓cmpM_NotEqS, ↓cmpM_EqNN, ↓cmpM_EqNI, ↓cmpM_EqIN, ↓cmpM_NotEqNN, ↓cmpM_NotEqNI, ↓cmpM_NotEqIN, ↓cmpM_InS, ↓cmpM_NotInS, ↓cmpM_LtS, ↓cmpM_GtS, ↓cmpM_IsNN, ↓cmpM_IsIN, ↓cmpM_IsNotNN, ↓cmpM_IsNotIN, ↓cmpM_InL, ↓cmpM_NotInL, ↓cmpM_NotEq, ↓cmpM_Lt, ↓cmpM_LtE, ↓cmpM_Gt, ↓cmpM_GtE, ↓turnK_next, ↓turnK_cont, ↓turnK_brk, ↓turnK_ret, ↓seqK_next, ↓seqK_cont, ↓seqK_brk, ↓seqK_ret, ↓stops_And, ↓stops_Or, ↓List.reverse_cons, ↓List.reverse_nil, ↓List.nil_append, ↓List.cons_append]
      by_cases hc : c = 32 ∨ c = 43
      · have : decide (c ∈ [32, 43]) = true := by simpa using hc
        rw [this, if_pos rfl]
        refine ⟨_, hs, ?_⟩
        simp only [fs, Bool.false_eq_true, if_false, if_pos hc] at hP
        exact hP
      · have : decide (c ∈ [32, 43]) = false := by simpa using hc
        rw [this, if_neg (by decide)]
        simp only [fs, Bool.false_eq_true, if_false, if_neg hc] at hP
        exact hP
  rcases ha with rfl | rfl
  · exact ⟨rfl, key _ rfl fun K h => h⟩
  · refine ⟨rfl, key _ ?_ fun K h => ?_⟩
    · cases neg <;> rfl
    · cases neg <;> exact h
theorem fs_len (neg : Bool) (c : Nat) : (fs neg c).length ≤ 1 := by
  unfold fs
  split
  · simp
  · split <;> simp
end Mine
end part_P5
section part_P6
set_option Elab.async false
set_option linter.unusedVariables false
set_option linter.unusedSimpArgs false
namespace Mine
open PySem PySem.W PyProof.Rows PySem.NumText
noncomputable def nm_law_worth : List (Option Str) := [some (Str.ofString "figures"), some (Str.ofString "worth"), some (Str.ofString "figure")]
noncomputable def m_law_worth_b1 : MS :=
  (.cons (.ifs (.cmp .NotIn (.var 2) (.cstr [48, 49, 50, 51, 52, 53, 54, 55, 56, 57])) (.cons (.ret (.neg (.cint 1)))
    .nil) .nil)
    (.cons (.assign 1 (.bin .Sub (.bin .Add (.bin .Mult (.cint 10) (.var 1)) (.blt .ord (.cons (.var 2) .nil))) (.cint 48)))
    .nil))
noncomputable def m_law_worth : MS :=
  (.cons (.assign 1 (.cint 0))
    (.cons (.fors 2 (.var 0) m_law_worth_b1)
    (.cons (.ret (.var 1))
    .nil)))
theorem nat_le_mul {x y : Int} (hy : y ≠ 0) : x.natAbs ≤ (x * y).natAbs := by
  rw [Int.natAbs_mul]; exact Nat.le_mul_of_pos_right _ (by omega)
theorem log_bd {x : Int} {k n : Nat} (h : x.natAbs < 2 ^ k) (hk : k ≤ n) (h0 : 0 < n) : x.natAbs.log2 < n := by
  by_cases h1 : x.natAbs = 0
  · rw [h1]; show Nat.log2 0 < n; rw [Nat.log2_zero]; exact h0
  · exact (Nat.log2_lt h1).mpr (Nat.lt_of_lt_of_le h (Nat.pow_le_pow_right (by decide) hk))
theorem bd_mul {x y : Int} {m n : Nat} (hx : x.natAbs < 2 ^ m) (hy : y.natAbs < 2 ^ n) : (x * y).natAbs < 2 ^ (m + n) := by
  rw [Int.natAbs_mul, Nat.pow_add]
  exact Nat.mul_lt_mul_of_lt_of_lt hx hy
theorem bd_ten (k : Nat) : ((10 : Int) ^ k).natAbs < 2 ^ (4 * k + 1) := by
  rw [Int.natAbs_pow]
  show (10 : Nat) ^ k < _
  have h1 : (10 : Nat) ^ k ≤ 16 ^ k := Nat.pow_le_pow_left (by decide) k
  have h2 : (16 : Nat) ^ k = 2 ^ (4 * k) := by rw [Nat.pow_mul]
  rw [Nat.pow_succ]
  have : 0 < 2 ^ (4 * k) := Nat.pow_pos (by decide)
  omega
theorem bd_up {x : Int} {m n : Nat} (hx : x.natAbs < 2 ^ m) (h : m ≤ n) : x.natAbs < 2 ^ n := Nat.lt_of_lt_of_le hx (Nat.pow_le_pow_right (by decide) h)
theorem idx {α : Type} (xs : List α) {i : Int} (j : Nat) {v : α} (hij : i = (j : Int)) (h : xs[j]? = some v) : (if 0 ≤ i then xs[i.toNat]? else if -(xs.length : Int) ≤ i then xs[(i + xs.length).toNat]? else Option.none) = some v := by
  rw [hij, if_pos (by omega), Int.toNat_natCast]; exact h
theorem cutN {α : Type} (xs : List α) {i j : Nat} (hi : i ≤ j) (hj : j ≤ xs.length) : cut xs (some (i : Int)) (some (j : Int)) = (xs.drop i).take (j - i) := by
  unfold cut kms_lo kms_hi
  simp only
  rw [if_neg (by omega), if_neg (by omega), Int.toNat_natCast, Int.toNat_natCast, Nat.min_eq_left (by omega), Nat.min_eq_left (by omega)]
theorem fa_mid (s b : List Nat) (c al N : Nat) : ((fa s b c al N).drop (ah al N)).take s.length = s := by
  unfold fa
  rw [List.drop_left' List.length_replicate, List.take_left' rfl]
theorem fa_out (s b : List Nat) (c al N : Nat) : (fa s b c al N).take (ah al N) ++ (fa s b c al N).drop (ah al N + s.length) = List.replicate (ah al N) c ++ (List.replicate (bt al N) c ++ (b ++ List.replicate (bh al N) c)) := by
  unfold fa
  rw [List.take_left' List.length_replicate, ← List.append_assoc _ s, List.drop_left' (by rw [List.length_append, List.length_replicate])]

noncomputable def sp_wo (args : List PV) (P : PV → Prop) : Prop := ∃ l : List Nat, args = [.str l] ∧ l.length ≤ 200 ∧ (∀ c ∈ l, 48 ≤ c ∧ c ≤ 57) ∧ P (.int (worth l : Int))
theorem wo_ok (Φ : Fenv) (args : List PV) (P : PV → Prop) (h : sp_wo args P) : args.length = 1 ∧ execM Φ m_law_worth (slots0 args (nm_law_worth.length - args.length)) (retK P) := by
  obtain ⟨l, rfl, hl, hd, hP⟩ := h
  refine ⟨rfl, ?_⟩
  simp only [m_law_worth, nm_law_worth, slots0, List.map, List.length, List.replicate, List.cons_append, List.nil_append]
  simp only [↓execM, ↓evalM, ↓evalL, ↓truthM, ↓allM, ↓boolM, ↓testM, ↓getS, ↓setS, ↓setMany, ↓retK_ret, ↓retK_next, ↓useS_val, ↓ownS_own, ↓negK_int, ↓tupK_tuple, ↓tupK_list, ↓intsK_int, ↓truthK_none, ↓truthK_bool, ↓truthK_int, ↓truthK_str, ↓itemsK_list, ↓itemsK_range, ↓itemsK_str, ↓partK_none, ↓partK_int, ↓sliceM_list, ↓sliceM_str, ↓itemM_list, ↓itemM_str, ↓itemM_dict, ↓strK_str, ↓methM_rstrip, ↓methM_join, ↓bltM_abs, ↓bltM_len, ↓bltM_range, ↓bltM_max, ↓bltM_divmod, ↓bltM_range2, ↓bltM_lenS, ↓bltM_str, ↓bltM_intS, ↓bltM_intB, ↓bltM_ord, ↓bltM_sum, ↓bltM_list, ↓bltM_maxL, ↓binM_Add, ↓binM_Sub, ↓binM_Mult, ↓binM_FloorDiv, ↓binM_Mod, ↓binM_Pow, ↓binM_LShift, ↓binM_RShift, ↓binM_BitAnd, ↓binM_AddB, ↓binM_AddS, ↓binM_AddL, ↓binM_MultS, ↓cmpM_Eq, ↓cmpM_EqL, ↓cmpM_NotEqL, ↓cmpM_EqB, ↓cmpM_NotEqB, ↓cmpM_EqS, ↓cmpM_NotEqS, ↓cmpM_EqNN, ↓cmpM_EqNI, ↓cmpM_EqIN, ↓cmpM_NotEqNN, ↓cmpM_NotEqNI, ↓cmpM_NotEqIN, ↓cmpM_InS, ↓cmpM_NotInS, ↓cmpM_LtS, ↓cmpM_GtS, ↓cmpM_IsNN, ↓cmpM_IsIN, ↓cmpM_IsNotNN, ↓cmpM_IsNotIN, ↓cmpM_InL, ↓cmpM_NotInL, ↓cmpM_NotEq, ↓cmpM_Lt, ↓cmpM_LtE, ↓cmpM_Gt, ↓cmpM_GtE, ↓turnK_next, ↓turnK_cont, ↓turnK_brk, ↓turnK_ret, ↓seqK_next, ↓seqK_cont, ↓seqK_brk, ↓seqK_ret, ↓stops_And, ↓stops_Or, ↓List.reverse_cons, ↓List.reverse_nil, ↓List.nil_append, ↓List.cons_append]
  refine forGo_of (fun i σ => ∃ s2, σ = [.val (.str l), .val (.int (worth (l.take i) : Int)), s2]) ⟨_, rfl⟩ ?_ ?_
  · rintro i v σ R hi ⟨s2, rfl⟩ hR
    rw [List.getElem?_map] at hi
    obtain ⟨c, hc, rfl⟩ := Option.map_eq_some_iff.mp hi
    have hil := (List.getElem?_eq_some_iff.mp hc).1
    have hcd := hd c (List.mem_of_getElem? hc)
    simp only [m_law_worth_b1]
    simp only [↓execM, ↓evalM, ↓evalL, ↓truthM, ↓allM, ↓boolM, ↓testM, ↓getS, ↓setS, ↓setMany, ↓retK_ret, ↓retK_next, ↓useS_val, ↓ownS_own, ↓negK_int, ↓tupK_tuple, ↓tupK_list, ↓intsK_int, ↓truthK_none, ↓truthK_bool, ↓truthK_int, ↓truthK_str, ↓itemsK_list, ↓itemsK_range, ↓itemsK_str, ↓partK_none, ↓partK_int, ↓sliceM_list, ↓sliceM_str, ↓itemM_list, ↓itemM_str, ↓itemM_dict, ↓strK_str, ↓methM_rstrip, ↓methM_join, ↓bltM_abs, ↓bltM_len, ↓bltM_range, ↓bltM_max, ↓bltM_divmod, ↓bltM_range2, ↓bltM_lenS, ↓bltM_str, ↓bltM_intS, ↓bltM_intB, ↓bltM_ord, ↓bltM_sum, ↓bltM_list, ↓bltM_maxL, ↓binM_Add, ↓binM_Sub, ↓binM_Mult, ↓binM_FloorDiv, ↓binM_Mod, ↓binM_Pow, ↓binM_LShift, ↓binM_RShift, ↓binM_BitAnd, ↓binM_AddB, ↓binM_AddS, ↓binM_AddL, ↓binM_MultS, ↓cmpM_Eq, ↓cmpM_EqL, ↓cmpM_NotEqL, ↓cmpM_EqB, ↓cmpM_NotEqB, ↓cmpM_EqS, ↓cmpM_NotEqS, ↓cmpM_EqNN, ↓cmpM_EqNI, ↓cmpM_EqIN, ↓cmpM_NotEqNN, ↓cmpM_NotEqNI, ↓cmpM_NotEqIN, ↓cmpM_InS, ↓cmpM_NotInS, ↓cmpM_LtS, ↓cmpM_GtS, ↓cmpM_IsNN, ↓cmpM_IsIN, ↓cmpM_IsNotNN, ↓cmpM_IsNotIN, ↓cmpM_InL, ↓cmpM_NotInL, ↓cmpM_NotEq, ↓cmpM_Lt, ↓cmpM_LtE, ↓cmpM_Gt, ↓cmpM_GtE, ↓turnK_next, ↓turnK_cont, ↓turnK_brk, ↓turnK_ret, ↓seqK_next, ↓seqK_cont, ↓seqK_brk, ↓seqK_ret, ↓stops_And, ↓stops_Or, ↓List.reverse_cons, ↓List.reverse_nil, ↓List.nil_append, ↓List.cons_append]
    have hin : (!decide (c ∈ [48, 49, 50, 51, 52, 53, 54, 55, 56, 57])) = false := by
      simp
      omega
    rw [hin, if_neg (by decide)]
    have hb : ((worth (l.take i) : Nat) : Int).natAbs < 2 ^ 801 := by
      rw [Int.natAbs_natCast]
      have h1 := worth_lt (l.take i) fun c hc => hd c (List.mem_of_mem_take hc)
      have h2 : (l.take i).length ≤ 200 := by rw [List.length_take]; omega
      have h3 : (10 : Nat) ^ (l.take i).length ≤ 10 ^ 200 := Nat.pow_le_pow_right (by decide) h2
      have h4 := bd_ten 200
      rw [Int.natAbs_pow] at h4
      exact Nat.lt_trans (Nat.lt_of_lt_of_le h1 h3) h4
    have e : l.take (i + 1) = l.take i ++ [c] := by rw [List.take_add_one, hc]; rfl
    have e2 : (10 : Int) * (worth (l.take i) : Int) + (c : Int) - 48 = (worth (l.take (i + 1)) : Int) := by
      rw [e, worth_append, worth_one]
      simp only [List.length_cons, List.length_nil]
      omega
    rw [e2]
    exact ⟨IntMulOk.of_le (bits_le (k := 4) (by decide)) (bits_le hb) (by decide), hR _ ⟨_, rfl⟩⟩
  · rintro σ ⟨s2, rfl⟩
    simp only [↓execM, ↓evalM, ↓evalL, ↓truthM, ↓allM, ↓boolM, ↓testM, ↓getS, ↓setS, ↓setMany, ↓retK_ret, ↓retK_next, ↓useS_val, ↓ownS_own, ↓negK_int, ↓tupK_tuple, ↓tupK_list, ↓intsK_int, ↓truthK_none, ↓truthK_bool, ↓truthK_int, ↓truthK_str, ↓itemsK_list, ↓itemsK_range, ↓itemsK_str, ↓partK_none, ↓partK_int, ↓sliceM_list, ↓sliceM_str, ↓itemM_list, ↓itemM_str, ↓itemM_dict, ↓strK_str, ↓methM_rstrip, ↓methM_join, ↓bltM_abs, ↓bltM_len, ↓bltM_range, ↓bltM_max, ↓bltM_divmod, ↓bltM_range2, ↓bltM_lenS, ↓bltM_str, ↓bltM_intS, ↓bltM_intB, ↓bltM_ord, ↓bltM_sum, ↓bltM_list, ↓bltM_maxL, ↓binM_Add, ↓binM_Sub, ↓binM_Mult, ↓binM_FloorDiv, ↓binM_Mod, ↓binM_Pow, ↓binM_LShift, ↓binM_RShift, ↓binM_BitAnd, ↓binM_AddB, ↓binM_AddS, ↓binM_AddL, ↓binM_MultS, ↓cmpM_Eq, ↓cmpM_EqL, ↓cmpM_NotEqL, ↓cmpM_EqB, ↓cmpM_NotEqB, ↓cmpM_EqS, ↓cmpM_NotEqS, ↓cmpM_EqNN, ↓cmpM_EqNI, ↓cmpM_EqIN, ↓cmpM_NotEqNN, ↓cmpM_NotEqNI, ↓cmpM_NotEqIN, ↓cmpM_InS, ↓cmpM_NotInS, ↓cmpM_LtS, ↓cmpM_GtS, ↓cmpM_IsNN, ↓cmpM_IsIN, ↓cmpM_IsNotNN, ↓cmpM_IsNotIN, ↓cmpM_InL, ↓cmpM_NotInL, ↓cmpM_NotEq, ↓cmpM_Lt, ↓cmpM_LtE, ↓cmpM_Gt, ↓cmpM_GtE, ↓turnK_next, ↓turnK_cont, ↓turnK_brk, ↓turnK_ret, ↓seqK_next, ↓seqK_cont, ↓seqK_brk, ↓seqK_ret, ↓stops_And, ↓stops_Or, ↓List.reverse_cons, ↓List.reverse_nil, ↓List.nil_append, ↓List.cons_append]
    rw [List.length_map, List.take_length]; exact hP
theorem tens_ex : ∀ (k : Nat) (n : Int), n.natAbs ≤ k → n ≠ 0 → ∃ v m, n = 10 ^ v * m ∧ m % 10 ≠ 0
  | 0, n, h, h0 => by omega
  | k + 1, n, h, h0 => by
    by_cases hm : n % 10 = 0
    · have e : n = 10 * (n / 10) := by omega
      obtain ⟨v, m, h1, h2⟩ := tens_ex k (n / 10) (by omega) (by omega)
      refine ⟨v + 1, m, ?_, h2⟩
      rw [Int.pow_succ, Int.mul_comm (10 ^ v) 10, Int.mul_assoc, ← h1]; exact e
    · exact ⟨0, n, by simp, hm⟩
theorem al_at (t : Int) : ∃ (j al : Nat), t % 4 = (j : Int) ∧ ([60, 62, 61, 94] : List Nat)[j]? = some al ∧ (al = 60 ∨ al = 62 ∨ al = 61 ∨ al = 94) := by
  have : t % 4 = 0 ∨ t % 4 = 1 ∨ t % 4 = 2 ∨ t % 4 = 3 := by omega
  rcases this with h | h | h | h
  · exact ⟨0, 60, h, rfl, .inl rfl⟩
  · exact ⟨1, 62, h, rfl, .inr (.inl rfl)⟩
  · exact ⟨2, 61, h, rfl, .inr (.inr (.inl rfl))⟩
  · exact ⟨3, 94, h, rfl, .inr (.inr (.inr rfl))⟩
theorem sg_at (t : Int) : ∃ (j c : Nat), t % 3 = (j : Int) ∧ ([45, 43, 32] : List Nat)[j]? = some c ∧ ([.str [], .str [43], .str [32]] : List PV)[j]? = some (.str (fs false c)) := by
  have : t % 3 = 0 ∨ t % 3 = 1 ∨ t % 3 = 2 := by omega
  rcases this with h | h | h
  · exact ⟨0, 45, h, rfl, rfl⟩
  · exact ⟨1, 43, h, rfl, rfl⟩
  · exact ⟨2, 32, h, rfl, rfl⟩
theorem dg_own (n : Nat) : 0 < (dg n).length ∧ (∀ i, 0 < i → i < (dg n).length → 10 ^ i ≤ n) ∧ n < 10 ^ (dg n).length := by
  refine ⟨List.length_pos_iff.mpr (dg_ne n), fun i h0 h => ?_, ?_⟩
  · rcases Nat.lt_or_ge n (10 ^ i) with h1 | h1
    · have := dg_len h1 h0; omega
    · exact h1
  · rcases Nat.lt_or_ge n (10 ^ (dg n).length) with h1 | h1
    · exact h1
    · have := dg_len_ge h1; omega
end Mine
end part_P6
section part_L10a
set_option Elab.async false
set_option linter.unusedVariables false
set_option linter.unusedSimpArgs false
namespace Mine
open PySem PySem.W PyProof.Rows PySem.NumText
noncomputable def nm_law : List (Option Str) := [some (Str.ofString "script"), some (Str.ofString "numbers"), some (Str.ofString "k"), some (Str.ofString "x"), some (Str.ofString "turn"), some (Str.ofString "size"), some (Str.ofString "width"), some (Str.ofString "align"), some (Str.ofString "mark"), some (Str.ofString "spec"), some (Str.ofString "told"), some (Str.ofString "own"), some (Str.ofString "missing"), some (Str.ofString "ahead"), some (Str.ofString "behind"), some (Str.ofString "figures"), some (Str.ofString "worth"), some (Str.ofString "tens")]
noncomputable def m_law_t1 : MX :=
  (.cmp .LtE (.bin .Pow (.cint 10) (.var 11)) (.var 5))
noncomputable def m_law_b2 : MS :=
  (.cons (.aug 11 .Add (.cint 1))
    .nil)
noncomputable def m_law_t3 : MX :=
  (.cmp .Eq (.bin .Mod (.var 5) (.bin .Pow (.cint 10) (.bin .Add (.var 17) (.cint 1)))) (.cint 0))
noncomputable def m_law_b4 : MS :=
  (.cons (.aug 17 .Add (.cint 1))
    .nil)
noncomputable def m_law_k5 : MS :=
  (.cons (.assign 9 (.dict [[102, 105, 108, 108], [97, 108, 105, 103, 110], [109, 105, 110, 105, 109, 117, 109, 119, 105, 100, 116, 104], [115, 105, 103, 110]] (.cons (.cstr [48]) (.cons (.var 7) (.cons (.var 6) (.cons (.item (.cstr [45, 43, 32]) (.bin .Mod (.var 4) (.cint 3))) .nil))))))
    (.cons (.assign 10 (.call "_format_align" (.cons (.call "_format_sign" (.cons (.cmp .Lt (.var 3) (.cint 0)) (.cons (.var 9) .nil))) (.cons (.blt .str (.cons (.var 5) .nil)) (.cons (.var 9) .nil)))))
    (.cons (.assign 11 (.cint 1))
    (.cons (.whil m_law_t1 m_law_b2)
    (.cons (.assign 12 (.blt .max (.cons (.cint 0) (.cons (.bin .Sub (.bin .Sub (.var 6) (.blt .len (.cons (.var 8) .nil))) (.var 11)) .nil))))
    (.cons (.assign 13 (.item (.dict [[60], [62], [61], [94]] (.cons (.cint 0) (.cons (.var 12) (.cons (.cint 0) (.cons (.bin .FloorDiv (.var 12) (.cint 2)) .nil))))) (.var 7)))
    (.cons (.assign 14 (.item (.dict [[60], [62], [61], [94]] (.cons (.var 12) (.cons (.cint 0) (.cons (.cint 0) (.cons (.bin .Sub (.var 12) (.bin .FloorDiv (.var 12) (.cint 2))) .nil))))) (.var 7)))
    (.cons (.assign 15 (.bin .Add (.slice (.var 10) .absent (.var 13)) (.slice (.var 10) (.bin .Add (.var 13) (.blt .len (.cons (.var 8) .nil))) .absent)))
    (.cons (.ifs (.boolop .Or (.cons (.cmp .NotEq (.slice (.var 10) (.var 13) (.bin .Add (.var 13) (.blt .len (.cons (.var 8) .nil)))) (.var 8)) (.cons (.cmp .NotEq (.blt .len (.cons (.var 15) .nil)) (.bin .Add (.var 11) (.var 12))) .nil))) (.cons (.ret (.cbool false))
    .nil) .nil)
    (.cons (.assign 16 (.call "_law_worth" (.cons (.var 15) .nil)))
    (.cons (.ifs (.cmp .NotEq (.blt .str (.cons (.call "_decimal_lshift_exact" (.cons (.var 5) (.cons (.var 14) .nil))) .nil)) (.blt .str (.cons (.var 16) .nil))) (.cons (.ret (.cbool false))
    .nil) .nil)
    (.cons (.ifs (.cmp .NotEq (.blt .str (.cons (.call "_decimal_lshift_exact" (.cons (.var 16) (.cons (.neg (.var 14)) .nil))) .nil)) (.blt .str (.cons (.var 5) .nil))) (.cons (.ret (.cbool false))
    .nil) .nil)
    (.cons (.ifs (.cmp .Gt (.var 5) (.cint 0)) (.cons (.assign 17 (.cint 0))
    (.cons (.whil m_law_t3 m_law_b4)
    (.cons (.ifs (.cmp .NotEq (.blt .str (.cons (.call "_decimal_lshift_exact" (.cons (.var 16) (.cons (.bin .Sub (.neg (.var 14)) (.var 17)) .nil))) .nil)) (.blt .str (.cons (.bin .FloorDiv (.var 5) (.bin .Pow (.cint 10) (.var 17))) .nil))) (.cons (.ret (.cbool false))
    .nil) .nil)
    (.cons (.ifs (.cmp .IsNot (.call "_decimal_lshift_exact" (.cons (.var 16) (.cons (.bin .Sub (.bin .Sub (.neg (.var 14)) (.var 17)) (.cint 1)) .nil))) .cnone) (.cons (.ret (.cbool false))
    .nil) .nil)
    .nil)))) .nil)
    .nil)))))))))))))
noncomputable def m_law_b6 : MS :=
  (.cons (.assign 3 (.item (.var 1) (.var 2)))
    (.cons (.assign 4 (.bin .Add (.var 2) (.var 3)))
    (.cons (.assign 5 (.bin .Mod (.blt .abs (.cons (.var 3) .nil)) (.bin .Pow (.cint 10) (.cint 9))))
    (.cons (.assign 6 (.bin .Sub (.bin .Mod (.bin .Add (.var 3) (.item (.var 1) (.bin .Mod (.bin .Add (.var 2) (.cint 1)) (.blt .len (.cons (.var 1) .nil))))) (.cint 29)) (.cint 4)))
    (.cons (.assign 7 (.item (.cstr [60, 62, 61, 94]) (.bin .Mod (.var 4) (.cint 4))))
    (.cons (.assign 8 (.ite (.cmp .Lt (.var 3) (.cint 0)) (.cstr [45]) (.item (.list (.cons (.cstr []) (.cons (.cstr [43]) (.cons (.cstr [32]) .nil)))) (.bin .Mod (.var 4) (.cint 3)))))
    m_law_k5))))))
noncomputable def m_law : MS :=
  (.cons (.assign 1 (.bin .Add (.list (.cons (.cint 1200) (.cons (.neg (.cint 30)) (.cons (.neg (.cint 16)) (.cons (.neg (.cint 2)) (.cons (.cint 0) .nil)))))) (.blt .list (.cons (.var 0) .nil))))
    (.cons (.fors 2 (.blt .range (.cons (.blt .len (.cons (.var 1) .nil)) .nil)) m_law_b6)
    (.cons (.ret (.cbool true))
    .nil)))
theorem dlsV_up {n e : Int} (h : 0 ≤ e) : dlsV n e = .int (n * 10 ^ e.toNat) := by unfold dlsV; rw [if_pos h]
theorem dlsV_dn {n e q : Int} (h : e < 0) (k : n = q * 10 ^ (-e).toNat) : dlsV n e = .int q := by
  unfold dlsV
  have hp : (0 : Int) < 10 ^ (-e).toNat := Int.pow_pos (by decide)
  rw [if_neg (by omega), k, if_pos (Int.dvd_mul_left _ _), Int.mul_ediv_cancel _ (Int.ne_of_gt hp)]
theorem dlsV_no {n e : Int} (h : e < 0) (k : ¬ (10 : Int) ^ (-e).toNat ∣ n) : dlsV n e = .none := by
  unfold dlsV; rw [if_neg (by omega), if_neg k]
theorem dlsV_le {n q : Int} (m : Nat) (k : n = q * 10 ^ m) : dlsV n (-(m : Int)) = .int q := by
  by_cases h0 : m = 0
  · subst h0; rw [dlsV_up (by omega), k]; simp
  · exact dlsV_dn (by omega) (by rw [show (- -(m : Int)).toNat = m by omega]; exact k)

noncomputable def figs (al N size : Nat) : List Nat := List.replicate (ah al N) 48 ++ (List.replicate (bt al N) 48 ++ (dg size ++ List.replicate (bh al N) 48))
theorem figs_all (al N size : Nat) : ∀ c ∈ figs al N size, 48 ≤ c ∧ c ≤ 57 := by
  intro c hc
  unfold figs at hc
  have z : ∀ n, c ∈ List.replicate n 48 → 48 ≤ c ∧ c ≤ 57 := fun n h => by rw [(List.mem_replicate.mp h).2]; decide
  rcases List.mem_append.mp hc with h | h
  · exact z _ h
  rcases List.mem_append.mp h with h | h
  · exact z _ h
  rcases List.mem_append.mp h with h | h
  · exact dg_all _ c h
  · exact z _ h
theorem figs_worth (al N size : Nat) : worth (figs al N size) = size * 10 ^ bh al N := by
  unfold figs
  rw [worth_append, worth_append, worth_append, worth_zeros, worth_zeros, worth_zeros, worth_dg, List.length_replicate, Nat.zero_mul, Nat.zero_mul, Nat.zero_add, Nat.zero_add, Nat.add_zero]
theorem figs_len {al N size : Nat} (hal : al = 60 ∨ al = 62 ∨ al = 61 ∨ al = 94) : (figs al N size).length = (dg size).length + N := by
  have := (fa_len [] [] 48 al N hal).1
  unfold figs
  simp only [List.length_append, List.length_replicate]
  omega
theorem dAhead {al N : Nat} (hal : al = 60 ∨ al = 62 ∨ al = 61 ∨ al = 94) : dget [al] [([60], .int 0), ([62], .int (N : Int)), ([61], .int 0), ([94], .int ((N / 2 : Nat) : Int))] = some (.int (ah al N : Int)) := by
  rcases hal with rfl | rfl | rfl | rfl <;> rfl
theorem dBehind {al N : Nat} (hal : al = 60 ∨ al = 62 ∨ al = 61 ∨ al = 94) : dget [al] [([60], .int (N : Int)), ([62], .int 0), ([61], .int 0), ([94], .int ((N - N / 2 : Nat) : Int))] = some (.int (bh al N : Int)) := by
  rcases hal with rfl | rfl | rfl | rfl <;> rfl

set_option maxRecDepth 20000 in
/-- the turn from the mark on -/
theorem turn10 (Φ : Fenv) (hdls : Has Φ "_decimal_lshift_exact" sp_dls) (hfa : Has Φ "_format_align" sp_fa) (hfs : Has Φ "_format_sign" sp_fs) (hwo : Has Φ "_law_worth" sp_wo) {x t w : Int} {size al c j3 : Nat} {s0 s1 s2 s9 s10 s11 s12 s13 s14 s15 s16 s17 : Slot} {Q : MFlow → List Slot → Prop} {R : List Slot → Prop}
    (hal : al = 60 ∨ al = 62 ∨ al = 61 ∨ al = 94) (h3 : t % 3 = (j3 : Int)) (hc : ([45, 43, 32] : List Nat)[j3]? = some c) (hsz : size < 10 ^ 9) (hw : w ≤ 24) (hw' : -4 ≤ w)
    (hR : ∀ s3 s4 s5 s6 s7 s8 s9 s10 s11 s12 s13 s14 s15 s16 s17, R [s0, s1, s2, s3, s4, s5, s6, s7, s8, s9, s10, s11, s12, s13, s14, s15, s16, s17]) :
    execM Φ m_law_k5 [s0, s1, s2, .val (.int x), .val (.int t), .val (.int (size : Int)), .val (.int w), .val (.str [al]), .val (.str (fs (decide (x < 0)) c)), s9, s10, s11, s12, s13, s14, s15, s16, s17] (fun f σ' => turnK f σ' Q (R σ')) := by
  have hb10 : (bits 10 : Int) = 4 := by decide
  generalize hmk : fs (decide (x < 0)) c = mark
  have hml : mark.length ≤ 1 := by rw [← hmk]; exact fs_len _ _
  have hsl : ((size : Int)).natAbs.log2 < 1920 := log_bd (k := 40) (by rw [Int.natAbs_natCast]; exact Nat.lt_of_lt_of_le hsz (by decide)) (by decide) (by decide)
  have hdl : (dg size).length ≤ 9 := dg_len hsz (by decide)
  obtain ⟨o1, o2, o3⟩ := dg_own size
  simp only [m_law_k5]
  simp only [↓execM, ↓evalM, ↓evalL, ↓truthM, ↓allM, ↓boolM, ↓testM, ↓getS, ↓setS, ↓setMany, ↓retK_ret, ↓retK_next, ↓useS_val, ↓ownS_own, ↓negK_int, ↓tupK_tuple, ↓tupK_list, ↓intsK_int, ↓truthK_none, ↓truthK_bool, ↓truthK_int, ↓truthK_str, ↓itemsK_list, ↓itemsK_range, ↓itemsK_str, ↓partK_none, ↓partK_int, ↓sliceM_list, ↓sliceM_str, ↓itemM_list, ↓itemM_str, ↓itemM_dict, ↓strK_str, ↓methM_rstrip, ↓methM_join, ↓bltM_abs, ↓bltM_len, ↓bltM_range, ↓bltM_max, ↓bltM_divmod, ↓bltM_range2, ↓bltM_lenS, ↓bltM_str, ↓bltM_intS, ↓bltM_intB, ↓bltM_ord, ↓bltM_sum, ↓bltM_list, ↓bltM_maxL, ↓binM_Add, ↓binM_Sub, ↓binM_Mult, ↓binM_FloorDiv, ↓binM_Mod, ↓binM_Pow, ↓binM_LShift, ↓binM_RShift, ↓binM_BitAnd, ↓binM_AddB, ↓binM_AddS, ↓binM_AddL, ↓binM_MultS, ↓cmpM_Eq, ↓cmpM_EqL, ↓cmpM_NotEqL, ↓cmpM_EqB, ↓cmpM_NotEqB, ↓cmpM_EqS, ↓cmpM_NotEqS, ↓cmpM_EqNN, ↓cmpM_EqNI, ↓cmpM_EqIN, ↓cmpM_NotEqNN, ↓cmpM_NotEqNI, ↓cmpM_NotEqIN, ↓cmpM_InS, ↓cmpM_NotInS, ↓cmpM_LtS, ↓cmpM_GtS, ↓cmpM_IsNN, ↓cmpM_IsIN, ↓cmpM_IsNotNN, ↓cmpM_IsNotIN, ↓cmpM_InL, ↓cmpM_NotInL, ↓cmpM_NotEq, ↓cmpM_Lt, ↓cmpM_LtE, ↓cmpM_Gt, ↓cmpM_GtE, ↓turnK_next, ↓turnK_cont, ↓turnK_brk, ↓turnK_ret, ↓seqK_next, ↓seqK_cont, ↓seqK_brk, ↓seqK_ret, ↓stops_And, ↓stops_Or, ↓List.reverse_cons, ↓List.reverse_nil, ↓List.nil_append, ↓List.cons_append]
  rw [fmod_pos (by decide)]
  refine ⟨by decide, by show 3 ≤ 16777216; decide, c, idx _ j3 h3 hc, rfl, hfa.1, hfs.1, hfs.2 _ _ ⟨_, _, c, .inl rfl, rfl, ?_⟩⟩
  simp only [↓execM, ↓evalM, ↓evalL, ↓truthM, ↓allM, ↓boolM, ↓testM, ↓getS, ↓setS, ↓setMany, ↓retK_ret, ↓retK_next, ↓useS_val, ↓ownS_own, ↓negK_int, ↓tupK_tuple, ↓tupK_list, ↓intsK_int, ↓truthK_none, ↓truthK_bool, ↓truthK_int, ↓truthK_str, ↓itemsK_list, ↓itemsK_range, ↓itemsK_str, ↓partK_none, ↓partK_int, ↓sliceM_list, ↓sliceM_str, ↓itemM_list, ↓itemM_str, ↓itemM_dict, ↓strK_str, ↓methM_rstrip, ↓methM_join, ↓bltM_abs, ↓bltM_len, ↓bltM_range, ↓bltM_max, ↓bltM_divmod, ↓bltM_range2, ↓bltM_lenS, ↓bltM_str, ↓bltM_intS, ↓bltM_intB, ↓bltM_ord, ↓bltM_sum, ↓bltM_list, ↓bltM_maxL, ↓binM_Add, ↓binM_Sub, ↓binM_Mult, ↓binM_FloorDiv, ↓binM_Mod, ↓binM_Pow, ↓binM_LShift, ↓binM_RShift, ↓binM_BitAnd, ↓binM_AddB, ↓binM_AddS, ↓binM_AddL, ↓binM_MultS, ↓cmpM_Eq, ↓cmpM_EqL, ↓cmpM_NotEqL, ↓cmpM_EqB, ↓cmpM_NotEqB, ↓cmpM_EqS, ↓cmpM_NotEqS, ↓cmpM_EqNN, ↓cmpM_EqNI, ↓cmpM_EqIN, ↓cmpM_NotEqNN, ↓cmpM_NotEqNI, ↓cmpM_NotEqIN, ↓cmpM_InS, ↓cmpM_NotInS, ↓cmpM_LtS, ↓cmpM_GtS, ↓cmpM_IsNN, ↓cmpM_IsIN, ↓cmpM_IsNotNN, ↓cmpM_IsNotIN, ↓cmpM_InL, ↓cmpM_NotInL, ↓cmpM_NotEq, ↓cmpM_Lt, ↓cmpM_LtE, ↓cmpM_Gt, ↓cmpM_GtE, ↓turnK_next, ↓turnK_cont, ↓turnK_brk, ↓turnK_ret, ↓seqK_next, ↓seqK_cont, ↓seqK_brk, ↓seqK_ret, ↓stops_And, ↓stops_Or, ↓List.reverse_cons, ↓List.reverse_nil, ↓List.nil_append, ↓List.cons_append]
  rw [hmk, decS_nat]
  generalize hN : (w - mark.length - (dg size).length).toNat = N
  have hN' : N ≤ 24 := by omega
  refine ⟨hsl, hfa.2 _ _ ⟨_, _, _, w, 48, al, rfl, rfl, rfl, rfl, hal, by omega, by omega, by omega, by omega, ?_⟩⟩
  simp only [↓execM, ↓evalM, ↓evalL, ↓truthM, ↓allM, ↓boolM, ↓testM, ↓getS, ↓setS, ↓setMany, ↓retK_ret, ↓retK_next, ↓useS_val, ↓ownS_own, ↓negK_int, ↓tupK_tuple, ↓tupK_list, ↓intsK_int, ↓truthK_none, ↓truthK_bool, ↓truthK_int, ↓truthK_str, ↓itemsK_list, ↓itemsK_range, ↓itemsK_str, ↓partK_none, ↓partK_int, ↓sliceM_list, ↓sliceM_str, ↓itemM_list, ↓itemM_str, ↓itemM_dict, ↓strK_str, ↓methM_rstrip, ↓methM_join, ↓bltM_abs, ↓bltM_len, ↓bltM_range, ↓bltM_max, ↓bltM_divmod, ↓bltM_range2, ↓bltM_lenS, ↓bltM_str, ↓bltM_intS, ↓bltM_intB, ↓bltM_ord, ↓bltM_sum, ↓bltM_list, ↓bltM_maxL, ↓binM_Add, ↓binM_Sub, ↓binM_Mult, ↓binM_FloorDiv, ↓binM_Mod, ↓binM_Pow, ↓binM_LShift, ↓binM_RShift, ↓binM_BitAnd, ↓binM_AddB, ↓binM_AddS, ↓binM_AddL, ↓binM_MultS, ↓cmpM_Eq, ↓cmpM_EqL, ↓cmpM_NotEqL, ↓cmpM_EqB, ↓cmpM_NotEqB, ↓cmpM_EqS, ↓cmpM_NotEqS, ↓cmpM_EqNN, ↓cmpM_EqNI, ↓cmpM_EqIN, ↓cmpM_NotEqNN, ↓cmpM_NotEqNI, ↓cmpM_NotEqIN, ↓cmpM_InS, ↓cmpM_NotInS, ↓cmpM_LtS, ↓cmpM_GtS, ↓cmpM_IsNN, ↓cmpM_IsIN, ↓cmpM_IsNotNN, ↓cmpM_IsNotIN, ↓cmpM_InL, ↓cmpM_NotInL, ↓cmpM_NotEq, ↓cmpM_Lt, ↓cmpM_LtE, ↓cmpM_Gt, ↓cmpM_GtE, ↓turnK_next, ↓turnK_cont, ↓turnK_brk, ↓turnK_ret, ↓seqK_next, ↓seqK_cont, ↓seqK_brk, ↓seqK_ret, ↓stops_And, ↓stops_Or, ↓List.reverse_cons, ↓List.reverse_nil, ↓List.nil_append, ↓List.cons_append]
  rw [hN]
  refine whileGo_of ((dg size).length - 1) (fun i σ => σ = [s0, s1, s2, .val (.int x), .val (.int t), .val (.int (size : Int)), .val (.int w), .val (.str [al]), .val (.str mark), _, .val (.str (fa mark (dg size) 48 al N)), .val (.int ((i + 1 : Nat) : Int)), s12, s13, s14, s15, s16, s17]) rfl ?_ ?_
  · rintro i σ R' hi rfl hR'
    simp only [m_law_t1]
    simp only [↓execM, ↓evalM, ↓evalL, ↓truthM, ↓allM, ↓boolM, ↓testM, ↓getS, ↓setS, ↓setMany, ↓retK_ret, ↓retK_next, ↓useS_val, ↓ownS_own, ↓negK_int, ↓tupK_tuple, ↓tupK_list, ↓intsK_int, ↓truthK_none, ↓truthK_bool, ↓truthK_int, ↓truthK_str, ↓itemsK_list, ↓itemsK_range, ↓itemsK_str, ↓partK_none, ↓partK_int, ↓sliceM_list, ↓sliceM_str, ↓itemM_list, ↓itemM_str, ↓itemM_dict, ↓strK_str, ↓methM_rstrip, ↓methM_join, ↓bltM_abs, ↓bltM_len, ↓bltM_range, ↓bltM_max, ↓bltM_divmod, ↓bltM_range2, ↓bltM_lenS, ↓bltM_str, ↓bltM_intS, ↓bltM_intB, ↓bltM_ord, ↓bltM_sum, ↓bltM_list, ↓bltM_maxL, ↓binM_Add, ↓binM_Sub, ↓binM_Mult, ↓binM_FloorDiv, ↓binM_Mod, ↓binM_Pow, ↓binM_LShift, ↓binM_RShift, ↓binM_BitAnd, ↓binM_AddB, ↓binM_AddS, ↓binM_AddL, ↓binM_MultS, ↓cmpM_Eq, ↓cmpM_EqL, ↓cmpM_NotEqL, ↓cmpM_EqB, ↓cmpM_NotEqB, ↓cmpM_EqS, ↓cmpM_NotEqS, ↓cmpM_EqNN, ↓cmpM_EqNI, ↓cmpM_EqIN, ↓cmpM_NotEqNN, ↓cmpM_NotEqNI, ↓cmpM_NotEqIN, ↓cmpM_InS, ↓cmpM_NotInS, ↓cmpM_LtS, ↓cmpM_GtS, ↓cmpM_IsNN, ↓cmpM_IsIN, ↓cmpM_IsNotNN, ↓cmpM_IsNotIN, ↓cmpM_InL, ↓cmpM_NotInL, ↓cmpM_NotEq, ↓cmpM_Lt, ↓cmpM_LtE, ↓cmpM_Gt, ↓cmpM_GtE, ↓turnK_next, ↓turnK_cont, ↓turnK_brk, ↓turnK_ret, ↓seqK_next, ↓seqK_cont, ↓seqK_brk, ↓seqK_ret, ↓stops_And, ↓stops_Or, ↓List.reverse_cons, ↓List.reverse_nil, ↓List.nil_append, ↓List.cons_append]
    have h1 := o2 (i + 1) (by omega) (by omega)
    have h2 : decide ((10 : Int) ^ (((i + 1 : Nat) : Int)).toNat ≤ (size : Int)) = true := by
      rw [Int.toNat_natCast, decide_eq_true_eq]
      have : ((10 ^ (i + 1) : Nat) : Int) ≤ (size : Int) := by omega
      simpa using this
    rw [h2, if_pos rfl]
    refine ⟨by omega, by rw [hb10]; omega, ?_⟩
    simp only [m_law_b2]
    simp only [↓execM, ↓evalM, ↓evalL, ↓truthM, ↓allM, ↓boolM, ↓testM, ↓getS, ↓setS, ↓setMany, ↓retK_ret, ↓retK_next, ↓useS_val, ↓ownS_own, ↓negK_int, ↓tupK_tuple, ↓tupK_list, ↓intsK_int, ↓truthK_none, ↓truthK_bool, ↓truthK_int, ↓truthK_str, ↓itemsK_list, ↓itemsK_range, ↓itemsK_str, ↓partK_none, ↓partK_int, ↓sliceM_list, ↓sliceM_str, ↓itemM_list, ↓itemM_str, ↓itemM_dict, ↓strK_str, ↓methM_rstrip, ↓methM_join, ↓bltM_abs, ↓bltM_len, ↓bltM_range, ↓bltM_max, ↓bltM_divmod, ↓bltM_range2, ↓bltM_lenS, ↓bltM_str, ↓bltM_intS, ↓bltM_intB, ↓bltM_ord, ↓bltM_sum, ↓bltM_list, ↓bltM_maxL, ↓binM_Add, ↓binM_Sub, ↓binM_Mult, ↓binM_FloorDiv, ↓binM_Mod, ↓binM_Pow, ↓binM_LShift, ↓binM_RShift, ↓binM_BitAnd, ↓binM_AddB, ↓binM_AddS, ↓binM_AddL, ↓binM_MultS, ↓cmpM_Eq, ↓cmpM_EqL, ↓cmpM_NotEqL, ↓cmpM_EqB, ↓cmpM_NotEqB, ↓cmpM_EqS, ↓cmpM_NotEqS, ↓cmpM_EqNN, ↓cmpM_EqNI, ↓cmpM_EqIN, ↓cmpM_NotEqNN, ↓cmpM_NotEqNI, ↓cmpM_NotEqIN, ↓cmpM_InS, ↓cmpM_NotInS, ↓cmpM_LtS, ↓cmpM_GtS, ↓cmpM_IsNN, ↓cmpM_IsIN, ↓cmpM_IsNotNN, ↓cmpM_IsNotIN, ↓cmpM_InL, ↓cmpM_NotInL, ↓cmpM_NotEq, ↓cmpM_Lt, ↓cmpM_LtE, ↓cmpM_Gt, ↓cmpM_GtE, ↓turnK_next, ↓turnK_cont, ↓turnK_brk, ↓turnK_ret, ↓seqK_next, ↓seqK_cont, ↓seqK_brk, ↓seqK_ret, ↓stops_And, ↓stops_Or, ↓List.reverse_cons, ↓List.reverse_nil, ↓List.nil_append, ↓List.cons_append]
    exact hR' _ (by simp)
  · rintro σ R' rfl
    simp only [m_law_t1]
    simp only [↓execM, ↓evalM, ↓evalL, ↓truthM, ↓allM, ↓boolM, ↓testM, ↓getS, ↓setS, ↓setMany, ↓retK_ret, ↓retK_next, ↓useS_val, ↓ownS_own, ↓negK_int, ↓tupK_tuple, ↓tupK_list, ↓intsK_int, ↓truthK_none, ↓truthK_bool, ↓truthK_int, ↓truthK_str, ↓itemsK_list, ↓itemsK_range, ↓itemsK_str, ↓partK_none, ↓partK_int, ↓sliceM_list, ↓sliceM_str, ↓itemM_list, ↓itemM_str, ↓itemM_dict, ↓strK_str, ↓methM_rstrip, ↓methM_join, ↓bltM_abs, ↓bltM_len, ↓bltM_range, ↓bltM_max, ↓bltM_divmod, ↓bltM_range2, ↓bltM_lenS, ↓bltM_str, ↓bltM_intS, ↓bltM_intB, ↓bltM_ord, ↓bltM_sum, ↓bltM_list, ↓bltM_maxL, ↓binM_Add, ↓binM_Sub, ↓binM_Mult, ↓binM_FloorDiv, ↓binM_Mod, ↓binM_Pow, ↓binM_LShift, ↓binM_RShift, ↓binM_BitAnd, ↓binM_AddB, ↓binM_AddS, ↓binM_AddL, ↓binM_MultS, ↓cmpM_Eq, ↓cmpM_EqL, ↓cmpM_NotEqL, ↓cmpM_EqB, ↓cmpM_NotEqB, ↓cmpM_EqS, ↓cmpM_NotEqS, ↓cmpM_EqNN, ↓cmpM_EqNI, ↓cmpM_EqIN, ↓cmpM_NotEqNN, ↓cmpM_NotEqNI, ↓cmpM_NotEqIN, ↓cmpM_InS, ↓cmpM_NotInS, ↓cmpM_LtS, ↓cmpM_GtS, ↓cmpM_IsNN, ↓cmpM_IsIN, ↓cmpM_IsNotNN, ↓cmpM_IsNotIN, ↓cmpM_InL, ↓cmpM_NotInL, ↓cmpM_NotEq, ↓cmpM_Lt, ↓cmpM_LtE, ↓cmpM_Gt, ↓cmpM_GtE, ↓turnK_next, ↓turnK_cont, ↓turnK_brk, ↓turnK_ret, ↓seqK_next, ↓seqK_cont, ↓seqK_brk, ↓seqK_ret, ↓stops_And, ↓stops_Or, ↓List.reverse_cons, ↓List.reverse_nil, ↓List.nil_append, ↓List.cons_append]
    have e1 : (((dg size).length - 1 + 1 : Nat)) = (dg size).length := by omega
    rw [e1]
    have h2 : decide ((10 : Int) ^ (((dg size).length : Nat) : Int).toNat ≤ (size : Int)) = false := by
      rw [Int.toNat_natCast, decide_eq_false_iff_not]
      have : ((size : Nat) : Int) < ((10 ^ (dg size).length : Nat) : Int) := by omega
      simp only [Int.natCast_pow] at this
      exact Int.not_le.mpr this
    rw [h2, if_neg (by decide)]
    refine ⟨by omega, by rw [hb10]; omega, ?_⟩
    have e2 : (if 0 < w - (mark.length : Int) - ((dg size).length : Int) then w - (mark.length : Int) - ((dg size).length : Int) else 0) = (N : Int) := by split <;> omega
    rw [e2, fdiv_pos (by decide), show (N : Int) / 2 = ((N / 2 : Nat) : Int) by omega, show (N : Int) - ((N / 2 : Nat) : Int) = ((N - N / 2 : Nat) : Int) by omega]
    obtain ⟨q1, q2⟩ := fa_len mark (dg size) 48 al N hal
    have np2 : ∀ y, Builtin.divisionGoesByPylong y 2 = false := fun y => noPylong9 (Nat.lt_of_lt_of_le (show (2 : Int).natAbs < 2 ^ 2 by decide) (Nat.pow_le_pow_right (by decide) (by decide)))
    refine ⟨by omega, by decide, np2 _, rfl, _, dAhead hal, ?_⟩
    simp only [↓execM, ↓evalM, ↓evalL, ↓truthM, ↓allM, ↓boolM, ↓testM, ↓getS, ↓setS, ↓setMany, ↓retK_ret, ↓retK_next, ↓useS_val, ↓ownS_own, ↓negK_int, ↓tupK_tuple, ↓tupK_list, ↓intsK_int, ↓truthK_none, ↓truthK_bool, ↓truthK_int, ↓truthK_str, ↓itemsK_list, ↓itemsK_range, ↓itemsK_str, ↓partK_none, ↓partK_int, ↓sliceM_list, ↓sliceM_str, ↓itemM_list, ↓itemM_str, ↓itemM_dict, ↓strK_str, ↓methM_rstrip, ↓methM_join, ↓bltM_abs, ↓bltM_len, ↓bltM_range, ↓bltM_max, ↓bltM_divmod, ↓bltM_range2, ↓bltM_lenS, ↓bltM_str, ↓bltM_intS, ↓bltM_intB, ↓bltM_ord, ↓bltM_sum, ↓bltM_list, ↓bltM_maxL, ↓binM_Add, ↓binM_Sub, ↓binM_Mult, ↓binM_FloorDiv, ↓binM_Mod, ↓binM_Pow, ↓binM_LShift, ↓binM_RShift, ↓binM_BitAnd, ↓binM_AddB, ↓binM_AddS, ↓binM_AddL, ↓binM_MultS, ↓cmpM_Eq, ↓cmpM_EqL, ↓cmpM_NotEqL, ↓cmpM_EqB, ↓cmpM_NotEqB, ↓cmpM_EqS, ↓cmpM_NotEqS, ↓cmpM_EqNN, ↓cmpM_EqNI, ↓cmpM_EqIN, ↓cmpM_NotEqNN, ↓cmpM_NotEqNI, ↓cmpM_NotEqIN, ↓cmpM_InS, ↓cmpM_NotInS, ↓cmpM_LtS, ↓cmpM_GtS, ↓cmpM_IsNN, ↓cmpM_IsIN, ↓cmpM_IsNotNN, ↓cmpM_IsNotIN, ↓cmpM_InL, ↓cmpM_NotInL, ↓cmpM_NotEq, ↓cmpM_Lt, ↓cmpM_LtE, ↓cmpM_Gt, ↓cmpM_GtE, ↓turnK_next, ↓turnK_cont, ↓turnK_brk, ↓turnK_ret, ↓seqK_next, ↓seqK_cont, ↓seqK_brk, ↓seqK_ret, ↓stops_And, ↓stops_Or, ↓List.reverse_cons, ↓List.reverse_nil, ↓List.nil_append, ↓List.cons_append]
    refine ⟨by decide, np2 _, rfl, _, dBehind hal, ?_⟩
    simp only [↓execM, ↓evalM, ↓evalL, ↓truthM, ↓allM, ↓boolM, ↓testM, ↓getS, ↓setS, ↓setMany, ↓retK_ret, ↓retK_next, ↓useS_val, ↓ownS_own, ↓negK_int, ↓tupK_tuple, ↓tupK_list, ↓intsK_int, ↓truthK_none, ↓truthK_bool, ↓truthK_int, ↓truthK_str, ↓itemsK_list, ↓itemsK_range, ↓itemsK_str, ↓partK_none, ↓partK_int, ↓sliceM_list, ↓sliceM_str, ↓itemM_list, ↓itemM_str, ↓itemM_dict, ↓strK_str, ↓methM_rstrip, ↓methM_join, ↓bltM_abs, ↓bltM_len, ↓bltM_range, ↓bltM_max, ↓bltM_divmod, ↓bltM_range2, ↓bltM_lenS, ↓bltM_str, ↓bltM_intS, ↓bltM_intB, ↓bltM_ord, ↓bltM_sum, ↓bltM_list, ↓bltM_maxL, ↓binM_Add, ↓binM_Sub, ↓binM_Mult, ↓binM_FloorDiv, ↓binM_Mod, ↓binM_Pow, ↓binM_LShift, ↓binM_RShift, ↓binM_BitAnd, ↓binM_AddB, ↓binM_AddS, ↓binM_AddL, ↓binM_MultS, ↓cmpM_Eq, ↓cmpM_EqL, ↓cmpM_NotEqL, ↓cmpM_EqB, ↓cmpM_NotEqB, ↓cmpM_EqS, ↓cmpM_NotEqS, ↓cmpM_EqNN, ↓cmpM_EqNI, ↓cmpM_EqIN, ↓cmpM_NotEqNN, ↓cmpM_NotEqNI, ↓cmpM_NotEqIN, ↓cmpM_InS, ↓cmpM_NotInS, ↓cmpM_LtS, ↓cmpM_GtS, ↓cmpM_IsNN, ↓cmpM_IsIN, ↓cmpM_IsNotNN, ↓cmpM_IsNotIN, ↓cmpM_InL, ↓cmpM_NotInL, ↓cmpM_NotEq, ↓cmpM_Lt, ↓cmpM_LtE, ↓cmpM_Gt, ↓cmpM_GtE, ↓turnK_next, ↓turnK_cont, ↓turnK_brk, ↓turnK_ret, ↓seqK_next, ↓seqK_cont, ↓seqK_brk, ↓seqK_ret, ↓stops_And, ↓stops_Or, ↓List.reverse_cons, ↓List.reverse_nil, ↓List.nil_append, ↓List.cons_append]
    rw [show (ah al N : Int) + (mark.length : Int) = ((ah al N + mark.length : Nat) : Int) by omega, cutN_hi, cutN_lo, cutN _ (by omega) (by omega), Nat.add_sub_cancel_left, fa_mid, fa_out, show List.replicate (ah al N) 48 ++ (List.replicate (bt al N) 48 ++ (dg size ++ List.replicate (bh al N) 48)) = figs al N size from rfl]
    have q3 := figs_len (size := size) (N := N) hal
    have k1 : (!(mark == mark)) = false := by simp
    have k2 : (((figs al N size).length : Int) != ((dg size).length : Int) + (N : Int)) = false := by rw [q3]; simp
    rw [k1, k2]
    simp only [Bool.false_eq_true, if_false]
    have hB : bh al N ≤ 24 := by omega
    have hW : ((worth (figs al N size) : Nat) : Int) = (size : Int) * 10 ^ bh al N := by rw [figs_worth]; simp
    refine ⟨by omega, by omega, by omega, by rw [List.length_take, List.length_drop]; omega, by omega, by omega, by omega, hwo.1, hwo.2 _ _ ⟨_, rfl, by omega, figs_all _ _ _, ?_⟩⟩
    rw [hW]
    have hsb : ((size : Int)).natAbs < 2 ^ 40 := by rw [Int.natAbs_natCast]; exact Nat.lt_of_lt_of_le hsz (by decide)
    have hwb : ((size : Int) * 10 ^ bh al N).natAbs < 2 ^ 200 := bd_up (bd_mul hsb (bd_ten (bh al N))) (by omega)
    have hwl := log_bd hwb (show 200 ≤ 1920 by decide) (by decide)
    simp only [↓execM, ↓evalM, ↓evalL, ↓truthM, ↓allM, ↓boolM, ↓testM, ↓getS, ↓setS, ↓setMany, ↓retK_ret, ↓retK_next, ↓useS_val, ↓ownS_own, ↓negK_int, ↓tupK_tuple, ↓tupK_list, ↓intsK_int, ↓truthK_none, ↓truthK_bool, ↓truthK_int, ↓truthK_str, ↓itemsK_list, ↓itemsK_range, ↓itemsK_str, ↓partK_none, ↓partK_int, ↓sliceM_list, ↓sliceM_str, ↓itemM_list, ↓itemM_str, ↓itemM_dict, ↓strK_str, ↓methM_rstrip, ↓methM_join, ↓bltM_abs, ↓bltM_len, ↓bltM_range, ↓bltM_max, ↓bltM_divmod, ↓bltM_range2, ↓bltM_lenS, ↓bltM_str, ↓bltM_intS, ↓bltM_intB, ↓bltM_ord, ↓bltM_sum, ↓bltM_list, ↓bltM_maxL, ↓binM_Add, ↓binM_Sub, ↓binM_Mult, ↓binM_FloorDiv, ↓binM_Mod, ↓binM_Pow, ↓binM_LShift, ↓binM_RShift, ↓binM_BitAnd, ↓binM_AddB, ↓binM_AddS, ↓binM_AddL, ↓binM_MultS, ↓cmpM_Eq, ↓cmpM_EqL, ↓cmpM_NotEqL, ↓cmpM_EqB, ↓cmpM_NotEqB, ↓cmpM_EqS, ↓cmpM_NotEqS, ↓cmpM_EqNN, ↓cmpM_EqNI, ↓cmpM_EqIN, ↓cmpM_NotEqNN, ↓cmpM_NotEqNI, ↓cmpM_NotEqIN, ↓cmpM_InS, ↓cmpM_NotInS, ↓cmpM_LtS, ↓cmpM_GtS, ↓cmpM_IsNN, ↓cmpM_IsIN, ↓cmpM_IsNotNN, ↓cmpM_IsNotIN, ↓cmpM_InL, ↓cmpM_NotInL, ↓cmpM_NotEq, ↓cmpM_Lt, ↓cmpM_LtE, ↓cmpM_Gt, ↓cmpM_GtE, ↓turnK_next, ↓turnK_cont, ↓turnK_brk, ↓turnK_ret, ↓seqK_next, ↓seqK_cont, ↓seqK_brk, ↓seqK_ret, ↓stops_And, ↓stops_Or, ↓List.reverse_cons, ↓List.reverse_nil, ↓List.nil_append, ↓List.cons_append]
    refine ⟨hdls.1, hdls.2 _ _ ⟨_, _, rfl, by omega, by omega, fun _ => IntMulOk.of_le (bits_le hsb) (bits_le (bd_ten _)) (by omega), fun h => by omega, ?_⟩⟩
    rw [dlsV_up (by omega), Int.toNat_natCast]
    simp only [↓execM, ↓evalM, ↓evalL, ↓truthM, ↓allM, ↓boolM, ↓testM, ↓getS, ↓setS, ↓setMany, ↓retK_ret, ↓retK_next, ↓useS_val, ↓ownS_own, ↓negK_int, ↓tupK_tuple, ↓tupK_list, ↓intsK_int, ↓truthK_none, ↓truthK_bool, ↓truthK_int, ↓truthK_str, ↓itemsK_list, ↓itemsK_range, ↓itemsK_str, ↓partK_none, ↓partK_int, ↓sliceM_list, ↓sliceM_str, ↓itemM_list, ↓itemM_str, ↓itemM_dict, ↓strK_str, ↓methM_rstrip, ↓methM_join, ↓bltM_abs, ↓bltM_len, ↓bltM_range, ↓bltM_max, ↓bltM_divmod, ↓bltM_range2, ↓bltM_lenS, ↓bltM_str, ↓bltM_intS, ↓bltM_intB, ↓bltM_ord, ↓bltM_sum, ↓bltM_list, ↓bltM_maxL, ↓binM_Add, ↓binM_Sub, ↓binM_Mult, ↓binM_FloorDiv, ↓binM_Mod, ↓binM_Pow, ↓binM_LShift, ↓binM_RShift, ↓binM_BitAnd, ↓binM_AddB, ↓binM_AddS, ↓binM_AddL, ↓binM_MultS, ↓cmpM_Eq, ↓cmpM_EqL, ↓cmpM_NotEqL, ↓cmpM_EqB, ↓cmpM_NotEqB, ↓cmpM_EqS, ↓cmpM_NotEqS, ↓cmpM_EqNN, ↓cmpM_EqNI, ↓cmpM_EqIN, ↓cmpM_NotEqNN, ↓cmpM_NotEqNI, ↓cmpM_NotEqIN, ↓cmpM_InS, ↓cmpM_NotInS, ↓cmpM_LtS, ↓cmpM_GtS, ↓cmpM_IsNN, ↓cmpM_IsIN, ↓cmpM_IsNotNN, ↓cmpM_IsNotIN, ↓cmpM_InL, ↓cmpM_NotInL, ↓cmpM_NotEq, ↓cmpM_Lt, ↓cmpM_LtE, ↓cmpM_Gt, ↓cmpM_GtE, ↓turnK_next, ↓turnK_cont, ↓turnK_brk, ↓turnK_ret, ↓seqK_next, ↓seqK_cont, ↓seqK_brk, ↓seqK_ret, ↓stops_And, ↓stops_Or, ↓List.reverse_cons, ↓List.reverse_nil, ↓List.nil_append, ↓List.cons_append]
    have k3 : (!(decS ((size : Int) * 10 ^ bh al N) == decS ((size : Int) * 10 ^ bh al N))) = false := by simp
    rw [k3, if_neg (by decide)]
    refine ⟨hwl, hwl, hdls.1, hdls.2 _ _ ⟨_, _, rfl, by omega, by omega, fun h => ?_, fun h => hwl, ?_⟩⟩
    · rw [show (-(bh al N : Int)).toNat = 0 by omega]
      exact IntMulOk.of_le (bits_le hwb) (bits_le (bd_ten 0)) (by omega)
    rw [dlsV_le _ rfl]
    simp only [↓execM, ↓evalM, ↓evalL, ↓truthM, ↓allM, ↓boolM, ↓testM, ↓getS, ↓setS, ↓setMany, ↓retK_ret, ↓retK_next, ↓useS_val, ↓ownS_own, ↓negK_int, ↓tupK_tuple, ↓tupK_list, ↓intsK_int, ↓truthK_none, ↓truthK_bool, ↓truthK_int, ↓truthK_str, ↓itemsK_list, ↓itemsK_range, ↓itemsK_str, ↓partK_none, ↓partK_int, ↓sliceM_list, ↓sliceM_str, ↓itemM_list, ↓itemM_str, ↓itemM_dict, ↓strK_str, ↓methM_rstrip, ↓methM_join, ↓bltM_abs, ↓bltM_len, ↓bltM_range, ↓bltM_max, ↓bltM_divmod, ↓bltM_range2, ↓bltM_lenS, ↓bltM_str, ↓bltM_intS, ↓bltM_intB, ↓bltM_ord, ↓bltM_sum, ↓bltM_list, ↓bltM_maxL, ↓binM_Add, ↓binM_Sub, ↓binM_Mult, ↓binM_FloorDiv, ↓binM_Mod, ↓binM_Pow, ↓binM_LShift, ↓binM_RShift, ↓binM_BitAnd, ↓binM_AddB, ↓binM_AddS, ↓binM_AddL, ↓binM_MultS, ↓cmpM_Eq, ↓cmpM_EqL, ↓cmpM_NotEqL, ↓cmpM_EqB, ↓cmpM_NotEqB, ↓cmpM_EqS, ↓cmpM_NotEqS, ↓cmpM_EqNN, ↓cmpM_EqNI, ↓cmpM_EqIN, ↓cmpM_NotEqNN, ↓cmpM_NotEqNI, ↓cmpM_NotEqIN, ↓cmpM_InS, ↓cmpM_NotInS, ↓cmpM_LtS, ↓cmpM_GtS, ↓cmpM_IsNN, ↓cmpM_IsIN, ↓cmpM_IsNotNN, ↓cmpM_IsNotIN, ↓cmpM_InL, ↓cmpM_NotInL, ↓cmpM_NotEq, ↓cmpM_Lt, ↓cmpM_LtE, ↓cmpM_Gt, ↓cmpM_GtE, ↓turnK_next, ↓turnK_cont, ↓turnK_brk, ↓turnK_ret, ↓seqK_next, ↓seqK_cont, ↓seqK_brk, ↓seqK_ret, ↓stops_And, ↓stops_Or, ↓List.reverse_cons, ↓List.reverse_nil, ↓List.nil_append, ↓List.cons_append]
    have k4 : (!(decS (size : Int) == decS (size : Int))) = false := by simp
    rw [k4, if_neg (by decide)]
    refine ⟨hsl, hsl, ?_⟩
    by_cases hs0 : size = 0
    · rw [decide_eq_false (by omega), if_neg (by decide)]
      exact hR _ _ _ _ _ _ _ _ _ _ _ _ _ _ _
    · rw [decide_eq_true (by omega), if_pos rfl]
      obtain ⟨v, m, hv, hm⟩ := tens_ex size (size : Int) (by omega) (by omega)
      have hv9 : v < 9 := by
        rcases Nat.lt_or_ge v 9 with h | h
        · exact h
        · exfalso
          have h1 : (10 : Int) ^ 9 ∣ (size : Int) := by
            rw [hv, show v = 9 + (v - 9) by omega, Int.pow_add, Int.mul_assoc]; exact Int.dvd_mul_right _ _
          have h2 := Int.le_of_dvd (by omega) h1
          have : (10 : Int) ^ 9 = 1000000000 := by decide
          have : (10 : Nat) ^ 9 = 1000000000 := by decide
          omega
      refine whileGo_of v (fun i σ => σ = [s0, s1, s2, .val (.int x), .val (.int t), .val (.int (size : Int)), .val (.int w), .val (.str [al]), .val (.str mark), _, _, .val (.int ((dg size).length : Int)), .val (.int (N : Int)), .val (.int (ah al N : Int)), .val (.int (bh al N : Int)), .val (.str (figs al N size)), .val (.int ((size : Int) * 10 ^ bh al N)), .val (.int (i : Int))]) rfl ?_ ?_
      · rintro i σ R' hi rfl hR'
        simp only [m_law_t3]
        simp only [↓execM, ↓evalM, ↓evalL, ↓truthM, ↓allM, ↓boolM, ↓testM, ↓getS, ↓setS, ↓setMany, ↓retK_ret, ↓retK_next, ↓useS_val, ↓ownS_own, ↓negK_int, ↓tupK_tuple, ↓tupK_list, ↓intsK_int, ↓truthK_none, ↓truthK_bool, ↓truthK_int, ↓truthK_str, ↓itemsK_list, ↓itemsK_range, ↓itemsK_str, ↓partK_none, ↓partK_int, ↓sliceM_list, ↓sliceM_str, ↓itemM_list, ↓itemM_str, ↓itemM_dict, ↓strK_str, ↓methM_rstrip, ↓methM_join, ↓bltM_abs, ↓bltM_len, ↓bltM_range, ↓bltM_max, ↓bltM_divmod, ↓bltM_range2, ↓bltM_lenS, ↓bltM_str, ↓bltM_intS, ↓bltM_intB, ↓bltM_ord, ↓bltM_sum, ↓bltM_list, ↓bltM_maxL, ↓binM_Add, ↓binM_Sub, ↓binM_Mult, ↓binM_FloorDiv, ↓binM_Mod, ↓binM_Pow, ↓binM_LShift, ↓binM_RShift, ↓binM_BitAnd, ↓binM_AddB, ↓binM_AddS, ↓binM_AddL, ↓binM_MultS, ↓cmpM_Eq, ↓cmpM_EqL, ↓cmpM_NotEqL, ↓cmpM_EqB, ↓cmpM_NotEqB, ↓cmpM_EqS, ↓cmpM_NotEqS, ↓cmpM_EqNN, ↓cmpM_EqNI, ↓cmpM_EqIN, ↓cmpM_NotEqNN, ↓cmpM_NotEqNI, ↓cmpM_NotEqIN, ↓cmpM_InS, ↓cmpM_NotInS, ↓cmpM_LtS, ↓cmpM_GtS, ↓cmpM_IsNN, ↓cmpM_IsIN, ↓cmpM_IsNotNN, ↓cmpM_IsNotIN, ↓cmpM_InL, ↓cmpM_NotInL, ↓cmpM_NotEq, ↓cmpM_Lt, ↓cmpM_LtE, ↓cmpM_Gt, ↓cmpM_GtE, ↓turnK_next, ↓turnK_cont, ↓turnK_brk, ↓turnK_ret, ↓seqK_next, ↓seqK_cont, ↓seqK_brk, ↓seqK_ret, ↓stops_And, ↓stops_Or, ↓List.reverse_cons, ↓List.reverse_nil, ↓List.nil_append, ↓List.cons_append]
        have e3 : ((i : Int) + 1).toNat = i + 1 := by omega
        have hp : (0 : Int) < 10 ^ (i + 1) := Int.pow_pos (by decide)
        rw [e3, fmod_pos hp]
        have h1 : (size : Int) % 10 ^ (i + 1) = 0 := by
          rw [hv, show v = (i + 1) + (v - (i + 1)) by omega, Int.pow_add, Int.mul_assoc, Int.mul_emod_right]
        have h2 : ((size : Int) % 10 ^ (i + 1) == 0) = true := by rw [h1]; rfl
        rw [h2, if_pos rfl]
        refine ⟨by omega, by rw [hb10]; omega, by omega, ?_⟩
        simp only [m_law_b4]
        simp only [↓execM, ↓evalM, ↓evalL, ↓truthM, ↓allM, ↓boolM, ↓testM, ↓getS, ↓setS, ↓setMany, ↓retK_ret, ↓retK_next, ↓useS_val, ↓ownS_own, ↓negK_int, ↓tupK_tuple, ↓tupK_list, ↓intsK_int, ↓truthK_none, ↓truthK_bool, ↓truthK_int, ↓truthK_str, ↓itemsK_list, ↓itemsK_range, ↓itemsK_str, ↓partK_none, ↓partK_int, ↓sliceM_list, ↓sliceM_str, ↓itemM_list, ↓itemM_str, ↓itemM_dict, ↓strK_str, ↓methM_rstrip, ↓methM_join, ↓bltM_abs, ↓bltM_len, ↓bltM_range, ↓bltM_max, ↓bltM_divmod, ↓bltM_range2, ↓bltM_lenS, ↓bltM_str, ↓bltM_intS, ↓bltM_intB, ↓bltM_ord, ↓bltM_sum, ↓bltM_list, ↓bltM_maxL, ↓binM_Add, ↓binM_Sub, ↓binM_Mult, ↓binM_FloorDiv, ↓binM_Mod, ↓binM_Pow, ↓binM_LShift, ↓binM_RShift, ↓binM_BitAnd, ↓binM_AddB, ↓binM_AddS, ↓binM_AddL, ↓binM_MultS, ↓cmpM_Eq, ↓cmpM_EqL, ↓cmpM_NotEqL, ↓cmpM_EqB, ↓cmpM_NotEqB, ↓cmpM_EqS, ↓cmpM_NotEqS, ↓cmpM_EqNN, ↓cmpM_EqNI, ↓cmpM_EqIN, ↓cmpM_NotEqNN, ↓cmpM_NotEqNI, ↓cmpM_NotEqIN, ↓cmpM_InS, ↓cmpM_NotInS, ↓cmpM_LtS, ↓cmpM_GtS, ↓cmpM_IsNN, ↓cmpM_IsIN, ↓cmpM_IsNotNN, ↓cmpM_IsNotIN, ↓cmpM_InL, ↓cmpM_NotInL, ↓cmpM_NotEq, ↓cmpM_Lt, ↓cmpM_LtE, ↓cmpM_Gt, ↓cmpM_GtE, ↓turnK_next, ↓turnK_cont, ↓turnK_brk, ↓turnK_ret, ↓seqK_next, ↓seqK_cont, ↓seqK_brk, ↓seqK_ret, ↓stops_And, ↓stops_Or, ↓List.reverse_cons, ↓List.reverse_nil, ↓List.nil_append, ↓List.cons_append]
        exact hR' _ (by simp)
      · rintro σ R' rfl
        simp only [m_law_t3]
        simp only [↓execM, ↓evalM, ↓evalL, ↓truthM, ↓allM, ↓boolM, ↓testM, ↓getS, ↓setS, ↓setMany, ↓retK_ret, ↓retK_next, ↓useS_val, ↓ownS_own, ↓negK_int, ↓tupK_tuple, ↓tupK_list, ↓intsK_int, ↓truthK_none, ↓truthK_bool, ↓truthK_int, ↓truthK_str, ↓itemsK_list, ↓itemsK_range, ↓itemsK_str, ↓partK_none, ↓partK_int, ↓sliceM_list, ↓sliceM_str, ↓itemM_list, ↓itemM_str, ↓itemM_dict, ↓strK_str, ↓methM_rstrip, ↓methM_join, ↓bltM_abs, ↓bltM_len, ↓bltM_range, ↓bltM_max, ↓bltM_divmod, ↓bltM_range2, ↓bltM_lenS, ↓bltM_str, ↓bltM_intS, ↓bltM_intB, ↓bltM_ord, ↓bltM_sum, ↓bltM_list, ↓bltM_maxL, ↓binM_Add, ↓binM_Sub, ↓binM_Mult, ↓binM_FloorDiv, ↓binM_Mod, ↓binM_Pow, ↓binM_LShift, ↓binM_RShift, ↓binM_BitAnd, ↓binM_AddB, ↓binM_AddS, ↓binM_AddL, ↓binM_MultS, ↓cmpM_Eq, ↓cmpM_EqL, ↓cmpM_NotEqL, ↓cmpM_EqB, ↓cmpM_NotEqB, ↓cmpM_EqS, ↓cmpM_NotEqS, ↓cmpM_EqNN, ↓cmpM_EqNI, ↓cmpM_EqIN, ↓cmpM_NotEqNN, ↓cmpM_NotEqNI, ↓cmpM_NotEqIN, ↓cmpM_InS, ↓cmpM_NotInS, ↓cmpM_LtS, ↓cmpM_GtS, ↓cmpM_IsNN, ↓cmpM_IsIN, ↓cmpM_IsNotNN, ↓cmpM_IsNotIN, ↓cmpM_InL, ↓cmpM_NotInL, ↓cmpM_NotEq, ↓cmpM_Lt, ↓cmpM_LtE, ↓cmpM_Gt, ↓cmpM_GtE, ↓turnK_next, ↓turnK_cont, ↓turnK_brk, ↓turnK_ret, ↓seqK_next, ↓seqK_cont, ↓seqK_brk, ↓seqK_ret, ↓stops_And, ↓stops_Or, ↓List.reverse_cons, ↓List.reverse_nil, ↓List.nil_append, ↓List.cons_append]
        have e3 : ((v : Int) + 1).toNat = v + 1 := by omega
        have hp : (0 : Int) < 10 ^ (v + 1) := Int.pow_pos (by decide)
        have hpv : (0 : Int) < 10 ^ v := Int.pow_pos (by decide)
        rw [e3, fmod_pos hp]
        have h1 : ¬ (size : Int) % 10 ^ (v + 1) = 0 := fun h => by
          obtain ⟨k, hk⟩ := Int.dvd_of_emod_eq_zero h
          rw [hv, Int.pow_succ, Int.mul_assoc] at hk
          have := Int.eq_of_mul_eq_mul_left (Int.ne_of_gt hpv) hk
          omega
        have h2 : ((size : Int) % 10 ^ (v + 1) == 0) = false := by simpa using h1
        rw [h2, if_neg (by decide)]
        refine ⟨by omega, by rw [hb10]; omega, by omega, ?_⟩
        rw [Int.toNat_natCast, fdiv_pos hpv]
        have hdiv : (size : Int) / 10 ^ v = m := by
          have := Int.mul_ediv_cancel_left m (Int.ne_of_gt hpv)
          rw [← hv] at this; exact this
        rw [hdiv]
        have hmb : m.natAbs < 2 ^ 40 := by
          refine Nat.lt_of_le_of_lt ?_ hsb
          have := nat_le_mul (x := m) (Int.ne_of_gt hpv)
          rw [Int.mul_comm, ← hv] at this
          exact this
        have hml2 := log_bd hmb (show 40 ≤ 1920 by decide) (by decide)
        have e4 : -(bh al N : Int) - (v : Int) = -((bh al N + v : Nat) : Int) := by omega
        have e5 : (size : Int) * 10 ^ bh al N = m * 10 ^ (bh al N + v) := by
          rw [hv, Int.pow_add]; ac_rfl
        refine ⟨hdls.1, hdls.2 _ _ ⟨_, _, rfl, by omega, by omega, fun h => ?_, fun h => hwl, ?_⟩⟩
        · rw [show (-(bh al N : Int) - (v : Int)).toNat = 0 by omega]
          exact IntMulOk.of_le (bits_le hwb) (bits_le (bd_ten 0)) (by omega)
        rw [e4, dlsV_le _ e5]
        simp only [↓execM, ↓evalM, ↓evalL, ↓truthM, ↓allM, ↓boolM, ↓testM, ↓getS, ↓setS, ↓setMany, ↓retK_ret, ↓retK_next, ↓useS_val, ↓ownS_own, ↓negK_int, ↓tupK_tuple, ↓tupK_list, ↓intsK_int, ↓truthK_none, ↓truthK_bool, ↓truthK_int, ↓truthK_str, ↓itemsK_list, ↓itemsK_range, ↓itemsK_str, ↓partK_none, ↓partK_int, ↓sliceM_list, ↓sliceM_str, ↓itemM_list, ↓itemM_str, ↓itemM_dict, ↓strK_str, ↓methM_rstrip, ↓methM_join, ↓bltM_abs, ↓bltM_len, ↓bltM_range, ↓bltM_max, ↓bltM_divmod, ↓bltM_range2, ↓bltM_lenS, ↓bltM_str, ↓bltM_intS, ↓bltM_intB, ↓bltM_ord, ↓bltM_sum, ↓bltM_list, ↓bltM_maxL, ↓binM_Add, ↓binM_Sub, ↓binM_Mult, ↓binM_FloorDiv, ↓binM_Mod, ↓binM_Pow, ↓binM_LShift, ↓binM_RShift, ↓binM_BitAnd, ↓binM_AddB, ↓binM_AddS, ↓binM_AddL, ↓binM_MultS, ↓cmpM_Eq, ↓cmpM_EqL, ↓cmpM_NotEqL, ↓cmpM_EqB, ↓cmpM_NotEqB, ↓cmpM_EqS, ↓cmpM_NotEqS, ↓cmpM_EqNN, ↓cmpM_EqNI, ↓cmpM_EqIN, ↓cmpM_NotEqNN, ↓cmpM_NotEqNI, ↓cmpM_NotEqIN, ↓cmpM_InS, ↓cmpM_NotInS, ↓cmpM_LtS, ↓cmpM_GtS, ↓cmpM_IsNN, ↓cmpM_IsIN, ↓cmpM_IsNotNN, ↓cmpM_IsNotIN, ↓cmpM_InL, ↓cmpM_NotInL, ↓cmpM_NotEq, ↓cmpM_Lt, ↓cmpM_LtE, ↓cmpM_Gt, ↓cmpM_GtE, ↓turnK_next, ↓turnK_cont, ↓turnK_brk, ↓turnK_ret, ↓seqK_next, ↓seqK_cont, ↓seqK_brk, ↓seqK_ret, ↓stops_And, ↓stops_Or, ↓List.reverse_cons, ↓List.reverse_nil, ↓List.nil_append, ↓List.cons_append]
        have k5 : (!(decS m == decS m)) = false := by simp
        rw [k5, if_neg (by decide)]
        refine ⟨hml2, by omega, by rw [hb10]; omega, by omega, noPylong9 (bd_up (bd_ten v) (by omega)), hml2, hdls.1, hdls.2 _ _ ⟨_, _, rfl, by omega, by omega, fun h => by omega, fun h => hwl, ?_⟩⟩
        have r2 : dlsV ((size : Int) * 10 ^ bh al N) (-((bh al N + v : Nat) : Int) - 1) = .none := by
          refine dlsV_no (by omega) ?_
          rw [show (-(-((bh al N + v : Nat) : Int) - 1)).toNat = (bh al N + v) + 1 by omega, e5]
          rintro ⟨k, hk⟩
          rw [Int.pow_succ, Int.mul_comm m, Int.mul_assoc] at hk
          have := Int.eq_of_mul_eq_mul_left (show (10 : Int) ^ (bh al N + v) ≠ 0 from Int.ne_of_gt (Int.pow_pos (by decide))) hk
          omega
        rw [r2]
        simp only [↓execM, ↓evalM, ↓evalL, ↓truthM, ↓allM, ↓boolM, ↓testM, ↓getS, ↓setS, ↓setMany, ↓retK_ret, ↓retK_next, ↓useS_val, ↓ownS_own, ↓negK_int, ↓tupK_tuple, ↓tupK_list, ↓intsK_int, ↓truthK_none, ↓truthK_bool, ↓truthK_int, ↓truthK_str, ↓itemsK_list, ↓itemsK_range, ↓itemsK_str, ↓partK_none, ↓partK_int, ↓sliceM_list, ↓sliceM_str, ↓itemM_list, ↓itemM_str, ↓itemM_dict, ↓strK_str, ↓methM_rstrip, ↓methM_join, ↓bltM_abs, ↓bltM_len, ↓bltM_range, ↓bltM_max, ↓bltM_divmod, ↓bltM_range2, ↓bltM_lenS, ↓bltM_str, ↓bltM_intS, ↓bltM_intB, ↓bltM_ord, ↓bltM_sum, ↓bltM_list, ↓bltM_maxL, ↓binM_Add, ↓binM_Sub, ↓binM_Mult, ↓binM_FloorDiv, ↓binM_Mod, ↓binM_Pow, ↓binM_LShift, ↓binM_RShift, ↓binM_BitAnd, ↓binM_AddB, ↓binM_AddS, ↓binM_AddL, ↓binM_MultS, ↓cmpM_Eq, ↓cmpM_EqL, ↓cmpM_NotEqL, ↓cmpM_EqB, ↓cmpM_NotEqB, ↓cmpM_EqS, ↓cmpM_NotEqS, ↓cmpM_EqNN, ↓cmpM_EqNI, ↓cmpM_EqIN, ↓cmpM_NotEqNN, ↓cmpM_NotEqNI, ↓cmpM_NotEqIN, ↓cmpM_InS, ↓cmpM_NotInS, ↓cmpM_LtS, ↓cmpM_GtS, ↓cmpM_IsNN, ↓cmpM_IsIN, ↓cmpM_IsNotNN, ↓cmpM_IsNotIN, ↓cmpM_InL, ↓cmpM_NotInL, ↓cmpM_NotEq, ↓cmpM_Lt, ↓cmpM_LtE, ↓cmpM_Gt, ↓cmpM_GtE, ↓turnK_next, ↓turnK_cont, ↓turnK_brk, ↓turnK_ret, ↓seqK_next, ↓seqK_cont, ↓seqK_brk, ↓seqK_ret, ↓stops_And, ↓stops_Or, ↓List.reverse_cons, ↓List.reverse_nil, ↓List.nil_append, ↓List.cons_append]
        simp only [Bool.false_eq_true, if_false]
        exact hR _ _ _ _ _ _ _ _ _ _ _ _ _ _ _
end Mine
end part_L10a
section part_L10b
set_option Elab.async false
set_option linter.unusedVariables false
set_option linter.unusedSimpArgs false
namespace Mine
open PySem PySem.W PyProof.Rows PySem.NumText
noncomputable def sp_law (args : List PV) (P : PV → Prop) : Prop := ∃ ns : List Int, args = [.list (ns.map .int)] ∧ ns.length ≤ 63 ∧ P (.bool true)
set_option maxRecDepth 20000 in
theorem law_ok (Φ : Fenv) (hdls : Has Φ "_decimal_lshift_exact" sp_dls) (hfa : Has Φ "_format_align" sp_fa) (hfs : Has Φ "_format_sign" sp_fs) (hwo : Has Φ "_law_worth" sp_wo) (args : List PV) (P : PV → Prop) (h : sp_law args P) : args.length = 1 ∧ execM Φ m_law (slots0 args (nm_law.length - args.length)) (retK P) := by
  obtain ⟨ns, rfl, hlen, hP⟩ := h
  refine ⟨rfl, ?_⟩
  have hb10 : (bits 10 : Int) = 4 := by decide
  simp only [m_law, nm_law, slots0, List.map, List.length, List.replicate, List.cons_append, List.nil_append]
  simp only [↓execM, ↓evalM, ↓evalL, ↓truthM, ↓allM, ↓boolM, ↓testM, ↓getS, ↓setS, ↓setMany, ↓retK_ret, ↓retK_next, ↓useS_val, ↓ownS_own, ↓negK_int, ↓tupK_tuple, ↓tupK_list, ↓intsK_int, ↓truthK_none, ↓truthK_bool, ↓truthK_int, ↓truthK_str, ↓itemsK_list, ↓itemsK_range, ↓itemsK_str, ↓partK_none, ↓partK_int, ↓sliceM_list, ↓sliceM_str, ↓itemM_list, ↓itemM_str, ↓itemM_dict, ↓strK_str, ↓methM_rstrip, ↓methM_join, ↓bltM_abs, ↓bltM_len, ↓bltM_range, ↓bltM_max, ↓bltM_divmod, ↓bltM_range2, ↓bltM_lenS, ↓bltM_str, ↓bltM_intS, ↓bltM_intB, ↓bltM_ord, ↓bltM_sum, ↓bltM_list, ↓bltM_maxL, ↓binM_Add, ↓binM_Sub, ↓binM_Mult, ↓binM_FloorDiv, ↓binM_Mod, ↓binM_Pow, ↓binM_LShift, ↓binM_RShift, ↓binM_BitAnd, ↓binM_AddB, ↓binM_AddS, ↓binM_AddL, ↓binM_MultS, ↓cmpM_Eq, ↓cmpM_EqL, ↓cmpM_NotEqL, ↓cmpM_EqB, ↓cmpM_NotEqB, ↓cmpM_EqS, ↓cmpM_NotEqS, ↓cmpM_EqNN, ↓cmpM_EqNI, ↓cmpM_EqIN, ↓cmpM_NotEqNN, ↓cmpM_NotEqNI, ↓cmpM_NotEqIN, ↓cmpM_InS, ↓cmpM_NotInS, ↓cmpM_LtS, ↓cmpM_GtS, ↓cmpM_IsNN, ↓cmpM_IsIN, ↓cmpM_IsNotNN, ↓cmpM_IsNotIN, ↓cmpM_InL, ↓cmpM_NotInL, ↓cmpM_NotEq, ↓cmpM_Lt, ↓cmpM_LtE, ↓cmpM_Gt, ↓cmpM_GtE, ↓turnK_next, ↓turnK_cont, ↓turnK_brk, ↓turnK_ret, ↓seqK_next, ↓seqK_cont, ↓seqK_brk, ↓seqK_ret, ↓stops_And, ↓stops_Or, ↓List.reverse_cons, ↓List.reverse_nil, ↓List.nil_append, ↓List.cons_append]
  rw [show PV.int 1200 :: PV.int (-30) :: PV.int (-16) :: PV.int (-2) :: PV.int 0 :: ns.map PV.int = ([1200, -30, -16, -2, 0] ++ ns).map PV.int from rfl]
  have hl : ([1200, -30, -16, -2, 0] ++ ns).length ≤ 68 := by simp; omega
  have hl0 : 0 < ([1200, -30, -16, -2, 0] ++ ns).length := by simp
  generalize [1200, -30, -16, -2, 0] ++ ns = N at *
  have hNm : (N.map PV.int).length = N.length := List.length_map ..
  have hnm : (ns.map PV.int).length = ns.length := List.length_map ..
  rw [hNm, hnm]
  refine ⟨by show 5 ≤ 1048576; decide, by omega, by show 5 + _ ≤ _; omega, by omega, by omega, by omega, ?_⟩
  refine forGo_of (fun i σ => ∃ s2 s3 s4 s5 s6 s7 s8 s9 s10 s11 s12 s13 s14 s15 s16 s17, σ = [.val (.list (ns.map .int)), .val (.list (N.map .int)), s2, s3, s4, s5, s6, s7, s8, s9, s10, s11, s12, s13, s14, s15, s16, s17]) ⟨_, _, _, _, _, _, _, _, _, _, _, _, _, _, _, _, rfl⟩ ?_ ?_
  · rintro i v σ R hi ⟨s2, s3, s4, s5, s6, s7, s8, s9, s10, s11, s12, s13, s14, s15, s16, s17, rfl⟩ hR
    have hiN : i < N.length := by
      have := (List.getElem?_eq_some_iff.mp hi).1
      rw [rangeItems_length] at this
      omega
    rw [rangeItems_get (by omega)] at hi
    cases hi
    rw [Int.zero_add]
    have hx : (N.map PV.int)[i]? = some (.int N[i]) := by simp [hiN]
    obtain ⟨j, hj⟩ : ∃ j : Nat, ((i : Int) + 1) % (N.length : Int) = (j : Int) := ⟨(((i : Int) + 1) % (N.length : Int)).toNat, by have := Int.emod_nonneg ((i : Int) + 1) (show (N.length : Int) ≠ 0 by omega); omega⟩
    have hjN : j < N.length := by have := Int.emod_lt_of_pos ((i : Int) + 1) (show 0 < (N.length : Int) by omega); omega
    have hy : (N.map PV.int)[j]? = some (.int N[j]) := by simp [hjN]
    generalize N[i] = x at hx
    generalize N[j] = y at hy
    simp only [m_law_b6]
    simp only [↓execM, ↓evalM, ↓evalL, ↓truthM, ↓allM, ↓boolM, ↓testM, ↓getS, ↓setS, ↓setMany, ↓retK_ret, ↓retK_next, ↓useS_val, ↓ownS_own, ↓negK_int, ↓tupK_tuple, ↓tupK_list, ↓intsK_int, ↓truthK_none, ↓truthK_bool, ↓truthK_int, ↓truthK_str, ↓itemsK_list, ↓itemsK_range, ↓itemsK_str, ↓partK_none, ↓partK_int, ↓sliceM_list, ↓sliceM_str, ↓itemM_list, ↓itemM_str, ↓itemM_dict, ↓strK_str, ↓methM_rstrip, ↓methM_join, ↓bltM_abs, ↓bltM_len, ↓bltM_range, ↓bltM_max, ↓bltM_divmod, ↓bltM_range2, ↓bltM_lenS, ↓bltM_str, ↓bltM_intS, ↓bltM_intB, ↓bltM_ord, ↓bltM_sum, ↓bltM_list, ↓bltM_maxL, ↓binM_Add, ↓binM_Sub, ↓binM_Mult, ↓binM_FloorDiv, ↓binM_Mod, ↓binM_Pow, ↓binM_LShift, ↓binM_RShift, ↓binM_BitAnd, ↓binM_AddB, ↓binM_AddS, ↓binM_AddL, ↓binM_MultS, ↓cmpM_Eq, ↓cmpM_EqL, ↓cmpM_NotEqL, ↓cmpM_EqB, ↓cmpM_NotEqB, ↓cmpM_EqS, ↓cmpM_NotEqS, ↓cmpM_EqNN, ↓cmpM_EqNI, ↓cmpM_EqIN, ↓cmpM_NotEqNN, ↓cmpM_NotEqNI, ↓cmpM_NotEqIN, ↓cmpM_InS, ↓cmpM_NotInS, ↓cmpM_LtS, ↓cmpM_GtS, ↓cmpM_IsNN, ↓cmpM_IsIN, ↓cmpM_IsNotNN, ↓cmpM_IsNotIN, ↓cmpM_InL, ↓cmpM_NotInL, ↓cmpM_NotEq, ↓cmpM_Lt, ↓cmpM_LtE, ↓cmpM_Gt, ↓cmpM_GtE, ↓turnK_next, ↓turnK_cont, ↓turnK_brk, ↓turnK_ret, ↓seqK_next, ↓seqK_cont, ↓seqK_brk, ↓seqK_ret, ↓stops_And, ↓stops_Or, ↓List.reverse_cons, ↓List.reverse_nil, ↓List.nil_append, ↓List.cons_append]
    rw [hNm]
    refine ⟨by omega, .int x, idx _ i rfl hx, ?_⟩
    simp only [↓execM, ↓evalM, ↓evalL, ↓truthM, ↓allM, ↓boolM, ↓testM, ↓getS, ↓setS, ↓setMany, ↓retK_ret, ↓retK_next, ↓useS_val, ↓ownS_own, ↓negK_int, ↓tupK_tuple, ↓tupK_list, ↓intsK_int, ↓truthK_none, ↓truthK_bool, ↓truthK_int, ↓truthK_str, ↓itemsK_list, ↓itemsK_range, ↓itemsK_str, ↓partK_none, ↓partK_int, ↓sliceM_list, ↓sliceM_str, ↓itemM_list, ↓itemM_str, ↓itemM_dict, ↓strK_str, ↓methM_rstrip, ↓methM_join, ↓bltM_abs, ↓bltM_len, ↓bltM_range, ↓bltM_max, ↓bltM_divmod, ↓bltM_range2, ↓bltM_lenS, ↓bltM_str, ↓bltM_intS, ↓bltM_intB, ↓bltM_ord, ↓bltM_sum, ↓bltM_list, ↓bltM_maxL, ↓binM_Add, ↓binM_Sub, ↓binM_Mult, ↓binM_FloorDiv, ↓binM_Mod, ↓binM_Pow, ↓binM_LShift, ↓binM_RShift, ↓binM_BitAnd, ↓binM_AddB, ↓binM_AddS, ↓binM_AddL, ↓binM_MultS, ↓cmpM_Eq, ↓cmpM_EqL, ↓cmpM_NotEqL, ↓cmpM_EqB, ↓cmpM_NotEqB, ↓cmpM_EqS, ↓cmpM_NotEqS, ↓cmpM_EqNN, ↓cmpM_EqNI, ↓cmpM_EqIN, ↓cmpM_NotEqNN, ↓cmpM_NotEqNI, ↓cmpM_NotEqIN, ↓cmpM_InS, ↓cmpM_NotInS, ↓cmpM_LtS, ↓cmpM_GtS, ↓cmpM_IsNN, ↓cmpM_IsIN, ↓cmpM_IsNotNN, ↓cmpM_IsNotIN, ↓cmpM_InL, ↓cmpM_NotInL, ↓cmpM_NotEq, ↓cmpM_Lt, ↓cmpM_LtE, ↓cmpM_Gt, ↓cmpM_GtE, ↓turnK_next, ↓turnK_cont, ↓turnK_brk, ↓turnK_ret, ↓seqK_next, ↓seqK_cont, ↓seqK_brk, ↓seqK_ret, ↓stops_And, ↓stops_Or, ↓List.reverse_cons, ↓List.reverse_nil, ↓List.nil_append, ↓List.cons_append]
    rw [absI, fmod_pos (Int.pow_pos (by decide)), fmod_pos (by omega), hj]
    refine ⟨by decide, by rw [hb10]; decide, Int.ne_of_gt (Int.pow_pos (by decide)), by omega, by omega, by omega, .int y, idx _ j rfl hy, ?_⟩
    simp only [↓execM, ↓evalM, ↓evalL, ↓truthM, ↓allM, ↓boolM, ↓testM, ↓getS, ↓setS, ↓setMany, ↓retK_ret, ↓retK_next, ↓useS_val, ↓ownS_own, ↓negK_int, ↓tupK_tuple, ↓tupK_list, ↓intsK_int, ↓truthK_none, ↓truthK_bool, ↓truthK_int, ↓truthK_str, ↓itemsK_list, ↓itemsK_range, ↓itemsK_str, ↓partK_none, ↓partK_int, ↓sliceM_list, ↓sliceM_str, ↓itemM_list, ↓itemM_str, ↓itemM_dict, ↓strK_str, ↓methM_rstrip, ↓methM_join, ↓bltM_abs, ↓bltM_len, ↓bltM_range, ↓bltM_max, ↓bltM_divmod, ↓bltM_range2, ↓bltM_lenS, ↓bltM_str, ↓bltM_intS, ↓bltM_intB, ↓bltM_ord, ↓bltM_sum, ↓bltM_list, ↓bltM_maxL, ↓binM_Add, ↓binM_Sub, ↓binM_Mult, ↓binM_FloorDiv, ↓binM_Mod, ↓binM_Pow, ↓binM_LShift, ↓binM_RShift, ↓binM_BitAnd, ↓binM_AddB, ↓binM_AddS, ↓binM_AddL, ↓binM_MultS, ↓cmpM_Eq, ↓cmpM_EqL, ↓cmpM_NotEqL, ↓cmpM_EqB, ↓cmpM_NotEqB, ↓cmpM_EqS, ↓cmpM_NotEqS, ↓cmpM_EqNN, ↓cmpM_EqNI, ↓cmpM_EqIN, ↓cmpM_NotEqNN, ↓cmpM_NotEqNI, ↓cmpM_NotEqIN, ↓cmpM_InS, ↓cmpM_NotInS, ↓cmpM_LtS, ↓cmpM_GtS, ↓cmpM_IsNN, ↓cmpM_IsIN, ↓cmpM_IsNotNN, ↓cmpM_IsNotIN, ↓cmpM_InL, ↓cmpM_NotInL, ↓cmpM_NotEq, ↓cmpM_Lt, ↓cmpM_LtE, ↓cmpM_Gt, ↓cmpM_GtE, ↓turnK_next, ↓turnK_cont, ↓turnK_brk, ↓turnK_ret, ↓seqK_next, ↓seqK_cont, ↓seqK_brk, ↓seqK_ret, ↓stops_And, ↓stops_Or, ↓List.reverse_cons, ↓List.reverse_nil, ↓List.nil_append, ↓List.cons_append]
    rw [fmod_pos (by decide), fmod_pos (by decide), fmod_pos (by decide)]
    obtain ⟨j4, al, h4, ha4, hal⟩ := al_at ((i : Int) + x)
    obtain ⟨j3, c, h3, hc, hmk⟩ := sg_at ((i : Int) + x)
    refine ⟨by decide, by decide, by show 4 ≤ 16777216; decide, al, idx _ j4 h4 ha4, ?_⟩
    have hs9 : (10 : Int) ^ (9 : Int).toNat = ((10 ^ 9 : Nat) : Int) := by decide
    obtain ⟨size, hsize⟩ : ∃ size : Nat, (x.natAbs : Int) % 10 ^ (9 : Int).toNat = (size : Int) := ⟨x.natAbs % 10 ^ 9, by rw [hs9]; omega⟩
    have hsz : size < 10 ^ 9 := by
      have := Int.emod_lt_of_pos (x.natAbs : Int) (show 0 < (10 : Int) ^ (9 : Int).toNat from Int.pow_pos (by decide))
      rw [hsize, hs9] at this
      omega
    rw [hsize]
    have fin : execM Φ m_law_k5 [.val (.list (ns.map .int)), .val (.list (N.map .int)), .val (.int (i : Int)), .val (.int x), .val (.int ((i : Int) + x)), .val (.int (size : Int)), .val (.int ((x + y) % 29 - 4)), .val (.str [al]), .val (.str (fs (decide (x < 0)) c)), s9, s10, s11, s12, s13, s14, s15, s16, s17] (fun f σ' => turnK f σ' (fun f σ' => seqK f σ' (retK P) (retK P (.ret (.bool true)) σ')) (R σ')) :=
      turn10 Φ hdls hfa hfs hwo hal h3 hc hsz (by omega) (by omega) fun _ _ _ _ _ _ _ _ _ _ _ _ _ _ _ => hR _ ⟨_, _, _, _, _, _, _, _, _, _, _, _, _, _, _, _, rfl⟩
    by_cases hx0 : x < 0
    · rw [decide_eq_true hx0] at fin ⊢
      rw [if_pos rfl]
      exact fin
    · rw [decide_eq_false hx0] at fin ⊢
      rw [if_neg (by decide)]
      refine ⟨by show 3 ≤ 1048576; decide, by decide, by show 3 ≤ 16777216; decide, .str (fs false c), idx _ j3 h3 hmk, fin⟩
  · rintro σ ⟨s2, s3, s4, s5, s6, s7, s8, s9, s10, s11, s12, s13, s14, s15, s16, s17, rfl⟩
    simp only [↓execM, ↓evalM, ↓evalL, ↓truthM, ↓allM, ↓boolM, ↓testM, ↓getS, ↓setS, ↓setMany, ↓retK_ret, ↓retK_next, ↓useS_val, ↓ownS_own, ↓negK_int, ↓tupK_tuple, ↓tupK_list, ↓intsK_int, ↓truthK_none, ↓truthK_bool, ↓truthK_int, ↓truthK_str, ↓itemsK_list, ↓itemsK_range, ↓itemsK_str, ↓partK_none, ↓partK_int, ↓sliceM_list, ↓sliceM_str, ↓itemM_list, ↓itemM_str, ↓itemM_dict, ↓strK_str, ↓methM_rstrip, ↓methM_join, ↓bltM_abs, ↓bltM_len, ↓bltM_range, ↓bltM_max, ↓bltM_divmod, ↓bltM_range2, ↓bltM_lenS, ↓bltM_str, ↓bltM_intS, ↓bltM_intB, ↓bltM_ord, ↓bltM_sum, ↓bltM_list, ↓bltM_maxL, ↓binM_Add, ↓binM_Sub, ↓binM_Mult, ↓binM_FloorDiv, ↓binM_Mod, ↓binM_Pow, ↓binM_LShift, ↓binM_RShift, ↓binM_BitAnd, ↓binM_AddB, ↓binM_AddS, ↓binM_AddL, ↓binM_MultS, ↓cmpM_Eq, ↓cmpM_EqL, ↓cmpM_NotEqL, ↓cmpM_EqB, ↓cmpM_NotEqB, ↓cmpM_EqS, ↓cmpM_NotEqS, ↓cmpM_EqNN, ↓cmpM_EqNI, ↓cmpM_EqIN, ↓cmpM_NotEqNN, ↓cmpM_NotEqNI, ↓cmpM_NotEqIN, ↓cmpM_InS, ↓cmpM_NotInS, ↓cmpM_LtS, ↓cmpM_GtS, ↓cmpM_IsNN, ↓cmpM_IsIN, ↓cmpM_IsNotNN, ↓cmpM_IsNotIN, ↓cmpM_InL, ↓cmpM_NotInL, ↓cmpM_NotEq, ↓cmpM_Lt, ↓cmpM_LtE, ↓cmpM_Gt, ↓cmpM_GtE, ↓turnK_next, ↓turnK_cont, ↓turnK_brk, ↓turnK_ret, ↓seqK_next, ↓seqK_cont, ↓seqK_brk, ↓seqK_ret, ↓stops_And, ↓stops_Or, ↓List.reverse_cons, ↓List.reverse_nil, ↓List.nil_append, ↓List.cons_append]
    exact hP
end Mine
end part_L10b
section part_F10
open PySem PySem.W PyProof.Rows Mine
set_option linter.unusedVariables false
set_option maxRecDepth 100000 in
set_option maxHeartbeats 8000000 in
theorem PySem.Challenge.cw_dm0264_10_holds : PySem.Challenge.rw_dm0264_10.Holds := by
  w_on
  o_law
  k_head
  (case hw => w_witness2)
  k_fill
  intro w s₀ s₁ mg mb G Y fa o pm cd doc dV kV ho hd hcd hD hmg hg args vals as hpre hlay hrd hwl hlo
  refine Ground.open G ?_
  intro T B D TE TW
  wrow_args hpre hlay hrd hwl hlo
  refine enter_call ?_
  refine codeAny_mono ?_ (fun _ _ g => GoodW.toG g)
  have LL := law_of_top (prog := PySem.Challenge.pw_dm0264_10) (w := w) T (by decide +kernel)
  obtain ⟨a1, o1, pm1, cd1, doc1, e1, f1, g1, c1⟩ := fn_at T 0 rfl
  obtain ⟨a2, o2, pm2, cd2, doc2, e2, f2, g2, c2⟩ := fn_at T 1 rfl
  obtain ⟨a3, o3, pm3, cd3, doc3, e3, f3, g3, c3⟩ := fn_at T 2 rfl
  obtain ⟨a4, o4, pm4, cd4, doc4, e4, f4, g4, c4⟩ := fn_at T 3 rfl
  obtain ⟨a5, o5, pm5, cd5, doc5, e5, f5, g5, c5⟩ := fn_at T 4 rfl
  have F1 := addFn_ok (d := 0) (f := "_decimal_lshift_exact") (spec := sp_dls) (nm := nm_decimal_lshift_exact) (m := m_decimal_lshift_exact) LL noFn_ok e1 f1 g1 c1 (by decide +kernel) (fun vs h => match vs, h with | [_, _], _ => rfl) (dls_ok _)
  have F2 := addFn_ok (f := "_format_align") (spec := sp_fa) (nm := nm_format_align) (m := m_format_align) LL F1 e2 f2 g2 c2 (by decide +kernel) (fun vs h => match vs, h with | [_, _, _], _ => rfl) (fa_ok _)
  have F3 := addFn_ok (f := "_format_sign") (spec := sp_fs) (nm := nm_format_sign) (m := m_format_sign) LL F2 e3 f3 g3 c3 (by decide +kernel) (fun vs h => match vs, h with | [_, _], _ => rfl) (fs_ok _)
  have F4 := addFn_ok (f := "_law_worth") (spec := sp_wo) (nm := nm_law_worth) (m := m_law_worth) LL F3 e4 f4 g4 c4 (by decide +kernel) (fun vs h => match vs, h with | [_], _ => rfl) (wo_ok _)
  have e := Option.some.inj (hmg.symm.trans e5)
  cases e
  rename_i ns _ _ _ _ _ _ _ la vs _ hL _ _ _ hI _ hc _
  have hlen : ns.length ≤ 63 := by omega
  exact good_of hg (fn_code (nm := nm_law) (m := m_law) LL F4 f5 g5 c5 (by decide +kernel) (fun vs h => match vs, h with | [_], _ => rfl) (args := [.list (ns.map .int)]) (P := fun p => p = .bool true) rfl (And.right (law_ok _ ((((Has.self noFn "_decimal_lshift_exact" sp_dls).next (by decide)).next (by decide)).next (by decide)) (((Has.self _ "_format_align" sp_fa).next (by decide)).next (by decide)) ((Has.self _ "_format_sign" sp_fs).next (by decide)) (Has.self _ _ _) [.list (ns.map .int)] (fun p => p = .bool true) ⟨ns, rfl, hlen, rfl⟩)) ⟨rfl, by decide, by decide⟩ (fun _ _ h => h) (fun _ _ h => h) (.cons (list_rep hL hI) .nil))
end part_F10
