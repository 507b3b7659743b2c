import PyProof.Rows.All
import Wide.All
import OpenK.AllK
import Wide.FinOn
import PySem.Challenge.RW_tr0002_01
set_option Elab.async false
set_option linter.all false
set_option genSizeOf false
set_option genInjectivity false
section
set_option maxRecDepth 100000
namespace Mine
open PySem

inductive IOp | add | sub | max | min | fdiv | fmod | band | bor | shl
inductive FOp | add | sub | mul | div | mod | max | min

/-- reified numbers: ints and floats over int variables -/
inductive T
  | lit (n : Int)
  | var (k : Nat)
  | iop (o : IOp) (a b : T)
  | trunc (a : T)
  | flit (x : Nat)
  | fop (o : FOp) (a b : T)
  | quot (a b : T)
  | ofi (a : T)

noncomputable def IOp.run : IOp → Int → Int → Int
  | .add, a, b => a + b
  | .sub, a, b => a - b
  | .max, a, b => if b > a then b else a
  | .min, a, b => if b < a then b else a
  | .fdiv, a, b => a.fdiv b
  | .fmod, a, b => a.fmod b
  | .band, a, b => ((a.toNat &&& b.toNat : Nat) : Int)
  | .bor, a, b => ((a.toNat ||| b.toNat : Nat) : Int)
  | .shl, a, b => a * 2 ^ b.toNat

noncomputable def fltMax (a b : UInt64) : UInt64 := if Float64.cmp a b == some .lt then b else a
noncomputable def fltMin (a b : UInt64) : UInt64 := if Float64.cmp b a == some .lt then b else a

noncomputable def FOp.run : FOp → UInt64 → UInt64 → UInt64
  | .add, a, b => Float64.add a b
  | .sub, a, b => Float64.sub a b
  | .mul, a, b => Float64.mul a b
  | .div, a, b => Float64.div a b
  | .mod, a, b => (Float64.divmod a b).2
  | .max, a, b => fltMax a b
  | .min, a, b => fltMin a b

noncomputable def truncI (x : UInt64) : Int := match Float64.decode x with
  | .fin s m e => Float64.truncOf s m e
  | _ => 0

mutual
noncomputable def T.i (σ : Nat → Int) : T → Int
  | .lit n => n
  | .var k => σ k
  | .iop o a b => o.run (a.i σ) (b.i σ)
  | .trunc a => truncI (a.f σ)
  | .flit _ => 0
  | .fop _ _ _ => 0
  | .quot _ _ => 0
  | .ofi _ => 0
noncomputable def T.f (σ : Nat → Int) : T → UInt64
  | .lit _ => 0
  | .var _ => 0
  | .iop _ _ _ => 0
  | .trunc _ => 0
  | .flit x => x.toUInt64
  | .fop o a b => o.run (a.f σ) (b.f σ)
  | .quot a b => Float64.ofFrac (decide (a.i σ < 0) != decide (b.i σ < 0)) (a.i σ).natAbs (b.i σ).natAbs
  | .ofi a => Float64.ofInt (a.i σ)
end

noncomputable def IOp.code : IOp → Nat
  | .add => 0
  | .sub => 1
  | .max => 2
  | .min => 3
  | .fdiv => 4
  | .fmod => 5
  | .band => 6
  | .bor => 7
  | .shl => 8
noncomputable def IOp.ofCode (n : Nat) : IOp := bif Nat.beq n 0 then .add else bif Nat.beq n 1 then .sub else bif Nat.beq n 2 then .max else bif Nat.beq n 3 then .min else bif Nat.beq n 4 then .fdiv else bif Nat.beq n 5 then .fmod else bif Nat.beq n 6 then .band else bif Nat.beq n 7 then .bor else .shl
theorem IOp.of_code (a : IOp) : IOp.ofCode a.code = a := by cases a <;> rfl
noncomputable def IOp.beq (a b : IOp) : Bool := Nat.beq a.code b.code
theorem IOp.beq_eq {a b : IOp} (h : a.beq b = true) : a = b := by rw [← IOp.of_code a, Nat.eq_of_beq_eq_true h, IOp.of_code]
noncomputable def FOp.code : FOp → Nat
  | .add => 0
  | .sub => 1
  | .mul => 2
  | .div => 3
  | .mod => 4
  | .max => 5
  | .min => 6
noncomputable def FOp.ofCode (n : Nat) : FOp := bif Nat.beq n 0 then .add else bif Nat.beq n 1 then .sub else bif Nat.beq n 2 then .mul else bif Nat.beq n 3 then .div else bif Nat.beq n 4 then .mod else bif Nat.beq n 5 then .max else .min
theorem FOp.of_code (a : FOp) : FOp.ofCode a.code = a := by cases a <;> rfl
noncomputable def FOp.beq (a b : FOp) : Bool := Nat.beq a.code b.code
theorem FOp.beq_eq {a b : FOp} (h : a.beq b = true) : a = b := by rw [← FOp.of_code a, Nat.eq_of_beq_eq_true h, FOp.of_code]

noncomputable def T.beq : T → T → Bool
  | .lit a, u => (match u with | .lit b => a == b | _ => false)
  | .var a, u => (match u with | .var b => a == b | _ => false)
  | .iop o a b, u => (match u with | .iop o' a' b' => o.beq o' && (a.beq a' && b.beq b') | _ => false)
  | .trunc a, u => (match u with | .trunc b => a.beq b | _ => false)
  | .flit a, u => (match u with | .flit b => a == b | _ => false)
  | .fop o a b, u => (match u with | .fop o' a' b' => o.beq o' && (a.beq a' && b.beq b') | _ => false)
  | .quot a b, u => (match u with | .quot a' b' => a.beq a' && b.beq b' | _ => false)
  | .ofi a, u => (match u with | .ofi b => a.beq b | _ => false)
theorem and_two {x y : Bool} (h : (x && y) = true) : x = true ∧ y = true := by rw [Bool.and_eq_true] at h; exact h
theorem T.beq_eq : ∀ {a b : T}, a.beq b = true → a = b := by
  intro a
  induction a with
  | lit n => intro b h; cases b <;> first | (cases h; done) | exact congrArg T.lit (beq_iff_eq.mp h)
  | var n => intro b h; cases b <;> first | (cases h; done) | exact congrArg T.var (beq_iff_eq.mp h)
  | flit n => intro b h; cases b <;> first | (cases h; done) | exact congrArg T.flit (beq_iff_eq.mp h)
  | iop o a b ha hb => intro c h; cases c <;> first | (cases h; done) | (have h1 := and_two h; have h2 := and_two h1.2; rw [IOp.beq_eq h1.1, ha h2.1, hb h2.2])
  | fop o a b ha hb => intro c h; cases c <;> first | (cases h; done) | (have h1 := and_two h; have h2 := and_two h1.2; rw [FOp.beq_eq h1.1, ha h2.1, hb h2.2])
  | quot a b ha hb => intro c h; cases c <;> first | (cases h; done) | (have h1 := and_two h; rw [ha h1.1, hb h1.2])
  | trunc a ha => intro c h; cases c <;> first | (cases h; done) | exact congrArg T.trunc (ha h)
  | ofi a ha => intro c h; cases c <;> first | (cases h; done) | exact congrArg T.ofi (ha h)

/-- conditions that the facts at hand decide -/
inductive Cond
  | ieq (a b : T)
  | ilt (a b : T)
  | feq (a b : T)
  | fz (a : T)
  | finf (a : T)
  | ffin (a : T)
noncomputable def Cond.holds (σ : Nat → Int) : Cond → Bool
  | .ieq a b => a.i σ == b.i σ
  | .ilt a b => decide (a.i σ < b.i σ)
  | .feq a b => Float64.cmp (a.f σ) (b.f σ) == some .eq
  | .fz a => Float64.isZero (a.f σ)
  | .finf a => Float64.isInf (a.f σ)
  | .ffin a => Float64.isFinite (a.f σ)
noncomputable def Cond.beq : Cond → Cond → Bool
  | .ieq a b, d => (match d with | .ieq a' b' => a.beq a' && b.beq b' | _ => false)
  | .ilt a b, d => (match d with | .ilt a' b' => a.beq a' && b.beq b' | _ => false)
  | .feq a b, d => (match d with | .feq a' b' => a.beq a' && b.beq b' | _ => false)
  | .fz a, d => (match d with | .fz a' => a.beq a' | _ => false)
  | .finf a, d => (match d with | .finf a' => a.beq a' | _ => false)
  | .ffin a, d => (match d with | .ffin a' => a.beq a' | _ => false)
theorem Cond.beq_eq {c d : Cond} (h : c.beq d = true) : c = d := by
  cases c <;> cases d <;> first | (cases h; done) | (have h1 := and_two h; rw [T.beq_eq h1.1, T.beq_eq h1.2]; done) | (have h1 := T.beq_eq h; rw [h1])

inductive Res (α : Type)
  | ok (a : α)
  | need (c : Cond)
  | err (n : Nat)
noncomputable def Res.bind {α β : Type} (x : Res α) (f : α → Res β) : Res β := match x with
  | .ok a => f a
  | .need c => .need c
  | .err n => .err n
theorem Res.bind_ok {α β : Type} {x : Res α} {f : α → Res β} {b : β} (h : x.bind f = .ok b) : ∃ a, x = .ok a ∧ f a = .ok b := by
  cases x with
  | ok a => exact ⟨a, rfl, h⟩
  | need c => cases h
  | err n => cases h

noncomputable def Cond.lit? : Cond → Option Bool
  | .ieq (.lit a) (.lit b) => some (a == b)
  | .ilt (.lit a) (.lit b) => some (decide (a < b))
  | _ => none
noncomputable def dec (t : Cond → Option Bool) (c : Cond) : Res Bool := match c.lit? with
  | some b => .ok b
  | none => match t c with
    | some b => .ok b
    | none => .need c

/-- the built-ins that are named -/
inductive BI | max | min | sum | iter | next | range | bytes | int
noncomputable def BI.val : BI → Value
  | .max => .builtin "max" | .min => .builtin "min" | .sum => .builtin "sum" | .iter => .builtin "iter" | .next => .builtin "next"
  | .range => .type "range" | .bytes => .type "bytes" | .int => .type "int"

/-- values -/
inductive AV
  | none
  | bool (b : Bool)
  | int (e : T)
  | flt (e : T)
  | bytes (b : List Nat)
  | sb (b : List T)
  | bi (b : BI)
  | obj (k : Nat)
  | gl (a : Nat)
  | sx
  | any

/-- objects that the call makes -/
inductive AO
  | list (p : Bool) (xs : List AV)
  | flist (xs : List AV)
  | tuple (xs : List AV)
  | ns (m : List (Str × AV))
  | cell (v : Option AV)
  | range (a b : Int)
  | itL (k i : Nat)
  | itR (x left : Int)
  | itB (xs : List T) (i : Nat)
  | any

/-- of a dead object nothing is known -/
noncomputable def AO.live : AO → Bool
  | .any => false
  | .flist _ => false
  | _ => true

/-- a tree of objects by number -/
inductive Tr (α : Type)
  | nil
  | node (l : Tr α) (v : Option α) (r : Tr α)
noncomputable def Tr.full {α : Type} : Nat → Tr α
  | 0 => .nil
  | n + 1 => .node (Tr.full n) Option.none (Tr.full n)
noncomputable def Tr.get {α : Type} : Tr α → Nat → Option α
  | .nil, _ => Option.none
  | .node l v r, k => bif Nat.beq k 0 then v else bif Nat.beq (Nat.mod k 2) 1 then l.get (Nat.div k 2) else r.get (Nat.pred (Nat.div k 2))
noncomputable def Tr.set {α : Type} (w : α) : Tr α → Nat → Tr α
  | .nil, _ => .nil
  | .node l v r, k => bif Nat.beq k 0 then .node l (some w) r else bif Nat.beq (Nat.mod k 2) 1 then .node (l.set w (Nat.div k 2)) v r else .node l v (r.set w (Nat.pred (Nat.div k 2)))

/-- the objects that the call has made: their number and their tree -/
structure AH where
  t : Tr AO
  n : Nat
noncomputable def AH.at (H : AH) (k : Nat) : Option AO := bif Nat.blt k H.n then H.t.get k else Option.none
/-- object k is turned -/
noncomputable def AH.put (H : AH) (k : Nat) (o : AO) : Res AH := bif Nat.blt k H.n then .ok ⟨H.t.set o k, H.n⟩ else .err 500
/-- a new object -/
noncomputable def AH.push (H : AH) (o : AO) : Res AH := match (H.t.set o H.n).get H.n with
  | some _ => .ok ⟨H.t.set o H.n, H.n + 1⟩
  | Option.none => .err 501
noncomputable def AH.pushes (H : AH) : List AO → Res AH
  | [] => .ok H
  | o :: r => (H.push o).bind fun H => H.pushes r
noncomputable def AH.of (os : List AO) : Res AH := AH.pushes ⟨Tr.full 9, 0⟩ os

noncomputable def eqNs : List Nat → List Nat → Bool
  | [], [] => true
  | a :: r, b :: s => bif Nat.beq a b then eqNs r s else false
  | _, _ => false
noncomputable def codeL : List Nat → Nat → Nat
  | [], a => a
  | c :: r, a => codeL r (a * 256 + c + 1)
noncomputable def codeS (x : Str) : Nat := codeL x.cps.toList 0
noncomputable def sEq (x y : Str) : Bool := bif Nat.beq (codeS x) (codeS y) then eqNs x.cps.toList y.cps.toList else false
noncomputable def look {α : Type} (x : Str) : List (Str × α) → Option α
  | [] => Option.none
  | (y, v) :: r => bif sEq x y then some v else look x r

structure AEnv where
  scope : Scope
  loc : Nat
  cells : List (Str × Nat)

structure Fn where
  params : List Str
  scope : Scope
  body : List Stmt

/-- what is fixed: the facts, the globals, the defs, the texts that the pattern's sub turns -/
structure Prm where
  tbl : Cond → Option Bool
  hk : Expr → AEnv → AH → Option AV
  glob : Str → Option AV
  fn : Nat → Option Fn
  sub : List Nat → Option (List Nat)
  cnt : List Nat → Nat → Option Nat
  sd : Nat
  spec : Nat → List AV → AH → Option (AV × AH)

inductive AFlow | next | brk | cont | ret (v : AV)

noncomputable def upd (m : List (Str × AV)) (x : Str) (v : AV) : List (Str × AV) := match m with
  | [] => [(x, v)]
  | (y, u) :: r => bif sEq x y then (y, v) :: r else (y, u) :: upd r x v

noncomputable def load (P : Prm) (ae : AEnv) (x : Str) (H : AH) : Res AV :=
  match look x ae.scope.names with
  | some .local => (match H.at ae.loc with
    | some (.ns m) => (match look x m with | some v => .ok v | Option.none => .err 1)
    | _ => .err 2)
  | some .cell => (match look x ae.cells with
    | some c => (match H.at c with | some (.cell (some v)) => .ok v | _ => .err 3)
    | Option.none => .err 4)
  | some .free => bif sEq x "__classdict__" then .err 5 else (match look x ae.cells with
    | some c => (match H.at c with | some (.cell (some v)) => .ok v | _ => .err 6)
    | Option.none => .err 7)
  | some .globalImplicit => (match P.glob x with | some v => .ok v | Option.none => .err 8)
  | _ => .err 9

noncomputable def store (ae : AEnv) (x : Str) (v : AV) (H : AH) : Res AH :=
  match look x ae.scope.names with
  | some .local => (match H.at ae.loc with
    | some (.ns m) => H.put ae.loc (.ns (upd m x v))
    | _ => .err 10)
  | some .cell => (match look x ae.cells with
    | some c => (match H.at c with | some (.cell _) => H.put c (.cell (some v)) | _ => .err 11)
    | Option.none => .err 12)
  | _ => .err 13

noncomputable def tadd (a b : T) : T := match a, b with | .lit x, .lit y => .lit (x + y) | a, b => .iop .add a b
noncomputable def tsub (a b : T) : T := match a, b with | .lit x, .lit y => .lit (x - y) | a, b => .iop .sub a b
noncomputable def tfdiv (a b : T) : T := match a, b with | .lit x, .lit y => .lit (x.fdiv y) | a, b => .iop .fdiv a b
noncomputable def tfmod (a b : T) : T := match a, b with | .lit x, .lit y => .lit (x.fmod y) | a, b => .iop .fmod a b
noncomputable def tmax (a b : T) : T := match a, b with | .lit x, .lit y => .lit (if y > x then y else x) | a, b => .iop .max a b
noncomputable def tmin (a b : T) : T := match a, b with | .lit x, .lit y => .lit (if y < x then y else x) | a, b => .iop .min a b

noncomputable def natLit : AV → Option Nat
  | .int (.lit (.ofNat n)) => some n
  | _ => Option.none

noncomputable def lits (bs : List T) : Option (List Nat) := match bs with
  | [] => some []
  | .lit (.ofNat n) :: r => (lits r).map (n :: ·)
  | _ :: _ => Option.none

noncomputable def opAdd (a b : AV) (H : AH) : Res (AV × AH) := match a with
  | .int x => (match b with | .int y => .ok (.int (tadd x y), H) | _ => .err 20)
  | .flt x => (match b with | .flt y => .ok (.flt (.fop .add x y), H) | _ => .err 21)
  | .bytes x => (match b with | .bytes y => if x.length + y.length ≤ 1000 then .ok (.bytes (x ++ y), H) else .err 22 | _ => .err 23)
  | _ => .err 24
noncomputable def opSub (a b : AV) (H : AH) : Res (AV × AH) := match a with
  | .int x => (match b with | .int y => .ok (.int (tsub x y), H) | _ => .err 25)
  | .flt x => (match b with | .flt y => .ok (.flt (.fop .sub x y), H) | _ => .err 26)
  | _ => .err 27
noncomputable def litOf : AV → Option Nat
  | .int (.lit (.ofNat n)) => some n
  | _ => Option.none
noncomputable def opFDiv (a b : AV) (H : AH) : Res (AV × AH) := match a with
  | .int x => (match litOf b with | some n => if Nat.blt 0 n && Nat.ble n 65536 then .ok (.int (tfdiv x (.lit (.ofNat n))), H) else .err 28 | Option.none => .err 29)
  | _ => .err 30
noncomputable def opMod (P : Prm) (a b : AV) (H : AH) : Res (AV × AH) := match a with
  | .int x => (match litOf b with | some n => if n > 0 then .ok (.int (tfmod x (.lit (.ofNat n))), H) else .err 31 | Option.none => .err 32)
  | .flt x => (match b with | .flt y => (dec P.tbl (.fz y)).bind fun c => if c then .err 33 else .ok (.flt (.fop .mod x y), H) | _ => .err 34)
  | _ => .err 35
noncomputable def opShr (a b : AV) (H : AH) : Res (AV × AH) := match litOf a with
  | some x => (match litOf b with | some y => .ok (.int (.lit (Int.ofNat (x / 2 ^ y))), H) | Option.none => .err 36)
  | Option.none => .err 37
noncomputable def opAnd (P : Prm) (a b : AV) (H : AH) : Res (AV × AH) := match litOf b with
  | some y => (match litOf a with
    | some x => .ok (.int (.lit (Int.ofNat (x &&& y))), H)
    | Option.none => match a with
      | .int x => (dec P.tbl (.ilt x (.lit 0))).bind fun c => if c then .err 38 else .ok (.int (.iop .band x (.lit (.ofNat y))), H)
      | _ => .err 39)
  | Option.none => .err 40
noncomputable def opMul (P : Prm) (a b : AV) (H : AH) : Res (AV × AH) := match litOf b with
  | some n => (match a with
    | .bytes x => if Nat.ble n 1000 && (Nat.ble x.length 16 && Nat.blt 0 x.length) then .ok (.bytes ((List.replicate n x).flatten), H) else .err 41
    | .obj k => (match H.at k with
      | some (.list true xs) => if n * xs.length ≤ 1000 ∧ n ≤ 1000 then (H.push (.list true ((List.replicate n xs).flatten))).bind fun H1 => .ok (.obj H.n, H1) else .err 42
      | _ => .err 43)
    | .flt x => (dec P.tbl (.finf (.ofi (.lit (.ofNat n))))).bind fun c => if c then .err 44 else .ok (.flt (.fop .mul x (.ofi (.lit (.ofNat n)))), H)
    | _ => .err 45)
  | Option.none => .err 46
noncomputable def opDiv (P : Prm) (a b : AV) (H : AH) : Res (AV × AH) := match a with
  | .int x => (match litOf b with
    | some n => if n > 0 then (dec P.tbl (.finf (.quot x (.lit (.ofNat n))))).bind fun c => if c then .err 47 else .ok (.flt (.quot x (.lit (.ofNat n))), H) else .err 48
    | Option.none => .err 49)
  | .flt x => (match b with
    | .flt y => (dec P.tbl (.fz y)).bind fun c => if c then .err 50 else .ok (.flt (.fop .div x y), H)
    | _ => .err 51)
  | _ => .err 52
noncomputable def binop (P : Prm) (o : Operator) (a b : AV) (H : AH) : Res (AV × AH) := match o with
  | .Add => opAdd a b H
  | .Sub => opSub a b H
  | .FloorDiv => opFDiv a b H
  | .Mod => opMod P a b H
  | .RShift => opShr a b H
  | .BitAnd => opAnd P a b H
  | .Mult => opMul P a b H
  | .Div => opDiv P a b H
  | _ => .err 53

noncomputable def iShl (P : Prm) (a b : AV) (H : AH) : Res (AV × AH) := match a with
  | .int x => (match litOf b with
    | some n => if n == 6 then (dec P.tbl (.ilt x (.lit 0))).bind fun c => if c then .err 54 else
        (dec P.tbl (.ilt x (.lit 64))).bind fun d => if d then .ok (.int (.iop .shl x (.lit 6)), H) else .err 55 else .err 56
    | Option.none => .err 57)
  | _ => .err 58
noncomputable def iOr (P : Prm) (a b : AV) (H : AH) : Res (AV × AH) := match a with
  | .int x => (match b with
    | .int y => (dec P.tbl (.ilt x (.lit 0))).bind fun c => if c then .err 59 else
        (dec P.tbl (.ilt y (.lit 0))).bind fun d => if d then .err 60 else .ok (.int (.iop .bor x y), H)
    | _ => .err 61)
  | _ => .err 62
noncomputable def iAddSub (neg : Bool) (a b : AV) (H : AH) : Res (AV × AH) := match a with
  | .int x => (match b with | .int y => .ok (.int (if neg then tsub x y else tadd x y), H) | _ => .err 63)
  | _ => .err 64
noncomputable def iop (P : Prm) (o : Operator) (a b : AV) (H : AH) : Res (AV × AH) := match o with
  | .Add => iAddSub false a b H
  | .Sub => iAddSub true a b H
  | .LShift => iShl P a b H
  | .BitOr => iOr P a b H
  | _ => .err 65

/-- equality of ints, and of lists of ints, and of lists of those -/
noncomputable def eqInts (P : Prm) : List AV → List AV → Res Bool
  | [], [] => .ok true
  | .int a :: r, .int b :: r' => (if a.beq b then .ok true else dec P.tbl (.ieq a b)).bind fun c => (eqInts P r r').bind fun d => .ok (c && d)
  | _, _ => .err 40
noncomputable def eqRows (P : Prm) (H : AH) : List AV → List AV → Res Bool
  | [], [] => .ok true
  | .obj a :: r, .obj b :: r' => (match H.at a, H.at b with
    | some (.list _ xs), some (.list _ ys) => if xs.length == ys.length then eqInts P xs ys else .err 41
    | _, _ => .err 42).bind fun c => (eqRows P H r r').bind fun d => .ok (c && d)
  | _, _ => .err 43

noncomputable def isRow : List AV → Bool
  | .int _ :: _ => true
  | _ => false

noncomputable def memInts (P : Prm) (x : T) : List AV → Res Bool
  | [] => .ok false
  | .int a :: r => (if a.beq x then .ok true else dec P.tbl (.ieq a x)).bind fun c => (memInts P x r).bind fun d => .ok (c || d)
  | _ => .err 44

noncomputable def seqOf (a : AV) (H : AH) : Option (List AV) := match a with
  | .obj k => (match H.at k with
    | some (.list _ xs) => some xs
    | some (.tuple xs) => some xs
    | some (.flist xs) => some xs
    | _ => Option.none)
  | _ => Option.none
noncomputable def listOf? (a : AV) (H : AH) : Option (List AV) := match a with
  | .obj k => (match H.at k with
    | some (.list _ xs) => some xs
    | _ => Option.none)
  | _ => Option.none
noncomputable def cEq (P : Prm) (a b : AV) (H : AH) : Res Bool := match a with
  | .int x => (match b with | .int y => dec P.tbl (.ieq x y) | _ => .err 110)
  | .flt x => (match b with | .flt y => dec P.tbl (.feq x y) | _ => .err 111)
  | a => (match listOf? a H with
    | some xs => (match listOf? b H with
      | some ys => if xs.length == ys.length then (if isRow xs then eqInts P xs ys else eqRows P H xs ys) else .err 112
      | Option.none => .err 113)
    | Option.none => .err 114)
noncomputable def cNe (P : Prm) (a b : AV) (H : AH) : Res Bool := match a with
  | .int x => (match b with | .int y => (dec P.tbl (.ieq x y)).bind fun c => .ok (!c) | _ => .err 115)
  | a => (match listOf? a H with
    | some xs => (match listOf? b H with
      | some ys => if xs.length == ys.length then (eqInts P xs ys).bind fun c => .ok (!c) else .err 116
      | Option.none => .err 117)
    | Option.none => .err 118)
noncomputable def cLt (P : Prm) (a b : AV) : Res Bool := match a with
  | .int x => (match b with | .int y => dec P.tbl (.ilt x y) | _ => .err 119)
  | _ => .err 120
noncomputable def cIn (P : Prm) (a b : AV) (H : AH) : Res Bool := match a with
  | .int x => (match seqOf b H with
    | some xs => memInts P x xs
    | Option.none => .err 121)
  | _ => .err 122
noncomputable def cmpop (P : Prm) (o : CmpOp) (a b : AV) (H : AH) : Res Bool := match o with
  | .Eq => cEq P a b H
  | .NotEq => cNe P a b H
  | .Lt => cLt P a b
  | .Gt => cLt P b a
  | .In => cIn P a b H
  | .NotIn => (cIn P a b H).bind fun c => .ok (!c)
  | _ => .err 123

noncomputable def truth (P : Prm) (a : AV) : Res Bool := match a with
  | .bool b => .ok b
  | .int x => (dec P.tbl (.ieq x (.lit 0))).bind fun c => .ok (!c)
  | _ => .err 52

noncomputable def item (a b : AV) (H : AH) : Res AV := match litOf b with
  | some i => (match seqOf a H with
    | some xs => if Nat.blt i 1000 then (match xs[i]? with | some v => .ok v | Option.none => .err 130) else .err 131
    | Option.none => .err 132)
  | Option.none => .err 133

noncomputable def setitem (a b v : AV) (H : AH) : Res AH := match litOf b with
  | some i => (match a with
    | .obj k => (match H.at k with
      | some (.list _ xs) => if Nat.blt i xs.length && Nat.blt i 1000 then H.put k (.list false (xs.set i v)) else .err 134
      | _ => .err 135)
    | _ => .err 136)
  | Option.none => .err 137

noncomputable def rowOf (l : Nat) (H : AH) : Option (List AV) := match H.at l with
  | some (.list _ xs) => some xs
  | some (.flist xs) => some xs
  | _ => Option.none

noncomputable def iterOf (a : AV) (H : AH) : Res (AV × AH) := match a with
  | .obj k => (match H.at k with
    | some (.list _ _) => (H.push (.itL k 0)).bind fun H1 => .ok (.obj H.n, H1)
    | some (.flist _) => (H.push (.itL k 0)).bind fun H1 => .ok (.obj H.n, H1)
    | some (.range x y) => if x.natAbs < 1000 ∧ y.natAbs < 1000 then (H.push (.itR x (if x < y then y - x else 0))).bind fun H1 => .ok (.obj H.n, H1) else .err 61
    | some (.itL _ _) => .ok (.obj k, H)
    | some (.itR _ _) => .ok (.obj k, H)
    | _ => .err 62)
  | _ => .err 63

noncomputable def nextOf (a : AV) (H : AH) : Res (Option AV × AH) := match a with
  | .obj k => (match H.at k with
    | some (.itL l i) => (match rowOf l H with
      | some xs => (match xs[i]? with
        | some v => (H.put k (.itL l (i + 1))).bind fun H1 => .ok (some v, H1)
        | Option.none => (H.put k .any).bind fun H1 => .ok (Option.none, H1))
      | _ => .err 64)
    | some (.itR x n) => if n > 0 then (H.put k (.itR (x + 1) (n - 1))).bind fun H1 => .ok (some (.int (.lit x)), H1) else (H.put k .any).bind fun H1 => .ok (Option.none, H1)
    | _ => .err 65)
  | _ => .err 66

noncomputable def intsOf : List AV → Option (List T)
  | [] => some []
  | .int a :: r => (intsOf r).map (a :: ·)
  | _ => Option.none

noncomputable def octets (P : Prm) : List T → Res Unit
  | [] => .ok ()
  | a :: r => (dec P.tbl (.ilt a (.lit 0))).bind fun c => if c then .err 67 else (dec P.tbl (.ilt a (.lit 256))).bind fun d => if d then octets P r else .err 68

/-- the built-ins called by name -/
noncomputable def callB (P : Prm) (f : BI) (args : List AV) (H : AH) : Res (AV × AH) :=
  match f with
  | .range => (match args with
    | [.int (.lit b)] => if b.natAbs < 1000 then (H.push (.range 0 b)).bind fun H1 => .ok (.obj H.n, H1) else .err 70
    | [.int (.lit a), .int (.lit b)] => if a.natAbs < 1000 ∧ b.natAbs < 1000 then (H.push (.range a b)).bind fun H1 => .ok (.obj H.n, H1) else .err 71
    | _ => .err 72)
  | .max => (match args with
    | [.int a, .int b] => .ok (.int (tmax a b), H)
    | [.flt a, .flt b, .flt c] => .ok (.flt (.fop .max (.fop .max a b) c), H)
    | [.obj k] => (match H.at k with
      | some (.list _ xs) => (match intsOf xs with
        | some (a :: r) => .ok (.int (r.foldl tmax a), H)
        | _ => .err 73)
      | _ => .err 74)
    | _ => .err 75)
  | .min => (match args with
    | [.flt a, .flt b, .flt c] => .ok (.flt (.fop .min (.fop .min a b) c), H)
    | [.obj k] => (match H.at k with
      | some (.list _ xs) => (match intsOf xs with
        | some (a :: r) => .ok (.int (r.foldl tmin a), H)
        | _ => .err 76)
      | _ => .err 77)
    | _ => .err 78)
  | .bytes => (match args with
    | [.obj k] => (match H.at k with
      | some (.list _ xs) => (match intsOf xs with
        | some ts => (octets P ts).bind fun _ => if ts.length < 1000 then .ok (.sb ts, H) else .err 79
        | _ => .err 80)
      | _ => .err 81)
    | _ => .err 82)
  | .iter => (match args with
    | [.sb ts] => (H.push (.itB ts 0)).bind fun H1 => .ok (.obj H.n, H1)
    | _ => .err 83)
  | .next => (match args with
    | [.obj k] => (match H.at k with
      | some (.itB ts i) => (match ts[i]? with
        | some t => (H.put k (.itB ts (i + 1))).bind fun H1 => .ok (.int t, H1)
        | Option.none => .err 84)
      | _ => .err 85)
    | _ => .err 86)
  | .int => (match args with
    | [.flt a] => (dec P.tbl (.ffin a)).bind fun c => if c then .ok (.int (.trunc a), H) else .err 87
    | _ => .err 88)
  | .sum => (match args with
    | [.obj k] => (match H.at k with
      | some (.list _ xs) => (match intsOf xs with
        | some ts => .ok (.int (ts.foldl tadd (.lit 0)), H)
        | _ => .err 87)
      | _ => .err 88)
    | _ => .err 89)

/-- the methods -/
noncomputable def callM (P : Prm) (o : AV) (name : Str) (args : List AV) (H : AH) : Res (AV × AH) :=
  match o with
  | .obj k => (match args with
    | [v] => bif sEq name "append" then (match H.at k with
      | some (.list true xs) => if xs.length < 1000 then (H.put k (.list true (xs ++ [v]))).bind fun H1 => .ok (.none, H1) else .err 90
      | _ => .err 91) else .err 92
    | _ => .err 93)
  | .bytes b => (match args with
    | [.bytes [c]] => bif sEq name "count" then (match P.cnt b c with
      | some n => .ok (.int (.lit (Int.ofNat n)), H)
      | Option.none => .err 94) else .err 94
    | _ => .err 95)
  | .gl 36 => (match args with
    | [.bytes [], .bytes b] => bif sEq name "sub" then (match P.sub b with
      | some r => .ok (.bytes r, H)
      | Option.none => .err 96) else .err 97
    | _ => .err 98)
  | _ => .err 99

noncomputable def okM (o : AV) (H : AH) : Bool := match o with
  | .obj k => (match H.at k with
    | some (.list true _) => true
    | _ => false)
  | _ => true

noncomputable def constOf : Const → Option AV
  | .none => some .none
  | .bool b => some (.bool b)
  | .int i => some (.int (.lit i))
  | .float x => some (.flt (.flit x.toNat))
  | .bytes b => some (.bytes (b.map UInt8.toNat))
  | _ => Option.none

/-- a def's frame and cells laid: the cells that the scope asks for, in order, behind index n -/
noncomputable def layCells : List (Str × NameKind) → Nat → List (Str × Nat) → List (Str × Nat)
  | [], _, acc => acc
  | (x, k) :: r, n, acc => if k == .cell then layCells r (n + 1) ((x, n) :: acc) else layCells r n acc
noncomputable def cellObjs : List (Str × NameKind) → List AO
  | [] => []
  | (_, k) :: r => if k == .cell then .cell Option.none :: cellObjs r else cellObjs r

noncomputable def storeAll (ae : AEnv) : List Str → List AV → AH → Res AH
  | [], [], H => .ok H
  | x :: xs, v :: vs, H => (store ae x v H).bind fun H1 => storeAll ae xs vs H1
  | _, _, _ => .err 100

noncomputable def enter (f : Fn) (args : List AV) (H : AH) : Res (AEnv × AH) :=
  let ae : AEnv := ⟨f.scope, H.n, layCells f.scope.names (H.n + 1) []⟩
  (H.pushes (.ns [] :: cellObjs f.scope.names)).bind fun H1 => (storeAll ae f.params args H1).bind fun H2 => .ok (ae, H2)

noncomputable def freeCells (ae : AEnv) : List (Str × NameKind) → List (Str × Nat) → Res (List (Str × Nat))
  | [], acc => .ok acc
  | (x, k) :: r, acc => if k == .free then (match look x ae.cells with | some c => freeCells ae r ((x, c) :: acc) | Option.none => .err 101) else freeCells ae r acc

noncomputable def compScope (ae : AEnv) (sc : Scope) : Scope :=
  { sc with names := sc.names.map fun (n, k) => if (k == .free && ae.scope.kind == .function && look n ae.scope.names == some .cell) then (n, .cell) else (n, k) }

noncomputable def okScope (sc : Scope) : Bool := sc.kind == .function && sc.names.all fun (x, k) => k != .cell && (k != .local || look x sc.names == some .local)

/-- the objects from number k on, m of them, all pass -/
noncomputable def allFrom (p : AO → Bool) (t : Tr AO) : Nat → Bool
  | 0 => true
  | m + 1 => (match t.get m with | some o => p o | Option.none => false) && allFrom p t m
noncomputable def refsOk (n : Nat) : AV → Bool
  | .obj k => Nat.blt k n
  | _ => true
noncomputable def refsOkO (n : Nat) : AO → Bool
  | .list _ xs | .tuple xs | .flist xs => xs.all (refsOk n)
  | .ns m => m.all fun p => refsOk n p.2
  | .cell (some v) => refsOk n v
  | .itL k _ => Nat.blt k n
  | _ => true

/-- the recursive parts, as a record: open recursion, the fuel outside -/
structure Ev where
  E : Nat → AEnv → Expr → AH → Res (AV × AH)
  S : Nat → AEnv → Stmt → AH → Res (AFlow × AH)
  L : Nat → AEnv → Expr → AV → List Stmt → AH → Res (AFlow × AH)
  W : Nat → AEnv → Expr → List Stmt → AH → Res (AFlow × AH)
  G : Nat → AEnv → Expr → List Comprehension → Nat → AV → Nat → AH → Res AH

section
variable (P : Prm) (ev : Ev)

noncomputable def evEs (d : Nat) (ae : AEnv) : List Expr → AH → Res (List AV × AH)
  | [], H => .ok ([], H)
  | e :: r, H => match e with
    | .Starred .. => .err 211
    | e => (ev.E d ae e H).bind fun a => (evEs d ae r a.2).bind fun b => .ok (a.1 :: b.1, b.2)

noncomputable def evSs (d : Nat) (ae : AEnv) : List Stmt → AH → Res (AFlow × AH)
  | [], H => .ok (.next, H)
  | s :: r, H => (ev.S d ae s H).bind fun a => match a.1 with
    | .next => evSs d ae r a.2
    | _ => .ok a

noncomputable def eCmpB (d : Nat) (ae : AEnv) (l : Expr) (os : List CmpOp) (rs : List Expr) (H : AH) : Res (Bool × AH) := match os, rs with
  | [o], [r] => if behindInMarks o r then .err 221 else (ev.E d ae l H).bind fun a => (ev.E d ae r a.2).bind fun b => (cmpop P o a.1 b.1 b.2).bind fun c => .ok (c, b.2)
  | _, _ => .err 223
noncomputable def eTruth (d : Nat) (ae : AEnv) (e : Expr) (H : AH) : Res (Bool × AH) := (ev.E d ae e H).bind fun a => (truth P a.1).bind fun t => .ok (t, a.2)
noncomputable def evC1 (d : Nat) (ae : AEnv) (e : Expr) (H : AH) : Res (Bool × AH) := match e with
  | .Compare l os rs _ => eCmpB P ev d ae l os rs H
  | .BinOp l o r p => eTruth P ev d ae (.BinOp l o r p) H
  | _ => .err 222
noncomputable def evAnd (d : Nat) (ae : AEnv) : List Expr → AH → Res (Bool × AH)
  | [], H => .ok (true, H)
  | e :: r, H => (evC1 P ev d ae e H).bind fun a => if a.1 then evAnd d ae r a.2 else .ok (false, a.2)
noncomputable def evC (d : Nat) (ae : AEnv) (e : Expr) (H : AH) : Res (Bool × AH) := match e with
  | .BoolOp .And es _ => evAnd P ev d ae es H
  | e => evC1 P ev d ae e H

noncomputable def evIfs (d : Nat) (ae : AEnv) (es : List Expr) (H : AH) : Res (Bool × AH) := match es with
  | [] => .ok (true, H)
  | [e] => evC P ev d ae e H
  | _ => .err 251

noncomputable def evNames (ae : AEnv) : List Expr → List AV → AH → Res AH
  | [], [], H => .ok H
  | t :: ts, v :: vs, H => match t with
    | .Name x _ => (store ae x v H).bind fun H1 => evNames ae ts vs H1
    | _ => .err 271
  | _, _, _ => .err 272

noncomputable def isSlice : Expr → Bool
  | .Slice .. => true
  | _ => false
noncomputable def isCallE : Expr → Bool
  | .Call .. => true
  | _ => false
noncomputable def isSetE : Expr → Bool
  | .Set .. => true
  | _ => false
noncomputable def aTup (ae : AEnv) (es : List Expr) (v : AV) (H : AH) : Res AH := match seqOf v H with
  | some xs => if es.length == xs.length then evNames ae es xs H else .err 261
  | Option.none => .err 262
noncomputable def aSub (d : Nat) (ae : AEnv) (o i : Expr) (v : AV) (H : AH) : Res AH :=
  if isSlice i then .err 265 else (ev.E d ae o H).bind fun a => (ev.E d ae i a.2).bind fun b => setitem a.1 b.1 v b.2
/-- a target -/
noncomputable def evAsg (d : Nat) (ae : AEnv) (t : Expr) (v : AV) (H : AH) : Res AH := match t with
  | .Name x _ => store ae x v H
  | .Tuple es _ _ => aTup ae es v H
  | .Subscript o i _ => aSub ev d ae o i v H
  | _ => .err 266

noncomputable def okGen (g : Comprehension) : Bool := g.is_async == 0 && !isSetE g.iter
noncomputable def evBind (ae : AEnv) (tgt : Option Str) (v : AV) (H : AH) : Res AH := match tgt with
  | some x => store ae x v H
  | Option.none => .ok H
noncomputable def killNs (k : Nat) (H : AH) : Res AH := match H.at k with
  | some (.ns _) => H.put k .any
  | _ => .err 233
/-- a comprehension; where its list goes to a local at once, that store comes first -/
noncomputable def evComp (d : Nat) (ae : AEnv) (elt : Expr) (gens : List Comprehension) (sc : Scope) (tgt : Option Str) (H : AH) : Res (AV × AH) := match gens with
  | g :: _ => if okScope sc && gens.all okGen then
      (ev.E d ae g.iter H).bind fun x => (iterOf x.1 x.2).bind fun i =>
      (freeCells ae sc.names []).bind fun cs =>
      (i.2.pushes [.list true [], .ns []]).bind fun H0 =>
      (ev.G d ⟨compScope ae sc, i.2.n + 1, cs⟩ elt gens 0 i.1 i.2.n H0).bind fun H1 =>
      (evBind ae tgt (.obj i.2.n) H1).bind fun H2 => (killNs (i.2.n + 1) H2).bind fun H3 => .ok (.obj i.2.n, H3)
    else .err 231
  | _ => .err 232

/-- a def of the text called -/
noncomputable def evF (d a : Nat) (args : List AV) (H : AH) : Res (AV × AH) := match (bif Nat.ble P.sd d then P.spec a args H else Option.none) with
  | some r => .ok r
  | Option.none => match P.fn a with
    | some f => (enter f args H).bind fun x => (evSs ev d x.1 f.body x.2).bind fun y =>
      let v : AV := match y.1 with | .ret v => v | _ => .none
      if refsOk H.n v && (allFrom (refsOkO H.n) y.2.t H.n && Nat.ble H.n y.2.n) then .ok (v, ⟨y.2.t, H.n⟩) else .ok (v, y.2)
    | Option.none => .err 281

noncomputable def eConst (c : Const) (H : AH) : Res (AV × AH) := match constOf c with | some v => .ok (v, H) | Option.none => .err 201
noncomputable def eName (ae : AEnv) (x : Str) (H : AH) : Res (AV × AH) := bif sEq x "__debug__" then .err 202 else (load P ae x H).bind fun v => .ok (v, H)
noncomputable def eBin (d : Nat) (ae : AEnv) (l : Expr) (o : Operator) (r : Expr) (H : AH) : Res (AV × AH) :=
  (ev.E d ae l H).bind fun a => (ev.E d ae r a.2).bind fun b => binop P o a.1 b.1 b.2
noncomputable def eBool (d : Nat) (ae : AEnv) (o : BoolOp) (es : List Expr) (H : AH) : Res (AV × AH) := match o, es with
  | .And, [x, y] => (ev.E d ae x H).bind fun a => (truth P a.1).bind fun t => if t then ev.E d ae y a.2 else .ok a
  | _, _ => .err 203
noncomputable def eIf (d : Nat) (ae : AEnv) (t b o : Expr) (H : AH) : Res (AV × AH) := (evC P ev d ae t H).bind fun c => if c.1 then ev.E d ae b c.2 else ev.E d ae o c.2
noncomputable def eList (d : Nat) (ae : AEnv) (es : List Expr) (H : AH) : Res (AV × AH) :=
  (evEs ev d ae es H).bind fun vs => if Nat.ble vs.1.length 1000 then (vs.2.push (.list true vs.1)).bind fun H1 => .ok (.obj vs.2.n, H1) else .err 204
noncomputable def eTuple (d : Nat) (ae : AEnv) (es : List Expr) (H : AH) : Res (AV × AH) :=
  (evEs ev d ae es H).bind fun vs => if Nat.ble vs.1.length 1000 then (vs.2.push (.tuple vs.1)).bind fun H1 => .ok (.obj vs.2.n, H1) else .err 205
noncomputable def eApply (d : Nat) (f : AV) (vs : List AV) (H : AH) : Res (AV × AH) := match f with
  | .gl a => (match d with | 0 => .err 206 | d' + 1 => evF P ev d' a vs H)
  | .bi f => callB P f vs H
  | _ => .err 210
noncomputable def eCallN (d : Nat) (ae : AEnv) (f : Str) (p : Pos) (args : List Expr) (H : AH) : Res (AV × AH) :=
  (ev.E d ae (.Name f p) H).bind fun fv => (evEs ev d ae args fv.2).bind fun vs => eApply P ev d fv.1 vs.1 vs.2
noncomputable def eCallA (d : Nat) (ae : AEnv) (o : Str) (p : Pos) (name : Str) (apos : Pos) (args : List Expr) (pos : Pos) (H : AH) : Res (AV × AH) :=
  if apos.endLine == pos.line && Nat.blt args.length 20 then
    (ev.E d ae (.Name o p) H).bind fun ov => if okM ov.1 ov.2 then (evEs ev d ae args ov.2).bind fun vs => callM P ov.1 name vs.1 vs.2 else .err 208 else .err 207
noncomputable def eCall (d : Nat) (ae : AEnv) (f : Expr) (args : List Expr) (ks : List Keyword) (pos : Pos) (H : AH) : Res (AV × AH) := match ks with
  | [] => (match f with
    | .Name f p => eCallN P ev d ae f p args H
    | .Attribute v name apos => (match v with
      | .Name o p => eCallA P ev d ae o p name apos args pos H
      | _ => .err 211)
    | _ => .err 212)
  | _ => .err 213
noncomputable def pickA (xs : List AV) (a b c : Int) : List AV :=
  (sliceRange (sliceBounds (some a) (some b) (some c) xs.length).1 (sliceBounds (some a) (some b) (some c) xs.length).2.1 (sliceBounds (some a) (some b) (some c) xs.length).2.2).filterMap fun i => xs[i]?
noncomputable def AO.items : AO → Option (List AV)
  | .list _ xs => some xs
  | .flist xs => some xs
  | _ => Option.none
noncomputable def slicedO (x y z u : AV) (H : AH) : Res (AV × AH) := match x, y, z, u with
  | .obj k, .int (.lit i), .int (.lit j), .int (.lit l) => (match (H.at k).bind AO.items with
    | some xs => if l = 0 then .err 266 else if Nat.ble xs.length 1000 then (H.push (.list true (pickA xs i j l))).bind fun H1 => .ok (.obj H.n, H1) else .err 267
    | Option.none => .err 268)
  | _, _, _, _ => .err 269
noncomputable def eSlice (d : Nat) (ae : AEnv) (v a b c : Expr) (H : AH) : Res (AV × AH) :=
  (ev.E d ae v H).bind fun x => (ev.E d ae a x.2).bind fun y => (ev.E d ae b y.2).bind fun z => (ev.E d ae c z.2).bind fun u => slicedO x.1 y.1 z.1 u.1 u.2
noncomputable def slice3 : Expr → Option (Expr × Expr × Expr)
  | .Slice (some a) (some b) (some c) _ => some (a, b, c)
  | _ => Option.none
noncomputable def eSub (d : Nat) (ae : AEnv) (v i : Expr) (H : AH) : Res (AV × AH) :=
  if isSlice i then (match slice3 i with | some (a, b, c) => eSlice ev d ae v a b c H | Option.none => .err 208) else (ev.E d ae v H).bind fun a => (ev.E d ae i a.2).bind fun b => (item a.1 b.1 b.2).bind fun r => .ok (r, b.2)
noncomputable def eCmp (d : Nat) (ae : AEnv) (l : Expr) (os : List CmpOp) (rs : List Expr) (H : AH) : Res (AV × AH) := (eCmpB P ev d ae l os rs H).bind fun c => .ok (.bool c.1, c.2)

noncomputable def stepE (d : Nat) (ae : AEnv) (e : Expr) (H : AH) : Res (AV × AH) := match P.hk e ae H with
  | some v => .ok (v, H)
  | Option.none => match e with
  | .Constant c _ _ => eConst c H
  | .Name x _ => eName P ae x H
  | .BinOp l o r _ => eBin P ev d ae l o r H
  | .Compare l os rs _ => eCmp P ev d ae l os rs H
  | .BoolOp o es _ => eBool P ev d ae o es H
  | .IfExp t b o _ => eIf P ev d ae t b o H
  | .List es _ => eList ev d ae es H
  | .Tuple es _ _ => eTuple ev d ae es H
  | .ListComp elt gens sc _ => evComp ev d ae elt gens sc Option.none H
  | .Call f args ks pos => eCall P ev d ae f args ks pos H
  | .Subscript v i _ => eSub ev d ae v i H
  | _ => .err 209

noncomputable def swapB (ae : AEnv) (t : Expr) (vpos : Pos) (sc : Scope) : Option Str := match t with
  | .Name x p => if look x ae.scope.names == some .local && (p.line == vpos.line && !(sc.names.any fun q => sEq q.1 x && (q.2 == .local || q.2 == .cell))) then some x else Option.none
  | _ => Option.none
noncomputable def sAssign1 (d : Nat) (ae : AEnv) (t : Expr) (v : Expr) (H : AH) : Res (AFlow × AH) := (ev.E d ae v H).bind fun a => (evAsg ev d ae t a.1 a.2).bind fun H1 => .ok (.next, H1)
noncomputable def sAssign (d : Nat) (ae : AEnv) (ts : List Expr) (v : Expr) (H : AH) : Res (AFlow × AH) := match ts with
  | [t] => (match v with
    | .ListComp elt gens sc vpos => (match swapB ae t vpos sc with
      | some x => (evComp ev d ae elt gens sc (some x) H).bind fun a => .ok (.next, a.2)
      | Option.none => sAssign1 ev d ae t (.ListComp elt gens sc vpos) H)
    | .SetComp .. => .err 288
    | .DictComp .. => .err 288
    | .Tuple .. => .err 289
    | v => sAssign1 ev d ae t v H)
  | _ => .err 290
noncomputable def sAug (d : Nat) (ae : AEnv) (t : Expr) (o : Operator) (v : Expr) (H : AH) : Res (AFlow × AH) := match t with
  | .Name x _ => (load P ae x H).bind fun a => (ev.E d ae v H).bind fun b => (iop P o a b.1 b.2).bind fun r => (store ae x r.1 r.2).bind fun H1 => .ok (.next, H1)
  | _ => .err 291
noncomputable def sExpr (d : Nat) (ae : AEnv) (e : Expr) (H : AH) : Res (AFlow × AH) := if isCallE e == false then .err 299 else (ev.E d ae e H).bind fun a => (match a.1 with | .none => .ok (.next, a.2) | _ => .err 292)
noncomputable def sRet (d : Nat) (ae : AEnv) (e : Option Expr) (H : AH) : Res (AFlow × AH) := match e with
  | some e => (ev.E d ae e H).bind fun a => .ok (.ret a.1, a.2)
  | Option.none => .err 293
noncomputable def sIf (d : Nat) (ae : AEnv) (t : Expr) (b o : List Stmt) (H : AH) : Res (AFlow × AH) := (evC P ev d ae t H).bind fun c => if c.1 then evSs ev d ae b c.2 else evSs ev d ae o c.2
noncomputable def sWhile (d : Nat) (ae : AEnv) (t : Expr) (b o : List Stmt) (H : AH) : Res (AFlow × AH) := match o with
  | [] => ev.W d ae t b H
  | _ => .err 294
noncomputable def sFor (d : Nat) (ae : AEnv) (t it : Expr) (b o : List Stmt) (H : AH) : Res (AFlow × AH) := match o with
  | [] => if isSetE it then .err 295 else (ev.E d ae it H).bind fun a => (iterOf a.1 a.2).bind fun i => ev.L d ae t i.1 b i.2
  | _ => .err 296
noncomputable def stepS (d : Nat) (ae : AEnv) (st : Stmt) (H : AH) : Res (AFlow × AH) := match st with
  | .Assign ts v _ => sAssign ev d ae ts v H
  | .AugAssign t o v _ => sAug P ev d ae t o v H
  | .Expr e _ => sExpr ev d ae e H
  | .Return e _ => sRet ev d ae e H
  | .If t b o _ => sIf P ev d ae t b o H
  | .While t b o _ => sWhile ev d ae t b o H
  | .For t it b o _ => sFor ev d ae t it b o H
  | _ => .err 297

noncomputable def stepW (d : Nat) (ae : AEnv) (t : Expr) (b : List Stmt) (H : AH) : Res (AFlow × AH) :=
  (evC P ev d ae t H).bind fun c => if c.1 then (evSs ev d ae b c.2).bind fun a => (match a.1 with
    | .next | .cont => ev.W d ae t b a.2
    | .brk => .ok (.next, a.2)
    | .ret v => .ok (.ret v, a.2)) else .ok (.next, c.2)

/-- the target is a name, or a tuple of names met by a list's items -/
noncomputable def ownTup (t : Expr) (it : AV) (H : AH) : Bool := match t with
  | .Name .. => true
  | .Tuple .. => (match it with
    | .obj k => (match H.at k with
      | some (.itL _ _) => true
      | _ => false)
    | _ => false)
  | _ => false
noncomputable def lTurn (d : Nat) (ae : AEnv) (t : Expr) (it : AV) (b : List Stmt) (v : AV) (H : AH) : Res (AFlow × AH) := if ownTup t it H then
    (evAsg ev d ae t v H).bind fun H1 => (evSs ev d ae b H1).bind fun a => (match a.1 with
    | .next | .cont => ev.L d ae t it b a.2
    | .brk => .ok (.next, a.2)
    | .ret v => .ok (.ret v, a.2)) else .err 298
noncomputable def stepL (d : Nat) (ae : AEnv) (t : Expr) (it : AV) (b : List Stmt) (H : AH) : Res (AFlow × AH) := (nextOf it H).bind fun x => match x.1 with
  | Option.none => .ok (.next, x.2)
  | some v => lTurn ev d ae t it b v x.2

noncomputable def gEmit (d : Nat) (ce : AEnv) (elt : Expr) (acc : Nat) (H : AH) : Res AH := (ev.E d ce elt H).bind fun y => (match y.2.at acc with
  | some (.list true xs) => if Nat.blt xs.length 1000 then y.2.put acc (.list true (xs ++ [y.1])) else .err 241
  | _ => .err 242)
noncomputable def gIn (d : Nat) (ce : AEnv) (elt : Expr) (gens : List Comprehension) (k : Nat) (acc : Nat) (H : AH) : Res AH := match gens[k + 1]? with
  | some g' => (ev.E d ce g'.iter H).bind fun y => (iterOf y.1 y.2).bind fun i => ev.G d ce elt gens (k + 1) i.1 acc i.2
  | Option.none => gEmit ev d ce elt acc H
noncomputable def gTurn (d : Nat) (ce : AEnv) (elt : Expr) (gens : List Comprehension) (k : Nat) (it : AV) (acc : Nat) (v : AV) (H : AH) : Res AH := match gens[k]? with
  | some g => if ownTup g.target it H then (evAsg ev d ce g.target v H).bind fun H1 => (evIfs P ev d ce g.ifs H1).bind fun t =>
      (if t.1 then gIn ev d ce elt gens k acc t.2 else .ok t.2).bind fun H2 => ev.G d ce elt gens k it acc H2 else .err 244
  | Option.none => .err 243
noncomputable def stepG (d : Nat) (ce : AEnv) (elt : Expr) (gens : List Comprehension) (k : Nat) (it : AV) (acc : Nat) (H : AH) : Res AH := (nextOf it H).bind fun x => match x.1 with
  | Option.none => .ok x.2
  | some v => gTurn P ev d ce elt gens k it acc v x.2
end

noncomputable def stepEv (P : Prm) (ev : Ev) : Ev := ⟨stepE P ev, stepS P ev, stepL ev, stepW P ev, stepG P ev⟩
noncomputable def botEv : Ev := ⟨fun _ _ _ _ => .err 400, fun _ _ _ _ => .err 401, fun _ _ _ _ _ _ => .err 402, fun _ _ _ _ _ => .err 403, fun _ _ _ _ _ _ _ _ => .err 404⟩
noncomputable def evN (P : Prm) : Nat → Ev
  | 0 => botEv
  | n + 1 => stepEv P (evN P n)

end Mine
end
section
set_option maxRecDepth 100000
namespace Mine
open PySem PyProof.Rows

/-! ## names -/
theorem eqNs_eq : ∀ {a b : List Nat}, eqNs a b = true ↔ a = b
  | [], [] => by simp [eqNs]
  | [], _ :: _ => by simp [eqNs]
  | _ :: _, [] => by simp [eqNs]
  | a :: r, b :: s => by
    simp only [eqNs, List.cons.injEq]
    cases h : Nat.beq a b with
    | true => simp only [cond_true, Nat.eq_of_beq_eq_true h, true_and]; exact eqNs_eq
    | false => simp only [cond_false, Bool.false_eq_true, false_iff, not_and]; intro e; subst e; rw [Nat.beq_refl] at h; cases h
theorem sEq_iff {x y : Str} : sEq x y = true ↔ x = y := by
  unfold sEq
  cases h : Nat.beq (codeS x) (codeS y) with
  | true =>
    simp only [cond_true, eqNs_eq]
    constructor
    · intro e; cases x; cases y; simp only [Str.mk.injEq]; exact Array.toList_inj.mp e
    · intro e; rw [e]
  | false =>
    simp only [cond_false, Bool.false_eq_true, false_iff]
    intro e; subst e; rw [Nat.beq_refl] at h; cases h
theorem sEq_beq (x y : Str) : sEq x y = (x == y) := by
  rw [Bool.eq_iff_iff, sEq_iff, beq_iff_eq]
theorem look_lookup {α : Type} (x : Str) : ∀ l : List (Str × α), look x l = l.lookup x
  | [] => rfl
  | (y, v) :: r => by
    rw [look, List.lookup_cons, sEq_beq, look_lookup x r]
    cases x == y <;> rfl
theorem look_upd (m : List (Str × AV)) (x : Str) (v : AV) (y : Str) : look y (upd m x v) = if y = x then some v else look y m := by
  induction m with
  | nil =>
    simp only [upd, look]
    by_cases h : y = x
    · rw [if_pos h, sEq_iff.mpr h]; rfl
    · rw [if_neg h]; cases hs : sEq y x with
      | true => exact absurd (sEq_iff.mp hs) h
      | false => rfl
  | cons p r ih =>
    obtain ⟨z, u⟩ := p
    simp only [upd]
    cases hz : sEq x z with
    | true =>
      have e := sEq_iff.mp hz; subst e
      simp only [cond_true, look]
      by_cases h : y = x
      · rw [if_pos h, sEq_iff.mpr h]; rfl
      · rw [if_neg h]; cases hs : sEq y x with
        | true => exact absurd (sEq_iff.mp hs) h
        | false => rfl
    | false =>
      simp only [cond_false, look, ih]
      cases hs : sEq y z with
      | true =>
        have e := sEq_iff.mp hs; subst e
        have hne : y ≠ x := fun e => by subst e; rw [hs] at hz; cases hz
        simp [hne]
      | false => simp

/-! ## the tree -/
theorem half_ne {j k : Nat} (h : j ≠ k) (h0 : j % 2 = k % 2) : j / 2 ≠ k / 2 := fun e => h (by rw [← Nat.div_add_mod j 2, ← Nat.div_add_mod k 2, e, h0])
theorem pred_ne {a b : Nat} (ha : a ≠ 0) (hb : b ≠ 0) (h : a ≠ b) : a - 1 ≠ b - 1 := by omega
theorem even_of {j : Nat} (h : j % 2 ≠ 1) : j % 2 = 0 := (Nat.mod_two_eq_zero_or_one j).resolve_right h
theorem half_pos {j : Nat} (h : j ≠ 0) (h0 : j % 2 = 0) : j / 2 ≠ 0 := fun e => h (by rw [← Nat.div_add_mod j 2, e, h0])
theorem Tr.get_set_ne {α : Type} (w : α) : ∀ (t : Tr α) (k j : Nat), j ≠ k → (t.set w k).get j = t.get j
  | .nil, _, _, _ => rfl
  | .node l v r, k, j, h => by
    unfold Tr.set
    cases hk : Nat.beq k 0 with
    | true =>
      have hk0 : k = 0 := Nat.eq_of_beq_eq_true hk
      simp only [cond_true, Tr.get]
      have : Nat.beq j 0 = false := by
        cases hj : Nat.beq j 0 with
        | false => rfl
        | true => exact absurd ((Nat.eq_of_beq_eq_true hj).trans hk0.symm) h
      simp [this]
    | false =>
      have hk0 : k ≠ 0 := fun e => by subst e; cases hk
      cases h1 : Nat.beq (Nat.mod k 2) 1 with
      | true =>
        have h1' : k % 2 = 1 := Nat.eq_of_beq_eq_true h1
        simp only [cond_false, cond_true, Tr.get]
        cases hj : Nat.beq j 0 with
        | true => rfl
        | false =>
          cases hj1 : Nat.beq (Nat.mod j 2) 1 with
          | true =>
            have hj1' : j % 2 = 1 := Nat.eq_of_beq_eq_true hj1
            simp only [cond_false, cond_true]
            exact Tr.get_set_ne w l _ _ (half_ne h (hj1'.trans h1'.symm))
          | false => rfl
      | false =>
        have h1' : k % 2 ≠ 1 := fun e => by rw [show Nat.mod k 2 = 1 from e] at h1; cases h1
        simp only [cond_false, Tr.get]
        cases hj : Nat.beq j 0 with
        | true => rfl
        | false =>
          have hj0 : j ≠ 0 := fun e => by subst e; cases hj
          cases hj1 : Nat.beq (Nat.mod j 2) 1 with
          | true => rfl
          | false =>
            have hj1' : j % 2 ≠ 1 := fun e => by rw [show Nat.mod j 2 = 1 from e] at hj1; cases hj1
            simp only [cond_false]
            exact Tr.get_set_ne w r _ _ (pred_ne (half_pos hj0 (even_of hj1')) (half_pos hk0 (even_of h1')) (half_ne h ((even_of hj1').trans (even_of h1').symm)))
theorem Tr.get_set_self {α : Type} (w : α) : ∀ (t : Tr α) (k : Nat) {u : α}, (t.set w k).get k = some u → u = w
  | .nil, _, _, h => by cases h
  | .node l v r, k, u, h => by
    unfold Tr.set at h
    cases hk : Nat.beq k 0 with
    | true => simp only [hk, cond_true, Tr.get] at h; exact (Option.some.inj h).symm
    | false =>
      cases h1 : Nat.beq (Nat.mod k 2) 1 with
      | true => simp only [hk, h1, cond_true, cond_false, Tr.get] at h; exact Tr.get_set_self w l _ h
      | false => simp only [hk, h1, cond_false, Tr.get] at h; exact Tr.get_set_self w r _ h
theorem Tr.get_set_some {α : Type} (w : α) : ∀ (t : Tr α) (k : Nat) {u : α}, t.get k = some u → (t.set w k).get k = some w
  | .nil, _, _, h => by cases h
  | .node l v r, k, u, h => by
    unfold Tr.set
    cases hk : Nat.beq k 0 with
    | true => simp only [cond_true, Tr.get, hk]
    | false =>
      cases h1 : Nat.beq (Nat.mod k 2) 1 with
      | true => simp only [hk, h1, cond_true, cond_false, Tr.get] at h ⊢; exact Tr.get_set_some w l _ h
      | false => simp only [hk, h1, cond_false, Tr.get] at h ⊢; exact Tr.get_set_some w r _ h

theorem AH.at_some {H : AH} {k : Nat} {o : AO} (h : H.at k = some o) : k < H.n ∧ H.t.get k = some o := by
  unfold AH.at at h
  cases hk : Nat.blt k H.n with
  | true => rw [hk] at h; exact ⟨by simpa [Nat.blt_eq] using hk, h⟩
  | false => rw [hk] at h; cases h
theorem AH.put_ok {H H' : AH} {k : Nat} {o : AO} (h : H.put k o = .ok H') : k < H.n ∧ H' = ⟨H.t.set o k, H.n⟩ := by
  unfold AH.put at h
  cases hk : Nat.blt k H.n with
  | true => rw [hk] at h; cases h; exact ⟨by simpa [Nat.blt_eq] using hk, rfl⟩
  | false => rw [hk] at h; cases h
theorem AH.push_ok {H H' : AH} {o : AO} (h : H.push o = .ok H') : H' = ⟨H.t.set o H.n, H.n + 1⟩ ∧ H'.t.get H.n = some o := by
  unfold AH.push at h
  cases hg : (H.t.set o H.n).get H.n with
  | none => rw [hg] at h; cases h
  | some u =>
    rw [hg] at h; cases h
    have := Tr.get_set_self _ _ _ hg
    exact ⟨rfl, by rw [← this]; exact this ▸ hg⟩

/-! ## what stands for what -/
structure Cx where
  prog : Program
  w : World
  σ : Nat → Int
  base : Heap
  s0 : Shared

noncomputable def toB (bs : List Nat) : Array UInt8 := (bs.map Nat.toUInt8).toArray
noncomputable def toSB (σ : Nat → Int) (bs : List T) : Array UInt8 := (bs.map fun e => (e.i σ).toNat.toUInt8).toArray

noncomputable def Den (σ : Nat → Int) (ρ : Nat → Addr) (n : Nat) : AV → Value → Prop
  | .none, v => v = .none
  | .bool b, v => v = .bool b
  | .int e, v => ∃ t, v = .int (e.i σ) t
  | .flt e, v => ∃ t, v = .float (e.f σ) t
  | .bytes b, v => (∃ t, v = .bytes (toB b) t) ∧ ∀ c ∈ b, c < 256
  | .sb b, v => (∃ t, v = .bytes (toSB σ b) t) ∧ ∀ e ∈ b, 0 ≤ e.i σ ∧ e.i σ < 256
  | .bi b, v => v = b.val
  | .obj k, v => k < n ∧ v = .ref (ρ k)
  | .gl a, v => v = .ref a
  | .sx, v => v = .ref (σ 1000).toNat
  | .any, _ => True

noncomputable def DenL (σ : Nat → Int) (ρ : Nat → Addr) (n : Nat) : List AV → List Value → Prop
  | [], [] => True
  | x :: xs, v :: vs => Den σ ρ n x v ∧ DenL σ ρ n xs vs
  | _, _ => False

noncomputable def DenO (σ : Nat → Int) (ρ : Nat → Addr) (n : Nat) (h : Heap) (a : Addr) : AO → Prop
  | .list p xs => ∃ vs : List Value, h.IsList a vs.toArray ∧ (p = true → h.PlainList a vs.toArray) ∧ DenL σ ρ n xs vs
  | .flist xs => ∃ vs : List Value, h.IsList a vs.toArray ∧ DenL σ ρ n xs vs
  | .tuple xs => ∃ vs : List Value, h.IsTuple a vs.toArray ∧ DenL σ ρ n xs vs
  | .ns m => ∃ mm, h.Ns a mm ∧ ∀ x v, look x m = some v → ∃ u, mm x = some u ∧ Den σ ρ n v u
  | .cell v => match v with
    | Option.none => h.IsCell a Option.none
    | some v => ∃ u, h.IsCell a (some u) ∧ Den σ ρ n v u
  | .range x y => ∃ t u v, IsRange h a x y 1 t u v
  | .itL k i => k < n ∧ h.IsListIter a (ρ k) i
  | .itR x left => IsRangeIter h a x left 1
  | .itB xs i => (∃ t, W.KBw.IsBytesIter h a (toSB σ xs) t i) ∧ ∀ e ∈ xs, 0 ≤ e.i σ ∧ e.i σ < 256
  | .any => True

noncomputable def Ext (n : Nat) (ρ ρ' : Nat → Addr) : Prop := ∀ k, k < n → ρ' k = ρ k
theorem Ext.refl (n ρ) : Ext n ρ ρ := fun _ _ => rfl
theorem Ext.trans {n m : Nat} {ρ ρ' ρ'' : Nat → Addr} (h : Ext n ρ ρ') (h' : Ext m ρ' ρ'') (hnm : n ≤ m) : Ext n ρ ρ'' :=
  fun k hk => (h' k (Nat.lt_of_lt_of_le hk hnm)).trans (h k hk)

section
variable {σ : Nat → Int} {ρ ρ' : Nat → Addr} {n n' : Nat}
theorem Den.ext (he : Ext n ρ ρ') (hn : n ≤ n') : ∀ {a : AV} {v : Value}, Den σ ρ n a v → Den σ ρ' n' a v := by
  intro a v h
  cases a with
  | obj k => exact ⟨Nat.lt_of_lt_of_le h.1 hn, by rw [he k h.1]; exact h.2⟩
  | _ => exact h
theorem DenL.ext (he : Ext n ρ ρ') (hn : n ≤ n') : ∀ {a : List AV} {v : List Value}, DenL σ ρ n a v → DenL σ ρ' n' a v
  | [], [], _ => trivial
  | _ :: _, _ :: _, ⟨h, t⟩ => ⟨h.ext he hn, DenL.ext he hn t⟩
theorem DenL.length : ∀ {a : List AV} {v : List Value}, DenL σ ρ n a v → a.length = v.length
  | [], [], _ => rfl
  | _ :: _, _ :: _, ⟨_, t⟩ => by simp [DenL.length t]
theorem DenL.get : ∀ {a : List AV} {v : List Value} {i : Nat} {x : AV}, DenL σ ρ n a v → a[i]? = some x → ∃ u, v[i]? = some u ∧ Den σ ρ n x u
  | [], _, _, _, _, h => by simp at h
  | _ :: _, _ :: _, 0, x, ⟨hx, _⟩, h => by simp only [List.getElem?_cons_zero, Option.some.injEq] at h; subst h; exact ⟨_, rfl, hx⟩
  | _ :: _, _ :: _, i + 1, x, ⟨_, t⟩, h => by
    simp only [List.getElem?_cons_succ] at h ⊢
    exact DenL.get t h
theorem DenL.snoc {a : List AV} {v : List Value} {x : AV} {u : Value} (h : DenL σ ρ n a v) (hx : Den σ ρ n x u) : DenL σ ρ n (a ++ [x]) (v ++ [u]) := by
  induction a generalizing v with
  | nil => cases v with
    | nil => exact ⟨hx, trivial⟩
    | cons w v => exact h.elim
  | cons y a ih => cases v with
    | nil => exact h.elim
    | cons w v => exact ⟨h.1, ih h.2⟩
theorem DenL.append {a : List AV} {v : List Value} {b : List AV} {u : List Value} (h : DenL σ ρ n a v) (hx : DenL σ ρ n b u) : DenL σ ρ n (a ++ b) (v ++ u) := by
  induction a generalizing v with
  | nil => cases v with
    | nil => exact hx
    | cons w v => exact h.elim
  | cons y a ih => cases v with
    | nil => exact h.elim
    | cons w v => exact ⟨h.1, ih h.2⟩
theorem DenL.set {a : List AV} {v : List Value} {x : AV} {u : Value} (i : Nat) (h : DenL σ ρ n a v) (hx : Den σ ρ n x u) : DenL σ ρ n (a.set i x) (v.set i u) := by
  induction a generalizing v i with
  | nil => cases v with
    | nil => trivial
    | cons w v => exact h.elim
  | cons y a ih => cases v with
    | nil => exact h.elim
    | cons w v => cases i with
      | zero => exact ⟨hx, h.2⟩
      | succ i => exact ⟨h.1, ih i h.2⟩
theorem DenL.uncons {a : AV} {r : List AV} {v : List Value} (h : DenL σ ρ n (a :: r) v) : ∃ u w, v = u :: w ∧ Den σ ρ n a u ∧ DenL σ ρ n r w := by
  cases v with
  | nil => exact h.elim
  | cons u w => exact ⟨u, w, rfl, h.1, h.2⟩
theorem DenL.nilOf {v : List Value} (h : DenL σ ρ n [] v) : v = [] := by
  cases v with
  | nil => rfl
  | cons u w => exact h.elim
theorem DenL.one {a : AV} {v : List Value} (h : DenL σ ρ n [a] v) : ∃ u, v = [u] ∧ Den σ ρ n a u := by
  obtain ⟨u, w, rfl, h1, h2⟩ := h.uncons
  exact ⟨u, by rw [h2.nilOf], h1⟩
theorem DenL.two {a b : AV} {v : List Value} (h : DenL σ ρ n [a, b] v) : ∃ u u', v = [u, u'] ∧ Den σ ρ n a u ∧ Den σ ρ n b u' := by
  obtain ⟨u, w, rfl, h1, h2⟩ := h.uncons
  obtain ⟨u', rfl, h3⟩ := h2.one
  exact ⟨u, u', rfl, h1, h3⟩
theorem DenL.three {a b c : AV} {v : List Value} (h : DenL σ ρ n [a, b, c] v) : ∃ u u' u'', v = [u, u', u''] ∧ Den σ ρ n a u ∧ Den σ ρ n b u' ∧ Den σ ρ n c u'' := by
  obtain ⟨u, w, rfl, h1, h2⟩ := h.uncons
  obtain ⟨u', u'', rfl, h3⟩ := h2.two
  exact ⟨u, u', u'', rfl, h1, h3⟩
theorem DenL.four {a b c d : AV} {v : List Value} (h : DenL σ ρ n [a, b, c, d] v) : ∃ u0 u u' u'', v = [u0, u, u', u''] ∧ Den σ ρ n a u0 ∧ Den σ ρ n b u ∧ Den σ ρ n c u' ∧ Den σ ρ n d u'' := by
  obtain ⟨u, w, rfl, h1, h2⟩ := h.uncons
  obtain ⟨u', u'', u3, rfl, h3⟩ := h2.three
  exact ⟨u, u', u'', u3, rfl, h1, h3⟩
theorem DenO.ext (he : Ext n ρ ρ') (hn : n ≤ n') {h h' : Heap} {a : Addr} (hk : ∀ o, h.get? a = some o → h'.get? a = some o) {o : AO} (x : DenO σ ρ n h a o) : DenO σ ρ' n' h' a o := by
  cases o with
  | list p xs => obtain ⟨vs, ⟨o, ho, r⟩, hp, hd⟩ := x; exact ⟨vs, ⟨o, hk o ho, r⟩, fun e => (hp e).at hk, hd.ext he hn⟩
  | tuple xs => obtain ⟨vs, ⟨o, ho, r⟩, hd⟩ := x; exact ⟨vs, ⟨o, hk o ho, r⟩, hd.ext he hn⟩
  | flist xs => obtain ⟨vs, ⟨o, ho, r⟩, hd⟩ := x; exact ⟨vs, ⟨o, hk o ho, r⟩, hd.ext he hn⟩
  | ns m =>
    obtain ⟨mm, ⟨o, es, ep, ho, r⟩, hd⟩ := x
    exact ⟨mm, ⟨o, es, ep, hk o ho, r⟩, fun y v hy => let ⟨u, hu, hv⟩ := hd y v hy; ⟨u, hu, hv.ext he hn⟩⟩
  | cell v =>
    cases v with
    | none => obtain ⟨o, ho, r⟩ := x; exact ⟨o, hk o ho, r⟩
    | some v => obtain ⟨u, ⟨o, ho, r⟩, hv⟩ := x; exact ⟨u, ⟨o, hk o ho, r⟩, hv.ext he hn⟩
  | range a b => obtain ⟨t, u, v, e⟩ := x; exact ⟨t, u, v, hk _ e⟩
  | itL k i => obtain ⟨hk', o, ho, r⟩ := x; exact ⟨Nat.lt_of_lt_of_le hk' hn, o, hk o ho, by rw [he k hk']; exact r⟩
  | itR a b => exact hk _ x
  | itB xs i => obtain ⟨⟨t, o, e, q⟩, r⟩ := x; exact ⟨⟨t, o, hk _ e, q⟩, r⟩
  | any => trivial
theorem DenO.there {h : Heap} {a : Addr} {o : AO} (x : DenO σ ρ n h a o) (hl : o.live = true) : ∃ o, h.get? a = some o := by
  cases o with
  | list p xs => obtain ⟨vs, ⟨o, ho, r⟩, hp, hd⟩ := x; exact ⟨o, ho⟩
  | tuple xs => obtain ⟨vs, ⟨o, ho, r⟩, hd⟩ := x; exact ⟨o, ho⟩
  | ns m => obtain ⟨mm, ⟨o, es, ep, ho, r⟩, hd⟩ := x; exact ⟨o, ho⟩
  | cell v =>
    cases v with
    | none => obtain ⟨o, ho, r⟩ := x; exact ⟨o, ho⟩
    | some v => obtain ⟨u, ⟨o, ho, r⟩, hv⟩ := x; exact ⟨o, ho⟩
  | range a b => obtain ⟨t, u, v, e⟩ := x; exact ⟨_, e⟩
  | itL k i => obtain ⟨hk', o, ho, r⟩ := x; exact ⟨o, ho⟩
  | itR a b => exact ⟨_, x⟩
  | itB xs i => obtain ⟨⟨t, o, e, q⟩, r⟩ := x; exact ⟨_, e⟩
  | any => cases hl
  | flist xs => cases hl
end

/-- the state s is one of those that the objects H stand for, their addresses given by ρ -/
structure Rel (C : Cx) (ρ : Nat → Addr) (H : AH) (s : Shared) : Prop where
  same : ∃ h tk, s = { C.s0 with heap := h, toks := tk }
  keep : ∀ b o, C.base.get? b = some o → s.heap.get? b = some o
  objs : ∀ k, k < H.n → ∃ o, H.t.get k = some o ∧ DenO C.σ ρ H.n s.heap (ρ k) o
  inj : ∀ i j oi oj, i < H.n → j < H.n → H.t.get i = some oi → H.t.get j = some oj → oi.live = true → oj.live = true → ρ i = ρ j → i = j
  fresh : ∀ i o, i < H.n → H.t.get i = some o → o.live = true → C.base.get? (ρ i) = none
  frozen : ∀ k xs, k < H.n → H.t.get k = some (.flist xs) → ∃ vs : List Value, C.base.IsList (ρ k) vs.toArray ∧ DenL C.σ ρ H.n xs vs

namespace Rel
variable {C : Cx} {ρ : Nat → Addr} {H H' : AH} {s : Shared}
theorem obj (R : Rel C ρ H s) {k : Nat} {o : AO} (h : H.at k = some o) : DenO C.σ ρ H.n s.heap (ρ k) o := by
  obtain ⟨hk, hg⟩ := AH.at_some h
  obtain ⟨o', h', d⟩ := R.objs k hk
  rw [hg] at h'; cases h'; exact d
theorem tok (R : Rel C ρ H s) (t : Nat) : Rel C ρ H { s with toks := t } :=
  ⟨let ⟨h, _, e⟩ := R.same; ⟨h, t, by rw [e]⟩, R.keep, R.objs, R.inj, R.fresh, R.frozen⟩
theorem heapTok (R : Rel C ρ H s) {h' : Heap} {t : Nat} (hk : ∀ b o, s.heap.get? b = some o → h'.get? b = some o) : Rel C ρ H { s with heap := h', toks := t } :=
  ⟨let ⟨_, _, e⟩ := R.same; ⟨h', t, by rw [e]⟩, fun b o e => hk b o (R.keep b o e),
    fun k hkk => let ⟨o, ho, d⟩ := R.objs k hkk; ⟨o, ho, d.ext (Ext.refl _ _) (Nat.le_refl _) (hk _)⟩, R.inj, R.fresh, R.frozen⟩
theorem heap (R : Rel C ρ H s) {h' : Heap} (hk : ∀ b o, s.heap.get? b = some o → h'.get? b = some o) : Rel C ρ H { s with heap := h' } := R.heapTok hk
theorem ne_base (R : Rel C ρ H s) {k : Nat} {q : AO} (hk : H.at k = some q) (hl : q.live = true) {b : Addr} {o : Obj} (e : C.base.get? b = some o) : b ≠ ρ k := fun z => by
  have ⟨h1, h2⟩ := AH.at_some hk
  have := R.fresh k q h1 h2 hl; rw [← z, e] at this; cases this
/-- object k is turned -/
theorem put (R : Rel C ρ H s) {k : Nat} {o' q : AO} (hp : H.put k o' = .ok H') (hq : H.at k = some q) (hl : q.live = true) {h' : Heap} {t : Nat} (hs : ∀ b o, b ≠ ρ k → s.heap.get? b = some o → h'.get? b = some o)
    (d : DenO C.σ ρ H.n h' (ρ k) o') (hf : ∀ xs, o' ≠ .flist xs := by intro _ h; cases h) : Rel C ρ H' { s with heap := h', toks := t } ∧ H'.n = H.n := by
  obtain ⟨hk, rfl⟩ := AH.put_ok hp
  have hqk := (AH.at_some hq).2
  have old : ∀ i o, i ≠ k → (H.t.set o' k).get i = some o → H.t.get i = some o := fun i o hi e => (Tr.get_set_ne _ _ _ _ hi).symm.trans e
  refine ⟨⟨let ⟨_, _, e⟩ := R.same; ⟨h', t, by rw [e]⟩, fun b o e => hs b o (R.ne_base hq hl e) (R.keep b o e), fun j hj => ?_, fun i j oi oj hi hj ei ej li lj e => ?_, fun i o hi ei li => ?_, fun j xs hj ej => ?_⟩, rfl⟩
  · by_cases hjk : j = k
    · subst hjk
      exact ⟨o', Tr.get_set_some _ _ _ hqk, d⟩
    · obtain ⟨o, ho, dj⟩ := R.objs j hj
      refine ⟨o, (Tr.get_set_ne _ _ _ _ hjk).trans ho, ?_⟩
      by_cases hlo : o.live = true
      · exact dj.ext (Ext.refl _ _) (Nat.le_refl _) fun q e => hs _ q (fun e' => hjk (R.inj _ _ _ _ hj hk ho hqk hlo hl e')) e
      · cases o with
        | any => trivial
        | flist xs =>
          obtain ⟨vs, ⟨q, hq', r⟩, hd⟩ := R.frozen j xs hj ho
          exact ⟨vs, ⟨q, hs _ _ (R.ne_base hq hl hq') (R.keep _ _ hq'), r⟩, hd⟩
        | _ => exact absurd rfl hlo
  · by_cases hik : i = k <;> by_cases hjk : j = k
    · rw [hik, hjk]
    · subst hik; exact R.inj _ _ _ _ hi hj hqk (old _ _ hjk ej) hl lj e
    · subst hjk; exact R.inj _ _ _ _ hi hj (old _ _ hik ei) hqk li hl e
    · exact R.inj _ _ _ _ hi hj (old _ _ hik ei) (old _ _ hjk ej) li lj e
  · by_cases hik : i = k
    · subst hik; exact R.fresh _ _ hi hqk hl
    · exact R.fresh _ _ hi (old _ _ hik ei) li
  · by_cases hjk : j = k
    · subst hjk
      have := Tr.get_set_some o' _ _ hqk
      rw [ej] at this
      exact absurd (Option.some.inj this).symm (hf xs)
    · exact R.frozen j xs hj (old _ _ hjk ej)
/-- a new object -/
theorem push (R : Rel C ρ H s) {o' : AO} (hp : H.push o' = .ok H') {h' : Heap} {t : Nat} {a : Addr} (ha : s.heap.get? a = none) (hs : ∀ b o, s.heap.get? b = some o → h'.get? b = some o)
    (d : DenO C.σ (fun k => if k = H.n then a else ρ k) (H.n + 1) h' a o') (hf : ∀ xs, o' ≠ .flist xs := by intro _ h; cases h) :
    Rel C (fun k => if k = H.n then a else ρ k) H' { s with heap := h', toks := t } ∧ H'.n = H.n + 1 ∧ Ext H.n ρ (fun k => if k = H.n then a else ρ k) := by
  obtain ⟨rfl, hg⟩ := AH.push_ok hp
  have he : Ext H.n ρ (fun k => if k = H.n then a else ρ k) := fun k hk => if_neg (Nat.ne_of_lt hk)
  have old : ∀ i o, i ≠ H.n → (H.t.set o' H.n).get i = some o → H.t.get i = some o := fun i o hi e => (Tr.get_set_ne _ _ _ _ hi).symm.trans e
  have hne : ∀ i o, i < H.n → H.t.get i = some o → o.live = true → ρ i ≠ a := fun i o hi ei li e => by
    obtain ⟨o₁, h1, di⟩ := R.objs i hi
    rw [ei] at h1; cases h1
    obtain ⟨q, hq⟩ := di.there li
    rw [e, ha] at hq; cases hq
  refine ⟨⟨let ⟨_, _, e⟩ := R.same; ⟨h', t, by rw [e]⟩, fun b o e => hs b o (R.keep b o e), fun j hj => ?_, fun i j oi oj hi hj ei ej li lj e => ?_, fun i o hi ei li => ?_, fun j xs hj ej => ?_⟩, rfl, he⟩
  · by_cases hjn : j = H.n
    · subst hjn
      refine ⟨o', hg, ?_⟩
      show DenO _ _ _ _ (if H.n = H.n then a else ρ H.n) o'
      rw [if_pos rfl]; exact d
    · have hj' : j < H.n := by have : j < H.n + 1 := hj; omega
      obtain ⟨o, ho, dj⟩ := R.objs j hj'
      refine ⟨o, (Tr.get_set_ne _ _ _ _ hjn).trans ho, ?_⟩
      show DenO _ _ _ _ (if j = H.n then a else ρ j) o
      rw [if_neg hjn]
      exact dj.ext he (Nat.le_succ _) (hs _)
  · have hi : i < H.n + 1 := hi
    have hj : j < H.n + 1 := hj
    by_cases hin : i = H.n <;> by_cases hjn : j = H.n
    · omega
    · simp only [hin, hjn, if_true, if_false] at e; exact absurd e.symm (hne j _ (by omega) (old _ _ hjn ej) lj)
    · simp only [hin, hjn, if_true, if_false] at e; exact absurd e (hne i _ (by omega) (old _ _ hin ei) li)
    · simp only [hin, hjn, if_false] at e; exact R.inj i j _ _ (by omega) (by omega) (old _ _ hin ei) (old _ _ hjn ej) li lj e
  · have hi : i < H.n + 1 := hi
    show C.base.get? (if i = H.n then a else ρ i) = none
    by_cases hin : i = H.n
    · rw [if_pos hin]
      cases hb : C.base.get? a with
      | none => rfl
      | some o => rw [R.keep _ _ hb] at ha; cases ha
    · rw [if_neg hin]; exact R.fresh i _ (by omega) (old _ _ hin ei) li
  · have hj : j < H.n + 1 := hj
    by_cases hjn : j = H.n
    · subst hjn
      rw [hg] at ej
      exact absurd (Option.some.inj ej) (hf xs)
    · obtain ⟨vs, hl, hd⟩ := R.frozen j xs (by omega) (old _ _ hjn ej)
      refine ⟨vs, ?_, hd.ext he (Nat.le_succ _)⟩
      show C.base.IsList (if j = H.n then a else ρ j) _
      rw [if_neg hjn]; exact hl
end Rel

end Mine
end
section
set_option maxRecDepth 100000
namespace Mine
open PySem PyProof.Rows

/-- what is to hold behind a part that turns H into H' -/
noncomputable def K {α : Type} (C : Cx) (ρ : Nat → Addr) (H H' : AH) (D : (Nat → Addr) → α → Prop) (Q : α → Shared → Prop) : Prop :=
  ∀ ρ' u s', Ext H.n ρ ρ' → H.n ≤ H'.n → Rel C ρ' H' s' → D ρ' u → Q u s'
abbrev DV (C : Cx) (H' : AH) (v : AV) : (Nat → Addr) → Value → Prop := fun ρ u => Den C.σ ρ H'.n v u
abbrev DVs (C : Cx) (H' : AH) (vs : List AV) : (Nat → Addr) → List Value → Prop := fun ρ us => DenL C.σ ρ H'.n vs us
abbrev DB (b : Bool) : (Nat → Addr) → Bool → Prop := fun _ u => u = b
abbrev DU : (Nat → Addr) → Unit → Prop := fun _ _ => True
noncomputable def DenF (σ : Nat → Int) (ρ : Nat → Addr) (n : Nat) : AFlow → Flow → Prop
  | .next, f => f = .next
  | .brk, f => f = .brk
  | .cont, f => f = .cont
  | .ret v, f => ∃ u, f = .ret u ∧ Den σ ρ n v u
abbrev DF (C : Cx) (H' : AH) (f : AFlow) : (Nat → Addr) → Flow → Prop := fun ρ u => DenF C.σ ρ H'.n f u
abbrev No : Value → Shared → Prop := fun _ _ => False

theorem K.step {α : Type} {C : Cx} {ρ ρ' : Nat → Addr} {H H' H'' : AH} {D : (Nat → Addr) → α → Prop} {Q : α → Shared → Prop} (k : K C ρ H H'' D Q) (he : Ext H.n ρ ρ') (hn : H.n ≤ H'.n) : K C ρ' H' H'' D Q :=
  fun ρ'' u s' he' hn' R d => k ρ'' u s' (he.trans he' hn) (Nat.le_trans hn hn') R d

/-- the environment -/
structure EnvRel (ρ : Nat → Addr) (n : Nat) (ae : AEnv) (env : Env) : Prop where
  scope : env.scope = ae.scope
  kind : ae.scope.kind = .function
  loc : env.locals = ρ ae.loc
  locLt : ae.loc < n
  glob : env.globals = mainGlobals
  blt : env.builtins = builtinsNs
  cells : env.cells = ae.cells.map fun p => (p.1, ρ p.2)
  cellsLt : ∀ p ∈ ae.cells, p.2 < n
theorem EnvRel.ext {ρ ρ' : Nat → Addr} {n n' : Nat} {ae : AEnv} {env : Env} (E : EnvRel ρ n ae env) (he : Ext n ρ ρ') (hn : n ≤ n') : EnvRel ρ' n' ae env :=
  ⟨E.scope, E.kind, by rw [E.loc, he _ E.locLt], Nat.lt_of_lt_of_le E.locLt hn, E.glob, E.blt,
    by rw [E.cells]; exact List.map_congr_left fun p hp => by rw [he _ (E.cellsLt p hp)], fun p hp => Nat.lt_of_lt_of_le (E.cellsLt p hp) hn⟩

structure AOk (d : Nat) (A : Around) : Prop where
  handled : A.handled = Option.none
  depth : A.depth + d < recursionLimit
  units : A.units + 5 * d + 150 < cLine
theorem AOk.in1 {d : Nat} {A : Around} (h : AOk (d + 1) A) (env : Env) : AOk d (A.deeper env) :=
  ⟨h.handled, by have := h.depth; show A.depth + 1 + d < _; omega, by have := h.units; show A.units + 3 + 5 * d + 150 < _; omega⟩
theorem AOk.le {d : Nat} {A : Around} (h : AOk (d + 1) A) : AOk d A := ⟨h.handled, by have := h.depth; omega, by have := h.units; omega⟩

structure FnAt (base : Heap) (a : Addr) (f : Fn) : Prop where
  fn : ∃ o fd, base.get? a = some o ∧ o.data = .func fd ∧ fd.body = .stmts f.body ∧ fd.scope = f.scope ∧ fd.globals = mainGlobals ∧ fd.builtins = builtinsNs ∧ fd.closure = [] ∧
    base.CodeRec fd.code fd.qualname ∧ ∀ (s : Shared) (vals : List Value), (∀ b o, base.get? b = some o → s.heap.get? b = some o) → vals.length = f.params.length → BindsTo s fd ⟨vals, []⟩ (f.params.zip vals)
  kind : f.scope.kind = .function
  co : f.scope.isCoroutine = false
  gen : f.scope.isGenerator = false

noncomputable def SubOk (C : Cx) (b r : List Nat) : Prop := ∀ (A : Around) (s : Shared) (Q : Value → Shared → Prop) (t t' : Tok), A.handled = Option.none → A.units + 40 < cLine → (∀ x o, C.base.get? x = some o → s.heap.get? x = some o) →
  (∀ h' tk u, (∀ x o, s.heap.get? x = some o → h'.get? x = some o) → Q (.bytes (toB r) u) { s with heap := h', toks := tk }) →
  wpAny (model C.prog C.w) A (call (.builtin "re.Pattern.sub") [.ref 36, .bytes #[] t, .bytes (toB b) t']) Q No s

noncomputable def CntOk (C : Cx) (b : List Nat) (c n : Nat) : Prop := ∀ (A : Around) (s : Shared) (Q : Value → Shared → Prop) (t t' : Tok),
  (∀ tk u, Q (.int (n : Int) u) { s with toks := tk }) → wpAny (model C.prog C.w) A (call (.builtin "bytes.count") [.bytes (toB b) t, .bytes (toB [c]) t']) Q No s

structure Facts (C : Cx) (P : Prm) : Prop where
  gm : ∃ mg mb, C.base.Ns mainGlobals mg ∧ C.base.Ns builtinsNs mb ∧ ∀ x v, P.glob x = some v → ∃ u, Den C.σ (fun _ => 0) 0 v u ∧ (mg x = some u ∨ (mg x = Option.none ∧ mb x = some u))
  lim : C.base.NoLimit
  tbl : ∀ c b, P.tbl c = some b → c.holds C.σ = b
  fn : ∀ a f, P.fn a = some f → FnAt C.base a f
  pat : ∃ o, C.base.get? 36 = some o ∧ o.cls = .type "re.Pattern" ∧ o.dict = Option.none
  sub : ∀ b r, P.sub b = some r → SubOk C b r
  subLt : ∀ b r, P.sub b = some r → ∀ c ∈ r, c < 256
  cnt : ∀ b c n, P.cnt b c = some n → CntOk C b c n
  hk : ∀ e ae H v, P.hk e ae H = some v → ∀ d ρ s A env Q, Rel C ρ H s → EnvRel ρ H.n ae env → AOk d A →
    (∀ h' tk u, (∀ b o, s.heap.get? b = some o → h'.get? b = some o) → Den C.σ ρ H.n v u → Q u { s with heap := h', toks := tk }) → wpAny (model C.prog C.w) A (eval e env) Q No s
  specFn : ∀ a args H r, P.spec a args H = some r → ∃ o fd, C.base.get? a = some o ∧ o.data = .func fd
  spec : ∀ a args H v H', P.spec a args H = some (v, H') → ∀ d ρ s A vs Q, P.sd ≤ d → Rel C ρ H s → DenL C.σ ρ H.n args vs → AOk d A → K C ρ H H' (DV C H' v) Q → wpAny (model C.prog C.w) A (call (.ref a) vs) Q No s

theorem dec_ok {C : Cx} {P : Prm} (F : Facts C P) {c : Cond} {b : Bool} (h : dec P.tbl c = .ok b) : c.holds C.σ = b := by
  unfold dec at h
  cases hl : c.lit? with
  | some x =>
    rw [hl] at h; cases h
    unfold Cond.lit? at hl
    split at hl
    · cases hl; rfl
    · cases hl; rfl
    · cases hl
  | none =>
    rw [hl] at h
    cases hf : P.tbl c with
    | some x => rw [hf] at h; cases h; exact F.tbl _ _ hf
    | none => rw [hf] at h; cases h

theorem lookup_map {α β : Type} (f : α → β) (x : Str) : ∀ l : List (Str × α), (l.map fun p => (p.1, f p.2)).lookup x = (l.lookup x).map f
  | [] => rfl
  | (y, v) :: r => by
    simp only [List.map_cons, List.lookup_cons]
    cases x == y
    · exact lookup_map f x r
    · rfl
theorem mem_lookup {α : Type} {x : Str} {v : α} {l : List (Str × α)} (h : l.lookup x = some v) : (x, v) ∈ l := mem_of_lookup h

section
variable {C : Cx} {P : Prm} {A : Around} {ρ : Nat → Addr} {H H' : AH} {s : Shared} {ae : AEnv} {env : Env}

theorem kindOf_rel (E : EnvRel ρ H.n ae env) (x : Str) : env.kindOf x = look x ae.scope.names := by
  unfold Env.kindOf; rw [E.scope, look_lookup]

theorem load_ok (F : Facts C P) (E : EnvRel ρ H.n ae env) (R : Rel C ρ H s) {x : Str} {v : AV} (h : load P ae x H = .ok v) :
    ∃ u, Den C.σ ρ H.n v u ∧ ∀ {Q : Value → Shared → Prop}, Q u s → wpAny (model C.prog C.w) A (loadName env x) Q No s := by
  have hk : env.scope.kind = .function := by rw [E.scope]; exact E.kind
  unfold load at h
  split at h
  · rename_i hl
    split at h
    · rename_i m ho
      split at h
      · rename_i u hu
        cases h
        obtain ⟨mm, hn, hm⟩ := R.obj ho
        obtain ⟨u, hu, d⟩ := hm x v hu
        exact ⟨u, d, fun hq => wpAny_loadName_local hk ((kindOf_rel E x).trans hl) (E.loc ▸ hn) hu hq⟩
      · cases h
    · cases h
  · rename_i hl
    split at h
    · rename_i c hc
      split at h
      · rename_i v' ho
        cases h
        obtain ⟨u, hcell, d⟩ := R.obj ho
        refine ⟨u, d, fun hq => wpAny_loadName_cell hk ((kindOf_rel E x).trans hl) (c := ρ c) ?_ hcell hq⟩
        rw [E.cells, lookup_map, ← look_lookup, hc]; rfl
      · cases h
    · cases h
  · rename_i hl
    cases hd : sEq x "__classdict__" with
    | true => rw [hd] at h; cases h
    | false =>
      rw [hd] at h
      simp only [cond_false] at h
      split at h
      · rename_i c hc
        split at h
        · rename_i v' ho
          cases h
          obtain ⟨u, hcell, d⟩ := R.obj ho
          refine ⟨u, d, fun hq => wpAny_loadName_free hk ((kindOf_rel E x).trans hl) (c := ρ c) ?_ hcell hq ?_⟩
          · rw [E.cells, lookup_map, ← look_lookup, hc]; rfl
          · rw [← sEq_beq]; exact hd
        · cases h
      · cases h
  · rename_i hl
    split at h
    · rename_i v' hg
      cases h
      obtain ⟨mg, mb, hmg, hmb, hgl⟩ := F.gm
      obtain ⟨u, d, hu⟩ := hgl x v hg
      refine ⟨u, d.ext (fun _ h => by omega) (Nat.zero_le _), fun hq => ?_⟩
      unfold loadName
      have hx : env.kindOf x = some .globalImplicit := (kindOf_rel E x).trans hl
      simp only [Env.blockKind, hk, hx, ScopeKind.isAnnotationScope, Bool.false_and, Bool.false_eq_true, if_false]
      have hg' : s.heap.Ns env.globals mg := by rw [E.glob]; exact hmg.keeps R.keep
      have hb' : s.heap.Ns env.builtins mb := by rw [E.blt]; exact hmb.keeps R.keep
      rcases hu with hu | ⟨hu, hu'⟩
      · exact Calls.loadGlobal_global hg' hu hq
      · exact Calls.loadGlobal_builtin hg' hu hb' hu' hq
    · cases h
  · cases h

theorem store_ok (E : EnvRel ρ H.n ae env) (R : Rel C ρ H s) {x : Str} {v : AV} {u : Value} (d : Den C.σ ρ H.n v u) (h : store ae x v H = .ok H') {Q : Unit → Shared → Prop} (k : K C ρ H H' DU Q) :
    wpAny (model C.prog C.w) A (storeName env x u) Q No s := by
  have hk : env.scope.kind = .function := by rw [E.scope]; exact E.kind
  unfold store at h
  split at h
  · rename_i hl
    split at h
    · rename_i m ho
      obtain ⟨mm, hn, hm⟩ := R.obj ho
      refine wpAny_storeName_local ((kindOf_rel E x).trans hl) (E.loc ▸ hn) (fun h' hn' hs' => ?_) (by rw [hk]; rfl)
      rw [E.loc] at hn' hs'
      have ⟨R', e⟩ := R.put h ho rfl (t := s.toks + 1) (fun b o hb e => hs'.extBut b o hb e) (show DenO C.σ ρ H.n h' (ρ ae.loc) (.ns (upd m x v)) from
        ⟨_, hn', fun y w hy => by
          rw [look_upd] at hy
          by_cases hyx : y = x
          · rw [if_pos hyx] at hy; cases hy; exact ⟨u, by rw [if_pos hyx], d⟩
          · rw [if_neg hyx] at hy; obtain ⟨u', hu', d'⟩ := hm y w hy; exact ⟨u', by rw [if_neg hyx]; exact hu', d'⟩⟩)
      exact k ρ () _ (Ext.refl _ _) (Nat.le_of_eq e.symm) R' trivial
    · cases h
  · rename_i hl
    split at h
    · rename_i c hc
      split at h
      · rename_i v' ho
        have hcell : ∃ v₀, s.heap.IsCell (ρ c) v₀ := by
          cases v' with
          | none => exact ⟨_, R.obj ho⟩
          | some w => obtain ⟨u', hu', _⟩ := R.obj ho; exact ⟨_, hu'⟩
        obtain ⟨v₀, hcell⟩ := hcell
        refine wpAny_storeName_cell hk ((kindOf_rel E x).trans hl) (c := ρ c) (by rw [E.cells, lookup_map, ← look_lookup, hc]; rfl) hcell fun h' hc' hs' => ?_
        have ⟨R', e⟩ := R.put h ho rfl (t := s.toks) (fun b o hb e => hs'.extBut b o hb e) (show DenO C.σ ρ H.n h' (ρ c) (.cell (some v)) from ⟨u, hc', d⟩)
        exact k ρ () _ (Ext.refl _ _) (Nat.le_of_eq e.symm) R' trivial
      · cases h
    · cases h
  · cases h
end

end Mine
end
section
set_option maxRecDepth 100000
namespace Mine
open PySem PyProof.Rows

section
variable (σ : Nat → Int)
theorem tadd_i (a b : T) : (tadd a b).i σ = a.i σ + b.i σ := by
  unfold tadd; split <;> simp [T.i, IOp.run]
theorem tsub_i (a b : T) : (tsub a b).i σ = a.i σ - b.i σ := by
  unfold tsub; split <;> simp [T.i, IOp.run]
theorem tfdiv_i (a b : T) : (tfdiv a b).i σ = (a.i σ).fdiv (b.i σ) := by
  unfold tfdiv; split <;> simp [T.i, IOp.run]
theorem tfmod_i (a b : T) : (tfmod a b).i σ = (a.i σ).fmod (b.i σ) := by
  unfold tfmod; split <;> simp [T.i, IOp.run]
theorem tmax_i (a b : T) : (tmax a b).i σ = if b.i σ > a.i σ then b.i σ else a.i σ := by
  unfold tmax; split <;> rfl
theorem tmin_i (a b : T) : (tmin a b).i σ = if b.i σ < a.i σ then b.i σ else a.i σ := by
  unfold tmin; split <;> rfl
end

theorem litOf_den {σ : Nat → Int} {ρ : Nat → Addr} {n : Nat} {a : AV} {k : Nat} {u : Value} (h : litOf a = some k) (d : Den σ ρ n a u) : ∃ t, u = .int (k : Int) t := by
  unfold litOf at h
  split at h
  · cases h; obtain ⟨t, rfl⟩ := d; exact ⟨t, rfl⟩
  · cases h

theorem bitAnd_nonneg {a b : Int} (ha : 0 ≤ a) (hb : 0 ≤ b) : Builtin.bitAnd a b = ((a.toNat &&& b.toNat : Nat) : Int) := by
  unfold Builtin.bitAnd
  simp [ha, hb]

theorem bitOr_nonneg {a b : Int} (ha : 0 ≤ a) (hb : 0 ≤ b) : Builtin.bitOr a b = ((a.toNat ||| b.toNat : Nat) : Int) := by
  obtain ⟨m, rfl⟩ := Int.eq_ofNat_of_zero_le ha
  obtain ⟨n, rfl⟩ := Int.eq_ofNat_of_zero_le hb
  have e1 : ∀ k : Nat, Builtin.bitNot (k : Int) < 0 := fun k => by unfold Builtin.bitNot; omega
  have e2 : ∀ k : Nat, Builtin.bitNot (Builtin.bitNot (k : Int)) = k := fun k => by unfold Builtin.bitNot; omega
  unfold Builtin.bitOr Builtin.bitAnd
  have h1 : ¬ 0 ≤ Builtin.bitNot (m : Int) := by have := e1 m; omega
  have h2 : ¬ 0 ≤ Builtin.bitNot (n : Int) := by have := e1 n; omega
  simp [h1, h2, e2]

section
variable {C : Cx} {P : Prm} {A : Around} {ρ : Nat → Addr} {H H' : AH} {s : Shared}

theorem K.int {e : T} {i : Int} {Q : Value → Shared → Prop} (k : K C ρ H H (DV C H (.int e)) Q) (R : Rel C ρ H s) (he : i = e.i C.σ) (t : Tok) (tk : Nat) : Q (.int i t) { s with toks := tk } :=
  k ρ _ _ (Ext.refl _ _) (Nat.le_refl _) (R.tok tk) ⟨t, by rw [he]⟩
theorem K.flt {e : T} {x : UInt64} {Q : Value → Shared → Prop} (k : K C ρ H H (DV C H (.flt e)) Q) (R : Rel C ρ H s) (he : x = e.f C.σ) (t : Tok) (tk : Nat) : Q (.float x t) { s with toks := tk } :=
  k ρ _ _ (Ext.refl _ _) (Nat.le_refl _) (R.tok tk) ⟨t, by rw [he]⟩

theorem opAdd_ok (R : Rel C ρ H s) {a b v : AV} {x y : Value} (da : Den C.σ ρ H.n a x) (db : Den C.σ ρ H.n b y) (h : opAdd a b H = .ok (v, H')) {Q : Value → Shared → Prop}
    (k : K C ρ H H' (DV C H' v) Q) : wpAny (model C.prog C.w) A (binaryOp .Add x y) Q No s := by
  cases a with
  | int p =>
    cases b with
    | int q =>
      cases h
      obtain ⟨t, rfl⟩ := da; obtain ⟨u, rfl⟩ := db
      exact add_int (k.int R (tadd_i ..).symm _ _)
    | _ => cases h
  | flt p =>
    cases b with
    | flt q =>
      cases h
      obtain ⟨t, rfl⟩ := da; obtain ⟨u, rfl⟩ := db
      exact AutoFloatOps.add_0 (k.flt R rfl _ _)
    | _ => cases h
  | bytes p =>
    cases b with
    | bytes q =>
      simp only [opAdd] at h
      split at h
      · rename_i hsz
        cases h
        obtain ⟨⟨t, rfl⟩, hp⟩ := da; obtain ⟨⟨u, rfl⟩, hq⟩ := db
        refine W.KBy.add_bytes (by simp [toB]; omega) fun t' tk => ?_
        refine k ρ _ _ (Ext.refl _ _) (Nat.le_refl _) (R.tok tk) ⟨⟨t', by simp [toB]⟩, fun c hc => ?_⟩
        rcases List.mem_append.mp hc with hc | hc
        · exact hp c hc
        · exact hq c hc
      · cases h
    | _ => cases h
  | _ => cases h

theorem opSub_ok (R : Rel C ρ H s) {a b v : AV} {x y : Value} (da : Den C.σ ρ H.n a x) (db : Den C.σ ρ H.n b y) (h : opSub a b H = .ok (v, H')) {Q : Value → Shared → Prop}
    (k : K C ρ H H' (DV C H' v) Q) : wpAny (model C.prog C.w) A (binaryOp .Sub x y) Q No s := by
  cases a with
  | int p =>
    cases b with
    | int q =>
      cases h
      obtain ⟨t, rfl⟩ := da; obtain ⟨u, rfl⟩ := db
      exact sub_int (k.int R (tsub_i ..).symm _ _)
    | _ => cases h
  | flt p =>
    cases b with
    | flt q =>
      cases h
      obtain ⟨t, rfl⟩ := da; obtain ⟨u, rfl⟩ := db
      exact AutoFloatOps.sub_0 (k.flt R rfl _ _)
    | _ => cases h
  | _ => cases h

theorem opFDiv_ok (R : Rel C ρ H s) {a b v : AV} {x y : Value} (da : Den C.σ ρ H.n a x) (db : Den C.σ ρ H.n b y) (h : opFDiv a b H = .ok (v, H')) {Q : Value → Shared → Prop}
    (k : K C ρ H H' (DV C H' v) Q) : wpAny (model C.prog C.w) A (binaryOp .FloorDiv x y) Q No s := by
  cases a with
  | int p =>
    simp only [opFDiv] at h
    split at h
    · rename_i n hl
      split at h
      · rename_i hn
        cases h
        obtain ⟨t, rfl⟩ := da; obtain ⟨u, rfl⟩ := litOf_den hl db
        simp only [Bool.and_eq_true, Nat.blt_eq, Nat.ble_eq] at hn
        refine floordiv_int (by omega) (k.int R (by rw [tfdiv_i]; rfl) _ _) (.inl ?_)
        unfold Builtin.divisionGoesByPylong
        have : (n : Int).natAbs.log2 ≤ 16 := by
          have : n.log2 < 17 := (Nat.log2_lt (by omega)).mpr (by omega)
          simp only [Int.natAbs_natCast]; omega
        simp only [Bool.and_eq_false_iff, decide_eq_false_iff_not]
        left
        split <;> omega
      · cases h
    · cases h
  | _ => cases h

theorem opMod_ok (F : Facts C P) (R : Rel C ρ H s) {a b v : AV} {x y : Value} (da : Den C.σ ρ H.n a x) (db : Den C.σ ρ H.n b y) (h : opMod P a b H = .ok (v, H')) {Q : Value → Shared → Prop}
    (k : K C ρ H H' (DV C H' v) Q) : wpAny (model C.prog C.w) A (binaryOp .Mod x y) Q No s := by
  cases a with
  | int p =>
    simp only [opMod] at h
    split at h
    · rename_i n hl
      split at h
      · rename_i hn
        cases h
        obtain ⟨t, rfl⟩ := da; obtain ⟨u, rfl⟩ := litOf_den hl db
        exact mod_int (by omega) (k.int R (by rw [tfmod_i]; rfl) _ _)
      · cases h
    · cases h
  | flt p =>
    cases b with
    | flt q =>
      obtain ⟨c, hc, h⟩ := Res.bind_ok h
      cases c with
      | true => cases h
      | false =>
        cases h
        have hz := dec_ok F hc
        obtain ⟨t, rfl⟩ := da; obtain ⟨u, rfl⟩ := db
        exact AutoFloatOps.mod_1 (by rw [show Float64.isZero (q.f C.σ) = false from hz]; decide) (k.flt R rfl _ _)
    | _ => cases h
  | _ => cases h

theorem opShr_ok (R : Rel C ρ H s) {a b v : AV} {x y : Value} (da : Den C.σ ρ H.n a x) (db : Den C.σ ρ H.n b y) (h : opShr a b H = .ok (v, H')) {Q : Value → Shared → Prop}
    (k : K C ρ H H' (DV C H' v) Q) : wpAny (model C.prog C.w) A (binaryOp .RShift x y) Q No s := by
  unfold opShr at h
  split at h
  · rename_i m hm
    split at h
    · rename_i n hn
      cases h
      obtain ⟨t, rfl⟩ := litOf_den hm da; obtain ⟨u, rfl⟩ := litOf_den hn db
      refine AutoIntOpsIf.rshift ?_
      rw [if_neg (by omega)]
      split
      · rename_i hb
        have hlt : ((m : Int) < 0) = False := by simp
        simp only [hlt, if_false]
        refine k.int R ?_ _ _
        show (0 : Int) = ((m / 2 ^ n : Nat) : Int)
        have : m < 2 ^ n := by
          by_cases h0 : m = 0
          · subst h0; exact Nat.two_pow_pos n
          · have hb' : (Builtin.Int.intBits (m : Int)) ≤ n := by omega
            unfold Builtin.Int.intBits at hb'
            have : ((m : Int) == 0) = false := by simpa using h0
            rw [this] at hb'
            simp only [Bool.false_eq_true, if_false] at hb'
            have hlog : (m : Int).natAbs = m := Int.natAbs_natCast m
            rw [hlog] at hb'
            exact Nat.lt_of_lt_of_le Nat.lt_log2_self (Nat.pow_le_pow_right (by decide) (by omega))
        rw [Nat.div_eq_of_lt this]; rfl
      · refine k.int R ?_ _ _
        show ((m : Int)).fdiv (2 ^ (n : Int).toNat) = ((m / 2 ^ n : Nat) : Int)
        rw [Int.toNat_natCast, Int.fdiv_eq_ediv_of_nonneg _ (by exact Int.le_of_lt (Int.pow_pos (by decide)))]
        simp
    · cases h
  · cases h

theorem opAnd_ok (F : Facts C P) (R : Rel C ρ H s) {a b v : AV} {x y : Value} (da : Den C.σ ρ H.n a x) (db : Den C.σ ρ H.n b y) (h : opAnd P a b H = .ok (v, H')) {Q : Value → Shared → Prop}
    (k : K C ρ H H' (DV C H' v) Q) : wpAny (model C.prog C.w) A (binaryOp .BitAnd x y) Q No s := by
  unfold opAnd at h
  split at h
  · rename_i n hn
    obtain ⟨u, rfl⟩ := litOf_den hn db
    split at h
    · rename_i m hm
      cases h
      obtain ⟨t, rfl⟩ := litOf_den hm da
      refine and_int (k.int R ?_ _ _)
      rw [bitAnd_nonneg (by omega) (by omega)]; rfl
    · cases a with
      | int p =>
        obtain ⟨c, hc, h⟩ := Res.bind_ok h
        cases c with
        | true => cases h
        | false =>
          cases h
          have hz := dec_ok F hc
          obtain ⟨t, rfl⟩ := da
          have hz' : ¬ p.i C.σ < 0 := of_decide_eq_false (p := p.i C.σ < 0) hz
          refine and_int (k.int R ?_ _ _)
          rw [bitAnd_nonneg (by omega) (by omega)]
          rfl
      | _ => cases h
  · cases h

theorem flatten_map (f : Nat → UInt8) (l : List Nat) (n : Nat) : ((List.replicate n l).flatten).map f = (List.replicate n (l.map f)).flatten := by
  simp [List.map_flatten]

theorem foldl_append_replicate (items : List Value) : ∀ (n : Nat) (acc : Array Value), List.foldl (fun x1 x2 => x1 ++ x2) acc (List.replicate n items.toArray) = acc ++ ((List.replicate n items).flatten).toArray
  | 0, acc => by simp
  | n + 1, acc => by
    rw [List.replicate_succ, List.foldl_cons, foldl_append_replicate items n, List.replicate_succ]
    simp [Array.append_assoc]

theorem mul_list_raw {l : Addr} {items : Array Value} {k : Nat} {x : Int} {u : Tok} {E : Value → Shared → Prop} {Q : Value → Shared → Prop} {prog : Program} {w : World}
    (hl : s.heap.get? l = some { cls := .type "list", dict := Option.none, data := .seq items k, slots := #[] })
    (hlo : -(2 ^ 63 : Int) ≤ x) (hhi : x < 2 ^ 63) (hsz : items.size * x.toNat ≤ 2 ^ 24)
    (h : Q (.ref s.heap.objs.size) { s with heap := s.heap.push { cls := .type "list", data := .seq (List.foldl (fun x1 x2 => x1 ++ x2) #[] (List.replicate (if items.isEmpty = true then 0 else x.toNat) items)) } }) :
    wpAny (model prog w) A (binaryOp .Mult (.ref l) (.int x u)) Q E s :=
  wpAny_binaryOp_repeat_ref (T := "list") (U := "int") (by decide) ⟨_, hl, rfl⟩ (fun s' => typeIs_int s' x u) noFill_list_mul PySem.F.fills_int_mul PySem.F.slot_int_rmul repeat_list PySem.F.slot_int_index.lookup
    (call_meets PySem.F.slot_int_rmul (typeIs_int s x u) PySem.F.entry_int_rmul (PySem.F.args_int_rmul_2 _ _) (int___rmul___int_list x u l items k)
      ⟨hl, rfl, ⟨_, hl, rfl⟩, call_meets PySem.F.slot_list_mul ⟨_, hl, rfl⟩ PySem.F.entry_list_mul (PySem.F.args_list_mul_2 _ _)
        (AutoListH.list___mul___list_int_3 l items k x u (by simp [Builtin.List.listFitsIndex]; omega) (by omega) (by simp [Builtin.List.listTooLong, sizeLine]; omega))
        ⟨hl, h⟩⟩)

theorem DenL.replicate {σ : Nat → Int} {ρ : Nat → Addr} {n : Nat} {a : List AV} {v : List Value} (h : DenL σ ρ n a v) : ∀ m : Nat, DenL σ ρ n ((List.replicate m a).flatten) ((List.replicate m v).flatten)
  | 0 => trivial
  | m + 1 => by rw [List.replicate_succ, List.replicate_succ, List.flatten_cons, List.flatten_cons]; exact h.append (DenL.replicate h m)

theorem heap_size_none (h : Heap) : h.get? h.objs.size = Option.none := by
  cases e : h.get? h.objs.size with
  | none => rfl
  | some o => exact absurd (Heap.lt_size e) (Nat.lt_irrefl _)

/-- a fresh object laid at the heap's end -/
theorem K.fresh {o' : AO} {v : AV} {Q : Value → Shared → Prop} (k : K C ρ H H' (DV C H' v) Q) (R : Rel C ρ H s) (hp : H.push o' = .ok H') (hv : v = .obj H.n) {o : Obj} (hf : o.isFreed = false) (tk : Nat)
    (d : ∀ ρ' : Nat → Addr, Ext H.n ρ ρ' → DenO C.σ ρ' (H.n + 1) (s.heap.push o) s.heap.objs.size o') (hnf : ∀ xs, o' ≠ .flist xs := by intro _ h; cases h) : Q (.ref s.heap.objs.size) { s with heap := s.heap.push o, toks := tk } := by
  have ⟨R', hn, he⟩ := R.push hp (h' := s.heap.push o) (t := tk) (heap_size_none _) (fun b o e => Heap.get?_push_of_some _ e) (d _ (fun k hk => if_neg (Nat.ne_of_lt hk))) hnf
  refine k _ _ _ he (by omega) R' ?_
  subst hv
  refine ⟨by omega, ?_⟩
  show _ = Value.ref (if H.n = H.n then _ else _)
  rw [if_pos rfl]

theorem opMul_ok (F : Facts C P) (R : Rel C ρ H s) {a b v : AV} {x y : Value} (da : Den C.σ ρ H.n a x) (db : Den C.σ ρ H.n b y) (h : opMul P a b H = .ok (v, H')) {Q : Value → Shared → Prop}
    (k : K C ρ H H' (DV C H' v) Q) : wpAny (model C.prog C.w) A (binaryOp .Mult x y) Q No s := by
  unfold opMul at h
  split at h
  · rename_i n hn
    obtain ⟨u, rfl⟩ := litOf_den hn db
    cases a with
    | bytes p =>
      simp only at h
      split at h
      · rename_i hsz
        cases h
        obtain ⟨⟨t, rfl⟩, hp⟩ := da
        have hlt : ∀ c ∈ (List.replicate n p).flatten, c < 256 := fun c hc => by
          obtain ⟨l, hl, hc⟩ := List.mem_flatten.mp hc
          rw [List.eq_of_mem_replicate hl] at hc
          exact hp c hc
        simp only [Bool.and_eq_true, Nat.blt_eq, Nat.ble_eq] at hsz
        have hpe : p.map Nat.toUInt8 ≠ [] := fun e => by
          have : (p.map Nat.toUInt8).length = 0 := by rw [e]; rfl
          rw [List.length_map] at this; omega
        refine W.bytes_mul_any (b := p.map Nat.toUInt8) hpe (by omega) (by omega) (by rw [List.length_map]; omega) fun t' tk => ?_
        exact k ρ _ _ (Ext.refl _ _) (Nat.le_refl _) (R.tok tk) ⟨⟨t', by simp [toB, flatten_map]⟩, hlt⟩
      · cases h
    | obj q =>
      simp only at h
      split at h
      · rename_i xs ho
        split at h
        · rename_i hsz
          obtain ⟨H1, h1, h⟩ := Res.bind_ok h
          cases h
          obtain ⟨hq, rfl⟩ := da
          obtain ⟨vs, hl, hpl, hd⟩ := R.obj ho
          obtain ⟨kk, hpl⟩ := hpl rfl
          have hlen := hd.length
          refine mul_list_raw hpl (by omega) (by omega) ?_ ?_
          · simp only [List.size_toArray, Int.toNat_natCast]; rw [← hlen, Nat.mul_comm]; omega
          · refine k.fresh R h1 rfl rfl _ fun ρ' he => ?_
            have hval : List.foldl (fun x1 x2 => x1 ++ x2) #[] (List.replicate (if vs.toArray.isEmpty = true then 0 else (n : Int).toNat) vs.toArray) = ((List.replicate n vs).flatten).toArray := by
              by_cases hv : vs = []
              · subst hv; simp
              · rw [if_neg (by simpa using hv), Int.toNat_natCast, foldl_append_replicate]; simp
            rw [hval]
            exact ⟨_, ⟨_, Heap.get?_push_size _ rfl, rfl, 0, rfl⟩, fun _ => ⟨0, Heap.get?_push_size _ rfl⟩, (hd.replicate n).ext he (Nat.le_succ _)⟩
        · cases h
      · cases h
    | flt p =>
      obtain ⟨c, hc, h⟩ := Res.bind_ok h
      cases c with
      | true => cases h
      | false =>
        cases h
        have hz := dec_ok F hc
        obtain ⟨t, rfl⟩ := da
        exact AutoFloatOps.mul_fi_1 (by rw [show Float64.isInf (Float64.ofInt (n : Int)) = false from hz]; decide) (k.flt R rfl _ _)
    | _ => cases h
  · cases h

theorem opDiv_ok (F : Facts C P) (R : Rel C ρ H s) {a b v : AV} {x y : Value} (da : Den C.σ ρ H.n a x) (db : Den C.σ ρ H.n b y) (h : opDiv P a b H = .ok (v, H')) {Q : Value → Shared → Prop}
    (k : K C ρ H H' (DV C H' v) Q) : wpAny (model C.prog C.w) A (binaryOp .Div x y) Q No s := by
  cases a with
  | int p =>
    simp only [opDiv] at h
    split at h
    · rename_i n hl
      split at h
      · rename_i hn
        obtain ⟨c, hc, h⟩ := Res.bind_ok h
        cases c with
        | true => cases h
        | false =>
          cases h
          have hz := dec_ok F hc
          obtain ⟨t, rfl⟩ := da; obtain ⟨u, rfl⟩ := litOf_den hl db
          refine AutoIntOps.truediv_2 (by simp; omega) ?_ (k.flt R rfl _ _)
          have : Float64.isInf (Float64.ofFrac (decide (p.i C.σ < 0) != decide ((n : Int) < 0)) (p.i C.σ).natAbs (n : Int).natAbs) = false := hz
          rw [this]; decide
      · cases h
    · cases h
  | flt p =>
    cases b with
    | flt q =>
      obtain ⟨c, hc, h⟩ := Res.bind_ok h
      cases c with
      | true => cases h
      | false =>
        cases h
        have hz := dec_ok F hc
        obtain ⟨t, rfl⟩ := da; obtain ⟨u, rfl⟩ := db
        exact AutoFloatOps.truediv_1 (by rw [show Float64.isZero (q.f C.σ) = false from hz]; decide) (k.flt R rfl _ _)
    | _ => cases h
  | _ => cases h

theorem binop_ok (F : Facts C P) (R : Rel C ρ H s) {o : Operator} {a b v : AV} {x y : Value} (da : Den C.σ ρ H.n a x) (db : Den C.σ ρ H.n b y) (h : binop P o a b H = .ok (v, H')) {Q : Value → Shared → Prop}
    (k : K C ρ H H' (DV C H' v) Q) : wpAny (model C.prog C.w) A (binaryOp o x y) Q No s := by
  cases o with
  | Add => exact opAdd_ok R da db h k
  | Sub => exact opSub_ok R da db h k
  | FloorDiv => exact opFDiv_ok R da db h k
  | Mod => exact opMod_ok F R da db h k
  | RShift => exact opShr_ok R da db h k
  | BitAnd => exact opAnd_ok F R da db h k
  | Mult => exact opMul_ok F R da db h k
  | Div => exact opDiv_ok F R da db h k
  | _ => cases h

theorem iop_ok (F : Facts C P) (R : Rel C ρ H s) {o : Operator} {a b v : AV} {x y : Value} (da : Den C.σ ρ H.n a x) (db : Den C.σ ρ H.n b y) (h : iop P o a b H = .ok (v, H')) {Q : Value → Shared → Prop}
    (k : K C ρ H H' (DV C H' v) Q) : wpAny (model C.prog C.w) A (inplaceOp o x y) Q No s := by
  cases o with
  | Add =>
    cases a with
    | int p =>
      cases b with
      | int q =>
        cases h
        obtain ⟨t, rfl⟩ := da; obtain ⟨u, rfl⟩ := db
        exact iadd_int (k.int R (by simp [tadd_i]) _ _)
      | _ => cases h
    | _ => cases h
  | Sub =>
    cases a with
    | int p =>
      cases b with
      | int q =>
        cases h
        obtain ⟨t, rfl⟩ := da; obtain ⟨u, rfl⟩ := db
        exact AutoIntOps.isub_0 (k.int R (by simp [tsub_i]) _ _)
      | _ => cases h
    | _ => cases h
  | LShift =>
    cases a with
    | int p =>
      simp only [iop, iShl] at h
      split at h
      · rename_i n hl
        split at h
        · rename_i hn
          obtain ⟨c, hc, h⟩ := Res.bind_ok h
          cases c with
          | true => cases h
          | false =>
            simp only [Bool.false_eq_true, if_false] at h
            obtain ⟨c, hc', h⟩ := Res.bind_ok h
            cases c with
            | false => cases h
            | true =>
              cases h
              have h1 := dec_ok F hc
              have h2 := dec_ok F hc'
              have h1' : ¬ p.i C.σ < 0 := of_decide_eq_false (p := p.i C.σ < 0) h1
              have h2' : p.i C.σ < 64 := of_decide_eq_true (p := p.i C.σ < 64) h2
              obtain ⟨t, rfl⟩ := da; obtain ⟨u, rfl⟩ := litOf_den hl db
              have hn6 : n = 6 := by simpa using hn
              subst hn6
              exact ilshift_int_small (by omega) (by omega) (by omega) (k.int R rfl _ _)
        · cases h
      · cases h
    | _ => cases h
  | BitOr =>
    cases a with
    | int p =>
      cases b with
      | int q =>
        obtain ⟨c, hc, h⟩ := Res.bind_ok h
        cases c with
        | true => cases h
        | false =>
          simp only [Bool.false_eq_true, if_false] at h
          obtain ⟨c, hc', h⟩ := Res.bind_ok h
          cases c with
          | true => cases h
          | false =>
            cases h
            have h1 := dec_ok F hc
            have h2 := dec_ok F hc'
            have h1' : ¬ p.i C.σ < 0 := of_decide_eq_false (p := p.i C.σ < 0) h1
            have h2' : ¬ q.i C.σ < 0 := of_decide_eq_false (p := q.i C.σ < 0) h2
            obtain ⟨t, rfl⟩ := da; obtain ⟨u, rfl⟩ := db
            refine ior_int (k.int R ?_ _ _)
            rw [bitOr_nonneg (by omega) (by omega)]; rfl
      | _ => cases h
    | _ => cases h
  | _ => cases h
end

end Mine
end
section
set_option maxRecDepth 100000
namespace Mine
open PySem PyProof.Rows

section
variable {C : Cx} {P : Prm} {A : Around} {ρ : Nat → Addr} {H H' : AH} {s : Shared} {d : Nat}

theorem K.bool {b b' : Bool} {Q : Value → Shared → Prop} (k : K C ρ H H (DV C H (.bool b)) Q) (R : Rel C ρ H s) (he : b' = b) : Q (.bool b') s :=
  k ρ _ _ (Ext.refl _ _) (Nat.le_refl _) R (by rw [he]; rfl)

theorem eqInts_ok (F : Facts C P) {xs ys : List AV} {vs us : List Value} {c : Bool} (hx : DenL C.σ ρ H.n xs vs) (hy : DenL C.σ ρ H.n ys us) (h : eqInts P xs ys = .ok c) :
    ∃ ns ms, IntsAre vs ns ∧ IntsAre us ms ∧ decide (ns = ms) = c := by
  induction xs generalizing ys vs us c with
  | nil =>
    cases ys with
    | nil => rw [hx.nilOf, hy.nilOf]; cases h; exact ⟨[], [], .nil, .nil, by simp⟩
    | cons y ys => cases h
  | cons x r ih =>
    cases x with
    | int a =>
      cases ys with
      | nil => cases h
      | cons y r' =>
        cases y with
        | int b =>
          obtain ⟨v, vs, rfl, ⟨t, hv⟩, d1⟩ := hx.uncons
          obtain ⟨u, us, rfl, ⟨t', hu⟩, d2⟩ := hy.uncons
          subst hv; subst hu
          obtain ⟨c1, h1, h⟩ := Res.bind_ok h
          obtain ⟨c2, h2, h⟩ := Res.bind_ok h
          cases h
          obtain ⟨ns, ms, i1, i2, e⟩ := ih d1 d2 h2
          refine ⟨_, _, .cons _ t i1, .cons _ t' i2, ?_⟩
          have hc1 : decide (a.i C.σ = b.i C.σ) = c1 := by
            split at h1
            · rename_i hb
              cases h1
              rw [T.beq_eq hb]; simp
            · have := dec_ok F h1
              rw [← this]; rw [Bool.eq_iff_iff]; simp [Cond.holds]
          rw [← hc1, ← e]
          rw [Bool.eq_iff_iff]; simp
        | _ => cases h
    | _ => cases h
theorem all_range_getD (bs : List Bool) : (List.range bs.length).all (fun j => bs.getD j true) = bs.all id := by
  rw [Bool.eq_iff_iff]
  simp only [List.all_eq_true, List.mem_range, id]
  constructor
  · intro h x hx
    obtain ⟨j, hj, rfl⟩ := List.getElem_of_mem hx
    have := h j hj
    rwa [List.getD_eq_getElem?_getD, List.getElem?_eq_getElem hj] at this
  · intro h j hj
    rw [List.getD_eq_getElem?_getD, List.getElem?_eq_getElem hj]
    exact h _ (List.getElem_mem hj)

theorem row_obj (R : Rel C ρ H s) {a : Nat} {p : Bool} {xs : List AV} (h : H.at a = some (.list p xs)) : ∃ vs : List Value, s.heap.IsList (ρ a) vs.toArray ∧ DenL C.σ ρ H.n xs vs :=
  let ⟨vs, hl, _, hd⟩ := R.obj h; ⟨vs, hl, hd⟩

theorem rowOf_some (R : Rel C ρ H s) {l : Nat} {xs : List AV} (h : rowOf l H = some xs) : ∃ vs : List Value, s.heap.IsList (ρ l) vs.toArray ∧ DenL C.σ ρ H.n xs vs := by
  unfold rowOf at h
  split at h
  · rename_i ho; cases h; exact row_obj R ho
  · rename_i ho; cases h; exact R.obj ho
  · cases h
theorem eqRows_ok (F : Facts C P) (R : Rel C ρ H s) (hu : A.units + 100 < cLine) : ∀ {xs ys : List AV} {vs us : List Value} {c : Bool}, DenL C.σ ρ H.n xs vs → DenL C.σ ρ H.n ys us → eqRows P H xs ys = .ok c →
    ∃ bs : List Bool, bs.length = vs.length ∧ us.length = vs.length ∧ bs.all id = c ∧ ∀ j (h1 : j < vs.length) (h2 : j < us.length), SeqAt.EqAt A.in1 s vs[j] us[j] (bs.getD j true) := by
  intro xs
  induction xs with
  | nil =>
    intro ys vs us c d1 d2 h
    cases ys with
    | nil =>
      cases vs with
      | nil =>
        cases us with
        | nil => cases h; exact ⟨[], rfl, rfl, rfl, fun j h1 => absurd h1 (Nat.not_lt_zero _)⟩
        | cons _ _ => exact d2.elim
      | cons _ _ => exact d1.elim
    | cons _ _ => simp [eqRows] at h
  | cons x xs ih =>
    intro ys vs us c d1 d2 h
    cases x with
    | obj a =>
      cases ys with
      | nil => simp [eqRows] at h
      | cons y ys =>
        cases y with
        | obj b =>
          cases vs with
          | nil => exact d1.elim
          | cons v vs =>
            cases us with
            | nil => exact d2.elim
            | cons u us =>
              obtain ⟨⟨ha, rfl⟩, d1⟩ := d1
              obtain ⟨⟨hb, rfl⟩, d2⟩ := d2
              obtain ⟨c1, h1, h⟩ := Res.bind_ok h
              obtain ⟨c2, h2, h⟩ := Res.bind_ok h
              cases h
              obtain ⟨bs, l1, l2, hb', hj⟩ := ih d1 d2 h2
              refine ⟨c1 :: bs, by simp [l1], by simp [l2], by simp [hb'], fun j g1 g2 => ?_⟩
              cases j with
              | zero =>
                show SeqAt.EqAt A.in1 s (.ref (ρ a)) (.ref (ρ b)) c1
                split at h1
                · rename_i p ex p' ys' ea eb
                  split at h1
                  · rename_i hlen
                    obtain ⟨vs1, hl1, dd1⟩ := row_obj R ea
                    obtain ⟨us1, hl2, dd2⟩ := row_obj R eb
                    obtain ⟨ns, ms, i1, i2, e⟩ := eqInts_ok F dd1 dd2 h1
                    by_cases hab : ρ a = ρ b
                    · have : a = b := R.inj _ _ _ _ ha hb (AH.at_some ea).2 (AH.at_some eb).2 rfl rfl hab
                      subst this
                      have heq : ns = ms := by
                        obtain ⟨o, ho, _, n, hd⟩ := hl1
                        obtain ⟨o', ho', _, n', hd'⟩ := hl2
                        rw [ho] at ho'; cases ho'
                        rw [hd] at hd'
                        have hv : vs1 = us1 := by
                          have := (Data.seq.inj hd').1
                          exact congrArg Array.toList this
                        subst hv
                        have key : ∀ {vs : List Value} {ns ms : List Int}, IntsAre vs ns → IntsAre vs ms → ns = ms := by
                          intro vs ns ms h
                          induction h generalizing ms with
                          | nil => intro h'; cases h'; rfl
                          | cons n t _ ih => intro h'; cases h' with | cons _ _ h'' => rw [ih h'']
                        exact key i1 i2
                      rw [← e, heq]
                      simpa using SeqAt.EqAt.same (A := A.in1) (s := s) (.ref (ρ a))
                    · refine SeqAt.EqAt.of_refs hab fun prog w E Q hq => ?_
                      exact W.eq_intsK hl1 i1 hl2 i2 (by show A.units + 1 + 64 < cLine; omega) (by rw [e]; exact hq)
                  · cases h1
                · cases h1
              | succ j => exact hj j (by simpa using g1) (by simpa using g2)
        | _ => simp [eqRows] at h
    | _ => simp [eqRows] at h

theorem listOf_some (R : Rel C ρ H s) {a : AV} {xs : List AV} {x : Value} (h : listOf? a H = some xs) (da : Den C.σ ρ H.n a x) : ∃ l, ∃ vs : List Value, x = .ref l ∧ s.heap.IsList l vs.toArray ∧ DenL C.σ ρ H.n xs vs := by
  cases a with
  | obj k =>
    simp only [listOf?] at h
    split at h
    · rename_i p ys ho
      cases h
      obtain ⟨vs, hl, hd⟩ := row_obj R ho
      exact ⟨_, vs, da.2, hl, hd⟩
    · cases h
  | _ => cases h

theorem memInts_ok (F : Facts C P) {x : T} {c : Bool} : ∀ {xs : List AV} {vs : List Value}, DenL C.σ ρ H.n xs vs → memInts P x xs = .ok c →
    vs.any (fun y => match y with | .int i _ => i == x.i C.σ | _ => false) = c ∧ ∀ y ∈ vs, ∃ i t, y = .int i t := by
  intro xs
  induction xs generalizing c with
  | nil =>
    intro vs d h
    cases vs with
    | nil => cases h; exact ⟨rfl, fun _ h => nomatch h⟩
    | cons _ _ => exact d.elim
  | cons a xs ih =>
    intro vs d h
    cases vs with
    | nil => exact d.elim
    | cons v vs =>
      obtain ⟨da, d⟩ := d
      cases a with
      | int a =>
        obtain ⟨t, rfl⟩ := da
        obtain ⟨c1, h1, h⟩ := Res.bind_ok h
        obtain ⟨c2, h2, h⟩ := Res.bind_ok h
        cases h
        obtain ⟨e, hall⟩ := ih d h2
        refine ⟨?_, fun y hy => ?_⟩
        · rw [List.any_cons, e]
          congr 1
          split at h1
          · rename_i hb
            cases h1
            rw [T.beq_eq hb]; simp
          · exact dec_ok F h1
        · rcases List.mem_cons.mp hy with rfl | hy
          · exact ⟨_, _, rfl⟩
          · exact hall y hy
      | _ => simp [memInts] at h

theorem seqOf_some (R : Rel C ρ H s) {a : AV} {xs : List AV} {x : Value} (h : seqOf a H = some xs) (da : Den C.σ ρ H.n a x) :
    ∃ l, ∃ vs : List Value, x = .ref l ∧ (s.heap.IsList l vs.toArray ∨ s.heap.IsTuple l vs.toArray) ∧ DenL C.σ ρ H.n xs vs := by
  cases a with
  | obj k =>
    simp only [seqOf] at h
    split at h
    · rename_i p ys ho
      cases h
      obtain ⟨vs, hl, hd⟩ := row_obj R ho
      exact ⟨_, vs, da.2, .inl hl, hd⟩
    · rename_i ys ho
      cases h
      obtain ⟨vs, hl, hd⟩ := R.obj ho
      exact ⟨_, vs, da.2, .inr hl, hd⟩
    · rename_i ys ho
      cases h
      obtain ⟨vs, hl, hd⟩ := R.obj ho
      exact ⟨_, vs, da.2, .inl hl, hd⟩
    · cases h
  | _ => cases h

theorem in_ok (F : Facts C P) (R : Rel C ρ H s) {a b : AV} {x y : Value} {c : Bool} (da : Den C.σ ρ H.n a x) (db : Den C.σ ρ H.n b y) (h : cIn P a b H = .ok c) {Q : Value → Shared → Prop} :
    (Q (.bool c) s → wpAny (model C.prog C.w) A (compareOp .In x y) Q No s) ∧ (Q (.bool (!c)) s → wpAny (model C.prog C.w) A (compareOp .NotIn x y) Q No s) := by
  cases a with
  | int a =>
    obtain ⟨t, rfl⟩ := da
    simp only [cIn] at h
    split at h
    · rename_i xs hs
      obtain ⟨l, vs, rfl, hl, hd⟩ := seqOf_some R hs db
      obtain ⟨e, hall⟩ := memInts_ok F hd h
      have hel : ∀ z, z ∈ vs.toArray → SeqAt.EqAt A.in1 s z (.int (a.i C.σ) t) (match z with | .int i _ => i == a.i C.σ | _ => false) := fun z hz => by
        obtain ⟨i, u, rfl⟩ := hall z (by simpa using hz)
        exact SeqAt.EqAt.int_int i u _ t
      have e' : vs.toArray.any (fun y => match y with | .int i _ => i == a.i C.σ | _ => false) = c := by rw [List.any_toArray]; exact e
      rcases hl with hl | hl
      · exact ⟨fun hq => SeqAt.in_listAt _ hl hel (by rw [e']; exact hq), fun hq => SeqAt.notIn_listAt _ hl hel (by rw [e']; exact hq)⟩
      · exact ⟨fun hq => SeqAt.in_tupleAt _ hl hel (by rw [e']; exact hq), fun hq => SeqAt.notIn_tupleAt _ hl hel (by rw [e']; exact hq)⟩
    · cases h
  | _ => cases h

theorem cEq_lists (F : Facts C P) (R : Rel C ρ H s) (ok : AOk d A) {a b : AV} {x y : Value} {c : Bool} {xs ys : List AV} (ha : listOf? a H = some xs) (hb : listOf? b H = some ys) (da : Den C.σ ρ H.n a x) (db : Den C.σ ρ H.n b y)
    (h : (if isRow xs then eqInts P xs ys else eqRows P H xs ys) = .ok c) {Q : Value → Shared → Prop} (hq : Q (.bool c) s) : wpAny (model C.prog C.w) A (compareOp .Eq x y) Q No s := by
  obtain ⟨l, vs, rfl, hl, hd⟩ := listOf_some R ha da
  obtain ⟨l', us, rfl, hl', hd'⟩ := listOf_some R hb db
  have hu := ok.units
  split at h
  · obtain ⟨ns, ms, i1, i2, e⟩ := eqInts_ok F hd hd' h
    exact W.eq_intsK hl i1 hl' i2 (by omega) (by rw [e]; exact hq)
  · obtain ⟨bs, l1, l2, hb', hj⟩ := eqRows_ok (A := A) F R (by omega) hd hd' h
    refine SeqAt.eq_listAt (e := fun j => bs.getD j true) hl hl' (by simp [l2]) (by omega) (fun j h1 h2 => ?_) ?_
    · have := hj j (by simpa using h1) (by simpa using h2)
      simpa using this
    · have : (List.range vs.toArray.size).all (fun j => bs.getD j true) = c := by
        rw [List.size_toArray, ← l1, all_range_getD, hb']
      rw [this]; exact hq

theorem cmpop_ok (F : Facts C P) (R : Rel C ρ H s) (ok : AOk d A) {o : CmpOp} {a b : AV} {x y : Value} {c : Bool} (da : Den C.σ ρ H.n a x) (db : Den C.σ ρ H.n b y) (h : cmpop P o a b H = .ok c) {Q : Value → Shared → Prop}
    (hq : Q (.bool c) s) : wpAny (model C.prog C.w) A (compareOp o x y) Q No s := by
  cases o with
  | Eq =>
    simp only [cmpop, cEq] at h
    split at h
    · split at h
      · obtain ⟨t, rfl⟩ := da; obtain ⟨u, rfl⟩ := db
        exact eq_int (by rw [show ((_ : Int) == _) = c from dec_ok F h]; exact hq)
      · cases h
    · split at h
      · obtain ⟨t, rfl⟩ := da; obtain ⟨u, rfl⟩ := db
        exact AutoFloatOps.eq_0 (by rw [show (Float64.cmp _ _ == some Ordering.eq) = c from dec_ok F h]; exact hq)
      · cases h
    · split at h
      · rename_i xs hx
        split at h
        · rename_i ys hy
          split at h
          · exact cEq_lists F R ok hx hy da db h hq
          · cases h
        · cases h
      · cases h
  | NotEq =>
    simp only [cmpop, cNe] at h
    split at h
    · split at h
      · obtain ⟨c', h', h⟩ := Res.bind_ok h
        cases h
        obtain ⟨t, rfl⟩ := da; obtain ⟨u, rfl⟩ := db
        exact ne_int (by rw [show ((_ : Int) != _) = !c' from congrArg Bool.not (dec_ok F h')]; exact hq)
      · cases h
    · split at h
      · rename_i xs hx
        split at h
        · rename_i ys hy
          split at h
          · obtain ⟨c', h', h⟩ := Res.bind_ok h
            cases h
            obtain ⟨l, vs, rfl, hl, hd⟩ := listOf_some R hx da
            obtain ⟨l', us, rfl, hl', hd'⟩ := listOf_some R hy db
            obtain ⟨ns, ms, i1, i2, e⟩ := eqInts_ok F hd hd' h'
            have hu := ok.units
            exact W.ne_intsK hl i1 hl' i2 (by omega) (by rw [e]; exact hq)
          · cases h
        · cases h
      · cases h
  | Lt =>
    simp only [cmpop, cLt] at h
    split at h
    · split at h
      · obtain ⟨t, rfl⟩ := da; obtain ⟨u, rfl⟩ := db
        exact lt_int (by rw [show decide (_ < _) = c from dec_ok F h]; exact hq)
      · cases h
    · cases h
  | Gt =>
    simp only [cmpop, cLt] at h
    split at h
    · split at h
      · obtain ⟨t, rfl⟩ := da; obtain ⟨u, rfl⟩ := db
        exact gt_int (by rw [show decide (_ < _) = c from dec_ok F h]; exact hq)
      · cases h
    · cases h
  | In => exact (in_ok F R da db h).1 hq
  | NotIn =>
    obtain ⟨c', h', h⟩ := Res.bind_ok h
    cases h
    exact (in_ok F R da db h').2 hq
  | _ => cases h

theorem truth_ok (F : Facts C P) {a : AV} {x : Value} {c : Bool} (da : Den C.σ ρ H.n a x) (h : truth P a = .ok c) {Q : Bool → Shared → Prop} (hq : Q c s) : wpAny (model C.prog C.w) A (truthy x) Q No s := by
  cases a with
  | bool b => cases h; subst da; exact wpAny_truthy_bool hq
  | int e =>
    obtain ⟨c', h', h⟩ := Res.bind_ok h
    cases h
    obtain ⟨t, rfl⟩ := da
    refine truthy_int ?_
    rw [show (e.i C.σ != 0) = !c' from congrArg Bool.not (dec_ok F h')]; exact hq
  | _ => cases h

theorem item_ok (R : Rel C ρ H s) {a b v : AV} {x y : Value} (da : Den C.σ ρ H.n a x) (db : Den C.σ ρ H.n b y) (h : item a b H = .ok v) :
    ∃ u, Den C.σ ρ H.n v u ∧ ∃ T id, typeLookup (.type T) "__getitem__" = pure (some (.builtin id)) ∧ s.TypeIs x T ∧ ∀ {Q : Value → Shared → Prop}, Q u s → wpAny (model C.prog C.w) A (getItem x y) Q No s := by
  unfold item at h
  split at h
  · rename_i i hi
    obtain ⟨t, rfl⟩ := litOf_den hi db
    split at h
    · rename_i xs hx
      split at h
      · rename_i hlt
        split at h
        · rename_i v' hv
          cases h
          obtain ⟨l, vs, rfl, hl, hd⟩ := seqOf_some R hx da
          obtain ⟨u, hu, du⟩ := hd.get hv
          have hlt' : i < 1000 := by simpa [Nat.blt_eq] using hlt
          refine ⟨u, du, ?_⟩
          rcases hl with hl | hl
          · exact ⟨"list", _, slot_list_getitem.lookup, hl.typeIs, fun hq => wpAny_getItem_list hl (by omega) (by omega) (by simpa using hu) hq⟩
          · refine ⟨"tuple", _, PySem.F.slot_tuple_getitem.lookup, ?_, fun hq => getItem_tuple hl (by omega) (by omega) (j := i) ?_ (by simpa using hu) hq⟩
            · obtain ⟨o, ho, hc, _⟩ := hl; exact ⟨o, ho, hc⟩
            · refine seqIndex_of (by omega) ?_
              have := (List.getElem?_eq_some_iff.mp hu).1
              simp only [List.size_toArray]; omega
        · cases h
      · cases h
    · cases h
  · cases h

theorem setitem_ok (R : Rel C ρ H s) {a b v : AV} {x y z : Value} (da : Den C.σ ρ H.n a x) (db : Den C.σ ρ H.n b y) (dv : Den C.σ ρ H.n v z) (h : setitem a b v H = .ok H') {Q : Unit → Shared → Prop} (k : K C ρ H H' DU Q) :
    wpAny (model C.prog C.w) A (setItem x y z) Q No s := by
  unfold setitem at h
  split at h
  · rename_i i hi
    obtain ⟨t, rfl⟩ := litOf_den hi db
    split at h
    · rename_i q
      split at h
      · rename_i p xs ho
        split at h
        · rename_i hlt
          simp only [Bool.and_eq_true, Nat.blt_eq] at hlt
          obtain ⟨hq, rfl⟩ := da
          obtain ⟨vs, hl, hd⟩ := row_obj R ho
          have hlen := hd.length
          refine wpAny_setItem_list hl (by omega) (by omega) (by simp only [List.size_toArray]; omega) fun h' hl' hs' => ?_
          have ⟨R', e⟩ := R.put h ho rfl (t := s.toks) (fun b o hb e => hs'.extBut b o hb e) (show DenO C.σ ρ H.n h' (ρ q) (.list false (xs.set i v)) from
            ⟨vs.set i z, (by simpa using hl'), (fun e => nomatch e), hd.set i dv⟩)
          exact k ρ () _ (Ext.refl _ _) (Nat.le_of_eq e.symm) R' trivial
        · cases h
      · cases h
    · cases h
  · cases h

theorem iterOf_ok (R : Rel C ρ H s) {a v : AV} {x : Value} (da : Den C.σ ρ H.n a x) (h : iterOf a H = .ok (v, H')) {Q : Value → Shared → Prop} (k : K C ρ H H' (DV C H' v) Q) :
    wpAny (model C.prog C.w) A (pyIter x) Q No s := by
  cases a with
  | obj q =>
    obtain ⟨hq, rfl⟩ := da
    simp only [iterOf] at h
    split at h
    · rename_i p xs ho
      obtain ⟨H1, h1, h⟩ := Res.bind_ok h
      cases h
      obtain ⟨vs, hl, hd⟩ := row_obj R ho
      exact wpAny_pyIter_list hl (k.fresh R h1 rfl rfl _ fun ρ' he => ⟨Nat.lt_succ_of_lt hq, _, Heap.get?_push_size _ rfl, rfl, by rw [he q hq]; rfl⟩)
    · rename_i xs ho
      obtain ⟨H1, h1, h⟩ := Res.bind_ok h
      cases h
      obtain ⟨vs, hl, hd⟩ := R.obj ho
      exact wpAny_pyIter_list hl (k.fresh R h1 rfl rfl _ fun ρ' he => ⟨Nat.lt_succ_of_lt hq, _, Heap.get?_push_size _ rfl, rfl, by rw [he q hq]; rfl⟩)
    · rename_i lo hi ho
      split at h
      · rename_i hlt
        obtain ⟨H1, h1, h⟩ := Res.bind_ok h
        cases h
        obtain ⟨t, u, w, hr⟩ := R.obj ho
        refine wpAny_pyIter_range hr (small_one (by omega) (by omega) (by omega) (by omega)) (k.fresh R h1 rfl rfl _ fun ρ' he => ?_)
        rw [rangeSize_one]
        exact Heap.get?_push_size _ rfl
      · cases h
    · rename_i l i ho
      cases h
      obtain ⟨hl, hit⟩ := R.obj ho
      exact wpAny_pyIter_listiter hit (k ρ _ _ (Ext.refl _ _) (Nat.le_refl _) R ⟨hq, rfl⟩)
    · rename_i c n ho
      cases h
      exact wpAny_pyIter_rangeiter (R.obj ho) (k ρ _ _ (Ext.refl _ _) (Nat.le_refl _) R ⟨hq, rfl⟩)
    · cases h
  | _ => cases h
end

end Mine
end
section
set_option maxRecDepth 100000
namespace Mine
open PySem PyProof.Rows

section
variable {C : Cx} {P : Prm} {A : Around} {ρ : Nat → Addr} {H H' : AH} {s : Shared} {d : Nat}

abbrev DO (C : Cx) (H' : AH) (v : Option AV) : (Nat → Addr) → Option Value → Prop := fun ρ u => match v, u with
  | Option.none, Option.none => True
  | some v, some u => Den C.σ ρ H'.n v u
  | _, _ => False

theorem nextOf_ok (R : Rel C ρ H s) (hh : A.handled = Option.none) {a : AV} {v : Option AV} {x : Value} (da : Den C.σ ρ H.n a x) (h : nextOf a H = .ok (v, H')) {Q : Option Value → Shared → Prop} (k : K C ρ H H' (DO C H' v) Q) :
    wpAny (model C.prog C.w) A (pyNext x) Q No s := by
  cases a with
  | obj q =>
    obtain ⟨hq, rfl⟩ := da
    simp only [nextOf] at h
    split at h
    · rename_i l i ho
      obtain ⟨hlt, hit⟩ := R.obj ho
      split at h
      · rename_i xs hol
        obtain ⟨vs, hl, hd⟩ := rowOf_some R hol
        split at h
        · rename_i w hw
          obtain ⟨H1, h1, h⟩ := Res.bind_ok h
          cases h
          obtain ⟨u, hu, du⟩ := hd.get hw
          refine wpAny_pyNext_list_item hit hl (by simpa using hu) fun h' hit' hs' => ?_
          have ⟨R', e⟩ := R.put h1 ho rfl (t := s.toks) (fun b o hb e => hs'.extBut b o hb e) (show DenO C.σ ρ H.n h' (ρ q) (.itL l (i + 1)) from ⟨hlt, hit'⟩)
          exact k ρ (some u) _ (Ext.refl _ _) (Nat.le_of_eq e.symm) R' (by show Den C.σ ρ _ _ u; rw [e]; exact du)
        · rename_i hw
          obtain ⟨H1, h1, h⟩ := Res.bind_ok h
          cases h
          have hlen := hd.length
          have hw' : xs.length ≤ i := by simpa using hw
          refine wpAny_pyNext_list_end hh hit hl (by simp; omega) fun h' hs' => ?_
          have ⟨R', e⟩ := R.put h1 ho rfl (t := s.toks) (fun b o hb e => hs' b o hb e) (show DenO C.σ ρ H.n h' (ρ q) .any from trivial)
          exact k ρ Option.none _ (Ext.refl _ _) (Nat.le_of_eq e.symm) R' trivial
      · cases h
    · rename_i c n ho
      have hit := R.obj ho
      split at h
      · rename_i hn
        obtain ⟨H1, h1, h⟩ := Res.bind_ok h
        cases h
        refine wpAny_pyNext_range_item hit (by omega) fun h' hit' hs' => ?_
        have ⟨R', e⟩ := R.put h1 ho rfl (t := s.toks + 1) (fun b o hb e => hs'.extBut b o hb e) (show DenO C.σ ρ H.n h' (ρ q) (.itR (c + 1) (n - 1)) from hit')
        exact k ρ (some _) _ (Ext.refl _ _) (Nat.le_of_eq e.symm) R' ⟨_, rfl⟩
      · rename_i hn
        obtain ⟨H1, h1, h⟩ := Res.bind_ok h
        cases h
        refine wpAny_pyNext_range_end hh hit (by omega) fun h' hs' => ?_
        have ⟨R', e⟩ := R.put h1 ho rfl (t := s.toks) (fun b o hb e => hs' b o hb e) (show DenO C.σ ρ H.n h' (ρ q) .any from trivial)
        exact k ρ Option.none _ (Ext.refl _ _) (Nat.le_of_eq e.symm) R' trivial
    · cases h
  | _ => cases h

/-! ## the built-ins -/
theorem foldl_tmax (σ : Nat → Int) : ∀ (r : List T) (a : T), (r.foldl tmax a).i σ ∈ (a :: r).map (T.i σ) ∧ ∀ x ∈ (a :: r).map (T.i σ), x ≤ (r.foldl tmax a).i σ
  | [], a => by simp
  | b :: r, a => by
    obtain ⟨h1, h2⟩ := foldl_tmax σ r (tmax a b)
    simp only [List.map_cons, List.mem_cons, tmax_i, List.foldl_cons] at h1 h2 ⊢
    refine ⟨?_, fun x hx => ?_⟩
    · rcases h1 with h1 | h1
      · split at h1
        · exact .inr (.inl h1)
        · exact .inl h1
      · exact .inr (.inr h1)
    · have h0 := h2 _ (.inl rfl)
      rcases hx with rfl | rfl | hx
      · split at h0 <;> omega
      · split at h0 <;> omega
      · exact h2 x (.inr hx)
theorem foldl_tmin (σ : Nat → Int) : ∀ (r : List T) (a : T), (r.foldl tmin a).i σ ∈ (a :: r).map (T.i σ) ∧ ∀ x ∈ (a :: r).map (T.i σ), (r.foldl tmin a).i σ ≤ x
  | [], a => by simp
  | b :: r, a => by
    obtain ⟨h1, h2⟩ := foldl_tmin σ r (tmin a b)
    simp only [List.map_cons, List.mem_cons, tmin_i, List.foldl_cons] at h1 h2 ⊢
    refine ⟨?_, fun x hx => ?_⟩
    · rcases h1 with h1 | h1
      · split at h1
        · exact .inr (.inl h1)
        · exact .inl h1
      · exact .inr (.inr h1)
    · have h0 := h2 _ (.inl rfl)
      rcases hx with rfl | rfl | hx
      · split at h0 <;> omega
      · split at h0 <;> omega
      · exact h2 x (.inr hx)

theorem intsOf_den : ∀ {xs : List AV} {ts : List T} {vs : List Value}, intsOf xs = some ts → DenL C.σ ρ H.n xs vs → IntsAre vs (ts.map (T.i C.σ))
  | [], ts, vs, h, d => by
    cases h
    cases vs with
    | nil => exact .nil
    | cons _ _ => exact d.elim
  | x :: xs, ts, vs, h, d => by
    cases vs with
    | nil => exact d.elim
    | cons v vs =>
      cases x with
      | int a =>
        simp only [intsOf, Option.map_eq_some_iff] at h
        obtain ⟨ts', h', rfl⟩ := h
        obtain ⟨⟨t, rfl⟩, d⟩ := d
        exact .cons _ t (intsOf_den h' d)
      | _ => cases h

theorem max_ints_raw {l : Addr} {vs : List Value} {ns : List Int} {E : Value → Shared → Prop} {Q : Value → Shared → Prop} {prog : Program} {w : World} (hh : A.handled = Option.none) (hl : s.heap.IsList l vs.toArray) (hi : IntsAre vs ns) (hne : 0 < ns.length)
    (h : ∀ h' tk M t, (∀ b o, s.heap.get? b = some o → h'.get? b = some o) → M ∈ ns → (∀ a, a ∈ ns → a ≤ M) → Q (.int M t) { s with heap := h', toks := tk }) : wpAny (model prog w) A (call (.builtin "max") [.ref l]) Q E s := by
  obtain ⟨xs, e⟩ := hi.allInts.items
  have hn : ns = xs.toList.map (·.1) := by rw [← hi.numsOf, ← nums_intItems xs, ← e]
  rw [e] at hl
  have hsz : xs.size = ns.length := by rw [hn]; simp
  refine max_intList hh hl (by omega) fun v h' tk hv hk => ?_
  obtain ⟨t, rfl⟩ := intItems_at hv
  obtain ⟨h1, h2⟩ := argBest_gt (numAt xs) (xs.size - 1)
  refine h h' tk _ t hk ?_ fun a ha => ?_
  · rw [numAt_eq, hn]; exact getD_mem (by rw [← hn]; omega)
  · rw [hn] at ha
    obtain ⟨j, hj, rfl⟩ := mem_getD ha
    rw [← hn] at hj
    rw [← numAt_eq]; exact h2 j (by omega)
theorem min_ints_raw {l : Addr} {vs : List Value} {ns : List Int} {E : Value → Shared → Prop} {Q : Value → Shared → Prop} {prog : Program} {w : World} (hh : A.handled = Option.none) (hl : s.heap.IsList l vs.toArray) (hi : IntsAre vs ns) (hne : 0 < ns.length)
    (h : ∀ h' tk M t, (∀ b o, s.heap.get? b = some o → h'.get? b = some o) → M ∈ ns → (∀ a, a ∈ ns → M ≤ a) → Q (.int M t) { s with heap := h', toks := tk }) : wpAny (model prog w) A (call (.builtin "min") [.ref l]) Q E s := by
  obtain ⟨xs, e⟩ := hi.allInts.items
  have hn : ns = xs.toList.map (·.1) := by rw [← hi.numsOf, ← nums_intItems xs, ← e]
  rw [e] at hl
  have hsz : xs.size = ns.length := by rw [hn]; simp
  refine min_intList hh hl (by omega) fun v h' tk hv hk => ?_
  obtain ⟨t, rfl⟩ := intItems_at hv
  obtain ⟨h1, h2⟩ := argBest_lt (numAt xs) (xs.size - 1)
  refine h h' tk _ t hk ?_ fun a ha => ?_
  · rw [numAt_eq, hn]; exact getD_mem (by rw [← hn]; omega)
  · rw [hn] at ha
    obtain ⟨j, hj, rfl⟩ := mem_getD ha
    rw [← hn] at hj
    rw [← numAt_eq]; exact h2 j (by omega)

theorem fresh3 {v1 v2 v3 : Value} {h' : Heap} (hk : ∀ b o, b ∉ [(s.heap.push { cls := .type "tuple", data := .seq #[v1, v2, v3] }).objs.size] → ((s.heap.push { cls := .type "tuple", data := .seq #[v1, v2, v3] }).push { cls := .type "tuple_iterator", data := .fields #[.ref s.heap.objs.size, .int 0 0] }).get? b = some o → h'.get? b = some o) :
    ∀ b o, s.heap.get? b = some o → h'.get? b = some o := fun b o e => by
  refine hk b o (fun hm => ?_) (Heap.get?_push_of_some _ (Heap.get?_push_of_some _ e))
  rcases List.mem_cons.mp hm with e1 | hm
  · have := Heap.lt_size e; rw [e1, Heap.size_push] at this; exact Nat.lt_irrefl _ (Nat.lt_of_succ_lt this)
  · cases hm

theorem max_three_flt {x y z : UInt64} {t u v : Tok} {E : Value → Shared → Prop} {Q : Value → Shared → Prop} {prog : Program} {w : World} (hh : A.handled = Option.none)
    (h : ∀ h' tk t', (∀ b o, s.heap.get? b = some o → h'.get? b = some o) → Q (.float (fltMax (fltMax x y) z) t') { s with heap := h', toks := tk }) :
    wpAny (model prog w) A (call (.builtin "max") [.float x t, .float y u, .float z v]) Q E s := by
  have hT : (s.heap.push { cls := .type "tuple", data := .seq #[.float x t, .float y u, .float z v] }).IsTuple s.heap.objs.size #[.float x t, .float y u, .float z v] := ⟨_, Heap.get?_push_size _ rfl, rfl, 0, rfl⟩
  refine call_max_three (wpAny_pyIter_tuple hT ?_)
  have hsz : (s.heap.push { cls := .type "tuple", data := .seq #[.float x t, .float y u, .float z v] }).objs.size = s.heap.objs.size + 1 := Heap.size_push ..
  refine ⟨_, [_, s.heap.objs.size], [_], _, _, _, _, rfl, Walks.tuple (A := A.in1) hh _ s.heap.objs.size (by rw [hsz]; exact Nat.ne_of_lt (Nat.lt_succ_self _)) #[.float x t, .float y u, .float z v],
    ⟨⟨_, Heap.get?_push_size _ rfl, rfl, rfl⟩, hT.push _⟩, fun d hd => ?_, by simp, Flt.cmpOf_gt #[.float x t, .float y u, .float z v] (by simp; exact ⟨.float _ _, .float _ _, .float _ _⟩), fun w' h' tk hP hk => ?_⟩
  · show d < ((s.heap.push _).push _).objs.size
    rw [Heap.size_push, hsz]
    rcases List.mem_cons.mp hd with rfl | hd
    · rw [hsz]; exact Nat.lt_succ_self _
    · rcases List.mem_cons.mp hd with rfl | hd
      · exact Nat.lt_succ_of_lt (Nat.lt_succ_self _)
      · cases hd
  · have hold := fresh3 (s := s) hk
    by_cases h1 : Float64.cmp x y = some .lt
    · by_cases h2 : Float64.cmp y z = some .lt
      · have hv : w' = .float z v := by simpa [argBest, Flt.ltV, h1, h2] using hP.symm
        have := h h' tk v hold
        rw [hv]; simpa [fltMax, h1, h2] using this
      · have hv : w' = .float y u := by simpa [argBest, Flt.ltV, h1, h2] using hP.symm
        have := h h' tk u hold
        rw [hv]; simpa [fltMax, h1, h2] using this
    · by_cases h2 : Float64.cmp x z = some .lt
      · have hv : w' = .float z v := by simpa [argBest, Flt.ltV, h1, h2] using hP.symm
        have := h h' tk v hold
        rw [hv]; simpa [fltMax, h1, h2] using this
      · have hv : w' = .float x t := by simpa [argBest, Flt.ltV, h1, h2] using hP.symm
        have := h h' tk t hold
        rw [hv]; simpa [fltMax, h1, h2] using this
theorem min_three_flt {x y z : UInt64} {t u v : Tok} {E : Value → Shared → Prop} {Q : Value → Shared → Prop} {prog : Program} {w : World} (hh : A.handled = Option.none)
    (h : ∀ h' tk t', (∀ b o, s.heap.get? b = some o → h'.get? b = some o) → Q (.float (fltMin (fltMin x y) z) t') { s with heap := h', toks := tk }) :
    wpAny (model prog w) A (call (.builtin "min") [.float x t, .float y u, .float z v]) Q E s := by
  have hT : (s.heap.push { cls := .type "tuple", data := .seq #[.float x t, .float y u, .float z v] }).IsTuple s.heap.objs.size #[.float x t, .float y u, .float z v] := ⟨_, Heap.get?_push_size _ rfl, rfl, 0, rfl⟩
  refine call_min_three (wpAny_pyIter_tuple hT ?_)
  have hsz : (s.heap.push { cls := .type "tuple", data := .seq #[.float x t, .float y u, .float z v] }).objs.size = s.heap.objs.size + 1 := Heap.size_push ..
  refine ⟨_, [_, s.heap.objs.size], [_], _, _, _, _, rfl, Walks.tuple (A := A.in1) hh _ s.heap.objs.size (by rw [hsz]; exact Nat.ne_of_lt (Nat.lt_succ_self _)) #[.float x t, .float y u, .float z v],
    ⟨⟨_, Heap.get?_push_size _ rfl, rfl, rfl⟩, hT.push _⟩, fun d hd => ?_, by simp, Flt.cmpOf_lt #[.float x t, .float y u, .float z v] (by simp; exact ⟨.float _ _, .float _ _, .float _ _⟩), fun w' h' tk hP hk => ?_⟩
  · show d < ((s.heap.push _).push _).objs.size
    rw [Heap.size_push, hsz]
    rcases List.mem_cons.mp hd with rfl | hd
    · rw [hsz]; exact Nat.lt_succ_self _
    · rcases List.mem_cons.mp hd with rfl | hd
      · exact Nat.lt_succ_of_lt (Nat.lt_succ_self _)
      · cases hd
  · have hold := fresh3 (s := s) hk
    by_cases h1 : Float64.cmp y x = some .lt
    · by_cases h2 : Float64.cmp z y = some .lt
      · have hv : w' = .float z v := by simpa [argBest, Flt.ltV, h1, h2] using hP.symm
        have := h h' tk v hold
        rw [hv]; simpa [fltMin, h1, h2] using this
      · have hv : w' = .float y u := by simpa [argBest, Flt.ltV, h1, h2] using hP.symm
        have := h h' tk u hold
        rw [hv]; simpa [fltMin, h1, h2] using this
    · by_cases h2 : Float64.cmp z x = some .lt
      · have hv : w' = .float z v := by simpa [argBest, Flt.ltV, h1, h2] using hP.symm
        have := h h' tk v hold
        rw [hv]; simpa [fltMin, h1, h2] using this
      · have hv : w' = .float x t := by simpa [argBest, Flt.ltV, h1, h2] using hP.symm
        have := h h' tk t hold
        rw [hv]; simpa [fltMin, h1, h2] using this

theorem bytes_special {prog : Program} {w : World} {E : Value → Shared → Prop} {it : Addr} {b : Array UInt8} {t : Tok} {i : Nat} {c : UInt8} {Q : Option Value → Shared → Prop} (hit : W.KBw.IsBytesIter s.heap it b t i) (hx : b[i]? = some c)
    (hQ : ∀ h', W.KBw.IsBytesIter h' it b t (i + 1) → Heap.SameBut it s.heap h' → Q (some (.int (c.toNat : Int) s.toks)) { s with heap := h', toks := s.toks + 1 }) :
    wpAny (model prog w) A (callSpecial? (.ref it) (Str.ofString "__next__")) Q E s := by
  obtain ⟨o, ho, hc, hd⟩ := id hit
  refine wpAny_callSpecial?_slot (name := Str.ofString "__next__") (W.KBw.iter_typeIs hit) W.KBw.slot_next
    (wpAny_call_entry W.KBw.slot_next (W.KBw.iter_typeIs hit) W.KBw.entry_next ?_ (W.KBw.args_next _))
  show wpAny _ _ (field (.ref it) 0 >>= _) _ _ s
  refine wpAny_bind (wpAny_field ho hd (x := .bytes b t) rfl ?_)
  show wpAny _ _ (if (Value.bytes b t == Value.none) = true then _ else _) _ _ s
  rw [if_neg (show ¬ ((Value.bytes b t == Value.none) = true) from Bool.false_ne_true)]
  show wpAny _ _ (field (.ref it) 1 >>= _) _ _ s
  refine wpAny_bind (wpAny_field ho hd (x := .int i 0) rfl ?_)
  refine wpAny_bind (wpAny_of_eq (a := b) rfl ?_)
  simp only [Int.toNat_natCast, hx]
  refine wpAny_bind (wpAny_setField ho hd (by simp) (wpAny_bind (wpAny_mkInt (wpAny_pure ⟨_, rfl, hQ _ ?_ (Heap.SameBut.update ..)⟩))))
  exact ⟨_, Heap.get?_update_self _ ho (Obj.isFreed_of_fields (Obj.data_mapFields hd _)), (Obj.cls_mapFields ..).trans hc, by
    rw [Obj.data_mapFields hd]; simp [rawInt]⟩

theorem call_next_bytes {prog : Program} {w : World} {E : Value → Shared → Prop} {it : Addr} {b : Array UInt8} {t : Tok} {i : Nat} {c : UInt8} {Q : Value → Shared → Prop} (hit : W.KBw.IsBytesIter s.heap it b t i) (hx : b[i]? = some c)
    (hQ : ∀ h' tk tk', W.KBw.IsBytesIter h' it b t (i + 1) → Heap.SameBut it s.heap h' → Q (.int (c.toNat : Int) tk) { s with heap := h', toks := tk' }) :
    wpAny (model prog w) A (call (.builtin "next") [.ref it]) Q E s := by
  refine Calls.call_function_entry (by decide +kernel) (by decide +kernel) W.kdk_entry_next (W.kdk_args_next _) ?_
  unfold Builtin.«next»
  refine wpAny_bind (m := someArgs "next" 1 2 _) (wpAny_of_eq (a := [Value.ref it]) (by first | rfl | kernel_rfl) ?_)
  dsimp only
  refine wpAny_bind (wpAny_specialOf (name := Str.ofString "__next__") (W.KBw.iter_typeIs hit) W.KBw.slot_next.lookup ?_)
  refine wpAny_ite_split (fun hab => absurd hab (by decide)) (fun _ => ?_)
  refine wpAny_bind (bytes_special hit hx fun h' hit' hs => ?_)
  exact wpAny_pure ⟨_, rfl, hQ h' _ _ hit' hs⟩

theorem call_iter_bytes {prog : Program} {w : World} {E : Value → Shared → Prop} {b : Array UInt8} {t : Tok} {Q : Value → Shared → Prop}
    (hQ : Q (.ref s.heap.objs.size) { s with heap := s.heap.push { cls := .type "bytes_iterator", data := .fields #[.bytes b t, .int 0 0] } }) :
    wpAny (model prog w) A (call (.builtin "iter") [.bytes b t]) Q E s := by
  refine Calls.call_function_entry (by decide +kernel) (by decide +kernel) W.kdk_entry_iter (W.kdk_args_iter _) ?_
  unfold Builtin.«iter»
  refine wpAny_bind (m := someArgs "iter" 1 2 _) (wpAny_of_eq (a := [Value.bytes b t]) (by first | rfl | kernel_rfl) ?_)
  show wpAny _ _ (pyIter (.bytes b t) >>= _) _ _ _
  exact wpAny_bind (W.KBw.pyIter_bytes (wpAny_pure ⟨_, rfl, hQ⟩))

theorem octets_ok (F : Facts C P) : ∀ {ts : List T}, octets P ts = .ok () → ∀ e ∈ ts, 0 ≤ e.i C.σ ∧ e.i C.σ < 256
  | [], _, _, he => nomatch he
  | a :: r, h, e, he => by
    obtain ⟨c, hc, h⟩ := Res.bind_ok h
    cases c with
    | true => cases h
    | false =>
      simp only [Bool.false_eq_true, if_false] at h
      obtain ⟨c, hc', h⟩ := Res.bind_ok h
      cases c with
      | false => cases h
      | true =>
        simp only [if_true] at h
        rcases List.mem_cons.mp he with rfl | he
        · have h1 : ¬ e.i C.σ < 0 := of_decide_eq_false (p := e.i C.σ < 0) (dec_ok F hc)
          have h2 : e.i C.σ < 256 := of_decide_eq_true (p := e.i C.σ < 256) (dec_ok F hc')
          omega
        · exact octets_ok F h e he

/-- a call that keeps the heap -/
theorem K.kept {v : AV} {Q : Value → Shared → Prop} (k : K C ρ H H (DV C H v) Q) (R : Rel C ρ H s) {h' : Heap} (hk : ∀ b o, s.heap.get? b = some o → h'.get? b = some o) (tk : Nat) {u : Value} (d : Den C.σ ρ H.n v u) : Q u { s with heap := h', toks := tk } :=
  k ρ u _ (Ext.refl _ _) (Nat.le_refl _) (R.heapTok hk) d

theorem foldl_tadd (σ : Nat → Int) : ∀ (r : List T) (a : T), (r.foldl tadd a).i σ = a.i σ + (r.map (T.i σ)).sum
  | [], a => by simp
  | x :: r, a => by
    rw [List.foldl_cons, foldl_tadd σ r, tadd_i, List.map_cons, List.sum_cons]; omega
theorem intsAre_int {vs : List Value} {ns : List Int} {v : Value} (h : IntsAre vs ns) (hm : v ∈ vs) : ∃ i t, v = .int i t := by
  induction h with
  | nil => cases hm
  | cons n1 t1 h1 ih =>
    rcases List.mem_cons.mp hm with rfl | hm
    · exact ⟨_, _, rfl⟩
    · exact ih hm
theorem callB_ok (F : Facts C P) (R : Rel C ρ H s) (ok : AOk d A) {f : BI} {args : List AV} {v : AV} {vals : List Value} (da : DenL C.σ ρ H.n args vals) (h : callB P f args H = .ok (v, H')) {Q : Value → Shared → Prop} (k : K C ρ H H' (DV C H' v) Q) :
    wpAny (model C.prog C.w) A (call f.val vals) Q No s := by
  have hh := ok.handled
  cases f with
  | range =>
    unfold callB at h
    dsimp only at h
    split at h
    · rename_i b
      split at h
      · obtain ⟨H1, h1, h⟩ := Res.bind_ok h
        cases h
        obtain ⟨u, rfl, ⟨t, hu⟩⟩ := DenL.one da
        subst hu
        exact call_range_1 (k.fresh R h1 rfl rfl _ fun ρ' he => ⟨_, _, _, Heap.get?_push_size _ rfl⟩)
      · cases h
    · rename_i a b
      split at h
      · obtain ⟨H1, h1, h⟩ := Res.bind_ok h
        cases h
        obtain ⟨u, u', rfl, ⟨t, hu⟩, ⟨t', hu'⟩⟩ := DenL.two da
        subst hu; subst hu'
        exact call_range_2 (k.fresh R h1 rfl rfl _ fun ρ' he => ⟨_, _, _, Heap.get?_push_size _ rfl⟩)
      · cases h
    · cases h
  | max =>
    unfold callB at h
    dsimp only at h
    split at h
    · rename_i a b
      cases h
      obtain ⟨u, u', rfl, ⟨t, hu⟩, ⟨t', hu'⟩⟩ := DenL.two da
      subst hu; subst hu'
      refine max_two_ints hh fun h' tk hk => k.kept R hk tk ?_
      split
      · rename_i hc; exact ⟨t', by rw [tmax_i, if_pos hc]⟩
      · rename_i hc; exact ⟨t, by rw [tmax_i, if_neg hc]⟩
    · rename_i a b c
      cases h
      obtain ⟨u, u', u'', rfl, ⟨t, hu⟩, ⟨t', hu'⟩, ⟨t'', hu''⟩⟩ := DenL.three da
      subst hu; subst hu'; subst hu''
      exact max_three_flt hh fun h' tk t' hk => k.kept R hk tk ⟨t', rfl⟩
    · rename_i q
      split at h
      · rename_i p xs ho
        split at h
        · rename_i a r hi
          cases h
          obtain ⟨u, rfl, ⟨hq, hu⟩⟩ := DenL.one da
          subst hu
          obtain ⟨vs, hl, hd⟩ := row_obj R ho
          refine max_ints_raw hh hl (intsOf_den hi hd) (by simp) fun h' tk M t hk hM hall => k.kept R hk tk ⟨t, ?_⟩
          obtain ⟨g1, g2⟩ := foldl_tmax C.σ r a
          have := hall _ g1
          have := g2 _ hM
          congr 1; omega
        · cases h
      · cases h
    · cases h
  | min =>
    unfold callB at h
    dsimp only at h
    split at h
    · rename_i a b c
      cases h
      obtain ⟨u, u', u'', rfl, ⟨t, hu⟩, ⟨t', hu'⟩, ⟨t'', hu''⟩⟩ := DenL.three da
      subst hu; subst hu'; subst hu''
      exact min_three_flt hh fun h' tk t' hk => k.kept R hk tk ⟨t', rfl⟩
    · rename_i q
      split at h
      · rename_i p xs ho
        split at h
        · rename_i a r hi
          cases h
          obtain ⟨u, rfl, ⟨hq, hu⟩⟩ := DenL.one da
          subst hu
          obtain ⟨vs, hl, hd⟩ := row_obj R ho
          refine min_ints_raw hh hl (intsOf_den hi hd) (by simp) fun h' tk M t hk hM hall => k.kept R hk tk ⟨t, ?_⟩
          obtain ⟨g1, g2⟩ := foldl_tmin C.σ r a
          have := hall _ g1
          have := g2 _ hM
          congr 1; omega
        · cases h
      · cases h
    · cases h
  | bytes =>
    unfold callB at h
    dsimp only at h
    split at h
    · rename_i q
      split at h
      · rename_i p xs ho
        split at h
        · rename_i ts hi
          obtain ⟨u, h1, h⟩ := Res.bind_ok h
          split at h
          · rename_i hlt
            cases h
            obtain ⟨u, rfl, ⟨hq, hu⟩⟩ := DenL.one da
            subst hu
            obtain ⟨vs, hl, hd⟩ := row_obj R ho
            have hoct := octets_ok F h1
            have hia := intsOf_den hi hd
            refine call_bytes_ints hl hia (fun n hn => ?_) ?_ hh fun h' t tk hk => k.kept R hk tk ⟨⟨t, ?_⟩, hoct⟩
            · obtain ⟨e, he, rfl⟩ := List.mem_map.mp hn; exact hoct e he
            · rw [hia.length, List.length_map, sizeLine_eq]; omega
            · simp [toSB, byteArr, Function.comp_def]
          · cases h
        · cases h
      · cases h
    · cases h
  | iter =>
    unfold callB at h
    dsimp only at h
    split at h
    · rename_i ts
      obtain ⟨H1, h1, h⟩ := Res.bind_ok h
      cases h
      obtain ⟨u, rfl, ⟨⟨t, hu⟩, hr⟩⟩ := DenL.one da
      subst hu
      exact call_iter_bytes (k.fresh R h1 rfl rfl _ fun ρ' he => ⟨⟨t, _, Heap.get?_push_size _ rfl, rfl, rfl⟩, hr⟩)
    · cases h
  | next =>
    unfold callB at h
    dsimp only at h
    split at h
    · rename_i q
      split at h
      · rename_i ts i ho
        split at h
        · rename_i e hi
          obtain ⟨H1, h1, h⟩ := Res.bind_ok h
          cases h
          obtain ⟨u, rfl, ⟨hq, hu⟩⟩ := DenL.one da
          subst hu
          obtain ⟨⟨t, hit⟩, hr⟩ := R.obj ho
          have hx : (toSB C.σ ts)[i]? = some (e.i C.σ).toNat.toUInt8 := by simp [toSB, hi]
          refine call_next_bytes hit hx fun h' tk tk' hit' hs' => ?_
          have ⟨R', en⟩ := R.put h1 ho rfl (t := tk') (fun b o hb e => hs'.extBut b o hb e) (show DenO C.σ ρ H.n h' (ρ q) (.itB ts (i + 1)) from ⟨⟨t, hit'⟩, hr⟩)
          refine k ρ _ _ (Ext.refl _ _) (Nat.le_of_eq en.symm) R' ⟨tk, ?_⟩
          have := hr e (List.mem_of_getElem? hi)
          have hb : ((e.i C.σ).toNat.toUInt8).toNat = (e.i C.σ).toNat := by
            show (UInt8.ofNat _).toNat = _
            rw [UInt8.toNat_ofNat']; omega
          rw [hb]; congr 1; omega
        · cases h
      · cases h
    · cases h
  | int =>
    unfold callB at h
    dsimp only at h
    split at h
    · rename_i a
      obtain ⟨c, hc, h⟩ := Res.bind_ok h
      cases c with
      | false => cases h
      | true =>
        cases h
        obtain ⟨u, rfl, ⟨t, hu⟩⟩ := DenL.one da
        subst hu
        have hf : Float64.isFinite (a.f C.σ) = true := dec_ok F hc
        unfold Float64.isFinite at hf
        split at hf
        · rename_i sg m e hd
          refine call_int_float hd (k.int R ?_ _ _)
          simp only [T.i, truncI, hd]
        · cases hf
    · cases h
  | sum =>
    unfold callB at h
    dsimp only at h
    split at h
    · rename_i q
      split at h
      · rename_i p xs ho
        split at h
        · rename_i ts hts
          cases h
          obtain ⟨u, rfl, ⟨hlt, hu⟩⟩ := DenL.one da
          subst hu
          obtain ⟨vs, hl, hd⟩ := row_obj R ho
          have hi := intsOf_den hts hd
          have hall : AllInts vs.toArray := fun v hv => by
            have := List.mem_toArray.mp hv
            exact intsAre_int hi this
          obtain ⟨ys, hys⟩ := hall.items
          refine sum_intListG ok.handled (hys ▸ hl) fun h' tk t' hk => k.kept R hk tk ⟨t', ?_⟩
          have e1 : numsOf vs = ts.map (T.i C.σ) := hi.numsOf
          have e2 := nums_intItems ys
          rw [← hys, List.toList_toArray, e1] at e2
          rw [preSum_eq, ← e2, List.take_of_length_le (by have := congrArg List.length e2; simp at this; simp [this])]
          congr 1
          rw [foldl_tadd]; show _ = (0 : Int) + _; omega
        · cases h
      · cases h
    · cases h
end

end Mine
end
section
set_option maxRecDepth 100000
namespace Mine
open PySem PyProof.Rows

section
variable {prog : Program} {w : World} {A : Around} {E : Value → Shared → Prop} {s : Shared}

theorem draw_list {it l : Addr} {items : Array Value} (hne : l ≠ it) : ∀ (n i : Nat) (s : Shared) (Q : List Value → Shared → Prop), s.heap.IsListIter it l i → s.heap.IsList l items → i + n ≤ items.size →
    (∀ h', h'.IsListIter it l (i + n) → Heap.SameBut it s.heap h' → Q ((items.toList.drop i).take n) { s with heap := h' }) → wpAny (model prog w) A (draw (.ref it) n) Q E s
  | 0, i, s, Q, hit, _, _, hQ => by
    show wpAny _ _ (pure []) Q E s
    exact wpAny_pure (by simpa using hQ s.heap hit (Heap.SameBut.refl ..))
  | n + 1, i, s, Q, hit, ht, hle, hQ => by
    have hlt : i < items.size := by omega
    show wpAny _ _ (pyNext (.ref it) >>= _) Q E s
    refine wpAny_bind (wpAny_pyNext_list_item hit ht (x := items[i]) (by simp [hlt]) fun h₁ hit₁ hs₁ => ?_)
    refine wpAny_bind (wpAny_holding (draw_list hne n (i + 1) _ _ hit₁ (ht.extBut hs₁.extBut hne) (by omega) fun h₂ hit₂ hs₂ => wpAny_pure ?_))
    have hd : items.toList.drop i = items[i] :: items.toList.drop (i + 1) := by simp [List.drop_eq_getElem_cons, hlt]
    have := hQ h₂ (by rw [show i + (n + 1) = i + 1 + n by omega]; exact hit₂) (hs₁.trans hs₂)
    rw [hd, List.take_succ_cons] at this
    exact this

theorem unpackItems_list {t : Addr} {items : Array Value} {Q : List Value → Shared → Prop} (hh : A.handled = Option.none) (ht : s.heap.IsList t items)
    (hQ : ∀ h', (∀ b o, s.heap.get? b = some o → h'.get? b = some o) → Q items.toList { s with heap := h' }) : wpAny (model prog w) A (unpackItems (.ref t) items.size Option.none) Q E s := by
  have hlt : t ≠ s.heap.objs.size := by obtain ⟨o, ho, _⟩ := ht; exact Nat.ne_of_lt (Heap.lt_size ho)
  unfold unpackItems
  refine wpAny_bind ?_
  unfold notIterableAtAll
  refine wpAny_bind (wpAny_specialOf ht.typeIs slot_list_iter.lookup ?_)
  refine wpAny_pure ?_
  simp only [Bool.false_eq_true, if_false]
  refine wpAny_bind (wpAny_holding (wpAny_pyIter_list ht ?_))
  refine wpAny_bind (wpAny_holding (draw_list hlt items.size 0 _ _ ⟨_, Heap.get?_push_size _ rfl, rfl, rfl⟩ (ht.push _) (by omega) fun h₁ hit₁ hs₁ => ?_))
  have hall : List.take items.size (List.drop 0 items.toList) = items.toList := by
    rw [List.drop_zero]; exact List.take_of_length_le (by simp)
  rw [hall]
  rw [if_neg (by simp)]
  have ht₁ : h₁.IsList t items := (ht.push _).extBut hs₁.extBut hlt
  refine wpAny_bind (wpAny_holding (wpAny_pyNext_list_end hh hit₁ ht₁ (by simp) fun h₂ he₂ => ?_))
  simp only [Option.isSome_none, Bool.false_eq_true, if_false]
  refine wpAny_pure (hQ h₂ fun b o e => ?_)
  have hb : b ≠ s.heap.objs.size := Nat.ne_of_lt (Heap.lt_size e)
  exact he₂ b o hb (hs₁.extBut b o hb (Heap.get?_push_of_some _ e))

theorem unpackItems_seq {t : Addr} {items : Array Value} {Q : List Value → Shared → Prop} (hh : A.handled = Option.none) (ht : s.heap.IsList t items ∨ s.heap.IsTuple t items)
    (hQ : ∀ h', (∀ b o, s.heap.get? b = some o → h'.get? b = some o) → Q items.toList { s with heap := h' }) : wpAny (model prog w) A (unpackItems (.ref t) items.size Option.none) Q E s := by
  rcases ht with ht | ht
  · exact unpackItems_list hh ht hQ
  · exact wpAny_unpackItems_tuple hh ht fun h' he => hQ h' fun b o e => he b o (Nat.ne_of_lt (Heap.lt_size e)) e

theorem assign_tuple_seq {env : Env} {elts : List Expr} {x1} {pos : Pos} {t : Addr} {items : Array Value} {Q : Unit → Shared → Prop} (hh : A.handled = Option.none) (ht : s.heap.IsList t items ∨ s.heap.IsTuple t items)
    (hn : (assignEach elts env).length = items.size) (hstar : (assignEach elts env).findIdx? (·.1) = Option.none)
    (h : ∀ h', (∀ b o, s.heap.get? b = some o → h'.get? b = some o) → wpAny (model prog w) A (assignInOrder ((assignEach elts env).map (·.2)) items.toList) Q E { s with heap := h' }) :
    wpAny (model prog w) A (assign (.Tuple elts x1 pos) env (.ref t)) Q E s := by
  rw [arm_assign_Tuple]
  refine wpAny_bind (wpAny_standAt ?_)
  unfold unpack
  rw [hn, hstar]
  exact wpAny_bind (wpAny_holding (unpackItems_seq hh ht h))
end

section
variable {C : Cx} {P : Prm} {A : Around} {ρ : Nat → Addr} {H H' : AH} {s : Shared} {ae : AEnv} {env : Env} {d : Nat}

theorem evNames_ok : ∀ {es : List Expr} {xs : List AV} {vs : List Value} {H : AH} {ρ : Nat → Addr} {s : Shared}, EnvRel ρ H.n ae env → Rel C ρ H s → DenL C.σ ρ H.n xs vs → evNames ae es xs H = .ok H' → ∀ {Q : Unit → Shared → Prop}, K C ρ H H' DU Q →
    wpAny (model C.prog C.w) A (assignInOrder ((assignEach es env).map (·.2)) vs) Q No s := by
  intro es
  induction es with
  | nil =>
    intro xs vs H ρ s E R dv h Q k
    cases xs with
    | nil =>
      cases vs with
      | nil => cases h; exact wpAny_pure (k ρ () s (Ext.refl _ _) (Nat.le_refl _) R trivial)
      | cons _ _ => exact dv.elim
    | cons _ _ => cases h
  | cons e es ih =>
    intro xs vs H ρ s E R dv h Q k
    cases xs with
    | nil => cases h
    | cons x xs =>
      cases vs with
      | nil => exact dv.elim
      | cons v vs =>
        obtain ⟨dx, dv⟩ := dv
        cases e with
        | Name n p =>
          obtain ⟨H1, h1, h⟩ := Res.bind_ok h
          show wpAny _ _ (do holding vs (assign (.Name n p) env v); assignInOrder ((assignEach es env).map (·.2)) vs) Q No s
          refine wpAny_bind (wpAny_holding (wpAny_assign_Name (store_ok E R dx h1 fun ρ' _ s' he hn R' _ => ?_)))
          exact ih (E.ext he hn) R' (dv.ext he hn) h (k.step he hn)
        | _ => cases h

theorem evNames_shape : ∀ {es : List Expr} {xs : List AV} {H H' : AH}, evNames ae es xs H = .ok H' → (assignEach es env).length = es.length ∧ (assignEach es env).findIdx? (·.1) = Option.none := by
  intro es
  induction es with
  | nil => intro xs H H' h; exact ⟨rfl, rfl⟩
  | cons e es ih =>
    intro xs H H' h
    cases xs with
    | nil => cases h
    | cons x xs =>
      cases e with
      | Name n p =>
        obtain ⟨H1, h1, h⟩ := Res.bind_ok h
        obtain ⟨e1, e2⟩ := ih h
        refine ⟨by show (assignEach es env).length + 1 = es.length + 1; rw [e1], ?_⟩
        show List.findIdx? _ ((false, assign (.Name n p) env) :: assignEach es env) = Option.none
        rw [List.findIdx?_cons]
        simp only [Bool.false_eq_true, if_false, e2]; rfl
      | _ => cases h

theorem aTup_ok (ok : AOk d A) (E : EnvRel ρ H.n ae env) (R : Rel C ρ H s) {es : List Expr} {x1 : Nat} {pos : Pos} {v : AV} {u : Value} (dv : Den C.σ ρ H.n v u) (h : aTup ae es v H = .ok H') {Q : Unit → Shared → Prop} (k : K C ρ H H' DU Q) :
    wpAny (model C.prog C.w) A (assign (.Tuple es x1 pos) env u) Q No s := by
  unfold aTup at h
  split at h
  · rename_i xs hx
    split at h
    · rename_i hlen
      obtain ⟨l, vs, rfl, hl, hd⟩ := seqOf_some R hx dv
      obtain ⟨e1, e2⟩ := evNames_shape (env := env) h
      have hlen' : es.length = xs.length := by simpa using hlen
      refine assign_tuple_seq ok.handled hl (by rw [e1, hlen', hd.length]; simp) e2 fun h' hk => ?_
      exact evNames_ok E (R.heap hk) hd h k
    · cases h
  · cases h

theorem letOwned_ok (R : Rel C ρ H s) {t : Expr} {it : AV} {iv u : Value} (di : Den C.σ ρ H.n it iv) (h : ownTup t it H = true) {Q : Unit → Shared → Prop} (hq : Q () s) :
    wpAny (model C.prog C.w) A (letOwnedTupleGo t iv u) Q No s := by
  cases t with
  | Name x p => exact wpAny_pure hq
  | Tuple es x1 pos =>
    cases it with
    | obj q =>
      obtain ⟨hlt, rfl⟩ := di
      simp only [ownTup] at h
      split at h
      · rename_i l i ho
        obtain ⟨_, hit⟩ := R.obj ho
        cases u with
        | ref a => exact wpAny_letOwnedTupleGo_listiter hit hq
        | _ => exact wpAny_pure hq
      · cases h
    | _ => cases h
  | _ => cases h

/-! ## frames -/
theorem pushes_cons {H H' : AH} {o : AO} {os : List AO} (h : H.pushes (o :: os) = .ok H') : ∃ H1, H.push o = .ok H1 ∧ H1.pushes os = .ok H' := Res.bind_ok h

theorem cells_ok : ∀ (names : List (Str × NameKind)) {H H' : AH} {ρ : Nat → Addr} {s : Shared} {acc : List (Str × Addr)} {aacc : List (Str × Nat)}, Rel C ρ H s → H.pushes (cellObjs names) = .ok H' →
    acc = aacc.map (fun p => (p.1, ρ p.2)) → (∀ p ∈ aacc, p.2 < H.n) →
    ∃ ρ', Rel C ρ' H' { s with heap := pushCells s.heap names } ∧ Ext H.n ρ ρ' ∧ H.n ≤ H'.n ∧
      cellsFrom s.heap.objs.size names acc = (layCells names H.n aacc).map (fun p => (p.1, ρ' p.2)) ∧ ∀ p ∈ layCells names H.n aacc, p.2 < H'.n
  | [], H, H', ρ, s, acc, aacc, R, h, ha, hl => by
    cases h
    exact ⟨ρ, R, Ext.refl _ _, Nat.le_refl _, ha, hl⟩
  | (x, k) :: r, H, H', ρ, s, acc, aacc, R, h, ha, hl => by
    unfold pushCells cellsFrom layCells
    unfold cellObjs at h
    by_cases hk : (k == .cell) = true
    · rw [if_pos hk] at h
      rw [if_pos hk, if_pos hk, if_pos hk]
      obtain ⟨H1, h1, h⟩ := pushes_cons h
      have hcell : (s.heap.push { cls := .type "cell", data := .cell Option.none }).IsCell s.heap.objs.size Option.none := ⟨_, Heap.get?_push_size _ rfl, rfl⟩
      have ⟨R1, hn, he⟩ := R.push h1 (h' := s.heap.push { cls := .type "cell", data := .cell Option.none }) (t := s.toks) (a := s.heap.objs.size) (heap_size_none _) (fun b o e => Heap.get?_push_of_some _ e) hcell
      have hacc : (x, s.heap.objs.size) :: acc = ((x, H.n) :: aacc).map (fun p => (p.1, (fun k => if k = H.n then s.heap.objs.size else ρ k) p.2)) := by
        rw [List.map_cons]
        congr 1
        · simp
        · rw [ha]; exact List.map_congr_left fun p hp => by show (p.1, ρ p.2) = (p.1, if p.2 = H.n then s.heap.objs.size else ρ p.2); rw [if_neg (Nat.ne_of_lt (hl p hp))]
      have hl1 : ∀ p ∈ (x, H.n) :: aacc, p.2 < H1.n := fun p hp => by
        rcases List.mem_cons.mp hp with rfl | hp
        · show H.n < H1.n; omega
        · have := hl p hp; omega
      obtain ⟨ρ', R', he', hn', e1, e2⟩ := cells_ok r R1 h hacc hl1
      have hsz : (s.heap.push { cls := .type "cell", data := .cell Option.none }).objs.size = s.heap.objs.size + 1 := Heap.size_push _ _
      refine ⟨ρ', R', he.trans he' (by omega), by omega, ?_, ?_⟩
      · rw [← hsz, ← hn]; exact e1
      · rw [← hn]; exact e2
    · rw [if_neg hk] at h
      rw [if_neg hk, if_neg hk, if_neg hk]
      exact cells_ok r R h ha hl

theorem storeAll_ok : ∀ {xs : List Str} {as : List AV} {vs : List Value} {H : AH} {ρ : Nat → Addr} {s : Shared} (f : Str × Value → PUnit → Sem (ForInStep PUnit)) (_ : ∀ n v u, f (n, v) u = (do storeName env n v; pure (.yield ⟨⟩))),
    EnvRel ρ H.n ae env → Rel C ρ H s → DenL C.σ ρ H.n as vs → storeAll ae xs as H = .ok H' → ∀ {Q : PUnit → Shared → Prop}, K C ρ H H' (fun _ _ => True) Q →
    wpAny (model C.prog C.w) A (forIn (xs.zip vs) ⟨⟩ f) Q No s := by
  intro xs
  induction xs with
  | nil =>
    intro as vs H ρ s f hf E R dv h Q k
    cases as with
    | nil =>
      cases vs with
      | nil => cases h; exact wpAny_pure (k ρ ⟨⟩ s (Ext.refl _ _) (Nat.le_refl _) R trivial)
      | cons _ _ => exact dv.elim
    | cons _ _ => cases h
  | cons x xs ih =>
    intro as vs H ρ s f hf E R dv h Q k
    cases as with
    | nil => cases h
    | cons a as =>
      cases vs with
      | nil => exact dv.elim
      | cons v vs =>
        obtain ⟨da, dv⟩ := dv
        obtain ⟨H1, h1, h⟩ := Res.bind_ok h
        rw [List.zip_cons_cons, List.forIn_cons, hf]
        refine wpAny_bind (wpAny_bind (store_ok E R da h1 fun ρ' _ s' he hn R' _ => ?_))
        exact wpAny_pure (ih f hf (E.ext he hn) R' (dv.ext he hn) h (k.step he hn))

theorem storeAll_len : ∀ {xs : List Str} {as : List AV} {H H' : AH}, storeAll ae xs as H = .ok H' → xs.length = as.length
  | [], [], _, _, _ => rfl
  | [], _ :: _, _, _, h => by cases h
  | _ :: _, [], _, _, h => by cases h
  | _ :: xs, _ :: as, _, _, h => by
    obtain ⟨H1, _, h⟩ := Res.bind_ok h
    simp [storeAll_len h]

/-- the frame of a def that is called -/
theorem enter_ok (R : Rel C ρ H s) {f : Fn} (hk : f.scope.kind = .function) {args : List AV} {vals : List Value} (da : DenL C.σ ρ H.n args vals) (h : enter f args H = .ok (ae, H')) {qual : Str} {fa : Option Addr} {code : Value}
    {Q : Env → Shared → Prop} (k : ∀ ρ' env s', Ext H.n ρ ρ' → H.n ≤ H'.n → Rel C ρ' H' s' → EnvRel ρ' H'.n ae env → Q env s') :
    wpAny (model C.prog C.w) A (newFunctionEnv f.scope mainGlobals [] (f.params.zip vals) qual fa code Option.none builtinsNs) Q No s := by
  obtain ⟨H1, h1, h⟩ := Res.bind_ok h
  obtain ⟨H2, h2, h⟩ := Res.bind_ok h
  cases h
  obtain ⟨H0, h0, h1⟩ := pushes_cons h1
  simp only [newFunctionEnv, Option.isSome_none, Bool.false_eq_true, if_false]
  refine wpAny_bind (wpAny_alloc ?_)
  have hns : (s.heap.push { cls := .type "frame", data := .dict #[] }).Ns s.heap.objs.size fun _ => Option.none := Heap.Ns.new _ _
  have ⟨R0, hn0, he0⟩ := R.push h0 (h' := s.heap.push { cls := .type "frame", data := .dict #[] }) (t := s.toks) (a := s.heap.objs.size) (heap_size_none _) (fun b o e => Heap.get?_push_of_some _ e) ⟨_, hns, fun y v hy => by cases hy⟩
  refine wpAny_bind (wpAny_layCells _ (fun name kind cells => by cases hkc : kind == NameKind.cell <;> simp [hkc]) _ _ _ _ ?_)
  obtain ⟨ρ1, R1, he1, hn1, e1, e2⟩ := cells_ok f.scope.names (acc := []) (aacc := []) R0 h1 rfl (fun _ h => nomatch h)
  have hL : ρ1 H.n = s.heap.objs.size := by
    rw [he1 H.n (by omega)]; show (if H.n = H.n then _ else _) = _; rw [if_pos rfl]
  refine wpAny_bind (storeAll_ok (env := newEnv f.scope s.heap.objs.size mainGlobals (cellsFrom (s.heap.push { cls := .type "frame", data := .dict #[] }).objs.size f.scope.names []) qual fa code Option.none builtinsNs)
    (ae := ⟨f.scope, H.n, layCells f.scope.names (H.n + 1) []⟩) _ (fun _ _ _ => rfl) ?_ R1 (da.ext (he0.trans he1 (by omega)) (by omega)) h2 fun ρ2 _ s2 he2 hn2 R2 _ => ?_)
  · refine ⟨rfl, hk, hL.symm, by show H.n < _; omega, rfl, rfl, ?_, ?_⟩
    · rw [hn0] at e1; exact e1
    · rw [hn0] at e2; exact e2
  · refine wpAny_pure (k ρ2 _ s2 ((he0.trans he1 (by omega)).trans he2 (by omega)) (by omega) R2 ?_)
    refine EnvRel.ext ?_ he2 hn2
    refine ⟨rfl, hk, hL.symm, by show H.n < _; omega, rfl, rfl, ?_, ?_⟩
    · rw [hn0] at e1; exact e1
    · rw [hn0] at e2; exact e2

theorem freeCells_ok (E : EnvRel ρ H.n ae env) (f : Str × NameKind → List (Str × Addr) → Sem (ForInStep (List (Str × Addr))))
    (hf : ∀ x k cs, f (x, k) cs = if k == .free then (do let a ← cellOf env x; pure (.yield ((x, a) :: cs))) else pure (.yield cs)) :
    ∀ (names : List (Str × NameKind)) {acc cs : List (Str × Nat)}, freeCells ae names acc = .ok cs → (∀ p ∈ acc, p.2 < H.n) →
      forIn names (acc.map fun p => (p.1, ρ p.2)) f = (pure (cs.map fun p => (p.1, ρ p.2)) : Sem _) ∧ ∀ p ∈ cs, p.2 < H.n
  | [], acc, cs, h, hl => by cases h; exact ⟨rfl, hl⟩
  | (x, k) :: r, acc, cs, h, hl => by
    rw [List.forIn_cons, hf]
    unfold freeCells at h
    by_cases hk : (k == .free) = true
    · rw [if_pos hk] at h ⊢
      split at h
      · rename_i c hc
        have hc' : env.cells.lookup x = some (ρ c) := by rw [E.cells, lookup_map, ← look_lookup, hc]; rfl
        have hcl : c < H.n := by rw [look_lookup] at hc; exact E.cellsLt _ (mem_lookup hc)
        obtain ⟨e1, e2⟩ := freeCells_ok E f hf r h (fun p hp => by
          rcases List.mem_cons.mp hp with rfl | hp
          · exact hcl
          · exact hl p hp)
        refine ⟨?_, e2⟩
        have : cellOf env x = pure (ρ c) := by unfold cellOf; rw [hc']
        rw [this]
        exact e1
      · cases h
    · rw [if_neg hk] at h ⊢
      exact freeCells_ok E f hf r h hl

theorem closure_ok (E : EnvRel ρ H.n ae env) {sc : Scope} {cs : List (Str × Nat)} (h : freeCells ae sc.names [] = .ok cs) :
    closureFor sc env = pure (cs.map fun p => (p.1, ρ p.2)) ∧ ∀ p ∈ cs, p.2 < H.n := by
  obtain ⟨e1, e2⟩ := freeCells_ok E (fun (x : Str × NameKind) cs => if x.2 == .free then (do let a ← cellOf env x.1; pure (.yield ((x.1, a) :: cs))) else pure (.yield cs)) (fun _ _ _ => rfl) sc.names h (fun _ h => nomatch h)
  refine ⟨?_, e2⟩
  unfold closureFor
  have e3 : (forIn sc.names ([] : List (Str × Addr)) (fun x cs => if x.2 == .free then (do let a ← cellOf env x.1; pure (.yield ((x.1, a) :: cs))) else pure (.yield cs)) : Sem _) = pure (cs.map fun p => (p.1, ρ p.2)) := e1
  have e4 := congrArg (fun z : Sem (List (Str × Addr)) => z >>= pure) e3
  refine Eq.trans ?_ (e4.trans rfl)
  rfl

theorem compScope_eq (E : EnvRel ρ H.n ae env) (sc : Scope) : compScope ae sc = relabel sc env := by
  unfold compScope relabel
  congr 1
  refine List.map_congr_left fun p _ => ?_
  obtain ⟨n, k⟩ := p
  simp only [E.scope, kindOf_rel E]
end

end Mine
end
section
set_option maxRecDepth 100000
namespace Mine
open PySem PyProof.Rows

structure Sound (C : Cx) (P : Prm) (ev : Ev) : Prop where
  E : ∀ {d ae e H v H' ρ s A env Q}, ev.E d ae e H = .ok (v, H') → AOk d A → EnvRel ρ H.n ae env → Rel C ρ H s → K C ρ H H' (DV C H' v) Q → wpAny (model C.prog C.w) A (eval e env) Q No s
  S : ∀ {d ae st H f H' ρ s A env Q}, ev.S d ae st H = .ok (f, H') → AOk d A → EnvRel ρ H.n ae env → Rel C ρ H s → K C ρ H H' (DF C H' f) Q → wpAny (model C.prog C.w) A (exec st env) Q No s
  L : ∀ {d ae t it b H f H' ρ s A env iv} {R : Result → Shared → Prop}, ev.L d ae t it b H = .ok (f, H') → AOk d A → EnvRel ρ H.n ae env → Rel C ρ H s → Den C.σ ρ H.n it iv →
    K C ρ H H' (DF C H' f) (fun u s' => R (.ok u) s') → codeAny (model C.prog C.w) A (.forLoop t iv b [] env) R s
  W : ∀ {d ae t b H f H' ρ s A env} {R : Result → Shared → Prop}, ev.W d ae t b H = .ok (f, H') → AOk d A → EnvRel ρ H.n ae env → Rel C ρ H s →
    K C ρ H H' (DF C H' f) (fun u s' => R (.ok u) s') → codeAny (model C.prog C.w) A (.whileLoop t b [] env) R s
  G : ∀ {d ce elt gens k it acc H H' ρ s A env iv scope pos} {R : Result → Shared → Prop}, ev.G d ce elt gens k it acc H = .ok H' → gens.all okGen = true → k < gens.length → AOk d A → EnvRel ρ H.n ce env → Rel C ρ H s → Den C.σ ρ H.n it iv → acc < H.n →
    K C ρ H H' (fun _ u => u = .next) (fun u s' => R (.ok u) s') → codeAny (model C.prog C.w) A (.compLoop (.ListComp elt gens scope pos) k iv (.ref (ρ acc)) env) R s

theorem toE {α : Type} {M : Model} {A : Around} {m : Sem α} {Q : α → Shared → Prop} {E : Value → Shared → Prop} {s : Shared} (h : wpAny M A m Q No s) : wpAny M A m Q E s := wpAny_mono h (fun _ _ x => x) fun _ _ f => f.elim

section
variable {C : Cx} {P : Prm} {ev : Ev} {A : Around} {ρ : Nat → Addr} {H H' : AH} {s : Shared} {ae : AEnv} {env : Env} {d : Nat}

theorem evEs_ok (S : Sound C P ev) (ok : AOk d A) {pos : Pos} : ∀ {es : List Expr} {vs : List AV} {H : AH} {ρ : Nat → Addr} {s : Shared}, EnvRel ρ H.n ae env → Rel C ρ H s → evEs ev d ae es H = .ok (vs, H') →
    ∀ {Q : List Value → Shared → Prop}, K C ρ H H' (DVs C H' vs) Q → wpAny (model C.prog C.w) A (spliced (backTo pos (starEach es env))) Q No s := by
  intro es
  induction es with
  | nil =>
    intro vs H ρ s E R h Q k
    cases h
    exact wpAny_items_nil (k ρ [] s (Ext.refl _ _) (Nat.le_refl _) R trivial)
  | cons e es ih =>
    intro vs H ρ s E R h Q k
    have he : starEach (e :: es) env = (false, eval e env) :: starEach es env := by
      cases e with
      | Starred => cases h
      | _ => rfl
    have h : ((ev.E d ae e H).bind fun a => (evEs ev d ae es a.2).bind fun b => .ok (a.1 :: b.1, b.2)) = .ok (vs, H') := by
      cases e with
      | Starred => cases h
      | _ => exact h
    obtain ⟨⟨v, H1⟩, h1, h⟩ := Res.bind_ok h
    obtain ⟨⟨ws, H2⟩, h2, h⟩ := Res.bind_ok h
    cases h
    refine wpAny_items_cons (S.E h1 ok E R fun ρ1 u s1 he1 hn1 R1 du => ?_) he
    exact ih (E.ext he1 hn1) R1 h2 fun ρ2 us s2 he2 hn2 R2 dus => k ρ2 _ s2 (he1.trans he2 hn1) (Nat.le_trans hn1 hn2) R2 ⟨du.ext he2 hn2, dus⟩

theorem evSs_ok (S : Sound C P ev) (ok : AOk d A) : ∀ {ss : List Stmt} {f : AFlow} {H : AH} {ρ : Nat → Addr} {s : Shared}, EnvRel ρ H.n ae env → Rel C ρ H s → evSs ev d ae ss H = .ok (f, H') →
    ∀ {Q : Flow → Shared → Prop}, K C ρ H H' (DF C H' f) Q → wpAny (model C.prog C.w) A (execs ss env) Q No s := by
  intro ss
  induction ss with
  | nil =>
    intro f H ρ s E R h Q k
    cases h
    exact wpAny_execs_nil (k ρ .next s (Ext.refl _ _) (Nat.le_refl _) R rfl)
  | cons st ss ih =>
    intro f H ρ s E R h Q k
    obtain ⟨⟨g, H1⟩, h1, h⟩ := Res.bind_ok h
    refine wpAny_execs_cons (S.S h1 ok E R fun ρ1 u s1 he1 hn1 R1 du => ?_)
    cases g with
    | next =>
      have du : u = .next := du
      subst du
      exact ih (E.ext he1 hn1) R1 h (k.step he1 hn1)
    | brk => cases h; have du : u = .brk := du; subst du; exact k ρ1 _ s1 he1 hn1 R1 rfl
    | cont => cases h; have du : u = .cont := du; subst du; exact k ρ1 _ s1 he1 hn1 R1 rfl
    | ret v => cases h; obtain ⟨w, rfl, dw⟩ := du; exact k ρ1 _ s1 he1 hn1 R1 ⟨w, rfl, dw⟩

theorem eCmpB_run (F : Facts C P) (S : Sound C P ev) (ok : AOk d A) (E : EnvRel ρ H.n ae env) (R : Rel C ρ H s) {l : Expr} {os : List CmpOp} {rs : List Expr} {c : Bool} (h : eCmpB P ev d ae l os rs H = .ok (c, H')) :
    ∃ o r, os = [o] ∧ rs = [r] ∧ behindInMarks o r = false ∧ ∀ {Q : Value → Shared → Prop}, K C ρ H H' (fun _ u => u = .bool c) Q →
      wpAny (model C.prog C.w) A (eval l env) (fun a s₁ => wpAny (model C.prog C.w) A (eval r env) (fun b s₂ => wpAny (model C.prog C.w) A (compareOp o a b) Q No s₂) No s₁) No s := by
  unfold eCmpB at h
  split at h
  · rename_i o r
    cases hb : behindInMarks o r with
    | true => rw [hb] at h; cases h
    | false =>
      rw [hb] at h
      simp only [Bool.false_eq_true, if_false] at h
      obtain ⟨⟨a, H1⟩, h1, h⟩ := Res.bind_ok h
      obtain ⟨⟨b, H2⟩, h2, h⟩ := Res.bind_ok h
      obtain ⟨c', h3, h⟩ := Res.bind_ok h
      cases h
      refine ⟨o, r, rfl, rfl, hb, fun {Q} k => ?_⟩
      refine S.E h1 ok E R fun ρ1 u s1 he1 hn1 R1 du => ?_
      refine S.E h2 ok (E.ext he1 hn1) R1 fun ρ2 w s2 he2 hn2 R2 dw => ?_
      exact cmpop_ok F R2 ok (du.ext he2 hn2) dw h3 (k ρ2 _ s2 (he1.trans he2 hn1) (Nat.le_trans hn1 hn2) R2 rfl)
  · cases h

theorem evC1_ok (F : Facts C P) (S : Sound C P ev) (ok : AOk d A) (E : EnvRel ρ H.n ae env) (R : Rel C ρ H s) {e : Expr} {c : Bool} (h : evC1 P ev d ae e H = .ok (c, H')) {Q : Bool → Shared → Prop} (k : K C ρ H H' (DB c) Q) :
    wpAny (model C.prog C.w) A (isTrue e env (eval e env)) Q No s := by
  cases e with
  | Compare l os rs p =>
    obtain ⟨o, r, rfl, rfl, hb, hk⟩ := eCmpB_run F S ok E R h
    refine wpAny_isTrue_Compare1 (hk fun ρ1 u s1 he1 hn1 R1 du => ?_) hb
    subst du
    exact wpAny_truthy_bool (k ρ1 _ s1 he1 hn1 R1 rfl)
  | BinOp l o r p =>
    obtain ⟨⟨a, H1⟩, h1, h⟩ := Res.bind_ok h
    obtain ⟨t, h2, h⟩ := Res.bind_ok h
    cases h
    refine wpAny_isTrue_value (S.E h1 ok E R fun ρ1 u s1 he1 hn1 R1 du => ?_)
    exact truth_ok F du h2 (k ρ1 _ s1 he1 hn1 R1 rfl)
  | _ => cases h

theorem evAnd_ok (F : Facts C P) (S : Sound C P ev) (ok : AOk d A) : ∀ {es : List Expr} {c : Bool} {H : AH} {ρ : Nat → Addr} {s : Shared}, EnvRel ρ H.n ae env → Rel C ρ H s → evAnd P ev d ae es H = .ok (c, H') →
    ∀ {Q : Bool → Shared → Prop}, K C ρ H H' (DB c) Q → wpAny (model C.prog C.w) A (allTrue .And es env) Q No s := by
  intro es
  induction es with
  | nil =>
    intro c H ρ s E R h Q k
    cases h
    exact wpAny_allTrue_And_nil (k ρ _ s (Ext.refl _ _) (Nat.le_refl _) R rfl)
  | cons e es ih =>
    intro c H ρ s E R h Q k
    obtain ⟨⟨b, H1⟩, h1, h⟩ := Res.bind_ok h
    refine wpAny_allTrue_And_cons (evC1_ok F S ok E R h1 fun ρ1 u s1 he1 hn1 R1 du => ?_)
    have du : u = b := du
    subst du
    cases u with
    | true => exact ih (E.ext he1 hn1) R1 h (k.step he1 hn1)
    | false => cases h; exact k ρ1 _ s1 he1 hn1 R1 rfl

theorem evC_alt (e : Expr) : (∃ es p, e = .BoolOp .And es p) ∨ ∀ H, evC P ev d ae e H = evC1 P ev d ae e H := by
  cases e with
  | BoolOp o es p =>
    cases o with
    | And => exact .inl ⟨es, p, rfl⟩
    | Or => exact .inr fun _ => rfl
  | _ => exact .inr fun _ => rfl
theorem evC_ok (F : Facts C P) (S : Sound C P ev) (ok : AOk d A) (E : EnvRel ρ H.n ae env) (R : Rel C ρ H s) {e : Expr} {c : Bool} (h : evC P ev d ae e H = .ok (c, H')) {Q : Bool → Shared → Prop} (k : K C ρ H H' (DB c) Q) :
    wpAny (model C.prog C.w) A (isTrue e env (eval e env)) Q No s := by
  rcases evC_alt (P := P) (ev := ev) (d := d) (ae := ae) e with ⟨es, p, rfl⟩ | he
  · exact wpAny_isTrue_BoolOp (evAnd_ok F S ok E R h k)
  · rw [he] at h; exact evC1_ok F S ok E R h k

theorem evIfs_ok (F : Facts C P) (S : Sound C P ev) (ok : AOk d A) (E : EnvRel ρ H.n ae env) (R : Rel C ρ H s) {es : List Expr} {c : Bool} (h : evIfs P ev d ae es H = .ok (c, H')) {Q : Bool → Shared → Prop} (k : K C ρ H H' (DB c) Q) :
    wpAny (model C.prog C.w) A (forIn es true fun c r => if r = true then do let ok ← isTrue c env (eval c env); pure (ForInStep.yield ok) else pure (ForInStep.yield r)) Q No s := by
  unfold evIfs at h
  split at h
  · cases h; exact wpAny_tests_nil (k ρ _ s (Ext.refl _ _) (Nat.le_refl _) R rfl)
  · exact wpAny_tests_one (evC_ok F S ok E R h k)
  · cases h

/-! ## expressions -/
theorem eConst_ok (R : Rel C ρ H s) {c : Const} {v : AV} (h : eConst c H = .ok (v, H')) {kd : Nat} {pos : Pos} {Q : Value → Shared → Prop} (k : K C ρ H H' (DV C H' v) Q) :
    wpAny (model C.prog C.w) A (eval (.Constant c kd pos) env) Q No s := by
  unfold eConst at h
  cases c <;> cases h
  case none => exact wpAny_Constant_none (k ρ _ s (Ext.refl _ _) (Nat.le_refl _) R rfl)
  case bool b => exact wpAny_Constant_bool (k ρ _ s (Ext.refl _ _) (Nat.le_refl _) R rfl)
  case int i => exact wpAny_Constant_int (k ρ _ _ (Ext.refl _ _) (Nat.le_refl _) (R.tok _) ⟨_, rfl⟩)
  case float x => exact wpAny_Constant_float (k ρ _ _ (Ext.refl _ _) (Nat.le_refl _) (R.tok _) ⟨_, by show Value.float x _ = Value.float (x.toNat.toUInt64) _; rw [show x.toNat.toUInt64 = x from by simp]⟩)
  case bytes b =>
    refine fun _ _ _ => (k ρ (.bytes b.toArray s.toks) { s with toks := s.toks + 1 } (Ext.refl _ _) (Nat.le_refl _) (R.tok _) ⟨⟨s.toks, ?_⟩, ?_⟩)
    · show Value.bytes _ _ = Value.bytes (toB (b.map UInt8.toNat)) _
      congr 1
      unfold toB
      rw [List.map_map]
      have : (Nat.toUInt8 ∘ UInt8.toNat) = id := by funext x; simp
      rw [this, List.map_id]
    · intro c hc
      obtain ⟨x, _, rfl⟩ := List.mem_map.mp hc
      exact x.toNat_lt

theorem eName_ok (F : Facts C P) (E : EnvRel ρ H.n ae env) (R : Rel C ρ H s) {x : Str} {v : AV} (h : eName P ae x H = .ok (v, H')) {pos : Pos} {Q : Value → Shared → Prop} (k : K C ρ H H' (DV C H' v) Q) :
    wpAny (model C.prog C.w) A (eval (.Name x pos) env) Q No s := by
  unfold eName at h
  cases hd : sEq x "__debug__" with
  | true => rw [hd] at h; cases h
  | false =>
    rw [hd] at h
    simp only [cond_false] at h
    obtain ⟨v', h1, h⟩ := Res.bind_ok h
    cases h
    obtain ⟨u, du, hu⟩ := load_ok F E R h1
    exact wpAny_Name (hu (k ρ u s (Ext.refl _ _) (Nat.le_refl _) R du)) (by rw [← sEq_beq]; exact hd)

theorem eBin_ok (F : Facts C P) (S : Sound C P ev) (ok : AOk d A) (E : EnvRel ρ H.n ae env) (R : Rel C ρ H s) {l r : Expr} {o : Operator} {v : AV} (h : eBin P ev d ae l o r H = .ok (v, H')) {pos : Pos} {Q : Value → Shared → Prop} (k : K C ρ H H' (DV C H' v) Q) :
    wpAny (model C.prog C.w) A (eval (.BinOp l o r pos) env) Q No s := by
  obtain ⟨⟨a, H1⟩, h1, h⟩ := Res.bind_ok h
  obtain ⟨⟨b, H2⟩, h2, h⟩ := Res.bind_ok h
  refine wpAny_BinOp (S.E h1 ok E R fun ρ1 u s1 he1 hn1 R1 du => ?_)
  refine S.E h2 ok (E.ext he1 hn1) R1 fun ρ2 w s2 he2 hn2 R2 dw => ?_
  exact binop_ok F R2 (du.ext he2 hn2) dw h (k.step (he1.trans he2 hn1) (Nat.le_trans hn1 hn2))

theorem eCmp_ok (F : Facts C P) (S : Sound C P ev) (ok : AOk d A) (E : EnvRel ρ H.n ae env) (R : Rel C ρ H s) {l : Expr} {os : List CmpOp} {rs : List Expr} {v : AV} (h : eCmp P ev d ae l os rs H = .ok (v, H')) {pos : Pos} {Q : Value → Shared → Prop}
    (k : K C ρ H H' (DV C H' v) Q) : wpAny (model C.prog C.w) A (eval (.Compare l os rs pos) env) Q No s := by
  obtain ⟨⟨c, H1⟩, h1, h⟩ := Res.bind_ok h
  cases h
  obtain ⟨o, r, rfl, rfl, hb, hk⟩ := eCmpB_run F S ok E R h1
  exact wpAny_Compare1 (hk fun ρ1 u s1 he1 hn1 R1 du => by subst du; exact k ρ1 _ s1 he1 hn1 R1 rfl) hb

theorem eBool_ok (F : Facts C P) (S : Sound C P ev) (ok : AOk d A) (E : EnvRel ρ H.n ae env) (R : Rel C ρ H s) {o : BoolOp} {es : List Expr} {v : AV} (h : eBool P ev d ae o es H = .ok (v, H')) {pos : Pos} {Q : Value → Shared → Prop}
    (k : K C ρ H H' (DV C H' v) Q) : wpAny (model C.prog C.w) A (eval (.BoolOp o es pos) env) Q No s := by
  unfold eBool at h
  split at h
  · obtain ⟨⟨a, H1⟩, h1, h⟩ := Res.bind_ok h
    obtain ⟨t, h2, h⟩ := Res.bind_ok h
    refine wpAny_And2 (S.E h1 ok E R fun ρ1 u s1 he1 hn1 R1 du => truth_ok F du h2 ?_)
    cases t with
    | true => exact S.E h ok (E.ext he1 hn1) R1 (k.step he1 hn1)
    | false => cases h; exact k ρ1 u s1 he1 hn1 R1 du
  · cases h

theorem eIf_ok (F : Facts C P) (S : Sound C P ev) (ok : AOk d A) (E : EnvRel ρ H.n ae env) (R : Rel C ρ H s) {t b o : Expr} {v : AV} (h : eIf P ev d ae t b o H = .ok (v, H')) {pos : Pos} {Q : Value → Shared → Prop}
    (k : K C ρ H H' (DV C H' v) Q) : wpAny (model C.prog C.w) A (eval (.IfExp t b o pos) env) Q No s := by
  obtain ⟨⟨c, H1⟩, h1, h⟩ := Res.bind_ok h
  refine wpAny_IfExp (evC_ok F S ok E R h1 fun ρ1 u s1 he1 hn1 R1 du => ?_)
  have du : u = c := du
  subst du
  cases u with
  | true => exact S.E h ok (E.ext he1 hn1) R1 (k.step he1 hn1)
  | false => exact S.E h ok (E.ext he1 hn1) R1 (k.step he1 hn1)

theorem seq_isList {l : Addr} {h : Heap} {vs : List Value} (hh : h.get? l = some { cls := .type "list", data := .seq vs.toArray }) : h.PlainList l vs.toArray := ⟨_, hh⟩

theorem eList_ok (S : Sound C P ev) (ok : AOk d A) (E : EnvRel ρ H.n ae env) (R : Rel C ρ H s) {es : List Expr} {v : AV} (h : eList ev d ae es H = .ok (v, H')) {pos : Pos} {Q : Value → Shared → Prop}
    (k : K C ρ H H' (DV C H' v) Q) : wpAny (model C.prog C.w) A (eval (.List es pos) env) Q No s := by
  obtain ⟨⟨vs, H1⟩, h1, h⟩ := Res.bind_ok h
  split at h
  · rename_i hle
    obtain ⟨H2, h2, h⟩ := Res.bind_ok h
    cases h
    refine wpAny_List_spliced (evEs_ok S ok E R h1 fun ρ1 us s1 he1 hn1 R1 dus => ⟨?_, ?_⟩)
    · have := dus.length; have : vs.length ≤ 1000 := Nat.le_of_ble_eq_true hle; have : (1000 : Nat) ≤ sizeLine := by decide
      omega
    · exact (k.step he1 hn1).fresh R1 h2 rfl rfl s1.toks fun ρ' he' => ⟨us, (seq_isList (Heap.get?_push_size _ rfl)).isList, fun _ => seq_isList (Heap.get?_push_size _ rfl), dus.ext he' (Nat.le_succ _)⟩
  · cases h

theorem eTuple_ok (S : Sound C P ev) (ok : AOk d A) (E : EnvRel ρ H.n ae env) (R : Rel C ρ H s) {es : List Expr} {v : AV} (h : eTuple ev d ae es H = .ok (v, H')) {x1} {pos : Pos} {Q : Value → Shared → Prop}
    (k : K C ρ H H' (DV C H' v) Q) : wpAny (model C.prog C.w) A (eval (.Tuple es x1 pos) env) Q No s := by
  obtain ⟨⟨vs, H1⟩, h1, h⟩ := Res.bind_ok h
  split at h
  · rename_i hle
    obtain ⟨H2, h2, h⟩ := Res.bind_ok h
    cases h
    refine wpAny_Tuple_spliced (evEs_ok S ok E R h1 fun ρ1 us s1 he1 hn1 R1 dus => ⟨?_, ?_⟩)
    · have := dus.length; have : vs.length ≤ 1000 := Nat.le_of_ble_eq_true hle; have : (1000 : Nat) ≤ sizeLine := by decide
      omega
    · exact (k.step he1 hn1).fresh R1 h2 rfl rfl s1.toks fun ρ' he' => ⟨us, ⟨_, Heap.get?_push_size _ rfl, rfl, _, rfl⟩, dus.ext he' (Nat.le_succ _)⟩
  · cases h

theorem getA {σ : Nat → Int} {ρ : Nat → Addr} {n : Nat} : ∀ {xs : List AV} {vs : List Value}, DenL σ ρ n xs vs → ∀ i : Nat, (xs[i]? = Option.none ∧ vs[i]? = Option.none) ∨ ∃ x v, xs[i]? = some x ∧ vs[i]? = some v ∧ Den σ ρ n x v
  | [], [], _, i => .inl ⟨rfl, rfl⟩
  | [], _ :: _, h, _ => h.elim
  | _ :: _, [], h, _ => h.elim
  | x :: xs, v :: vs, ⟨h1, h2⟩, i => by
    cases i with
    | zero => exact .inr ⟨x, v, rfl, rfl, h1⟩
    | succ i => simpa using getA h2 i
theorem pickA_ok {σ : Nat → Int} {ρ : Nat → Addr} {n : Nat} {xs : List AV} {vs : List Value} (h : DenL σ ρ n xs vs) (a b c : Int) : DenL σ ρ n (pickA xs a b c) (slicePick vs.toArray (some a) (some b) (some c)).toList := by
  unfold pickA slicePick
  rw [h.length, List.size_toArray]
  generalize sliceRange _ _ _ = is
  induction is with
  | nil => trivial
  | cons i is ih =>
    rw [List.filterMap_cons, List.filterMap_cons]
    have e : vs.toArray[i]? = vs[i]? := by simp
    rcases getA h i with ⟨h1, h2⟩ | ⟨x, v, h1, h2, h3⟩
    · rw [h1, e, h2]; exact ih
    · rw [h1, e, h2]; exact ⟨h3, ih⟩
theorem slice3_eq {i a b c : Expr} (h : slice3 i = some (a, b, c)) : ∃ p, i = .Slice (some a) (some b) (some c) p := by
  cases i with
  | Slice x y z p =>
    cases x with
    | none => cases h
    | some x =>
      cases y with
      | none => cases h
      | some y =>
        cases z with
        | none => cases h
        | some z => cases h; exact ⟨_, rfl⟩
  | _ => cases h
theorem items_ok {σ : Nat → Int} {ρ : Nat → Addr} {n : Nat} {h : Heap} {a : Addr} {o : AO} {xs : List AV} (e : o.items = some xs) (d : DenO σ ρ n h a o) : ∃ vs : List Value, h.IsList a vs.toArray ∧ DenL σ ρ n xs vs := by
  cases o with
  | list p ys => cases e; obtain ⟨vs, h1, _, h3⟩ := d; exact ⟨vs, h1, h3⟩
  | flist ys => cases e; exact d
  | _ => cases e
theorem slicedO_out {x y z u : AV} {H H' : AH} {v : AV} (h : slicedO x y z u H = .ok (v, H')) : ∃ k i j l o xs H1, x = .obj k ∧ y = .int (.lit i) ∧ z = .int (.lit j) ∧ u = .int (.lit l) ∧ H.at k = some o ∧ o.items = some xs ∧ l ≠ 0 ∧
    xs.length ≤ 1000 ∧ H.push (.list true (pickA xs i j l)) = .ok H1 ∧ (AV.obj H.n, H1) = (v, H') := by
  unfold slicedO at h
  split at h
  · split at h
    · rename_i xs hxs
      split at h
      · cases h
      · rename_i hl0
        split at h
        · rename_i hle
          obtain ⟨H5, h5, h⟩ := Res.bind_ok h
          obtain ⟨o, ho, ho2⟩ := Option.bind_eq_some_iff.mp hxs
          exact ⟨_, _, _, _, o, xs, H5, rfl, rfl, rfl, rfl, ho, ho2, hl0, Nat.le_of_ble_eq_true hle, h5, by cases h; rfl⟩
        · cases h
    · cases h
  · cases h
theorem eSlice_ok (S : Sound C P ev) (ok : AOk d A) (E : EnvRel ρ H.n ae env) (R : Rel C ρ H s) {e a b c : Expr} {v : AV} (h : eSlice ev d ae e a b c H = .ok (v, H')) {p pos : Pos} {Q : Value → Shared → Prop}
    (k : K C ρ H H' (DV C H' v) Q) : wpAny (model C.prog C.w) A (eval (.Subscript e (.Slice (some a) (some b) (some c) p) pos) env) Q No s := by
  obtain ⟨⟨x, H1⟩, h1, h⟩ := Res.bind_ok h
  obtain ⟨⟨y, H2⟩, h2, h⟩ := Res.bind_ok h
  obtain ⟨⟨z, H3⟩, h3, h⟩ := Res.bind_ok h
  obtain ⟨⟨u, H4⟩, h4, h⟩ := Res.bind_ok h
  obtain ⟨kx, i, j, l, o, xs, H5, rfl, rfl, rfl, rfl, ho, ho2, hl0, hle, h5, he⟩ := slicedO_out (show slicedO x y z u H4 = .ok (v, H') from h)
  cases he
  rw [eval_Subscript]
  refine wpAny_bind (S.E h1 ok E R fun ρ1 vx s1 he1 hn1 R1 dx => ?_)
  have E1 := E.ext he1 hn1
  refine wpAny_bind (wpAny_holding (wpAny_Slice ?_))
  rw [evalPart_some, evalPart_some, evalPart_some]
  refine S.E h2 ok E1 R1 fun ρ2 vy s2 he2 hn2 R2 dy => ?_
  have E2 := E1.ext he2 hn2
  refine S.E h3 ok E2 R2 fun ρ3 vz s3 he3 hn3 R3 dz => ?_
  have E3 := E2.ext he3 hn3
  refine S.E h4 ok E3 R3 fun ρ4 vu s4 he4 hn4 R4 du => ?_
  refine wpAny_bind (wpAny_standAt ?_)
  obtain ⟨hlt, rfl⟩ := dx
  obtain ⟨ty, rfl⟩ := dy
  obtain ⟨tz, rfl⟩ := dz
  obtain ⟨tu, rfl⟩ := du
  have hlt : kx < H1.n := hlt
  have hn2 : H1.n ≤ H2.n := hn2
  have hn3 : H2.n ≤ H3.n := hn3
  have hn4 : H3.n ≤ H4.n := hn4
  have he2 : Ext H1.n ρ1 ρ2 := he2
  have he3 : Ext H2.n ρ2 ρ3 := he3
  have he4 : Ext H3.n ρ3 ρ4 := he4
  have hkx : ρ4 kx = ρ1 kx := by rw [he4 kx (by omega), he3 kx (by omega), he2 kx (by omega)]
  obtain ⟨vs, hl, dl⟩ := items_ok ho2 (R4.obj ho)
  rw [hkx] at hl
  have hsz : vs.toArray.size ≤ sizeLine := by
    have := dl.length; have : (1000 : Nat) ≤ sizeLine := by decide
    rw [List.size_toArray]; omega
  have kk : K C ρ4 H4 H' (DV C H' (.obj H4.n)) Q := k.step (he1.trans (he2.trans (he3.trans he4 hn3) hn2) hn1) (by omega)
  refine wpAny_bind ?_
  rw [getitemInPython_of_ne (Heap.IsList.typeIs (s := { s4 with heap := s4.heap.push { cls := .type "slice", data := .fields #[.int i ty, .int j tz, .int l tu] } }) (hl.push _)).not_modules]
  refine wpAny_bind (wpAny_specialOf (Heap.IsList.typeIs (s := { s4 with heap := s4.heap.push { cls := .type "slice", data := .fields #[.int i ty, .int j tz, .int l tu] } }) (hl.push _)) list_getitem_lookup ?_)
  refine wpAny_pure (wpAny_bind (wpAny_operating (wpAny_getItem_list_slice (hl.push _) (Heap.IsSliceOf.new ..) (.int _ _) (.int _ _) (.int _ _) (fun z => hl0 (by cases z; rfl)) (wpAny_bind (wpAny_letTemporaryGo (wpAny_pure ?_))) hsz)))
  have R5 := R4.heap (h' := s4.heap.push { cls := .type "slice", data := .fields #[.int i ty, .int j tz, .int l tu] }) fun b o e => Heap.get?_push_of_some _ e
  exact kk.fresh R5 h5 rfl rfl s4.toks fun ρ' he' => ⟨_, (seq_isList (Heap.get?_push_size _ rfl)).isList, fun _ => seq_isList (Heap.get?_push_size _ rfl), (pickA_ok dl i j l).ext he' (Nat.le_succ _)⟩
theorem eSub_ok (S : Sound C P ev) (ok : AOk d A) (E : EnvRel ρ H.n ae env) (R : Rel C ρ H s) {e i : Expr} {v : AV} (h : eSub ev d ae e i H = .ok (v, H')) {pos : Pos} {Q : Value → Shared → Prop}
    (k : K C ρ H H' (DV C H' v) Q) : wpAny (model C.prog C.w) A (eval (.Subscript e i pos) env) Q No s := by
  unfold eSub at h
  split at h
  · split at h
    · rename_i a b c h3
      obtain ⟨p, rfl⟩ := slice3_eq h3
      exact eSlice_ok S ok E R h k
    · cases h
  · rename_i hsl
    obtain ⟨⟨a, H1⟩, h1, h⟩ := Res.bind_ok h
    obtain ⟨⟨b, H2⟩, h2, h⟩ := Res.bind_ok h
    obtain ⟨r, h3, h⟩ := Res.bind_ok h
    cases h
    rw [eval_Subscript]
    refine wpAny_bind (S.E h1 ok E R fun ρ1 u s1 he1 hn1 R1 du => ?_)
    refine wpAny_bind (wpAny_holding (S.E h2 ok (E.ext he1 hn1) R1 fun ρ2 w s2 he2 hn2 R2 dw => ?_))
    refine wpAny_bind (wpAny_standAt ?_)
    obtain ⟨x, dx, T, id, hl, hT, hx⟩ := item_ok R2 (du.ext he2 hn2) dw h3
    refine wpAny_bind ?_
    rw [getitemInPython_of_ne hT.not_modules]
    refine wpAny_bind (wpAny_specialOf hT hl ?_)
    have fin : wpAny (model C.prog C.w) A (operate [u, w] (getItem u w)) (fun r s₃ => wpAny (model C.prog C.w) A (letTemporaryGo e u r >>= fun _ => pure r) Q No s₃) No s2 :=
      wpAny_operating (hx (wpAny_bind (wpAny_letTemporaryGo (wpAny_pure (k ρ2 x s2 (he1.trans he2 hn1) (Nat.le_trans hn1 hn2) R2 dx)))))
    have hsub : subscripted i false u w = operate [u, w] (getItem u w) := by
      cases i with
      | Slice => exact absurd rfl hsl
      | _ => rfl
    refine wpAny_pure ?_
    rw [hsub]
    exact wpAny_bind fin
end

end Mine
end
section
set_option maxRecDepth 100000
namespace Mine
open PySem PyProof.Rows

/-! ## facts of the built-ins that the library lacks -/
theorem plainAttrs_pat : PlainAttrs "re.Pattern" :=
  ⟨⟨"object.__getattribute__", by rw [typeLookup_type, builtinLookup_eq_fast]; kernel_rfl, by decide +kernel⟩, by rw [typeLookup_type, builtinLookup_eq_fast]; kernel_rfl⟩
theorem plainAttrs_lst : PlainAttrs "list" :=
  ⟨⟨"list.__getattribute__", by rw [typeLookup_type, builtinLookup_eq_fast]; kernel_rfl, by decide +kernel⟩, by rw [typeLookup_type, builtinLookup_eq_fast]; kernel_rfl⟩
theorem slot_pat_sub : Slot "re.Pattern" "sub" "re.Pattern.sub" :=
  .of (owner := "re.Pattern") (n := "sub") (by rw [typeLookup_type, builtinLookup_eq_fast]; kernel_rfl) (by decide +kernel) (by decide +kernel) (by decide +kernel)
    (by first | exact .inl (by decide +kernel) | exact .inr (by decide +kernel)) (by rw [isSubtype_type]; kernel_rfl)
theorem slot_bytes_count : Slot "bytes" "count" "bytes.count" :=
  .of (owner := "bytes") (n := "count") (by rw [typeLookup_type, builtinLookup_eq_fast]; kernel_rfl) (by decide +kernel) (by decide +kernel) (by decide +kernel)
    (by first | exact .inl (by decide +kernel) | exact .inr (by decide +kernel)) (by rw [isSubtype_type]; kernel_rfl)

section
variable {C : Cx} {P : Prm} {ev : Ev} {A : Around} {ρ : Nat → Addr} {H H' : AH} {s : Shared} {ae : AEnv} {env : Env} {d : Nat}

theorem evEs_star : ∀ {es : List Expr} {H : AH} {r : List AV × AH}, evEs ev d ae es H = .ok r → starEach es env = es.map fun e => (false, eval e env) := by
  intro es
  induction es with
  | nil => intro H r h; rfl
  | cons e es ih =>
    intro H r h
    have he : starEach (e :: es) env = (false, eval e env) :: starEach es env := by
      cases e with
      | Starred => cases h
      | _ => rfl
    have h : ((ev.E d ae e H).bind fun a => (evEs ev d ae es a.2).bind fun b => .ok (a.1 :: b.1, b.2)) = .ok r := by
      cases e with
      | Starred => cases h
      | _ => exact h
    obtain ⟨⟨v, H1⟩, h1, h⟩ := Res.bind_ok h
    obtain ⟨⟨ws, H2⟩, h2, h⟩ := Res.bind_ok h
    rw [List.map_cons, ← ih h2, he]

theorem back_plain {es : List Expr} {pos : Pos} (h : starEach es env = es.map fun e => (false, eval e env)) : (backTo pos (starEach es env)).any (·.1) = false := by
  rw [h]; unfold backTo; simp [List.any_eq_false]
theorem back_all {es : List Expr} {pos : Pos} (h : starEach es env = es.map fun e => (false, eval e env)) : (backTo pos (starEach es env)).all (fun x => !x.1) = true := by
  rw [h]; unfold backTo; simp [List.all_eq_true]

theorem evalArgs_all {M : Model} {E : Value → Shared → Prop} {f : Value} {es : List Expr} {pos : Pos} (hst : starEach es env = es.map fun e => (false, eval e env)) {Q : Args → Shared → Prop}
    (h : wpAny M A (spliced (backTo pos (starEach es env))) (fun vs s' => Q ⟨vs, []⟩ s') E s) : wpAny M A (evalArgs f true (backTo pos (starEach es env)) []) Q E s := by
  rw [hst] at h ⊢
  cases es with
  | nil =>
    unfold evalArgs
    show wpAny M A (spliced [] >>= _) Q E s
    refine wpAny_bind (wpAny_mono h (fun vs s' h' => ?_) fun _ _ x => x)
    refine wpAny_bind (wpAny_pure ?_)
    refine wpAny_holding ?_
    exact wpAny_bind (wpAny_pure (wpAny_bind (wpAny_pure (wpAny_pure h'))))
  | cons e es => exact Calls.evalArgs_plain h

/-! ## calls of defs -/
theorem DenL.shrink {σ : Nat → Int} {n m : Nat} : ∀ {xs : List AV} {vs : List Value}, xs.all (refsOk m) = true → DenL σ ρ n xs vs → DenL σ ρ m xs vs
  | [], [], _, _ => trivial
  | x :: xs, v :: vs, h, ⟨dx, dv⟩ => by
    rw [List.all_cons, Bool.and_eq_true] at h
    refine ⟨?_, DenL.shrink h.2 dv⟩
    cases x with
    | obj k => exact ⟨by have := h.1; simpa [refsOk, Nat.blt_eq] using this, dx.2⟩
    | _ => exact dx
theorem Den.shrink {σ : Nat → Int} {n m : Nat} {x : AV} {v : Value} (h : refsOk m x = true) (dx : Den σ ρ n x v) : Den σ ρ m x v := by
  cases x with
  | obj k => exact ⟨by simpa [refsOk, Nat.blt_eq] using h, dx.2⟩
  | _ => exact dx
theorem look_mem {α : Type} {x : Str} {v : α} {m : List (Str × α)} (h : look x m = some v) : ∃ y, (y, v) ∈ m := by rw [look_lookup] at h; exact ⟨x, mem_lookup h⟩
theorem DenO.shrink {σ : Nat → Int} {n m : Nat} {h : Heap} {a : Addr} {o : AO} (ho : refsOkO m o = true) (dx : DenO σ ρ n h a o) : DenO σ ρ m h a o := by
  cases o with
  | list p xs => obtain ⟨vs, h1, h2, h3⟩ := dx; exact ⟨vs, h1, h2, h3.shrink ho⟩
  | tuple xs => obtain ⟨vs, h1, h3⟩ := dx; exact ⟨vs, h1, h3.shrink ho⟩
  | flist xs => obtain ⟨vs, h1, h3⟩ := dx; exact ⟨vs, h1, h3.shrink ho⟩
  | ns mm =>
    obtain ⟨f, h1, h2⟩ := dx
    refine ⟨f, h1, fun x v hx => ?_⟩
    obtain ⟨u, hu, du⟩ := h2 x v hx
    obtain ⟨y, hy⟩ := look_mem hx
    exact ⟨u, hu, du.shrink (List.all_eq_true.mp ho _ hy)⟩
  | cell v =>
    cases v with
    | none => exact dx
    | some v => obtain ⟨u, h1, h2⟩ := dx; exact ⟨u, h1, h2.shrink ho⟩
  | itL k i => exact ⟨by simpa [refsOkO, Nat.blt_eq] using ho, dx.2⟩
  | _ => exact dx
theorem allFrom_get {p : AO → Bool} {t : Tr AO} : ∀ {m k : Nat}, allFrom p t m = true → k < m → ∃ o, t.get k = some o ∧ p o = true
  | m + 1, k, h, hk => by
    unfold allFrom at h
    rw [Bool.and_eq_true] at h
    by_cases hkm : k = m
    · subst hkm
      have h1 := h.1
      split at h1
      · rename_i o ho; exact ⟨o, ho, h1⟩
      · cases h1
    · exact allFrom_get h.2 (by omega)
theorem Rel.trunc {m : Nat} (R : Rel C ρ H s) (hm : m ≤ H.n) (h : allFrom (refsOkO m) H.t m = true) : Rel C ρ ⟨H.t, m⟩ s :=
  ⟨R.same, R.keep, fun k hk => by
    obtain ⟨o, ho, hp⟩ := allFrom_get h hk
    obtain ⟨o', ho', dx⟩ := R.objs k (Nat.lt_of_lt_of_le hk hm)
    rw [ho] at ho'; cases ho'
    exact ⟨o, ho, dx.shrink hp⟩, fun i j oi oj hi hj => R.inj i j oi oj (Nat.lt_of_lt_of_le hi hm) (Nat.lt_of_lt_of_le hj hm), fun i o hi => R.fresh i o (Nat.lt_of_lt_of_le hi hm), fun k xs hk ek => by
    obtain ⟨o, ho, hp⟩ := allFrom_get h hk
    rw [ek] at ho; cases ho
    obtain ⟨vs, h1, h2⟩ := R.frozen k xs (Nat.lt_of_lt_of_le hk hm) ek
    exact ⟨vs, h1, h2.shrink hp⟩⟩

theorem storeAll_len' {f : Fn} {args : List AV} {r : AEnv × AH} (h : enter f args H = .ok r) : f.params.length = args.length := by
  obtain ⟨H1, h1, h⟩ := Res.bind_ok h
  obtain ⟨H2, h2, h⟩ := Res.bind_ok h
  exact storeAll_len h2

theorem evF_ok (F : Facts C P) (S : Sound C P ev) (ok : AOk (d + 1) A) (R : Rel C ρ H s) {a : Nat} {args : List AV} {v : AV} {vals : List Value} (da : DenL C.σ ρ H.n args vals) (h : evF P ev d a args H = .ok (v, H')) {Q : Value → Shared → Prop}
    (k : K C ρ H H' (DV C H' v) Q) : wpAny (model C.prog C.w) A (call (.ref a) vals) Q No s := by
  unfold evF at h
  split at h
  · rename_i r hr
    cases h
    cases hd : Nat.ble P.sd d with
    | false => rw [hd] at hr; cases hr
    | true => rw [hd] at hr; exact F.spec a args H v H' hr d ρ s A vals Q (Nat.le_of_ble_eq_true hd) R da ok.le k
  · split at h
    · rename_i f hf
      obtain ⟨⟨ae, H1⟩, h1, h⟩ := Res.bind_ok h
      obtain ⟨⟨fl, H2⟩, h2, h⟩ := Res.bind_ok h
      obtain ⟨⟨o, fd, ho, hd, hb, hsc, hg, hbi, hcl, hcd, hbind⟩, hkind, hco, hgen⟩ := F.fn a f hf
      refine wpAny_call ?_
      have hlen := storeAll_len' h1
      refine codeAny_call_function (by have := ok.depth; omega) (R.keep _ _ ho) hd (by rw [hsc]; exact hco) (by rw [hsc]; exact hgen) hb ?_ ?_
      · have := hcd
        obtain ⟨c, oc, vs, tq, hc, hoc, hdc, hq⟩ := this
        exact ⟨c, oc, vs, tq, hc, R.keep _ _ hoc, hdc, hq⟩
      rw [hsc, hg, hbi, hcl]
      refine hbind s vals R.keep (by rw [hlen]; exact da.length.symm) _ _ _ _ ?_
      refine toE (enter_ok R hkind da h1 fun ρ1 env s1 he1 hn1 R1 E1 => ⟨?_, ?_⟩)
      · exact F.lim.at fun o e => R1.keep _ _ e
      refine codeAny_func (toE (evSs_ok S (ok.in1 env) E1 R1 h2 fun ρ2 u s2 he2 hn2 R2 du => ?_))
      have fin : ∀ {v0 : AV} {w : Value}, Den C.σ ρ2 H2.n v0 w → (if refsOk H.n v0 && (allFrom (refsOkO H.n) H2.t H.n && Nat.ble H.n H2.n) then Res.ok (v0, (⟨H2.t, H.n⟩ : AH)) else .ok (v0, H2)) = .ok (v, H') → Q w s2 := by
        intro v0 w dw h
        split at h
        · rename_i hc
          rw [Bool.and_eq_true, Bool.and_eq_true] at hc
          cases h
          exact k ρ2 w s2 (he1.trans he2 hn1) (Nat.le_refl _) (R2.trunc (Nat.le_of_ble_eq_true hc.2.2) hc.2.1) (dw.shrink hc.1)
        · cases h
          exact k ρ2 w s2 (he1.trans he2 hn1) (Nat.le_trans hn1 hn2) R2 dw
      cases fl with
      | next => have du : u = .next := du; subst du; exact fin (v0 := .none) rfl h
      | brk => have du : u = .brk := du; subst du; exact fin (v0 := .none) rfl h
      | cont => have du : u = .cont := du; subst du; exact fin (v0 := .none) rfl h
      | ret w => obtain ⟨w', rfl, dw⟩ := du; exact fin dw h
    · cases h

theorem callN_run (F : Facts C P) (S : Sound C P ev) (ok : AOk d A) (E : EnvRel ρ H.n ae env) (R : Rel C ρ H s) {f : Str} {np : Pos} {args : List Expr} {v : AV} (h : eCallN P ev d ae f np args H = .ok (v, H')) {pos : Pos} {Q : Value → Shared → Prop}
    (k : K C ρ H H' (DV C H' v) Q) : wpAny (model C.prog C.w) A (eval (.Call (.Name f np) args [] pos) env) Q No s := by
  obtain ⟨⟨fv, H1⟩, h1, h⟩ := Res.bind_ok h
  obtain ⟨⟨vs, H2⟩, h2, h⟩ := Res.bind_ok h
  refine wpAny_Call_ofName (S.E h1 ok E R fun ρ1 u s1 he1 hn1 R1 du => ?_)
  show wpAny _ _ (callWith pos u [] (backTo pos (starEach args env)) []) Q No s1
  have hargs : ∀ {Q' : List Value → Shared → Prop}, K C ρ1 H1 H2 (DVs C H2 vs) Q' → wpAny (model C.prog C.w) A (spliced (backTo pos (starEach args env))) Q' No s1 := fun k' => evEs_ok S ok (E.ext he1 hn1) R1 h2 k'
  have hst := evEs_star (env := env) h2
  have hpl := back_plain (pos := pos) hst
  cases fv with
  | gl a =>
    subst du
    cases d with
    | zero => cases h
    | succ d' =>
      have hfd : ∃ o fd, C.base.get? a = some o ∧ o.data = .func fd := by
        have h : evF P ev d' a vs H2 = .ok (v, H') := h
        unfold evF at h
        split at h
        · rename_i r hr
          cases hd : Nat.ble P.sd d' with
          | false => rw [hd] at hr; cases hr
          | true => rw [hd] at hr; exact F.specFn a vs H2 r hr
        · split at h
          · rename_i f hf
            obtain ⟨⟨o, fd, ho, hd, _⟩, _⟩ := F.fn a f hf
            exact ⟨o, fd, ho, hd⟩
          · cases h
      obtain ⟨o, fd, ho, hd⟩ := hfd
      refine Calls.callWith_function (evalArgs_all hst (hargs fun ρ2 us s2 he2 hn2 R2 dus => ⟨⟨R2.keep _ _ ho, hd⟩, ?_⟩))
      exact evF_ok F S ok R2 dus h (k.step (he1.trans he2 hn1) (Nat.le_trans hn1 hn2))
  | bi b =>
    subst du
    have go : ∀ {Q' : Args → Shared → Prop}, (∀ ρ2 us s2, Ext H1.n ρ1 ρ2 → H1.n ≤ H2.n → Rel C ρ2 H2 s2 → DenL C.σ ρ2 H2.n vs us → Q' ⟨us, []⟩ s2) → ∀ f, wpAny (model C.prog C.w) A (evalArgs f true (backTo pos (starEach args env)) []) Q' No s1 :=
      fun hk f => evalArgs_all hst (hargs fun ρ2 us s2 he2 hn2 R2 dus => hk ρ2 us s2 he2 hn2 R2 dus)
    have fin : ∀ ρ2 us s2, Ext H1.n ρ1 ρ2 → H1.n ≤ H2.n → Rel C ρ2 H2 s2 → DenL C.σ ρ2 H2.n vs us → wpAny (model C.prog C.w) A (call b.val us) Q No s2 := fun ρ2 us s2 he2 hn2 R2 dus =>
      callB_ok F R2 ok dus h (k.step (he1.trans he2 hn1) (Nat.le_trans hn1 hn2))
    cases b with
    | range => exact PySem.callWith_type hpl (go fin _)
    | bytes => exact PySem.callWith_type hpl (go fin _)
    | int => exact PySem.callWith_type hpl (go fin _)
    | _ => exact Calls.callWith_builtin hpl (go fin _)
  | _ => cases h

theorem callM_obj {q : Nat} {name : Str} {vs : List AV} {v : AV} (h : callM P (.obj q) name vs H = .ok (v, H')) :
    ∃ v0 xs, vs = [v0] ∧ name = "append" ∧ H.at q = some (.list true xs) ∧ xs.length < 1000 ∧ H.put q (.list true (xs ++ [v0])) = .ok H' ∧ v = .none := by
  unfold callM at h
  simp only at h
  split at h
  · rename_i v0
    cases hn : sEq name "append" with
    | false => rw [hn] at h; cases h
    | true =>
      rw [hn] at h
      simp only [cond_true] at h
      split at h
      · rename_i xs hq
        split at h
        · rename_i hlen
          obtain ⟨H3, h3, h⟩ := Res.bind_ok h
          cases h
          exact ⟨v0, xs, rfl, sEq_iff.mp hn, hq, hlen, h3, rfl⟩
        · cases h
      · cases h
  · cases h
theorem callM_bytes {b : List Nat} {name : Str} {vs : List AV} {v : AV} (h : callM P (.bytes b) name vs H = .ok (v, H')) :
    ∃ c n, vs = [.bytes [c]] ∧ name = "count" ∧ P.cnt b c = some n ∧ v = .int (.lit (Int.ofNat n)) ∧ H' = H := by
  unfold callM at h
  simp only at h
  split at h
  · rename_i c
    cases hn : sEq name "count" with
    | false => rw [hn] at h; cases h
    | true =>
      rw [hn] at h
      simp only [cond_true] at h
      split at h
      · rename_i n hq
        cases h
        exact ⟨c, n, rfl, sEq_iff.mp hn, hq, rfl, rfl⟩
      · cases h
  · cases h
theorem callM_gl {a : Nat} {name : Str} {vs : List AV} {v : AV} (h : callM P (.gl a) name vs H = .ok (v, H')) :
    ∃ b r, a = 36 ∧ vs = [.bytes [], .bytes b] ∧ name = "sub" ∧ P.sub b = some r ∧ v = .bytes r ∧ H' = H := by
  unfold callM at h
  split at h
  · rename_i e; cases e
  · rename_i e; cases e
  · rename_i e
    cases e
    split at h
    · rename_i b
      cases hn : sEq name "sub" with
      | false => rw [hn] at h; cases h
      | true =>
        rw [hn] at h
        simp only [cond_true] at h
        split at h
        · rename_i r hq
          cases h
          exact ⟨b, r, rfl, rfl, sEq_iff.mp hn, hq, rfl, rfl⟩
        · cases h
    · cases h
  · cases h

theorem callA_run (F : Facts C P) (S : Sound C P ev) (ok : AOk d A) (E : EnvRel ρ H.n ae env) (R : Rel C ρ H s) {o : Str} {np : Pos} {name : Str} {apos : Pos} {args : List Expr} {pos : Pos} {v : AV} (h : eCallA P ev d ae o np name apos args pos H = .ok (v, H')) {Q : Value → Shared → Prop}
    (k : K C ρ H H' (DV C H' v) Q) : wpAny (model C.prog C.w) A (eval (.Call (.Attribute (.Name o np) name apos) args [] pos) env) Q No s := by
  unfold eCallA at h
  split at h
  · rename_i hc
    rw [Bool.and_eq_true] at hc
    obtain ⟨⟨ov, H1⟩, h1, h⟩ := Res.bind_ok h
    split at h
    · rename_i hok
      obtain ⟨⟨vs, H2⟩, h2, h⟩ := Res.bind_ok h
      have hst := evEs_star (env := env) h2
      have hargs : ∀ {ρ1 s1}, Ext H.n ρ ρ1 → H.n ≤ H1.n → Rel C ρ1 H1 s1 → ∀ {Q' : Args → Shared → Prop} {f : Value}, K C ρ1 H1 H2 (DVs C H2 vs) (fun us s' => Q' ⟨us, []⟩ s') →
          wpAny (model C.prog C.w) A (evalArgs f true (backTo pos (starEach args env)) []) Q' No s1 := fun he1 hn1 R1 _ _ k' => evalArgs_all hst (evEs_ok S ok (E.ext he1 hn1) R1 h2 k')
      have hpl := back_plain (pos := pos) hst
      have hfew : ((backTo pos (starEach args env)).all (fun x => !x.1) && (backToKw pos (keywordEach [] env)).all (fun x => x.1.isSome)
          && decide (args.length + ([] : List Keyword).length + (if ([] : List Keyword).isEmpty then 0 else 1) < 30)) = true := by
        rw [back_all hst]
        have : args.length < 20 := by simpa [Nat.blt_eq] using hc.2
        simp [backToKw, keywordEach]; omega
      cases ov with
      | obj q =>
        obtain ⟨v0, xs, rfl, rfl, hq, hlen, h3, rfl⟩ := callM_obj h
        refine wpAny_Call_method rfl hfew hc.1 plainAttrs_lst slot_list_append (by rfl) (S.E h1 ok E R fun ρ1 u s1 he1 hn1 R1 du => ?_)
        obtain ⟨hlt, rfl⟩ := du
        have hl1 : ∃ vs : List Value, s1.heap.PlainList (ρ1 q) vs.toArray := by
          have hok : (match H1.at q with | some (.list true _) => true | _ => false) = true := hok
          split at hok
          · rename_i ys hy
            obtain ⟨vs, hl, hp, _⟩ := R1.obj hy
            exact ⟨vs, hp rfl⟩
          · cases hok
        obtain ⟨ws, hl1⟩ := hl1
        refine ⟨hl1.isList.typeIs, fun a ha => ?_, ?_⟩
        · cases ha
          obtain ⟨n, ho⟩ := hl1
          exact ⟨_, ho, rfl⟩
        refine Calls.callWith_builtin hpl (hargs he1 hn1 R1 fun ρ2 us s2 he2 hn2 R2 dus => ?_)
        cases us with
        | nil => exact dus.elim
        | cons u us =>
          cases us with
          | cons _ _ => exact dus.2.elim
          | nil =>
            obtain ⟨ys, hl, hp, hd⟩ := R2.obj hq
            show wpAny _ _ (call (.builtin "list.append") [.ref (ρ1 q), u]) _ _ _
            rw [← he2 q hlt]
            have hlen' := hd.length
            refine wpAny_list_append_plain (hp rfl) (fun h' hl' hs' => ?_) (by have : (1000 : Nat) ≤ sizeLine := by decide
                                                                               simp; omega)
            have hl' : h'.PlainList (ρ2 q) (ys ++ [u]).toArray := by simpa using hl'
            have ⟨R3, hn3⟩ := R2.put h3 hq rfl (h' := h') (t := s2.toks) (fun b o hb e => hs'.extBut b o hb e) ⟨ys ++ [u], hl'.isList, fun _ => hl', hd.snoc dus.1⟩
            exact k ρ2 _ _ (he1.trans he2 hn1) (by omega) R3 rfl
      | bytes b =>
        obtain ⟨c, n, rfl, rfl, hq, rfl, rfl⟩ := callM_bytes h
        refine wpAny_Call_method rfl hfew hc.1 W.FB.plainAttrs_bytes slot_bytes_count (by rfl) (S.E h1 ok E R fun ρ1 u s1 he1 hn1 R1 du => ?_)
        obtain ⟨⟨t, rfl⟩, hb⟩ := du
        refine ⟨W.typeIs_bytes _ _ _, fun a ha => (nomatch ha), ?_⟩
        refine Calls.callWith_builtin hpl (hargs he1 hn1 R1 fun ρ2 us s2 he2 hn2 R2 dus => ?_)
        cases us with
        | nil => exact dus.elim
        | cons u us =>
          cases us with
          | cons _ _ => exact dus.2.elim
          | nil =>
            obtain ⟨⟨⟨t', rfl⟩, _⟩, _⟩ := dus
            exact F.cnt b c n hq A s2 Q t t' fun tk u => k ρ2 _ _ (he1.trans he2 hn1) (Nat.le_trans hn1 hn2) (R2.tok tk) ⟨u, rfl⟩
      | gl a =>
        obtain ⟨b, r, rfl, rfl, rfl, hq, rfl, rfl⟩ := callM_gl h
        obtain ⟨o, ho, hcl, hdi⟩ := F.pat
        refine wpAny_Call_method rfl hfew hc.1 plainAttrs_pat slot_pat_sub (by rfl) (S.E h1 ok E R fun ρ1 u s1 he1 hn1 R1 du => ?_)
        have du : u = .ref 36 := du
        subst du
        refine ⟨⟨o, R1.keep _ _ ho, hcl⟩, fun a ha => by cases ha; exact ⟨o, R1.keep _ _ ho, hdi⟩, ?_⟩
        refine Calls.callWith_builtin hpl (hargs he1 hn1 R1 fun ρ2 us s2 he2 hn2 R2 dus => ?_)
        cases us with
        | nil => exact dus.elim
        | cons u us =>
          cases us with
          | nil => exact dus.2.elim
          | cons u' us =>
            cases us with
            | cons _ _ => exact dus.2.2.elim
            | nil =>
              obtain ⟨⟨⟨t, rfl⟩, _⟩, ⟨⟨t', rfl⟩, _⟩, _⟩ := dus
              refine F.sub b r hq A s2 Q t t' ok.handled (by have := ok.units; omega) R2.keep fun h' tk u hk => ?_
              exact k ρ2 _ _ (he1.trans he2 hn1) (Nat.le_trans hn1 hn2) (R2.heapTok hk) ⟨⟨u, rfl⟩, F.subLt b r hq⟩
      | _ => cases h
    · cases h
  · cases h

theorem eCall_ok (F : Facts C P) (S : Sound C P ev) (ok : AOk d A) (E : EnvRel ρ H.n ae env) (R : Rel C ρ H s) {f : Expr} {args : List Expr} {ks : List Keyword} {pos : Pos} {v : AV} (h : eCall P ev d ae f args ks pos H = .ok (v, H')) {Q : Value → Shared → Prop}
    (k : K C ρ H H' (DV C H' v) Q) : wpAny (model C.prog C.w) A (eval (.Call f args ks pos) env) Q No s := by
  cases ks with
  | cons => cases h
  | nil =>
    cases f with
    | Name f p => exact callN_run F S ok E R h k
    | Attribute v name apos =>
      cases v with
      | Name o p => exact callA_run F S ok E R h k
      | _ => cases h
    | _ => cases h
end

end Mine
end
section
set_option maxRecDepth 100000
namespace Mine
open PySem PyProof.Rows

section
variable {C : Cx} {P : Prm} {ev : Ev} {A : Around} {ρ : Nat → Addr} {H H' : AH} {s : Shared} {ae : AEnv} {env : Env} {d : Nat}

theorem folded_ok {it : Expr} (h : isSetE it = false) (x : Value) : foldedSetIterable it env x = pure x := by
  cases it with
  | Set => cases h
  | _ => rfl

/-- a target of a loop or a comprehension -/
theorem evAsg_ok (S : Sound C P ev) (ok : AOk d A) (E : EnvRel ρ H.n ae env) (R : Rel C ρ H s) {t : Expr} {v : AV} {u : Value} (dv : Den C.σ ρ H.n v u) (h : evAsg ev d ae t v H = .ok H') {Q : Unit → Shared → Prop} (k : K C ρ H H' DU Q) :
    wpAny (model C.prog C.w) A (assign t env u) Q No s := by
  cases t with
  | Name x p => exact wpAny_assign_Name (store_ok E R dv h k)
  | Tuple es c p => exact aTup_ok ok E R dv h k
  | Subscript o i pos =>
    have h : aSub ev d ae o i v H = .ok H' := h
    unfold aSub at h
    split at h
    · cases h
    · obtain ⟨⟨a, H1⟩, h1, h⟩ := Res.bind_ok h
      obtain ⟨⟨b, H2⟩, h2, h⟩ := Res.bind_ok h
      rw [arm_assign_Subscript]
      refine wpAny_bind (wpAny_holding (S.E h1 ok E R fun ρ1 x s1 he1 hn1 R1 dx => ?_))
      refine wpAny_bind (wpAny_holding (S.E h2 ok (E.ext he1 hn1) R1 fun ρ2 y s2 he2 hn2 R2 dy => ?_))
      refine wpAny_bind (wpAny_standAt (wpAny_bind (wpAny_holding ?_)))
      refine setitem_ok R2 (dx.ext he2 hn2) dy (dv.ext (he1.trans he2 hn1) (Nat.le_trans hn1 hn2)) h fun ρ3 _ s3 he3 hn3 R3 _ => wpAny_release ?_
      exact k ρ3 () s3 ((he1.trans he2 hn1).trans he3 (Nat.le_trans hn1 hn2)) (Nat.le_trans (Nat.le_trans hn1 hn2) hn3) R3 trivial
  | _ => cases h

theorem compTurn_eq {elt : Expr} {gens : List Comprehension} {scope : Scope} {pos : Pos} {k : Nat} {it acc : Value} {g : Comprehension} (hg : gens[k]? = some g) (ha : (g.is_async != 0) = false) :
    compTurn (.ListComp elt gens scope pos) k it acc env = (do
      standAt g.iter.pos
      match ← pyNext it with
      | none => pure (.done .next)
      | some v =>
        letOwnedTupleGo g.target it v
        assign g.target env v
        let mut ok := true
        for c in g.ifs do
          if ok then ok ← isTrue c env (eval c env)
        if ok then
          match gens[k + 1]? with
          | some g' =>
            let x ← eval g'.iter env
            standAt g'.iter.pos
            let x ← if g'.is_async != 0 then foldedIterable g'.iter x else foldedSetIterable g'.iter env x
            let _ ← runOwn (.compStart (.ListComp elt gens scope pos) (k + 1) (← holding [x] (if g'.is_async != 0 then asyncIter x else pyIter x)) acc env) env
          | none => (do let _ ← call (.builtin "list.append") [acc, ← eval elt env])
        again (.compLoop (.ListComp elt gens scope pos) k it acc env)) := by
  unfold compTurn
  simp only [hg, ha, Bool.false_eq_true, if_false]
  rfl

theorem iterOf_again {a v : AV} (h : iterOf a H = .ok (v, H')) : iterOf v H' = .ok (v, H') := by
  have push : ∀ {o : AO} {H H' : AH}, H.push o = .ok H' → H'.at H.n = some o := fun {o H H'} hp => by
    obtain ⟨rfl, hg⟩ := AH.push_ok hp
    unfold AH.at
    rw [show Nat.blt H.n (H.n + 1) = true by simp [Nat.blt_eq]]
    exact hg
  unfold iterOf at h
  split at h
  · split at h
    · obtain ⟨H1, h1, h⟩ := Res.bind_ok h; cases h
      unfold iterOf; simp only [push h1]
    · obtain ⟨H1, h1, h⟩ := Res.bind_ok h; cases h
      unfold iterOf; simp only [push h1]
    · split at h
      · obtain ⟨H1, h1, h⟩ := Res.bind_ok h; cases h
        unfold iterOf; simp only [push h1]
      · cases h
    · rename_i hk; cases h; unfold iterOf; simp only [hk]
    · rename_i hk; cases h; unfold iterOf; simp only [hk]
    · cases h
  · cases h

theorem codeAny_compStart_gen {elt : Expr} {gens : List Comprehension} {scope : Scope} {pos : Pos} {k : Nat} {it acc : Value} {g : Comprehension} {R : Result → Shared → Prop} (hg : gens[k]? = some g) (ha : (g.is_async != 0) = false)
    (h0 : codeAny (model C.prog C.w) A (.compLoop (.ListComp elt gens scope pos) k it acc env) R s)
    (h : wpAny (model C.prog C.w) A (pyIter it) (fun it' s' => codeAny (model C.prog C.w) A (.compLoop (.ListComp elt gens scope pos) k it' acc env) R s') No s) :
    codeAny (model C.prog C.w) A (.compStart (.ListComp elt gens scope pos) k it acc env) R s := by
  refine codeAny_of_tree ?_
  show wpAny _ _ ((compStart (.ListComp elt gens scope pos) k it acc env).onRaise (fun x => do noteFrame x env; standAt theWindowsPlace)) _ _ s
  refine wpAny_notedAt ?_
  have hc : clausesOf (.ListComp elt gens scope pos) = gens := rfl
  unfold compStart
  simp only [hc, hg, Option.elim_some, ha, Bool.false_eq_true, if_false]
  show wpAny _ _ (ask >>= _) _ _ s
  refine wpAny_bind (wpAny_askSetting (wpAny_ite ?_))
  split
  · first
      | exact wpAny_bind (wpAny_pure (wpAny_pure (And.intro rfl h0)))
      | exact wpAny_pure (And.intro rfl h0)
  · refine wpAny_bind (wpAny_rule ?_)
    show wpAny _ _ (standAt g.iter.pos >>= _) _ _ s
    exact wpAny_bind (wpAny_standAt (wpAny_bind (wpAny_mono h (fun it' s' h' => wpAny_pure (And.intro rfl h')) fun _ _ x => x.elim)))

theorem gEmit_ok (S : Sound C P ev) (ok : AOk d A) (E : EnvRel ρ H.n ae env) (R : Rel C ρ H s) {elt : Expr} {acc : Nat} (hacc : acc < H.n) (h : gEmit ev d ae elt acc H = .ok H') {Q : Unit → Shared → Prop} (k : K C ρ H H' DU Q) :
    wpAny (model C.prog C.w) A (do let _ ← call (.builtin "list.append") [.ref (ρ acc), ← eval elt env]) Q No s := by
  obtain ⟨⟨y, H1⟩, h1, h⟩ := Res.bind_ok h
  refine wpAny_bind (S.E h1 ok E R fun ρ1 u s1 he1 hn1 R1 du => ?_)
  simp only at h
  split at h
  · rename_i xs hx
    split at h
    · rename_i hlt
      obtain ⟨vs, hl, hp, hd⟩ := R1.obj hx
      have hlen := hd.length
      have hlt : xs.length < 1000 := by simpa [Nat.blt_eq] using hlt
      rw [← he1 acc hacc]
      refine wpAny_bind (wpAny_list_append_plain (hp rfl) (fun h' hl' hs' => wpAny_pure ?_) (by have : (1000 : Nat) ≤ sizeLine := by decide
                                                                                                simp; omega))
      have hl' : h'.PlainList (ρ1 acc) (vs ++ [u]).toArray := by simpa using hl'
      have ⟨R3, hn3⟩ := R1.put h hx rfl (h' := h') (t := s1.toks) (fun b o hb e => hs'.extBut b o hb e) ⟨vs ++ [u], hl'.isList, fun _ => hl', hd.snoc du⟩
      exact k ρ1 _ _ he1 (by omega) R3 trivial
    · cases h
  · cases h

theorem mark_none (A : Around) : A.mark Option.none = A := rfl

theorem gIn_ok (S : Sound C P ev) (ok : AOk d A) (E : EnvRel ρ H.n ae env) (R : Rel C ρ H s) {elt : Expr} {gens : List Comprehension} (hgs : gens.all okGen = true) {k : Nat} {acc : Nat} (hacc : acc < H.n) (h : gIn ev d ae elt gens k acc H = .ok H')
    {scope : Scope} {pos : Pos} {α : Type} {rest : Sem α} {Q : α → Shared → Prop} (kk : K C ρ H H' DU (fun _ s' => wpAny (model C.prog C.w) A rest Q No s')) :
    wpAny (model C.prog C.w) A (match gens[k + 1]? with
          | some g' => do
            let x ← eval g'.iter env
            standAt g'.iter.pos
            let x ← if g'.is_async != 0 then foldedIterable g'.iter x else foldedSetIterable g'.iter env x
            let _ ← runOwn (.compStart (.ListComp elt gens scope pos) (k + 1) (← holding [x] (if g'.is_async != 0 then asyncIter x else pyIter x)) (.ref (ρ acc)) env) env
            rest
          | none => do (do let _ ← call (.builtin "list.append") [.ref (ρ acc), ← eval elt env]); rest) Q No s := by
  unfold gIn at h
  cases hg : gens[k + 1]? with
  | none =>
    rw [hg] at h
    exact wpAny_bind (gEmit_ok S ok E R hacc h kk)
  | some g' =>
    rw [hg] at h
    obtain ⟨⟨y, H1⟩, h1, h⟩ := Res.bind_ok h
    obtain ⟨⟨it, H2⟩, h2, h⟩ := Res.bind_ok h
    have hok : okGen g' = true := List.all_eq_true.mp hgs g' (List.mem_of_getElem? hg)
    unfold okGen at hok
    rw [Bool.and_eq_true] at hok
    have ha : (g'.is_async != 0) = false := by simpa using hok.1
    have hset : isSetE g'.iter = false := by simpa using hok.2
    simp only [ha, Bool.false_eq_true, if_false]
    refine wpAny_bind (S.E h1 ok E R fun ρ1 u s1 he1 hn1 R1 du => ?_)
    refine wpAny_bind (wpAny_standAt ?_)
    refine wpAny_bind (wpAny_of_eq (folded_ok hset u) ?_)
    refine wpAny_bind (wpAny_holding (iterOf_ok R1 du h2 fun ρ2 w s2 he2 hn2 R2 dw => ?_))
    refine wpAny_bind (wpAny_runOwn ?_)
    rw [mark_none]
    have hE2 := (E.ext he1 hn1).ext he2 hn2
    have hacc2 : acc < H2.n := Nat.lt_of_lt_of_le hacc (Nat.le_trans hn1 hn2)
    have hρ : ρ acc = ρ2 acc := by rw [he2 acc (Nat.lt_of_lt_of_le hacc hn1), he1 acc hacc]
    have run : ∀ ρ3 it' s3, Ext H2.n ρ2 ρ3 → Rel C ρ3 H2 s3 → Den C.σ ρ3 H2.n it it' → codeAny (model C.prog C.w) A (.compLoop (.ListComp elt gens scope pos) (k + 1) it' (.ref (ρ acc)) env)
        (fun r s' => match r with | .ok f => wpAny (model C.prog C.w) A rest Q No s' | .error e => cameBackBy (model C.prog C.w) A env No e s') s3 := by
      intro ρ3 it' s3 he3 R3 d3
      rw [hρ, ← he3 acc hacc2]
      refine S.G h hgs (List.getElem?_eq_some_iff.mp hg).1 ok (hE2.ext he3 (Nat.le_refl _)) R3 d3 hacc2 fun ρ4 f s4 he4 hn4 R4 _ => ?_
      exact kk ρ4 () s4 (((he1.trans he2 hn1).trans he3 (Nat.le_trans hn1 hn2)).trans he4 (Nat.le_trans hn1 hn2)) (Nat.le_trans (Nat.le_trans hn1 hn2) hn4) R4 trivial
    refine codeAny_compStart_gen hg ha (run ρ2 w s2 (Ext.refl _ _) R2 dw) (iterOf_ok R2 dw (iterOf_again h2) fun ρ3 it' s3 he3 hn3 R3 d3 => run ρ3 it' s3 he3 R3 d3)

theorem stepG_ok (F : Facts C P) (S : Sound C P ev) (ok : AOk d A) (E : EnvRel ρ H.n ae env) (R : Rel C ρ H s) {elt : Expr} {gens : List Comprehension} (hgs : gens.all okGen = true) {k : Nat} (hk : k < gens.length) {acc : Nat} (hacc : acc < H.n) {it : AV} {iv : Value} (di : Den C.σ ρ H.n it iv)
    (h : stepG P ev d ae elt gens k it acc H = .ok H') {scope : Scope} {pos : Pos} {RR : Result → Shared → Prop} (kk : K C ρ H H' (fun _ u => u = .next) (fun u s' => RR (.ok u) s')) :
    codeAny (model C.prog C.w) A (.compLoop (.ListComp elt gens scope pos) k iv (.ref (ρ acc)) env) RR s := by
  obtain ⟨⟨x, H1⟩, h1, h⟩ := Res.bind_ok h
  refine codeAny_of_tree ?_
  show wpAny _ A ((compTurn (.ListComp elt gens scope pos) k iv (.ref (ρ acc)) env).onRaise (fun x => do noteFrame x env; theTreesLotGoes x)) _ _ s
  refine wpAny_noted (toE ?_)
  cases hg : gens[k]? with
  | none => rw [List.getElem?_eq_none_iff] at hg; omega
  | some g =>
    have hok : okGen g = true := List.all_eq_true.mp hgs g (List.mem_of_getElem? hg)
    unfold okGen at hok
    rw [Bool.and_eq_true] at hok
    have ha : (g.is_async != 0) = false := by simpa using hok.1
    rw [compTurn_eq hg ha]
    refine wpAny_bind (wpAny_standAt (wpAny_bind (nextOf_ok R ok.handled di h1 fun ρ1 u s1 he1 hn1 R1 du => ?_)))
    cases x with
    | none =>
      cases u with
      | some _ => exact du.elim
      | none =>
        cases h
        exact wpAny_pure (kk ρ1 .next s1 he1 hn1 R1 rfl)
    | some v =>
      cases u with
      | none => exact du.elim
      | some u =>
        have du : Den C.σ ρ1 H1.n v u := du
        have h : gTurn P ev d ae elt gens k it acc v H1 = .ok H' := h
        unfold gTurn at h
        rw [hg] at h
        simp only at h
        split at h
        · rename_i hown
          obtain ⟨H2, h2, h⟩ := Res.bind_ok h
          obtain ⟨⟨t, H3⟩, h3, h⟩ := Res.bind_ok h
          obtain ⟨H4, h4, h5⟩ := Res.bind_ok h
          have E1 := E.ext he1 hn1
          have d1 := di.ext he1 hn1
          refine wpAny_bind (letOwned_ok R1 d1 hown ?_)
          refine wpAny_bind (evAsg_ok S ok E1 R1 du h2 fun ρ2 _ s2 he2 hn2 R2 _ => ?_)
          have E2 := E1.ext he2 hn2
          refine wpAny_bind (evIfs_ok F S ok E2 R2 h3 fun ρ3 b s3 he3 hn3 R3 db => ?_)
          have db : b = t := db
          subst db
          have E3 := E2.ext he3 hn3
          have hx3 : Ext H.n ρ ρ3 := (he1.trans he2 hn1).trans he3 (Nat.le_trans hn1 hn2)
          have hn03 : H.n ≤ H3.n := Nat.le_trans (Nat.le_trans hn1 hn2) hn3
          have hacc3 : acc < H3.n := Nat.lt_of_lt_of_le hacc hn03
          have again_ok : ∀ ρ4 s4, Ext H3.n ρ3 ρ4 → H3.n ≤ H4.n → Rel C ρ4 H4 s4 → (Code.compLoop (.ListComp elt gens scope pos) k iv (.ref (ρ acc)) env).quiet = true ∧
              codeAny (model C.prog C.w) A (.compLoop (.ListComp elt gens scope pos) k iv (.ref (ρ acc)) env) RR s4 := fun ρ4 s4 he4 hn4 R4 => by
            refine ⟨rfl, ?_⟩
            have hx4 : Ext H.n ρ ρ4 := hx3.trans he4 hn03
            have hn04 : H.n ≤ H4.n := Nat.le_trans hn03 hn4
            rw [← hx4 acc hacc]
            exact S.G h5 hgs hk ok (E.ext hx4 hn04) R4 (di.ext hx4 hn04) (Nat.lt_of_lt_of_le hacc hn04) (kk.step hx4 hn04)
          cases b with
          | false =>
            cases h4
            exact wpAny_pure (again_ok ρ3 s3 (Ext.refl _ _) (Nat.le_refl _) R3)
          | true =>
            simp only [if_true]
            rw [← hx3 acc hacc]
            refine gIn_ok S ok E3 R3 hgs hacc3 h4 fun ρ4 _ s4 he4 hn4 R4 _ => wpAny_pure ?_
            rw [hx3 acc hacc]
            exact again_ok ρ4 s4 he4 hn4 R4
        · cases h
end

end Mine
end
section
set_option maxRecDepth 100000
namespace Mine
open PySem PyProof.Rows

section
variable {C : Cx} {P : Prm} {ev : Ev} {A : Around} {ρ : Nat → Addr} {H H' : AH} {s : Shared} {ae : AEnv} {env : Env} {d : Nat}

theorem kill_ok (R : Rel C ρ H s) {k : Nat} (h : killNs k H = .ok H') : H'.n = H.n ∧ ∃ m, s.heap.Ns (ρ k) m ∧ ∀ h', Heap.SameBut (ρ k) s.heap h' → Rel C ρ H' { s with heap := h' } := by
  unfold killNs at h
  split at h
  · rename_i m hm
    obtain ⟨mm, hn, _⟩ := R.obj hm
    have hn' : H'.n = H.n := by obtain ⟨_, rfl⟩ := AH.put_ok h; rfl
    refine ⟨hn', mm, hn, fun h' hs => ?_⟩
    exact (R.put h hm rfl (h' := h') (t := s.toks) (fun b o hb e => hs.extBut b o hb e) trivial).1
  · cases h

theorem okScope_facts {sc : Scope} (h : okScope sc = true) : sc.kind = .function ∧ (∀ x ∈ sc.names, x.2 ≠ .cell) ∧ ∀ x ∈ sc.names, x.2 = .local → sc.names.lookup x.1 = some .local := by
  unfold okScope at h
  rw [Bool.and_eq_true] at h
  refine ⟨by simpa using h.1, fun x hx => ?_, fun x hx hl => ?_⟩
  · have := List.all_eq_true.mp h.2 x hx
    obtain ⟨n, k⟩ := x
    simp only [Bool.and_eq_true] at this
    simpa using this.1
  · have := List.all_eq_true.mp h.2 x hx
    obtain ⟨n, k⟩ := x
    simp only [Bool.and_eq_true] at this
    simp only at hl
    subst hl
    have := this.2
    rw [← look_lookup]
    simpa using this

theorem Rel.push' (R : Rel C ρ H s) {o' : AO} (hp : H.push o' = .ok H') {h' : Heap} {t : Nat} {a : Addr} (ha : s.heap.get? a = none) (hs : ∀ b o, s.heap.get? b = some o → h'.get? b = some o)
    (dd : ∀ ρ' : Nat → Addr, Ext H.n ρ ρ' → DenO C.σ ρ' (H.n + 1) h' a o') (hf : ∀ xs, o' ≠ .flist xs := by intro _ h; cases h) : ∃ ρ', Rel C ρ' H' { s with heap := h', toks := t } ∧ H'.n = H.n + 1 ∧ Ext H.n ρ ρ' ∧ ρ' H.n = a := by
  obtain ⟨h1, h2, h3⟩ := R.push hp (t := t) ha hs (dd (fun k => if k = H.n then a else ρ k) (fun k hk => if_neg (Nat.ne_of_lt hk))) hf
  exact ⟨_, h1, h2, h3, if_pos rfl⟩

theorem AH.at_pushed {H1 : AH} {k : Nat} {o o' : AO} (hk : H.at k = some o) (hp : H.push o' = .ok H1) : H1.at k = some o := by
  obtain ⟨hlt, hg⟩ := AH.at_some hk
  obtain ⟨rfl, _⟩ := AH.push_ok hp
  unfold AH.at
  rw [show Nat.blt k (H.n + 1) = true by simp [Nat.blt_eq]; omega]
  show (H.t.set o' H.n).get k = some o
  rw [Tr.get_set_ne _ _ _ _ (Nat.ne_of_lt hlt)]
  exact hg

theorem Res.ok_n {v w : AV} {H H' : AH} (h : (Res.ok (v, H) : Res (AV × AH)) = .ok (w, H')) : H.n = H'.n := by cases h; rfl
theorem iterOf_obj {v : AV} {H : AH} (h : iterOf v H = .ok (v, H)) : ∃ k, v = .obj k ∧ ((∃ l i, H.at k = some (.itL l i)) ∨ (∃ x n, H.at k = some (.itR x n))) := by
  unfold iterOf at h
  split at h
  · rename_i k
    split at h
    · obtain ⟨H1, h1, h⟩ := Res.bind_ok h
      obtain ⟨rfl, _⟩ := AH.push_ok h1
      exact absurd (Res.ok_n h) (Nat.succ_ne_self _)
    · obtain ⟨H1, h1, h⟩ := Res.bind_ok h
      obtain ⟨rfl, _⟩ := AH.push_ok h1
      exact absurd (Res.ok_n h) (Nat.succ_ne_self _)
    · split at h
      · obtain ⟨H1, h1, h⟩ := Res.bind_ok h
        obtain ⟨rfl, _⟩ := AH.push_ok h1
        exact absurd (Res.ok_n h) (Nat.succ_ne_self _)
      · cases h
    · rename_i l i hk; exact ⟨k, rfl, .inl ⟨l, i, hk⟩⟩
    · rename_i x n hk; exact ⟨k, rfl, .inr ⟨x, n, hk⟩⟩
    · cases h
  · cases h

theorem iterOf_again' {a v : AV} {H1 H2 : AH} {o1 o2 : AO} (h : iterOf a H = .ok (v, H')) (h1 : H'.push o1 = .ok H1) (h2 : H1.push o2 = .ok H2) : iterOf v H2 = .ok (v, H2) := by
  obtain ⟨k, rfl, hk⟩ := iterOf_obj (iterOf_again h)
  rcases hk with ⟨l, i, hk⟩ | ⟨x, n, hk⟩
  · have := AH.at_pushed (AH.at_pushed hk h1) h2
    unfold iterOf; simp only [this]
  · have := AH.at_pushed (AH.at_pushed hk h1) h2
    unfold iterOf; simp only [this]

noncomputable def UseOk (env : Env) : Option Str → Option (Value → Sem Unit) → Prop
  | Option.none, Option.none => True
  | some x, some u => ∃ pos, ∀ v, u v = assign (.Name x pos) env v
  | _, _ => False

theorem comp_ok (S : Sound C P ev) (ok : AOk d A) (E : EnvRel ρ H.n ae env) (R : Rel C ρ H s) {elt : Expr} {gens : List Comprehension} {sc : Scope} {tgt : Option Str} {v : AV} (h : evComp ev d ae elt gens sc tgt H = .ok (v, H'))
    {pos fp : Pos} {use : Option (Value → Sem Unit)} (hu : UseOk env tgt use) {Q : Value → Shared → Prop}
    (k : K C ρ H H' (fun ρ' u => match use with | Option.none => DV C H' v ρ' u | some _ => u = .none) Q) :
    wpAny (model C.prog C.w) A (comprehension (.ListComp elt gens sc pos) sc env fp (newList []) (firstAsync gens) (firstIter gens env) use) Q No s := by
  cases gens with
  | nil => cases h
  | cons g gs =>
    have h : (if okScope sc && (g :: gs).all okGen then
      (ev.E d ae g.iter H).bind fun x => (iterOf x.1 x.2).bind fun i =>
      (freeCells ae sc.names []).bind fun cs =>
      (i.2.pushes [.list true [], .ns []]).bind fun H0 =>
      (ev.G d ⟨compScope ae sc, i.2.n + 1, cs⟩ elt (g :: gs) 0 i.1 i.2.n H0).bind fun H1 =>
      (evBind ae tgt (.obj i.2.n) H1).bind fun H2 => (killNs (i.2.n + 1) H2).bind fun H3 => .ok (.obj i.2.n, H3)
    else .err 231) = .ok (v, H') := h
    split at h
    · rename_i hc
      rw [Bool.and_eq_true] at hc
      obtain ⟨hsc, hgs⟩ := hc
      obtain ⟨hkind, hcell, hloc⟩ := okScope_facts hsc
      obtain ⟨⟨x, H1⟩, h1, h⟩ := Res.bind_ok h
      obtain ⟨⟨it, H2⟩, h2, h⟩ := Res.bind_ok h
      obtain ⟨cs, hcs, h⟩ := Res.bind_ok h
      obtain ⟨H3, h3, h⟩ := Res.bind_ok h
      obtain ⟨H4, h4, h⟩ := Res.bind_ok h
      obtain ⟨H5, h5, h⟩ := Res.bind_ok h
      obtain ⟨H6, h6, h⟩ := Res.bind_ok h
      cases h
      obtain ⟨H2a, h3a, h3⟩ := pushes_cons h3
      obtain ⟨H2b, h3b, h3⟩ := pushes_cons h3
      cases h3
      have hok : okGen g = true := by rw [List.all_cons, Bool.and_eq_true] at hgs; exact hgs.1
      unfold okGen at hok
      rw [Bool.and_eq_true] at hok
      have ha : (g.is_async != 0) = false := by simpa using hok.1
      have hset : isSetE g.iter = false := by simpa using hok.2
      obtain ⟨hclos, hcslt⟩ := closure_ok E hcs
      have hfa : firstAsync (g :: gs) = false := by cases g; exact ha
      rw [hfa]
      refine wpAny_comprehension_free (g := g) (gs := gs) rfl (folded_ok hset) hclos hkind hloc ?_
      rw [show firstIter (g :: gs) env = eval g.iter env by cases g; rfl]
      refine S.E h1 ok E R fun ρ1 u s1 he1 hn1 R1 du => ?_
      refine iterOf_ok R1 du h2 fun ρ2 w s2 he2 hn2 R2 dw => ?_
      refine wpAny_newObj_type ?_
      generalize hL : s2.heap.push { cls := .type "list", dict := Option.none, data := .seq ([] : List Value).toArray } = hp2
      have hpl : hp2.PlainList s2.heap.objs.size ([] : List Value).toArray := ⟨_, by rw [← hL]; exact Heap.get?_push_size _ rfl⟩
      obtain ⟨ρ3, R3, hn3, he3, ea⟩ := R2.push' h3a (h' := hp2) (t := s2.toks) (a := s2.heap.objs.size) (heap_size_none _) (fun b o e => by rw [← hL]; exact Heap.get?_push_of_some _ e) fun ρ' _ => ⟨[], hpl.isList, fun _ => hpl, trivial⟩
      refine wpAny_newFunctionEnv hcell (by intro y hy; cases hy) (fun h₁ hns₁ hsb₁ => ?_) hkind
      obtain ⟨ρ4, R4, hn4, he4, el⟩ := R3.push' h3b (h' := h₁) (t := s2.toks) (a := hp2.objs.size) (heap_size_none _)
        (fun b o e => hsb₁.extBut b o (Nat.ne_of_lt (Heap.lt_size e)) (Heap.get?_push_of_some _ e)) fun ρ' _ => ⟨_, hns₁, fun y v hy => by cases hy⟩
      have hext : Ext H2.n ρ2 ρ4 := he3.trans he4 (by omega)
      have hn24 : H2.n + 2 = H3.n := by omega
      have ea4 : ρ4 H2.n = s2.heap.objs.size := by rw [he4 H2.n (by omega), ea]
      have el4 : ρ4 (H2.n + 1) = hp2.objs.size := by rw [← el, hn3]
      have E2 : EnvRel ρ2 H2.n ae env := (E.ext he1 hn1).ext he2 hn2
      have E4 : EnvRel ρ4 H3.n ⟨compScope ae sc, H2.n + 1, cs⟩ { newEnv sc hp2.objs.size env.globals (cs.map fun p => (p.1, ρ p.2)) env.qual Option.none .none (some env) builtinsNs with scope := relabel sc env } := by
        refine ⟨(compScope_eq E sc).symm, ?_, el4.symm, by show H2.n + 1 < _; omega, E.glob, E.blt, ?_, fun p hp => ?_⟩
        · show (compScope ae sc).kind = _; exact hkind
        · show (cs.map fun p => (p.1, ρ p.2)) = cs.map fun p => (p.1, ρ4 p.2)
          refine List.map_congr_left fun p hp => ?_
          rw [hext p.2 (Nat.lt_of_lt_of_le (hcslt p hp) (Nat.le_trans hn1 hn2)), he2 p.2 (Nat.lt_of_lt_of_le (hcslt p hp) hn1), he1 p.2 (hcslt p hp)]
        · have := hcslt p hp; omega
      have dw4 : Den C.σ ρ4 H3.n it w := dw.ext hext (by omega)
      have hx4 : Ext H.n ρ ρ4 := (he1.trans he2 hn1).trans hext (Nat.le_trans hn1 hn2)
      have hn04 : H.n ≤ H3.n := by omega
      have run : ∀ ρ5 it' s5, Ext H3.n ρ4 ρ5 → Rel C ρ5 H3 s5 → Den C.σ ρ5 H3.n it it' →
          codeAny (model C.prog C.w) A (.compLoop (.ListComp elt (g :: gs) sc pos) 0 it' (.ref s2.heap.objs.size) { newEnv sc hp2.objs.size env.globals (cs.map fun p => (p.1, ρ p.2)) env.qual Option.none .none (some env) builtinsNs with scope := relabel sc env })
            (compPost (model C.prog C.w) A No use Q (.ref s2.heap.objs.size) hp2.objs.size) s5 := by
        intro ρ5 it' s5 he5 R5 d5
        have := S.G h4 hgs (by simp) ok (E4.ext he5 (Nat.le_refl _)) R5 d5 (show H2.n < H3.n by omega) (scope := sc) (pos := pos) (R := compPost (model C.prog C.w) A No use Q (.ref s2.heap.objs.size) hp2.objs.size) fun ρ6 f s6 he6 hn6 R6 _ => ?_
        · rw [he5 H2.n (by omega), ea4] at this; exact this
        have ea6 : ρ6 H2.n = s2.heap.objs.size := by rw [he6 H2.n (by omega), he5 H2.n (by omega), ea4]
        have el6 : ρ6 (H2.n + 1) = hp2.objs.size := by rw [he6 _ (by omega), he5 _ (by omega), el4]
        have hx6 : Ext H.n ρ ρ6 := (hx4.trans he5 hn04).trans he6 hn04
        have hn06 : H.n ≤ H4.n := Nat.le_trans hn04 hn6
        cases tgt with
        | none =>
          cases use with
          | some _ => exact hu.elim
          | none =>
            cases h5
            obtain ⟨hk1, m, hk2, hk3⟩ := kill_ok R6 h6
            rw [el6] at hk2 hk3
            refine ⟨m, hk2, fun h' hs => ?_⟩
            refine k ρ6 _ _ hx6 (by omega) (hk3 h' hs) ⟨by show H2.n < _; omega, by rw [ea6]⟩
        | some x =>
          cases use with
          | none => exact hu.elim
          | some uu =>
            obtain ⟨xpos, hu⟩ := hu
            show wpAny _ A (uu _) _ _ _
            rw [hu]
            refine wpAny_assign_Name (store_ok (E.ext hx6 hn06) R6 (v := .obj H2.n) ⟨by show H2.n < _; omega, by rw [ea6]⟩ h5 fun ρ7 _ s7 he7 hn7 R7 _ => ?_)
            obtain ⟨hk1, m, hk2, hk3⟩ := kill_ok R7 h6
            have e7 : ρ7 (H2.n + 1) = hp2.objs.size := by rw [he7 _ (show H2.n + 1 < H4.n by omega), el6]
            rw [show ρ7 ((it, H2).2.n + 1) = _ from e7] at hk2 hk3
            refine ⟨m, hk2, fun h' hs => ?_⟩
            exact k ρ7 _ _ (hx6.trans he7 hn06) (by omega) (hk3 h' hs) rfl
      exact codeAny_compStart_gen (g := g) rfl ha (run ρ4 w _ (Ext.refl _ _) R4 dw4) (iterOf_ok R4 dw4 (iterOf_again' h2 h3a h3b) fun ρ5 it' s5 he5 hn5 R5 d5 => run ρ5 it' s5 he5 R5 d5)
    · cases h

theorem swapsWith_comp {elt : Expr} {gens : List Comprehension} {sc : Scope} {vpos : Pos} {x : Str} {p : Pos} {line : Nat} (E : EnvRel ρ H.n ae env) :
    swapsWith (.ListComp elt gens sc vpos) (some (.Name x p)) line env = pure (swapB ae (.Name x p) vpos sc).isSome := by
  have hk : env.scope.kind = .function := by rw [E.scope]; exact E.kind
  have e : swapsWith (.ListComp elt gens sc vpos) (some (.Name x p)) line env = pure (env.blockKind == .function && env.kindOf x == some .local && p.line == vpos.line
      && !(sc.names.any fun (n, k) => n == x && (k == .local || k == .cell))) := rfl
  have hb : env.blockKind = .function := by unfold Env.blockKind; simp [hk, ScopeKind.isAnnotationScope]
  rw [e, hb, kindOf_rel E]
  unfold swapB
  congr 1
  have hs : (sc.names.any fun q => sEq q.1 x && (q.2 == .local || q.2 == .cell)) = sc.names.any fun (n, k) => n == x && (k == .local || k == .cell) := by
    congr 1; funext q; rw [sEq_beq]
  simp only [hs]
  cases h1 : look x ae.scope.names == some .local <;> cases h2 : p.line == vpos.line <;> cases h3 : (sc.names.any fun (n, k) => n == x && (k == .local || k == .cell)) <;> simp_all

theorem swapB_name {t : Expr} {vpos : Pos} {sc : Scope} {x : Str} (h : swapB ae t vpos sc = some x) : ∃ p, t = .Name x p := by
  unfold swapB at h
  split at h
  · split at h
    · cases h; exact ⟨_, rfl⟩
    · cases h
  · cases h

noncomputable def isTupE : Expr → Bool
  | .Tuple .. => true
  | _ => false
theorem swapped_none {t v : Expr} (hv : isTupE v = false) : swappedStores [t] v env = pure Option.none := by
  cases t with
  | Tuple => cases v with
    | Tuple => cases hv
    | _ => rfl
  | List => cases v with
    | Tuple => cases hv
    | _ => rfl
  | _ => rfl

theorem each_one {t : Expr} {v : AV} {H H' : AH} (h : evAsg ev d ae t v H = .ok H') : (assignEach [t] env).map (·.2) = [assign t env] := by
  cases t with
  | Name => rfl
  | Tuple => rfl
  | Subscript => rfl
  | _ => cases h

theorem swapSole_one {t v : Expr} {n : Nat} : swapsWithSole [t] v n env = swapsWith v (some t) n env := by
  simp only [swapsWithSole]

theorem assign1_ok (S : Sound C P ev) (ok : AOk d A) (E : EnvRel ρ H.n ae env) (R : Rel C ρ H s) {t v : Expr} {f : AFlow} (h : sAssign1 ev d ae t v H = .ok (f, H')) {pos : Pos} (hv : isTupE v = false) (hs : swapsWith v (some t) pos.line env = pure false)
    {Q : Flow → Shared → Prop} (k : K C ρ H H' (DF C H' f) Q) : wpAny (model C.prog C.w) A (exec (.Assign [t] v pos) env) Q No s := by
  obtain ⟨⟨a, H1⟩, h1, h⟩ := Res.bind_ok h
  obtain ⟨H2, h2, h⟩ := Res.bind_ok h
  cases h
  refine wpAny_Assign_stores (S.E h1 ok E R fun ρ1 u s1 he1 hn1 R1 du => ?_) (swapSole_one.trans hs) (swapped_none hv)
  rw [each_one h2]
  exact evAsg_ok S ok (E.ext he1 hn1) R1 du h2 fun ρ2 _ s2 he2 hn2 R2 _ => k ρ2 .next s2 (he1.trans he2 hn1) (Nat.le_trans hn1 hn2) R2 rfl

theorem evalThenUse_list {elt : Expr} {gens : List Comprehension} {sc : Scope} {vpos : Pos} {use : Value → Sem Unit} : evalThenUse (.ListComp elt gens sc vpos) env use =
    (do let _ ← comprehension (.ListComp elt gens sc vpos) sc env (firstIterPos gens vpos) (newList []) (firstAsync gens) (firstIter gens env) (some use)) := rfl

theorem assignAll_one {x : Str} {p : Pos} (v : Value) : assignAll v ((assignEach [.Name x p] env).map (·.2)) = assign (.Name x p) env v := rfl

theorem sSwap_ok (S : Sound C P ev) (ok : AOk d A) (E : EnvRel ρ H.n ae env) (R : Rel C ρ H s) {elt : Expr} {gens : List Comprehension} {sc : Scope} {vpos p pos : Pos} {x : Str} {a : AV} (hs : swapsWith (.ListComp elt gens sc vpos) (some (.Name x p)) pos.line env = pure true)
    (h1 : evComp ev d ae elt gens sc (some x) H = .ok (a, H')) {Q : Flow → Shared → Prop} (k : K C ρ H H' (DF C H' .next) Q) : wpAny (model C.prog C.w) A (exec (.Assign [.Name x p] (.ListComp elt gens sc vpos) pos) env) Q No s := by
  rw [exec_Assign_arm]
  refine wpAny_bind (wpAny_standAt ?_)
  rw [swapSole_one, hs]
  refine wpAny_bind (wpAny_pure ?_)
  rw [if_pos rfl, evalThenUse_list]
  refine wpAny_bind ?_
  refine wpAny_bind ?_
  have hu : UseOk env (some x) (some fun v => assignAll v ((assignEach [.Name x p] env).map (·.2))) := ⟨p, assignAll_one⟩
  refine comp_ok (fp := firstIterPos gens vpos) S ok E R h1 hu ?_
  intro ρ1 u s1 he1 hn1 R1 du
  exact wpAny_pure (wpAny_pure (k ρ1 .next s1 he1 hn1 R1 rfl))

theorem sAssign_ok (S : Sound C P ev) (ok : AOk d A) (E : EnvRel ρ H.n ae env) (R : Rel C ρ H s) {ts : List Expr} {v : Expr} {f : AFlow} (h : sAssign ev d ae ts v H = .ok (f, H')) {pos : Pos}
    {Q : Flow → Shared → Prop} (k : K C ρ H H' (DF C H' f) Q) : wpAny (model C.prog C.w) A (exec (.Assign ts v pos) env) Q No s := by
  cases ts with
  | nil => cases h
  | cons t r =>
    cases r with
    | cons => cases h
    | nil =>
      cases v with
      | ListComp elt gens sc vpos =>
        unfold sAssign at h
        dsimp only at h
        cases hx : swapB ae t vpos sc with
        | some x =>
          rw [hx] at h
          obtain ⟨⟨a, H1⟩, h1, h⟩ := Res.bind_ok h
          cases h
          obtain ⟨p, rfl⟩ := swapB_name hx
          exact sSwap_ok S ok E R (by rw [swapsWith_comp E, hx]; rfl) h1 k
        | none =>
          rw [hx] at h
          refine assign1_ok S ok E R h rfl ?_ k
          cases t with
          | Name x p => rw [swapsWith_comp E, hx]; rfl
          | _ => rfl
      | SetComp => cases h
      | DictComp => cases h
      | Tuple => cases h
      | _ => exact assign1_ok S ok E R h rfl rfl k
end

end Mine
end
section
set_option maxRecDepth 100000
namespace Mine
open PySem PyProof.Rows

section
variable {C : Cx} {P : Prm} {ev : Ev} {A : Around} {ρ : Nat → Addr} {H H' : AH} {s : Shared} {ae : AEnv} {env : Env} {d : Nat}

theorem sAug_ok (F : Facts C P) (S : Sound C P ev) (ok : AOk d A) (E : EnvRel ρ H.n ae env) (R : Rel C ρ H s) {t v : Expr} {o : Operator} {f : AFlow} (h : sAug P ev d ae t o v H = .ok (f, H')) {pos : Pos}
    {Q : Flow → Shared → Prop} (k : K C ρ H H' (DF C H' f) Q) : wpAny (model C.prog C.w) A (exec (.AugAssign t o v pos) env) Q No s := by
  unfold sAug at h
  split at h
  · obtain ⟨a, h0, h⟩ := Res.bind_ok h
    obtain ⟨⟨b, H1⟩, h1, h⟩ := Res.bind_ok h
    obtain ⟨⟨r, H2⟩, h2, h⟩ := Res.bind_ok h
    obtain ⟨H3, h3, h⟩ := Res.bind_ok h
    cases h
    obtain ⟨u, du, hu⟩ := load_ok F E R h0
    refine wpAny_AugAssign_Name (hu ?_)
    refine S.E h1 ok E R fun ρ1 w s1 he1 hn1 R1 dw => ?_
    refine iop_ok F R1 (du.ext he1 hn1) dw h2 fun ρ2 z s2 he2 hn2 R2 dz => ?_
    refine store_ok ((E.ext he1 hn1).ext he2 hn2) R2 dz h3 fun ρ3 _ s3 he3 hn3 R3 _ => ?_
    exact k ρ3 .next s3 ((he1.trans he2 hn1).trans he3 (Nat.le_trans hn1 hn2)) (Nat.le_trans (Nat.le_trans hn1 hn2) hn3) R3 rfl
  · cases h

theorem sExpr_ok (S : Sound C P ev) (ok : AOk d A) (E : EnvRel ρ H.n ae env) (R : Rel C ρ H s) {e : Expr} {f : AFlow} (h : sExpr ev d ae e H = .ok (f, H')) {pos : Pos}
    {Q : Flow → Shared → Prop} (k : K C ρ H H' (DF C H' f) Q) : wpAny (model C.prog C.w) A (exec (.Expr e pos) env) Q No s := by
  unfold sExpr at h
  split at h
  · cases h
  · rename_i hc
    obtain ⟨⟨a, H1⟩, h1, h⟩ := Res.bind_ok h
    have hi : interactive env = false := by
      have hk : env.scope.kind = .function := by rw [E.scope]; exact E.kind
      unfold interactive; rw [hk]; rfl
    have hs : swapsWith e Option.none pos.line env = pure false := by
      cases e with
      | ListComp => exact absurd rfl hc
      | SetComp => exact absurd rfl hc
      | DictComp => exact absurd rfl hc
      | _ => rfl
    refine wpAny_Expr (S.E h1 ok E R fun ρ1 u s1 he1 hn1 R1 du => ?_) hi hs
    cases a with
    | none => cases h; have du : u = .none := du; subst du; exact k ρ1 .next s1 he1 hn1 R1 rfl
    | _ => cases h

theorem sRet_ok (S : Sound C P ev) (ok : AOk d A) (E : EnvRel ρ H.n ae env) (R : Rel C ρ H s) {e : Option Expr} {f : AFlow} (h : sRet ev d ae e H = .ok (f, H')) {pos : Pos}
    {Q : Flow → Shared → Prop} (k : K C ρ H H' (DF C H' f) Q) : wpAny (model C.prog C.w) A (exec (.Return e pos) env) Q No s := by
  unfold sRet at h
  split at h
  · obtain ⟨⟨a, H1⟩, h1, h⟩ := Res.bind_ok h
    cases h
    exact wpAny_Return_some (S.E h1 ok E R fun ρ1 u s1 he1 hn1 R1 du => k ρ1 _ s1 he1 hn1 R1 ⟨u, rfl, du⟩)
  · cases h

theorem sIf_ok (F : Facts C P) (S : Sound C P ev) (ok : AOk d A) (E : EnvRel ρ H.n ae env) (R : Rel C ρ H s) {t : Expr} {b o : List Stmt} {f : AFlow} (h : sIf P ev d ae t b o H = .ok (f, H')) {pos : Pos}
    {Q : Flow → Shared → Prop} (k : K C ρ H H' (DF C H' f) Q) : wpAny (model C.prog C.w) A (exec (.If t b o pos) env) Q No s := by
  obtain ⟨⟨c, H1⟩, h1, h⟩ := Res.bind_ok h
  refine wpAny_If (evC_ok F S ok E R h1 fun ρ1 u s1 he1 hn1 R1 du => ?_)
  have du : u = c := du
  subst du
  cases u with
  | true => exact evSs_ok S ok (E.ext he1 hn1) R1 h (k.step he1 hn1)
  | false => exact evSs_ok S ok (E.ext he1 hn1) R1 h (k.step he1 hn1)

theorem stepW_ok (F : Facts C P) (S : Sound C P ev) (ok : AOk d A) (E : EnvRel ρ H.n ae env) (R : Rel C ρ H s) {t : Expr} {b : List Stmt} {f : AFlow} (h : stepW P ev d ae t b H = .ok (f, H')) {RR : Result → Shared → Prop}
    (k : K C ρ H H' (DF C H' f) (fun u s' => RR (.ok u) s')) : codeAny (model C.prog C.w) A (.whileLoop t b [] env) RR s := by
  obtain ⟨⟨c, H1⟩, h1, h⟩ := Res.bind_ok h
  refine codeAny_of_tree ?_
  show wpAny _ A ((whileTurn t b [] env).onRaise (fun x => do noteFrame x env; theTreesLotGoes x)) _ _ s
  refine wpAny_noted (toE ?_)
  simp only [whileTurn]
  refine wpAny_bind (evC_ok F S ok E R h1 fun ρ1 u s1 he1 hn1 R1 du => ?_)
  have du : u = c := du
  subst du
  cases u with
  | false =>
    cases h
    simp only [Bool.false_eq_true, if_false]
    exact wpAny_bind (wpAny_execs_nil (wpAny_pure (k ρ1 .next s1 he1 hn1 R1 rfl)))
  | true =>
    obtain ⟨⟨g, H2⟩, h2, h⟩ := Res.bind_ok h
    simp only [if_true]
    refine wpAny_bind (evSs_ok S ok (E.ext he1 hn1) R1 h2 fun ρ2 u s2 he2 hn2 R2 du => ?_)
    have hx : Ext H.n ρ ρ2 := he1.trans he2 hn1
    have hn : H.n ≤ H2.n := Nat.le_trans hn1 hn2
    cases g with
    | next => have du : u = .next := du; subst du; exact wpAny_pure ⟨rfl, S.W h ok (E.ext hx hn) R2 (k.step hx hn)⟩
    | cont => have du : u = .cont := du; subst du; exact wpAny_pure ⟨rfl, S.W h ok (E.ext hx hn) R2 (k.step hx hn)⟩
    | brk => have du : u = .brk := du; subst du; cases h; exact wpAny_pure (k ρ2 .next s2 hx hn R2 rfl)
    | ret v => obtain ⟨w, rfl, dw⟩ := du; cases h; exact wpAny_pure (k ρ2 _ s2 hx hn R2 ⟨w, rfl, dw⟩)

theorem stepL_ok (S : Sound C P ev) (ok : AOk d A) (E : EnvRel ρ H.n ae env) (R : Rel C ρ H s) {t : Expr} {b : List Stmt} {it : AV} {iv : Value} (di : Den C.σ ρ H.n it iv) {f : AFlow} (h : stepL ev d ae t it b H = .ok (f, H')) {RR : Result → Shared → Prop}
    (k : K C ρ H H' (DF C H' f) (fun u s' => RR (.ok u) s')) : codeAny (model C.prog C.w) A (.forLoop t iv b [] env) RR s := by
  obtain ⟨⟨x, H1⟩, h1, h⟩ := Res.bind_ok h
  refine codeAny_of_tree ?_
  show wpAny _ A ((forTurn t iv b [] env).onRaise (fun x => do noteFrame x env; theTreesLotGoes x)) _ _ s
  refine wpAny_noted (toE ?_)
  simp only [forTurn]
  refine wpAny_bind (wpAny_standAt (wpAny_bind (wpAny_onRaise (wpAny_mono (nextOf_ok (Q := fun r s1 => ∃ ρ1, Ext H.n ρ ρ1 ∧ H.n ≤ H1.n ∧ Rel C ρ1 H1 s1 ∧ DO C H1 x ρ1 r) R ok.handled di h1 fun ρ1 u s1 he1 hn1 R1 du => ⟨ρ1, he1, hn1, R1, du⟩)
    (fun r s1 h1 => ?_) fun _ _ f => f.elim))))
  obtain ⟨ρ1, he1, hn1, R1, du⟩ := h1
  cases x with
  | none =>
    cases r with
    | some _ => exact du.elim
    | none =>
      cases h
      exact wpAny_pure ⟨rfl, codeAny_block (wpAny_execs_nil (k ρ1 .next s1 he1 hn1 R1 rfl))⟩
  | some v =>
    cases r with
    | none => exact du.elim
    | some u =>
      have du : Den C.σ ρ1 H1.n v u := du
      have h : lTurn ev d ae t it b v H1 = .ok (f, H') := h
      unfold lTurn at h
      split at h
      · rename_i hown
        obtain ⟨H2, h2, h⟩ := Res.bind_ok h
        obtain ⟨⟨g, H3⟩, h3, h⟩ := Res.bind_ok h
        have E1 := E.ext he1 hn1
        refine wpAny_bind (letOwned_ok R1 (di.ext he1 hn1) hown ?_)
        refine wpAny_bind (evAsg_ok S ok E1 R1 du h2 fun ρ2 _ s2 he2 hn2 R2 _ => ?_)
        refine wpAny_bind (evSs_ok S ok (E1.ext he2 hn2) R2 h3 fun ρ3 u s3 he3 hn3 R3 du => ?_)
        have hx : Ext H.n ρ ρ3 := (he1.trans he2 hn1).trans he3 (Nat.le_trans hn1 hn2)
        have hn : H.n ≤ H3.n := Nat.le_trans (Nat.le_trans hn1 hn2) hn3
        cases g with
        | next => have du : u = .next := du; subst du; exact wpAny_pure ⟨rfl, S.L h ok (E.ext hx hn) R3 (di.ext hx hn) (k.step hx hn)⟩
        | cont => have du : u = .cont := du; subst du; exact wpAny_pure ⟨rfl, S.L h ok (E.ext hx hn) R3 (di.ext hx hn) (k.step hx hn)⟩
        | brk => have du : u = .brk := du; subst du; cases h; exact wpAny_pure (k ρ3 .next s3 hx hn R3 rfl)
        | ret v => obtain ⟨w, rfl, dw⟩ := du; cases h; exact wpAny_pure (k ρ3 _ s3 hx hn R3 ⟨w, rfl, dw⟩)
      · cases h

theorem stepS_ok (F : Facts C P) (S : Sound C P ev) (ok : AOk d A) (E : EnvRel ρ H.n ae env) (R : Rel C ρ H s) {st : Stmt} {f : AFlow} (h : stepS P ev d ae st H = .ok (f, H'))
    {Q : Flow → Shared → Prop} (k : K C ρ H H' (DF C H' f) Q) : wpAny (model C.prog C.w) A (exec st env) Q No s := by
  cases st with
  | Assign ts v p => exact sAssign_ok S ok E R h k
  | AugAssign t o v p => exact sAug_ok F S ok E R h k
  | Expr e p => exact sExpr_ok S ok E R h k
  | Return e p => exact sRet_ok S ok E R h k
  | If t b o p => exact sIf_ok F S ok E R h k
  | While t b o p =>
    have h : sWhile ev d ae t b o H = .ok (f, H') := h
    unfold sWhile at h
    split at h
    · refine wpAny_While ?_
      exact S.W h ok E R k
    · cases h
  | For t it b o p =>
    have h : sFor ev d ae t it b o H = .ok (f, H') := h
    unfold sFor at h
    split at h
    · split at h
      · cases h
      · rename_i hset
        obtain ⟨⟨a, H1⟩, h1, h⟩ := Res.bind_ok h
        obtain ⟨⟨i, H2⟩, h2, h⟩ := Res.bind_ok h
        refine wpAny_For (S.E h1 ok E R fun ρ1 u s1 he1 hn1 R1 du => ?_) (folded_ok (by simpa using hset))
        refine iterOf_ok R1 du h2 fun ρ2 w s2 he2 hn2 R2 dw => ?_
        have hx : Ext H.n ρ ρ2 := he1.trans he2 hn1
        have hn : H.n ≤ H2.n := Nat.le_trans hn1 hn2
        exact S.L h ok (E.ext hx hn) R2 dw (k.step hx hn)
    · cases h
  | _ => cases h

theorem stepE_ok (F : Facts C P) (S : Sound C P ev) (ok : AOk d A) (E : EnvRel ρ H.n ae env) (R : Rel C ρ H s) {e : Expr} {v : AV} (h : stepE P ev d ae e H = .ok (v, H'))
    {Q : Value → Shared → Prop} (k : K C ρ H H' (DV C H' v) Q) : wpAny (model C.prog C.w) A (eval e env) Q No s := by
  unfold stepE at h
  cases hv : P.hk e ae H with
  | some v' =>
    rw [hv] at h
    cases h
    exact F.hk e ae H _ hv d ρ s A env Q R E ok fun h' tk u hh du => k ρ u _ (Ext.refl _ _) (Nat.le_refl _) (R.heapTok hh) du
  | none =>
    rw [hv] at h
    clear hv
    cases e with
    | Constant c x p => exact eConst_ok R h k
    | Name x p => exact eName_ok F E R h k
    | BinOp l o r p => exact eBin_ok F S ok E R h k
    | Compare l os rs p => exact eCmp_ok F S ok E R h k
    | BoolOp o es p => exact eBool_ok F S ok E R h k
    | IfExp t b o p => exact eIf_ok F S ok E R h k
    | List es p => exact eList_ok S ok E R h k
    | Tuple es x p => exact eTuple_ok S ok E R h k
    | ListComp elt gens sc p =>
      rw [eval_ListComp]
      exact comp_ok (use := Option.none) S ok E R h trivial k
    | Call f args ks pos => exact eCall_ok F S ok E R h k
    | Subscript v i p => exact eSub_ok S ok E R h k
    | _ => cases h
end

theorem step_sound {C : Cx} {P : Prm} {ev : Ev} (F : Facts C P) (S : Sound C P ev) : Sound C P (stepEv P ev) where
  E := fun h ok E R k => stepE_ok F S ok E R h k
  S := fun h ok E R k => stepS_ok F S ok E R h k
  L := fun h ok E R di k => stepL_ok S ok E R di h k
  W := fun h ok E R k => stepW_ok F S ok E R h k
  G := fun h hgs hk ok E R di hacc k => stepG_ok F S ok E R hgs hk hacc di h k

theorem bot_sound {C : Cx} {P : Prm} : Sound C P botEv where
  E := fun h => by cases h
  S := fun h => by cases h
  L := fun h => by cases h
  W := fun h => by cases h
  G := fun h => by cases h

theorem ev_sound {C : Cx} {P : Prm} (F : Facts C P) : ∀ n, Sound C P (evN P n)
  | 0 => bot_sound
  | n + 1 => step_sound F (ev_sound F n)

/-- a call evaluated is a call made -/
theorem call_sound {C : Cx} {P : Prm} (F : Facts C P) (n : Nat) {d a : Nat} {args : List AV} {H H' : AH} {v : AV} (h : evF P (evN P n) d a args H = .ok (v, H')) {ρ : Nat → Addr} {s : Shared} {A : Around} {vals : List Value} {Q : Value → Shared → Prop}
    (R : Rel C ρ H s) (da : DenL C.σ ρ H.n args vals) (ok : AOk (d + 1) A) (k : K C ρ H H' (DV C H' v) Q) : wpAny (model C.prog C.w) A (call (.ref a) vals) Q No s :=
  evF_ok F (ev_sound F n) ok R da h k

end Mine
end
section
set_option maxRecDepth 100000
namespace Mine
open PySem PyProof.Rows

/-! ## terms of least and greatest alone: equal if equal on 0 and 1 -/
/-- only var 0..5, lit 0, max and min -/
noncomputable def T.lat : T → Bool
  | .lit n => n == 0
  | .var k => Nat.blt k 6
  | .iop .max a b => a.lat && b.lat
  | .iop .min a b => a.lat && b.lat
  | _ => false
/-- the six sides on the 64 assignments, and bit 64 for "all of them" -/
noncomputable def vmask (k : Nat) : Nat := match k with
  | 0 => 0x1AAAAAAAAAAAAAAAA
  | 1 => 0x1CCCCCCCCCCCCCCCC
  | 2 => 0x1F0F0F0F0F0F0F0F0
  | 3 => 0x1FF00FF00FF00FF00
  | 4 => 0x1FFFF0000FFFF0000
  | _ => 0x1FFFFFFFF00000000
noncomputable def T.m : T → Nat
  | .lit _ => 0x10000000000000000
  | .var k => vmask k
  | .iop .max a b => Nat.lor a.m b.m
  | .iop .min a b => Nat.land a.m b.m
  | _ => 0

/-- the assignment that a threshold makes -/
noncomputable def asg (σ : Nat → Int) (t : Int) : Nat := if t ≤ 0 then 64 else
  (if t ≤ σ 0 then 1 else 0) + (if t ≤ σ 1 then 2 else 0) + (if t ≤ σ 2 then 4 else 0) + (if t ≤ σ 3 then 8 else 0) + (if t ≤ σ 4 then 16 else 0) + (if t ≤ σ 5 then 32 else 0)

theorem vmask_bits : ∀ b0 b1 b2 b3 b4 b5 : Bool, ∀ k < 6, (vmask k).testBit ((cond b0 1 0) + (cond b1 2 0) + (cond b2 4 0) + (cond b3 8 0) + (cond b4 16 0) + (cond b5 32 0)) =
    (match k with | 0 => b0 | 1 => b1 | 2 => b2 | 3 => b3 | 4 => b4 | _ => b5) := by decide +kernel
theorem vmask_all : ∀ k < 6, (vmask k).testBit 64 = true := by decide +kernel
theorem zmask : ∀ b0 b1 b2 b3 b4 b5 : Bool, (0x10000000000000000).testBit ((cond b0 1 0) + (cond b1 2 0) + (cond b2 4 0) + (cond b3 8 0) + (cond b4 16 0) + (cond b5 32 0)) = false := by decide +kernel

theorem ite_cond (p : Prop) [Decidable p] (a b : Nat) : (if p then a else b) = cond (decide p) a b := by by_cases h : p <;> simp [h]

theorem vmask_asg {σ : Nat → Int} (h0 : ∀ k < 6, 0 ≤ σ k) (t : Int) {k : Nat} (hk : k < 6) : (vmask k).testBit (asg σ t) = decide (t ≤ σ k) := by
  unfold asg
  by_cases ht : t ≤ 0
  · rw [if_pos ht, vmask_all k hk]
    have := h0 k hk
    simp; omega
  · rw [if_neg ht]
    simp only [ite_cond]
    rw [vmask_bits _ _ _ _ _ _ k hk]
    match k, hk with
    | 0, _ => rfl
    | 1, _ => rfl
    | 2, _ => rfl
    | 3, _ => rfl
    | 4, _ => rfl
    | 5, _ => rfl
theorem zmask_asg {σ : Nat → Int} (t : Int) : (0x10000000000000000).testBit (asg σ t) = decide (t ≤ 0) := by
  unfold asg
  by_cases ht : t ≤ 0
  · rw [if_pos ht, decide_eq_true ht]; decide +kernel
  · rw [if_neg ht]
    simp only [ite_cond]
    rw [zmask]; simp [ht]

theorem lat_bit {σ : Nat → Int} (h0 : ∀ k < 6, 0 ≤ σ k) (t : Int) : ∀ {e : T}, e.lat = true → e.m.testBit (asg σ t) = decide (t ≤ e.i σ) := by
  intro e
  induction e with
  | lit n =>
    intro h
    have : n = 0 := by simpa [T.lat] using h
    subst this
    exact zmask_asg t
  | var k =>
    intro h
    exact vmask_asg h0 t (by simpa [T.lat, Nat.blt_eq] using h)
  | iop o a b ha hb =>
    intro h
    cases o with
    | max =>
      simp only [T.lat, Bool.and_eq_true] at h
      show (Nat.lor a.m b.m).testBit _ = decide (t ≤ if b.i σ > a.i σ then b.i σ else a.i σ)
      rw [show Nat.lor a.m b.m = a.m ||| b.m from rfl, Nat.testBit_or, ha h.1, hb h.2]
      rw [Bool.eq_iff_iff]; simp only [Bool.or_eq_true, decide_eq_true_eq]
      split <;> omega
    | min =>
      simp only [T.lat, Bool.and_eq_true] at h
      show (Nat.land a.m b.m).testBit _ = decide (t ≤ if b.i σ < a.i σ then b.i σ else a.i σ)
      rw [show Nat.land a.m b.m = a.m &&& b.m from rfl, Nat.testBit_and, ha h.1, hb h.2]
      rw [Bool.eq_iff_iff]; simp only [Bool.and_eq_true, decide_eq_true_eq]
      split <;> omega
    | _ => simp [T.lat] at h
  | _ => intro h; simp [T.lat] at h

/-- terms of one mask are equal -/
theorem lat_eq {σ : Nat → Int} (h0 : ∀ k < 6, 0 ≤ σ k) {a b : T} (ha : a.lat = true) (hb : b.lat = true) (hm : Nat.beq a.m b.m = true) : a.i σ = b.i σ := by
  have hm := Nat.eq_of_beq_eq_true hm
  have key : ∀ t : Int, t ≤ a.i σ ↔ t ≤ b.i σ := fun t => by
    have h1 := lat_bit h0 t ha
    have h2 := lat_bit h0 t hb
    rw [hm, h2] at h1
    have := decide_eq_decide.mp h1
    exact this.symm
  have h1 := (key (a.i σ)).mp (Int.le_refl _)
  have h2 := (key (b.i σ)).mpr (Int.le_refl _)
  omega

noncomputable def latTbl (c : Cond) : Option Bool := match c with
  | .ieq a b => if a.lat && b.lat && Nat.beq a.m b.m then some true else Option.none
  | _ => Option.none
theorem latTbl_ok {σ : Nat → Int} (h0 : ∀ k < 6, 0 ≤ σ k) {c : Cond} {b : Bool} (h : latTbl c = some b) : c.holds σ = b := by
  unfold latTbl at h
  split at h
  · split at h
    · rename_i hc
      cases h
      simp only [Bool.and_eq_true] at hc
      show (_ == _) = true
      rw [lat_eq h0 hc.1.1 hc.1.2 hc.2]; simp
    · cases h
  · cases h

/-! ## the settling -/
/-- the three sides of a phase -/
noncomputable def tri (ph : Nat) : Nat × Nat × Nat := match ph with
  | 0 => (3, 4, 5)
  | 1 => (1, 2, 5)
  | 2 => (0, 2, 4)
  | _ => (0, 1, 3)
/-- a turn of the settling, on terms -/
noncomputable def turnT (ph : Nat) (v : Nat → T) : Nat → T := fun n =>
  let t := tri ph
  if n = t.1 then .iop .min (v t.1) (.iop .max (v t.2.1) (v t.2.2))
  else if n = t.2.1 then .iop .min (v t.2.1) (.iop .max (v t.1) (v t.2.2))
  else if n = t.2.2 then .iop .min (v t.2.2) (.iop .max (v t.1) (v t.2.1)) else v n
noncomputable def imn (a b : Int) : Int := if b < a then b else a
noncomputable def imx (a b : Int) : Int := if b > a then b else a
/-- a turn on numbers -/
noncomputable def turnI (ph : Nat) (x : Nat → Int) : Nat → Int := fun n =>
  let t := tri ph
  if n = t.1 then imn (x t.1) (imx (x t.2.1) (x t.2.2))
  else if n = t.2.1 then imn (x t.2.1) (imx (x t.1) (x t.2.2))
  else if n = t.2.2 then imn (x t.2.2) (imx (x t.1) (x t.2.1)) else x n
noncomputable def turnsT (f : Nat) : Nat → (Nat → T)
  | 0 => T.var
  | k + 1 => turnT ((f + k) % 4) (turnsT f k)
noncomputable def turnsI (f : Nat) (x : Nat → Int) : Nat → (Nat → Int)
  | 0 => x
  | k + 1 => turnI ((f + k) % 4) (turnsI f x k)
theorem turnsT_i (f : Nat) (x : Nat → Int) : ∀ k n, (turnsT f k n).i x = turnsI f x k n
  | 0, n => rfl
  | k + 1, n => by
    show (turnT _ _ n).i x = turnI _ _ n
    unfold turnT turnI
    simp only
    split
    · show imn _ (imx _ _) = _; rw [turnsT_i f x k, turnsT_i f x k, turnsT_i f x k]
    · split
      · show imn _ (imx _ _) = _; rw [turnsT_i f x k, turnsT_i f x k, turnsT_i f x k]
      · split
        · show imn _ (imx _ _) = _; rw [turnsT_i f x k, turnsT_i f x k, turnsT_i f x k]
        · exact turnsT_i f x k n

/-- the least of the greatest sides of the roads -/
noncomputable def roads (n : Nat) : List (List Nat) := match n with
  | 0 => [[0], [1, 3], [2, 4], [1, 5, 4], [2, 5, 3]]
  | 1 => [[1], [0, 3], [2, 5], [0, 4, 5], [2, 4, 3]]
  | 2 => [[2], [0, 4], [1, 5], [0, 3, 5], [1, 3, 4]]
  | 3 => [[3], [0, 1], [4, 5], [0, 2, 5], [4, 2, 1]]
  | 4 => [[4], [0, 2], [3, 5], [0, 1, 5], [3, 1, 2]]
  | _ => [[5], [1, 2], [3, 4], [1, 0, 4], [3, 0, 2]]
noncomputable def maxT : List Nat → T
  | [] => .lit 0
  | a :: r => r.foldl (fun t k => .iop .max t (.var k)) (.var a)
noncomputable def lowT (n : Nat) : T := match roads n with
  | [] => .lit 0
  | p :: r => r.foldl (fun t p => .iop .min t (maxT p)) (maxT p)
noncomputable def settleCheck : Bool := (List.range 4).all fun f => (List.range 6).all fun n => (turnsT f 8 n).lat && ((lowT n).lat && Nat.beq (turnsT f 8 n).m (lowT n).m)
theorem settleCheck_ok : settleCheck = true := by decide +kernel
theorem settle_low {x : Nat → Int} (h0 : ∀ k < 6, 0 ≤ x k) {f n : Nat} (hf : f < 4) (hn : n < 6) : turnsI f x 8 n = (lowT n).i x := by
  have h := settleCheck_ok
  unfold settleCheck at h
  have h1 := List.all_eq_true.mp h f (List.mem_range.mpr hf)
  have h2 := List.all_eq_true.mp h1 n (List.mem_range.mpr hn)
  simp only [Bool.and_eq_true] at h2
  rw [← turnsT_i]
  exact lat_eq h0 h2.1 h2.2.1 h2.2.2
end Mine
end
section
set_option maxRecDepth 100000
namespace Mine
open PySem PyProof.Rows

noncomputable def defAt (k : Nat) : Option Fn := match PySem.Challenge.pw_tr0002_01.main.body[k]? with
  | some (.FunctionDef _ a b _ _ _ sc _ _ _) => some ⟨a.args.map (·.arg), sc, b⟩
  | _ => Option.none
noncomputable def fnTab (a : Nat) : Option Fn := match a with
  | 44 => defAt 3 | 51 => defAt 5 | 58 => defAt 7 | 63 => defAt 9 | 70 => defAt 10 | 75 => defAt 11
  | 80 => defAt 12 | 85 => defAt 13 | 90 => defAt 14 | 97 => defAt 15 | 102 => defAt 16 | _ => Option.none
noncomputable def globTab : List (Str × AV) := [("_quoted", .gl 36), ("_paren_depth", .gl 44), ("rgb_to_hsv", .gl 51), ("_parse_varint", .gl 58), ("_law_read", .gl 63), ("_law_square", .gl 70), ("_law_falls", .gl 75),
  ("_law_settle", .gl 80), ("_law_widest", .gl 85), ("_law_miss", .gl 90), ("_law_trees", .gl 97), ("max", .bi .max), ("min", .bi .min), ("sum", .bi .sum), ("next", .bi .next), ("iter", .bi .iter),
  ("range", .bi .range), ("bytes", .bi .bytes), ("int", .bi .int)]

/-- the pieces that the misses weigh, the quoted parts struck -/
noncomputable def leafs : List (List Nat) := [[34, 40, 34], [34, 41, 34], [34, 40, 40, 34], [34, 97, 92, 34, 41, 34]]
noncomputable def subs : List (List Nat × List Nat) := leafs.flatMap fun l => [(3, 0), (2, 0), (0, 1), (0, 2), (1, 0), (0, 0)].map fun (o, c) =>
  (List.replicate o 40 ++ l ++ List.replicate c 41 ++ [32], List.replicate o 40 ++ List.replicate c 41 ++ [32])
noncomputable def lookN {α : Type} (b : List Nat) : List (List Nat × α) → Option α
  | [] => Option.none
  | (x, r) :: t => bif eqNs b x then some r else lookN b t
noncomputable def subF (b : List Nat) : Option (List Nat) := lookN b subs
noncomputable def cnts : List (List Nat × List Nat) := [(3, 0), (2, 0), (0, 1), (0, 2), (1, 0), (0, 0)].map fun (o, c) => (List.replicate o 40 ++ List.replicate c 41 ++ [32], [o, c])
noncomputable def cntF (b : List Nat) (c : Nat) : Option Nat := match lookN b cnts with
  | some [o, s] => bif Nat.beq c 40 then some o else bif Nat.beq c 41 then some s else Option.none
  | _ => Option.none
noncomputable def prm (t : Cond → Option Bool) (sd : Nat) (sp : Nat → List AV → AH → Option (AV × AH)) : Prm := ⟨t, fun _ _ _ => Option.none, fun x => look x globTab, fnTab, subF, cntF, sd, sp⟩
noncomputable def noSpec : Nat → List AV → AH → Option (AV × AH) := fun _ _ _ => Option.none

/-- the square of six terms, frozen -/
noncomputable def fsquare (v : Nat → T) : List AO := [.flist [.int (.lit 0), .int (v 0), .int (v 1), .int (v 2)], .flist [.int (v 0), .int (.lit 0), .int (v 3), .int (v 4)],
  .flist [.int (v 1), .int (v 3), .int (.lit 0), .int (v 5)], .flist [.int (v 2), .int (v 4), .int (v 5), .int (.lit 0)], .flist [.obj 0, .obj 1, .obj 2, .obj 3]]
noncomputable def runOn (P : Prm) (n a : Nat) (args : List AV) (os : List AO) : Res (AV × AH) := (AH.of os).bind fun H => evF P (evN P n) 12 a args H
end Mine
end
section
set_option maxRecDepth 100000
namespace Mine
open PySem PyProof.Rows

/-! ## the law of the misses -/
/-- the gaps of the fifteen trees: the sides within, the sides across -/
noncomputable def trees : List (List (List Nat × List Nat)) := [
  [([0], [0]), ([0, 1, 3], [1, 3]), ([0, 1, 3, 2, 4, 5], [2, 4, 5])],
  [([0], [0]), ([0, 1, 3, 2, 4, 5], [1, 2, 3, 4]), ([5], [5])],
  [([0], [0]), ([0, 2, 4], [2, 4]), ([0, 2, 4, 1, 3, 5], [1, 3, 5])],
  [([1], [1]), ([1, 0, 3], [0, 3]), ([1, 0, 3, 2, 5, 4], [2, 5, 4])],
  [([1], [1]), ([1, 0, 3, 2, 5, 4], [0, 2, 3, 5]), ([4], [4])],
  [([1], [1]), ([1, 2, 5], [2, 5]), ([1, 2, 5, 0, 3, 4], [0, 3, 4])],
  [([2], [2]), ([2, 0, 4], [0, 4]), ([2, 0, 4, 1, 5, 3], [1, 5, 3])],
  [([2], [2]), ([2, 0, 4, 1, 5, 3], [0, 1, 4, 5]), ([3], [3])],
  [([2], [2]), ([2, 1, 5], [1, 5]), ([2, 1, 5, 0, 4, 3], [0, 4, 3])],
  [([3], [3]), ([3, 0, 1], [0, 1]), ([3, 0, 1, 4, 5, 2], [4, 5, 2])],
  [([3], [3]), ([3, 4, 5], [4, 5]), ([3, 4, 5, 0, 1, 2], [0, 1, 2])],
  [([4], [4]), ([4, 0, 2], [0, 2]), ([4, 0, 2, 3, 5, 1], [3, 5, 1])],
  [([4], [4]), ([4, 3, 5], [3, 5]), ([4, 3, 5, 0, 2, 1], [0, 2, 1])],
  [([5], [5]), ([5, 1, 2], [1, 2]), ([5, 1, 2, 3, 4, 0], [3, 4, 0])],
  [([5], [5]), ([5, 3, 4], [3, 4]), ([5, 3, 4, 1, 2, 0], [1, 2, 0])]]
noncomputable def minT : List Nat → T
  | [] => .lit 0
  | a :: r => r.foldl (fun t k => .iop .min t (.var k)) (.var a)
noncomputable def missT (gs : List (List Nat × List Nat)) : T := gs.foldl (fun t g => .iop .max t (.iop .sub (maxT g.1) (minT g.2))) (.lit 0)

/-- a list of greatest or least: one of them, and bounded by each -/
theorem fold_max {α : Type} (σ : Nat → Int) (f : α → T) : ∀ (r : List α) (a : T), ((r.foldl (fun t k => T.iop .max t (f k)) a).i σ = a.i σ ∨ ∃ k ∈ r, (r.foldl (fun t k => T.iop .max t (f k)) a).i σ = (f k).i σ) ∧
    a.i σ ≤ (r.foldl (fun t k => T.iop .max t (f k)) a).i σ ∧ ∀ k ∈ r, (f k).i σ ≤ (r.foldl (fun t k => T.iop .max t (f k)) a).i σ
  | [], a => ⟨.inl rfl, Int.le_refl _, fun k h => nomatch h⟩
  | x :: r, a => by
    rw [List.foldl_cons]
    obtain ⟨h1, h2, h3⟩ := fold_max σ f r (.iop .max a (f x))
    have e : (T.iop .max a (f x)).i σ = if (f x).i σ > a.i σ then (f x).i σ else a.i σ := rfl
    refine ⟨?_, ?_, ?_⟩
    · rcases h1 with h1 | ⟨k, hk, h1⟩
      · rw [e] at h1
        split at h1
        · exact .inr ⟨x, List.mem_cons_self, h1⟩
        · exact .inl h1
      · exact .inr ⟨k, List.mem_cons_of_mem _ hk, h1⟩
    · rw [e] at h2; split at h2 <;> omega
    · intro k hk
      rcases List.mem_cons.mp hk with rfl | hk
      · rw [e] at h2; split at h2 <;> omega
      · exact h3 k hk
theorem fold_min {α : Type} (σ : Nat → Int) (f : α → T) : ∀ (r : List α) (a : T), ((r.foldl (fun t k => T.iop .min t (f k)) a).i σ = a.i σ ∨ ∃ k ∈ r, (r.foldl (fun t k => T.iop .min t (f k)) a).i σ = (f k).i σ) ∧
    (r.foldl (fun t k => T.iop .min t (f k)) a).i σ ≤ a.i σ ∧ ∀ k ∈ r, (r.foldl (fun t k => T.iop .min t (f k)) a).i σ ≤ (f k).i σ
  | [], a => ⟨.inl rfl, Int.le_refl _, fun k h => nomatch h⟩
  | x :: r, a => by
    rw [List.foldl_cons]
    obtain ⟨h1, h2, h3⟩ := fold_min σ f r (.iop .min a (f x))
    have e : (T.iop .min a (f x)).i σ = if (f x).i σ < a.i σ then (f x).i σ else a.i σ := rfl
    refine ⟨?_, ?_, ?_⟩
    · rcases h1 with h1 | ⟨k, hk, h1⟩
      · rw [e] at h1
        split at h1
        · exact .inr ⟨x, List.mem_cons_self, h1⟩
        · exact .inl h1
      · exact .inr ⟨k, List.mem_cons_of_mem _ hk, h1⟩
    · rw [e] at h2; split at h2 <;> omega
    · intro k hk
      rcases List.mem_cons.mp hk with rfl | hk
      · rw [e] at h2; split at h2 <;> omega
      · exact h3 k hk

theorem maxT_ge (σ : Nat → Int) {l : List Nat} {k : Nat} (h : k ∈ l) : σ k ≤ (maxT l).i σ := by
  cases l with
  | nil => cases h
  | cons a r =>
    obtain ⟨_, h2, h3⟩ := fold_max σ T.var r (.var a)
    rcases List.mem_cons.mp h with rfl | h
    · exact h2
    · exact h3 k h
theorem maxT_in (σ : Nat → Int) {l : List Nat} (h : l ≠ []) : ∃ k ∈ l, (maxT l).i σ = σ k := by
  cases l with
  | nil => exact absurd rfl h
  | cons a r =>
    rcases (fold_max σ T.var r (.var a)).1 with h1 | ⟨k, hk, h1⟩
    · exact ⟨a, List.mem_cons_self, h1⟩
    · exact ⟨k, List.mem_cons_of_mem _ hk, h1⟩
theorem minT_le (σ : Nat → Int) {l : List Nat} {k : Nat} (h : k ∈ l) : (minT l).i σ ≤ σ k := by
  cases l with
  | nil => cases h
  | cons a r =>
    obtain ⟨_, h2, h3⟩ := fold_min σ T.var r (.var a)
    rcases List.mem_cons.mp h with rfl | h
    · exact h2
    · exact h3 k h
theorem minT_in (σ : Nat → Int) {l : List Nat} (h : l ≠ []) : ∃ k ∈ l, (minT l).i σ = σ k := by
  cases l with
  | nil => exact absurd rfl h
  | cons a r =>
    rcases (fold_min σ T.var r (.var a)).1 with h1 | ⟨k, hk, h1⟩
    · exact ⟨a, List.mem_cons_self, h1⟩
    · exact ⟨k, List.mem_cons_of_mem _ hk, h1⟩
theorem lowT_le (σ : Nat → Int) {n : Nat} {p : List Nat} (h : p ∈ roads n) : (lowT n).i σ ≤ (maxT p).i σ := by
  unfold lowT
  cases hr : roads n with
  | nil => rw [hr] at h; cases h
  | cons q r =>
    rw [hr] at h
    obtain ⟨_, h2, h3⟩ := fold_min σ maxT r (maxT q)
    rcases List.mem_cons.mp h with rfl | h
    · exact h2
    · exact h3 p h
theorem lowT_in (σ : Nat → Int) (n : Nat) : ∃ p ∈ roads n, (lowT n).i σ = (maxT p).i σ := by
  unfold lowT
  cases hr : roads n with
  | nil => unfold roads at hr; split at hr <;> cases hr
  | cons q r =>
    rcases (fold_min σ maxT r (maxT q)).1 with h1 | ⟨k, hk, h1⟩
    · exact ⟨q, List.mem_cons_self, h1⟩
    · exact ⟨k, List.mem_cons_of_mem _ hk, h1⟩
theorem missT_ge (σ : Nat → Int) {gs : List (List Nat × List Nat)} {g : List Nat × List Nat} (h : g ∈ gs) : (maxT g.1).i σ - (minT g.2).i σ ≤ (missT gs).i σ :=
  (fold_max σ (fun g : List Nat × List Nat => T.iop .sub (maxT g.1) (minT g.2)) gs (.lit 0)).2.2 g h
theorem missT_ge0 (σ : Nat → Int) (gs : List (List Nat × List Nat)) : 0 ≤ (missT gs).i σ :=
  (fold_max σ (fun g : List Nat × List Nat => T.iop .sub (maxT g.1) (minT g.2)) gs (.lit 0)).2.1
theorem missT_in (σ : Nat → Int) (gs : List (List Nat × List Nat)) : (missT gs).i σ = 0 ∨ ∃ g ∈ gs, (missT gs).i σ = (maxT g.1).i σ - (minT g.2).i σ :=
  (fold_max σ (fun g : List Nat × List Nat => T.iop .sub (maxT g.1) (minT g.2)) gs (.lit 0)).1

noncomputable def geCheck : Bool := trees.all fun gs => (List.range 6).all fun n => (roads n).all fun p => gs.any fun g => g.1.contains n && p.any fun e => g.2.contains e
theorem geCheck_ok : geCheck = true := by decide +kernel
/-- no tree misses less than a side falls -/
theorem miss_ge (σ : Nat → Int) {gs : List (List Nat × List Nat)} (hg : gs ∈ trees) {n : Nat} (hn : n < 6) : σ n - (lowT n).i σ ≤ (missT gs).i σ := by
  obtain ⟨p, hp, e⟩ := lowT_in σ n
  have h := geCheck_ok
  unfold geCheck at h
  have h := List.all_eq_true.mp (List.all_eq_true.mp (List.all_eq_true.mp h gs hg) n (List.mem_range.mpr hn)) p hp
  obtain ⟨g, hgm, h⟩ := List.any_eq_true.mp h
  rw [Bool.and_eq_true] at h
  obtain ⟨f, hf, h2⟩ := List.any_eq_true.mp h.2
  have h1 := maxT_ge σ (List.contains_iff_mem.mp h.1)
  have h2 := minT_le σ (List.contains_iff_mem.mp h2)
  have h3 := maxT_ge σ hf
  have h4 := missT_ge σ hgm
  omega

noncomputable def leCheck : Bool := (List.range 6).all fun e1 => (List.range 6).all fun e2 => e1 == e2 || trees.any fun gs => gs.all fun g => !g.1.isEmpty && (!g.2.isEmpty && g.1.all fun n => Nat.blt n 6 && g.2.all fun e => Nat.blt e 6 && (roads n).any fun p => !p.isEmpty && p.all fun f => f == e1 || (f == e || (f == e2 && e != e1)))
theorem leCheck_ok : leCheck = true := by decide +kernel

theorem least_of (x : Nat → Int) : ∀ (l : List Nat), l ≠ [] → ∃ k ∈ l, ∀ j ∈ l, x k ≤ x j
  | [a], _ => ⟨a, List.mem_cons_self, fun j hj => by rcases List.mem_cons.mp hj with rfl | h; exact Int.le_refl _; cases h⟩
  | a :: b :: r, _ => by
    obtain ⟨k, hk, h⟩ := least_of x (b :: r) (by simp)
    by_cases hc : x a ≤ x k
    · refine ⟨a, List.mem_cons_self, fun j hj => ?_⟩
      rcases List.mem_cons.mp hj with rfl | hj
      · exact Int.le_refl _
      · exact Int.le_trans hc (h j hj)
    · refine ⟨k, List.mem_cons_of_mem _ hk, fun j hj => ?_⟩
      rcases List.mem_cons.mp hj with rfl | hj
      · omega
      · exact h j hj

/-- a tree misses no more than the greatest fall -/
theorem miss_le (σ : Nat → Int) {m : Int} (h0 : 0 ≤ m) (hm : ∀ n < 6, σ n - (lowT n).i σ ≤ m) : ∃ gs ∈ trees, (missT gs).i σ ≤ m := by
  obtain ⟨e1, he1, h1⟩ := least_of σ (List.range 6) (by decide)
  obtain ⟨e2, he2, h2⟩ := least_of σ ((List.range 6).filter (· != e1)) (by
    have := List.mem_range.mp he1
    match e1, this with
    | 0, _ => decide
    | 1, _ => decide
    | 2, _ => decide
    | 3, _ => decide
    | 4, _ => decide
    | 5, _ => decide)
  rw [List.mem_filter] at he2
  have h := leCheck_ok
  unfold leCheck at h
  have h := List.all_eq_true.mp (List.all_eq_true.mp h e1 he1) e2 he2.1
  rw [Bool.or_eq_true] at h
  have hne : e2 ≠ e1 := by simpa using he2.2
  rcases h with h | h
  · exact absurd (by simpa using h) (Ne.symm hne)
  obtain ⟨gs, hgs, h⟩ := List.any_eq_true.mp h
  refine ⟨gs, hgs, ?_⟩
  rcases missT_in σ gs with e | ⟨g, hg, e⟩
  · omega
  have h := List.all_eq_true.mp h g hg
  rw [Bool.and_eq_true, Bool.and_eq_true] at h
  obtain ⟨n, hn, en⟩ := maxT_in σ (l := g.1) (fun e => by rw [e] at h; exact absurd h.1 (by decide))
  obtain ⟨c, hc, ec⟩ := minT_in σ (l := g.2) (fun e => by rw [e] at h; exact absurd h.2.1 (by decide))
  have h := List.all_eq_true.mp h.2.2 n hn
  rw [Bool.and_eq_true] at h
  have hn6 : n < 6 := by simpa [Nat.blt_eq] using h.1
  have h := List.all_eq_true.mp h.2 c hc
  rw [Bool.and_eq_true] at h
  have hc6 : c < 6 := by simpa [Nat.blt_eq] using h.1
  obtain ⟨p, hp, h⟩ := List.any_eq_true.mp h.2
  rw [Bool.and_eq_true] at h
  obtain ⟨f, hf, ef⟩ := maxT_in σ (l := p) (fun e => by rw [e] at h; exact absurd h.1 (by decide))
  have h := List.all_eq_true.mp h.2 f hf
  have hfc : σ f ≤ σ c := by
    rw [Bool.or_eq_true, Bool.or_eq_true, Bool.and_eq_true] at h
    rcases h with h | h | h
    · have : f = e1 := by simpa using h
      rw [this]; exact h1 c (List.mem_range.mpr hc6)
    · have : f = c := by simpa using h
      rw [this]; exact Int.le_refl _
    · have h3 : f = e2 := by simpa using h.1
      have h4 : c ≠ e1 := by simpa using h.2
      rw [h3]; exact h2 c (List.mem_filter.mpr ⟨List.mem_range.mpr hc6, by simpa using h4⟩)
  have h5 := lowT_le σ hp
  have h6 := hm n hn6
  omega
end Mine
end
section
set_option maxRecDepth 100000
namespace Mine
open PySem PyProof.Rows

/-! ## what the program's heap holds -/
abbrev Kept (h h' : Heap) : Prop := ∀ b o, h.get? b = some o → h'.get? b = some o

noncomputable def SubAt (prog : Program) (w : World) (h : Heap) (b r : List Nat) : Prop := ∀ (A : Around) (s : Shared) (Q : Value → Shared → Prop) (t t' : Tok), A.handled = Option.none → A.units + 40 < cLine → Kept h s.heap →
  (∀ h' tk u, Kept s.heap h' → Q (.bytes (toB r) u) { s with heap := h', toks := tk }) → wpAny (model prog w) A (call (.builtin "re.Pattern.sub") [.ref 36, .bytes #[] t, .bytes (toB b) t']) Q No s

noncomputable def CntAt (prog : Program) (w : World) (b : List Nat) (c n : Nat) : Prop := ∀ (A : Around) (s : Shared) (Q : Value → Shared → Prop) (t t' : Tok),
  (∀ tk u, Q (.int (n : Int) u) { s with toks := tk }) → wpAny (model prog w) A (call (.builtin "bytes.count") [.bytes (toB b) t, .bytes (toB [c]) t']) Q No s

structure GH (prog : Program) (w : World) (h : Heap) : Prop where
  gm : ∃ mg mb, h.Ns mainGlobals mg ∧ h.Ns builtinsNs mb ∧ ∀ x v, look x globTab = some v → ∃ u, (∀ σ, Den σ (fun _ => 0) 0 v u) ∧ (mg x = some u ∨ (mg x = Option.none ∧ mb x = some u))
  lim : h.NoLimit
  fn : ∀ a f, fnTab a = some f → FnAt h a f
  pat : ∃ o, h.get? 36 = some o ∧ o.cls = .type "re.Pattern" ∧ o.dict = Option.none
  sub : ∀ b r, subF b = some r → SubAt prog w h b r
  cnt : ∀ b c n, cntF b c = some n → CntAt prog w b c n

theorem FnAt.mono {h h' : Heap} {a : Addr} {f : Fn} (k : Kept h h') (x : FnAt h a f) : FnAt h' a f := by
  obtain ⟨⟨o, fd, ho, hd, hb, hsc, hg, hbi, hcl, hcd, hbind⟩, h1, h2, h3⟩ := x
  refine ⟨⟨o, fd, k _ _ ho, hd, hb, hsc, hg, hbi, hcl, ?_, fun s vals hk hl => hbind s vals (fun b o e => hk _ _ (k _ _ e)) hl⟩, h1, h2, h3⟩
  obtain ⟨c, oc, vs, tq, hc, hoc, hdc, hq⟩ := hcd
  exact ⟨c, oc, vs, tq, hc, k _ _ hoc, hdc, hq⟩

theorem GH.mono {prog : Program} {w : World} {h h' : Heap} (k : Kept h h') (x : GH prog w h) : GH prog w h' := by
  obtain ⟨⟨mg, mb, h1, h2, h3⟩, hl, hf, ⟨o, ho, hp⟩, hs, hc⟩ := x
  exact ⟨⟨mg, mb, h1.keeps k, h2.keeps k, h3⟩, hl.at fun o e => k _ _ e, fun a f e => (hf a f e).mono k, ⟨o, k _ _ ho, hp⟩,
    fun b r e A s Q t t' hh hu hk hq => hs b r e A s Q t t' hh hu (fun b o e => hk b o (k b o e)) hq, hc⟩

theorem subF_lt : ∀ b r, subF b = some r → ∀ c ∈ r, c < 256 := by
  have h : (subs.all fun p => p.2.all fun c => Nat.blt c 256) = true := by decide +kernel
  intro b r hb c hc
  have key : ∀ l : List (List Nat × List Nat), (l.all fun p => p.2.all fun c => Nat.blt c 256) = true → lookN b l = some r → Nat.blt c 256 = true := by
    intro l
    induction l with
    | nil => intro _ h; cases h
    | cons p l ih =>
      intro ha hl
      rw [List.all_cons, Bool.and_eq_true] at ha
      obtain ⟨x, q⟩ := p
      unfold lookN at hl
      cases he : eqNs b x with
      | true => rw [he] at hl; cases hl; exact List.all_eq_true.mp ha.1 c hc
      | false => rw [he] at hl; exact ih ha.2 hl
  simpa [Nat.blt_eq] using key subs h hb

theorem facts {C : Cx} (g : GH C.prog C.w C.base) {t : Cond → Option Bool} (ht : ∀ c b, t c = some b → c.holds C.σ = b) {sd : Nat} {sp : Nat → List AV → AH → Option (AV × AH)}
    (hsf : ∀ a args H r, sp a args H = some r → ∃ f, fnTab a = some f)
    (hsp : ∀ a args H v H', sp a args H = some (v, H') → ∀ d ρ s A vs Q, sd ≤ d → Rel C ρ H s → DenL C.σ ρ H.n args vs → AOk d A → K C ρ H H' (DV C H' v) Q → wpAny (model C.prog C.w) A (call (.ref a) vs) Q No s) :
    Facts C (prm t sd sp) where
  gm := let ⟨mg, mb, h1, h2, h3⟩ := g.gm; ⟨mg, mb, h1, h2, fun x v e => let ⟨u, h4, h5⟩ := h3 x v e; ⟨u, h4 _, h5⟩⟩
  lim := g.lim
  tbl := ht
  fn := g.fn
  pat := g.pat
  sub := fun b r e => g.sub b r e
  subLt := subF_lt
  cnt := fun b c n e => g.cnt b c n e
  hk := fun e ae H v h => by cases h
  specFn := fun a args H r h => by
    obtain ⟨f, hf⟩ := hsf a args H r h
    obtain ⟨⟨o, fd, ho, hd, _⟩, _⟩ := g.fn a f hf
    exact ⟨o, fd, ho, hd⟩
  spec := hsp

/-! ## the start of a contract -/
theorem Rel.start {C : Cx} {s : Shared} (hb : C.base = s.heap) (hs : C.s0 = s) {ρ : Nat → Addr} {H : AH} (h : ∀ k, k < H.n → ∃ xs, H.t.get k = some (.flist xs) ∧ ∃ vs : List Value, s.heap.IsList (ρ k) vs.toArray ∧ DenL C.σ ρ H.n xs vs) : Rel C ρ H s where
  same := ⟨s.heap, s.toks, by rw [hs]⟩
  keep := fun b o e => by rw [hb] at e; exact e
  objs := fun k hk => let ⟨xs, h1, vs, h2, h3⟩ := h k hk; ⟨_, h1, vs, h2, h3⟩
  inj := fun i j oi oj hi hj ei ej li => by
    obtain ⟨xs, h1, _⟩ := h i hi
    rw [ei] at h1; cases h1; cases li
  fresh := fun i o hi ei li => by
    obtain ⟨xs, h1, _⟩ := h i hi
    rw [ei] at h1; cases h1; cases li
  frozen := fun k xs hk ek => by
    obtain ⟨ys, h1, vs, h2, h3⟩ := h k hk
    rw [ek] at h1; cases h1
    exact ⟨vs, by rw [hb]; exact h2, h3⟩

theorem bytesTimes_dummy : True := trivial
end Mine
end
section
set_option maxRecDepth 100000
namespace Mine
open PySem PyProof.Rows

noncomputable def findC (c : Cond) : List (Cond × Bool) → Option Bool
  | [] => Option.none
  | (d, b) :: r => if c.beq d then some b else findC c r
theorem findC_ok {σ : Nat → Int} {c : Cond} {b : Bool} : ∀ {l : List (Cond × Bool)}, (∀ p ∈ l, p.1.holds σ = p.2) → findC c l = some b → c.holds σ = b
  | [], _, h => by cases h
  | (d, x) :: r, hl, h => by
    unfold findC at h
    split at h
    · rename_i hb
      cases h
      rw [Cond.beq_eq hb]; exact hl _ List.mem_cons_self
    · exact findC_ok (fun p hp => hl p (List.mem_cons_of_mem _ hp)) h

/-! ## reading -/
noncomputable def byteA (k : Nat) : T := .iop .add (.lit 64) (.iop .fdiv (.var k) (.lit 64))
noncomputable def byteB (k : Nat) : T := .iop .add (.lit 128) (.iop .fmod (.var k) (.lit 64))
noncomputable def hiT (k : Nat) : T := .iop .band (byteA k) (.lit 63)
noncomputable def loT (k : Nat) : T := .iop .band (byteB k) (.lit 63)
noncomputable def toldT (k : Nat) : T := .iop .bor (.iop .shl (hiT k) (.lit 6)) (loT k)
noncomputable def readRows (k : Nat) : List (Cond × Bool) := [
  (.ilt (byteA k) (.lit 0), false), (.ilt (byteA k) (.lit 256), true), (.ilt (byteB k) (.lit 0), false), (.ilt (byteB k) (.lit 256), true),
  (.ieq (.iop .band (byteA k) (.lit 64)) (.lit 0), false), (.ieq (.iop .band (byteB k) (.lit 64)) (.lit 0), true),
  (.ilt (hiT k) (.lit 0), false), (.ilt (hiT k) (.lit 64), true), (.ilt (.iop .shl (hiT k) (.lit 6)) (.lit 0), false), (.ilt (loT k) (.lit 0), false)]
noncomputable def readTbl (c : Cond) : Option Bool := findC c ((List.range 6).flatMap readRows)

theorem hi_val {p : Int} (h0 : 0 ≤ p) (h1 : p < 4096) : (((64 + p.fdiv 64).toNat &&& 63 : Nat) : Int) = p / 64 := by
  rw [Int.fdiv_eq_ediv_of_nonneg _ (by omega)]
  have : (64 + p / 64).toNat &&& 63 = (64 + p / 64).toNat % 64 := Nat.and_two_pow_sub_one_eq_mod _ 6
  omega
theorem lo_val {p : Int} (h0 : 0 ≤ p) : (((128 + p.fmod 64).toNat &&& 63 : Nat) : Int) = p % 64 := by
  rw [Int.fmod_eq_emod_of_nonneg _ (by omega)]
  have : (128 + p % 64).toNat &&& 63 = (128 + p % 64).toNat % 64 := Nat.and_two_pow_sub_one_eq_mod _ 6
  omega
theorem bit6 : ∀ n < 64, ((64 + n) &&& 64 = 64) ∧ (128 + n) &&& 64 = 0 := by decide +kernel
theorem told_bits : ∀ a < 64, ∀ b < 64, (a * 64) ||| b = a * 64 + b := by decide +kernel

section
variable {σ : Nat → Int} {k : Nat}
theorem byteA_i : (byteA k).i σ = 64 + (σ k).fdiv 64 := rfl
theorem byteB_i : (byteB k).i σ = 128 + (σ k).fmod 64 := rfl
theorem hiT_i (h0 : 0 ≤ σ k) (h1 : σ k < 4096) : (hiT k).i σ = σ k / 64 := hi_val h0 h1
theorem loT_i (h0 : 0 ≤ σ k) : (loT k).i σ = σ k % 64 := lo_val h0
theorem shlT_i (h0 : 0 ≤ σ k) (h1 : σ k < 4096) : (T.iop .shl (hiT k) (.lit 6)).i σ = σ k / 64 * 64 := by
  show (hiT k).i σ * 2 ^ (6 : Int).toNat = _
  rw [hiT_i h0 h1]; rfl
theorem toldT_i (h0 : 0 ≤ σ k) (h1 : σ k < 4096) : (toldT k).i σ = σ k := by
  show ((((T.iop .shl (hiT k) (.lit 6)).i σ).toNat ||| ((loT k).i σ).toNat : Nat) : Int) = σ k
  rw [shlT_i h0 h1, loT_i h0]
  have q0 : 0 ≤ σ k / 64 := Int.ediv_nonneg h0 (by decide)
  have q1 : σ k / 64 < 64 := Int.ediv_lt_of_lt_mul (by decide) h1
  have r0 : 0 ≤ σ k % 64 := Int.emod_nonneg _ (by decide)
  have r1 : σ k % 64 < 64 := Int.emod_lt_of_pos _ (by decide)
  have hqr : σ k / 64 * 64 + σ k % 64 = σ k := by have := Int.mul_ediv_add_emod (σ k) 64; rw [Int.mul_comm]; exact this
  generalize σ k / 64 = q at q0 q1 hqr ⊢
  generalize σ k % 64 = r at r0 r1 hqr ⊢
  have e : (q * 64).toNat = q.toNat * 64 := by omega
  rw [e, told_bits _ (by omega) _ (by omega), ← hqr]
  omega

theorem readRows_ok (h0 : 0 ≤ σ k) (h1 : σ k < 4096) : ∀ p ∈ readRows k, p.1.holds σ = p.2 := by
  have ea : (byteA k).i σ = 64 + σ k / 64 := by rw [byteA_i, Int.fdiv_eq_ediv_of_nonneg _ (by omega)]
  have eb : (byteB k).i σ = 128 + σ k % 64 := by rw [byteB_i, Int.fmod_eq_emod_of_nonneg _ (by omega)]
  have ec : (T.iop .band (byteA k) (.lit 64)).i σ = 64 := by
    show ((((byteA k).i σ).toNat &&& 64 : Nat) : Int) = 64
    rw [ea]
    have q0 : 0 ≤ σ k / 64 := Int.ediv_nonneg h0 (by decide)
    have q1 : σ k / 64 < 64 := Int.ediv_lt_of_lt_mul (by decide) h1
    generalize σ k / 64 = q at q0 q1
    have := (bit6 q.toNat (by omega)).1
    rw [show (64 + q).toNat = 64 + q.toNat by omega, this]; rfl
  have ed : (T.iop .band (byteB k) (.lit 64)).i σ = 0 := by
    show ((((byteB k).i σ).toNat &&& 64 : Nat) : Int) = 0
    rw [eb]
    have r0 : 0 ≤ σ k % 64 := Int.emod_nonneg _ (by decide)
    have r1 : σ k % 64 < 64 := Int.emod_lt_of_pos _ (by decide)
    generalize σ k % 64 = r at r0 r1
    have := (bit6 r.toNat (by omega)).2
    rw [show (128 + r).toNat = 128 + r.toNat by omega, this]; rfl
  have eh := hiT_i h0 h1
  have el := loT_i h0
  have es := shlT_i h0 h1
  have q0 : 0 ≤ σ k / 64 := Int.ediv_nonneg h0 (by decide)
  have q1 : σ k / 64 < 64 := Int.ediv_lt_of_lt_mul (by decide) h1
  have r0 : 0 ≤ σ k % 64 := Int.emod_nonneg _ (by decide)
  have r1 : σ k % 64 < 64 := Int.emod_lt_of_pos _ (by decide)
  clear h0 h1
  generalize σ k / 64 = q at ea eh es q0 q1
  generalize σ k % 64 = r at eb el r0 r1
  intro p hp
  simp only [readRows, List.mem_cons, List.not_mem_nil, or_false] at hp
  rcases hp with rfl | rfl | rfl | rfl | rfl | rfl | rfl | rfl | rfl | rfl
  · exact decide_eq_false (by show ¬ (byteA k).i σ < 0; rw [ea]; omega)
  · exact decide_eq_true (by show (byteA k).i σ < 256; rw [ea]; omega)
  · exact decide_eq_false (by show ¬ (byteB k).i σ < 0; rw [eb]; omega)
  · exact decide_eq_true (by show (byteB k).i σ < 256; rw [eb]; omega)
  · show ((T.iop .band (byteA k) (.lit 64)).i σ == 0) = false; rw [ec]; rfl
  · show ((T.iop .band (byteB k) (.lit 64)).i σ == 0) = true; rw [ed]; rfl
  · exact decide_eq_false (by show ¬ (hiT k).i σ < 0; rw [eh]; omega)
  · exact decide_eq_true (by show (hiT k).i σ < 64; rw [eh]; omega)
  · exact decide_eq_false (by show ¬ (T.iop .shl (hiT k) (.lit 6)).i σ < 0; rw [es]; omega)
  · exact decide_eq_false (by show ¬ (loT k).i σ < 0; rw [el]; omega)
end
theorem readTbl_ok {σ : Nat → Int} (h : ∀ k < 6, 0 ≤ σ k ∧ σ k < 4096) {c : Cond} {b : Bool} (hc : readTbl c = some b) : c.holds σ = b := by
  refine findC_ok (fun p hp => ?_) hc
  obtain ⟨k, hk, hp⟩ := List.mem_flatMap.mp hp
  have := h k (List.mem_range.mp hk)
  exact readRows_ok this.1 this.2 p hp

noncomputable def frow (v : Nat → T) : List AO := [.flist ((List.range 6).map fun k => .int (v k))]
noncomputable def readRun : Res (AV × AH) := runOn (prm readTbl 0 noSpec) 60 63 [.obj 0] (frow T.var)
end Mine
end
section
set_option maxRecDepth 100000
namespace Mine
open PySem PyProof.Rows

/-! ## one turn of a loop -/
section
variable {C : Cx} {P : Prm} {ev : Ev} {A : Around} {ρ : Nat → Addr} {H H' : AH} {s : Shared} {ae : AEnv} {env : Env} {d : Nat}

theorem loop_turn (S : Sound C P ev) (ok : AOk d A) (E : EnvRel ρ H.n ae env) (R : Rel C ρ H s) {t : Expr} {b : List Stmt} {it : AV} {iv : Value} (di : Den C.σ ρ H.n it iv) {v : AV} {H1 H2 H3 : AH}
    (h1 : nextOf it H = .ok (some v, H1)) (hown : ownTup t it H1 = true) (h2 : evAsg ev d ae t v H1 = .ok H2) (h3 : evSs ev d ae b H2 = .ok (.next, H3)) {RR : Result → Shared → Prop}
    (k : ∀ ρ' s', Ext H.n ρ ρ' → H.n ≤ H3.n → Rel C ρ' H3 s' → codeAny (model C.prog C.w) A (.forLoop t iv b [] env) RR s') : codeAny (model C.prog C.w) A (.forLoop t iv b [] env) RR s := by
  refine codeAny_of_tree ?_
  show wpAny _ A ((forTurn t iv b [] env).onRaise (fun x => do noteFrame x env; theTreesLotGoes x)) _ _ s
  refine wpAny_noted (toE ?_)
  simp only [forTurn]
  refine wpAny_bind (wpAny_standAt (wpAny_bind (wpAny_onRaise (wpAny_mono (nextOf_ok (Q := fun r s1 => ∃ ρ1, Ext H.n ρ ρ1 ∧ H.n ≤ H1.n ∧ Rel C ρ1 H1 s1 ∧ DO C H1 (some v) ρ1 r) R ok.handled di h1 fun ρ1 u s1 he1 hn1 R1 du => ⟨ρ1, he1, hn1, R1, du⟩)
    (fun r s1 h1 => ?_) fun _ _ f => f.elim))))
  obtain ⟨ρ1, he1, hn1, R1, du⟩ := h1
  cases r with
  | none => exact du.elim
  | some u =>
    have du : Den C.σ ρ1 H1.n v u := du
    have E1 := E.ext he1 hn1
    refine wpAny_bind (letOwned_ok R1 (di.ext he1 hn1) hown ?_)
    refine wpAny_bind (evAsg_ok S ok E1 R1 du h2 fun ρ2 _ s2 he2 hn2 R2 _ => ?_)
    refine wpAny_bind (evSs_ok S ok (E1.ext he2 hn2) R2 h3 fun ρ3 u s3 he3 hn3 R3 du => ?_)
    have hx : Ext H.n ρ ρ3 := (he1.trans he2 hn1).trans he3 (Nat.le_trans hn1 hn2)
    have hn : H.n ≤ H3.n := Nat.le_trans (Nat.le_trans hn1 hn2) hn3
    have du : u = .next := du
    subst du
    exact wpAny_pure ⟨rfl, k ρ3 s3 hx hn R3⟩

theorem loop_end (ok : AOk d A) (R : Rel C ρ H s) {t : Expr} {b : List Stmt} {it : AV} {iv : Value} (di : Den C.σ ρ H.n it iv) {H1 : AH} (h1 : nextOf it H = .ok (Option.none, H1)) {RR : Result → Shared → Prop}
    (k : ∀ ρ' s', Ext H.n ρ ρ' → H.n ≤ H1.n → Rel C ρ' H1 s' → RR (.ok .next) s') : codeAny (model C.prog C.w) A (.forLoop t iv b [] env) RR s := by
  refine codeAny_of_tree ?_
  show wpAny _ A ((forTurn t iv b [] env).onRaise (fun x => do noteFrame x env; theTreesLotGoes x)) _ _ s
  refine wpAny_noted (toE ?_)
  simp only [forTurn]
  refine wpAny_bind (wpAny_standAt (wpAny_bind (wpAny_onRaise (wpAny_mono (nextOf_ok (Q := fun r s1 => ∃ ρ1, Ext H.n ρ ρ1 ∧ H.n ≤ H1.n ∧ Rel C ρ1 H1 s1 ∧ DO C H1 Option.none ρ1 r) R ok.handled di h1 fun ρ1 u s1 he1 hn1 R1 du => ⟨ρ1, he1, hn1, R1, du⟩)
    (fun r s1 h1 => ?_) fun _ _ f => f.elim))))
  obtain ⟨ρ1, he1, hn1, R1, du⟩ := h1
  cases r with
  | some _ => exact du.elim
  | none => exact wpAny_pure ⟨rfl, codeAny_block (wpAny_execs_nil (k ρ1 s1 he1 hn1 R1))⟩

/-! ## less known of the same state, the variables named anew -/
noncomputable def wkV (M : Nat → T) (m : Nat) : AV → AV → Bool
  | .int e, .int (.var n) => Nat.blt n 6 && e.beq (M n)
  | .int (.lit a), .int (.lit b) => a == b
  | .obj a, .obj b => Nat.beq a b && Nat.blt b m
  | _, _ => false
noncomputable def wkL (M : Nat → T) (m : Nat) : List AV → List AV → Bool
  | [], [] => true
  | a :: r, b :: r' => wkV M m a b && wkL M m r r'
  | _, _ => false
noncomputable def wkO (M : Nat → T) (m : Nat) (o o' : AO) : Bool := match o' with
  | .any => true
  | .ns mm' => (match o with | .ns mm => mm'.all fun p => (match look p.1 mm with | some v => wkV M m v p.2 | Option.none => false) | _ => false)
  | .cell w => (match o with
    | .cell v => (match v with
      | some v => (match w with | some w => wkV M m v w | Option.none => false)
      | Option.none => (match w with | some _ => false | Option.none => true))
    | _ => false)
  | .list q ys => (match o with | .list _ xs => !q && wkL M m xs ys | _ => false)
  | .itR c d => (match o with | .itR a b => a == c && b == d | _ => false)
  | _ => false
noncomputable def wkH (M : Nat → T) (H H' : AH) : Bool := Nat.ble H'.n H.n && (List.range H'.n).all fun k => match H.t.get k, H'.t.get k with
  | some o, some o' => wkO M H'.n o o'
  | _, _ => false

section
variable {σ σ' : Nat → Int} {M : Nat → T} {n m : Nat}
theorem wkV_ok (hσ : ∀ k < 6, σ' k = (M k).i σ) {a b : AV} (h : wkV M m a b = true) {u : Value} (d : Den σ ρ n a u) : Den σ' ρ m b u := by
  unfold wkV at h
  split at h
  · rw [Bool.and_eq_true] at h
    obtain ⟨t, rfl⟩ := d
    refine ⟨t, ?_⟩
    rename_i e q
    have h1 : q < 6 := by simpa [Nat.blt_eq] using h.1
    rw [T.beq_eq h.2]; show _ = Value.int (σ' q) t; rw [hσ q h1]
  · obtain ⟨t, rfl⟩ := d
    have := (beq_iff_eq.mp h)
    subst this; exact ⟨t, rfl⟩
  · rw [Bool.and_eq_true] at h
    have := Nat.eq_of_beq_eq_true h.1
    subst this
    exact ⟨by simpa [Nat.blt_eq] using h.2, d.2⟩
  · cases h
theorem wkL_ok (hσ : ∀ k < 6, σ' k = (M k).i σ) : ∀ {xs ys : List AV} {vs : List Value}, wkL M m xs ys = true → DenL σ ρ n xs vs → DenL σ' ρ m ys vs
  | [], [], [], _, _ => trivial
  | [], [], _ :: _, _, d => d.elim
  | [], _ :: _, _, h, _ => by cases h
  | _ :: _, [], _, h, _ => by cases h
  | _ :: _, _ :: _, [], _, d => d.elim
  | a :: r, b :: r', v :: vs, h, ⟨d1, d2⟩ => by
    simp only [wkL, Bool.and_eq_true] at h
    exact ⟨wkV_ok hσ h.1 d1, wkL_ok hσ h.2 d2⟩
theorem wkO_ok (hσ : ∀ k < 6, σ' k = (M k).i σ) {o o' : AO} (h : wkO M m o o' = true) {hp : Heap} {a : Addr} (d : DenO σ ρ n hp a o) : DenO σ' ρ m hp a o' := by
  cases o' with
  | any => trivial
  | ns mm' =>
    cases o with
    | ns mm =>
      obtain ⟨g, h1, h2⟩ := d
      refine ⟨g, h1, fun y v hy => ?_⟩
      have hy' := hy
      rw [look_lookup] at hy'
      have := List.all_eq_true.mp h _ (mem_lookup hy')
      cases hl : look y mm with
      | some v0 =>
        obtain ⟨u, hu, du⟩ := h2 y v0 hl
        have this : (match look y mm with | some v0 => wkV M m v0 v | Option.none => false) = true := this
        rw [hl] at this
        exact ⟨u, hu, wkV_ok hσ this du⟩
      | none =>
        have this : (match look y mm with | some v0 => wkV M m v0 v | Option.none => false) = true := this
        rw [hl] at this
        cases this
    | _ => cases h
  | cell w =>
    cases o with
    | cell v =>
      cases v with
      | some v =>
        cases w with
        | some w => obtain ⟨u, h1, h2⟩ := d; exact ⟨u, h1, wkV_ok hσ h h2⟩
        | none => cases h
      | none =>
        cases w with
        | some w => cases h
        | none => exact d
    | _ => cases h
  | list q ys =>
    cases o with
    | list p xs =>
      have h := and_two h
      obtain ⟨vs, h1, _, h2⟩ := d
      exact ⟨vs, h1, (fun e => by rw [e] at h; exact absurd h.1 (by decide)), wkL_ok hσ h.2 h2⟩
    | _ => cases h
  | itR c dd =>
    cases o with
    | itR a b =>
      have h := and_two h
      have h1 := beq_iff_eq.mp h.1
      have h2 := beq_iff_eq.mp h.2
      subst h1; subst h2; exact d
    | _ => cases h
  | _ => cases h
theorem wkO_nf {o o' : AO} (h : wkO M m o o' = true) (xs : List AV) : o' ≠ .flist xs := by
  intro e; subst e
  cases h
theorem wkO_live {o o' : AO} (h : wkO M m o o' = true) (hl : o'.live = true) : o.live = true ∧ ∀ xs, o' ≠ .flist xs := by
  refine ⟨?_, wkO_nf h⟩
  cases o with
  | any => cases o' <;> first | (cases hl; done) | (cases h; done)
  | flist xs => cases o' <;> first | (cases hl; done) | (cases h; done)
  | _ => rfl
end

theorem Rel.weak {σ' : Nat → Int} {M : Nat → T} (R : Rel C ρ H s) (hσ : ∀ k < 6, σ' k = (M k).i C.σ) (h : wkH M H H' = true) : Rel { C with σ := σ' } ρ H' s ∧ H'.n ≤ H.n := by
  unfold wkH at h
  rw [Bool.and_eq_true] at h
  have hn : H'.n ≤ H.n := Nat.le_of_ble_eq_true h.1
  have key : ∀ k, k < H'.n → ∃ o o', H.t.get k = some o ∧ H'.t.get k = some o' ∧ wkO M H'.n o o' = true := fun k hk => by
    have := List.all_eq_true.mp h.2 k (List.mem_range.mpr hk)
    split at this
    · rename_i o o' h1 h2; exact ⟨o, o', h1, h2, this⟩
    · cases this
  refine ⟨⟨R.same, R.keep, fun k hk => ?_, fun i j oi oj hi hj ei ej li lj e => ?_, fun i o hi ei li => ?_, fun k xs hk ek => ?_⟩, hn⟩
  · obtain ⟨o, o', h1, h2, h3⟩ := key k hk
    obtain ⟨q, hq, dq⟩ := R.objs k (by omega)
    rw [h1] at hq; cases hq
    exact ⟨o', h2, wkO_ok hσ h3 dq⟩
  · obtain ⟨o, o', h1, h2, h3⟩ := key i hi
    obtain ⟨q, q', h4, h5, h6⟩ := key j hj
    rw [h2] at ei; cases ei
    rw [h5] at ej; cases ej
    exact R.inj i j o q (by omega) (by omega) h1 h4 (wkO_live h3 li).1 (wkO_live h6 lj).1 e
  · obtain ⟨q, o', h1, h2, h3⟩ := key i hi
    rw [h2] at ei; cases ei
    exact R.fresh i q (by omega) h1 (wkO_live h3 li).1
  · obtain ⟨o, o', h1, h2, h3⟩ := key k hk
    rw [h2] at ek; cases ek
    exact absurd rfl (wkO_nf h3 xs)
end

/-! ## the settling's loop -/
noncomputable def settleFn : Fn := (fnTab 80).getD ⟨[], default, []⟩
noncomputable def AH.mk! (os : List AO) : AH := match AH.of os with | .ok H => H | _ => ⟨.nil, 0⟩
/-- the state at turn k -/
noncomputable def HB (f k : Nat) : AH := AH.mk! [.any, .ns [], .cell (some (.int (.lit f))), .cell (some (.obj 10)), .cell (match k with | 0 => Option.none | j + 1 => some (.int (.lit j))), .any,
  .list false [.int (.lit 0), .int (.var 0), .int (.var 1), .int (.var 2)], .list false [.int (.var 0), .int (.lit 0), .int (.var 3), .int (.var 4)],
  .list false [.int (.var 1), .int (.var 3), .int (.lit 0), .int (.var 5)], .list false [.int (.var 2), .int (.var 4), .int (.var 5), .int (.lit 0)], .list false [.obj 6, .obj 7, .obj 8, .obj 9],
  .any, .itR k (8 - k)]
noncomputable def aeB : AEnv := ⟨settleFn.scope, 1, layCells settleFn.scope.names 2 []⟩
noncomputable def priceT (ph w : Nat) : T := let t := tri ph
  match w with
  | 0 => .iop .max (.var t.2.1) (.var t.2.2)
  | 1 => .iop .max (.var t.1) (.var t.2.2)
  | _ => .iop .max (.var t.1) (.var t.2.1)
noncomputable def triN (ph w : Nat) : Nat := let t := tri ph
  match w with
  | 0 => t.1
  | 1 => t.2.1
  | _ => t.2.2
/-- the six sides behind a turn in which side w fell -/
noncomputable def fellT (ph w : Nat) (n : Nat) : T := if Nat.beq n (triN ph w) then priceT ph w else .var n
/-- what `_law_falls` answers in phase ph if side w falls -/
noncomputable def intEq (x : AV) (t : T) : Bool := match x with
  | .int e => e.beq t
  | _ => false
noncomputable def listInts : List AV → List T → Bool
  | [], ts => (match ts with | [] => true | _ :: _ => false)
  | x :: r, ts => (match ts with | [] => false | t :: rt => intEq x t && listInts r rt)
theorem listInts_eq {xs : List AV} {ts : List T} (h : listInts xs ts = true) : xs = ts.map AV.int := by
  induction xs generalizing ts with
  | nil => cases ts with
    | nil => rfl
    | cons t rt => cases h
  | cons x r ih => cases ts with
    | nil => cases h
    | cons t rt =>
      have h := and_two h
      cases x with
      | int e => rw [ih h.2, T.beq_eq h.1]; rfl
      | _ => exact absurd h.1 (fun e => nomatch e)
noncomputable def fallsSp (ph w : Nat) (a : Nat) (args : List AV) (H : AH) : Option (AV × AH) := bif Nat.beq a 75 then (match args with
  | [.obj q] => (match H.at q with
    | some (.list _ xs) => bif listInts xs [.var (tri ph).1, .var (tri ph).2.1, .var (tri ph).2.2] then
        (match H.push (.tuple [.int (.lit w), .int (priceT ph w)]) with | .ok H1 => some (.obj H.n, H1) | _ => Option.none) else Option.none
    | _ => Option.none)
  | _ => Option.none) else Option.none
noncomputable def noTbl : Cond → Option Bool := fun _ => Option.none
noncomputable def loopOf : Fn → Expr × List Stmt := fun f => match f.body with
  | _ :: .For t _ b _ _ :: _ => (t, b)
  | _ => (.Name "" default, [])
noncomputable def loopT : Expr := (loopOf settleFn).1
noncomputable def loopB : List Stmt := (loopOf settleFn).2
noncomputable def turnRun (f k w : Nat) : Res (AFlow × AH) := (nextOf (.obj 12) (HB f k)).bind fun x => match x.1 with
  | some v => if ownTup loopT (.obj 12) x.2 then (evAsg (evN (prm noTbl 12 (fallsSp ((f + k) % 4) w)) 40) 19 aeB loopT v x.2).bind fun H2 => evSs (evN (prm noTbl 12 (fallsSp ((f + k) % 4) w)) 40) 19 aeB loopB H2 else .err 901
  | Option.none => .err 900
noncomputable def turnChk (f k w : Nat) : Bool := match turnRun f k w with
  | .ok (.next, H) => wkH (fellT ((f + k) % 4) w) H (HB f (k + 1))
  | _ => false
end Mine
end
section
set_option maxRecDepth 100000
namespace Mine
open PySem PyProof.Rows

noncomputable def priceI (w : Nat) (x y z : Int) : Int := match w with
  | 0 => imx y z
  | 1 => imx x z
  | _ => imx x y
/-- what `_law_falls` is asked for: wf tells which side falls -/
noncomputable def FallsC (prog : Program) (w : World) (wf : Int → Int → Int → Nat) : Prop :=
  (∀ x y z : Int, 0 ≤ x → x < 4096 → 0 ≤ y → y < 4096 → 0 ≤ z → z < 4096 → (wf x y z = 0 ∧ y ≤ x ∧ z ≤ x) ∨ (wf x y z = 1 ∧ x ≤ y ∧ z ≤ y) ∨ (wf x y z = 2 ∧ x ≤ z ∧ y ≤ z)) ∧
  ∀ (s : Shared) (_ : GH prog w s.heap) (A : Around) (_ : AOk 12 A) (l : Addr) (vs : List Value) (x y z : Int) (_ : 0 ≤ x ∧ x < 4096 ∧ 0 ≤ y ∧ y < 4096 ∧ 0 ≤ z ∧ z < 4096) (_ : s.heap.IsList l vs.toArray) (_ : IntsAre vs [x, y, z]) (Q : Value → Shared → Prop),
    (∀ h' tk r us, Kept s.heap h' → s.heap.get? r = Option.none → h'.IsTuple r us.toArray → IntsAre us [(wf x y z : Int), priceI (wf x y z) x y z] → Q (.ref r) { s with heap := h', toks := tk }) →
    wpAny (model prog w) A (call (.ref 75) [.ref l]) Q No s

theorem AOk.mono {d d' : Nat} {A : Around} (h : AOk d A) (hd : d' ≤ d) : AOk d' A := ⟨h.handled, by have := h.depth; omega, by have := h.units; omega⟩

theorem tri_lt : ∀ ph < 4, (tri ph).1 < 6 ∧ (tri ph).2.1 < 6 ∧ (tri ph).2.2 < 6 := by decide +kernel

section
variable {C : Cx}
theorem fallsSp_ok {wf : Int → Int → Int → Nat} {ph w : Nat} (FC : FallsC C.prog C.w wf) (g : GH C.prog C.w C.base) (hr : ∀ k < 6, 0 ≤ C.σ k ∧ C.σ k < 4096) (hph : ph < 4)
    (hw : wf (C.σ (tri ph).1) (C.σ (tri ph).2.1) (C.σ (tri ph).2.2) = w) (hw3 : w < 3) :
    ∀ a args H v H', fallsSp ph w a args H = some (v, H') → ∀ d ρ s A vs Q, 12 ≤ d → Rel C ρ H s → DenL C.σ ρ H.n args vs → AOk d A → K C ρ H H' (DV C H' v) Q → wpAny (model C.prog C.w) A (call (.ref a) vs) Q No s := by
  intro a args H v H' h d ρ s A vs Q hd R da ok k
  unfold fallsSp at h
  cases ha : Nat.beq a 75 with
  | false => rw [ha] at h; cases h
  | true =>
    have := Nat.eq_of_beq_eq_true ha
    subst this
    simp only [ha, cond_true] at h
    split at h
    · rename_i q
      split at h
      · rename_i p xs hq
        cases hc : listInts xs [.var (tri ph).1, .var (tri ph).2.1, .var (tri ph).2.2] with
        | false => rw [hc] at h; cases h
        | true =>
          rw [hc] at h
          have e1 := listInts_eq hc
          subst e1
          simp only [cond_true] at h
          split at h
          · rename_i H1 hp
            cases h
            obtain ⟨vs', hl, hdl⟩ := row_obj R hq
            obtain ⟨u, rfl, ⟨hlt, hu⟩⟩ := DenL.one da
            subst hu
            have hi := intsOf_den (ts := [.var (tri ph).1, .var (tri ph).2.1, .var (tri ph).2.2]) rfl hdl
            have t3 := tri_lt ph hph
            have r1 := hr _ t3.1
            have r2 := hr _ t3.2.1
            have r3 := hr _ t3.2.2
            refine FC.2 s (g.mono R.keep) A (ok.mono hd) (ρ q) vs' _ _ _ ⟨r1.1, r1.2, r2.1, r2.2, r3.1, r3.2⟩ hl hi Q fun h' tk r us hk hrn ht hus => ?_
            have dus : DenL C.σ (fun k => if k = H.n then r else ρ k) (H.n + 1) [.int (.lit w), .int (priceT ph w)] us := by
              cases hus with
              | cons n t h2 =>
                cases h2 with
                | cons n2 t2 h3 =>
                  cases h3
                  refine ⟨⟨t, ?_⟩, ⟨t2, ?_⟩, trivial⟩
                  · show Value.int ((wf _ _ _ : Nat) : Int) t = Value.int (w : Int) t
                    have : ((wf (C.σ (tri ph).1) (C.σ (tri ph).2.1) (C.σ (tri ph).2.2) : Nat) : Int) = (w : Int) := by rw [hw]
                    exact congrArg (fun z => Value.int z t) this
                  · have : priceI (wf (C.σ (tri ph).1) (C.σ (tri ph).2.1) (C.σ (tri ph).2.2)) (C.σ (tri ph).1) (C.σ (tri ph).2.1) (C.σ (tri ph).2.2) = (priceT ph w).i C.σ := by
                      rw [hw]
                      match w, hw3 with
                      | 0, _ => rfl
                      | 1, _ => rfl
                      | 2, _ => rfl
                    exact congrArg (fun z => Value.int z t2) this
            have ⟨R', hn, he⟩ := R.push hp (h' := h') (t := tk) hrn hk ⟨us, ht, dus⟩
            refine k _ _ _ he (by omega) R' ⟨by omega, ?_⟩
            show _ = Value.ref (if H.n = H.n then _ else _)
            rw [if_pos rfl]
          · cases h
      · cases h
    · cases h

theorem fallsSp_fn {ph w : Nat} : ∀ a args H r, fallsSp ph w a args H = some r → ∃ f, fnTab a = some f := by
  intro a args H r h
  unfold fallsSp at h
  cases ha : Nat.beq a 75 with
  | false => rw [ha] at h; cases h
  | true =>
    have := Nat.eq_of_beq_eq_true ha
    subst this
    exact ⟨_, rfl⟩

theorem falls_facts {wf : Int → Int → Int → Nat} {ph w : Nat} (FC : FallsC C.prog C.w wf) (g : GH C.prog C.w C.base) (hr : ∀ k < 6, 0 ≤ C.σ k ∧ C.σ k < 4096) (hph : ph < 4)
    (hw : wf (C.σ (tri ph).1) (C.σ (tri ph).2.1) (C.σ (tri ph).2.2) = w) (hw3 : w < 3) : Facts C (prm noTbl 12 (fallsSp ph w)) :=
  facts g (fun c b h => by cases h) fallsSp_fn (fallsSp_ok FC g hr hph hw hw3)
end

/-! ## a turn, on numbers -/
theorem fell_ok {x : Nat → Int} {ph w : Nat} (hph : ph < 4) (h : (w = 0 ∧ x (tri ph).2.1 ≤ x (tri ph).1 ∧ x (tri ph).2.2 ≤ x (tri ph).1) ∨ (w = 1 ∧ x (tri ph).1 ≤ x (tri ph).2.1 ∧ x (tri ph).2.2 ≤ x (tri ph).2.1) ∨
    (w = 2 ∧ x (tri ph).1 ≤ x (tri ph).2.2 ∧ x (tri ph).2.1 ≤ x (tri ph).2.2)) (n : Nat) : turnI ph x n = (fellT ph w n).i x := by
  have main : ∀ a b c : Nat, a ≠ b → a ≠ c → b ≠ c → tri ph = (a, b, c) → turnI ph x n = (fellT ph w n).i x := by
    intro a b c hab hac hbc ht
    rw [ht] at h
    unfold turnI fellT triN priceT
    rw [ht]
    simp only
    rcases h with ⟨rfl, h1, h2⟩ | ⟨rfl, h1, h2⟩ | ⟨rfl, h1, h2⟩ <;> simp only at h1 h2 ⊢ <;>
    · by_cases ha : n = a
      · subst ha
        simp only [if_pos, Nat.beq_refl, Nat.beq_eq, hab, hac, if_true, if_false, T.i, IOp.run, imn, imx]
        repeat' split
        all_goals first | omega | (simp_all; done) | (simp_all; omega)
      · by_cases hb : n = b
        · subst hb
          simp only [ha, if_false, if_true, Nat.beq_refl, Nat.beq_eq, hbc, T.i, IOp.run, imn, imx]
          repeat' split
          all_goals first | omega | (simp_all; done) | (simp_all; omega)
        · by_cases hc : n = c
          · subst hc
            simp only [ha, hb, if_false, if_true, Nat.beq_refl, Nat.beq_eq, T.i, IOp.run, imn, imx]
            repeat' split
            all_goals first | omega | (simp_all; done) | (simp_all; omega)
          · simp only [ha, hb, hc, if_false, Nat.beq_eq, T.i]
  match ph, hph with
  | 0, _ => exact main 3 4 5 (by decide) (by decide) (by decide) rfl
  | 1, _ => exact main 1 2 5 (by decide) (by decide) (by decide) rfl
  | 2, _ => exact main 0 2 4 (by decide) (by decide) (by decide) rfl
  | 3, _ => exact main 0 1 3 (by decide) (by decide) (by decide) rfl

theorem imn_rng {a b : Int} (ha : 0 ≤ a ∧ a < 4096) (hb : 0 ≤ b ∧ b < 4096) : 0 ≤ imn a b ∧ imn a b < 4096 := by unfold imn; split <;> omega
theorem imx_rng {a b : Int} (ha : 0 ≤ a ∧ a < 4096) (hb : 0 ≤ b ∧ b < 4096) : 0 ≤ imx a b ∧ imx a b < 4096 := by unfold imx; split <;> omega
theorem turnI_rng {x : Nat → Int} (h : ∀ n < 6, 0 ≤ x n ∧ x n < 4096) {ph : Nat} (hph : ph < 4) : ∀ n < 6, 0 ≤ turnI ph x n ∧ turnI ph x n < 4096 := by
  intro n hn
  obtain ⟨h1, h2, h3⟩ := tri_lt ph hph
  unfold turnI
  simp only
  split
  · exact imn_rng (h _ h1) (imx_rng (h _ h2) (h _ h3))
  · split
    · exact imn_rng (h _ h2) (imx_rng (h _ h1) (h _ h3))
    · split
      · exact imn_rng (h _ h3) (imx_rng (h _ h1) (h _ h2))
      · exact h n hn
end Mine
end
section
set_option maxRecDepth 100000
namespace Mine
open PySem PyProof.Rows

theorem HB_n : ∀ f < 4, ∀ k < 9, (HB f k).n = 13 := by decide +kernel
theorem turnChk_ok : ∀ f < 4, ∀ k < 8, ∀ w < 3, turnChk f k w = true := by decide +kernel
noncomputable def endRun (f : Nat) : Res (Option AV × AH) := nextOf (.obj 12) (HB f 8)
noncomputable def isNone : Option AV → Bool
  | Option.none => true
  | _ => false
noncomputable def HE (f : Nat) : AH := match endRun f with | .ok (_, H) => H | _ => ⟨.nil, 0⟩
theorem endRun_ok : ∀ f < 4, (match endRun f with | .ok (v, _) => isNone v | _ => false) = true := by decide +kernel

theorem turnsI_rng {x : Nat → Int} (h : ∀ n < 6, 0 ≤ x n ∧ x n < 4096) (f : Nat) : ∀ k, ∀ n < 6, 0 ≤ turnsI f x k n ∧ turnsI f x k n < 4096
  | 0 => h
  | k + 1 => turnI_rng (turnsI_rng h f k) (Nat.mod_lt _ (by decide))

theorem turnRun_out {f k w : Nat} (h : turnChk f k w = true) : ∃ v H1 H2 H3, nextOf (.obj 12) (HB f k) = .ok (some v, H1) ∧ ownTup loopT (.obj 12) H1 = true ∧
    evAsg (evN (prm noTbl 12 (fallsSp ((f + k) % 4) w)) 40) 19 aeB loopT v H1 = .ok H2 ∧ evSs (evN (prm noTbl 12 (fallsSp ((f + k) % 4) w)) 40) 19 aeB loopB H2 = .ok (.next, H3) ∧ wkH (fellT ((f + k) % 4) w) H3 (HB f (k + 1)) = true := by
  unfold turnChk at h
  split at h
  · rename_i H3 h3
    unfold turnRun at h3
    obtain ⟨⟨x, H1⟩, h1, h2⟩ := Res.bind_ok h3
    cases x with
    | none => cases h2
    | some v =>
      simp only at h2
      split at h2
      · rename_i ho
        obtain ⟨H2, h4, h5⟩ := Res.bind_ok h2
        exact ⟨v, H1, H2, H3, h1, ho, h4, h5, h⟩
      · cases h2
  · cases h

section
variable {prog : Program} {w : World} {base : Heap} {s0 : Shared} {A : Around} {env : Env} {wf : Int → Int → Int → Nat} {f : Nat} {x : Nat → Int}

theorem settle_loop (FC : FallsC prog w wf) (g : GH prog w base) (ok : AOk 19 A) (hf : f < 4) (hx : ∀ n < 6, 0 ≤ x n ∧ x n < 4096) {iv : Value} {RR : Result → Shared → Prop} (L8 : Nat → Addr)
    (fin : ∀ ρ' s', Ext 13 L8 ρ' → Rel ⟨prog, w, turnsI f x 8, base, s0⟩ ρ' (HE f) s' → RR (.ok .next) s') :
    ∀ j k, k + j = 8 → ∀ ρ s, Rel ⟨prog, w, turnsI f x k, base, s0⟩ ρ (HB f k) s → Ext 13 L8 ρ → EnvRel ρ 13 aeB env → iv = .ref (ρ 12) → codeAny (model prog w) A (.forLoop loopT iv loopB [] env) RR s := by
  intro j
  induction j with
  | zero =>
    intro k hk ρ s R hL E hiv
    have : k = 8 := by omega
    subst this
    have hn := HB_n f hf 8 (by decide)
    have he := endRun_ok f hf
    cases hr : endRun f with
    | need c => rw [hr] at he; cases he
    | err c => rw [hr] at he; cases he
    | ok p =>
      obtain ⟨v, H1⟩ := p
      rw [hr] at he
      cases v with
      | some _ => cases he
      | none =>
        have hHE : HE f = H1 := by unfold HE; rw [hr]
        refine loop_end (C := ⟨prog, w, turnsI f x 8, base, s0⟩) (H := HB f 8) (it := .obj 12) ok R ⟨by rw [hn]; decide, hiv⟩ hr fun ρ' s' he hn' R' => ?_
        rw [hn] at he
        exact fin ρ' s' (hL.trans he (Nat.le_refl _)) (hHE ▸ R')
  | succ j ih =>
    intro k hk ρ s R hL E hiv
    have hk8 : k < 8 := by omega
    have hn := HB_n f hf k (by omega)
    have hrng := turnsI_rng hx f k
    have hph : (f + k) % 4 < 4 := Nat.mod_lt _ (by decide)
    obtain ⟨t1, t2, t3⟩ := tri_lt _ hph
    have hwf := FC.1 (turnsI f x k (tri ((f + k) % 4)).1) (turnsI f x k (tri ((f + k) % 4)).2.1) (turnsI f x k (tri ((f + k) % 4)).2.2) (hrng _ t1).1 (hrng _ t1).2 (hrng _ t2).1 (hrng _ t2).2 (hrng _ t3).1 (hrng _ t3).2
    generalize hw : wf (turnsI f x k (tri ((f + k) % 4)).1) (turnsI f x k (tri ((f + k) % 4)).2.1) (turnsI f x k (tri ((f + k) % 4)).2.2) = ww at hwf
    have hw3 : ww < 3 := by omega
    have F := falls_facts (C := ⟨prog, w, turnsI f x k, base, s0⟩) (ph := (f + k) % 4) (w := ww) FC g hrng hph hw hw3
    obtain ⟨v, H1, H2, H3, e1, e2, e3, e4, e5⟩ := turnRun_out (turnChk_ok f hf k hk8 ww hw3)
    refine loop_turn (C := ⟨prog, w, turnsI f x k, base, s0⟩) (H := HB f k) (it := .obj 12) (ev_sound F 40) ok (by rw [hn]; exact E) R ⟨by rw [hn]; decide, hiv⟩ e1 e2 e3 e4 fun ρ' s' he hn' R' => ?_
    rw [hn] at he
    have hfell := fell_ok (x := turnsI f x k) hph hwf
    obtain ⟨R'', _⟩ := R'.weak (σ' := turnsI f x (k + 1)) (M := fellT ((f + k) % 4) ww) (fun n _ => hfell n) e5
    exact ih (k + 1) (by omega) ρ' s' R'' (hL.trans he (Nat.le_refl _)) (E.ext he (Nat.le_refl _)) (by rw [hiv, he 12 (by decide)])
end
end Mine
end
section
set_option maxRecDepth 100000
namespace Mine
open PySem PyProof.Rows

noncomputable def st1 : Stmt := match settleFn.body with | a :: _ => a | _ => .Pass default
noncomputable def itE : Expr := match settleFn.body with | _ :: .For _ i _ _ _ :: _ => i | _ => .Name "" default
noncomputable def posF : Pos := match settleFn.body with | _ :: .For _ _ _ _ p :: _ => p | _ => default
noncomputable def st3 : Stmt := match settleFn.body with | _ :: _ :: c :: _ => c | _ => .Pass default
theorem body_eq : settleFn.body = [st1, .For loopT itE loopB [] posF, st3] := by kernel_rfl
theorem settleFn_at : fnTab 80 = some settleFn := by kernel_rfl
theorem settle_kind : settleFn.scope.kind = .function := by kernel_rfl

noncomputable def P0 : Prm := prm noTbl 0 noSpec
noncomputable def ev0 : Ev := evN P0 40
noncomputable def H0 : AH := AH.mk! (frow T.var)
noncomputable def inRun (f : Nat) : Res ((AEnv × AH) × AH × AV × AH) := (enter settleFn [.obj 0, .int (.lit f)] H0).bind fun x => (ev0.S 19 x.1 st1 x.2).bind fun y => match y.1 with
  | .next => (ev0.E 19 x.1 itE y.2).bind fun z => (iterOf z.1 z.2).bind fun u => .ok (x, y.2, u.1, u.2)
  | _ => .err 903
noncomputable def inChk (f : Nat) : Bool := match inRun f with
  | .ok (_, _, .obj 12, H) => wkH T.var H (HB f 0) && !isSetE itE
  | _ => false
theorem inChk_ok : ∀ f < 4, inChk f = true := by decide +kernel
noncomputable def HEnd : AH := AH.mk! [.any, .any, .any, .any, .any, .any,
  .list false [.int (.lit 0), .int (.var 0), .int (.var 1), .int (.var 2)], .list false [.int (.var 0), .int (.lit 0), .int (.var 3), .int (.var 4)],
  .list false [.int (.var 1), .int (.var 3), .int (.lit 0), .int (.var 5)], .list false [.int (.var 2), .int (.var 4), .int (.var 5), .int (.lit 0)], .list false [.obj 6, .obj 7, .obj 8, .obj 9]]
noncomputable def outChk (f : Nat) : Bool := match ev0.S 19 aeB st3 (HE f) with
  | .ok (.ret (.obj 10), H) => wkH T.var H HEnd && Nat.ble 13 (HE f).n
  | _ => false
theorem outChk_ok : ∀ f < 4, outChk f = true := by decide +kernel
theorem H0_n : H0.n = 1 := by decide +kernel
theorem H0_0 : H0.t.get 0 = some (.flist ((List.range 6).map fun k => .int (.var k))) := by kernel_rfl

theorem enter_ae {f : Fn} {args : List AV} {H H' : AH} {ae : AEnv} (h : enter f args H = .ok (ae, H')) : ae = ⟨f.scope, H.n, layCells f.scope.names (H.n + 1) []⟩ := by
  obtain ⟨H1, h1, h⟩ := Res.bind_ok h
  obtain ⟨H2, h2, h⟩ := Res.bind_ok h
  cases h; rfl

theorem noSpec_fn : ∀ a args H r, noSpec a args H = some r → ∃ f, fnTab a = some f := fun _ _ _ _ h => by cases h
theorem facts0 {C : Cx} (g : GH C.prog C.w C.base) : Facts C P0 := facts g (fun c b h => by cases h) noSpec_fn (fun _ _ _ _ _ h => by cases h)

theorem inRun_out {f : Nat} (h : inChk f = true) : ∃ H1 H2 a H3 H4, enter settleFn [.obj 0, .int (.lit f)] H0 = .ok (aeB, H1) ∧ ev0.S 19 aeB st1 H1 = .ok (.next, H2) ∧ ev0.E 19 aeB itE H2 = .ok (a, H3) ∧ iterOf a H3 = .ok (.obj 12, H4) ∧ wkH T.var H4 (HB f 0) = true ∧ isSetE itE = false := by
  unfold inChk at h
  split at h
  · rename_i p H2' H h1
    unfold inRun at h1
    obtain ⟨⟨ae, H1⟩, e1, h1⟩ := Res.bind_ok h1
    obtain ⟨⟨fl, H2⟩, e2, h1⟩ := Res.bind_ok h1
    cases fl with
    | next =>
      obtain ⟨⟨a, H3⟩, e3, h1⟩ := Res.bind_ok h1
      obtain ⟨⟨v, H4⟩, e4, h1⟩ := Res.bind_ok h1
      cases h1
      rw [Bool.and_eq_true] at h
      have := enter_ae e1
      rw [H0_n] at this
      have hae : ae = aeB := this
      subst hae
      exact ⟨H1, H2, a, H3, H4, e1, e2, e3, e4, h.1, by simpa using h.2⟩
    | _ => cases h1
  · cases h

section
variable {prog : Program} {w : World} {s : Shared} {A : Around} {wf : Int → Int → Int → Nat} {f : Nat} {x : Nat → Int}

theorem settle_call (FC : FallsC prog w wf) (g : GH prog w s.heap) (ok : AOk 20 A) (hf : f < 4) (hx : ∀ n < 6, 0 ≤ x n ∧ x n < 4096) {l : Addr} {vs : List Value} {t : Tok} (hl : s.heap.IsList l vs.toArray) (hv : IntsAre vs [x 0, x 1, x 2, x 3, x 4, x 5]) {Q : Value → Shared → Prop}
    (hQ : ∀ ρ' s', Rel ⟨prog, w, turnsI f x 8, s.heap, s⟩ ρ' HEnd s' → Q (.ref (ρ' 10)) s') : wpAny (model prog w) A (call (.ref 80) [.ref l, .int f t]) Q No s := by
  have F : Facts ⟨prog, w, x, s.heap, s⟩ P0 := facts0 g
  have S := ev_sound F 40
  have hdl : DenL x (fun _ => l) 1 ((List.range 6).map fun k => AV.int (.var k)) vs := by
    cases hv with | cons _ t0 h => cases h with | cons _ t1 h => cases h with | cons _ t2 h => cases h with | cons _ t3 h => cases h with | cons _ t4 h => cases h with | cons _ t5 h =>
      cases h
      exact ⟨⟨t0, rfl⟩, ⟨t1, rfl⟩, ⟨t2, rfl⟩, ⟨t3, rfl⟩, ⟨t4, rfl⟩, ⟨t5, rfl⟩, trivial⟩
  have R : Rel ⟨prog, w, x, s.heap, s⟩ (fun _ => l) H0 s := Rel.start rfl rfl fun k hk => by
    rw [H0_n] at hk ⊢
    have : k = 0 := by omega
    subst this
    exact ⟨_, H0_0, vs, hl, hdl⟩
  obtain ⟨H1, H2, a, H3, H4, e1, e2, e3, e4, e5, e6⟩ := inRun_out (inChk_ok f hf)
  obtain ⟨⟨o, fd, ho, hd, hb, hsc, hg, hbi, hcl, hcd, hbind⟩, hkind, hco, hgen⟩ := F.fn 80 settleFn settleFn_at
  have da : DenL x (fun _ => l) H0.n [.obj 0, .int (.lit f)] [.ref l, .int f t] := ⟨⟨by rw [H0_n]; decide, rfl⟩, ⟨t, rfl⟩, trivial⟩
  refine wpAny_call ?_
  have hlen := storeAll_len' e1
  refine codeAny_call_function (by have := ok.depth; omega) ho hd (by rw [hsc]; exact hco) (by rw [hsc]; exact hgen) hb hcd ?_
  rw [hsc, hg, hbi, hcl]
  refine hbind s _ (fun _ _ e => e) (by rw [hlen]; rfl) _ _ _ _ ?_
  refine toE (enter_ok R hkind da e1 fun ρ1 env s1 he1 hn1 R1 E1 => ⟨F.lim.at fun o e => R1.keep _ _ e, ?_⟩)
  have ok' : AOk 19 (A.deeper env) := ok.in1 env
  refine codeAny_func (toE ?_)
  rw [body_eq]
  refine wpAny_execs_cons (S.S e2 ok' E1 R1 fun ρ2 u s2 he2 hn2 R2 du => ?_)
  have du : u = .next := du
  subst du
  have E2 := E1.ext he2 hn2
  refine wpAny_execs_cons (wpAny_For (S.E e3 ok' E2 R2 fun ρ3 v s3 he3 hn3 R3 dv => iterOf_ok R3 dv e4 fun ρ4 it s4 he4 hn4 R4 di => ?_) (folded_ok e6))
  obtain ⟨R5, hn5⟩ := R4.weak (σ' := x) (M := T.var) (fun _ _ => rfl) e5
  have hnB := HB_n f hf 0 (by decide)
  rw [hnB] at hn5
  have E4 : EnvRel ρ4 13 aeB env := by
    have E := (E2.ext he3 hn3).ext he4 hn4
    exact ⟨E.scope, E.kind, E.loc, by decide, E.glob, E.blt, E.cells, by decide +kernel⟩
  refine settle_loop FC g ok' hf hx ρ4 (fun ρ' s' hL R8 => ?_) 8 0 rfl ρ4 s4 R5 (Ext.refl _ _) E4 di.2
  show wpAny _ _ (execs [st3] env) _ _ s'
  have hout := outChk_ok f hf
  unfold outChk at hout
  split at hout
  · rename_i H9 h9
    rw [Bool.and_eq_true] at hout
    have hge : 13 ≤ (HE f).n := Nat.le_of_ble_eq_true hout.2
    have F8 : Facts ⟨prog, w, turnsI f x 8, s.heap, s⟩ P0 := facts0 g
    have S8 := ev_sound F8 40
    have E8 : EnvRel ρ' (HE f).n aeB env := E4.ext hL hge
    refine wpAny_execs_cons (S8.S h9 ok' E8 R8 fun ρ9 u s9 he9 hn9 R9 du => ?_)
    obtain ⟨w', rfl, dw⟩ := du
    obtain ⟨R10, _⟩ := R9.weak (σ' := turnsI f x 8) (M := T.var) (fun _ _ => rfl) hout.1
    have := hQ ρ9 s9 R10
    rw [← dw.2] at this
    exact this
  · cases hout
end
end Mine
end
section
set_option maxRecDepth 100000
namespace Mine
open PySem PyProof.Rows

/-! ## the law's body: the spec of the settling -/
noncomputable def sumT : T := ((List.range 6).map T.var).foldl tadd (.lit 0)
noncomputable def firstT : T := .iop .fmod sumT (.lit 4)
noncomputable def toldTs : List T := [toldT 0, toldT 1, toldT 2, toldT 3, toldT 4, toldT 5]
noncomputable def lowRows (n : Nat) : List AO := [.list false [.int (.lit 0), .int (lowT 0), .int (lowT 1), .int (lowT 2)], .list false [.int (lowT 0), .int (.lit 0), .int (lowT 3), .int (lowT 4)],
  .list false [.int (lowT 1), .int (lowT 3), .int (.lit 0), .int (lowT 5)], .list false [.int (lowT 2), .int (lowT 4), .int (lowT 5), .int (.lit 0)], .list false [.obj n, .obj (n + 1), .obj (n + 2), .obj (n + 3)]]
noncomputable def settleSp (a : Nat) (args : List AV) (H : AH) : Option (AV × AH) := bif Nat.beq a 80 then (match args with
  | [.obj q, .int t] => (match H.at q with
    | some (.list _ xs) => if listInts xs toldTs && t.beq firstT then (match H.pushes (lowRows H.n) with | .ok H1 => some (.obj (H.n + 4), H1) | _ => Option.none) else Option.none
    | _ => Option.none)
  | _ => Option.none) else Option.none

section
variable {C : Cx} {ρ : Nat → Addr} {H H' : AH} {s : Shared}
/-- the address is none of those known -/
noncomputable def Av (ρ : Nat → Addr) (H : AH) (a : Addr) : Prop := ∀ i o, i < H.n → H.t.get i = some o → o.live = true → ρ i ≠ a

theorem Rel.pushAt (R : Rel C ρ H s) {o' : AO} (hp : H.push o' = .ok H') {a : Addr} (hb : C.base.get? a = Option.none) (hne : Av ρ H a) (hf : ∀ xs, o' ≠ .flist xs)
    (dd : ∀ ρ' : Nat → Addr, Ext H.n ρ ρ' → ρ' H.n = a → DenO C.σ ρ' (H.n + 1) s.heap a o') : ∃ ρ', Rel C ρ' H' s ∧ H'.n = H.n + 1 ∧ Ext H.n ρ ρ' ∧ ρ' H.n = a ∧ ∀ a', a' ≠ a → Av ρ H a' → Av ρ' H' a' := by
  obtain ⟨rfl, hg⟩ := AH.push_ok hp
  let ρ' : Nat → Addr := fun k => if k = H.n then a else ρ k
  have he : Ext H.n ρ ρ' := fun k hk => if_neg (Nat.ne_of_lt hk)
  have ha : ρ' H.n = a := if_pos rfl
  have old : ∀ i o, i ≠ H.n → (H.t.set o' H.n).get i = some o → H.t.get i = some o := fun i o hi e => (Tr.get_set_ne _ _ _ _ hi).symm.trans e
  refine ⟨ρ', ⟨R.same, R.keep, fun j hj => ?_, fun i j oi oj hi hj ei ej li lj e => ?_, fun i o hi ei li => ?_, fun j xs hj ej => ?_⟩, rfl, he, ha, fun a' haa hav i o hi ei li => ?_⟩
  · by_cases hjn : j = H.n
    · subst hjn
      refine ⟨o', hg, ?_⟩
      rw [ha]; exact dd ρ' he ha
    · have hj' : j < H.n := by have : j < H.n + 1 := hj; omega
      obtain ⟨o, ho, dj⟩ := R.objs j hj'
      refine ⟨o, (Tr.get_set_ne _ _ _ _ hjn).trans ho, ?_⟩
      rw [he j hj']
      exact dj.ext he (Nat.le_succ _) (fun _ e => e)
  · have hi : i < H.n + 1 := hi
    have hj : j < H.n + 1 := hj
    by_cases hin : i = H.n <;> by_cases hjn : j = H.n
    · omega
    · subst hin; rw [ha, he j (by omega)] at e
      exact absurd e.symm (hne j _ (by omega) (old _ _ hjn ej) lj)
    · subst hjn; rw [ha, he i (by omega)] at e
      exact absurd e (hne i _ (by omega) (old _ _ hin ei) li)
    · rw [he i (by omega), he j (by omega)] at e
      exact R.inj i j _ _ (by omega) (by omega) (old _ _ hin ei) (old _ _ hjn ej) li lj e
  · have hi : i < H.n + 1 := hi
    by_cases hin : i = H.n
    · subst hin; rw [ha]; exact hb
    · rw [he i (by omega)]; exact R.fresh i _ (by omega) (old _ _ hin ei) li
  · have hj : j < H.n + 1 := hj
    by_cases hjn : j = H.n
    · subst hjn
      rw [hg] at ej
      exact absurd (Option.some.inj ej) (hf xs)
    · obtain ⟨vs, hl, hd⟩ := R.frozen j xs (by omega) (old _ _ hjn ej)
      refine ⟨vs, ?_, hd.ext he (Nat.le_succ _)⟩
      rw [he j (by omega)]; exact hl
  · have hi : i < H.n + 1 := hi
    by_cases hin : i = H.n
    · subst hin; rw [ha]; exact fun e => haa e.symm
    · rw [he i (by omega)]; exact hav i o (by omega) (old _ _ hin ei) li

theorem denL_ints {σ σ' : Nat → Int} {ρ' : Nat → Addr} {n n' : Nat} : ∀ {xs ys : List T} {vs : List Value}, xs.map (T.i σ) = ys.map (T.i σ') → DenL σ ρ n (xs.map AV.int) vs → DenL σ' ρ' n' (ys.map AV.int) vs
  | [], [], [], _, _ => trivial
  | [], [], _ :: _, _, d => d.elim
  | [], _ :: _, _, h, _ => by cases h
  | _ :: _, [], _, h, _ => by cases h
  | _ :: _, _ :: _, [], _, d => d.elim
  | a :: r, b :: r', v :: vs, h, ⟨⟨t, hv⟩, d⟩ => by
    rw [List.map_cons, List.map_cons] at h
    injection h with h1 h2
    exact ⟨⟨t, by rw [hv, h1]⟩, denL_ints h2 d⟩
end
end Mine
end
section
set_option maxRecDepth 100000
namespace Mine
open PySem PyProof.Rows

theorem HEnd_n : HEnd.n = 11 := by decide +kernel
theorem HEnd_row : HEnd.t.get 6 = some (.list false ([T.lit 0, .var 0, .var 1, .var 2].map AV.int)) ∧ HEnd.t.get 7 = some (.list false ([T.var 0, .lit 0, .var 3, .var 4].map AV.int)) ∧
    HEnd.t.get 8 = some (.list false ([T.var 1, .var 3, .lit 0, .var 5].map AV.int)) ∧ HEnd.t.get 9 = some (.list false ([T.var 2, .var 4, .var 5, .lit 0].map AV.int)) ∧ HEnd.t.get 10 = some (.list false [.obj 6, .obj 7, .obj 8, .obj 9]) := by
  refine ⟨?_, ?_, ?_, ?_, ?_⟩ <;> kernel_rfl

section
variable {C : Cx}
theorem settleSp_ok {wf : Int → Int → Int → Nat} (FC : FallsC C.prog C.w wf) (g : GH C.prog C.w C.base) (hr : ∀ k < 6, 0 ≤ C.σ k ∧ C.σ k < 4096) :
    ∀ a args H v H', settleSp a args H = some (v, H') → ∀ d ρ s A vs Q, 20 ≤ d → Rel C ρ H s → DenL C.σ ρ H.n args vs → AOk d A → K C ρ H H' (DV C H' v) Q → wpAny (model C.prog C.w) A (call (.ref a) vs) Q No s := by
  intro a args H v H' h d ρ s A vs Q hd R da ok k
  unfold settleSp at h
  cases ha : Nat.beq a 80 with
  | false => rw [ha] at h; cases h
  | true =>
    have := Nat.eq_of_beq_eq_true ha
    subst this
    simp only [ha, cond_true] at h
    split at h
    · rename_i q t
      split at h
      · rename_i p xs hq
        split at h
        · rename_i hc
          rw [Bool.and_eq_true] at hc
          split at h
          · rename_i H1 hp
            cases h
            have hxs : _ = toldTs.map AV.int := listInts_eq hc.1
            have ht := T.beq_eq hc.2
            subst ht
            obtain ⟨vs', hl, hdl⟩ := row_obj R hq
            obtain ⟨u1, u2, rfl, ⟨hlt, hu1⟩, ⟨tk1, hu2⟩⟩ := DenL.two da
            subst hu1; subst hu2
            rw [hxs] at hdl
            have hi := intsOf_den (ts := [toldT 0, toldT 1, toldT 2, toldT 3, toldT 4, toldT 5]) rfl hdl
            have hi : IntsAre vs' [C.σ 0, C.σ 1, C.σ 2, C.σ 3, C.σ 4, C.σ 5] := by
              have e : [toldT 0, toldT 1, toldT 2, toldT 3, toldT 4, toldT 5].map (T.i C.σ) = [C.σ 0, C.σ 1, C.σ 2, C.σ 3, C.σ 4, C.σ 5] := by
                simp only [List.map_cons, List.map_nil]
                rw [toldT_i (hr 0 (by decide)).1 (hr 0 (by decide)).2, toldT_i (hr 1 (by decide)).1 (hr 1 (by decide)).2, toldT_i (hr 2 (by decide)).1 (hr 2 (by decide)).2, toldT_i (hr 3 (by decide)).1 (hr 3 (by decide)).2,
                  toldT_i (hr 4 (by decide)).1 (hr 4 (by decide)).2, toldT_i (hr 5 (by decide)).1 (hr 5 (by decide)).2]
              rw [e] at hi; exact hi
            have hfv : 0 ≤ firstT.i C.σ ∧ firstT.i C.σ < 4 := by
              have : firstT.i C.σ = (sumT.i C.σ).fmod 4 := rfl
              rw [this, Int.fmod_eq_emod_of_nonneg _ (by decide)]
              omega
            have hfe : ((firstT.i C.σ).toNat : Int) = firstT.i C.σ := by omega
            have hf4 : (firstT.i C.σ).toNat < 4 := by omega
            rw [← hfe]
            refine settle_call FC (g.mono R.keep) (ok.mono hd) hf4 hr hl hi fun ρ1 s1 R1 => ?_
            obtain ⟨hh, tk, e1⟩ := R1.same
            have kept : Kept s.heap s1.heap := R1.keep
            have R2 : Rel C ρ H s1 := by
              have := R.heapTok (h' := s1.heap) (t := tk) kept
              have e2 : s1 = { s with heap := s1.heap, toks := tk } := by rw [e1]
              rw [e2]; exact this
            obtain ⟨g6, g7, g8, g9, g10⟩ := HEnd_row
            have fr : ∀ i o, i < 11 → HEnd.t.get i = some o → o.live = true → s.heap.get? (ρ1 i) = Option.none := fun i o hi e1 e2 => R1.fresh i o (by rw [HEnd_n]; exact hi) e1 e2
            have bn : ∀ b, s.heap.get? b = Option.none → C.base.get? b = Option.none := fun b e => by
              cases hb : C.base.get? b with
              | none => rfl
              | some o => rw [R.keep _ _ hb] at e; cases e
            have av : ∀ b, s.heap.get? b = Option.none → Av ρ H b := fun b e i o hi ei li z => by
              obtain ⟨o', ho', dd⟩ := R.objs i hi
              rw [ei] at ho'; cases ho'
              obtain ⟨qq, hqq⟩ := dd.there li
              rw [z, e] at hqq; cases hqq
            have ne : ∀ i j oi oj, i < 11 → j < 11 → HEnd.t.get i = some oi → HEnd.t.get j = some oj → oi.live = true → oj.live = true → i ≠ j → ρ1 i ≠ ρ1 j := fun i j oi oj hi hj e1 e2 l1 l2 hij z =>
              hij (R1.inj i j oi oj (by rw [HEnd_n]; exact hi) (by rw [HEnd_n]; exact hj) e1 e2 l1 l2 z)
            have row : ∀ i (xs : List T), i < 11 → HEnd.t.get i = some (.list false (xs.map AV.int)) → ∃ vs : List Value, s1.heap.IsList (ρ1 i) vs.toArray ∧ DenL (turnsI (firstT.i C.σ).toNat C.σ 8) ρ1 HEnd.n (xs.map AV.int) vs := fun i xs hi e => by
              obtain ⟨o, ho, dd⟩ := R1.objs i (by rw [HEnd_n]; exact hi)
              rw [e] at ho; cases ho
              obtain ⟨vs, h1, _, h2⟩ := dd
              exact ⟨vs, h1, h2⟩
            have lv : ∀ n < 6, turnsI (firstT.i C.σ).toNat C.σ 8 n = (lowT n).i C.σ := fun n hn => settle_low (fun k hk => (hr k hk).1) hf4 hn
            obtain ⟨w6, i6, d6⟩ := row 6 _ (by decide) g6
            obtain ⟨w7, i7, d7⟩ := row 7 _ (by decide) g7
            obtain ⟨w8, i8, d8⟩ := row 8 _ (by decide) g8
            obtain ⟨w9, i9, d9⟩ := row 9 _ (by decide) g9
            obtain ⟨Ha, pa, hp⟩ := pushes_cons hp
            obtain ⟨Hb, pb, hp⟩ := pushes_cons hp
            obtain ⟨Hc, pc, hp⟩ := pushes_cons hp
            obtain ⟨Hd, pd, hp⟩ := pushes_cons hp
            obtain ⟨He, pe, hp⟩ := pushes_cons hp
            cases hp
            have f6 := fr 6 _ (by decide) g6 rfl
            have f7 := fr 7 _ (by decide) g7 rfl
            have f8 := fr 8 _ (by decide) g8 rfl
            have f9 := fr 9 _ (by decide) g9 rfl
            have f10 := fr 10 _ (by decide) g10 rfl
            have n67 := ne 6 7 _ _ (by decide) (by decide) g6 g7 rfl rfl (by decide)
            have n68 := ne 6 8 _ _ (by decide) (by decide) g6 g8 rfl rfl (by decide)
            have n69 := ne 6 9 _ _ (by decide) (by decide) g6 g9 rfl rfl (by decide)
            have n60 := ne 6 10 _ _ (by decide) (by decide) g6 g10 rfl rfl (by decide)
            have n78 := ne 7 8 _ _ (by decide) (by decide) g7 g8 rfl rfl (by decide)
            have n79 := ne 7 9 _ _ (by decide) (by decide) g7 g9 rfl rfl (by decide)
            have n70 := ne 7 10 _ _ (by decide) (by decide) g7 g10 rfl rfl (by decide)
            have n89 := ne 8 9 _ _ (by decide) (by decide) g8 g9 rfl rfl (by decide)
            have n80 := ne 8 10 _ _ (by decide) (by decide) g8 g10 rfl rfl (by decide)
            have n90 := ne 9 10 _ _ (by decide) (by decide) g9 g10 rfl rfl (by decide)
            have l0 := lv 0 (by decide)
            have l1 := lv 1 (by decide)
            have l2 := lv 2 (by decide)
            have l3 := lv 3 (by decide)
            have l4 := lv 4 (by decide)
            have l5 := lv 5 (by decide)
            obtain ⟨ρa, Ra, na, xa, ea, va⟩ := R2.pushAt pa (bn _ f6) (av _ f6) (fun _ e => by cases e) fun ρ' _ _ => ⟨w6, i6, (fun e => nomatch e), denL_ints (ys := [.lit 0, lowT 0, lowT 1, lowT 2]) (by simp only [List.map_cons, List.map_nil, ← l0, ← l1, ← l2]; rfl) d6⟩
            obtain ⟨ρb, Rb, nb, xb, eb, vb⟩ := Ra.pushAt pb (bn _ f7) (va _ n67.symm (av _ f7)) (fun _ e => by cases e) fun ρ' _ _ => ⟨w7, i7, (fun e => nomatch e), denL_ints (ys := [lowT 0, .lit 0, lowT 3, lowT 4]) (by simp only [List.map_cons, List.map_nil, ← l0, ← l3, ← l4]; rfl) d7⟩
            obtain ⟨ρc, Rc, nc, xc, ec, vc⟩ := Rb.pushAt pc (bn _ f8) (vb _ n78.symm (va _ n68.symm (av _ f8))) (fun _ e => by cases e) fun ρ' _ _ => ⟨w8, i8, (fun e => nomatch e), denL_ints (ys := [lowT 1, lowT 3, .lit 0, lowT 5]) (by simp only [List.map_cons, List.map_nil, ← l1, ← l3, ← l5]; rfl) d8⟩
            obtain ⟨ρd, Rd, nd, xd, ed, vd⟩ := Rc.pushAt pd (bn _ f9) (vc _ n89.symm (vb _ n79.symm (va _ n69.symm (av _ f9)))) (fun _ e => by cases e) fun ρ' _ _ => ⟨w9, i9, (fun e => nomatch e), denL_ints (ys := [lowT 2, lowT 4, lowT 5, .lit 0]) (by simp only [List.map_cons, List.map_nil, ← l2, ← l4, ← l5]; rfl) d9⟩
            obtain ⟨o10, ho10, dd10⟩ := R1.objs 10 (by rw [HEnd_n]; decide)
            rw [g10] at ho10; cases ho10
            obtain ⟨w10, i10, _, d10⟩ := dd10
            have m1 : H.n < Ha.n := by rw [na]; exact Nat.lt_succ_self _
            have m2 : Ha.n < Hb.n := by rw [nb]; exact Nat.lt_succ_self _
            have m3 : Hb.n < Hc.n := by rw [nc]; exact Nat.lt_succ_self _
            have m4 : Hc.n < Hd.n := by rw [nd]; exact Nat.lt_succ_self _
            have s2 : H.n + 2 = Hb.n := by rw [nb, na]
            have s3 : H.n + 3 = Hc.n := by rw [nc, nb, na]
            have s4 : H.n + 4 = Hd.n := by rw [nd, nc, nb, na]
            have x2 := Nat.lt_trans m1 m2
            have x3 := Nat.lt_trans x2 m3
            have x4 := Nat.lt_trans x3 m4
            have y3 := Nat.lt_trans m2 m3
            have y4 := Nat.lt_trans y3 m4
            have z4 := Nat.lt_trans m3 m4
            have q6 : ∀ ρ' : Nat → Addr, Ext Hd.n ρd ρ' → ρ' H.n = ρ1 6 ∧ ρ' (H.n + 1) = ρ1 7 ∧ ρ' (H.n + 2) = ρ1 8 ∧ ρ' (H.n + 3) = ρ1 9 := fun ρ' he => by
              refine ⟨?_, ?_, ?_, ?_⟩
              · rw [he _ x4, xd _ x3, xc _ x2, xb _ m1, ea]
              · rw [show H.n + 1 = Ha.n from na.symm, he _ y4, xd _ y3, xc _ m2, eb]
              · rw [s2, he _ z4, xd _ m3, ec]
              · rw [s3, he _ m4, ed]
            obtain ⟨ρe, Re, nne, xe, ee, ve⟩ := Rd.pushAt pe (bn _ f10) (vd _ n90.symm (vc _ n80.symm (vb _ n70.symm (va _ n60.symm (av _ f10))))) (fun _ e => by cases e) fun ρ' he _ => by
              obtain ⟨a6, a7, a8, a9⟩ := q6 ρ' he
              refine ⟨w10, i10, (fun e => nomatch e), ?_⟩
              obtain ⟨b0, b1, b2, b3, rfl, c0, c1, c2, c3⟩ := DenL.four d10
              exact ⟨⟨Nat.lt_succ_of_lt x4, by rw [a6]; exact c0.2⟩, ⟨Nat.succ_lt_succ x4, by rw [a7]; exact c1.2⟩, ⟨by rw [s2]; exact Nat.lt_succ_of_lt z4, by rw [a8]; exact c2.2⟩, ⟨by rw [s3]; exact Nat.lt_succ_of_lt m4, by rw [a9]; exact c3.2⟩, trivial⟩
            have xall : Ext H.n ρ ρe := (((xa.trans xb (Nat.le_of_lt m1)).trans xc (Nat.le_of_lt x2)).trans xd (Nat.le_of_lt x3)).trans xe (Nat.le_of_lt x4)
            refine k ρe _ s1 xall (by rw [nne]; exact Nat.le_succ_of_le (Nat.le_of_lt x4)) Re ⟨by rw [nne, s4]; exact Nat.lt_succ_self _, ?_⟩
            rw [s4, ee]
          · cases h
        · cases h
      · cases h
    · cases h

theorem settleSp_fn : ∀ a args H r, settleSp a args H = some r → ∃ f, fnTab a = some f := by
  intro a args H r h
  unfold settleSp at h
  cases ha : Nat.beq a 80 with
  | false => rw [ha] at h; cases h
  | true =>
    have := Nat.eq_of_beq_eq_true ha
    subst this
    exact ⟨_, settleFn_at⟩
end
end Mine
end
section
set_option maxRecDepth 100000
namespace Mine
open PySem PyProof.Rows

/-! ## the contract of `_law_trees` -/
noncomputable def sqT : List (List T) := [[.lit 0, .var 0, .var 1, .var 2], [.var 0, .lit 0, .var 3, .var 4], [.var 1, .var 3, .lit 0, .var 5], [.var 2, .var 4, .var 5, .lit 0]]
noncomputable def HQ : AH := AH.mk! (fsquare T.var)
noncomputable def treesP : Prm := prm latTbl 0 noSpec
noncomputable def treesRun : Res (AV × AH) := evF treesP (evN treesP 60) 12 97 [.obj 4] HQ
noncomputable def missTs : List T := trees.map missT
noncomputable def isTRow (H : AH) (a : Nat) (ts : List T) : Bool := match H.at a with
  | some (.list _ xs) => listInts xs ts
  | _ => false
theorem isTRow_out {H : AH} {a : Nat} {ts : List T} (h : isTRow H a ts = true) : ∃ p, H.at a = some (.list p (ts.map AV.int)) := by
  unfold isTRow at h
  split at h
  · rename_i p xs hx; rw [hx, listInts_eq h]; exact ⟨p, rfl⟩
  · cases h
theorem treesRun_ok : (match treesRun with | .ok (.obj k, H) => isTRow H k missTs | _ => false) = true := by decide +kernel
theorem treesRun_out : ∃ k H, treesRun = .ok (.obj k, H) ∧ isTRow H k missTs = true := by
  have h := treesRun_ok
  generalize treesRun = r at h
  split at h
  · rename_i k H; exact ⟨k, H, rfl, h⟩
  · cases h
theorem HQ_n : HQ.n = 5 := by decide +kernel
theorem HQ_0 : HQ.t.get 0 = some (.flist ([T.lit 0, .var 0, .var 1, .var 2].map AV.int)) := by kernel_rfl
theorem HQ_1 : HQ.t.get 1 = some (.flist ([T.var 0, .lit 0, .var 3, .var 4].map AV.int)) := by kernel_rfl
theorem HQ_2 : HQ.t.get 2 = some (.flist ([T.var 1, .var 3, .lit 0, .var 5].map AV.int)) := by kernel_rfl
theorem HQ_3 : HQ.t.get 3 = some (.flist ([T.var 2, .var 4, .var 5, .lit 0].map AV.int)) := by kernel_rfl
theorem HQ_4 : HQ.t.get 4 = some (.flist [.obj 0, .obj 1, .obj 2, .obj 3]) := by kernel_rfl

noncomputable def objsL : List AV → Option (List Nat)
  | [] => some []
  | x :: r => (match x with | .obj k => (objsL r).map fun l => k :: l | _ => Option.none)
theorem objsL_eq {xs : List AV} {l : List Nat} (h : objsL xs = some l) : xs = l.map AV.obj := by
  induction xs generalizing l with
  | nil => cases h; rfl
  | cons x r ih =>
    cases x with
    | obj k =>
      obtain ⟨l', h1, h2⟩ := Option.map_eq_some_iff.mp (show (objsL r).map (fun l => k :: l) = some l from h)
      subst h2
      rw [ih h1]; rfl
    | _ => exact absurd (show (Option.none : Option (List Nat)) = some l from h) (fun e => nomatch e)
noncomputable def sqOf (H : AH) (q : Nat) : Option (List Nat) := match H.at q with
  | some (.list _ xs) => objsL xs
  | _ => Option.none
theorem sqOf_out {H : AH} {q : Nat} {l : List Nat} (h : sqOf H q = some l) : ∃ p, H.at q = some (.list p (l.map AV.obj)) := by
  unfold sqOf at h
  split at h
  · rename_i p xs hx; rw [hx, objsL_eq h]; exact ⟨p, rfl⟩
  · cases h
noncomputable def treesOut (H : AH) : Option (AV × AH) := match H.push (.list false (missTs.map AV.int)) with
  | .ok H1 => some (.obj H.n, H1)
  | _ => Option.none
noncomputable def treesAt (q : Nat) (H : AH) : Option (AV × AH) := match sqOf H q with
  | some [a, b, c, d] => bif isTRow H a [.lit 0, .var 0, .var 1, .var 2] && (isTRow H b [.var 0, .lit 0, .var 3, .var 4] && (isTRow H c [.var 1, .var 3, .lit 0, .var 5] && isTRow H d [.var 2, .var 4, .var 5, .lit 0])) then treesOut H else Option.none
  | _ => Option.none
noncomputable def treesSp (a : Nat) (args : List AV) (H : AH) : Option (AV × AH) := bif Nat.beq a 97 then (match args with
  | [.obj q] => treesAt q H
  | _ => Option.none) else Option.none

section
variable {C : Cx} {ρ : Nat → Addr} {H H' : AH} {s : Shared} {A : Around}
theorem treesAt_ok {q : Nat} {v : AV} {Q : Value → Shared → Prop} (g : GH C.prog C.w C.base) (hr : ∀ k < 6, 0 ≤ C.σ k) (h : treesAt q H = some (v, H')) (R : Rel C ρ H s) (ok : AOk 13 A) (k : K C ρ H H' (DV C H' v) Q) :
    wpAny (model C.prog C.w) A (call (.ref 97) [.ref (ρ q)]) Q No s := by
  unfold treesAt at h
  split at h
  · rename_i a b c d hs
    obtain ⟨pq, hq⟩ := sqOf_out hs
    cases hc : (isTRow H a [.lit 0, .var 0, .var 1, .var 2] && (isTRow H b [.var 0, .lit 0, .var 3, .var 4] && (isTRow H c [.var 1, .var 3, .lit 0, .var 5] && isTRow H d [.var 2, .var 4, .var 5, .lit 0]))) with
    | false => rw [hc] at h; cases h
    | true =>
      rw [hc] at h
      have h : treesOut H = some (v, H') := h
      have hc := and_two hc
      have hc2 := and_two hc.2
      have hc3 := and_two hc2.2
      obtain ⟨pa, ha⟩ := isTRow_out hc.1
      obtain ⟨pb, hb⟩ := isTRow_out hc2.1
      obtain ⟨pc, hcc⟩ := isTRow_out hc3.1
      obtain ⟨pd, hd⟩ := isTRow_out hc3.2
      unfold treesOut at h
      split at h
      · rename_i H1 hp
        cases h
        obtain ⟨vq, lq, dq⟩ := row_obj R hq
        obtain ⟨va, la, da⟩ := row_obj R ha
        obtain ⟨vb, lb, db⟩ := row_obj R hb
        obtain ⟨vc, lc, dc⟩ := row_obj R hcc
        obtain ⟨vd, ld, dd⟩ := row_obj R hd
        obtain ⟨u0, u1, u2, u3, rfl, e0, e1, e2, e3⟩ := DenL.four dq
        let ρ2 : Nat → Addr := fun k => match k with | 0 => ρ a | 1 => ρ b | 2 => ρ c | 3 => ρ d | _ => ρ q
        have keys : ∀ k, k < 5 → k = 0 ∨ k = 1 ∨ k = 2 ∨ k = 3 ∨ k = 4 := by decide
        have R2 : Rel ⟨C.prog, C.w, C.σ, s.heap, s⟩ ρ2 HQ s := Rel.start rfl rfl fun k hk => by
          rw [HQ_n] at hk ⊢
          rcases keys k hk with rfl | rfl | rfl | rfl | rfl
          · exact ⟨_, HQ_0, va, la, denL_ints rfl da⟩
          · exact ⟨_, HQ_1, vb, lb, denL_ints rfl db⟩
          · exact ⟨_, HQ_2, vc, lc, denL_ints rfl dc⟩
          · exact ⟨_, HQ_3, vd, ld, denL_ints rfl dd⟩
          · exact ⟨_, HQ_4, _, lq, ⟨by decide, e0.2⟩, ⟨by decide, e1.2⟩, ⟨by decide, e2.2⟩, ⟨by decide, e3.2⟩, trivial⟩
        have F2 : Facts ⟨C.prog, C.w, C.σ, s.heap, s⟩ treesP := facts (C := ⟨C.prog, C.w, C.σ, s.heap, s⟩) (t := latTbl) (sd := 0) (sp := noSpec) (g.mono R.keep) (fun c b h => latTbl_ok hr h) noSpec_fn (fun _ _ _ _ _ h => by cases h)
        obtain ⟨kk, HH, hrun, hk⟩ := treesRun_out
        obtain ⟨p, ho⟩ := isTRow_out hk
        refine call_sound F2 60 (d := 12) hrun R2 (vals := [.ref (ρ q)]) ⟨⟨by rw [HQ_n]; decide, rfl⟩, trivial⟩ ok fun ρ' u s' he hn R' du => ?_
        obtain ⟨hlt, rfl⟩ := du
        obtain ⟨hh, tk, es⟩ := R'.same
        have e : s' = { s with heap := s'.heap, toks := tk } := by rw [es]
        obtain ⟨us, hl, _, hden⟩ := R'.obj ho
        obtain ⟨hk1, hk2⟩ := AH.at_some ho
        have hfr : s.heap.get? (ρ' kk) = Option.none := R'.fresh kk _ hk1 hk2 rfl
        have ⟨R3, hn3, he3⟩ := R.push hp (h' := s'.heap) (t := tk) hfr R'.keep ⟨us, hl, (fun e => nomatch e), denL_ints rfl hden⟩
        rw [e]
        refine k _ _ _ he3 (by omega) R3 ⟨by omega, ?_⟩
        show _ = Value.ref (if H.n = H.n then _ else _)
        rw [if_pos rfl]
      · cases h
  · cases h
theorem treesSp_ok (g : GH C.prog C.w C.base) (hr : ∀ k < 6, 0 ≤ C.σ k) : ∀ a args H v H', treesSp a args H = some (v, H') → ∀ d ρ s A vs Q, 20 ≤ d → Rel C ρ H s → DenL C.σ ρ H.n args vs → AOk d A → K C ρ H H' (DV C H' v) Q →
    wpAny (model C.prog C.w) A (call (.ref a) vs) Q No s := by
  intro a args H v H' h d ρ s A vs Q hd R da ok k
  unfold treesSp at h
  cases ha : Nat.beq a 97 with
  | false => rw [ha] at h; cases h
  | true =>
    rw [ha] at h
    have := Nat.eq_of_beq_eq_true ha
    subst this
    simp only [cond_true] at h
    split at h
    · obtain ⟨u, rfl, ⟨_, hu⟩⟩ := DenL.one da
      subst hu
      exact treesAt_ok g hr h R (ok.mono (by omega)) k
    · cases h
theorem treesSp_fn : ∀ a args H r, treesSp a args H = some r → ∃ f, fnTab a = some f := by
  intro a args H r h
  unfold treesSp at h
  cases ha : Nat.beq a 97 with
  | false => rw [ha] at h; cases h
  | true =>
    have := Nat.eq_of_beq_eq_true ha
    subst this
    exact ⟨_, rfl⟩

noncomputable def lawSp (a : Nat) (args : List AV) (H : AH) : Option (AV × AH) := match settleSp a args H with
  | some r => some r
  | Option.none => treesSp a args H
theorem lawSp_ok {wf : Int → Int → Int → Nat} (FC : FallsC C.prog C.w wf) (g : GH C.prog C.w C.base) (hr : ∀ k < 6, 0 ≤ C.σ k ∧ C.σ k < 4096) :
    ∀ a args H v H', lawSp a args H = some (v, H') → ∀ d ρ s A vs Q, 20 ≤ d → Rel C ρ H s → DenL C.σ ρ H.n args vs → AOk d A → K C ρ H H' (DV C H' v) Q → wpAny (model C.prog C.w) A (call (.ref a) vs) Q No s := by
  intro a args H v H' h
  unfold lawSp at h
  cases hs : settleSp a args H with
  | some r => rw [hs] at h; exact settleSp_ok FC g hr a args H v H' (hs.trans h)
  | none => rw [hs] at h; exact treesSp_ok g (fun k hk => (hr k hk).1) a args H v H' h
theorem lawSp_fn : ∀ a args H r, lawSp a args H = some r → ∃ f, fnTab a = some f := by
  intro a args H r h
  unfold lawSp at h
  cases hs : settleSp a args H with
  | some r' => exact settleSp_fn a args H r' hs
  | none => rw [hs] at h; exact treesSp_fn a args H r h
end
end Mine
end
section
set_option maxRecDepth 100000
namespace Mine
open PySem PyProof.Rows

noncomputable def lawFn : Fn := (fnTab 102).getD ⟨[], default, []⟩
noncomputable def toldRows : List (Cond × Bool) := (List.range 6).map fun k => (.ieq (toldT k) (.var k), true)
/-- the greatest fall, as the law writes it -/
noncomputable def tabT (i j : Nat) : T := match (fsquare T.var)[i]? with
  | some (.flist xs) => (match xs[j]? with | some (.int e) => e | _ => .lit 0)
  | _ => .lit 0
noncomputable def lowIJ (i j : Nat) : T := match (fsquare lowT)[i]? with
  | some (.flist xs) => (match xs[j]? with | some (.int e) => e | _ => .lit 0)
  | _ => .lit 0
noncomputable def fallsL : List T := (List.range 4).flatMap fun i => (List.range 4).map fun j => tsub (tabT i j) (lowIJ i j)
noncomputable def fallT : T := match fallsL with | a :: r => r.foldl tmax a | [] => .lit 0
noncomputable def bestT : T := match trees.map missT with | a :: r => r.foldl tmin a | [] => .lit 0
noncomputable def lastRows : List (Cond × Bool) := [(.ieq bestT fallT, true)]
noncomputable def lawTbl (c : Cond) : Option Bool := match findC c lastRows with
  | some b => some b
  | Option.none => match readTbl c with
    | some b => some b
    | Option.none => match findC c toldRows with
      | some b => some b
      | Option.none => latTbl c
noncomputable def aeL : AEnv := ⟨lawFn.scope, 0, layCells lawFn.scope.names 1 []⟩
noncomputable def HL : AH := AH.mk! [.ns [("prices", .obj 9)], .any, .any, .cell Option.none, .cell Option.none, .any, .any, .any, .any, .list false ((List.range 6).map fun k => .int (.var k))]
noncomputable def PL : Prm := prm lawTbl 20 lawSp
noncomputable def lawRun : Res (AFlow × AH) := evSs (evN PL 80) 25 aeL (lawFn.body.drop 2) HL
end Mine
end
section
set_option maxRecDepth 100000
namespace Mine
open PySem PyProof.Rows

noncomputable def dT (n : Nat) : T := .iop .sub (.var n) (lowT n)
theorem fallsL_eq : fallsL = [.lit 0, dT 0, dT 1, dT 2, dT 0, .lit 0, dT 3, dT 4, dT 1, dT 3, .lit 0, dT 5, dT 2, dT 4, dT 5, .lit 0] := by kernel_rfl
theorem dT_i (σ : Nat → Int) (n : Nat) : (dT n).i σ = σ n - (lowT n).i σ := rfl
theorem fallT_eq : fallT = [dT 0, dT 1, dT 2, dT 0, .lit 0, dT 3, dT 4, dT 1, dT 3, .lit 0, dT 5, dT 2, dT 4, dT 5, .lit 0].foldl tmax (.lit 0) := by
  unfold fallT; rw [fallsL_eq]
theorem fall_ge (σ : Nat → Int) : 0 ≤ fallT.i σ ∧ ∀ n < 6, σ n - (lowT n).i σ ≤ fallT.i σ := by
  rw [fallT_eq]
  have h := (foldl_tmax σ [dT 0, dT 1, dT 2, dT 0, .lit 0, dT 3, dT 4, dT 1, dT 3, .lit 0, dT 5, dT 2, dT 4, dT 5, .lit 0] (.lit 0)).2
  refine ⟨h 0 (by simp [T.i]), fun n hn => ?_⟩
  rw [← dT_i]
  refine h _ ?_
  match n, hn with
  | 0, _ => simp
  | 1, _ => simp
  | 2, _ => simp
  | 3, _ => simp
  | 4, _ => simp
  | 5, _ => simp
theorem fall_in (σ : Nat → Int) : fallT.i σ = 0 ∨ ∃ n < 6, fallT.i σ = σ n - (lowT n).i σ := by
  rw [fallT_eq]
  have h := (foldl_tmax σ [dT 0, dT 1, dT 2, dT 0, .lit 0, dT 3, dT 4, dT 1, dT 3, .lit 0, dT 5, dT 2, dT 4, dT 5, .lit 0] (.lit 0)).1
  generalize ([dT 0, dT 1, dT 2, dT 0, .lit 0, dT 3, dT 4, dT 1, dT 3, .lit 0, dT 5, dT 2, dT 4, dT 5, .lit 0].foldl tmax (.lit 0)).i σ = z at h ⊢
  simp only [List.map_cons, List.map_nil, List.mem_cons, List.not_mem_nil, or_false, dT_i] at h
  have e0 : (T.lit 0).i σ = 0 := rfl
  rw [e0] at h
  rcases h with h | h | h | h | h | h | h | h | h | h | h | h | h | h | h | h
  · exact .inl h
  · exact .inr ⟨0, by decide, h⟩
  · exact .inr ⟨1, by decide, h⟩
  · exact .inr ⟨2, by decide, h⟩
  · exact .inr ⟨0, by decide, h⟩
  · exact .inl h
  · exact .inr ⟨3, by decide, h⟩
  · exact .inr ⟨4, by decide, h⟩
  · exact .inr ⟨1, by decide, h⟩
  · exact .inr ⟨3, by decide, h⟩
  · exact .inl h
  · exact .inr ⟨5, by decide, h⟩
  · exact .inr ⟨2, by decide, h⟩
  · exact .inr ⟨4, by decide, h⟩
  · exact .inr ⟨5, by decide, h⟩
  · exact .inl h

theorem best_spec (σ : Nat → Int) : (∃ gs ∈ trees, bestT.i σ = (missT gs).i σ) ∧ ∀ gs ∈ trees, bestT.i σ ≤ (missT gs).i σ := by
  have hb : ∃ a r, trees.map missT = a :: r ∧ bestT = r.foldl tmin a := ⟨_, _, rfl, rfl⟩
  obtain ⟨a, r, h1, h2⟩ := hb
  rw [h2]
  obtain ⟨h3, h4⟩ := foldl_tmin σ r a
  rw [← h1, List.map_map] at h3 h4
  refine ⟨?_, fun gs hg => h4 _ (List.mem_map.mpr ⟨gs, hg, rfl⟩)⟩
  obtain ⟨gs, hg, e⟩ := List.mem_map.mp h3
  exact ⟨gs, hg, e.symm⟩

/-- the least miss is the greatest fall -/
theorem best_fall (σ : Nat → Int) : bestT.i σ = fallT.i σ := by
  obtain ⟨⟨gs, hg, e⟩, hle⟩ := best_spec σ
  obtain ⟨h0, hn⟩ := fall_ge σ
  obtain ⟨gs', hg', h'⟩ := miss_le σ h0 hn
  have h1 := hle gs' hg'
  have h2 : fallT.i σ ≤ bestT.i σ := by
    rcases fall_in σ with h | ⟨n, hn6, h⟩
    · rw [h, e]; exact missT_ge0 σ gs
    · rw [h, e]; exact miss_ge σ hg hn6
  omega

theorem lawTbl_ok {σ : Nat → Int} (hr : ∀ k < 6, 0 ≤ σ k ∧ σ k < 4096) {c : Cond} {b : Bool} (h : lawTbl c = some b) : c.holds σ = b := by
  unfold lawTbl at h
  split at h
  · rename_i b' h1
    cases h
    refine findC_ok (fun p hp => ?_) h1
    rcases List.mem_cons.mp hp with rfl | hp
    · show (bestT.i σ == fallT.i σ) = true
      rw [best_fall]; simp
    · cases hp
  · split at h
    · rename_i b' h1
      cases h; exact readTbl_ok hr h1
    · split at h
      · rename_i b' h1
        cases h
        refine findC_ok (fun p hp => ?_) h1
        obtain ⟨k, hk, rfl⟩ := List.mem_map.mp hp
        have := hr k (List.mem_range.mp hk)
        show ((toldT k).i σ == σ k) = true
        rw [toldT_i this.1 this.2]; simp
      · exact latTbl_ok (fun k hk => (hr k hk).1) h

theorem lawRun_ok : (match lawRun with | .ok (.ret (.bool true), _) => true | _ => false) = true := by decide +kernel

theorem law_rest {prog : Program} {w : World} {wf : Int → Int → Int → Nat} {σ : Nat → Int} {base : Heap} {s0 s : Shared} {A : Around} {env : Env} {ρ : Nat → Addr} (FC : FallsC prog w wf) (g : GH prog w base) (hr : ∀ k < 6, 0 ≤ σ k ∧ σ k < 4096)
    (ok : AOk 25 A) (E : EnvRel ρ HL.n aeL env) (R : Rel ⟨prog, w, σ, base, s0⟩ ρ HL s) {Q : Flow → Shared → Prop} (hQ : ∀ s', Kept base s'.heap → (∃ h tk, s' = { s0 with heap := h, toks := tk }) → Q (.ret (.bool true)) s') :
    wpAny (model prog w) A (execs (lawFn.body.drop 2) env) Q No s := by
  have F : Facts ⟨prog, w, σ, base, s0⟩ PL := facts g (fun c b h => lawTbl_ok hr h) lawSp_fn (lawSp_ok FC g hr)
  have h := lawRun_ok
  split at h
  · rename_i H' h1
    refine evSs_ok (ev_sound F 80) ok E R h1 fun ρ' u s' he hn R' du => ?_
    obtain ⟨v, rfl, dv⟩ := du
    have dv : v = .bool true := dv
    subst dv
    exact hQ s' R'.keep R'.same
  · cases h
end Mine
end
section
set_option maxRecDepth 100000
namespace Mine
open PySem PyProof.Rows Float64

/-! ## floats between two written floats -/
/-- x is not below the float of magnitude lo, nor above that of magnitude hi -/
noncomputable def Btw (lo hi : Nat) (x : UInt64) : Prop := ∃ t, t < infMag ∧ x = pack false t ∧ V lo ≤ V t ∧ V t ≤ V hi
/-- the same below zero -/
noncomputable def BtwN (lo hi : Nat) (x : UInt64) : Prop := ∃ t, t < infMag ∧ x = pack true t ∧ V lo ≤ V t ∧ V t ≤ V hi

theorem inf_big : (2 : Nat) ^ 1100 < (2 ^ 54 - 1) * 2 ^ 2045 := by decide +kernel

theorem dist_lo {a b w : Nat} (h1 : b ≤ w) (h2 : a < b) (h3 : dist w a ≤ dist w b) : False := by unfold dist at h3; omega
theorem dist_hi {a b w : Nat} (h1 : w ≤ b) (h2 : b < a) (h3 : dist w a ≤ dist w b) : False := by unfold dist at h3; omega
theorem right_between {r : UInt64} {neg : Bool} {W D lo hi : Nat} (h : Right r neg W D) (hD : 0 < D) (h1 : D * V lo ≤ W) (h2 : W ≤ D * V hi) (hb : V hi ≤ 2 ^ 1099) : ∃ t, t < infMag ∧ r = pack neg t ∧ V lo ≤ V t ∧ V t ≤ V hi := by
  obtain ⟨t, e, ht, hov, hn⟩ := h
  have hlt : t < infMag := by
    rcases Nat.lt_or_ge t infMag with h | h
    · exact h
    · exfalso
      have := hov.mp (by omega)
      have h3 : 2 * W ≤ D * 2 ^ 1100 := by
        calc 2 * W ≤ 2 * (D * V hi) := Nat.mul_le_mul_left 2 h2
          _ ≤ 2 * (D * 2 ^ 1099) := Nat.mul_le_mul_left 2 (Nat.mul_le_mul_left D hb)
          _ = D * 2 ^ 1100 := by rw [show (2 : Nat) ^ 1100 = 2 * 2 ^ 1099 by rw [Nat.pow_succ]; omega]; rw [Nat.mul_left_comm]
      have h4 : D * 2 ^ 1100 < D * ((2 ^ 54 - 1) * 2 ^ 2045) := Nat.mul_lt_mul_of_pos_left inf_big hD
      exact absurd (Nat.le_trans this h3) (Nat.not_le.mpr h4)
  refine ⟨t, hlt, e, ?_, ?_⟩
  · rcases Nat.lt_or_ge (V t) (V lo) with hl | hl
    · exfalso
      exact dist_lo h1 (Nat.mul_lt_mul_of_pos_left hl hD) (hn hlt lo).1
    · exact hl
  · rcases Nat.lt_or_ge (V hi) (V t) with hl | hl
    · exfalso
      exact dist_hi h2 (Nat.mul_lt_mul_of_pos_left hl hD) (hn hlt hi).1
    · exact hl

theorem val_pos {t : Nat} (h : t < infMag) : val (pack false t) = (V t : Int) := by rw [val_pack false h]; rfl
theorem val_neg' {t : Nat} (h : t < infMag) : val (pack true t) = -(V t : Int) := by rw [val_pack true h]; rfl

/-- a quotient -/
theorem ofFrac_btw {n d lo hi : Nat} (hd : 0 < d) (h1 : d * V lo ≤ n * 2 ^ 1074) (h2 : n * 2 ^ 1074 ≤ d * V hi) (hb : V hi ≤ 2 ^ 1099) : Btw lo hi (ofFrac false n d) :=
  right_between (ofFrac_right (W := n * 2 ^ 1074) (D := d) hd (by rw [Nat.mul_comm]) hd) hd h1 h2 hb

theorem div_btw {x : UInt64} {lo hi lo' hi' u : Nat} (h : Btw lo hi x) (hu : u < infMag) (h0 : 0 < V u) (h1 : V u * V lo' ≤ V lo * 2 ^ 1074) (h2 : V hi * 2 ^ 1074 ≤ V u * V hi') (hb : V hi' ≤ 2 ^ 1099) : Btw lo' hi' (div x (pack false u)) := by
  obtain ⟨t, ht, rfl, hl, hh⟩ := h
  obtain ⟨m, e, hd, hv⟩ := decode_pack false ht
  obtain ⟨k, f, hd', hv'⟩ := decode_pack false hu
  have hk : k ≠ 0 := fun z => by subst z; rw [← hv'] at h0; simp at h0
  have r := div_right hd hd' hk
  rw [val_pos ht, val_pos hu, Int.natAbs_natCast, Int.natAbs_natCast] at r
  exact right_between r h0 (Nat.le_trans h1 (Nat.mul_le_mul_right _ hl)) (Nat.le_trans (Nat.mul_le_mul_right _ hh) h2) hb
theorem div_btwN {x : UInt64} {lo hi lo' hi' u : Nat} (h : BtwN lo hi x) (hu : u < infMag) (h0 : 0 < V u) (h1 : V u * V lo' ≤ V lo * 2 ^ 1074) (h2 : V hi * 2 ^ 1074 ≤ V u * V hi') (hb : V hi' ≤ 2 ^ 1099) : BtwN lo' hi' (div x (pack false u)) := by
  obtain ⟨t, ht, rfl, hl, hh⟩ := h
  obtain ⟨m, e, hd, hv⟩ := decode_pack true ht
  obtain ⟨k, f, hd', hv'⟩ := decode_pack false hu
  have hk : k ≠ 0 := fun z => by subst z; rw [← hv'] at h0; simp at h0
  have r := div_right hd hd' hk
  rw [val_neg' ht, val_pos hu, Int.natAbs_neg, Int.natAbs_natCast, Int.natAbs_natCast] at r
  exact right_between r h0 (Nat.le_trans h1 (Nat.mul_le_mul_right _ hl)) (Nat.le_trans (Nat.mul_le_mul_right _ hh) h2) hb

theorem mul_btw {x : UInt64} {lo hi lo' hi' u : Nat} (h : Btw lo hi x) (hu : u < infMag) (h1 : 2 ^ 1074 * V lo' ≤ V lo * V u) (h2 : V hi * V u ≤ 2 ^ 1074 * V hi') (hb : V hi' ≤ 2 ^ 1099) : Btw lo' hi' (mul x (pack false u)) := by
  obtain ⟨t, ht, rfl, hl, hh⟩ := h
  obtain ⟨m, e, hd, hv⟩ := decode_pack false ht
  obtain ⟨k, f, hd', hv'⟩ := decode_pack false hu
  have r := mul_right hd hd'
  rw [val_pos ht, val_pos hu, Int.natAbs_natCast, Int.natAbs_natCast] at r
  exact right_between r (Nat.two_pow_pos _) (Nat.le_trans h1 (Nat.mul_le_mul_right _ hl)) (Nat.le_trans (Nat.mul_le_mul_right _ hh) h2) hb

theorem sg1 {t u : Nat} (h : u < t) : (t : Int) - (u : Int) ≠ 0 ∧ decide ((t : Int) - (u : Int) < 0) = false ∧ ((t : Int) - (u : Int)).natAbs = t - u := ⟨by omega, decide_eq_false (by omega), by omega⟩
theorem sg2 {t u : Nat} (h : u < t) : (u : Int) - (t : Int) ≠ 0 ∧ decide ((u : Int) - (t : Int) < 0) = true ∧ ((u : Int) - (t : Int)).natAbs = t - u := ⟨by omega, decide_eq_true (by omega), by omega⟩
theorem sg3' {t u : Nat} (h : u < t) : -(u : Int) + (t : Int) ≠ 0 ∧ decide (-(u : Int) + (t : Int) < 0) = false ∧ (-(u : Int) + (t : Int)).natAbs = t - u := ⟨by omega, decide_eq_false (by omega), by omega⟩
theorem sg4 {t u : Nat} (h : 0 < t + u) : (t : Int) + (u : Int) ≠ 0 ∧ decide ((t : Int) + (u : Int) < 0) = false ∧ ((t : Int) + (u : Int)).natAbs = t + u := ⟨by omega, decide_eq_false (by omega), by omega⟩
theorem one_le' {x w : Nat} (h : x ≤ w) : 1 * x ≤ w := by rw [Nat.one_mul]; exact h
theorem le_one' {x w : Nat} (h : w ≤ x) : w ≤ 1 * x := by rw [Nat.one_mul]; exact h
theorem df_lo {t u a d lo : Nat} (hl : a ≤ t) (hh : u ≤ d) (h1 : lo + d ≤ a) : lo ≤ t - u := Nat.le_sub_of_add_le (Nat.le_trans (Nat.add_le_add_left hh _) (Nat.le_trans h1 hl))
theorem df_hi {t u b c hi : Nat} (hh : t ≤ b) (hl : c ≤ u) (h2 : b ≤ hi + c) : t - u ≤ hi := Nat.sub_le_of_le_add (Nat.le_trans hh (Nat.le_trans h2 (Nat.add_le_add_left hl _)))
theorem add_btw {x y : UInt64} {a b c d lo hi : Nat} (hx : Btw a b x) (hy : Btw c d y) (h0 : 0 < V a + V c) (h1 : V lo ≤ V a + V c) (h2 : V b + V d ≤ V hi) (hb : V hi ≤ 2 ^ 1099) : Btw lo hi (add x y) := by
  obtain ⟨t, ht, rfl, hl, hh⟩ := hx
  obtain ⟨u, hu, rfl, hl', hh'⟩ := hy
  obtain ⟨m, e, hd, hv⟩ := decode_pack false ht
  obtain ⟨k, f, hd', hv'⟩ := decode_pack false hu
  obtain ⟨e0, e1, e2⟩ := sg4 (Nat.lt_of_lt_of_le h0 (Nat.add_le_add hl hl'))
  have r := (add_right hd hd').2 (by rw [val_pos ht, val_pos hu]; exact e0)
  rw [val_pos ht, val_pos hu, e1, e2] at r
  exact right_between r (by decide) (one_le' (Nat.le_trans h1 (Nat.add_le_add hl hl'))) (le_one' (Nat.le_trans (Nat.add_le_add hh hh') h2)) hb

/-- a positive difference -/
theorem sub_btw {x y : UInt64} {a b c d lo hi : Nat} (hx : Btw a b x) (hy : Btw c d y) (h0 : V d < V a) (h1 : V lo + V d ≤ V a) (h2 : V b ≤ V hi + V c) (hb : V hi ≤ 2 ^ 1099) : Btw lo hi (sub x y) := by
  obtain ⟨t, ht, rfl, hl, hh⟩ := hx
  obtain ⟨u, hu, rfl, hl', hh'⟩ := hy
  obtain ⟨m, e, hd, hv⟩ := decode_pack false ht
  obtain ⟨k, f, hd', hv'⟩ := decode_pack false hu
  obtain ⟨e0, e1, e2⟩ := sg1 (Nat.lt_of_le_of_lt hh' (Nat.lt_of_lt_of_le h0 hl))
  have r := (sub_right hd hd').2 (by rw [val_pos ht, val_pos hu]; exact e0)
  rw [val_pos ht, val_pos hu, e1, e2] at r
  exact right_between r (by decide) (one_le' (df_lo hl hh' h1)) (le_one' (df_hi hh hl' h2)) hb
/-- a negative difference -/
theorem sub_btwN {x y : UInt64} {a b c d lo hi : Nat} (hx : Btw a b x) (hy : Btw c d y) (h0 : V b < V c) (h1 : V lo + V b ≤ V c) (h2 : V d ≤ V hi + V a) (hb : V hi ≤ 2 ^ 1099) : BtwN lo hi (sub x y) := by
  obtain ⟨t, ht, rfl, hl, hh⟩ := hx
  obtain ⟨u, hu, rfl, hl', hh'⟩ := hy
  obtain ⟨m, e, hd, hv⟩ := decode_pack false ht
  obtain ⟨k, f, hd', hv'⟩ := decode_pack false hu
  obtain ⟨e0, e1, e2⟩ := sg2 (Nat.lt_of_le_of_lt hh (Nat.lt_of_lt_of_le h0 hl'))
  have r := (sub_right hd hd').2 (by rw [val_pos ht, val_pos hu]; exact e0)
  rw [val_pos ht, val_pos hu, e1, e2] at r
  exact right_between r (by decide) (one_le' (df_lo hl' hh h1)) (le_one' (df_hi hh' hl h2)) hb
/-- below zero and more above: still above -/
theorem addN_btw {x y : UInt64} {a b c d lo hi : Nat} (hx : BtwN a b x) (hy : Btw c d y) (h0 : V b < V c) (h1 : V lo + V b ≤ V c) (h2 : V d ≤ V hi + V a) (hb : V hi ≤ 2 ^ 1099) : Btw lo hi (add x y) := by
  obtain ⟨t, ht, rfl, hl, hh⟩ := hx
  obtain ⟨u, hu, rfl, hl', hh'⟩ := hy
  obtain ⟨m, e, hd, hv⟩ := decode_pack true ht
  obtain ⟨k, f, hd', hv'⟩ := decode_pack false hu
  obtain ⟨e0, e1, e2⟩ := sg3' (Nat.lt_of_le_of_lt hh (Nat.lt_of_lt_of_le h0 hl'))
  have r := (add_right hd hd').2 (by rw [val_neg' ht, val_pos hu]; exact e0)
  rw [val_neg' ht, val_pos hu, e1, e2] at r
  exact right_between r (by decide) (one_le' (df_lo hl' hh h1)) (le_one' (df_hi hh' hl h2)) hb

theorem V_inj {t u : Nat} (h : V t = V u) : t = u := by
  rcases Nat.lt_trichotomy t u with h1 | h1 | h1
  · have := V_lt h1; omega
  · exact h1
  · have := V_lt h1; omega
theorem Btw.eq {c : Nat} {x : UInt64} (h : Btw c c x) : x = pack false c := by
  obtain ⟨t, _, rfl, h1, h2⟩ := h
  rw [V_inj (Nat.le_antisymm h2 h1)]
theorem Btw.self {c : Nat} (h : c < infMag) : Btw c c (pack false c) := ⟨c, h, rfl, Nat.le_refl _, Nat.le_refl _⟩
theorem Btw.mono {a b c d : Nat} {x : UInt64} (h : Btw a b x) (h1 : V c ≤ V a) (h2 : V b ≤ V d) : Btw c d x := by
  obtain ⟨t, h3, h4, h5, h6⟩ := h
  exact ⟨t, h3, h4, Nat.le_trans h1 h5, Nat.le_trans h6 h2⟩

/-- the int of it -/
theorem trunc_btw {x : UInt64} {lo hi : Nat} {n : Nat} (h : Btw lo hi x) (h1 : n * 2 ^ 1074 ≤ V lo) (h2 : V hi < (n + 1) * 2 ^ 1074) : truncI x = n ∧ isFinite x = true := by
  obtain ⟨t, ht, rfl, hl, hh⟩ := h
  obtain ⟨m, e, hd, hv⟩ := decode_pack false ht
  have hge := decode_ge hd
  refine ⟨?_, by unfold isFinite; rw [hd]⟩
  unfold truncI
  rw [hd]
  show truncOf false m e = n
  unfold truncOf floorOf sgn
  simp only [Bool.false_eq_true, if_false]
  have hpos : 0 < (2 : Nat) ^ 1074 := Nat.two_pow_pos _
  by_cases he : e ≥ 0
  · rw [if_pos he]
    have e1 : (e + 1074).toNat = e.toNat + 1074 := by omega
    rw [e1, Nat.pow_add, ← Nat.mul_assoc] at hv
    have h3 : n ≤ m * 2 ^ e.toNat := Nat.le_of_mul_le_mul_right (by rw [hv]; exact Nat.le_trans h1 hl) hpos
    have h4 : m * 2 ^ e.toNat < n + 1 := Nat.lt_of_mul_lt_mul_right (a := 2 ^ 1074) (by rw [hv]; exact Nat.lt_of_le_of_lt hh h2)
    have : m * 2 ^ e.toNat = n := Nat.le_antisymm (Nat.le_of_lt_succ h4) h3
    rw [← this]; push_cast; rfl
  · rw [if_neg he]
    have e1 : 1074 = (e + 1074).toNat + (-e).toNat := by omega
    have e2 : (2 : Nat) ^ 1074 = 2 ^ (e + 1074).toNat * 2 ^ (-e).toNat := by rw [← Nat.pow_add, ← e1]
    have hp2 : 0 < (2 : Nat) ^ (e + 1074).toNat := Nat.two_pow_pos _
    have h3 : n * 2 ^ (-e).toNat ≤ m := Nat.le_of_mul_le_mul_right (c := 2 ^ (e + 1074).toNat) (by
      rw [hv]
      have : n * 2 ^ (-e).toNat * 2 ^ (e + 1074).toNat = n * 2 ^ 1074 := by rw [e2]; ac_rfl
      rw [this]; exact Nat.le_trans h1 hl) hp2
    have h4 : m < (n + 1) * 2 ^ (-e).toNat := Nat.lt_of_mul_lt_mul_right (a := 2 ^ (e + 1074).toNat) (by
      rw [hv]
      have : (n + 1) * 2 ^ (-e).toNat * 2 ^ (e + 1074).toNat = (n + 1) * 2 ^ 1074 := by rw [e2]; ac_rfl
      rw [this]; exact Nat.lt_of_le_of_lt hh h2)
    have h5 : m / 2 ^ (-e).toNat = n := by
      refine Nat.div_eq_of_lt_le ?_ ?_
      · exact h3
      · exact h4
    have : (m : Int).fdiv (2 ^ (-e).toNat) = ((m / 2 ^ (-e).toNat : Nat) : Int) := by
      rw [Int.fdiv_eq_ediv_of_nonneg _ (by exact_mod_cast Nat.zero_le _)]; push_cast; rfl
    rw [this, h5]
end Mine
end
section
set_option maxRecDepth 100000
set_option exponentiation.threshold 3000
namespace Mine
open PySem PyProof.Rows Float64

/-- the magnitude of a quotient -/
abbrev mg (n d : Nat) : Nat := roundMag n d
noncomputable def fl (k : Nat) : UInt64 := ofFrac false k 4096
theorem fl_eq (k : Nat) : fl k = pack false (mg k 4096) := by unfold fl ofFrac; rfl
/-- a quotient that a float holds is rounded to itself -/
theorem mg_exact {n d t : Nat} (hd : 0 < d) (h : d * V t = n * 2 ^ 1074) (hb : V t ≤ 2 ^ 1099) : V (mg n d) = V t ∧ mg n d < infMag := by
  have hov : roundMag n d < infMag := by
    rcases Nat.lt_or_ge (roundMag n d) infMag with h1 | h1
    · exact h1
    · exfalso
      have e := Nat.le_antisymm (by rw [roundMag_min]; exact Nat.min_le_left _ _) h1
      have h2 := (over_of (W := n * 2 ^ 1074) (D := d) hd rfl hd).mp e
      rw [← h] at h2
      have h3 : 2 * (d * V t) ≤ d * 2 ^ 1100 := by
        calc 2 * (d * V t) ≤ 2 * (d * 2 ^ 1099) := Nat.mul_le_mul_left 2 (Nat.mul_le_mul_left d hb)
          _ = d * 2 ^ 1100 := by rw [Nat.pow_succ 2 1099, Nat.mul_left_comm, Nat.mul_comm 2]
      exact absurd (Nat.le_trans h2 h3) (Nat.not_le.mpr (Nat.mul_lt_mul_of_pos_left inf_big hd))
  have hx := (right_of (W := n * 2 ^ 1074) (D := d) hd rfl hd hov t).1
  rw [← h] at hx
  refine ⟨Nat.eq_of_mul_eq_mul_left hd ?_, hov⟩
  show d * V (roundMag n d) = d * V t
  generalize d * V (roundMag n d) = a at hx ⊢
  generalize d * V t = b at hx ⊢
  unfold dist at hx
  omega
theorem V_has {k s : Nat} (hk : k < 4096) (hs : 52 ≤ s) : ∃ t, V t = k * 2 ^ s := by
  rcases Nat.eq_zero_or_pos k with rfl | h0
  · exact ⟨0, by rw [V_zero, Nat.zero_mul]⟩
  · have h1 : 2 ^ k.log2 ≤ k := Nat.log2_self_le (Nat.ne_of_gt h0)
    have h2 : k < 2 ^ (k.log2 + 1) := Nat.lt_log2_self
    have h3 : k.log2 < 12 := (Nat.log2_lt (Nat.ne_of_gt h0)).mpr hk
    generalize k.log2 = e at h1 h2 h3
    have e1 : (2 : Nat) ^ 52 = 2 ^ e * 2 ^ (52 - e) := by rw [← Nat.pow_add, Nat.add_sub_cancel' (by omega)]
    have e2 : (2 : Nat) ^ 53 = 2 ^ (e + 1) * 2 ^ (52 - e) := by rw [← Nat.pow_add, show e + 1 + (52 - e) = 53 by omega]
    refine ⟨(s + e - 52) * 2 ^ 52 + k * 2 ^ (52 - e), ?_⟩
    rw [V_at (by rw [e2]; exact Nat.mul_le_mul_right _ (Nat.le_of_lt h2)) (.inl (by rw [e1]; exact Nat.mul_le_mul_right _ h1)), Nat.mul_assoc, ← Nat.pow_add, show 52 - e + (s + e - 52) = s by omega]
theorem V_big {k s : Nat} (hk : k < 4096) (hs : s ≤ 1087) : k * 2 ^ s ≤ 2 ^ 1099 := by
  calc k * 2 ^ s ≤ 2 ^ 12 * 2 ^ s := Nat.mul_le_mul_right _ (Nat.le_of_lt hk)
    _ = 2 ^ (12 + s) := (Nat.pow_add 2 12 s).symm
    _ ≤ 2 ^ 1099 := Nat.pow_le_pow_right (by decide) (by omega)
theorem fl_tab : ∀ k < 4096, V (mg k 4096) = k * 2 ^ 1062 ∧ mg k 4096 < infMag := by
  intro k hk
  obtain ⟨t, ht⟩ := V_has hk (s := 1062) (by decide)
  rw [← ht]
  refine mg_exact (by decide) ?_ (by rw [ht]; exact V_big hk (by decide))
  rw [ht, show (2 : Nat) ^ 1074 = 2 ^ 12 * 2 ^ 1062 by rw [← Nat.pow_add], show (4096 : Nat) = 2 ^ 12 from rfl]
  exact Nat.mul_left_comm _ _ _
theorem fl_btw {k : Nat} (h : k < 4096) : Btw (mg k 4096) (mg k 4096) (fl k) := ⟨_, (fl_tab k h).2, fl_eq k, Nat.le_refl _, Nat.le_refl _⟩
theorem mg0 : mg 0 4096 = 0 := by decide +kernel

theorem fl_decode {k : Nat} (h : k < 4096) : ∃ m e, decode (fl k) = .fin false m e ∧ val (fl k) = (k : Int) * 2 ^ 1062 := by
  obtain ⟨h1, h2⟩ := fl_tab k h
  obtain ⟨m, e, hd, _⟩ := decode_pack false h2
  rw [← fl_eq] at hd
  refine ⟨m, e, hd, ?_⟩
  rw [fl_eq, val_pos h2, h1, Int.natCast_mul, Int.natCast_pow]; rfl

theorem pow1062 : (0 : Int) < 2 ^ 1062 := Int.pow_pos (by decide)
theorem fl_cmp {a b : Nat} (ha : a < 4096) (hb : b < 4096) : cmp (fl a) (fl b) = some (compare (a : Int) (b : Int)) := by
  obtain ⟨m, e, hd, hv⟩ := fl_decode ha
  obtain ⟨k, f, hd', hv'⟩ := fl_decode hb
  rw [cmp_right hd hd', hv, hv']
  congr 1
  simp only [Int.compare_eq_ite_lt, compare, compareOfLessAndEq]
  have hp := pow1062
  have h1 : ((a : Int) * 2 ^ 1062 < (b : Int) * 2 ^ 1062) ↔ (a : Int) < b := ⟨fun h => Int.lt_of_mul_lt_mul_right h (Int.le_of_lt hp), fun h => Int.mul_lt_mul_of_pos_right h hp⟩
  have h2 : ((a : Int) * 2 ^ 1062 = (b : Int) * 2 ^ 1062) ↔ (a : Int) = b := ⟨fun h => Int.eq_of_mul_eq_mul_right (Int.ne_of_gt hp) h, fun h => by rw [h]⟩
  simp only [h1, h2]

theorem fl_sub {a b : Nat} (ha : a < 4096) (h : b ≤ a) : Float64.sub (fl a) (fl b) = fl (a - b) := by
  obtain ⟨m, e, hd, hv⟩ := fl_decode ha
  obtain ⟨k, f, hd', hv'⟩ := fl_decode (k := b) (by omega)
  have hp := pow1062
  have r := sub_right hd hd'
  rw [hv, hv'] at r
  have e1 : (a : Int) * 2 ^ 1062 - (b : Int) * 2 ^ 1062 = ((a - b : Nat) : Int) * 2 ^ 1062 := by
    rw [← Int.sub_mul]; congr 1; omega
  rw [e1] at r
  by_cases hz : a - b = 0
  · rw [hz] at r ⊢
    rw [r.1 (by simp)]
    rw [fl_eq, mg0]; rfl
  · have hne : ((a - b : Nat) : Int) * 2 ^ 1062 ≠ 0 := Int.mul_ne_zero (by omega) (Int.ne_of_gt hp)
    have r := r.2 hne
    have hpos : (0 : Int) < ((a - b : Nat) : Int) * 2 ^ 1062 := Int.mul_pos (by omega) hp
    rw [show decide (((a - b : Nat) : Int) * 2 ^ 1062 < 0) = false from decide_eq_false (by omega)] at r
    have e2 : (((a - b : Nat) : Int) * 2 ^ 1062).natAbs = V (mg (a - b) 4096) := by
      rw [(fl_tab (a - b) (by omega)).1, Int.natAbs_mul, Int.natAbs_natCast]; congr 1
    rw [e2] at r
    have hb : V (mg (a - b) 4096) ≤ 2 ^ 1099 := by
      rw [(fl_tab (a - b) (by omega)).1]
      calc (a - b) * 2 ^ 1062 ≤ 2 ^ 12 * 2 ^ 1062 := Nat.mul_le_mul_right _ (by omega)
        _ ≤ 2 ^ 1099 := by rw [← Nat.pow_add]; exact Nat.pow_le_pow_right (by decide) (by decide)
    obtain ⟨t, ht, et, h1, h2⟩ := right_between r (by decide) (lo := mg (a - b) 4096) (hi := mg (a - b) 4096) (by omega) (by omega) hb
    rw [et, V_inj (Nat.le_antisymm h2 h1), fl_eq]

theorem fl_max {a b : Nat} (ha : a < 4096) (hb : b < 4096) : fltMax (fl a) (fl b) = fl (max a b) := by
  unfold fltMax
  rw [fl_cmp ha hb]
  by_cases h : (a : Int) < b
  · have : compare (a : Int) (b : Int) = .lt := by rw [Int.compare_eq_lt]; exact h
    rw [this]
    have : max a b = b := by omega
    rw [this]; rfl
  · have : compare (a : Int) (b : Int) ≠ .lt := by rw [ne_eq, Int.compare_eq_lt]; exact h
    rw [if_neg (by simpa using this)]
    have : max a b = a := by omega
    rw [this]
theorem fl_min {a b : Nat} (ha : a < 4096) (hb : b < 4096) : fltMin (fl a) (fl b) = fl (min a b) := by
  unfold fltMin
  rw [fl_cmp hb ha]
  by_cases h : (b : Int) < a
  · have : compare (b : Int) (a : Int) = .lt := by rw [Int.compare_eq_lt]; exact h
    rw [this]
    have : min a b = b := by omega
    rw [this]; rfl
  · have : compare (b : Int) (a : Int) ≠ .lt := by rw [ne_eq, Int.compare_eq_lt]; exact h
    rw [if_neg (by simpa using this)]
    have : min a b = a := by omega
    rw [this]

theorem fl_zero {a : Nat} (ha : a < 4096) : isZero (fl a) = decide (a = 0) := by
  obtain ⟨m, e, hd, hv⟩ := fl_decode ha
  have hm := val_natAbs hd
  rw [hv, Int.natAbs_mul, Int.natAbs_natCast] at hm
  have hp : 0 < ((2 : Int) ^ 1062).natAbs := by have := pow1062; omega
  have hq : 0 < (2 : Nat) ^ (e + 1074).toNat := Nat.two_pow_pos _
  unfold isZero
  rw [hd]
  cases m with
  | zero =>
    have : a = 0 := by
      rcases Nat.eq_zero_or_pos a with h | h
      · exact h
      · have := Nat.mul_pos h hp; rw [hm] at this; simp at this
    simp [this]
  | succ m =>
    have : a ≠ 0 := fun z => by
      subst z
      have := Nat.mul_pos (Nat.succ_pos m) hq
      rw [← hm] at this; simp at this
    simp [this]

/-- a quotient of two -/
theorem fl_div {p R : Nat} (hR : R < 4096) (hp : p ≤ R) (h0 : 0 < R) : (p = 0 ∧ Btw 0 0 (Float64.div (fl p) (fl R))) ∨ (p = R ∧ Btw (mg 1 1) (mg 1 1) (Float64.div (fl p) (fl R))) ∨ (0 < p ∧ p < R ∧ Btw (mg 1 4096) (mg 4095 4096) (Float64.div (fl p) (fl R))) := by
  have hVR : V (mg R 4096) = R * 2 ^ 1062 := (fl_tab R hR).1
  have hVp : V (mg p 4096) = p * 2 ^ 1062 := (fl_tab p (by omega)).1
  have hK : 0 < (2 : Nat) ^ 1062 := Nat.two_pow_pos _
  have h1V : V (mg 1 1) = 2 ^ 1074 := by decide +kernel
  have hloV : V (mg 1 4096) = 2 ^ 1062 := by decide +kernel
  have hhiV : V (mg 4095 4096) = 4095 * 2 ^ 1062 := by decide +kernel
  have h2 : (2 : Nat) ^ 1074 = 4096 * 2 ^ 1062 := by decide +kernel
  have hb : (2 : Nat) ^ 1074 ≤ 2 ^ 1099 := Nat.pow_le_pow_right (by decide) (by decide)
  have hVR0 : 0 < V (mg R 4096) := by rw [hVR]; exact Nat.mul_pos h0 hK
  have hV0 : V 0 = 0 := V_zero
  rcases Nat.eq_zero_or_pos p with rfl | hp0
  · refine .inl ⟨rfl, ?_⟩
    rw [fl_eq R]
    exact div_btw (fl_btw (by decide)) (fl_tab R hR).2 hVR0 (by rw [hV0]; omega) (by rw [hVp, hV0]; omega) (by rw [hV0]; omega)
  · rcases Nat.eq_or_lt_of_le hp with rfl | hlt
    · refine .inr (.inl ⟨rfl, ?_⟩)
      have := @div_btw (fl p) (mg p 4096) (mg p 4096) (mg 1 1) (mg 1 1) (mg p 4096) (fl_btw hR) (fl_tab p hR).2 hVR0 (by rw [h1V]; exact Nat.le_refl _) (by rw [h1V]; exact Nat.le_refl _) (by rw [h1V]; exact hb)
      rw [← fl_eq] at this
      exact this
    · refine .inr (.inr ⟨hp0, hlt, ?_⟩)
      rw [fl_eq R]
      refine div_btw (fl_btw (by omega)) (fl_tab R hR).2 hVR0 ?_ ?_ ?_
      · rw [hVR, hVp, hloV, h2]
        generalize (2 : Nat) ^ 1062 = K
        calc R * K * K ≤ 4096 * (K * K) := by rw [Nat.mul_assoc]; exact Nat.mul_le_mul_right _ (by omega)
          _ ≤ p * 4096 * (K * K) := Nat.mul_le_mul_right _ (by omega)
          _ = p * K * (4096 * K) := by ac_rfl
      · rw [hVR, hVp, hhiV, h2]
        generalize (2 : Nat) ^ 1062 = K
        have : p * 4096 ≤ R * 4095 := by omega
        calc p * K * (4096 * K) = p * 4096 * (K * K) := by ac_rfl
          _ ≤ R * 4095 * (K * K) := Nat.mul_le_mul_right _ this
          _ = R * K * (4095 * K) := by ac_rfl
      · rw [hhiV]
        calc 4095 * 2 ^ 1062 ≤ 4096 * 2 ^ 1062 := Nat.mul_le_mul_right _ (by decide)
          _ = 2 ^ 1074 := h2.symm
          _ ≤ _ := hb
end Mine
end
section
set_option maxRecDepth 100000
set_option exponentiation.threshold 3000
namespace Mine
open PySem PyProof.Rows Float64

theorem one_eq : V (mg 1 1) = 2 ^ 1074 := by decide +kernel
theorem one_lt : mg 1 1 < infMag := by decide +kernel

theorem exp_cut {e m : Int} (he : -1074 ≤ e) (h1 : m ≤ e) (h2 : -1074 ≤ m) : (e - m).toNat + (m + 1074).toNat = (e + 1074).toNat := by omega
theorem fmod_id {neg : Bool} {t : Nat} (ht : t < infMag) (h : V t < V (mg 1 1)) : Float64.fmod (pack neg t) (pack false (mg 1 1)) = pack neg t := by
  obtain ⟨m, e, hd, hv⟩ := decode_pack neg ht
  obtain ⟨k, f, hd', hv'⟩ := decode_pack false one_lt
  have he := decode_ge hd
  have hf := decode_ge hd'
  have hk : k ≠ 0 := fun z => by subst z; rw [one_eq] at hv'; have := Nat.two_pow_pos 1074; simp at hv'
  have hdef : Float64.fmod (pack neg t) (pack false (mg 1 1)) = ofBin neg ((m * 2 ^ (e - min e f).toNat) % (k * 2 ^ (f - min e f).toNat)) (min e f) := by
    unfold Float64.fmod
    rw [hd, hd']
    simp only [align, sgn, Bool.false_eq_true, if_false, Int.toNat_natCast]
    rw [if_neg (by simpa using hk)]
  have e1 : m * 2 ^ (e - min e f).toNat * 2 ^ (min e f + 1074).toNat = V t := by
    rw [← hv, Nat.mul_assoc, ← Nat.pow_add, exp_cut he (Int.min_le_left _ _) (Int.le_min.mpr ⟨he, hf⟩)]
  have e2 : k * 2 ^ (f - min e f).toNat * 2 ^ (min e f + 1074).toNat = V (mg 1 1) := by
    rw [← hv', Nat.mul_assoc, ← Nat.pow_add, exp_cut hf (Int.min_le_right _ _) (Int.le_min.mpr ⟨he, hf⟩)]
  have hlt : m * 2 ^ (e - min e f).toNat < k * 2 ^ (f - min e f).toNat := Nat.lt_of_mul_lt_mul_right (a := 2 ^ (min e f + 1074).toNat) (by rw [e1, e2]; exact h)
  rw [hdef, Nat.mod_eq_of_lt hlt]
  generalize m * 2 ^ (e - min e f).toNat = p at e1
  have hs := shift_one p (min e f) 1074 (by omega)
  have r : Right (ofBin neg p (min e f)) neg (V t) 1 := by
    show Right (ofFrac neg (shift p 1 (min e f)).1 (shift p 1 (min e f)).2) neg (V t) 1
    refine ofFrac_right (shift_pos _ _ _ (by decide)) ?_ (by decide)
    rw [Nat.mul_one, hs, ← e1]; rfl
  have hb : V t ≤ 2 ^ 1099 := by
    have : (2 : Nat) ^ 1074 ≤ 2 ^ 1099 := Nat.pow_le_pow_right (by decide) (by decide)
    rw [one_eq] at h; omega
  obtain ⟨u, hu, eu, h1, h2⟩ := right_between r (by decide) (lo := t) (hi := t) (by omega) (by omega) hb
  rw [eu, V_inj (Nat.le_antisymm h2 h1)]

noncomputable def hueOf (h : UInt64) : UInt64 := (divmod (Float64.div h (pack false (mg 6 1))) (pack false (mg 1 1))).2
noncomputable def thirds (h : UInt64) : UInt64 := Float64.add (Float64.mul (hueOf h) (pack false (mg 3 1))) (pack false (mg 1 2))

theorem isZero_pack {neg : Bool} {t : Nat} (ht : t < infMag) (h : 0 < V t) : isZero (pack neg t) = false := by
  obtain ⟨m, e, hd, hv⟩ := decode_pack neg ht
  unfold isZero
  rw [hd]
  cases m with
  | zero => rw [← hv] at h; simp at h
  | succ m => rfl
theorem lt_zero_pos {t : Nat} (ht : t < infMag) : lt (pack false t) (zero false) = false := by
  obtain ⟨m, e, hd, hv⟩ := decode_pack false ht
  obtain ⟨k, f, hd', hv'⟩ := decode_pack false (t := 0) (by decide +kernel)
  unfold lt
  rw [show zero false = pack false 0 from rfl, cmp_right hd hd', val_pos ht, val_pos (t := 0) (by decide +kernel), V_zero]
  have : compare (V t : Int) ((0 : Nat) : Int) ≠ .lt := by rw [ne_eq, Int.compare_eq_lt]; omega
  simpa using this
theorem lt_zero_neg {t : Nat} (ht : t < infMag) (h : 0 < V t) : lt (pack true t) (zero false) = true := by
  obtain ⟨m, e, hd, hv⟩ := decode_pack true ht
  obtain ⟨k, f, hd', hv'⟩ := decode_pack false (t := 0) (by decide +kernel)
  unfold lt
  rw [show zero false = pack false 0 from rfl, cmp_right hd hd', val_neg' ht, val_pos (t := 0) (by decide +kernel), V_zero]
  have : compare (-(V t : Int)) ((0 : Nat) : Int) = .lt := by rw [Int.compare_eq_lt]; omega
  rw [this]; rfl

theorem mod_pos {lo hi : Nat} {x : UInt64} (h : Btw lo hi x) (h0 : 0 < V lo) (h1 : V hi < V (mg 1 1)) : (divmod x (pack false (mg 1 1))).2 = x := by
  obtain ⟨t, ht, rfl, hl, hh⟩ := h
  unfold divmod
  simp only [fmod_id ht (Nat.lt_of_le_of_lt hh h1), isZero_pack ht (Nat.lt_of_lt_of_le h0 hl), lt_zero_pos ht, lt_zero_pos one_lt, Bool.false_eq_true, if_false, bne_self_eq_false]
theorem mod_neg {lo hi : Nat} {x : UInt64} (h : BtwN lo hi x) (h0 : 0 < V lo) (h1 : V hi < V (mg 1 1)) : (divmod x (pack false (mg 1 1))).2 = Float64.add x (pack false (mg 1 1)) := by
  obtain ⟨t, ht, rfl, hl, hh⟩ := h
  have hp := Nat.lt_of_lt_of_le h0 hl
  unfold divmod
  simp only [fmod_id ht (Nat.lt_of_le_of_lt hh h1), isZero_pack ht hp, lt_zero_neg ht hp, lt_zero_pos one_lt, Bool.false_eq_true, if_false]
  rfl

noncomputable def dn (n d : Nat) : Nat := roundMag n d - 1
noncomputable def up (n d : Nat) : Nat := roundMag n d + 1
abbrev S : Nat := 2 ^ 1074
/-- the last two steps -/
noncomputable def chk2 (a1 b1 n : Nat) : Bool :=
  let a2 := dn (3 * V a1) S; let b2 := up (3 * V b1) S
  let a3 := dn (V a2 + V (mg 1 2)) S; let b3 := up (V b2 + V (mg 1 2)) S
  decide (S * V a2 ≤ V a1 * V (mg 3 1)) && (decide (V b1 * V (mg 3 1) ≤ S * V b2) && (decide (V b2 ≤ 2 ^ 1099) && (decide (V a3 ≤ V a2 + V (mg 1 2)) && (decide (V b2 + V (mg 1 2) ≤ V b3) && (decide (V b3 ≤ 2 ^ 1099) && (decide (n * S ≤ V a3) && decide (V b3 < (n + 1) * S)))))))
theorem chk2_ok {a1 b1 n : Nat} (h : chk2 a1 b1 n = true) {x : UInt64} (hx : Btw a1 b1 x) : truncI (Float64.add (Float64.mul x (pack false (mg 3 1))) (pack false (mg 1 2))) = n ∧ isFinite (Float64.add (Float64.mul x (pack false (mg 3 1))) (pack false (mg 1 2))) = true := by
  unfold chk2 at h
  simp only [Bool.and_eq_true, decide_eq_true_eq] at h
  obtain ⟨h1, h2, h3, h4, h5, h6, h7, h8⟩ := h
  have hh : 0 < V (mg 1 2) := by decide +kernel
  have m := mul_btw hx (u := mg 3 1) (by decide +kernel) h1 h2 h3
  have a := add_btw m (Btw.self (c := mg 1 2) (by decide +kernel)) (by omega) h4 h5 h6
  exact trunc_btw a h7 h8
/-- a positive hue angle between a and b gives n -/
noncomputable def chkP (a b n : Nat) : Bool :=
  let a1 := dn (V a) (6 * S); let b1 := up (V b) (6 * S)
  decide (V (mg 6 1) * V a1 ≤ V a * S) && (decide (V b * S ≤ V (mg 6 1) * V b1) && (decide (V b1 ≤ 2 ^ 1099) && (decide (0 < V a1) && (decide (V b1 < V (mg 1 1)) && chk2 a1 b1 n))))
theorem chkP_ok {a b n : Nat} (h : chkP a b n = true) {x : UInt64} (hx : Btw a b x) : truncI (thirds x) = n ∧ isFinite (thirds x) = true := by
  unfold chkP at h
  simp only [Bool.and_eq_true, decide_eq_true_eq] at h
  obtain ⟨h1, h2, h3, h4, h5, h6⟩ := h
  have d := div_btw hx (u := mg 6 1) (by decide +kernel) (by decide +kernel) h1 h2 h3
  have := chk2_ok h6 d
  unfold thirds hueOf
  rw [mod_pos d h4 h5]
  exact this
/-- a negative one -/
noncomputable def chkN (a b n : Nat) : Bool :=
  let a1 := dn (V a) (6 * S); let b1 := up (V b) (6 * S)
  let a2 := dn (S - V b1) S; let b2 := up (S - V a1) S
  decide (V (mg 6 1) * V a1 ≤ V a * S) && (decide (V b * S ≤ V (mg 6 1) * V b1) && (decide (V b1 ≤ 2 ^ 1099) && (decide (0 < V a1) && (decide (V b1 < V (mg 1 1)) &&
    (decide (V a2 + V b1 ≤ V (mg 1 1)) && (decide (V (mg 1 1) ≤ V b2 + V a1) && (decide (V b2 ≤ 2 ^ 1099) && chk2 a2 b2 n)))))))
theorem chkN_ok {a b n : Nat} (h : chkN a b n = true) {x : UInt64} (hx : BtwN a b x) : truncI (thirds x) = n ∧ isFinite (thirds x) = true := by
  unfold chkN at h
  simp only [Bool.and_eq_true, decide_eq_true_eq] at h
  obtain ⟨h1, h2, h3, h4, h5, h6, h7, h8, h9⟩ := h
  have d := div_btwN hx (u := mg 6 1) (by decide +kernel) (by decide +kernel) h1 h2 h3
  have e := addN_btw d (Btw.self one_lt) h5 h6 h7 h8
  have := chk2_ok h9 e
  unfold thirds hueOf
  rw [mod_neg d h4 h5]
  exact this
end Mine
end
section
set_option maxRecDepth 100000
set_option exponentiation.threshold 3000
namespace Mine
open PySem PyProof.Rows Float64

/-- a part of the range: none, all, or between -/
noncomputable def Part (p R : Nat) (x : UInt64) : Prop := (p = 0 ∧ Btw 0 0 x) ∨ (p = R ∧ Btw (mg 1 1) (mg 1 1) x) ∨ (0 < p ∧ p < R ∧ Btw (mg 1 4096) (mg 4095 4096) x)
abbrev C0 : UInt64 := pack false 0
abbrev C1 : UInt64 := pack false (mg 1 1)
abbrev C2 : UInt64 := pack false (mg 2 1)
abbrev C4 : UInt64 := pack false (mg 4 1)

theorem hueR {p q R : Nat} {gc bc : UInt64} (h0 : 0 < R) (hg : Part p R gc) (hb : Part q R bc) (hR : p = R ∨ q = R) :
    isFinite (thirds (Float64.sub bc gc)) = true ∧ ((truncI (thirds (Float64.sub bc gc)) = 0 ∨ truncI (thirds (Float64.sub bc gc)) = 3) ∨ (p = 0 ∧ truncI (thirds (Float64.sub bc gc)) = 1) ∨ (q = 0 ∧ truncI (thirds (Float64.sub bc gc)) = 2)) := by
  rcases hg with ⟨rfl, hg⟩ | ⟨rfl, hg⟩ | ⟨hp0, hpR, hg⟩
  · rcases hb with ⟨rfl, hb⟩ | ⟨rfl, hb⟩ | ⟨hq0, hqR, hb⟩
    · omega
    · rw [hg.eq, hb.eq]
      have : isFinite (thirds (Float64.sub C1 C0)) = true ∧ (truncI (thirds (Float64.sub C1 C0)) = 0 ∨ truncI (thirds (Float64.sub C1 C0)) = 1) := by decide +kernel
      refine ⟨this.1, ?_⟩
      rcases this.2 with h | h
      · exact .inl (.inl h)
      · exact .inr (.inl ⟨rfl, h⟩)
    · omega
  · rcases hb with ⟨rfl, hb⟩ | ⟨rfl, hb⟩ | ⟨hq0, hqR, hb⟩
    · rw [hg.eq, hb.eq]
      have : isFinite (thirds (Float64.sub C0 C1)) = true ∧ (truncI (thirds (Float64.sub C0 C1)) = 3 ∨ truncI (thirds (Float64.sub C0 C1)) = 2) := by decide +kernel
      refine ⟨this.1, ?_⟩
      rcases this.2 with h | h
      · exact .inl (.inr h)
      · exact .inr (.inr ⟨rfl, h⟩)
    · rw [hg.eq, hb.eq]
      have : isFinite (thirds (Float64.sub C1 C1)) = true ∧ truncI (thirds (Float64.sub C1 C1)) = 0 := by decide +kernel
      exact ⟨this.1, .inl (.inl this.2)⟩
    · have := chkN_ok (n := 3) (a := mg 1 4096) (b := mg 4095 4096) (by decide +kernel) (sub_btwN (lo := mg 1 4096) (hi := mg 4095 4096) hb hg (by decide +kernel) (by decide +kernel) (by decide +kernel) (by decide +kernel))
      exact ⟨this.2, .inl (.inr this.1)⟩
  · rcases hR with rfl | rfl
    · omega
    · rcases hb with ⟨rfl, hb⟩ | ⟨_, hb⟩ | ⟨hq0, hqR, hb⟩
      · omega
      · have := chkP_ok (n := 0) (a := mg 1 4096) (b := mg 4095 4096) (by decide +kernel) (sub_btw (lo := mg 1 4096) (hi := mg 4095 4096) hb hg (by decide +kernel) (by decide +kernel) (by decide +kernel) (by decide +kernel))
        exact ⟨this.2, .inl (.inl this.1)⟩
      · omega

theorem hueG {p q R : Nat} {rc bc : UInt64} (h0 : 0 < p) (hr : Part p R rc) (hb : Part q R bc) (hR : p = R ∨ q = R) (hq : q ≤ R) :
    isFinite (thirds (Float64.sub (Float64.add C2 rc) bc)) = true ∧ (truncI (thirds (Float64.sub (Float64.add C2 rc) bc)) = 1 ∨ (q = 0 ∧ truncI (thirds (Float64.sub (Float64.add C2 rc) bc)) = 2)) := by
  have c2 : Btw (mg 2 1) (mg 2 1) C2 := Btw.self (by decide +kernel)
  rcases hr with ⟨rfl, hr⟩ | ⟨rfl, hr⟩ | ⟨hp0, hpR, hr⟩
  · omega
  · rcases hb with ⟨rfl, hb⟩ | ⟨rfl, hb⟩ | ⟨hq0, hqR, hb⟩
    · rw [hr.eq, hb.eq]
      have : isFinite (thirds (Float64.sub (Float64.add C2 C1) C0)) = true ∧ (truncI (thirds (Float64.sub (Float64.add C2 C1) C0)) = 1 ∨ truncI (thirds (Float64.sub (Float64.add C2 C1) C0)) = 2) := by decide +kernel
      refine ⟨this.1, ?_⟩
      rcases this.2 with h | h
      · exact .inl h
      · exact .inr ⟨rfl, h⟩
    · rw [hr.eq, hb.eq]
      have : isFinite (thirds (Float64.sub (Float64.add C2 C1) C1)) = true ∧ truncI (thirds (Float64.sub (Float64.add C2 C1) C1)) = 1 := by decide +kernel
      exact ⟨this.1, .inl this.2⟩
    · have s := add_btw (lo := mg 3 1) (hi := mg 3 1) c2 hr (by decide +kernel) (by decide +kernel) (by decide +kernel) (by decide +kernel)
      have := chkP_ok (n := 1) (a := mg 8193 4096) (b := mg 12287 4096) (by decide +kernel) (sub_btw (lo := mg 8193 4096) (hi := mg 12287 4096) s hb (by decide +kernel) (by decide +kernel) (by decide +kernel) (by decide +kernel))
      exact ⟨this.2, .inl this.1⟩
  · have s := add_btw (lo := mg 8193 4096) (hi := mg 12287 4096) c2 hr (by decide +kernel) (by decide +kernel) (by decide +kernel) (by decide +kernel)
    rcases hb with ⟨rfl, hb⟩ | ⟨rfl, hb⟩ | ⟨hq0, hqR, hb⟩
    · omega
    · have := chkP_ok (n := 1) (a := mg 4097 4096) (b := mg 8191 4096) (by decide +kernel) (sub_btw (lo := mg 4097 4096) (hi := mg 8191 4096) s hb (by decide +kernel) (by decide +kernel) (by decide +kernel) (by decide +kernel))
      exact ⟨this.2, .inl this.1⟩
    · omega

theorem hueB {p q R : Nat} {gc rc : UInt64} (h0 : 0 < p) (h1 : 0 < q) (hg : Part p R gc) (hr : Part q R rc) (hR : p = R ∨ q = R) (hp : p ≤ R) (hq : q ≤ R) :
    isFinite (thirds (Float64.sub (Float64.add C4 gc) rc)) = true ∧ truncI (thirds (Float64.sub (Float64.add C4 gc) rc)) = 2 := by
  have c4 : Btw (mg 4 1) (mg 4 1) C4 := Btw.self (by decide +kernel)
  rcases hg with ⟨rfl, hg⟩ | ⟨rfl, hg⟩ | ⟨hp0, hpR, hg⟩
  · omega
  · rcases hr with ⟨rfl, hr⟩ | ⟨rfl, hr⟩ | ⟨hq0, hqR, hr⟩
    · omega
    · rw [hg.eq, hr.eq]
      decide +kernel
    · have s := add_btw (lo := mg 5 1) (hi := mg 5 1) c4 hg (by decide +kernel) (by decide +kernel) (by decide +kernel) (by decide +kernel)
      have := chkP_ok (n := 2) (a := mg 16385 4096) (b := mg 20479 4096) (by decide +kernel) (sub_btw (lo := mg 16385 4096) (hi := mg 20479 4096) s hr (by decide +kernel) (by decide +kernel) (by decide +kernel) (by decide +kernel))
      exact ⟨this.2, this.1⟩
  · have s := add_btw (lo := mg 16385 4096) (hi := mg 20479 4096) c4 hg (by decide +kernel) (by decide +kernel) (by decide +kernel) (by decide +kernel)
    rcases hr with ⟨rfl, hr⟩ | ⟨rfl, hr⟩ | ⟨hq0, hqR, hr⟩
    · omega
    · have := chkP_ok (n := 2) (a := mg 12289 4096) (b := mg 16383 4096) (by decide +kernel) (sub_btw (lo := mg 12289 4096) (hi := mg 16383 4096) s hr (by decide +kernel) (by decide +kernel) (by decide +kernel) (by decide +kernel))
      exact ⟨this.2, this.1⟩
    · omega
end Mine
end
section
set_option maxRecDepth 100000
namespace Mine
open PySem PyProof.Rows

/-! ## rgb_to_hsv on three written floats -/
noncomputable def qT (k : Nat) : T := .quot (.var k) (.lit 4096)
noncomputable def mxT : T := .fop .max (.fop .max (qT 0) (qT 1)) (qT 2)
noncomputable def mnT : T := .fop .min (.fop .min (qT 0) (qT 1)) (qT 2)
noncomputable def rgT : T := .fop .sub mxT mnT
noncomputable def f6 : T := .flit 4618441417868443648
noncomputable def f1 : T := .flit 4607182418800017408
/-- branch 0: all equal; 1, 2, 3: the first that is greatest -/
noncomputable def rgbRows : Nat → List (Cond × Bool)
  | 0 => [(.feq mnT mxT, true)]
  | 1 => [(.feq mnT mxT, false), (.fz rgT, false), (.fz mxT, false), (.feq (qT 0) mxT, true), (.fz f6, false), (.fz f1, false)]
  | 2 => [(.feq mnT mxT, false), (.fz rgT, false), (.fz mxT, false), (.feq (qT 0) mxT, false), (.feq (qT 1) mxT, true), (.fz f6, false), (.fz f1, false)]
  | _ => [(.feq mnT mxT, false), (.fz rgT, false), (.fz mxT, false), (.feq (qT 0) mxT, false), (.feq (qT 1) mxT, false), (.fz f6, false), (.fz f1, false)]
noncomputable def rgbRun (B : Nat) : Res (AV × AH) := evF (prm (fun c => findC c (rgbRows B)) 0 noSpec) (evN (prm (fun c => findC c (rgbRows B)) 0 noSpec) 40) 3 51 [.flt (qT 0), .flt (qT 1), .flt (qT 2)] (AH.mk! [])
end Mine
end
section
set_option maxRecDepth 100000
set_option exponentiation.threshold 3000
namespace Mine
open PySem PyProof.Rows Float64

section
variable {σ : Nat → Int} {a b c : Nat}
/-- the three sides are a, b, c -/
noncomputable def Sides (σ : Nat → Int) (a b c : Nat) : Prop := σ 0 = a ∧ σ 1 = b ∧ σ 2 = c ∧ a < 4096 ∧ b < 4096 ∧ c < 4096
theorem qT_f {k n : Nat} (h : σ k = n) : (qT k).f σ = fl n := by
  show ofFrac (decide (σ k < 0) != decide ((4096 : Int) < 0)) (σ k).natAbs (4096 : Int).natAbs = fl n
  rw [h]
  have : decide ((n : Int) < 0) = false := decide_eq_false (by omega)
  rw [this]; rfl
theorem mxT_f (h : Sides σ a b c) : mxT.f σ = fl (max (max a b) c) := by
  obtain ⟨h0, h1, h2, ha, hb, hc⟩ := h
  show fltMax (fltMax ((qT 0).f σ) ((qT 1).f σ)) ((qT 2).f σ) = _
  rw [qT_f h0, qT_f h1, qT_f h2, fl_max ha hb, fl_max (by omega) hc]
theorem mnT_f (h : Sides σ a b c) : mnT.f σ = fl (min (min a b) c) := by
  obtain ⟨h0, h1, h2, ha, hb, hc⟩ := h
  show fltMin (fltMin ((qT 0).f σ) ((qT 1).f σ)) ((qT 2).f σ) = _
  rw [qT_f h0, qT_f h1, qT_f h2, fl_min ha hb, fl_min (by omega) hc]
theorem rgT_f (h : Sides σ a b c) : rgT.f σ = fl (max (max a b) c - min (min a b) c) := by
  show Float64.sub (mxT.f σ) (mnT.f σ) = _
  obtain ⟨h0, h1, h2, ha, hb, hc⟩ := id h
  rw [mxT_f h, mnT_f h, fl_sub (by omega) (by omega)]
theorem fl_eqs {m n : Nat} (hm : m < 4096) (hn : n < 4096) : (cmp (fl m) (fl n) == some .eq) = decide (m = n) := by
  rw [fl_cmp hm hn]
  by_cases h : m = n
  · have : compare (m : Int) (n : Int) = .eq := by rw [Int.compare_eq_eq]; omega
    rw [this]; simp [h]
  · have : compare (m : Int) (n : Int) ≠ .eq := by rw [ne_eq, Int.compare_eq_eq]; omega
    simp [h, this]
/-- the branch that rgb_to_hsv takes -/
noncomputable def brOf (a b c : Nat) : Nat := if min (min a b) c = max (max a b) c then 0 else if a = max (max a b) c then 1 else if b = max (max a b) c then 2 else 3
theorem rgbRows_ok (h : Sides σ a b c) : ∀ p ∈ rgbRows (brOf a b c), p.1.holds σ = p.2 := by
  have e1 := mxT_f h
  have e2 := mnT_f h
  have e3 := rgT_f h
  obtain ⟨h0, h1, h2, ha, hb, hc⟩ := id h
  have q0 := qT_f (σ := σ) h0
  have q1 := qT_f (σ := σ) h1
  have hM : max (max a b) c < 4096 := Nat.max_lt.mpr ⟨Nat.max_lt.mpr ⟨ha, hb⟩, hc⟩
  have hm : min (min a b) c < 4096 := Nat.lt_of_le_of_lt (Nat.min_le_right _ c) hc
  have hmM : min (min a b) c ≤ max (max a b) c := Nat.le_trans (Nat.min_le_right _ c) (Nat.le_max_right _ c)
  have t1 : (Cond.feq mnT mxT).holds σ = decide (min (min a b) c = max (max a b) c) := by
    show (cmp (mnT.f σ) (mxT.f σ) == some .eq) = _
    rw [e1, e2, fl_eqs hm hM]
  have t2 : (Cond.fz rgT).holds σ = decide (max (max a b) c - min (min a b) c = 0) := by
    show isZero (rgT.f σ) = _
    rw [e3, fl_zero (Nat.lt_of_le_of_lt (Nat.sub_le _ _) hM)]
  have t3 : (Cond.fz mxT).holds σ = decide (max (max a b) c = 0) := by
    show isZero (mxT.f σ) = _
    rw [e1, fl_zero hM]
  have t4 : (Cond.feq (qT 0) mxT).holds σ = decide (a = max (max a b) c) := by
    show (cmp ((qT 0).f σ) (mxT.f σ) == some .eq) = _
    rw [e1, q0, fl_eqs ha hM]
  have t5 : (Cond.feq (qT 1) mxT).holds σ = decide (b = max (max a b) c) := by
    show (cmp ((qT 1).f σ) (mxT.f σ) == some .eq) = _
    rw [e1, q1, fl_eqs hb hM]
  have t6 : (Cond.fz f6).holds σ = false := by show isZero (f6.f σ) = false; show isZero ((4618441417868443648 : Nat).toUInt64) = false; decide +kernel
  have t7 : (Cond.fz f1).holds σ = false := by show isZero ((4607182418800017408 : Nat).toUInt64) = false; decide +kernel
  intro p hp
  unfold brOf at hp
  split at hp
  · rename_i hc
    simp only [rgbRows, List.mem_cons, List.not_mem_nil, or_false] at hp
    subst hp
    rw [t1]; exact decide_eq_true hc
  · rename_i hc
    have t2' : (Cond.fz rgT).holds σ = false := by rw [t2]; exact decide_eq_false fun e => hc (Nat.le_antisymm hmM (Nat.le_of_sub_eq_zero e))
    have t3' : (Cond.fz mxT).holds σ = false := by rw [t3]; exact decide_eq_false fun e => hc (Nat.le_antisymm hmM (by rw [e]; exact Nat.zero_le _))
    have t1' : (Cond.feq mnT mxT).holds σ = false := by rw [t1]; exact decide_eq_false hc
    split at hp
    · rename_i hc2
      have t4' : (Cond.feq (qT 0) mxT).holds σ = true := by rw [t4]; exact decide_eq_true hc2
      simp only [rgbRows, List.mem_cons, List.not_mem_nil, or_false] at hp
      rcases hp with rfl | rfl | rfl | rfl | rfl | rfl <;> assumption
    · rename_i hc2
      have t4' : (Cond.feq (qT 0) mxT).holds σ = false := by rw [t4]; exact decide_eq_false hc2
      split at hp
      · rename_i hc3
        have t5' : (Cond.feq (qT 1) mxT).holds σ = true := by rw [t5]; exact decide_eq_true hc3
        simp only [rgbRows, List.mem_cons, List.not_mem_nil, or_false] at hp
        rcases hp with rfl | rfl | rfl | rfl | rfl | rfl | rfl <;> assumption
      · rename_i hc3
        have t5' : (Cond.feq (qT 1) mxT).holds σ = false := by rw [t5]; exact decide_eq_false hc3
        simp only [rgbRows, List.mem_cons, List.not_mem_nil, or_false] at hp
        rcases hp with rfl | rfl | rfl | rfl | rfl | rfl | rfl <;> assumption
end
end Mine
end
section
set_option maxRecDepth 100000
set_option exponentiation.threshold 3000
namespace Mine
open PySem PyProof.Rows Float64

noncomputable def rcT (k : Nat) : T := .fop .div (.fop .sub mxT (qT k)) rgT
noncomputable def f2 : T := .flit 4611686018427387904
noncomputable def f4 : T := .flit 4616189618054758400
noncomputable def hinT : Nat → T
  | 1 => .fop .sub (rcT 2) (rcT 1)
  | 2 => .fop .sub (.fop .add f2 (rcT 0)) (rcT 2)
  | _ => .fop .sub (.fop .add f4 (rcT 1)) (rcT 0)
noncomputable def hT : Nat → T
  | 0 => .flit 0
  | B => .fop .mod (.fop .div (hinT B) f6) f1
noncomputable def rgbChk (B : Nat) : Bool := match rgbRun B with
  | .ok (.obj k, H) => (match H.at k with
    | some (.tuple [.flt h, .flt _, .flt v]) => h.beq (hT B) && v.beq mxT
    | _ => false)
  | _ => false
theorem rgbChk_ok : ∀ B < 4, rgbChk B = true := by decide +kernel
theorem nil_n : (AH.mk! []).n = 0 := by decide +kernel
theorem brOf_lt (a b c : Nat) : brOf a b c < 4 := by unfold brOf; split; decide; split; decide; split <;> decide

section
variable {prog : Program} {w : World} {s : Shared} {A : Around} {x : Nat → Int} {a b c : Nat}
theorem rgb_call (g : GH prog w s.heap) (ok : AOk 4 A) (hs : Sides x a b c) {t1 t2 t3 : Tok} {Q : Value → Shared → Prop}
    (hQ : ∀ h' tk r us, Kept s.heap h' → s.heap.get? r = Option.none → h'.IsTuple r us.toArray → (∃ t4 t5 u, us = [Value.float ((hT (brOf a b c)).f x) t4, u, Value.float (fl (max (max a b) c)) t5]) → Q (.ref r) { s with heap := h', toks := tk }) :
    wpAny (model prog w) A (call (.ref 51) [.float (fl a) t1, .float (fl b) t2, .float (fl c) t3]) Q No s := by
  have F : Facts ⟨prog, w, x, s.heap, s⟩ (prm (fun cc => findC cc (rgbRows (brOf a b c))) 0 noSpec) := facts g (fun _ _ h => findC_ok (rgbRows_ok hs) h) noSpec_fn (fun _ _ _ _ _ h => by cases h)
  have hc := rgbChk_ok (brOf a b c) (brOf_lt a b c)
  unfold rgbChk at hc
  split at hc
  · rename_i k H hrun
    split at hc
    · rename_i h v hk
      rw [Bool.and_eq_true] at hc
      have e1 := T.beq_eq hc.1
      have e2 := T.beq_eq hc.2
      have R : Rel ⟨prog, w, x, s.heap, s⟩ (fun _ => 0) (AH.mk! []) s := Rel.start rfl rfl fun k hk => by rw [nil_n] at hk; omega
      obtain ⟨h0, h1, h2, _⟩ := hs
      have q0 := qT_f (σ := x) h0
      have q1 := qT_f (σ := x) h1
      have q2 := qT_f (σ := x) h2
      refine call_sound F 40 (d := 3) hrun R (vals := [.float (fl a) t1, .float (fl b) t2, .float (fl c) t3]) ⟨⟨t1, by rw [← q0]⟩, ⟨t2, by rw [← q1]⟩, ⟨t3, by rw [← q2]⟩, trivial⟩ ok fun ρ' u s' he hn R' du => ?_
      obtain ⟨hlt, rfl⟩ := du
      obtain ⟨us, ht, hd⟩ := R'.obj hk
      obtain ⟨hh, tk, es⟩ := R'.same
      have e : s' = { s with heap := s'.heap, toks := tk } := by rw [es]
      obtain ⟨hk1, hk2⟩ := AH.at_some hk
      have := hQ s'.heap tk (ρ' k) us R'.keep (R'.fresh k _ hk1 hk2 rfl) ht (by
        obtain ⟨u0, u1, u2, rfl, ⟨t4, d0⟩, _, ⟨t5, d2⟩⟩ := DenL.three hd
        subst d0; subst d2
        refine ⟨t4, t5, u1, ?_⟩
        rw [e1, e2, mxT_f ⟨h0, h1, h2, by assumption⟩])
      rw [← e] at this
      exact this
    · cases hc
  · cases hc
end
end Mine
end
section
set_option maxRecDepth 100000
set_option exponentiation.threshold 3000
namespace Mine
open PySem PyProof.Rows Float64

noncomputable def dimT (w k : Nat) : T := if Nat.beq k w then .flit 0 else qT k
noncomputable def v2T (w : Nat) : T := .fop .max (.fop .max (dimT w 0) (dimT w 1)) (dimT w 2)
noncomputable def rgbSp (B w : Nat) (a : Nat) (args : List AV) (H : AH) : Option (AV × AH) := bif Nat.beq a 51 then (match args with
  | [.flt x, .flt y, .flt z] => if x.beq (qT 0) && (y.beq (qT 1) && z.beq (qT 2)) then (match H.push (.tuple [.flt (hT B), .any, .flt mxT]) with | .ok H1 => some (.obj H.n, H1) | _ => Option.none)
      else if x.beq (dimT w 0) && (y.beq (dimT w 1) && z.beq (dimT w 2)) then (match H.push (.tuple [.any, .any, .flt (v2T w)]) with | .ok H1 => some (.obj H.n, H1) | _ => Option.none) else Option.none
  | _ => Option.none) else Option.none
noncomputable def t3T (B : Nat) : T := .fop .add (.fop .mul (hT B) (.ofi (.lit 3))) (.flit 4602678819172646912)
noncomputable def whT (B : Nat) : T := .iop .fmod (.trunc (t3T B)) (.lit 3)
noncomputable def pfT (w : Nat) : T := .fop .mul (v2T w) (.ofi (.lit 4096))
noncomputable def fallRows (B w : Nat) : List (Cond × Bool) := [(.finf (qT 0), false), (.finf (qT 1), false), (.finf (qT 2), false), (.finf (.ofi (.lit 3)), false), (.ffin (t3T B), true),
  (.ieq (.lit 0) (whT B), Nat.beq 0 w), (.ieq (.lit 1) (whT B), Nat.beq 1 w), (.ieq (.lit 2) (whT B), Nat.beq 2 w), (.finf (.ofi (.lit 4096)), false), (.ffin (pfT w), true)]
noncomputable def fallP (B w : Nat) : Prm := prm (fun c => findC c (fallRows B w)) 4 (rgbSp B w)
noncomputable def H3 : AH := AH.mk! [.flist [.int (.var 0), .int (.var 1), .int (.var 2)]]
noncomputable def fallRun (B w : Nat) : Res (AV × AH) := evF (fallP B w) (evN (fallP B w) 40) 11 75 [.obj 0] H3
noncomputable def fallChk (B w : Nat) : Bool := match fallRun B w with
  | .ok (.obj k, H) => (match H.at k with
    | some (.tuple [.int h, .int v]) => h.beq (whT B) && v.beq (.trunc (pfT w))
    | _ => false)
  | _ => false
end Mine
end
section
set_option maxRecDepth 100000
set_option exponentiation.threshold 3000
namespace Mine
open PySem PyProof.Rows Float64

theorem f6_f (σ : Nat → Int) : f6.f σ = pack false (mg 6 1) := by show (4618441417868443648 : Nat).toUInt64 = _; decide +kernel
theorem f1_f (σ : Nat → Int) : f1.f σ = pack false (mg 1 1) := by show (4607182418800017408 : Nat).toUInt64 = _; decide +kernel
theorem f2_f (σ : Nat → Int) : f2.f σ = C2 := by show (4611686018427387904 : Nat).toUInt64 = _; decide +kernel
theorem f4_f (σ : Nat → Int) : f4.f σ = C4 := by show (4616189618054758400 : Nat).toUInt64 = _; decide +kernel
theorem o3_f (σ : Nat → Int) : (T.ofi (.lit 3)).f σ = pack false (mg 3 1) := by show ofInt 3 = _; decide +kernel
theorem fh_f (σ : Nat → Int) : (T.flit 4602678819172646912).f σ = pack false (mg 1 2) := by show (4602678819172646912 : Nat).toUInt64 = _; decide +kernel

theorem t3_thirds {σ : Nat → Int} {B : Nat} (h : B ≠ 0) : (t3T B).f σ = thirds ((hinT B).f σ) := by
  have e : hT B = .fop .mod (.fop .div (hinT B) f6) f1 := by cases B with | zero => exact absurd rfl h | succ n => rfl
  show Float64.add (Float64.mul ((hT B).f σ) ((T.ofi (.lit 3)).f σ)) ((T.flit 4602678819172646912).f σ) = _
  rw [o3_f, fh_f, e]
  show Float64.add (Float64.mul (divmod (Float64.div ((hinT B).f σ) (f6.f σ)) (f1.f σ)).2 _) _ = _
  rw [f6_f, f1_f]; rfl

section
variable {σ : Nat → Int} {a b c : Nat}
theorem rc_part (h : Sides σ a b c) (hne : min (min a b) c ≠ max (max a b) c) {k n : Nat} (hk : σ k = n) (hn : n ≤ max (max a b) c) (hn2 : min (min a b) c ≤ n) :
    Part (max (max a b) c - n) (max (max a b) c - min (min a b) c) ((rcT k).f σ) := by
  obtain ⟨h0, h1, h2, ha, hb, hc⟩ := id h
  have hM : max (max a b) c < 4096 := Nat.max_lt.mpr ⟨Nat.max_lt.mpr ⟨ha, hb⟩, hc⟩
  have e : (rcT k).f σ = Float64.div (fl (max (max a b) c - n)) (fl (max (max a b) c - min (min a b) c)) := by
    show Float64.div (Float64.sub (mxT.f σ) ((qT k).f σ)) (rgT.f σ) = _
    rw [mxT_f h, qT_f hk, rgT_f h, fl_sub hM hn]
  rw [e]
  exact fl_div (Nat.lt_of_le_of_lt (Nat.sub_le _ _) hM) (Nat.sub_le_sub_left hn2 _) (Nat.sub_pos_of_lt (Nat.lt_of_le_of_ne (Nat.le_trans hn2 hn) hne))

theorem mm (a b c : Nat) : (a ≤ max (max a b) c ∧ b ≤ max (max a b) c ∧ c ≤ max (max a b) c) ∧ (min (min a b) c ≤ a ∧ min (min a b) c ≤ b ∧ min (min a b) c ≤ c) ∧
    (min (min a b) c = a ∨ min (min a b) c = b ∨ min (min a b) c = c) ∧ (max (max a b) c = a ∨ max (max a b) c = b ∨ max (max a b) c = c) :=
  ⟨⟨Nat.le_trans (Nat.le_max_left a b) (Nat.le_max_left _ c), Nat.le_trans (Nat.le_max_right a b) (Nat.le_max_left _ c), Nat.le_max_right _ c⟩,
    ⟨Nat.le_trans (Nat.min_le_left _ c) (Nat.min_le_left a b), Nat.le_trans (Nat.min_le_left _ c) (Nat.min_le_right a b), Nat.min_le_right _ c⟩, by omega, by omega⟩
/-- which side falls -/
theorem which_core {M m B : Nat} (la : a ≤ M) (lb : b ≤ M) (lc : c ≤ M) (sa : m ≤ a) (sb : m ≤ b) (sc : m ≤ c) (em : m = a ∨ m = b ∨ m = c) (eM : M = a ∨ M = b ∨ M = c)
    (p0 : m ≠ M → Part (M - a) (M - m) ((rcT 0).f σ)) (p1 : m ≠ M → Part (M - b) (M - m) ((rcT 1).f σ)) (p2 : m ≠ M → Part (M - c) (M - m) ((rcT 2).f σ))
    (eB : B = if m = M then 0 else if a = M then 1 else if b = M then 2 else 3) : isFinite ((t3T B).f σ) = true ∧
    (((whT B).i σ = 0 ∧ b ≤ a ∧ c ≤ a) ∨ ((whT B).i σ = 1 ∧ a ≤ b ∧ c ≤ b) ∨ ((whT B).i σ = 2 ∧ a ≤ c ∧ b ≤ c)) := by
  have wi : ∀ B, (whT B).i σ = (truncI ((t3T B).f σ)).fmod 3 := fun B => rfl
  subst eB
  split
  · rename_i he
    have e0 : (t3T 0).f σ = Float64.add (Float64.mul ((0 : Nat).toUInt64) (pack false (mg 3 1))) (pack false (mg 1 2)) := by
      show Float64.add (Float64.mul _ ((T.ofi (.lit 3)).f σ)) ((T.flit 4602678819172646912).f σ) = _
      rw [o3_f, fh_f]; rfl
    have : isFinite (Float64.add (Float64.mul ((0 : Nat).toUInt64) (pack false (mg 3 1))) (pack false (mg 1 2))) = true ∧ truncI (Float64.add (Float64.mul ((0 : Nat).toUInt64) (pack false (mg 3 1))) (pack false (mg 1 2))) = 0 := by decide +kernel
    rw [wi, e0, this.2]
    subst he
    exact ⟨this.1, .inl ⟨rfl, Nat.le_trans lb sa, Nat.le_trans lc sa⟩⟩
  · rename_i hne
    have hlt : m < M := Nat.lt_of_le_of_ne (Nat.le_trans sa la) hne
    have p0 := p0 hne
    have p1 := p1 hne
    have p2 := p2 hne
    have hR : 0 < M - m := Nat.sub_pos_of_lt hlt
    split
    · rename_i hA
      subst hA
      rw [wi, t3_thirds (by decide)]
      have e : (hinT 1).f σ = Float64.sub ((rcT 2).f σ) ((rcT 1).f σ) := rfl
      rw [e]
      have hq : a - b = a - m ∨ a - c = a - m := by rcases em with h | h | h; exact absurd h hne; exact .inl (by rw [h]); exact .inr (by rw [h])
      have := hueR hR p1 p2 hq
      refine ⟨this.1, ?_⟩
      rcases this.2 with (hh | hh) | ⟨hp, hh⟩ | ⟨hp, hh⟩
      · exact .inl ⟨by rw [hh]; rfl, lb, lc⟩
      · exact .inl ⟨by rw [hh]; rfl, lb, lc⟩
      · exact .inr (.inl ⟨by rw [hh]; rfl, Nat.le_of_sub_eq_zero hp, Nat.le_trans lc (Nat.le_of_sub_eq_zero hp)⟩)
      · exact .inr (.inr ⟨by rw [hh]; rfl, Nat.le_of_sub_eq_zero hp, Nat.le_trans lb (Nat.le_of_sub_eq_zero hp)⟩)
    · rename_i hA
      have pa : 0 < M - a := Nat.sub_pos_of_lt (Nat.lt_of_le_of_ne la hA)
      split
      · rename_i hB
        subst hB
        rw [wi, t3_thirds (by decide)]
        have e : (hinT 2).f σ = Float64.sub (Float64.add (f2.f σ) ((rcT 0).f σ)) ((rcT 2).f σ) := rfl
        rw [e, f2_f]
        have hq : b - a = b - m ∨ b - c = b - m := by rcases em with h | h | h; exact .inl (by rw [h]); exact absurd h hne; exact .inr (by rw [h])
        have := hueG pa p0 p2 hq (Nat.sub_le_sub_left sc _)
        refine ⟨this.1, ?_⟩
        rcases this.2 with hh | ⟨hp, hh⟩
        · exact .inr (.inl ⟨by rw [hh]; rfl, la, lc⟩)
        · exact .inr (.inr ⟨by rw [hh]; rfl, Nat.le_trans la (Nat.le_of_sub_eq_zero hp), Nat.le_of_sub_eq_zero hp⟩)
      · rename_i hB
        have pb : 0 < M - b := Nat.sub_pos_of_lt (Nat.lt_of_le_of_ne lb hB)
        have hC : M = c := by rcases eM with h | h | h; exact absurd h.symm hA; exact absurd h.symm hB; exact h
        subst hC
        rw [wi, t3_thirds (by decide)]
        have e : (hinT 3).f σ = Float64.sub (Float64.add (f4.f σ) ((rcT 1).f σ)) ((rcT 0).f σ) := rfl
        rw [e, f4_f]
        have hq : M - b = M - m ∨ M - a = M - m := by rcases em with h | h | h; exact .inr (by rw [h]); exact .inl (by rw [h]); exact absurd h hne
        have := hueB pb pa p1 p0 hq (Nat.sub_le_sub_left sb _) (Nat.sub_le_sub_left sa _)
        exact ⟨this.1, .inr (.inr ⟨by rw [this.2]; rfl, la, lb⟩)⟩
theorem which_ok (h : Sides σ a b c) : isFinite ((t3T (brOf a b c)).f σ) = true ∧
    (((whT (brOf a b c)).i σ = 0 ∧ b ≤ a ∧ c ≤ a) ∨ ((whT (brOf a b c)).i σ = 1 ∧ a ≤ b ∧ c ≤ b) ∨ ((whT (brOf a b c)).i σ = 2 ∧ a ≤ c ∧ b ≤ c)) := by
  obtain ⟨h0, h1, h2, ha, hb, hc⟩ := id h
  obtain ⟨⟨la, lb, lc⟩, ⟨sa, sb, sc⟩, em, eM⟩ := mm a b c
  exact which_core la lb lc sa sb sc em eM (fun hne => rc_part h hne (k := 0) h0 la sa) (fun hne => rc_part h hne (k := 1) h1 lb sb) (fun hne => rc_part h hne (k := 2) h2 lc sc) rfl
end

theorem one_tab : ∀ k < 4096, V (mg k 1) = k * 2 ^ 1074 := by
  intro k hk
  obtain ⟨t, ht⟩ := V_has hk (s := 1074) (by decide)
  rw [← ht]
  exact (mg_exact (by decide) (by rw [ht, Nat.one_mul]) (by rw [ht]; exact V_big hk (by decide))).1
theorem big_tab : V (mg 4096 1) = 4096 * 2 ^ 1074 ∧ mg 4096 1 < infMag := by decide +kernel
theorem o4096_f (σ : Nat → Int) : (T.ofi (.lit 4096)).f σ = pack false (mg 4096 1) := by show ofInt 4096 = _; decide +kernel
theorem price_ok {n : Nat} (hn : n < 4096) : truncI (Float64.mul (fl n) (pack false (mg 4096 1))) = n ∧ isFinite (Float64.mul (fl n) (pack false (mg 4096 1))) = true := by
  have h2 : (2 : Nat) ^ 1074 = 4096 * 2 ^ 1062 := by decide +kernel
  have e : V (mg n 4096) * V (mg 4096 1) = 2 ^ 1074 * V (mg n 1) := by
    rw [(fl_tab n hn).1, big_tab.1, one_tab n hn]
    generalize hK : (2 : Nat) ^ 1062 = K at h2
    rw [h2]; ac_rfl
  have hb : V (mg n 1) ≤ 2 ^ 1099 := by
    rw [one_tab n hn]
    calc n * 2 ^ 1074 ≤ 2 ^ 12 * 2 ^ 1074 := Nat.mul_le_mul_right _ (by omega)
      _ ≤ 2 ^ 1099 := by rw [← Nat.pow_add]; exact Nat.pow_le_pow_right (by decide) (by decide)
  refine trunc_btw (mul_btw (fl_btw hn) big_tab.2 (lo' := mg n 1) (hi' := mg n 1) (by rw [e]; exact Nat.le_refl _) (by rw [e]; exact Nat.le_refl _) hb) (by rw [one_tab n hn]; exact Nat.le_refl _) ?_
  rw [one_tab n hn]
  exact Nat.mul_lt_mul_of_pos_right (Nat.lt_succ_self _) (Nat.two_pow_pos _)
end Mine
end
section
set_option maxRecDepth 100000
set_option exponentiation.threshold 3000
namespace Mine
open PySem PyProof.Rows Float64

noncomputable def dimN (w k n : Nat) : Nat := if Nat.beq k w then 0 else n
theorem dimT_f {σ : Nat → Int} {w k n : Nat} (h : σ k = n) : (dimT w k).f σ = fl (dimN w k n) := by
  unfold dimT dimN
  split
  · show (0 : Nat).toUInt64 = fl 0
    rw [fl_eq, mg0]; rfl
  · exact qT_f h
theorem dimN_lt {w k n : Nat} (h : n < 4096) : dimN w k n < 4096 := by unfold dimN; split <;> omega

section
variable {C : Cx} {a b c : Nat}
theorem rgbSp_ok {w : Nat} (g : GH C.prog C.w C.base) (hs : Sides C.σ a b c) :
    ∀ aa args H v H', rgbSp (brOf a b c) w aa args H = some (v, H') → ∀ d ρ s A vs Q, 4 ≤ d → Rel C ρ H s → DenL C.σ ρ H.n args vs → AOk d A → K C ρ H H' (DV C H' v) Q → wpAny (model C.prog C.w) A (call (.ref aa) vs) Q No s := by
  intro aa args H v H' h d ρ s A vs Q hd R da ok k
  unfold rgbSp at h
  cases ha : Nat.beq aa 51 with
  | false => rw [ha] at h; cases h
  | true =>
    have := Nat.eq_of_beq_eq_true ha
    subst this
    simp only [ha, cond_true] at h
    obtain ⟨h0, h1, h2, l0, l1, l2⟩ := id hs
    have fin : ∀ {xs : List AV} {us : List Value} {h' : Heap} {tk : Nat} {r : Addr} {H1 : AH}, H.push (.tuple xs) = .ok H1 → Kept s.heap h' → s.heap.get? r = Option.none → h'.IsTuple r us.toArray →
        DenL C.σ (fun k => if k = H.n then r else ρ k) (H.n + 1) xs us → v = .obj H.n → H' = H1 → Q (.ref r) { s with heap := h', toks := tk } := by
      intro xs us h' tk r H1 hp hk hr ht hd e1 e2
      subst e1; subst e2
      have ⟨R', hn, he⟩ := R.push hp (h' := h') (t := tk) hr hk ⟨us, ht, hd⟩
      refine k _ _ _ he (by omega) R' ⟨by omega, ?_⟩
      show _ = Value.ref (if H.n = H.n then _ else _)
      rw [if_pos rfl]
    split at h
    · rename_i x y z
      obtain ⟨u1, u2, u3, rfl, ⟨t1, e1⟩, ⟨t2, e2⟩, ⟨t3, e3⟩⟩ := DenL.three da
      subst e1; subst e2; subst e3
      split at h
      · rename_i hc
        rw [Bool.and_eq_true, Bool.and_eq_true] at hc
        rw [T.beq_eq hc.1, T.beq_eq hc.2.1, T.beq_eq hc.2.2, qT_f h0, qT_f h1, qT_f h2]
        split at h
        · rename_i H1 hp
          cases h
          refine rgb_call (g.mono R.keep) (ok.mono hd) hs fun h' tk r us hk hr ht hu => ?_
          obtain ⟨t4, t5, u, rfl⟩ := hu
          exact fin hp hk hr ht ⟨⟨t4, rfl⟩, trivial, ⟨t5, by rw [mxT_f hs]⟩, trivial⟩ rfl rfl
        · cases h
      · split at h
        · rename_i hc
          rw [Bool.and_eq_true, Bool.and_eq_true] at hc
          rw [T.beq_eq hc.1, T.beq_eq hc.2.1, T.beq_eq hc.2.2, dimT_f h0, dimT_f h1, dimT_f h2]
          split at h
          · rename_i H1 hp
            cases h
            have d0 := dimN_lt (w := w) (k := 0) l0
            have d1 := dimN_lt (w := w) (k := 1) l1
            have d2 := dimN_lt (w := w) (k := 2) l2
            refine rgb_call (x := fun k => match k with | 0 => (dimN w 0 a : Int) | 1 => (dimN w 1 b : Int) | _ => (dimN w 2 c : Int)) (g.mono R.keep) (ok.mono hd) ⟨rfl, rfl, rfl, d0, d1, d2⟩ fun h' tk r us hk hr ht hu => ?_
            obtain ⟨t4, t5, u, rfl⟩ := hu
            refine fin hp hk hr ht ⟨trivial, trivial, ⟨t5, ?_⟩, trivial⟩ rfl rfl
            show Value.float _ t5 = Value.float (fltMax (fltMax ((dimT w 0).f C.σ) ((dimT w 1).f C.σ)) ((dimT w 2).f C.σ)) t5
            rw [dimT_f h0, dimT_f h1, dimT_f h2, fl_max d0 d1, fl_max (by omega) d2]
          · cases h
        · cases h
    · cases h

theorem rgbSp_fn {B w : Nat} : ∀ a args H r, rgbSp B w a args H = some r → ∃ f, fnTab a = some f := by
  intro a args H r h
  unfold rgbSp at h
  cases ha : Nat.beq a 51 with
  | false => rw [ha] at h; cases h
  | true =>
    have := Nat.eq_of_beq_eq_true ha
    subst this
    exact ⟨_, rfl⟩
end

theorem fl_inf {n : Nat} (h : n < 4096) : isInf (fl n) = false := by
  obtain ⟨m, e, hd, _⟩ := fl_decode h
  unfold isInf; rw [hd]
noncomputable def dimMax (w a b c : Nat) : Nat := max (max (dimN w 0 a) (dimN w 1 b)) (dimN w 2 c)
theorem pf_f {σ : Nat → Int} {a b c : Nat} (hs : Sides σ a b c) (w : Nat) : (pfT w).f σ = Float64.mul (fl (dimMax w a b c)) (pack false (mg 4096 1)) ∧ dimMax w a b c < 4096 := by
  obtain ⟨h0, h1, h2, l0, l1, l2⟩ := hs
  have d0 := dimN_lt (w := w) (k := 0) l0
  have d1 := dimN_lt (w := w) (k := 1) l1
  have d2 := dimN_lt (w := w) (k := 2) l2
  refine ⟨?_, by unfold dimMax; omega⟩
  show Float64.mul (fltMax (fltMax ((dimT w 0).f σ) ((dimT w 1).f σ)) ((dimT w 2).f σ)) ((T.ofi (.lit 4096)).f σ) = _
  rw [o4096_f, dimT_f h0, dimT_f h1, dimT_f h2, fl_max d0 d1, fl_max (by omega) d2]; rfl

theorem fallRows_ok {σ : Nat → Int} {a b c w : Nat} (hs : Sides σ a b c) (hw : (whT (brOf a b c)).i σ = w) : ∀ p ∈ fallRows (brOf a b c) w, p.1.holds σ = p.2 := by
  obtain ⟨h0, h1, h2, l0, l1, l2⟩ := id hs
  have hp := pf_f hs w
  intro p hp'
  simp only [fallRows, List.mem_cons, List.not_mem_nil, or_false] at hp'
  have wq : ∀ k : Nat, (Cond.ieq (.lit k) (whT (brOf a b c))).holds σ = Nat.beq k w := fun k => by
    show ((k : Int) == (whT (brOf a b c)).i σ) = _
    rw [hw, Bool.eq_iff_iff, beq_iff_eq, Nat.beq_eq]; omega
  rcases hp' with rfl | rfl | rfl | rfl | rfl | rfl | rfl | rfl | rfl | rfl
  · show isInf ((qT 0).f σ) = false; rw [qT_f h0]; exact fl_inf l0
  · show isInf ((qT 1).f σ) = false; rw [qT_f h1]; exact fl_inf l1
  · show isInf ((qT 2).f σ) = false; rw [qT_f h2]; exact fl_inf l2
  · show isInf ((T.ofi (.lit 3)).f σ) = false; rw [o3_f]; decide +kernel
  · exact (which_ok hs).1
  · exact wq 0
  · exact wq 1
  · exact wq 2
  · show isInf ((T.ofi (.lit 4096)).f σ) = false; rw [o4096_f]; decide +kernel
  · show isFinite ((pfT w).f σ) = true; rw [hp.1]; exact (price_ok hp.2).2

theorem fallChk_ok : ∀ B < 4, ∀ w < 3, fallChk B w = true := by decide +kernel
theorem H3_n : H3.n = 1 := by decide +kernel
theorem H3_0 : H3.t.get 0 = some (.flist [.int (.var 0), .int (.var 1), .int (.var 2)]) := by kernel_rfl
noncomputable def sg3 (x y z : Int) : Nat → Int := fun k => match k with | 0 => x | 1 => y | _ => z
noncomputable def wf3 (x y z : Int) : Nat := ((whT (brOf x.toNat y.toNat z.toNat)).i (sg3 x y z)).toNat

theorem dim_two {x y : Int} (hx : 0 ≤ x) (hy : 0 ≤ y) : ((max x.toNat y.toNat : Nat) : Int) = imx x y := by
  unfold imx; split <;> omega
theorem dim_val {x y z : Int} (hx : 0 ≤ x) (hy : 0 ≤ y) (hz : 0 ≤ z) : ∀ {W : Nat}, W < 3 → ((dimMax W x.toNat y.toNat z.toNat : Nat) : Int) = priceI W x y z := by
  intro W hW
  have h : W = 0 ∨ W = 1 ∨ W = 2 := by omega
  rcases h with rfl | rfl | rfl
  · have e : dimMax 0 x.toNat y.toNat z.toNat = max (max 0 y.toNat) z.toNat := rfl
    rw [e, Nat.zero_max]; exact dim_two hy hz
  · have e : dimMax 1 x.toNat y.toNat z.toNat = max (max x.toNat 0) z.toNat := rfl
    rw [e, Nat.max_zero]; exact dim_two hx hz
  · have e : dimMax 2 x.toNat y.toNat z.toNat = max (max x.toNat y.toNat) 0 := rfl
    rw [e, Nat.max_zero]; exact dim_two hx hy
theorem trunc_i (σ : Nat → Int) (e : T) : (T.trunc e).i σ = truncI (e.f σ) := by rw [T.i]
theorem price_val {σ : Nat → Int} {x y z : Int} (hs : Sides σ x.toNat y.toNat z.toNat) (hx : 0 ≤ x) (hy : 0 ≤ y) (hz : 0 ≤ z) {W : Nat} (hW : W < 3) : (T.trunc (pfT W)).i σ = priceI W x y z := by
  have hpr := pf_f hs W
  rw [trunc_i, hpr.1, (price_ok hpr.2).1]
  exact dim_val hx hy hz hW
theorem pair_ok {p q u v : Int} {t4 t5 : Tok} (h1 : p = u) (h2 : q = v) : IntsAre [.int p t4, .int q t5] [u, v] := by
  subst h1; subst h2
  exact IntsAre.cons _ _ (IntsAre.cons _ _ IntsAre.nil)

theorem le_toNat {x y : Int} (hy : 0 ≤ y) (h : x.toNat ≤ y.toNat) : x ≤ y := by omega
theorem falls_ok (prog : Program) (w : World) : FallsC prog w wf3 := by
  have sd : ∀ x y z : Int, 0 ≤ x → x < 4096 → 0 ≤ y → y < 4096 → 0 ≤ z → z < 4096 → Sides (sg3 x y z) x.toNat y.toNat z.toNat := fun x y z hx hx' hy hy' hz hz' =>
    ⟨(Int.toNat_of_nonneg hx).symm, (Int.toNat_of_nonneg hy).symm, (Int.toNat_of_nonneg hz).symm, by omega, by omega, by omega⟩
  refine ⟨fun x y z hx hx' hy hy' hz hz' => ?_, fun s g A ok l vs x y z hr hl hv Q hQ => ?_⟩
  · have := (which_ok (sd x y z hx hx' hy hy' hz hz')).2
    unfold wf3
    rcases this with ⟨h, h1, h2⟩ | ⟨h, h1, h2⟩ | ⟨h, h1, h2⟩
    · exact .inl ⟨by rw [h]; rfl, le_toNat hx h1, le_toNat hx h2⟩
    · exact .inr (.inl ⟨by rw [h]; rfl, le_toNat hy h1, le_toNat hy h2⟩)
    · exact .inr (.inr ⟨by rw [h]; rfl, le_toNat hz h1, le_toNat hz h2⟩)
  · obtain ⟨hx, hx', hy, hy', hz, hz'⟩ := hr
    have hs := sd x y z hx hx' hy hy' hz hz'
    have hwh := (which_ok hs).2
    have hwi : (whT (brOf x.toNat y.toNat z.toNat)).i (sg3 x y z) = (wf3 x y z : Int) := by unfold wf3; rcases hwh with ⟨h, _⟩ | ⟨h, _⟩ | ⟨h, _⟩ <;> rw [h] <;> rfl
    have hw3 : wf3 x y z < 3 := by omega
    generalize hW : wf3 x y z = W at *
    have F : Facts ⟨prog, w, sg3 x y z, s.heap, s⟩ (fallP (brOf x.toNat y.toNat z.toNat) W) := facts g (fun _ _ h => findC_ok (fallRows_ok hs hwi) h) rgbSp_fn (rgbSp_ok g hs)
    have hc := fallChk_ok (brOf x.toNat y.toNat z.toNat) (brOf_lt _ _ _) W hw3
    unfold fallChk at hc
    split at hc
    · rename_i k H hrun
      split at hc
      · rename_i h v hk
        rw [Bool.and_eq_true] at hc
        have e1 := T.beq_eq hc.1
        have e2 := T.beq_eq hc.2
        have hdl : DenL (sg3 x y z) (fun _ => l) 1 [.int (.var 0), .int (.var 1), .int (.var 2)] vs := by
          cases hv with | cons _ t0 h => cases h with | cons _ t1 h => cases h with | cons _ t2 h =>
            cases h
            exact ⟨⟨t0, rfl⟩, ⟨t1, rfl⟩, ⟨t2, rfl⟩, trivial⟩
        have R : Rel ⟨prog, w, sg3 x y z, s.heap, s⟩ (fun _ => l) H3 s := Rel.start rfl rfl fun k hk => by
          rw [H3_n] at hk ⊢
          have : k = 0 := by omega
          subst this
          exact ⟨_, H3_0, vs, hl, hdl⟩
        refine call_sound F 40 (d := 11) hrun R (vals := [.ref l]) ⟨⟨by rw [H3_n]; decide, rfl⟩, trivial⟩ ok fun ρ' u s' he hn R' du => ?_
        obtain ⟨hlt, rfl⟩ := du
        obtain ⟨us, ht, hd⟩ := R'.obj hk
        obtain ⟨hh, tk, es⟩ := R'.same
        have e : s' = { s with heap := s'.heap, toks := tk } := by rw [es]
        obtain ⟨hk1, hk2⟩ := AH.at_some hk
        have := hQ s'.heap tk (ρ' k) us R'.keep (R'.fresh k _ hk1 hk2 rfl) ht (by
          obtain ⟨u0, u1, rfl, ⟨t4, d0⟩, ⟨t5, d1⟩⟩ := DenL.two hd
          subst d0; subst d1
          rw [e1, e2]
          exact pair_ok hwi (price_val hs hx hy hz hw3))
        rw [← e] at this
        exact this
      · cases hc
    · cases hc
end Mine
end
section
set_option maxRecDepth 100000
namespace Mine
open PySem PyProof.Rows

theorem entry_bytes_count : entryFor table "bytes.count" = some Builtin.«bytes.count» := entryFor_of_tree (by kernel_rfl)
theorem args_bytes_count (a b : Value) : argsOk "bytes.count" ⟨[a, b], []⟩ := by
  unfold argsOk; rw [signature?_of (id := "bytes.count") (n := ['t', 'n', 'u', 'o', 'c']) (o := ['s', 'e', 't', 'y', 'b']) (by kernel_rfl) W.FB.owner_bytes]; kernel_rfl
theorem lookN_mem {α : Type} {b : List Nat} {r : α} : ∀ {l : List (List Nat × α)}, lookN b l = some r → (b, r) ∈ l
  | [], h => by cases h
  | (x, q) :: t, h => by
    unfold lookN at h
    cases he : eqNs b x with
    | true => rw [he] at h; cases h; rw [eqNs_eq.mp he]; exact List.mem_cons_self
    | false => rw [he] at h; exact List.mem_cons_of_mem _ (lookN_mem h)
theorem cnts_eq : cnts = [([40, 40, 40, 32], [3, 0]), ([40, 40, 32], [2, 0]), ([41, 32], [0, 1]), ([41, 41, 32], [0, 2]), ([40, 32], [1, 0]), ([32], [0, 0])] := by kernel_rfl
theorem count_ok {prog : Program} {w : World} {b c : List Nat} {n : Nat} (h : ∀ t t' : Tok, Builtin.«bytes.count» ⟨[.bytes (toB b) t, .bytes (toB c) t'], []⟩ = retInt (n : Int)) {A : Around} {s : Shared} {Q : Value → Shared → Prop} {t t' : Tok}
    (hq : ∀ tk u, Q (.int (n : Int) u) { s with toks := tk }) : wpAny (model prog w) A (call (.builtin "bytes.count") [.bytes (toB b) t, .bytes (toB c) t']) Q No s := by
  refine wpAny_call_entry slot_bytes_count (W.typeIs_bytes _ _ _) entry_bytes_count ?_ (args_bytes_count _ _)
  rw [h]
  exact wpAny_bind (wpAny_mkInt (wpAny_pure ⟨_, rfl, hq _ _⟩))
theorem cnt_at (prog : Program) (w : World) : ∀ b c n, cntF b c = some n → CntAt prog w b c n := by
  intro b c n h
  unfold cntF at h
  split at h
  · rename_i o s ho
    have hm := lookN_mem ho
    rw [cnts_eq] at hm
    cases h40 : Nat.beq c 40 with
    | true =>
      rw [h40] at h
      have := Nat.eq_of_beq_eq_true h40
      subst this
      simp only [cond_true] at h
      cases h
      intro A s Q t t' hq
      simp only [List.mem_cons, List.not_mem_nil, or_false, Prod.mk.injEq, List.cons.injEq, and_true] at hm
      rcases hm with ⟨rfl, rfl, rfl⟩ | ⟨rfl, rfl, rfl⟩ | ⟨rfl, rfl, rfl⟩ | ⟨rfl, rfl, rfl⟩ | ⟨rfl, rfl, rfl⟩ | ⟨rfl, rfl, rfl⟩ <;> exact count_ok (fun t t' => by kernel_rfl) hq
    | false =>
      rw [h40] at h
      simp only [cond_false] at h
      cases h41 : Nat.beq c 41 with
      | false => rw [h41] at h; cases h
      | true =>
        rw [h41] at h
        have := Nat.eq_of_beq_eq_true h41
        subst this
        simp only [cond_true] at h
        cases h
        intro A s Q t t' hq
        simp only [List.mem_cons, List.not_mem_nil, or_false, Prod.mk.injEq, List.cons.injEq, and_true] at hm
        rcases hm with ⟨rfl, rfl, rfl⟩ | ⟨rfl, rfl, rfl⟩ | ⟨rfl, rfl, rfl⟩ | ⟨rfl, rfl, rfl⟩ | ⟨rfl, rfl, rfl⟩ | ⟨rfl, rfl, rfl⟩ <;> exact count_ok (fun t t' => by kernel_rfl) hq
  · cases h
end Mine
end
section
set_option maxRecDepth 100000
namespace Mine
open PySem PySem.W PyProof.Rows PySem.Builtin PySem.Builtin.Re

noncomputable def KP (t1 t2 : Tok) : Frag := [(35, { cls := .type "tuple", data := .seq #[.int 14 0, .int 8 0, .int 1 0, .int 2 0, .int 4294967295 0, .int 1 0, .int 1 0, .int 34 0, .int 0 0, .int 16 0, .int 34 0, .int 28 0, .int 22 0, .int 0 0, .int 4294967295 0, .int 7 0, .int 11 0, .int 13 0, .int 7 0, .int 21 0, .int 16 0, .int 34 0,
  .int 16 0, .int 92 0, .int 0 0, .int 15 0, .int 8 0, .int 6 0, .int 16 0, .int 92 0, .int 2 0, .int 15 0, .int 2 0, .int 0 0, .int 1 0, .int 16 0, .int 34 0, .int 1 0] }),
  (36, { cls := .type "re.Pattern", data := .fields #[.bytes #[34, 40, 63, 58, 91, 94, 34, 92, 92, 93, 124, 92, 92, 46, 41, 42, 43, 34] t1, .int 0 t2, .int 0 0, .none, .none, .ref 35, .int 1 0] })]
noncomputable def codeQ : Array Nat := #[14, 8, 1, 2, 4294967295, 1, 1, 34, 0, 16, 34, 28, 22, 0, 4294967295, 7, 11, 13, 7, 21, 16, 34, 16, 92, 0, 15, 8, 6, 16, 92, 2, 15, 2, 0, 1, 16, 34, 1]
theorem target_peek (S : Setting) (t1 t2 t : Tok) : peek (KP t1 t2) S (reWholeTarget (.ref 36) (.bytes (toB [40, 40, 34, 40, 34, 32]) t)) =
    some { pattern := .ref 36, string := .bytes (toB [40, 40, 34, 40, 34, 32]) t, code := codeQ, text := #[40, 40, 34, 40, 34, 32], kind := 1, groups := 0, pos := 0, lim := 6 } := by
  kernel_rfl
noncomputable def tgt (text : Array Nat) (v : Value) : ReTarget := { pattern := .ref 36, string := v, code := codeQ, text := text, kind := 1, groups := 0, pos := 0, lim := text.size }
theorem found_peek (S : Setting) (v : Value) : (peek [] S (reNextFound (tgt #[40, 40, 34, 40, 34, 32] v) 0 false)).map (fun m => m.map fun m => (m.start, m.handed)) = some (some (2, 5)) := by
  kernel_rfl
end Mine
end
section
set_option maxRecDepth 100000
namespace Mine
open PySem PySem.W PyProof.Rows PySem.Builtin PySem.Builtin.Re
theorem entry_pat_sub : entryFor table "re.Pattern.sub" = some Builtin.«re.Pattern.sub» := entryFor_of_tree (by kernel_rfl)
theorem entry_pat_loop : entryFor table "re.Pattern.sub.loop" = some Builtin.«re.Pattern.sub.loop» := entryFor_of_tree (by kernel_rfl)
theorem owner_pat : Manifest.owners.lookup (String.ofList ['n','r','e','t','t','a','P','.','e','r'].reverse) = some Manifest.sig_re_Pattern := by kernel_rfl
theorem args_pat_sub (a b c : Value) : argsOk "re.Pattern.sub" ⟨[a, b, c], []⟩ := by
  unfold argsOk; rw [signature?_of (id := "re.Pattern.sub") (n := ['b', 'u', 's']) (o := ['n','r','e','t','t','a','P','.','e','r']) (by kernel_rfl) owner_pat]; kernel_rfl
end Mine
end
section
set_option maxRecDepth 100000
namespace Mine
open PySem PyProof.Rows

/-! ## reading a tree with one object under way (the list at L) and fixed ones by an oracle -/
abbrev Evs := List (Addr × Option Obj)
noncomputable def go {α : Type} (S : Setting) (L : Addr) : Sem α → List (Option Obj) → Option Obj → Nat → Option (Evs × Option Obj × Nat × Sem α)
  | .pure a, _, l, t => some ([], l, t, .pure a)
  | .call c h g lv k, _, l, t => some ([], l, t, .call c h g lv k)
  | .rule _ k, r, l, t => go S L (k ()) r l t
  | .at _ k, r, l, t => go S L (k ()) r l t
  | .point _ k, r, l, t => go S L (k ()) r l t
  | .ask k, r, l, t => go S L (k S) r l t
  | .fresh k, r, l, t => go S L (k t) r l (t + 1)
  | .load a _ k, some o :: r, l, t => (go S L (k o) r l t).map fun x => ((a, some o) :: x.1, x.2)
  | .load a _ k, Option.none :: r, some lo, t => (go S L (k lo) r (some lo) t).map fun x => ((a, Option.none) :: x.1, x.2)
  | .update a _ f k, Option.none :: r, some lo, t => bif (f lo).isFreed then Option.none else (go S L (k ()) r (some (f lo)) t).map fun x => ((a, Option.none) :: x.1, x.2)
  | .alloc o k, r, Option.none, t => bif o.isFreed then Option.none else go S L (k L) r (some o) t
  | _, _, _, _ => Option.none

structure Frame (L : Addr) (s : Shared) (l : Option Obj) (s' : Shared) (l' : Option Obj) (t' : Nat) : Prop where
  same : ∃ h', s' = { s with heap := h', toks := t' }
  keep : ∀ b o, b ≠ L → s.heap.get? b = some o → s'.heap.get? b = some o
  now : ∀ o, l' = some o → s'.heap.get? L = some o
theorem go_ok {α : Type} {M : Model} {A : Around} {E : Value → Shared → Prop} {L : Addr} : ∀ (tree : Sem α) (r : List (Option Obj)) (l : Option Obj) (t : Nat) (s : Shared) (Q : α → Shared → Prop) (ev : Evs) (l' : Option Obj) (t' : Nat) (res : Sem α),
    go ⟨M.prog, M.w.params⟩ L tree r l t = some (ev, l', t', res) → (∀ a x, (a, x) ∈ ev → match x with | some o => s.heap.get? a = some o ∧ a ≠ L | Option.none => a = L) →
    s.toks = t → (∀ o, l = some o → s.heap.get? L = some o) → (l = Option.none → L = s.heap.objs.size) →
    (∀ s', Frame L s l s' l' t' → wpAny M A res Q E s') → wpAny M A tree Q E s := by
  intro tree
  have stop : ∀ (tree : Sem α) (l : Option Obj) (t : Nat) (s : Shared) (Q : α → Shared → Prop) (ev : Evs) (l' : Option Obj) (t' : Nat) (res : Sem α), some (([] : Evs), l, t, tree) = some (ev, l', t', res) →
      s.toks = t → (∀ o, l = some o → s.heap.get? L = some o) → (∀ s', Frame L s l s' l' t' → wpAny M A res Q E s') → wpAny M A tree Q E s := by
    intro tree l t s Q ev l' t' res h ht hl hq
    cases h
    exact hq s ⟨⟨s.heap, by rw [← ht]⟩, fun _ _ _ e => e, hl⟩
  induction tree with
  | pure a => intro r l t s Q ev l' t' res h _ ht hl _ hq; exact stop _ l t s Q ev l' t' res h ht hl hq
  | call c h g lv k ih => intro r l t s Q ev l' t' res h _ ht hl _ hq; exact stop _ l t s Q ev l' t' res h ht hl hq
  | rule _ k ih => intro r l t s Q ev l' t' res h he ht hl hL hq; intro Γ p hΓ; rw [Sem.wp_rule]; exact ih () r l t s Q ev l' t' res h he ht hl hL hq Γ p hΓ
  | «at» _ k ih => intro r l t s Q ev l' t' res h he ht hl hL hq; intro Γ p hΓ; rw [Sem.wp_at]; exact ih () r l t s Q ev l' t' res h he ht hl hL hq Γ _ hΓ
  | point _ k ih => intro r l t s Q ev l' t' res h he ht hl hL hq; intro Γ p hΓ; rw [Sem.wp_point]; exact ih () r l t s Q ev l' t' res h he ht hl hL hq Γ p hΓ
  | ask k ih => intro r l t s Q ev l' t' res h he ht hl hL hq; intro Γ p hΓ; rw [Sem.wp_ask]; exact ih _ r l t s Q ev l' t' res h he ht hl hL hq Γ p hΓ
  | fresh k ih =>
    intro r l t s Q ev l' t' res h he ht hl hL hq Γ p hΓ
    rw [Sem.wp_fresh]
    rw [ht]
    refine ih t r l (t + 1) { s with toks := t + 1 } Q ev l' t' res h he rfl hl hL (fun s' f => hq s' ⟨?_, f.keep, f.now⟩) Γ p hΓ
    obtain ⟨h', e⟩ := f.same
    exact ⟨h', e⟩
  | load a pt k ih =>
    intro r l t s Q ev l' t' res h he ht hl hL hq Γ p hΓ
    rw [Sem.wp_load]
    cases r with
    | nil => exact absurd (show (Option.none : Option (Evs × Option Obj × Nat × Sem α)) = some (ev, l', t', res) from h) (fun e => nomatch e)
    | cons c r =>
      cases c with
      | some o =>
        obtain ⟨⟨ev1, y⟩, h1, h2⟩ := Option.map_eq_some_iff.mp (show (go ⟨M.prog, M.w.params⟩ L (k o) r l t).map (fun x => ((a, some o) :: x.1, x.2)) = some (ev, l', t', res) from h)
        cases h2
        refine ⟨o, (he a (some o) (List.mem_cons_self)).1, ih o r l t s Q ev1 l' t' res h1 (fun b x hb => he b x (List.mem_cons_of_mem _ hb)) ht hl hL hq Γ p hΓ⟩
      | none =>
        cases l with
        | none => exact absurd (show (Option.none : Option (Evs × Option Obj × Nat × Sem α)) = some (ev, l', t', res) from h) (fun e => nomatch e)
        | some lo =>
          obtain ⟨⟨ev1, y⟩, h1, h2⟩ := Option.map_eq_some_iff.mp (show (go ⟨M.prog, M.w.params⟩ L (k lo) r (some lo) t).map (fun x => ((a, Option.none) :: x.1, x.2)) = some (ev, l', t', res) from h)
          cases h2
          have e : a = L := he a Option.none (List.mem_cons_self)
          refine ⟨lo, by rw [e]; exact hl _ rfl, ih lo r (some lo) t s Q ev1 l' t' res h1 (fun b x hb => he b x (List.mem_cons_of_mem _ hb)) ht hl hL hq Γ p hΓ⟩
  | update a pt f k ih =>
    intro r l t s Q ev l' t' res h he ht hl hL hq Γ p hΓ
    rw [Sem.wp_update]
    cases r with
    | nil => exact absurd (show (Option.none : Option (Evs × Option Obj × Nat × Sem α)) = some (ev, l', t', res) from h) (fun e => nomatch e)
    | cons c r =>
      cases c with
      | some o => exact absurd (show (Option.none : Option (Evs × Option Obj × Nat × Sem α)) = some (ev, l', t', res) from h) (fun e => nomatch e)
      | none =>
        cases l with
        | none => exact absurd (show (Option.none : Option (Evs × Option Obj × Nat × Sem α)) = some (ev, l', t', res) from h) (fun e => nomatch e)
        | some lo =>
          replace h : (bif (f lo).isFreed then Option.none else (go ⟨M.prog, M.w.params⟩ L (k ()) r (some (f lo)) t).map fun x => ((a, Option.none) :: x.1, x.2)) = some (ev, l', t', res) := h
          cases hfr : (f lo).isFreed with
          | true => rw [hfr] at h; cases h
          | false =>
            rw [hfr] at h
            obtain ⟨⟨ev1, y⟩, h1, h2⟩ := Option.map_eq_some_iff.mp h
            cases h2
            have e : a = L := he a Option.none (List.mem_cons_self)
            subst e
            have hl0 := hl lo rfl
            refine ⟨by rw [hl0]; rfl, ih () r (some (f lo)) t { s with heap := s.heap.update a f } Q ev1 l' t' res h1 (fun b x hb => ?_) ht (fun o ho => ?_) (fun x => by cases x) (fun s' fr => hq s' ⟨?_, ?_, fr.now⟩) Γ p hΓ⟩
            · have := he b x (List.mem_cons_of_mem _ hb)
              cases x with
              | none => exact this
              | some o => exact ⟨(Heap.get?_update_other _ f (Ne.symm this.2)).trans this.1, this.2⟩
            · cases ho; exact Heap.get?_update_self f hl0 hfr
            · obtain ⟨h', e⟩ := fr.same; exact ⟨h', e⟩
            · intro b o hb ho; exact fr.keep b o hb ((Heap.get?_update_other _ f (Ne.symm hb)).trans ho)
  | alloc o k ih =>
    intro r l t s Q ev l' t' res h he ht hl hL hq Γ p hΓ
    rw [Sem.wp_alloc]
    cases l with
    | some lo => exact absurd (show (Option.none : Option (Evs × Option Obj × Nat × Sem α)) = some (ev, l', t', res) from h) (fun e => nomatch e)
    | none =>
      replace h : (bif o.isFreed then Option.none else go ⟨M.prog, M.w.params⟩ L (k L) r (some o) t) = some (ev, l', t', res) := h
      cases hfr : o.isFreed with
      | true => rw [hfr] at h; cases h
      | false =>
        rw [hfr] at h
        have hL' := hL rfl
        rw [← hL']
        refine ih L r (some o) t { s with heap := s.heap.push o } Q ev l' t' res h (fun b x hb => ?_) ht (fun o ho => ?_) (fun x => by cases x) (fun s' fr => hq s' ⟨?_, ?_, fr.now⟩) Γ p hΓ
        · have := he b x hb
          cases x with
          | none => exact this
          | some o' => exact ⟨Heap.get?_push_of_some _ this.1, this.2⟩
        · cases ho; rw [hL']; exact Heap.get?_push_size _ hfr
        · obtain ⟨h', e⟩ := fr.same; exact ⟨h', e⟩
        · intro b o hb ho; exact fr.keep b o hb (Heap.get?_push_of_some _ ho)
  | _ => intro r l t s Q ev l' t' res h; exact absurd (show (Option.none : Option (Evs × Option Obj × Nat × Sem α)) = some (ev, l', t', res) from h) (fun e => nomatch e)
end Mine
end
section
set_option maxRecDepth 100000
namespace Mine
open PySem PySem.W PyProof.Rows PySem.Builtin PySem.Builtin.Re

theorem slot_bytes_join : Slot "bytes" "join" "bytes.join" :=
  .of (owner := "bytes") (n := "join") (by rw [typeLookup_type, builtinLookup_eq_fast]; kernel_rfl) (by decide +kernel) (by decide +kernel) (by decide +kernel)
    (by first | exact .inl (by decide +kernel) | exact .inr (by decide +kernel)) (by rw [isSubtype_type]; kernel_rfl)
theorem entry_bytes_join : entryFor table "bytes.join" = some Builtin.«bytes.join» := entryFor_of_tree (by kernel_rfl)
theorem args_bytes_join (a b : Value) : argsOk "bytes.join" ⟨[a, b], []⟩ := by
  unfold argsOk; rw [signature?_of (id := "bytes.join") (n := ['n', 'i', 'o', 'j']) (o := ['s', 'e', 't', 'y', 'b']) (by kernel_rfl) W.FB.owner_bytes]; kernel_rfl

noncomputable def o35 : Obj := { cls := .type "tuple", data := .seq #[.int 14 0, .int 8 0, .int 1 0, .int 2 0, .int 4294967295 0, .int 1 0, .int 1 0, .int 34 0, .int 0 0, .int 16 0, .int 34 0, .int 28 0, .int 22 0, .int 0 0, .int 4294967295 0, .int 7 0, .int 11 0, .int 13 0, .int 7 0, .int 21 0, .int 16 0, .int 34 0,
  .int 16 0, .int 92 0, .int 0 0, .int 15 0, .int 8 0, .int 6 0, .int 16 0, .int 92 0, .int 2 0, .int 15 0, .int 2 0, .int 0 0, .int 1 0, .int 16 0, .int 34 0, .int 1 0] }
noncomputable def o36 (t1 t2 : Tok) : Obj := { cls := .type "re.Pattern", data := .fields #[.bytes #[34, 40, 63, 58, 91, 94, 34, 92, 92, 93, 124, 92, 92, 46, 41, 42, 43, 34] t1, .int 0 t2, .int 0 0, .none, .none, .ref 35, .int 1 0] }
noncomputable def lst (xs : List Value) (n : Nat) : Obj := { cls := .type "list", data := .seq xs.toArray n }
noncomputable def loopArgs (b : List Nat) (t t' : Tok) (L : Addr) (n h : Int) : Args := ⟨[.ref 36, .bytes (toB b) t', .bytes #[] t, rawInt 0, rawInt 0, rawInt n, rawInt h, rawInt h, .bool false, .ref L, .bool false], []⟩
noncomputable def pre (b : List Nat) : Nat → Tok → List Value
  | 0, _ => []
  | o + 1, tk => [.bytes (toB (b.take (o + 1))) tk]
noncomputable def patEv (t1 t2 : Tok) (n : Nat) : List (Option Obj) := some (o36 t1 t2) :: some o35 :: List.replicate n Option.none
noncomputable def patEvs (t1 t2 : Tok) (L : Addr) (n : Nat) : Evs := (36, some (o36 t1 t2)) :: (35, some o35) :: List.replicate n (L, Option.none)
noncomputable def inc : Nat → Nat
  | 0 => 0
  | _ + 1 => 1

structure SubRun (b r : List Nat) (o h : Nat) : Prop where
  ha : ∀ S L tk t t' t1 t2, go S L (Builtin.«re.Pattern.sub» ⟨[.ref 36, .bytes #[] t, .bytes (toB b) t'], []⟩) (patEv t1 t2 0) Option.none tk = some (patEvs t1 t2 L 0, some (lst [] 0), tk, pure (.again (.builtin "re.Pattern.sub.loop" (loopArgs b t t' L 0 0))))
  hb : ∀ S L tk t t' t1 t2, go S L (Builtin.«re.Pattern.sub.loop» (loopArgs b t t' L 0 0)) (patEv t1 t2 (3 + 3 * inc o)) (some (lst [] 0)) tk =
    some (patEvs t1 t2 L (3 + 3 * inc o), some (lst (pre b o tk ++ [.bytes #[] t]) (inc o + 1)), tk + inc o, pure (.again (.builtin "re.Pattern.sub.loop" (loopArgs b t t' L 1 h))))
  hc : ∀ S L tk tk0 t t' t1 t2, go S L (Builtin.«re.Pattern.sub.loop» (loopArgs b t t' L 1 h)) (patEv t1 t2 4) (some (lst (pre b o tk0 ++ [.bytes #[] t]) (inc o + 1))) tk =
    some (patEvs t1 t2 L 4, some (lst (pre b o tk0 ++ [.bytes #[] t, .bytes (toB (b.drop h)) tk]) (inc o + 2)), tk + 2, call (.builtin "bytes.join") [.bytes #[] (tk + 1), .ref L] >>= fun text => ret text)
  hd : ∀ S L tk tk0 tk1 t u, go S L (Builtin.«bytes.join» ⟨[.bytes #[] u, .ref L], []⟩) (List.replicate (6 + 2 * inc o) Option.none) (some (lst (pre b o tk0 ++ [.bytes #[] t, .bytes (toB (b.drop h)) tk1]) (inc o + 2))) tk =
    some (List.replicate (6 + 2 * inc o) (L, Option.none), some (lst (pre b o tk0 ++ [.bytes #[] t, .bytes (toB (b.drop h)) tk1]) (inc o + 2)), tk + 1, ret (.bytes (toB r) tk))

theorem r1 : SubRun [40, 40, 34, 40, 34, 32] [40, 40, 32] 2 5 where
  ha := fun S L tk t t' t1 t2 => by kernel_rfl
  hb := fun S L tk t t' t1 t2 => by kernel_rfl
  hc := fun S L tk tk0 t t' t1 t2 => by kernel_rfl
  hd := fun S L tk tk0 tk1 t u => by kernel_rfl
end Mine
end
section
set_option maxRecDepth 100000
namespace Mine
open PySem PySem.W PyProof.Rows PySem.Builtin PySem.Builtin.Re

theorem pat_evs {s : Shared} {L : Addr} {t1 t2 : Tok} {n : Nat} (h6 : s.heap.get? 36 = some (o36 t1 t2)) (h5 : s.heap.get? 35 = some o35) (l6 : 36 ≠ L) (l5 : 35 ≠ L) :
    ∀ a x, (a, x) ∈ patEvs t1 t2 L n → match x with | some o => s.heap.get? a = some o ∧ a ≠ L | Option.none => a = L := by
  intro a x h
  simp only [patEvs, List.mem_cons, Prod.mk.injEq, List.mem_replicate] at h
  rcases h with ⟨rfl, rfl⟩ | ⟨rfl, rfl⟩ | ⟨_, rfl, rfl⟩
  · exact ⟨h6, l6⟩
  · exact ⟨h5, l5⟩
  · rfl
theorem quiet_loop (args : Args) : (Code.builtin "re.Pattern.sub.loop" args).quiet = true := Code.quiet_builtin _ (by decide +kernel)
theorem get_lt {h : Heap} {a : Addr} {o : Obj} (e : h.get? a = some o) : a ≠ h.objs.size := Nat.ne_of_lt (Heap.lt_size e)

theorem sub_of {b r : List Nat} {o m : Nat} (R : SubRun b r o m) {prog : Program} {w : World} {h : Heap} {t1 t2 : Tok} (h6 : h.get? 36 = some (o36 t1 t2)) (h5 : h.get? 35 = some o35) : SubAt prog w h b r := by
  intro A s Q t t' _ _ hk hq
  have s6 := hk _ _ h6
  have s5 := hk _ _ h5
  have l6 := get_lt s6
  have l5 := get_lt s5
  have hty : s.TypeIs (.ref 36) "re.Pattern" := ⟨_, s6, rfl⟩
  refine wpAny_call (codeAny_call_builtin slot_pat_sub.plain entry_pat_sub (slot_pat_sub.check _ _ _ _ _ _ _ _ hty (args_pat_sub _ _ _) ?_))
  refine go_ok (L := s.heap.objs.size) _ _ Option.none s.toks s _ _ _ _ _ (R.ha _ _ _ t t' t1 t2) (pat_evs s6 s5 l6 l5) rfl (fun o e => by cases e) (fun _ => rfl) (fun s1 F1 => wpAny_pure ⟨quiet_loop _, ?_⟩)
  obtain ⟨H1, e1⟩ := F1.same
  refine codeAny_builtin entry_pat_loop ?_
  refine go_ok (L := s.heap.objs.size) _ _ (some (lst [] 0)) s1.toks s1 _ _ _ _ _ (R.hb _ _ _ t t' t1 t2) (pat_evs (F1.keep _ _ l6 s6) (F1.keep _ _ l5 s5) l6 l5) rfl (fun o e => F1.now o e) (fun x => by cases x) (fun s2 F2 => wpAny_pure ⟨quiet_loop _, ?_⟩)
  obtain ⟨H2, e2⟩ := F2.same
  refine codeAny_builtin entry_pat_loop ?_
  refine go_ok (L := s.heap.objs.size) _ _ (some (lst (pre b o s1.toks ++ [.bytes #[] t]) (inc o + 1))) s2.toks s2 _ _ _ _ _ (R.hc _ _ _ s1.toks t t' t1 t2) (pat_evs (F2.keep _ _ l6 (F1.keep _ _ l6 s6)) (F2.keep _ _ l5 (F1.keep _ _ l5 s5)) l6 l5) rfl
    (fun o e => F2.now o e) (fun x => by cases x) (fun s3 F3 => ?_)
  obtain ⟨H3, e3⟩ := F3.same
  refine wpAny_bind (wpAny_call_entry slot_bytes_join (W.typeIs_bytes _ _ _) entry_bytes_join ?_ (args_bytes_join _ _))
  refine go_ok (L := s.heap.objs.size) _ _ (some (lst (pre b o s1.toks ++ [.bytes #[] t, .bytes (toB (b.drop m)) s2.toks]) (inc o + 2))) s3.toks s3 _ _ _ _ _ (R.hd _ _ _ s1.toks s2.toks t _)
    (fun a x hx => ?_) rfl (fun o e => F3.now o e) (fun x => by cases x) (fun s4 F4 => ?_)
  · obtain ⟨_, e⟩ := List.mem_replicate.mp hx
    cases e; rfl
  · obtain ⟨H4, e4⟩ := F4.same
    refine wpAny_pure ⟨_, rfl, wpAny_pure ?_⟩
    have := hq H4 (s3.toks + 1) s3.toks (fun b o e => by
      have hb := get_lt e
      have := F4.keep b o hb (F3.keep b o hb (F2.keep b o hb (F1.keep b o hb e)))
      rw [e4] at this; exact this)
    have e : s4 = { s with heap := H4, toks := s3.toks + 1 } := by rw [e4, e3, e2, e1]
    rw [e]; exact this

theorem sr0 : SubRun [40, 40, 40, 34, 40, 34, 32] [40, 40, 40, 32] 3 6 :=
  ⟨fun S L tk t t' t1 t2 => by kernel_rfl, fun S L tk t t' t1 t2 => by kernel_rfl, fun S L tk tk0 t t' t1 t2 => by kernel_rfl, fun S L tk tk0 tk1 t u => by kernel_rfl⟩
theorem sr1 : SubRun [40, 40, 34, 40, 34, 32] [40, 40, 32] 2 5 :=
  ⟨fun S L tk t t' t1 t2 => by kernel_rfl, fun S L tk t t' t1 t2 => by kernel_rfl, fun S L tk tk0 t t' t1 t2 => by kernel_rfl, fun S L tk tk0 tk1 t u => by kernel_rfl⟩
theorem sr2 : SubRun [34, 40, 34, 41, 32] [41, 32] 0 3 :=
  ⟨fun S L tk t t' t1 t2 => by kernel_rfl, fun S L tk t t' t1 t2 => by kernel_rfl, fun S L tk tk0 t t' t1 t2 => by kernel_rfl, fun S L tk tk0 tk1 t u => by kernel_rfl⟩
theorem sr3 : SubRun [34, 40, 34, 41, 41, 32] [41, 41, 32] 0 3 :=
  ⟨fun S L tk t t' t1 t2 => by kernel_rfl, fun S L tk t t' t1 t2 => by kernel_rfl, fun S L tk tk0 t t' t1 t2 => by kernel_rfl, fun S L tk tk0 tk1 t u => by kernel_rfl⟩
theorem sr4 : SubRun [40, 34, 40, 34, 32] [40, 32] 1 4 :=
  ⟨fun S L tk t t' t1 t2 => by kernel_rfl, fun S L tk t t' t1 t2 => by kernel_rfl, fun S L tk tk0 t t' t1 t2 => by kernel_rfl, fun S L tk tk0 tk1 t u => by kernel_rfl⟩
theorem sr5 : SubRun [34, 40, 34, 32] [32] 0 3 :=
  ⟨fun S L tk t t' t1 t2 => by kernel_rfl, fun S L tk t t' t1 t2 => by kernel_rfl, fun S L tk tk0 t t' t1 t2 => by kernel_rfl, fun S L tk tk0 tk1 t u => by kernel_rfl⟩
theorem sr6 : SubRun [40, 40, 40, 34, 41, 34, 32] [40, 40, 40, 32] 3 6 :=
  ⟨fun S L tk t t' t1 t2 => by kernel_rfl, fun S L tk t t' t1 t2 => by kernel_rfl, fun S L tk tk0 t t' t1 t2 => by kernel_rfl, fun S L tk tk0 tk1 t u => by kernel_rfl⟩
theorem sr7 : SubRun [40, 40, 34, 41, 34, 32] [40, 40, 32] 2 5 :=
  ⟨fun S L tk t t' t1 t2 => by kernel_rfl, fun S L tk t t' t1 t2 => by kernel_rfl, fun S L tk tk0 t t' t1 t2 => by kernel_rfl, fun S L tk tk0 tk1 t u => by kernel_rfl⟩
theorem sr8 : SubRun [34, 41, 34, 41, 32] [41, 32] 0 3 :=
  ⟨fun S L tk t t' t1 t2 => by kernel_rfl, fun S L tk t t' t1 t2 => by kernel_rfl, fun S L tk tk0 t t' t1 t2 => by kernel_rfl, fun S L tk tk0 tk1 t u => by kernel_rfl⟩
theorem sr9 : SubRun [34, 41, 34, 41, 41, 32] [41, 41, 32] 0 3 :=
  ⟨fun S L tk t t' t1 t2 => by kernel_rfl, fun S L tk t t' t1 t2 => by kernel_rfl, fun S L tk tk0 t t' t1 t2 => by kernel_rfl, fun S L tk tk0 tk1 t u => by kernel_rfl⟩
theorem sr10 : SubRun [40, 34, 41, 34, 32] [40, 32] 1 4 :=
  ⟨fun S L tk t t' t1 t2 => by kernel_rfl, fun S L tk t t' t1 t2 => by kernel_rfl, fun S L tk tk0 t t' t1 t2 => by kernel_rfl, fun S L tk tk0 tk1 t u => by kernel_rfl⟩
theorem sr11 : SubRun [34, 41, 34, 32] [32] 0 3 :=
  ⟨fun S L tk t t' t1 t2 => by kernel_rfl, fun S L tk t t' t1 t2 => by kernel_rfl, fun S L tk tk0 t t' t1 t2 => by kernel_rfl, fun S L tk tk0 tk1 t u => by kernel_rfl⟩
theorem sr12 : SubRun [40, 40, 40, 34, 40, 40, 34, 32] [40, 40, 40, 32] 3 7 :=
  ⟨fun S L tk t t' t1 t2 => by kernel_rfl, fun S L tk t t' t1 t2 => by kernel_rfl, fun S L tk tk0 t t' t1 t2 => by kernel_rfl, fun S L tk tk0 tk1 t u => by kernel_rfl⟩
theorem sr13 : SubRun [40, 40, 34, 40, 40, 34, 32] [40, 40, 32] 2 6 :=
  ⟨fun S L tk t t' t1 t2 => by kernel_rfl, fun S L tk t t' t1 t2 => by kernel_rfl, fun S L tk tk0 t t' t1 t2 => by kernel_rfl, fun S L tk tk0 tk1 t u => by kernel_rfl⟩
theorem sr14 : SubRun [34, 40, 40, 34, 41, 32] [41, 32] 0 4 :=
  ⟨fun S L tk t t' t1 t2 => by kernel_rfl, fun S L tk t t' t1 t2 => by kernel_rfl, fun S L tk tk0 t t' t1 t2 => by kernel_rfl, fun S L tk tk0 tk1 t u => by kernel_rfl⟩
theorem sr15 : SubRun [34, 40, 40, 34, 41, 41, 32] [41, 41, 32] 0 4 :=
  ⟨fun S L tk t t' t1 t2 => by kernel_rfl, fun S L tk t t' t1 t2 => by kernel_rfl, fun S L tk tk0 t t' t1 t2 => by kernel_rfl, fun S L tk tk0 tk1 t u => by kernel_rfl⟩
theorem sr16 : SubRun [40, 34, 40, 40, 34, 32] [40, 32] 1 5 :=
  ⟨fun S L tk t t' t1 t2 => by kernel_rfl, fun S L tk t t' t1 t2 => by kernel_rfl, fun S L tk tk0 t t' t1 t2 => by kernel_rfl, fun S L tk tk0 tk1 t u => by kernel_rfl⟩
theorem sr17 : SubRun [34, 40, 40, 34, 32] [32] 0 4 :=
  ⟨fun S L tk t t' t1 t2 => by kernel_rfl, fun S L tk t t' t1 t2 => by kernel_rfl, fun S L tk tk0 t t' t1 t2 => by kernel_rfl, fun S L tk tk0 tk1 t u => by kernel_rfl⟩
theorem sr18 : SubRun [40, 40, 40, 34, 97, 92, 34, 41, 34, 32] [40, 40, 40, 32] 3 9 :=
  ⟨fun S L tk t t' t1 t2 => by kernel_rfl, fun S L tk t t' t1 t2 => by kernel_rfl, fun S L tk tk0 t t' t1 t2 => by kernel_rfl, fun S L tk tk0 tk1 t u => by kernel_rfl⟩
theorem sr19 : SubRun [40, 40, 34, 97, 92, 34, 41, 34, 32] [40, 40, 32] 2 8 :=
  ⟨fun S L tk t t' t1 t2 => by kernel_rfl, fun S L tk t t' t1 t2 => by kernel_rfl, fun S L tk tk0 t t' t1 t2 => by kernel_rfl, fun S L tk tk0 tk1 t u => by kernel_rfl⟩
theorem sr20 : SubRun [34, 97, 92, 34, 41, 34, 41, 32] [41, 32] 0 6 :=
  ⟨fun S L tk t t' t1 t2 => by kernel_rfl, fun S L tk t t' t1 t2 => by kernel_rfl, fun S L tk tk0 t t' t1 t2 => by kernel_rfl, fun S L tk tk0 tk1 t u => by kernel_rfl⟩
theorem sr21 : SubRun [34, 97, 92, 34, 41, 34, 41, 41, 32] [41, 41, 32] 0 6 :=
  ⟨fun S L tk t t' t1 t2 => by kernel_rfl, fun S L tk t t' t1 t2 => by kernel_rfl, fun S L tk tk0 t t' t1 t2 => by kernel_rfl, fun S L tk tk0 tk1 t u => by kernel_rfl⟩
theorem sr22 : SubRun [40, 34, 97, 92, 34, 41, 34, 32] [40, 32] 1 7 :=
  ⟨fun S L tk t t' t1 t2 => by kernel_rfl, fun S L tk t t' t1 t2 => by kernel_rfl, fun S L tk tk0 t t' t1 t2 => by kernel_rfl, fun S L tk tk0 tk1 t u => by kernel_rfl⟩
theorem sr23 : SubRun [34, 97, 92, 34, 41, 34, 32] [32] 0 6 :=
  ⟨fun S L tk t t' t1 t2 => by kernel_rfl, fun S L tk t t' t1 t2 => by kernel_rfl, fun S L tk tk0 t t' t1 t2 => by kernel_rfl, fun S L tk tk0 tk1 t u => by kernel_rfl⟩
theorem subs_eq : subs = [([40, 40, 40, 34, 40, 34, 32], [40, 40, 40, 32]), ([40, 40, 34, 40, 34, 32], [40, 40, 32]), ([34, 40, 34, 41, 32], [41, 32]), ([34, 40, 34, 41, 41, 32], [41, 41, 32]), ([40, 34, 40, 34, 32], [40, 32]), ([34, 40, 34, 32], [32]), ([40, 40, 40, 34, 41, 34, 32], [40, 40, 40, 32]), ([40, 40, 34, 41, 34, 32], [40, 40, 32]), ([34, 41, 34, 41, 32], [41, 32]), ([34, 41, 34, 41, 41, 32], [41, 41, 32]), ([40, 34, 41, 34, 32], [40, 32]), ([34, 41, 34, 32], [32]), ([40, 40, 40, 34, 40, 40, 34, 32], [40, 40, 40, 32]), ([40, 40, 34, 40, 40, 34, 32], [40, 40, 32]), ([34, 40, 40, 34, 41, 32], [41, 32]), ([34, 40, 40, 34, 41, 41, 32], [41, 41, 32]), ([40, 34, 40, 40, 34, 32], [40, 32]), ([34, 40, 40, 34, 32], [32]), ([40, 40, 40, 34, 97, 92, 34, 41, 34, 32], [40, 40, 40, 32]), ([40, 40, 34, 97, 92, 34, 41, 34, 32], [40, 40, 32]), ([34, 97, 92, 34, 41, 34, 41, 32], [41, 32]), ([34, 97, 92, 34, 41, 34, 41, 41, 32], [41, 41, 32]), ([40, 34, 97, 92, 34, 41, 34, 32], [40, 32]), ([34, 97, 92, 34, 41, 34, 32], [32])] := by kernel_rfl
theorem sub_at (prog : Program) (w : World) {h : Heap} {t1 t2 : Tok} (h6 : h.get? 36 = some (o36 t1 t2)) (h5 : h.get? 35 = some o35) : ∀ b r, subF b = some r → SubAt prog w h b r := by
  intro b r e
  have hm := lookN_mem e
  rw [subs_eq] at hm
  simp only [List.mem_cons, List.not_mem_nil, or_false, Prod.mk.injEq] at hm
  rcases hm with ⟨rfl, rfl⟩ | ⟨rfl, rfl⟩ | ⟨rfl, rfl⟩ | ⟨rfl, rfl⟩ | ⟨rfl, rfl⟩ | ⟨rfl, rfl⟩ | ⟨rfl, rfl⟩ | ⟨rfl, rfl⟩ | ⟨rfl, rfl⟩ | ⟨rfl, rfl⟩ | ⟨rfl, rfl⟩ | ⟨rfl, rfl⟩ | ⟨rfl, rfl⟩ | ⟨rfl, rfl⟩ | ⟨rfl, rfl⟩ | ⟨rfl, rfl⟩ | ⟨rfl, rfl⟩ | ⟨rfl, rfl⟩ | ⟨rfl, rfl⟩ | ⟨rfl, rfl⟩ | ⟨rfl, rfl⟩ | ⟨rfl, rfl⟩ | ⟨rfl, rfl⟩ | ⟨rfl, rfl⟩
  · exact sub_of sr0 h6 h5
  · exact sub_of sr1 h6 h5
  · exact sub_of sr2 h6 h5
  · exact sub_of sr3 h6 h5
  · exact sub_of sr4 h6 h5
  · exact sub_of sr5 h6 h5
  · exact sub_of sr6 h6 h5
  · exact sub_of sr7 h6 h5
  · exact sub_of sr8 h6 h5
  · exact sub_of sr9 h6 h5
  · exact sub_of sr10 h6 h5
  · exact sub_of sr11 h6 h5
  · exact sub_of sr12 h6 h5
  · exact sub_of sr13 h6 h5
  · exact sub_of sr14 h6 h5
  · exact sub_of sr15 h6 h5
  · exact sub_of sr16 h6 h5
  · exact sub_of sr17 h6 h5
  · exact sub_of sr18 h6 h5
  · exact sub_of sr19 h6 h5
  · exact sub_of sr20 h6 h5
  · exact sub_of sr21 h6 h5
  · exact sub_of sr22 h6 h5
  · exact sub_of sr23 h6 h5
end Mine
end
section
open PySem PySem.W PyProof.Rows
set_option maxRecDepth 100000
set_option maxHeartbeats 8000000
namespace Mine
open_top hd for PySem.Challenge.rw_tr0002_01
end Mine
end
section
set_option maxRecDepth 100000
namespace Mine
open PySem PySem.W PyProof.Rows

theorem look_mem2 {α : Type} {x : Str} {v : α} {m : List (Str × α)} (h : look x m = some v) : (x, v) ∈ m := by rw [look_lookup] at h; exact mem_lookup h
noncomputable def esOf (P : Params) : Array DictEntry := match (hd.heap_39 P).lookup 3 with | some ⟨_, _, .dict es _, _⟩ => es | _ => #[]
theorem es_at (P : Params) : (hd.heap_39 P).lookup 3 = some { cls := .type "dict", data := .dict (esOf P) 22 } := by kernel_rfl
theorem glob_at {P : Params} {h : Heap} {mg : Str → Option Value} (KX : (hd.heap_39 P).In h) (hg : h.Ns mainGlobals mg) (x : Str) : mg x = nsFind (esOf P) x := by
  obtain ⟨o, es, ep, ho, hd, _, hf⟩ := hg
  have := KX _ _ (es_at P)
  rw [show h.get? mainGlobals = h.get? 3 from rfl, this] at ho
  cases ho
  cases hd
  exact (hf x).symm
theorem gl_at {P : Params} {h : Heap} {mg mb : Str → Option Value} (KX : (hd.heap_39 P).In h) (hg : h.Ns mainGlobals mg) (hb : ∀ x : Str, x ≠ "__name__" → mb x = bootBuiltins x) :
    ∀ x v, look x globTab = some v → ∃ u, (∀ σ, Den σ (fun _ => 0) 0 v u) ∧ (mg x = some u ∨ (mg x = Option.none ∧ mb x = some u)) := by
  have e := glob_at KX hg
  intro x v hx
  have hm := look_mem2 hx
  simp only [globTab, List.mem_cons, List.not_mem_nil, or_false, Prod.mk.injEq] at hm
  rcases hm with ⟨rfl, rfl⟩ | ⟨rfl, rfl⟩ | ⟨rfl, rfl⟩ | ⟨rfl, rfl⟩ | ⟨rfl, rfl⟩ | ⟨rfl, rfl⟩ | ⟨rfl, rfl⟩ | ⟨rfl, rfl⟩ | ⟨rfl, rfl⟩ | ⟨rfl, rfl⟩ | ⟨rfl, rfl⟩ | ⟨rfl, rfl⟩ | ⟨rfl, rfl⟩ | ⟨rfl, rfl⟩ | ⟨rfl, rfl⟩ | ⟨rfl, rfl⟩ | ⟨rfl, rfl⟩ | ⟨rfl, rfl⟩ | ⟨rfl, rfl⟩
  · exact ⟨_, fun _ => rfl, .inl ((e _).trans (by kernel_rfl))⟩
  · exact ⟨_, fun _ => rfl, .inl ((e _).trans (by kernel_rfl))⟩
  · exact ⟨_, fun _ => rfl, .inl ((e _).trans (by kernel_rfl))⟩
  · exact ⟨_, fun _ => rfl, .inl ((e _).trans (by kernel_rfl))⟩
  · exact ⟨_, fun _ => rfl, .inl ((e _).trans (by kernel_rfl))⟩
  · exact ⟨_, fun _ => rfl, .inl ((e _).trans (by kernel_rfl))⟩
  · exact ⟨_, fun _ => rfl, .inl ((e _).trans (by kernel_rfl))⟩
  · exact ⟨_, fun _ => rfl, .inl ((e _).trans (by kernel_rfl))⟩
  · exact ⟨_, fun _ => rfl, .inl ((e _).trans (by kernel_rfl))⟩
  · exact ⟨_, fun _ => rfl, .inl ((e _).trans (by kernel_rfl))⟩
  · exact ⟨_, fun _ => rfl, .inl ((e _).trans (by kernel_rfl))⟩
  · exact ⟨_, fun _ => rfl, .inr ⟨(e _).trans (by kernel_rfl), (hb _ (by decide +kernel)).trans (by kernel_rfl)⟩⟩
  · exact ⟨_, fun _ => rfl, .inr ⟨(e _).trans (by kernel_rfl), (hb _ (by decide +kernel)).trans (by kernel_rfl)⟩⟩
  · exact ⟨_, fun _ => rfl, .inr ⟨(e _).trans (by kernel_rfl), (hb _ (by decide +kernel)).trans (by kernel_rfl)⟩⟩
  · exact ⟨_, fun _ => rfl, .inr ⟨(e _).trans (by kernel_rfl), (hb _ (by decide +kernel)).trans (by kernel_rfl)⟩⟩
  · exact ⟨_, fun _ => rfl, .inr ⟨(e _).trans (by kernel_rfl), (hb _ (by decide +kernel)).trans (by kernel_rfl)⟩⟩
  · exact ⟨_, fun _ => rfl, .inr ⟨(e _).trans (by kernel_rfl), (hb _ (by decide +kernel)).trans (by kernel_rfl)⟩⟩
  · exact ⟨_, fun _ => rfl, .inr ⟨(e _).trans (by kernel_rfl), (hb _ (by decide +kernel)).trans (by kernel_rfl)⟩⟩
  · exact ⟨_, fun _ => rfl, .inr ⟨(e _).trans (by kernel_rfl), (hb _ (by decide +kernel)).trans (by kernel_rfl)⟩⟩

noncomputable def fdOf (P : Params) (a : Addr) : FuncData := match (hd.heap_39 P).lookup a with | some ⟨_, _, .func fd, _⟩ => fd | _ => default
noncomputable def vsOf (P : Params) (a : Addr) : Array Value := match (hd.heap_39 P).lookup a with | some ⟨_, _, .fields vs, _⟩ => vs | _ => #[]
noncomputable def tqOf (P : Params) (a : Addr) : Tok := match (vsOf P a)[1]? with | some (Value.str _ t) => t | _ => 0
noncomputable def fOf (a : Nat) : Fn := (fnTab a).getD ⟨[], ⟨.function, [], false, false, []⟩, []⟩
structure FnK (a : Addr) (n : Nat) : Prop where
  h1 : ∀ P, (hd.heap_39 P).lookup a = some { cls := .type "function", data := .func (fdOf P a) }
  h2 : ∀ P, (fdOf P a).body = .stmts (fOf a).body ∧ (fdOf P a).scope = (fOf a).scope ∧ (fdOf P a).globals = mainGlobals ∧ (fdOf P a).builtins = builtinsNs ∧ (fdOf P a).closure = []
  h3 : ∀ P, (fdOf P a).code = .ref (a - 1) ∧ (hd.heap_39 P).lookup (a - 1) = some { cls := .type "code", data := .fields (vsOf P (a - 1)) } ∧ (vsOf P (a - 1))[1]? = some (.str (fdOf P a).qualname (tqOf P (a - 1)))
  h4 : ∀ P S (vals : List Value), vals.length = n → peek (hd.heap_39 P) S (bindArgs (fdOf P a) ⟨vals, []⟩) = some ((fOf a).params.zip vals)
  h5 : (fOf a).params.length = n ∧ (fOf a).scope.kind = .function ∧ (fOf a).scope.isCoroutine = false ∧ (fOf a).scope.isGenerator = false
theorem FnK.at {a : Addr} {n : Nat} (k : FnK a n) {P : Params} {h : Heap} (KX : (hd.heap_39 P).In h) {f : Fn} (hf : fnTab a = some f) : FnAt h a f := by
  have e : f = fOf a := by unfold fOf; rw [hf]; rfl
  subst e
  obtain ⟨b1, b2, b3, b4, b5⟩ := k.h2 P
  obtain ⟨c1, c2, c3⟩ := k.h3 P
  refine ⟨⟨_, _, KX _ _ (k.h1 P), rfl, b1, b2, b3, b4, b5, ⟨a - 1, _, _, _, c1, KX _ _ c2, rfl, c3⟩, fun s vals hk hl => ?_⟩, k.h5.2.1, k.h5.2.2.1, k.h5.2.2.2⟩
  exact fun M A E Q q => (Looks.of_peek (M := M) (KX.keeps hk) (k.h4 P _ vals (hl.trans k.h5.1))).here q
theorem one_of {α : Type} {l : List α} (h : l.length = 1) : ∃ a, l = [a] := by
  match l, h with
  | [a], _ => exact ⟨a, rfl⟩
theorem two_of {α : Type} {l : List α} (h : l.length = 2) : ∃ a b, l = [a, b] := by
  match l, h with
  | [a, b], _ => exact ⟨a, b, rfl⟩
theorem three_of {α : Type} {l : List α} (h : l.length = 3) : ∃ a b c, l = [a, b, c] := by
  match l, h with
  | [a, b, c], _ => exact ⟨a, b, c, rfl⟩
theorem four_of {α : Type} {l : List α} (h : l.length = 4) : ∃ a b c d, l = [a, b, c, d] := by
  match l, h with
  | [a, b, c, d], _ => exact ⟨a, b, c, d, rfl⟩
theorem fnK44 : FnK 44 2 where
  h1 P := by kernel_rfl
  h2 P := ⟨by kernel_rfl, by kernel_rfl, by kernel_rfl, by kernel_rfl, by kernel_rfl⟩
  h3 P := ⟨by kernel_rfl, by kernel_rfl, by kernel_rfl⟩
  h4 P S vals hl := by obtain ⟨a, b, rfl⟩ := two_of hl; kernel_rfl
  h5 := ⟨by kernel_rfl, by kernel_rfl, by kernel_rfl, by kernel_rfl⟩
theorem fnK51 : FnK 51 3 where
  h1 P := by kernel_rfl
  h2 P := ⟨by kernel_rfl, by kernel_rfl, by kernel_rfl, by kernel_rfl, by kernel_rfl⟩
  h3 P := ⟨by kernel_rfl, by kernel_rfl, by kernel_rfl⟩
  h4 P S vals hl := by obtain ⟨a, b, c, rfl⟩ := three_of hl; kernel_rfl
  h5 := ⟨by kernel_rfl, by kernel_rfl, by kernel_rfl, by kernel_rfl⟩
theorem fnK58 : FnK 58 1 where
  h1 P := by kernel_rfl
  h2 P := ⟨by kernel_rfl, by kernel_rfl, by kernel_rfl, by kernel_rfl, by kernel_rfl⟩
  h3 P := ⟨by kernel_rfl, by kernel_rfl, by kernel_rfl⟩
  h4 P S vals hl := by obtain ⟨a, rfl⟩ := one_of hl; kernel_rfl
  h5 := ⟨by kernel_rfl, by kernel_rfl, by kernel_rfl, by kernel_rfl⟩
theorem fnK63 : FnK 63 1 where
  h1 P := by kernel_rfl
  h2 P := ⟨by kernel_rfl, by kernel_rfl, by kernel_rfl, by kernel_rfl, by kernel_rfl⟩
  h3 P := ⟨by kernel_rfl, by kernel_rfl, by kernel_rfl⟩
  h4 P S vals hl := by obtain ⟨a, rfl⟩ := one_of hl; kernel_rfl
  h5 := ⟨by kernel_rfl, by kernel_rfl, by kernel_rfl, by kernel_rfl⟩
theorem fnK70 : FnK 70 1 where
  h1 P := by kernel_rfl
  h2 P := ⟨by kernel_rfl, by kernel_rfl, by kernel_rfl, by kernel_rfl, by kernel_rfl⟩
  h3 P := ⟨by kernel_rfl, by kernel_rfl, by kernel_rfl⟩
  h4 P S vals hl := by obtain ⟨a, rfl⟩ := one_of hl; kernel_rfl
  h5 := ⟨by kernel_rfl, by kernel_rfl, by kernel_rfl, by kernel_rfl⟩
theorem fnK75 : FnK 75 1 where
  h1 P := by kernel_rfl
  h2 P := ⟨by kernel_rfl, by kernel_rfl, by kernel_rfl, by kernel_rfl, by kernel_rfl⟩
  h3 P := ⟨by kernel_rfl, by kernel_rfl, by kernel_rfl⟩
  h4 P S vals hl := by obtain ⟨a, rfl⟩ := one_of hl; kernel_rfl
  h5 := ⟨by kernel_rfl, by kernel_rfl, by kernel_rfl, by kernel_rfl⟩
theorem fnK80 : FnK 80 2 where
  h1 P := by kernel_rfl
  h2 P := ⟨by kernel_rfl, by kernel_rfl, by kernel_rfl, by kernel_rfl, by kernel_rfl⟩
  h3 P := ⟨by kernel_rfl, by kernel_rfl, by kernel_rfl⟩
  h4 P S vals hl := by obtain ⟨a, b, rfl⟩ := two_of hl; kernel_rfl
  h5 := ⟨by kernel_rfl, by kernel_rfl, by kernel_rfl, by kernel_rfl⟩
theorem fnK85 : FnK 85 1 where
  h1 P := by kernel_rfl
  h2 P := ⟨by kernel_rfl, by kernel_rfl, by kernel_rfl, by kernel_rfl, by kernel_rfl⟩
  h3 P := ⟨by kernel_rfl, by kernel_rfl, by kernel_rfl⟩
  h4 P S vals hl := by obtain ⟨a, rfl⟩ := one_of hl; kernel_rfl
  h5 := ⟨by kernel_rfl, by kernel_rfl, by kernel_rfl, by kernel_rfl⟩
theorem fnK90 : FnK 90 4 where
  h1 P := by kernel_rfl
  h2 P := ⟨by kernel_rfl, by kernel_rfl, by kernel_rfl, by kernel_rfl, by kernel_rfl⟩
  h3 P := ⟨by kernel_rfl, by kernel_rfl, by kernel_rfl⟩
  h4 P S vals hl := by obtain ⟨a, b, c, d, rfl⟩ := four_of hl; kernel_rfl
  h5 := ⟨by kernel_rfl, by kernel_rfl, by kernel_rfl, by kernel_rfl⟩
theorem fnK97 : FnK 97 1 where
  h1 P := by kernel_rfl
  h2 P := ⟨by kernel_rfl, by kernel_rfl, by kernel_rfl, by kernel_rfl, by kernel_rfl⟩
  h3 P := ⟨by kernel_rfl, by kernel_rfl, by kernel_rfl⟩
  h4 P S vals hl := by obtain ⟨a, rfl⟩ := one_of hl; kernel_rfl
  h5 := ⟨by kernel_rfl, by kernel_rfl, by kernel_rfl, by kernel_rfl⟩
theorem fnK102 : FnK 102 1 where
  h1 P := by kernel_rfl
  h2 P := ⟨by kernel_rfl, by kernel_rfl, by kernel_rfl, by kernel_rfl, by kernel_rfl⟩
  h3 P := ⟨by kernel_rfl, by kernel_rfl, by kernel_rfl⟩
  h4 P S vals hl := by obtain ⟨a, rfl⟩ := one_of hl; kernel_rfl
  h5 := ⟨by kernel_rfl, by kernel_rfl, by kernel_rfl, by kernel_rfl⟩
theorem fn_all {P : Params} {h : Heap} (KX : (hd.heap_39 P).In h) : ∀ a f, fnTab a = some f → FnAt h a f := by
  intro a f hf
  have h0 := hf
  unfold fnTab at h0
  split at h0
  · exact fnK44.at KX hf
  · exact fnK51.at KX hf
  · exact fnK58.at KX hf
  · exact fnK63.at KX hf
  · exact fnK70.at KX hf
  · exact fnK75.at KX hf
  · exact fnK80.at KX hf
  · exact fnK85.at KX hf
  · exact fnK90.at KX hf
  · exact fnK97.at KX hf
  · exact fnK102.at KX hf
  · cases h0
theorem pat_at (P : Params) : (hd.heap_39 P).lookup 36 = some (o36 285 326) ∧ (hd.heap_39 P).lookup 35 = some o35 := ⟨by kernel_rfl, by kernel_rfl⟩
theorem gh_of {prog : Program} {w : World} {h : Heap} {mg mb : Str → Option Value} (KX : (hd.heap_39 w.params).In h) (hg : h.Ns mainGlobals mg) (hb : h.Ns builtinsNs mb) (lim : h.NoLimit)
    (hbi : ∀ x : Str, x ≠ "__name__" → mb x = bootBuiltins x) : GH prog w h where
  gm := ⟨mg, mb, hg, hb, gl_at KX hg hbi⟩
  lim := lim
  fn := fn_all KX
  pat := ⟨_, KX _ _ (pat_at w.params).1, rfl, rfl⟩
  sub := sub_at prog w (KX _ _ (pat_at w.params).1) (KX _ _ (pat_at w.params).2)
  cnt := cnt_at prog w
end Mine
end
section
set_option maxRecDepth 100000
namespace Mine
open PySem PySem.W PyProof.Rows

/-! ## the law's first two statements -/
noncomputable def HS (n : Nat) : AH := AH.mk! [.ns [], .cell (some (.obj 5)), .cell Option.none, .cell Option.none, .cell Option.none, .flist ((List.range' 100 n).map fun i => .int (.var i))]
noncomputable def PS : Prm := prm (fun _ => Option.none) 100 noSpec
noncomputable def evS : Ev := evN PS 80
noncomputable def lst1 : Stmt := lawFn.body.headD (.Pass default)
noncomputable def lst2 : Stmt := (lawFn.body.drop 1).headD (.Pass default)
noncomputable def prT (H : AH) (k : Nat) : T := match H.t.get 9 with
  | some (.list _ xs) => (match xs[k]? with | some (.int e) => e | _ => .lit 0)
  | _ => .lit 0
noncomputable def isMod : T → Bool
  | .iop .fmod _ (.lit n) => n == 4096
  | .lit n => decide (0 ≤ n ∧ n < 4096)
  | _ => false
noncomputable def startRun (n : Nat) : Res (AFlow × AH) := (evS.S 26 aeL lst1 (HS n)).bind fun x => match x.1 with
  | .next => evS.S 26 aeL lst2 x.2
  | _ => .err 904
noncomputable def startChk (n : Nat) : Bool := match startRun n with
  | .ok (.next, H) => wkH (prT H) H HL && (List.range 6).all fun k => isMod (prT H k)
  | _ => false
theorem startChk_ok : ∀ n < 64, startChk n = true := by decide +kernel
theorem law_body : lawFn.body = lst1 :: lst2 :: lawFn.body.drop 2 := by kernel_rfl
theorem start_out {n : Nat} (h : startChk n = true) : ∃ H1 H2, evS.S 26 aeL lst1 (HS n) = .ok (.next, H1) ∧ evS.S 26 aeL lst2 H1 = .ok (.next, H2) ∧ wkH (prT H2) H2 HL = true ∧ ∀ k < 6, isMod (prT H2 k) = true := by
  unfold startChk at h
  split at h
  · rename_i H h1
    unfold startRun at h1
    obtain ⟨⟨fl, H1⟩, e1, h1⟩ := Res.bind_ok h1
    cases fl with
    | next =>
      rw [Bool.and_eq_true] at h
      exact ⟨H1, H, e1, h1, h.1, fun k hk => List.all_eq_true.mp h.2 k (List.mem_range.mpr hk)⟩
    | _ => cases h1
  · cases h
theorem isMod_rng {e : T} (h : isMod e = true) (σ : Nat → Int) : 0 ≤ e.i σ ∧ e.i σ < 4096 := by
  unfold isMod at h
  split at h
  · rename_i a n
    have : n = 4096 := by simpa using h
    subst this
    show 0 ≤ Int.fmod (a.i σ) 4096 ∧ Int.fmod (a.i σ) 4096 < 4096
    exact ⟨Int.fmod_nonneg_of_pos _ (by decide), Int.fmod_lt_of_pos _ (by decide)⟩
  · exact of_decide_eq_true h
  · cases h
theorem ints_den {σ : Nat → Int} {ρ : Nat → Addr} {m : Nat} : ∀ {vs : List Value} {ns : List Int} (off : Nat), IntsAre vs ns → (∀ i (h : i < ns.length), σ (off + i) = ns[i]) → DenL σ ρ m ((List.range' off ns.length).map fun i => .int (.var i)) vs
  | _, _, off, .nil, _ => trivial
  | _, _, off, .cons x t h, hs => by
    refine ⟨⟨t, ?_⟩, ints_den (off + 1) h fun i hi => ?_⟩
    · have := hs 0 (by simp)
      show _ = Value.int (σ off) t
      rw [show σ off = _ from this]; rfl
    · have := hs (i + 1) (by simpa using hi)
      rw [show off + 1 + i = off + (i + 1) by omega, this]; rfl

theorem HS_n (n : Nat) : (HS n).n = 6 := by kernel_rfl
theorem HS_0 (n : Nat) : (HS n).t.get 0 = some (.ns []) := by kernel_rfl
theorem HS_1 (n : Nat) : (HS n).t.get 1 = some (.cell (some (.obj 5))) := by kernel_rfl
theorem HS_2 (n : Nat) : (HS n).t.get 2 = some (.cell Option.none) := by kernel_rfl
theorem HS_3 (n : Nat) : (HS n).t.get 3 = some (.cell Option.none) := by kernel_rfl
theorem HS_4 (n : Nat) : (HS n).t.get 4 = some (.cell Option.none) := by kernel_rfl
theorem HS_5 (n : Nat) : (HS n).t.get 5 = some (.flist ((List.range' 100 n).map fun i => .int (.var i))) := by kernel_rfl
theorem ae_cells : aeL.cells = [(("low" : Str), 4), (("table" : Str), 3), (("begun" : Str), 2), (("script" : Str), 1)] := by kernel_rfl

theorem law_all {w : World} {s1 : Shared} {mg mb m : Str → Option Value} {h1 : Heap} {tk : Nat} {env : Env} {A : Around} {l : Addr} {vs : List Value} {ns : List Int} {Q : Flow → Shared → Prop}
    (KX : (hd.heap_39 w.params).In s1.heap) (hg : s1.heap.Ns mainGlobals mg) (hb : s1.heap.Ns builtinsNs mb) (lim : s1.heap.NoLimit) (hbi : ∀ x : Str, x ≠ "__name__" → mb x = bootBuiltins x)
    (hl : s1.heap.IsList l vs.toArray) (hi : IntsAre vs ns) (hlen : ns.length < 64) (F : Fr s1.heap s1.heap.objs.size h1 m)
    (c1 : h1.IsCell (s1.heap.objs.size + 1) (some (.ref l))) (c2 : h1.IsCell (s1.heap.objs.size + 2) Option.none) (c3 : h1.IsCell (s1.heap.objs.size + 3) Option.none) (c4 : h1.IsCell (s1.heap.objs.size + 4) Option.none)
    (E1 : env.scope = lawFn.scope) (E2 : env.locals = s1.heap.objs.size) (E3 : env.globals = mainGlobals) (E4 : env.builtins = builtinsNs)
    (E5 : env.cells = [(("low" : Str), s1.heap.objs.size + 4), (("table" : Str), s1.heap.objs.size + 3), (("begun" : Str), s1.heap.objs.size + 2), (("script" : Str), s1.heap.objs.size + 1)]) (ok : AOk 26 A)
    (hQ : ∀ s', Kept s1.heap s'.heap → (∃ h tk, s' = { s1 with heap := h, toks := tk }) → Q (.ret (.bool true)) s') :
    wpAny (model PySem.Challenge.pw_tr0002_01 w) A (execs lawFn.body env) Q No { s1 with heap := h1, toks := tk } := by
  have g : GH PySem.Challenge.pw_tr0002_01 w s1.heap := gh_of KX hg hb lim hbi
  let σ : Nat → Int := fun i => ns.getD (i - 100) 0
  let ρ : Nat → Addr := fun k => if k = 5 then l else s1.heap.objs.size + k
  have F0 : Facts ⟨PySem.Challenge.pw_tr0002_01, w, σ, s1.heap, s1⟩ PS := facts g (fun c b h => by cases h) (fun a args H r h => by cases h) (fun a args H v H' h => by cases h)
  have dl : DenL σ ρ 6 ((List.range' 100 ns.length).map fun i => .int (.var i)) vs := ints_den 100 hi fun i h => by
    show ns.getD (100 + i - 100) 0 = _
    rw [show 100 + i - 100 = i by omega]
    simp [List.getD, h]
  have hnone : ∀ j, s1.heap.get? (s1.heap.objs.size + j) = Option.none := fun j => by
    cases e : s1.heap.get? (s1.heap.objs.size + j) with
    | none => rfl
    | some o => exact absurd (Heap.lt_size e) (Nat.not_lt.mpr (Nat.le_add_right _ _))
  have H6 := HS_n ns.length
  have keys : ∀ k, k < 6 → k = 0 ∨ k = 1 ∨ k = 2 ∨ k = 3 ∨ k = 4 ∨ k = 5 := by decide
  have hfl : ∀ k, k < 6 → ∀ o, (HS ns.length).t.get k = some o → o.live = true → k ≠ 5 := fun k hk o ho hlv e => by
    subst e; rw [HS_5] at ho; cases ho; cases hlv
  have R : Rel ⟨PySem.Challenge.pw_tr0002_01, w, σ, s1.heap, s1⟩ ρ (HS ns.length) { s1 with heap := h1, toks := tk } := by
    refine ⟨⟨h1, tk, rfl⟩, F.keep, fun k hk => ?_, fun i j oi oj hi hj ei ej li lj e => ?_, fun i o hi ei li => ?_, fun k xs hk ek => ?_⟩
    · rw [H6] at hk ⊢
      rcases keys k hk with rfl | rfl | rfl | rfl | rfl | rfl
      · exact ⟨_, HS_0 _, _, F.ns, fun x v h => by cases h⟩
      · exact ⟨_, HS_1 _, .ref l, c1, by decide, rfl⟩
      · exact ⟨_, HS_2 _, c2⟩
      · exact ⟨_, HS_3 _, c3⟩
      · exact ⟨_, HS_4 _, c4⟩
      · exact ⟨_, HS_5 _, vs, let ⟨o, ho, r⟩ := hl; ⟨o, F.keep _ _ ho, r⟩, dl⟩
    · rw [H6] at hi hj
      have h1 := hfl i hi _ ei li
      have h2 := hfl j hj _ ej lj
      have e : (if i = 5 then l else s1.heap.objs.size + i) = (if j = 5 then l else s1.heap.objs.size + j) := e
      rw [if_neg h1, if_neg h2] at e
      exact Nat.add_left_cancel e
    · rw [H6] at hi
      have h1 := hfl i hi _ ei li
      show s1.heap.get? (if i = 5 then l else s1.heap.objs.size + i) = Option.none
      rw [if_neg h1]; exact hnone i
    · rw [H6] at hk ⊢
      rcases keys k hk with rfl | rfl | rfl | rfl | rfl | rfl
      · rw [HS_0] at ek; cases ek
      · rw [HS_1] at ek; cases ek
      · rw [HS_2] at ek; cases ek
      · rw [HS_3] at ek; cases ek
      · rw [HS_4] at ek; cases ek
      · rw [HS_5] at ek; cases ek; exact ⟨vs, hl, dl⟩
  have E : EnvRel ρ (HS ns.length).n aeL env := by
    rw [H6]
    refine ⟨E1, by kernel_rfl, E2, by decide, E3, E4, by rw [E5, ae_cells]; rfl, fun p hp => ?_⟩
    rw [ae_cells] at hp
    simp only [List.mem_cons, List.not_mem_nil, or_false] at hp
    rcases hp with rfl | rfl | rfl | rfl <;> decide
  obtain ⟨H1, H2, e1, e2, e3, e4⟩ := start_out (startChk_ok ns.length hlen)
  have S := ev_sound F0 80
  rw [law_body]
  refine wpAny_execs_cons (S.S e1 ok E R fun ρ1 u s2 he1 hn1 R1 du => ?_)
  have du : u = .next := du
  subst du
  refine wpAny_execs_cons (S.S e2 ok (E.ext he1 hn1) R1 fun ρ2 u s3 he2 hn2 R2 du => ?_)
  have du : u = .next := du
  subst du
  obtain ⟨R3, hn3⟩ := R2.weak (σ' := fun k => (prT H2 k).i σ) (M := prT H2) (fun _ _ => rfl) e3
  have E' : EnvRel ρ2 HL.n aeL env := by
    have E' := (E.ext he1 hn1).ext he2 hn2
    refine ⟨E'.scope, E'.kind, E'.loc, by decide +kernel, E'.glob, E'.blt, E'.cells, fun p hp => ?_⟩
    rw [ae_cells] at hp
    simp only [List.mem_cons, List.not_mem_nil, or_false] at hp
    rcases hp with rfl | rfl | rfl | rfl <;> decide +kernel
  exact law_rest (falls_ok _ _) g (fun k hk => isMod_rng (e4 k hk) σ) ok.le E' R3 hQ
end Mine
end
section
set_option maxRecDepth 100000
namespace Mine
open PySem PySem.W PyProof.Rows
theorem ok_caller (env : Env) : AOk 26 (callerA.deeper env) :=
  ⟨rfl, by show 1 + claimMargin + 1 + 26 < recursionLimit; decide, by show 4 + 3 + 5 * 26 + 150 < cLine; decide +kernel⟩
end Mine
end
open PySem PySem.W PyProof.Rows
set_option maxRecDepth 100000 in
set_option maxHeartbeats 8000000 in
theorem PySem.Challenge.cw_tr0002_01_holds : PySem.Challenge.rw_tr0002_01.Holds :=
  Mine.hd (by
  k_go0
  rename_i w s0 s1 mg mb G Y fa o pm doc ho hgens KX X V GL T B TE TW x1 x2 M cdv x3 hcd ns hs hlay0 hL1 hr1 hl2 as8 as7 l vs as4 hL ra w1 r0 hI hr hc1 hc2 K0 hD h1 tk F o4 o3 o2 o1 d4 d3 d2 d1 N0 X0
  refine Mine.toE (Mine.law_all KX T.g T.b T.nolimit T.builtins hL hI (by omega) F ⟨o1, (N0 _ (.tail _ (.tail _ (.tail _ (.head _))))).1, d1.trans (by kernel_rfl)⟩ ⟨o2, (N0 _ (.tail _ (.tail _ (.head _)))).1, d2.trans (by kernel_rfl)⟩
    ⟨o3, (N0 _ (.tail _ (.head _))).1, d3.trans (by kernel_rfl)⟩ ⟨o4, (N0 _ (.head _)).1, d4.trans (by kernel_rfl)⟩ (by kernel_rfl) rfl rfl rfl (by kernel_rfl) (Mine.ok_caller _) fun s' hk he => ?_)
  obtain ⟨h, tk', e⟩ := he
  refine ⟨.inl ⟨.bool true, .bool true, [], rfl, fun _ => rfl, .bool true, by kernel_rfl, fun _ => ⟨List.nodup_nil, fun a ha => by cases ha⟩⟩, hk, by rw [e], by rw [e]; exact hgens⟩)
