/- A small executor for straight-line code over 64-bit words, and the proof that what it computes is what the program's run does.
   Conditions: the contracts of the called functions (structure Fit). -/
import Derived.WalkKit
import Derived.Orders
namespace Go.Proofs.Yteohenebjcbliaa
namespace Slx

def W : Nat := 18446744073709551616
theorem W_eq : W = 18446744073709551616 := rfl

inductive A where
  | node (j : Nat)
  | lit (m : Nat)
  | cel (p i : Nat)
  deriving DecidableEq

inductive C where
  | lt (x y : A)
  | eq (x y : A)
  | ms (l : List A)
  deriving DecidableEq

inductive Nd where
  | mulhi (x y : A)
  | mullo (x y : A)
  | addlo (x y z : A)
  | addhi (x y z : A)
  | sublo (x y z : A)
  | subhi (x y z : A)
  | mulw (x y : A)

inductive SV where
  | wa (x : A) (bit : Bool)
  | wb (c : C) (pos : Bool)
  | wp (k : Nat)
  | wq (k i : Nat)
  | wt (x y : A) (bx bb : Bool)
  | wv (v : Value)
  | wu

/-- What is known of the program's numbers. -/
structure Dt where
  N : Nat
  mul64 : Nat
  add64 : Nat
  sub64 : Nat
  sm : Nat
  arr : Nat
  u64 : Nat
  len : Nat
  np : Nat
  wr : Nat → Bool
  dj : Nat → Nat → Bool

structure Env extends Dt where
  blk : Nat → Nat
  off : Nat → Nat
  mv : Nat → Nat → Nat
  w0 : World
  Qm : Nat

def num : List Nat → Nat
  | [] => 0
  | x :: r => x + W * num r

section
variable (E : Env) (ρ : Nat → Nat)
def A.val : A → Nat
  | .node j => ρ j
  | .lit m => m
  | .cel p i => E.mv p i
def C.val : C → Bool
  | .lt x y => decide (x.val E ρ < y.val E ρ)
  | .eq x y => decide (x.val E ρ = y.val E ρ)
  | .ms l => decide (num (l.map (A.val E ρ)) < E.Qm)
def Nd.val : Nd → Nat
  | .mulhi x y => x.val E ρ * y.val E ρ / W
  | .mullo x y => x.val E ρ * y.val E ρ % W
  | .addlo x y z => (x.val E ρ + y.val E ρ + z.val E ρ) % W
  | .addhi x y z => (x.val E ρ + y.val E ρ + z.val E ρ) / W
  | .sublo x y z => (x.val E ρ + W - y.val E ρ - z.val E ρ) % W
  | .subhi x y z => if x.val E ρ < y.val E ρ + z.val E ρ then 1 else 0
  | .mulw x y => x.val E ρ * y.val E ρ % W
def wd (n : Nat) : Value := .int .u64 (n : Int)
def ad (k i : Nat) : Addr := ⟨E.blk k, E.off k + i, none⟩
def SV.den : SV → Value
  | .wa x _ => wd (x.val E ρ)
  | .wb c pos => .bool (c.val E ρ == pos)
  | .wp k => .pointer (some ⟨E.blk k, E.off k, none⟩)
  | .wq k i => .pointer (some ⟨E.blk k, E.off k + i, none⟩)
  | .wt x y _ _ => .tuple #[wd (x.val E ρ), wd (y.val E ρ)]
  | .wv v => v
  | .wu => undef
end

section
variable (D : Dt) (nn : Nat)
def A.ok : A → Bool
  | .node j => decide (j < nn)
  | .lit m => decide (m < W)
  | .cel p i => decide (p < D.np) && decide (i < D.len)
def C.ok : C → Bool
  | .lt x y => x.ok D nn && y.ok D nn
  | .eq x y => x.ok D nn && y.ok D nn
  | .ms l => l.all (A.ok D nn)
def Nd.args : Nd → List A
  | .mulhi x y | .mullo x y | .mulw x y => [x, y]
  | .addlo x y z | .addhi x y z | .sublo x y z | .subhi x y z => [x, y, z]
def Nd.ok (d : Nd) : Bool := d.args.all (A.ok D nn)
end

structure St where
  sl : List (Nat × SV)
  nd : List Nd
  nn : Nat
  mem : List ((Nat × Nat) × A)
  path : List (C × Bool)

def look : List (Nat × SV) → Nat → Option SV
  | [], _ => none
  | (u, sv) :: r, t => if u = t then some sv else look r t

def memLook (D : Dt) : List ((Nat × Nat) × A) → Nat → Nat → Option A
  | [], k, i => some (.cel k i)
  | ((k', i'), x) :: r, k, i => if k' = k then (if i' = i then some x else memLook D r k i) else if D.dj k' k then memLook D r k i else none

def dec : List (C × Bool) → C → Option Bool
  | [], _ => none
  | (c', b) :: r, c => if c' = c then some b else dec r c

def opd (st : St) : Operand → Option SV
  | .tmp t => look st.sl t
  | .const (.int .u64 (.ofNat c)) => if c < W then some (.wa (.lit c) (decide (c ≤ 1))) else none
  | .const v => some (.wv v)
  | _ => none

inductive R where
  | fail
  | val (sv : SV) (new : List Nd)
  | store (k i : Nat) (x : A)
  | fork (c : C)

def cells (D : Dt) (mem : List ((Nat × Nat) × A)) (k : Nat) : Nat → Option (List A)
  | 0 => some []
  | n + 1 => match cells D mem k n, memLook D mem k n with
    | some l, some x => some (l ++ [x])
    | _, _ => none

def callR (D : Dt) (st : St) (f : Nat) : List (Option SV) → R
  | [some (.wa x _), some (.wa y _)] => if f = D.mul64 ∧ f ≠ 0 then .val (.wt (.node st.nn) (.node (st.nn + 1)) false false) [.mulhi x y, .mullo x y] else .fail
  | [some (.wa x _), some (.wa y _), some (.wa z true)] =>
    if f = D.add64 ∧ f ≠ 0 then .val (.wt (.node st.nn) (.node (st.nn + 1)) false true) [.addlo x y z, .addhi x y z]
    else if f = D.sub64 ∧ f ≠ 0 then .val (.wt (.node st.nn) (.node (st.nn + 1)) false true) [.sublo x y z, .subhi x y z]
    else .fail
  | [some (.wp k)] => if f = D.sm ∧ f ≠ 0 then (match cells D st.mem k D.len with | some l => .val (.wb (.ms l) true) [] | none => .fail) else .fail
  | _ => .fail

def opR (D : Dt) (st : St) : Op → R
  | .move x | .assign x => match opd st x with | some sv => .val sv [] | none => .fail
  | .nilCheck x => match opd st x with
    | some (.wp k) => .val (.wp k) []
    | some (.wq k i) => .val (.wq k i) []
    | _ => .fail
  | .indexAddr t x (.const (.int .i64 (.ofNat i))) => if t = D.arr ∧ i < D.len then (match opd st x with | some (.wp k) => .val (.wq k i) [] | _ => .fail) else .fail
  | .load t x => if t = D.u64 then (match opd st x with
      | some (.wq k i) => if k < D.np ∧ i < D.len then (match memLook D st.mem k i with | some y => .val (.wa y false) [] | none => .fail) else .fail
      | _ => .fail) else .fail
  | .store t x y => if t = D.u64 then (match opd st x, opd st y with
      | some (.wq k i), some (.wa z _) => if k < D.np ∧ i < D.len ∧ D.wr k = true then .store k i z else .fail
      | _, _ => .fail) else .fail
  | .extract x j => match opd st x, j with
    | some (.wt y _ bx _), 0 => .val (.wa y bx) []
    | some (.wt _ z _ bb), 1 => .val (.wa z bb) []
    | _, _ => .fail
  | .binOp .mul _ x y _ => match opd st x, opd st y with
    | some (.wa x _), some (.wa y _) => .val (.wa (.node st.nn) false) [.mulw x y]
    | _, _ => .fail
  | .binOp .lss _ x y _ => match opd st x, opd st y with
    | some (.wa x _), some (.wa y _) => .val (.wb (.lt x y) true) []
    | _, _ => .fail
  | .binOp .eql _ x y _ => match opd st x, opd st y with
    | some (.wa x _), some (.wa y _) => .val (.wb (.eq x y) true) []
    | _, _ => .fail
  | .unOp .not _ x => match opd st x with
    | some (.wb c pos) => .val (.wb c (!pos)) []
    | _ => .fail
  | .pick c x y => match opd st c with
    | some (.wb c pos) => (match dec st.path c with
      | none => .fork c
      | some v => match opd st (if v = pos then x else y) with | some sv => .val sv [] | none => .fail)
    | _ => .fail
  | .call ⟨.value (.func f), args, _⟩ => callR D st f (args.toList.map (opd st))
  | _ => .fail

def St.push (st : St) (new : List Nd) : St := { st with nd := new.reverse ++ st.nd, nn := st.nn + new.length }
def St.put (st : St) (dst : Option Nat) (sv : SV) : St :=
  match dst with
  | some d => { st with sl := (d, sv) :: st.sl }
  | none => st
def dstOk (D : Dt) : Option Nat → Bool
  | some d => decide (d < D.N)
  | none => true

def both {α : Type} (c : C) (st : St) (f : St → Option (List α)) : Option (List α) :=
  match f { st with path := (c, true) :: st.path }, f { st with path := (c, false) :: st.path } with
  | some l, some l' => some (l ++ l')
  | _, _ => none

def step1 (D : Dt) (o : Oper) (st : St) : Option (List St) :=
  if dstOk D o.dst then
    match opR D st o.op with
    | .val sv new => if (new.all (Nd.ok D st.nn)) then some [(st.push new).put o.dst sv] else none
    | .store k i x => some [({ st with mem := ((k, i), x) :: st.mem } : St).put o.dst .wu]
    | _ => none
  else none

def stepO (D : Dt) (o : Oper) (st : St) : Option (List St) :=
  match opR D st o.op with
  | .fork c => if c.ok D st.nn then both c st (step1 D o) else none
  | _ => step1 D o st

inductive Want where
  | yes
  | no
  | ask (c : C)
  | bad

def wantd (ops : Array Oper) (st : St) (o : Oper) : Want :=
  match o.guard with
  | none => .yes
  | some (j, want) =>
    match (ops[j]?).bind (·.dst) with
    | none => .bad
    | some t => match look st.sl t with
      | some (.wb c pos) => (match dec st.path c with | some v => (if (v == pos) = want then .yes else .no) | none => .ask c)
      | some .wu => .no
      | _ => .bad

def bindAll {α β : Type} (f : α → Option (List β)) : List α → Option (List β)
  | [] => some []
  | s :: r => match f s, bindAll f r with
    | some x, some y => some (x ++ y)
    | _, _ => none

def runOps (D : Dt) (ops : Array Oper) : List Oper → St → Option (List St)
  | [], st => some [st]
  | o :: r, st => match wantd ops st o with
    | .yes => (match stepO D o st with | some l => bindAll (runOps D ops r) l | none => none)
    | .no => if dstOk D o.dst then runOps D ops r (st.put o.dst .wu) else none
    | .ask c => if c.ok D st.nn then both c st (fun st' => match wantd ops st' o with
        | .yes => (match stepO D o st' with | some l => bindAll (runOps D ops r) l | none => none)
        | .no => if dstOk D o.dst then runOps D ops r (st'.put o.dst .wu) else none
        | _ => none) else none
    | .bad => none

def isPure (D : Dt) : Op → Bool
  | .move _ | .assign _ | .nilCheck _ | .indexAddr _ _ _ | .extract _ _ | .binOp _ _ _ _ _ | .unOp _ _ _ => true
  | .call ⟨.value (.func f), _, _⟩ => f != D.mul64 && f != D.sm
  | _ => false

def noGuard (o : Oper) : Bool := match o.guard with | none => true | some _ => false

def pureAt (D : Dt) (ops : Array Oper) (listed : Array Bool) (i : Nat) : Bool :=
  match ops[i]? with
  | some o => isPure D o.op && noGuard o && Region.free .any ops listed i
  | none => false

def runDraw (D : Dt) (ops : Array Oper) : Nat → Array Bool → St → Option (List St)
  | 0, listed, st => if Region.ready .any ops listed = [] then some [st] else none
  | n + 1, listed, st =>
    match (Region.ready .any ops listed).find? (pureAt D ops listed) with
    | some i => (match ops[i]? with
      | some o => (match step1 D o st with | some l => bindAll (runDraw D ops n (listed.setIfInBounds i true)) l | none => none)
      | none => none)
    | none => match Region.ready .any ops listed with
      | [] => some [st]
      | [i] => (match ops[i]? with
        | some o => if noGuard o then (match step1 D o st with | some l => bindAll (runDraw D ops n (listed.setIfInBounds i true)) l | none => none) else none
        | none => none)
      | _ => none

inductive X where
  | normal
  | ret

def runC (D : Dt) : Nat → List Code → St → Option (List (X × St))
  | 0, _, _ => none
  | _ + 1, [], st => some [(.normal, st)]
  | n + 1, .skip :: r, st => runC D n r st
  | n + 1, .seq a b :: r, st => runC D n (a :: b :: r) st
  | n + 1, .region _ ops false :: r, st => (match runOps D ops ops.toList st with | some l => bindAll (runC D n r) l | none => none)
  | n + 1, .region _ ops true :: r, st => if Region.noSelect ops then (match runDraw D ops ops.size (Array.replicate ops.size false) st with | some l => bindAll (runC D n r) l | none => none) else none
  | n + 1, .cond c x y :: r, st => (match opd st c with
    | some (.wb c pos) => (match dec st.path c with
      | some v => runC D n ((if v = pos then x else y) :: r) st
      | none => if c.ok D st.nn then both c st (fun st' => match dec st'.path c with
          | some v => runC D n ((if v = pos then x else y) :: r) st'
          | none => none) else none)
    | _ => none)
  | _ + 1, .ret :: _, st => some [(.ret, st)]
  | _ + 1, _, _ => none

end Slx
end Go.Proofs.Yteohenebjcbliaa
