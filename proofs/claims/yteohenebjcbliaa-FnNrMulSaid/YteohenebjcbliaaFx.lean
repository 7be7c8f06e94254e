/- A second small executor: for code over whole elements, slices of words, and calls by contract. Definitions. -/
import Derived.Test.YteohenebjcbliaaWrap
import Derived.OrdersHeld
namespace Go.Proofs.Yteohenebjcbliaa
namespace Fx
open Go.RowKit Slx

inductive NE where
  | v (i : Nat)
  | q
  | fn (f : Nat) (a b : NE)
  | k (c : Nat)
  deriving DecidableEq

inductive BE where
  | lt (a b : NE)
  | eq (a b : NE)
  | pr (p : Nat) (a : NE)
  deriving DecidableEq

inductive FV where
  | el (e : NE)
  | sl (e : NE)
  | bo (c : BE) (pos : Bool)
  | own (k : Nat)
  | tb (e : NE) (c : BE)
  | lv (v : Value)
  | u
  | any

inductive CK where
  | el0 (f : Nat)
  | el1 (f : Nat)
  | el2 (f : Nat)
  | sl0 (e : NE)
  | slq1 (f : Nat)
  | slq2 (f : Nat)
  | onew (e : NE)
  | lts
  | eqs
  | pr (p : Nat)
  | tb (f p : Nat)

structure Dt where
  N : Nat
  arrs : List Nat
  tab : List (Nat × CK)

structure Env extends Dt where
  val : Nat → Nat
  fn : Nat → Nat → Nat → Nat
  pr : Nat → Nat → Bool
  w0 : World

section
variable (E : Env)
def NE.val : NE → Nat
  | .v i => E.val i
  | .q => Q
  | .fn f a b => E.fn f a.val b.val
  | .k c => c
def BE.val : BE → Bool
  | .lt a b => decide (a.val E < b.val E)
  | .eq a b => decide (a.val E = b.val E)
  | .pr p a => E.pr p (a.val E)
end

/-- A slice that reads as a number. -/
def IsSl (w : World) (v : Value) (N : Nat) : Prop :=
  ∃ b o c, v = .slice (some ⟨b, o, none⟩) 4 c ∧ b < w.heap.size ∧ ∀ i, i < 4 → w.cell? ⟨b, o + i, none⟩ = some (wd (wordAt N i))

def Rel (E : Env) (ob : Nat → Nat) (w : World) : FV → Value → Prop
  | .el e, v => v = elv (e.val E)
  | .sl e, v => IsSl w v (e.val E)
  | .bo c pos, v => v = .bool (c.val E == pos)
  | .own k, v => v = .pointer (some ⟨ob k, 0, none⟩)
  | .tb e c, v => v = .tuple #[elv (e.val E), .bool (c.val E)]
  | .lv x, v => v = x
  | .u, v => v = undef
  | .any, _ => True

structure St where
  sl : List (Nat × FV)
  objs : List NE
  path : List (BE × Bool)

def look : List (Nat × FV) → Nat → Option FV
  | [], _ => none
  | (u, sv) :: r, t => if u = t then some sv else look r t
def dec : List (BE × Bool) → BE → Option Bool
  | [], _ => none
  | (c', b) :: r, c => if c' = c then some b else dec r c

def opd (st : St) : Operand → Option FV
  | .tmp t => look st.sl t
  | .const v => some (.lv v)
  | _ => none

def good (st : St) : NE → Bool
  | .v i => dec st.path (.lt (.v i) .q) == some true
  | .fn _ _ _ => true
  | .k c => decide (c < Q)
  | .q => false

def tabLook : List (Nat × CK) → Nat → Option CK
  | [], _ => none
  | (g, c) :: r, f => if g = f then some c else tabLook r f

inductive RF where
  | fail
  | val (sv : FV)
  | grow (e : NE)
  | store (k : Nat) (e : NE)
  | fork (c : BE)
  | call (f : Nat) (c : CK) (sv : FV)

def callF (st : St) (f : Nat) : CK → List (Option FV) → RF
  | .el0 g, [] => .call f (.el0 g) (.el (.fn g (.k 0) (.k 0)))
  | .el1 g, [some (.el a)] => if good st a then .call f (.el1 g) (.el (.fn g a (.k 0))) else .fail
  | .el2 g, [some (.el a), some (.el b)] => if good st a && good st b then .call f (.el2 g) (.el (.fn g a b)) else .fail
  | .sl0 e, [] => .call f (.sl0 e) (.sl e)
  | .slq1 g, [some (.sl a), some (.sl .q)] => if good st a then .call f (.slq1 g) (.sl (.fn g a (.k 0))) else .fail
  | .slq2 g, [some (.sl a), some (.sl b), some (.sl .q)] => if good st a && good st b then .call f (.slq2 g) (.sl (.fn g a b)) else .fail
  | .onew e, [some (.lv (.int .i64 (.ofNat m)))] => if m = 4 then .call f (.onew e) (.sl e) else .fail
  | .lts, [some (.sl a), some (.sl b)] => .call f .lts (.bo (.lt a b) true)
  | .eqs, [some (.sl a), some (.sl b)] => .call f .eqs (.bo (.eq a b) true)
  | .pr p, [some (.el a)] => if good st a then .call f (.pr p) (.bo (.pr p a) true) else .fail
  | .tb g p, [some (.el a)] => if good st a then .call f (.tb g p) (.tb (.fn g a (.k 0)) (.pr p a)) else .fail
  | _, _ => .fail

def opF (D : Dt) (st : St) : Op → RF
  | .move x | .assign x => match opd st x with | some sv => .val sv | none => .fail
  | .box t x => if D.arrs.contains t then (match opd st x with | some (.el e) => .grow e | _ => .fail) else .fail
  | .alloc t => if D.arrs.contains t then .grow (.k 0) else .fail
  | .slice t x none none none => if D.arrs.contains t then (match opd st x with
      | some (.own k) => (match st.objs[k]? with | some e => .val (.sl e) | none => .fail)
      | _ => .fail) else .fail
  | .load t x => if D.arrs.contains t then (match opd st x with
      | some (.own k) => (match st.objs[k]? with | some e => .val (.el e) | none => .fail)
      | _ => .fail) else .fail
  | .store t x y => if D.arrs.contains t then (match opd st x, opd st y with
      | some (.own k), some (.el e) => if k < st.objs.length then .store k e else .fail
      | _, _ => .fail) else .fail
  | .unOp .not _ x => match opd st x with
    | some (.bo c pos) => .val (.bo c (!pos))
    | _ => .fail
  | .binOp .eql t x y _ => if D.arrs.contains t then (match opd st x, opd st y with
    | some (.el a), some (.el b) => .val (.bo (.eq a b) true)
    | _, _ => .fail) else .fail
  | .binOp .neq t x y _ => if D.arrs.contains t then (match opd st x, opd st y with
    | some (.el a), some (.el b) => .val (.bo (.eq a b) false)
    | _, _ => .fail) else .fail
  | .extract x j => match opd st x, j with
    | some (.tb e _), 0 => .val (.el e)
    | some (.tb _ c), 1 => .val (.bo c true)
    | _, _ => .fail
  | .pick c x y => match opd st c with
    | some (.bo c pos) => (match dec st.path c with
      | none => .fork c
      | some v => match opd st (if v = pos then x else y) with | some sv => .val sv | none => .fail)
    | some (.lv (.bool b)) => (match opd st (if b = true then x else y) with | some sv => .val sv | none => .fail)
    | _ => .fail
  | .call ⟨.value (.func f), args, _⟩ => (match tabLook D.tab f with
    | some c => callF st f c (args.toList.map (opd st))
    | none => .fail)
  | _ => .fail

def St.put (st : St) (dst : Option Nat) (sv : FV) : St :=
  match dst with
  | some d => { st with sl := (d, sv) :: st.sl }
  | none => st
def dstOk (D : Dt) : Option Nat → Bool
  | some d => decide (d < D.N)
  | none => true
def noSl : List (Nat × FV) → List (Nat × FV)
  | [] => []
  | (t, .sl _) :: r => (t, .any) :: noSl r
  | e :: r => e :: noSl r

def both {α : Type} (c : BE) (st : St) (f : St → Option (List α)) : Option (List α) :=
  match f { st with path := (c, true) :: st.path }, f { st with path := (c, false) :: st.path } with
  | some l, some l' => some (l ++ l')
  | _, _ => none

def step1 (D : Dt) (o : Oper) (st : St) : Option St :=
  if dstOk D o.dst then
    match opF D st o.op with
    | .val sv => some (st.put o.dst sv)
    | .call _ _ sv => some (st.put o.dst sv)
    | _ => none
  else none

inductive Want where
  | yes
  | no
  | ask (c : BE)
  | bad

def wantd (ops : Array Oper) (st : St) (o : Oper) : Want :=
  match o.guard with
  | none => .yes
  | some (j, want) =>
    match (ops[j]?).bind (·.dst) with
    | none => .bad
    | some t => match look st.sl t with
      | some (.bo c pos) => (match dec st.path c with | some v => (if (v == pos) = want then .yes else .no) | none => .ask c)
      | some (.lv (.bool b)) => if b = want then .yes else .no
      | some .u => .no
      | _ => .bad

def isMov : Op → Bool
  | .move _ | .assign _ | .slice _ _ none none none | .load _ _ | .unOp _ _ _ | .pick _ _ _ | .extract _ _ | .binOp _ _ _ _ _ => true
  | _ => false

def movable (ops : Array Oper) (st : St) (listed : Array Bool) (i : Nat) : Bool :=
  match ops[i]? with
  | some o => ((match wantd ops st o with | .no => true | _ => false) || isMov o.op) && Region.free .any ops listed i
  | none => false

def drawOne (D : Dt) (ops : Array Oper) (rc : Nat → Array Bool → St → Option (List St)) (n : Nat) (listed : Array Bool) (st : St) (i : Nat) : Option (List St) :=
  match n, ops[i]? with
  | m + 1, some o =>
    (match wantd ops st o with
    | .yes => (match opF D st o.op with
      | .fork c => both c st (rc (m + 1) listed)
      | _ => (match step1 D o st with | some st' => rc m (listed.setIfInBounds i true) st' | none => none))
    | .no => if dstOk D o.dst then rc m (listed.setIfInBounds i true) (st.put o.dst .u) else none
    | .ask c => both c st (rc (m + 1) listed)
    | .bad => none)
  | _, _ => none

def runDraw (D : Dt) (ops : Array Oper) : Nat → Nat → Array Bool → St → Option (List St)
  | 0, _, _, _ => none
  | fuel + 1, n, listed, st =>
    match (Region.ready .any ops listed).find? (movable ops st listed) with
    | some i => drawOne D ops (runDraw D ops fuel) n listed st i
    | none => match Region.ready .any ops listed with
      | [] => some [st]
      | [i] => drawOne D ops (runDraw D ops fuel) n listed st i
      | _ => none

def bindAll {α β : Type} (f : α → Option (List β)) : List α → Option (List β)
  | [] => some []
  | s :: r => match f s, bindAll f r with
    | some x, some y => some (x ++ y)
    | _, _ => none

def stepO (D : Dt) (o : Oper) (st : St) : Option (List St) :=
  if dstOk D o.dst then
    match opF D st o.op with
    | .store k e => some [({ sl := noSl st.sl, objs := st.objs.set k e, path := st.path } : St).put o.dst .u]
    | .grow e => some [({ st with objs := st.objs ++ [e] } : St).put o.dst (.own st.objs.length)]
    | .fork c => both c st fun st' => (step1 D o st').map fun s => [s]
    | _ => (step1 D o st).map fun s => [s]
  else none

def runOps (D : Dt) (ops : Array Oper) : List Oper → St → Option (List St)
  | [], st => some [st]
  | o :: r, st => match wantd ops st o with
    | .yes => (match stepO D o st with | some l => bindAll (runOps D ops r) l | none => none)
    | .no => if dstOk D o.dst then runOps D ops r (st.put o.dst .u) else none
    | .ask c => both c st (fun st' => match wantd ops st' o with
        | .yes => (match stepO D o st' with | some l => bindAll (runOps D ops r) l | none => none)
        | .no => if dstOk D o.dst then runOps D ops r (st'.put o.dst .u) else none
        | _ => none)
    | .bad => none

inductive X where
  | normal
  | ret

def runC (D : Dt) : Nat → List Code → St → Option (List (X × St))
  | 0, _, _ => none
  | _ + 1, [], st => some [(.normal, st)]
  | n + 1, .skip :: r, st => runC D n r st
  | n + 1, .seq a b :: r, st => runC D n (a :: b :: r) st
  | n + 1, .region _ ops false :: r, st => (match runOps D ops ops.toList st with | some l => bindAll (runC D n r) l | none => none)
  | n + 1, .region _ ops true :: r, st => if Region.noSelect ops then (match runDraw D ops 200 ops.size (Array.replicate ops.size false) st with | some l => bindAll (runC D n r) l | none => none) else none
  | n + 1, .cond c x y :: r, st => (match opd st c with
    | some (.bo c pos) => (match dec st.path c with
      | some v => runC D n ((if v = pos then x else y) :: r) st
      | none => both c st (fun st' => match dec st'.path c with
          | some v => runC D n ((if v = pos then x else y) :: r) st'
          | none => none))
    | some (.lv (.bool b)) => runC D n ((if b then x else y) :: r) st
    | _ => none)
  | _ + 1, .ret :: _, st => some [(.ret, st)]
  | _ + 1, _, _ => none

end Fx
end Go.Proofs.Yteohenebjcbliaa
