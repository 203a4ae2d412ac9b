import PyProof.Rows.All
import Wide.All
import OpenK.AllK
import Wide.FinOn
import KE.KTurns
import KE.KTurnsDict
import Lean
import PySem.Challenge.RW_hv0002_01
set_option Elab.async false
section SD1
open PySem
namespace Mine
/-! ### symbolic ints, bools, values, objects -/
inductive IE where
  | lit (n : Int) | var (i : Nat) | add (a b : IE) | sub (a b : IE) | mul (a b : IE)
inductive BE where
  | lit (b : Bool) | ne (a b : IE) | not (a : BE) | and (a b : BE) | or (a b : BE) | beq (a b : BE)
inductive SV where
  | int (e : IE) | none | bool (b : BE) | ref (i : Nat) | junk
inductive SO where
  | list (xs : List SV) | tup (xs : List SV) | dict | flist (b : BE)
abbrev Vars := List (Str × SV)
abbrev Hp := List SO
abbrev Kinds := List (Str × NameKind)

/-! ### told alike by the same signs -/
noncomputable def IE.eqb : IE → IE → Bool
  | .lit a, .lit b => a == b
  | .var i, .var j => i == j
  | .add a b, .add c d => a.eqb c && b.eqb d
  | .sub a b, .sub c d => a.eqb c && b.eqb d
  | .mul a b, .mul c d => a.eqb c && b.eqb d
  | _, _ => false
noncomputable def BE.eqb : BE → BE → Bool
  | .lit a, .lit b => a == b
  | .ne a b, .ne c d => a.eqb c && b.eqb d
  | .not a, .not b => a.eqb b
  | .and a b, .and c d => a.eqb c && b.eqb d
  | .or a b, .or c d => a.eqb c && b.eqb d
  | .beq a b, .beq c d => a.eqb c && b.eqb d
  | _, _ => false
noncomputable def SV.eqb : SV → SV → Bool
  | .int a, .int b => a.eqb b
  | .none, .none => true
  | .bool a, .bool b => a.eqb b
  | .ref i, .ref j => i == j
  | .junk, .junk => true
  | _, _ => false
noncomputable def listEqb {α : Type} (f : α → α → Bool) : List α → List α → Bool
  | [], [] => true
  | a :: r, b :: q => f a b && listEqb f r q
  | _, _ => false
noncomputable def SO.eqb : SO → SO → Bool
  | .list xs, .list ys => listEqb SV.eqb xs ys
  | .tup xs, .tup ys => listEqb SV.eqb xs ys
  | .dict, .dict => true
  | .flist a, .flist b => a.eqb b
  | _, _ => false
noncomputable def varEqb (p q : Str × SV) : Bool := p.1 == q.1 && p.2.eqb q.2
theorem IE.eqb_eq (a : IE) : ∀ b, a.eqb b = true → a = b := by
  induction a with
  | lit n => intro b h; cases b with
    | lit m => rw [eq_of_beq (show (n == m) = true from h)]
    | _ => cases (show false = true from h)
  | var n => intro b h; cases b with
    | var m => rw [eq_of_beq (show (n == m) = true from h)]
    | _ => cases (show false = true from h)
  | add a b ha hb => intro c h; cases c with
    | add c d => have h : (a.eqb c && b.eqb d) = true := h; rw [Bool.and_eq_true] at h; rw [ha _ h.1, hb _ h.2]
    | _ => cases (show false = true from h)
  | sub a b ha hb => intro c h; cases c with
    | sub c d => have h : (a.eqb c && b.eqb d) = true := h; rw [Bool.and_eq_true] at h; rw [ha _ h.1, hb _ h.2]
    | _ => cases (show false = true from h)
  | mul a b ha hb => intro c h; cases c with
    | mul c d => have h : (a.eqb c && b.eqb d) = true := h; rw [Bool.and_eq_true] at h; rw [ha _ h.1, hb _ h.2]
    | _ => cases (show false = true from h)
theorem BE.eqb_eq (a : BE) : ∀ b, a.eqb b = true → a = b := by
  induction a with
  | lit n => intro b h; cases b with
    | lit m => rw [eq_of_beq (show (n == m) = true from h)]
    | _ => cases (show false = true from h)
  | ne a b => intro c h; cases c with
    | ne c d => have h : (a.eqb c && b.eqb d) = true := h; rw [Bool.and_eq_true] at h; rw [IE.eqb_eq _ _ h.1, IE.eqb_eq _ _ h.2]
    | _ => cases (show false = true from h)
  | not a ha => intro c h; cases c with
    | not c => rw [ha _ (show a.eqb c = true from h)]
    | _ => cases (show false = true from h)
  | and a b ha hb => intro c h; cases c with
    | and c d => have h : (a.eqb c && b.eqb d) = true := h; rw [Bool.and_eq_true] at h; rw [ha _ h.1, hb _ h.2]
    | _ => cases (show false = true from h)
  | or a b ha hb => intro c h; cases c with
    | or c d => have h : (a.eqb c && b.eqb d) = true := h; rw [Bool.and_eq_true] at h; rw [ha _ h.1, hb _ h.2]
    | _ => cases (show false = true from h)
  | beq a b ha hb => intro c h; cases c with
    | beq c d => have h : (a.eqb c && b.eqb d) = true := h; rw [Bool.and_eq_true] at h; rw [ha _ h.1, hb _ h.2]
    | _ => cases (show false = true from h)
theorem SV.eqb_eq : ∀ a b : SV, a.eqb b = true → a = b := by
  intro a b h
  cases a with
  | int a => cases b with
    | int b => rw [IE.eqb_eq _ _ (show a.eqb b = true from h)]
    | _ => cases (show false = true from h)
  | none => cases b with
    | none => rfl
    | _ => cases (show false = true from h)
  | bool a => cases b with
    | bool b => rw [BE.eqb_eq _ _ (show a.eqb b = true from h)]
    | _ => cases (show false = true from h)
  | ref i => cases b with
    | ref j => rw [eq_of_beq (show (i == j) = true from h)]
    | _ => cases (show false = true from h)
  | junk => cases b with
    | junk => rfl
    | _ => cases (show false = true from h)
theorem listEqb_eq {α : Type} {f : α → α → Bool} (k : ∀ a b, f a b = true → a = b) : ∀ a b, listEqb f a b = true → a = b
  | [], [], _ => rfl
  | a :: r, b :: q, h => by
    have h : (f a b && listEqb f r q) = true := h
    rw [Bool.and_eq_true] at h
    rw [k _ _ h.1, listEqb_eq k r q h.2]
  | [], _ :: _, h => nomatch h
  | _ :: _, [], h => nomatch h
theorem SO.eqb_eq : ∀ a b : SO, a.eqb b = true → a = b := by
  intro a b h
  cases a with
  | list a => cases b with
    | list b => rw [listEqb_eq SV.eqb_eq _ _ (show listEqb SV.eqb a b = true from h)]
    | _ => cases (show false = true from h)
  | tup a => cases b with
    | tup b => rw [listEqb_eq SV.eqb_eq _ _ (show listEqb SV.eqb a b = true from h)]
    | _ => cases (show false = true from h)
  | dict => cases b with
    | dict => rfl
    | _ => cases (show false = true from h)
  | flist a => cases b with
    | flist b => rw [BE.eqb_eq _ _ (show a.eqb b = true from h)]
    | _ => cases (show false = true from h)
theorem varEqb_eq : ∀ a b, varEqb a b = true → a = b := by
  intro a b h
  rw [varEqb, Bool.and_eq_true] at h
  exact Prod.ext (eq_of_beq h.1) (SV.eqb_eq _ _ h.2)
noncomputable def IE.bd : IE → Nat
  | .lit n => n.natAbs
  | .var _ => 4
  | .add a b => a.bd + b.bd
  | .sub a b => a.bd + b.bd
  | .mul a b => a.bd * b.bd
noncomputable def mkAdd : IE → IE → IE
  | .lit a, .lit b => .lit (a + b)
  | a, b => .add a b
noncomputable def mkSub : IE → IE → IE
  | .lit a, .lit b => .lit (a - b)
  | a, b => .sub a b
noncomputable def mkMul : IE → IE → IE
  | .lit a, .lit b => .lit (a * b)
  | a, b => .mul a b
noncomputable def mkNe : IE → IE → BE
  | .lit a, .lit b => .lit (!(a == b))
  | a, b => .ne a b
noncomputable def mkNot : BE → BE
  | .lit b => .lit (!b)
  | b => .not b
noncomputable def mkAnd : BE → BE → BE
  | .lit true, b => b
  | .lit false, _ => .lit false
  | a, .lit true => a
  | _, .lit false => .lit false
  | a, b => .and a b
noncomputable def mkOr : BE → BE → BE
  | .lit false, b => b
  | .lit true, _ => .lit true
  | a, .lit false => a
  | _, .lit true => .lit true
  | a, b => .or a b

/-! ### polynomials -/
abbrev Poly := List (List Nat × Int)
noncomputable def insMono (m : List Nat) (c : Int) : Poly → Poly
  | [] => [(m, c)]
  | (m', c') :: r => if m = m' then (m', c + c') :: r else (m', c') :: insMono m c r
noncomputable def addP : Poly → Poly → Poly
  | [], q => q
  | (m, c) :: r, q => insMono m c (addP r q)
noncomputable def negP (p : Poly) : Poly := p.map fun x => (x.1, -x.2)
noncomputable def insVar (i : Nat) : List Nat → List Nat
  | [] => [i]
  | j :: r => if i ≤ j then i :: j :: r else j :: insVar i r
noncomputable def mulMono (a b : List Nat) : List Nat := a.foldr insVar b
noncomputable def mulP : Poly → Poly → Poly
  | [], _ => []
  | (m, c) :: r, q => addP (q.map fun x => (mulMono m x.1, c * x.2)) (mulP r q)
noncomputable def norm : IE → Poly
  | .lit n => [([], n)]
  | .var i => [([i], 1)]
  | .add a b => addP (norm a) (norm b)
  | .sub a b => addP (norm a) (negP (norm b))
  | .mul a b => mulP (norm a) (norm b)
noncomputable def isZero (e : IE) : Bool := (norm e).all fun x => x.2 == 0
noncomputable def decB : BE → Option Bool
  | .lit b => some b
  | .ne a b => if isZero (.sub a b) then some false else none
  | .not a => (decB a).map (!·)
  | .and a b => match decB a, decB b with
    | some true, r => r
    | some false, _ => some false
    | none, some false => some false
    | none, _ => none
  | .or a b => match decB a, decB b with
    | some false, r => r
    | some true, _ => some true
    | none, some true => some true
    | none, _ => none
  | .beq a b => match decB a, decB b with
    | some x, some y => some (x == y)
    | _, _ => none

/-! ### heap, names -/
noncomputable def setV (vars : Vars) (x : Str) (v : SV) : Vars := (x, v) :: vars.filter fun p => !(p.1 == x)
noncomputable def wfV (n : Nat) : SV → Bool
  | .ref i => i < n
  | _ => true
noncomputable def wfO (n : Nat) : SO → Bool
  | .list xs => xs.all (wfV n)
  | .tup xs => xs.all (wfV n)
  | .dict => true
  | .flist _ => true
/-- forget what was made behind the first n objects -/
noncomputable def shrink (n : Nat) (r : SV × Hp) : SV × Hp :=
  if r.2.length ≤ n then r else if (r.2.take n).all (wfO n) then
    match r.1 with
    | .ref i => if i < n then (r.1, r.2.take n) else match r.2[i]? with
      | some so => if wfO n so then (.ref n, r.2.take n ++ [so]) else r
      | none => r
    | v => (v, r.2.take n)
  else r
noncomputable def shrinkB (n : Nat) (hp : Hp) : Hp := if hp.length ≤ n then hp else if (hp.take n).all (wfO n) then hp.take n else hp

noncomputable def eqV : SV → SV → Option BE
  | .int a, .int b => some (mkNot (mkNe a b))
  | _, _ => none
noncomputable def eqVs (eq : SV → SV → Option BE) : List SV → List SV → Option BE
  | [], [] => some (.lit true)
  | a :: r, b :: q => do
    let x ← eq a b
    let y ← eqVs eq r q
    some (mkAnd x y)
  | _, _ => none
/-- two objects: equal? (the second number: how deep) -/
noncomputable def eqO (hp : Hp) : Nat → SV → SV → Option BE
  | 0, a, b => eqV a b
  | n + 1, .ref i, .ref j => if i = j then none else match hp[i]?, hp[j]? with
    | some (.list xs), some (.list ys) => if xs.length = ys.length then eqVs (eqO hp n) xs ys else some (.lit false)
    | some (.tup xs), some (.tup ys) => if xs.length = ys.length then eqVs (eqO hp n) xs ys else none
    | some (.flist b), some (.list []) => some b
    | _, _ => none
  | _ + 1, a, b => eqV a b
noncomputable def ltT (a b c d : Int) : Bool := decide (a < c) || (decide (a = c) && decide (b < d))
noncomputable def cmpS (hp : Hp) : CmpOp → SV → SV → Option BE
  | .Lt, .int (.lit a), .int (.lit b) => some (.lit (decide (a < b)))
  | .Lt, .ref i, .ref j => match hp[i]?, hp[j]? with
    | some (.tup [.int (.lit a), .int (.lit b)]), some (.tup [.int (.lit c), .int (.lit d)]) => some (.lit (ltT a b c d))
    | _, _ => none
  | .Is, .none, .none => some (.lit true)
  | .Is, .int _, .none => some (.lit false)
  | .Eq, .bool a, .bool b => some (.beq a b)
  | .Eq, a, b => eqO hp 2 a b
  | .NotEq, a, b => (eqO hp 2 a b).map mkNot
  | .In, .none, .ref i => match hp[i]? with
    | some (.list xs) => if xs.all (fun v => match v with | .int _ => true | _ => false) then some (.lit false) else none
    | _ => none
  | _, _, _ => none
noncomputable def binS : Operator → SV → SV → Option SV
  | .Add, .int a, .int b => some (.int (mkAdd a b))
  | .Sub, .int a, .int b => some (.int (mkSub a b))
  | .Mult, .int a, .int b => if a.bd < 2 ^ 60 then some (.int (mkMul a b)) else none
  | .FloorDiv, .int (.lit a), .int (.lit b) => if 0 < b ∧ b < 1000 then some (.int (.lit (a.fdiv b))) else none
  | _, _, _ => none
noncomputable def idxS (hp : Hp) : SV → SV → Option SV
  | .ref i, .int (.lit k) => match hp[i]? with
    | some (.list xs) => if 0 ≤ k ∧ k < 1000 then xs[k.toNat]? else none
    | some (.tup xs) => if 0 ≤ k ∧ k < 1000 then xs[k.toNat]? else none
    | _ => none
  | _, _ => none
noncomputable def litsOf : List SV → Option (List Int)
  | [] => some []
  | .int (.lit n) :: r => (litsOf r).map (n :: ·)
  | _ => none
noncomputable def rangeUp (a : Int) : Nat → List Int
  | 0 => []
  | n + 1 => a :: rangeUp (a + 1) n
noncomputable def rangeDown (a : Int) : Nat → List Int
  | 0 => []
  | n + 1 => a :: rangeDown (a - 1) n
noncomputable def smallI (a : Int) : Bool := decide (-1000 < a) && decide (a < 1000)
noncomputable def rangeS : List Int → Option (List Int)
  | [b] => if smallI b then some (rangeUp 0 b.toNat) else none
  | [a, b] => if smallI a && smallI b then some (rangeUp a (b - a).toNat) else none
  | [a, b, -1] => if smallI a && smallI b then some (rangeDown a (a - b).toNat) else none
  | _ => none
noncomputable def sumS : IE → List SV → Option IE
  | acc, [] => some acc
  | acc, .int e :: r => sumS (mkAdd acc e) r
  | _, _ => none

/-! ### what a loop hands to its target -/
inductive It where
  | one (v : SV) | two (a b : SV)
noncomputable def zipIt : List SV → List SV → List It
  | a :: r, b :: q => .two a b :: zipIt r q
  | _, _ => []
noncomputable def enumIt : Nat → List SV → List It
  | _, [] => []
  | k, v :: r => .two (.int (.lit k)) v :: enumIt (k + 1) r
noncomputable def canSet (ks : Kinds) (x : Str) : Bool := match ks.lookup x with
  | some .local => true
  | some .cell => true
  | _ => false
noncomputable def setAll (ks : Kinds) : Vars → List Expr → List SV → Option Vars
  | vars, [], [] => some vars
  | vars, .Name x _ :: es, v :: vs => if canSet ks x then setAll ks (setV vars x v) es vs else none
  | _, _, _ => none
noncomputable def asgS (ks : Kinds) (vars : Vars) (hp : Hp) : Expr → It → Option Vars
  | .Name x _, .one v => if canSet ks x then some (setV vars x v) else none
  | .Tuple [.Name x p, .Name y q] _ _, .two a b => setAll ks vars [.Name x p, .Name y q] [a, b]
  | .Tuple es _ _, .one (.ref i) => match hp[i]? with
    | some (.tup xs) => setAll ks vars es xs
    | _ => none
  | _, _ => none

/-! ### the executor -/
inductive Fl where
  | next | ret (v : SV)
noncomputable def Fl.val : Fl → SV
  | .ret v => v
  | .next => .none
structure Fn where
  addr : Addr
  params : List Str
  more : List (Str × Value × SV)
  body : List Stmt
  scope : Scope
abbrev Tab := Str → Nat → Option Fn
structure Cx where
  ks : Kinds
  d : Nat
structure IH where
  ev : Cx → Vars → Hp → Expr → Option (SV × Hp)
  ts : Cx → Vars → Hp → Expr → Option (BE × Hp)
  ss : Cx → Vars → Hp → List Stmt → Option (Fl × Vars × Hp × List Nat)

noncomputable def notStar : Expr → Bool
  | .Starred .. => false
  | _ => true
noncomputable def evs (ih : IH) (cx : Cx) (vars : Vars) : Hp → List Expr → Option (List SV × Hp)
  | hp, [] => some ([], hp)
  | hp, e :: es => if notStar e then do
      let (v, hp) ← ih.ev cx vars hp e
      let (vs, hp) ← evs ih cx vars hp es
      some (v :: vs, hp)
    else none
noncomputable def glob (cx : Cx) (x : Str) (n : String) : Bool := decide (x = Str.ofString n) && decide (cx.ks.lookup x = some .globalImplicit)
/-- a comprehension's accumulator with one more item, asked by c -/
noncomputable def putAcc (acc : SO) (c : BE) (v : SV) : Option SO := match acc, c with
  | .list xs, .lit true => some (.list (xs ++ [v]))
  | .list xs, .lit false => some (.list xs)
  | .flist b, .lit true => some (.flist (mkAnd b (.lit false)))
  | .flist b, .lit false => some (.flist b)
  | .list [], c => some (.flist (mkNot c))
  | .list (_ :: _), _ => some (.flist (.lit false))
  | .flist b, c => some (.flist (mkAnd b (mkNot c)))
  | _, _ => none
noncomputable def relab (ks : Kinds) (names : Kinds) : Kinds := names.map fun (n, k) => if (k == .free && ks.lookup n == some .cell) then (n, .cell) else (n, k)
noncomputable def freeVars (ks : Kinds) (vars : Vars) : Kinds → Vars
  | [] => []
  | (n, k) :: r => if k == .free && ks.lookup n == some .cell then match vars.lookup n with
    | some v => (n, v) :: freeVars ks vars r
    | none => freeVars ks vars r
    else freeVars ks vars r

noncomputable def isSet : Expr → Bool
  | .Set .. => true
  | _ => false
noncomputable def nameOf : Expr → List Str
  | .Name x _ => [x]
  | _ => []
noncomputable def tnames : Expr → List Str
  | .Name x _ => [x]
  | .Tuple es _ _ => es.flatMap nameOf
  | _ => []
noncomputable def nodupS : List Str → Bool
  | [] => true
  | x :: r => !(r.contains x) && nodupS r
/-- a comprehension's names: each once, the free ones cells of the frame around -/
noncomputable def compOk (ks : Kinds) (names : Kinds) : Bool := nodupS (names.map (·.1)) && names.all fun p => !(p.2 == .free) || decide (ks.lookup p.1 = some .cell)
noncomputable def ownAll (names : Kinds) (target : Expr) : Bool := (tnames target).all (canSet names)
/-- what a comprehension's clause goes over -/
noncomputable def srcS (ih : IH) (cx : Cx) (vars : Vars) (hp : Hp) (e : Expr) : Option (List SV × Hp) := match e with
  | .Call (.Name f _) args [] _ => if glob cx f "range" then do
      let (vs, hp) ← evs ih cx vars hp args
      let ns ← litsOf vs
      let is ← rangeS ns
      some (is.map fun i => .int (.lit i), hp)
    else none
  | e => if isSet e then none else do
    let (v, hp) ← ih.ev cx vars hp e
    match v with
    | .ref i => match hp[i]? with
      | some (.list xs) => some (xs, hp)
      | _ => none
    | _ => none
/-- the tests of a clause: none, or one -/
noncomputable def ifsS (ih : IH) (cx : Cx) (vars : Vars) (hp : Hp) : List Expr → Option (BE × Hp)
  | [] => some (.lit true, hp)
  | [c] => do
    let (b, hp') ← ih.ts cx vars hp c
    some (b, shrinkB hp.length hp')
  | _ => none
/-- the turns of a last clause -/
noncomputable def turnsIn (ih : IH) (cx : Cx) (elt target : Expr) (ifs : List Expr) : Vars → Hp → SO → List SV → Option (Vars × Hp × SO)
  | vars, hp, acc, [] => some (vars, hp, acc)
  | vars, hp, acc, v :: vs => do
    let vars ← asgS cx.ks vars hp target (.one v)
    let (c, hp) ← ifsS ih cx vars hp ifs
    match c with
    | .lit false => turnsIn ih cx elt target ifs vars hp acc vs
    | .lit true => do
      let r ← ih.ev cx vars hp elt
      let (y, hp) := shrink hp.length r
      let acc ← putAcc acc (.lit true) y
      turnsIn ih cx elt target ifs vars hp acc vs
    | c => do
      let (y, hp') ← ih.ev cx vars hp elt
      if hp'.length = hp.length then
        let acc ← putAcc acc c y
        turnsIn ih cx elt target ifs vars hp acc vs
      else none
/-- the turns of a first clause of two -/
noncomputable def turnsOut (ih : IH) (cx : Cx) (elt target : Expr) (g2 : Comprehension) : Vars → Hp → SO → List SV → Option (Vars × Hp × SO)
  | vars, hp, acc, [] => some (vars, hp, acc)
  | vars, hp, acc, v :: vs => do
    let vars ← asgS cx.ks vars hp target (.one v)
    let (xs, hp) ← srcS ih cx vars hp g2.iter
    if xs.length ≤ 200 then
      let (vars, hp, acc) ← turnsIn ih cx elt g2.target g2.ifs vars hp acc xs
      turnsOut ih cx elt target g2 vars hp acc vs
    else none
noncomputable def compS (ih : IH) (cx : Cx) (vars : Vars) (hp : Hp) (elt : Expr) (gens : List Comprehension) (scope : Scope) : Option (SV × Hp) :=
  if decide (scope.kind = .function) && compOk cx.ks scope.names then
    match gens with
    | [⟨target, iter, ifs, 0⟩] => if ownAll scope.names target then do
        let (xs, hp) ← srcS ih cx vars hp iter
        if xs.length ≤ 200 then
          let (_, hp, acc) ← turnsIn ih { cx with ks := relab cx.ks scope.names } elt target ifs (freeVars cx.ks vars scope.names) hp (.list []) xs
          some (.ref hp.length, hp ++ [acc])
        else none
      else none
    | [⟨target, iter, [], 0⟩, ⟨target2, iter2, ifs2, 0⟩] => if ownAll scope.names target && ownAll scope.names target2 then do
        let (xs, hp) ← srcS ih cx vars hp iter
        if xs.length ≤ 20 then
          let (_, hp, acc) ← turnsOut ih { cx with ks := relab cx.ks scope.names } elt target ⟨target2, iter2, ifs2, 0⟩ (freeVars cx.ks vars scope.names) hp (.list []) xs
          some (.ref hp.length, hp ++ [acc])
        else none
      else none
    | _ => none
  else none
/-- a call of a def of the text's: what it gives, the heap, and which of the old objects it turned -/
noncomputable def callM (T : Tab) (ih : IH) (cx : Cx) (hp : Hp) (f : Str) (vs : List SV) : Option (SV × Hp × List Nat) :=
  if decide (cx.ks.lookup f = some .globalImplicit) then
    match T f vs.length, cx.d with
    | some fn, d + 1 => do
      let (fl, _, hp', mu) ← ih.ss ⟨fn.scope.names, d⟩ (fn.params.zip vs ++ fn.more.map fun m => (m.1, m.2.2)) hp fn.body
      let r := shrink hp.length (fl.val, hp')
      some (r.1, r.2, mu.filter (· < hp.length))
    | _, _ => none
  else none
noncomputable def callS (T : Tab) (ih : IH) (cx : Cx) (hp : Hp) (f : Str) (vs : List SV) : Option (SV × Hp) := do
  let (v, hp', mu) ← callM T ih cx hp f vs
  if mu = [] then some (v, hp') else none
noncomputable def isSlice : Expr → Bool
  | .Slice .. => true
  | _ => false
noncomputable def stepEv (T : Tab) (ih : IH) (cx : Cx) (vars : Vars) (hp : Hp) : Expr → Option (SV × Hp)
  | .Constant (.int i) _ _ => some (.int (.lit i), hp)
  | .Constant .none _ _ => some (.none, hp)
  | .Constant (.bool b) _ _ => some (.bool (.lit b), hp)
  | .Name x _ => if canSet cx.ks x && !(x == Str.ofString "__debug__") then match vars.lookup x with
      | some .junk => none
      | some v => some (v, hp)
      | none => none
    else none
  | .BinOp l op r _ => do
    let (a, hp) ← ih.ev cx vars hp l
    let (b, hp) ← ih.ev cx vars hp r
    let v ← binS op a b
    some (v, hp)
  | .Compare l [op] [r] _ => if behindInMarks op r then none else do
    let (a, hp) ← ih.ev cx vars hp l
    let (b, hp) ← ih.ev cx vars hp r
    let c ← cmpS hp op a b
    some (.bool c, hp)
  | .IfExp t a b _ => do
    let (c, hp') ← ih.ts cx vars hp t
    match decB c with
    | some true => ih.ev cx vars hp' a
    | some false => ih.ev cx vars hp' b
    | none => none
  | .Tuple es _ _ => if es.length ≤ 1000 then do
    let (xs, hp) ← evs ih cx vars hp es
    some (.ref hp.length, hp ++ [.tup xs])
    else none
  | .List es _ => if es.length ≤ 1000 then do
    let (xs, hp) ← evs ih cx vars hp es
    some (.ref hp.length, hp ++ [.list xs])
    else none
  | .Dict [] [] _ => some (.ref hp.length, hp ++ [.dict])
  | .Subscript (.Name x q) (.Slice none (some (.Constant (.int k) _ _)) none _) _ => do
    let (a, hp) ← ih.ev cx vars hp (.Name x q)
    match a with
    | .ref i => match hp[i]? with
      | some (.list xs) => if 0 ≤ k ∧ k ≤ xs.length ∧ xs.length ≤ 1000 then some (.ref hp.length, hp ++ [.list (xs.take k.toNat)]) else none
      | _ => none
    | _ => none
  | .Subscript (.Name x q) (.Slice (some (.Constant (.int k) _ _)) none none _) _ => do
    let (a, hp) ← ih.ev cx vars hp (.Name x q)
    match a with
    | .ref i => match hp[i]? with
      | some (.list xs) => if 0 ≤ k ∧ k ≤ xs.length ∧ xs.length ≤ 1000 then some (.ref hp.length, hp ++ [.list (xs.drop k.toNat)]) else none
      | _ => none
    | _ => none
  | .Subscript o i _ => if isSlice i then none else do
    let (a, hp) ← ih.ev cx vars hp o
    let (k, hp) ← ih.ev cx vars hp i
    let v ← idxS hp a k
    some (v, hp)
  | .Call (.Name f _) args [] _ => do
    let (vs, hp) ← evs ih cx vars hp args
    if glob cx f "len" then match vs with
      | [.ref i] => match hp[i]? with
        | some (.list xs) => if xs.length ≤ 1000 then some (.int (.lit xs.length), hp) else none
        | _ => none
      | _ => none
    else if glob cx f "min" then match vs with
      | [.int (.lit a), .int (.lit b)] => some (.int (.lit (if b < a then b else a)), hp)
      | _ => none
    else if glob cx f "max" then match vs with
      | [.int (.lit a), .int (.lit b)] => some (.int (.lit (if a < b then b else a)), hp)
      | _ => none
    else if glob cx f "sum" then match vs with
      | [.ref i] => match hp[i]? with
        | some (.list xs) => do
          let e ← sumS (.lit 0) xs
          some (.int e, hp)
        | _ => none
      | _ => none
    else callS T ih cx hp f vs
  | .ListComp elt gens scope _ => compS ih cx vars hp elt gens scope
  | _ => none
noncomputable def stepTs (T : Tab) (ih : IH) (cx : Cx) (vars : Vars) (hp : Hp) : Expr → Option (BE × Hp)
  | .BoolOp .And [a, b] _ => do
    let (x, hp) ← ih.ts cx vars hp a
    match decB x with
    | some false => some (.lit false, hp)
    | some true => do
      let (y, hp) ← ih.ts cx vars hp b
      some (y, hp)
    | none => none
  | .BoolOp .Or [a, b] _ => do
    let (x, hp) ← ih.ts cx vars hp a
    match decB x with
    | some true => some (.lit true, hp)
    | some false => do
      let (y, hp) ← ih.ts cx vars hp b
      some (y, hp)
    | none => none
  | .Compare l [op] [r] _ => if behindInMarks op r then none else do
    let (a, hp) ← ih.ev cx vars hp l
    let (b, hp) ← ih.ev cx vars hp r
    let c ← cmpS hp op a b
    some (c, hp)
  | _ => none
/-- names that the open If turned are told no more -/
noncomputable def same : Option SV → SV → Bool
  | some v, w => v.eqb w
  | none, _ => false
theorem same_eq : ∀ {o : Option SV} {v : SV}, same o v = true → o = some v
  | some _, _, h => congrArg some (SV.eqb_eq _ _ h)
  | none, _, h => nomatch h
noncomputable def joinV (a b : Vars) : Vars := a.map fun p => (p.1, if same (b.lookup p.1) p.2 = true then p.2 else .junk)
noncomputable def joinN (a b : Vars) : Vars := b.filter fun p => (a.lookup p.1).isNone
/-- a for's items, and the lists that they are drawn from -/
noncomputable def itemsS (T : Tab) (ih : IH) (cx : Cx) (vars : Vars) (hp : Hp) : Expr → Option (List It × Hp × List Nat)
  | .Call (.Name f _) args [] _ => do
    let (vs, hp) ← evs ih cx vars hp args
    if glob cx f "range" then do
      let ns ← litsOf vs
      let is ← rangeS ns
      some (is.map fun i => .one (.int (.lit i)), hp, [])
    else if glob cx f "zip" then match vs with
      | [.ref i, .ref j] => match hp[i]?, hp[j]? with
        | some (.list xs), some (.list ys) => some (zipIt xs ys, hp, [i, j])
        | _, _ => none
      | _ => none
    else if glob cx f "enumerate" then match vs with
      | [.ref i] => match hp[i]? with
        | some (.list xs) => some (enumIt 0 xs, hp, [i])
        | _ => none
      | _ => none
    else none
  | .Call (.Attribute (.Name x q) m ap) [] [] pos => if m = Str.ofString "items" ∧ (ap.endLine == pos.line) = true then do
    let (v, hp) ← ih.ev cx vars hp (.Name x q)
    match v with
      | .ref i => match hp[i]? with
        | some .dict => some ([], hp, [i])
        | _ => none
      | _ => none
    else none
  | _ => none
noncomputable def forS (ih : IH) (cx : Cx) (target : Expr) (body : List Stmt) (src : List Nat) : Vars → Hp → List It → Option (Vars × Hp × List Nat)
  | vars, hp, [] => some (vars, hp, [])
  | vars, hp, it :: its => do
    let vars ← asgS cx.ks vars hp target it
    let (fl, vars, hp, mu) ← ih.ss cx vars hp body
    match fl, src.all (fun i => !(mu.contains i)) with
    | .next, true => do
      let (vars, hp, mu2) ← forS ih cx target body src vars hp its
      some (vars, hp, mu ++ mu2)
    | _, _ => none
noncomputable def whileS (ih : IH) (cx : Cx) (test : Expr) (body : List Stmt) : Nat → Vars → Hp → Option (Vars × Hp × List Nat)
  | 0, _, _ => none
  | n + 1, vars, hp => do
    let (c, hp') ← ih.ts cx vars hp test
    match decB c with
    | some false => some (vars, hp', [])
    | some true => do
      let (fl, vars, hp, mu) ← ih.ss cx vars hp' body
      match fl with
      | .next => do
        let (vars, hp, mu2) ← whileS ih cx test body n vars hp
        some (vars, hp, mu ++ mu2)
      | .ret _ => none
    | none => none
noncomputable def insAt (xs : List SV) (k : Nat) (v : SV) : List SV := xs.take k ++ v :: xs.drop k
/-- a value that a plain store may take -/
noncomputable def plainVal : Expr → Bool
  | .Name .. => true
  | .Subscript .. => true
  | .Call .. => true
  | .Constant .. => true
  | .BinOp .. => true
  | .Compare .. => true
  | .List .. => true
  | .Tuple .. => true
  | .Dict .. => true
  | .IfExp .. => true
  | _ => false
noncomputable def cellName (ks : Kinds) : Expr → Bool
  | .Name x _ => decide (ks.lookup x = some .cell)
  | _ => false
/-- a value that a tuple of names may take, no stores being swapped -/
noncomputable def tupVal (ks : Kinds) (es : List Expr) : Expr → Bool
  | .Name .. => true
  | .Subscript .. => true
  | .Tuple .. => es.all (cellName ks) && !es.isEmpty
  | _ => false
noncomputable def isTupT : Expr → Bool
  | .Tuple .. => true
  | _ => false
noncomputable def rangeCall (cx : Cx) : Expr → Bool
  | .Call (.Name f _) _ [] _ => glob cx f "range"
  | _ => false
noncomputable def stepS (T : Tab) (ih : IH) (cx : Cx) (vars : Vars) (hp : Hp) : Stmt → Option (Fl × Vars × Hp × List Nat)
  | .Assign [.Name x _] value _ => do
    let (v, hp) ← ih.ev cx vars hp value
    if canSet cx.ks x then match value with
      | .ListComp _ _ scope _ => if scope.names.all (fun p => !(p.1 == x)) then some (.next, setV vars x v, hp, []) else none
      | _ => if plainVal value then some (.next, setV vars x v, hp, []) else none
    else none
  | .Assign [.Tuple es k p] value _ => do
    let (v, hp) ← ih.ev cx vars hp value
    let vars ← asgS cx.ks vars hp (.Tuple es k p) (.one v)
    if tupVal cx.ks es value then some (.next, vars, hp, []) else none
  | .If test body orelse _ => do
    let (c, hp') ← ih.ts cx vars hp test
    let hp' := shrinkB hp.length hp'
    match decB c with
    | some true => ih.ss cx vars hp' body
    | some false => ih.ss cx vars hp' orelse
    | none => match orelse with
      | [] => do
        let (fl, vars1, hp1, mu) ← ih.ss cx vars hp' body
        match fl with
        | .next => if (mu.filter (· < hp'.length)) = [] then some (.next, joinV vars vars1, hp', []) else none
        | .ret _ => none
      | _ => none
  | .While test body [] _ => do
    let (vars, hp, mu) ← whileS ih cx test body 20 vars hp
    some (.next, vars, hp, mu)
  | .For target iter body [] _ => if isTupT target || rangeCall cx iter then do
    let (its, hp, src) ← itemsS T ih cx vars hp iter
    let (vars, hp, mu) ← forS ih cx target body src vars hp its
    some (.next, vars, hp, mu)
    else none
  | .Return (some e) _ => do
    let (v, hp) ← ih.ev cx vars hp e
    some (.ret v, vars, hp, [])
  | .Expr (.Call (.Attribute (.Name a q) m ap) [ke, xe] [] pos) _ => if (ap.endLine == pos.line) = false then none else do
    let (o, hp0) ← ih.ev cx vars hp (.Name a q)
    let (k, hp) ← ih.ev cx vars hp0 ke
    let (x, hp) ← ih.ev cx vars hp xe
    if m = Str.ofString "insert" ∧ notStar ke ∧ notStar xe then match o, k with
      | .ref i, .int (.lit k) => match hp0[i]?, hp[i]? with
        | some (.list _), some (.list xs) => if 0 ≤ k ∧ k ≤ xs.length ∧ xs.length < 1000 then some (.next, vars, hp.set i (.list (insAt xs k.toNat x)), [i]) else none
        | _, _ => none
      | _, _ => none
    else none
  | .Expr (.Call (.Name f _) args [] _) _ => do
    let (vs, hp) ← evs ih cx vars hp args
    let (v, hp, mu) ← callM T ih cx hp f vs
    match v with
    | .none => some (.next, vars, hp, mu)
    | _ => none
  | _ => none
noncomputable def stepSs (T : Tab) (ih : IH) (cx : Cx) (vars : Vars) (hp : Hp) : List Stmt → Option (Fl × Vars × Hp × List Nat)
  | [] => some (.next, vars, hp, [])
  | st :: rest => do
    let (fl, vars, hp, mu) ← stepS T ih cx vars hp st
    match fl with
    | .next => do
      let (fl, vars, hp, mu2) ← ih.ss cx vars hp rest
      some (fl, vars, hp, mu ++ mu2)
    | .ret v => some (.ret v, vars, hp, mu)
noncomputable def run (T : Tab) : Nat → IH
  | 0 => ⟨fun _ _ _ _ => none, fun _ _ _ _ => none, fun _ _ _ _ => none⟩
  | n + 1 => ⟨stepEv T (run T n), stepTs T (run T n), stepSs T (run T n)⟩

/-! ### the row's text -/
noncomputable def defsOf : List Stmt → List (Str × List Str × List Stmt × Scope)
  | [] => []
  | .FunctionDef name args body _ _ _ scope _ _ _ :: r => (name, args.args.map (·.arg), body, scope) :: defsOf r
  | _ :: r => defsOf r
noncomputable def defs : List (Str × List Str × List Stmt × Scope) := defsOf PySem.Challenge.pw_hv0002_01.main.body
noncomputable def defsC : List (Str × List Str × List Stmt × Scope) := defsOf PySem.Challenge.pw_hv0002_01.main.body
end Mine
end SD1
section SD2
open PySem
namespace Mine
/-! ### what the symbols say -/
noncomputable def IE.den (ρ : Nat → Int) : IE → Int
  | .lit n => n
  | .var i => ρ i
  | .add a b => a.den ρ + b.den ρ
  | .sub a b => a.den ρ - b.den ρ
  | .mul a b => a.den ρ * b.den ρ
noncomputable def BE.den (ρ : Nat → Int) : BE → Bool
  | .lit b => b
  | .ne a b => !(a.den ρ == b.den ρ)
  | .not a => !a.den ρ
  | .and a b => a.den ρ && b.den ρ
  | .or a b => a.den ρ || b.den ρ
  | .beq a b => a.den ρ == b.den ρ
theorem den_mkAdd (ρ : Nat → Int) (a b : IE) : (mkAdd a b).den ρ = a.den ρ + b.den ρ := by unfold mkAdd; split <;> rfl
theorem den_mkSub (ρ : Nat → Int) (a b : IE) : (mkSub a b).den ρ = a.den ρ - b.den ρ := by unfold mkSub; split <;> rfl
theorem den_mkMul (ρ : Nat → Int) (a b : IE) : (mkMul a b).den ρ = a.den ρ * b.den ρ := by unfold mkMul; split <;> rfl
theorem den_mkNe (ρ : Nat → Int) (a b : IE) : (mkNe a b).den ρ = !(a.den ρ == b.den ρ) := by unfold mkNe; split <;> rfl
theorem den_mkNot (ρ : Nat → Int) (a : BE) : (mkNot a).den ρ = !a.den ρ := by unfold mkNot; split <;> rfl
theorem den_mkAnd (ρ : Nat → Int) (a b : BE) : (mkAnd a b).den ρ = (a.den ρ && b.den ρ) := by
  unfold mkAnd; split <;> simp [BE.den]
theorem den_mkOr (ρ : Nat → Int) (a b : BE) : (mkOr a b).den ρ = (a.den ρ || b.den ρ) := by
  unfold mkOr; split <;> simp [BE.den]
theorem bd_ok {ρ : Nat → Int} (hρ : ∀ i, -4 ≤ ρ i ∧ ρ i ≤ 4) : ∀ e : IE, (e.den ρ).natAbs ≤ e.bd
  | .lit n => Nat.le_refl _
  | .var i => by have := hρ i; show (ρ i).natAbs ≤ 4; omega
  | .add a b => by have := bd_ok hρ a; have := bd_ok hρ b; show (a.den ρ + b.den ρ).natAbs ≤ a.bd + b.bd; omega
  | .sub a b => by have := bd_ok hρ a; have := bd_ok hρ b; show (a.den ρ - b.den ρ).natAbs ≤ a.bd + b.bd; omega
  | .mul a b => by show (a.den ρ * b.den ρ).natAbs ≤ a.bd * b.bd; rw [Int.natAbs_mul]; exact Nat.mul_le_mul (bd_ok hρ a) (bd_ok hρ b)

/-! ### polynomials -/
noncomputable def mden (ρ : Nat → Int) : List Nat → Int
  | [] => 1
  | i :: r => ρ i * mden ρ r
noncomputable def pden (ρ : Nat → Int) : Poly → Int
  | [] => 0
  | (m, c) :: r => c * mden ρ m + pden ρ r
theorem pden_ins (ρ : Nat → Int) (m : List Nat) (c : Int) : ∀ p : Poly, pden ρ (insMono m c p) = c * mden ρ m + pden ρ p
  | [] => rfl
  | (m', c') :: r => by
    unfold insMono
    split
    · rename_i h; subst h; simp only [pden, Int.add_mul]; omega
    · simp only [pden, pden_ins ρ m c r]; omega
theorem pden_add (ρ : Nat → Int) : ∀ p q : Poly, pden ρ (addP p q) = pden ρ p + pden ρ q
  | [], q => by simp [addP, pden]
  | (m, c) :: r, q => by simp only [addP, pden_ins, pden, pden_add ρ r q]; omega
theorem pden_neg (ρ : Nat → Int) : ∀ p : Poly, pden ρ (negP p) = - pden ρ p
  | [] => rfl
  | (m, c) :: r => by
    have := pden_neg ρ r
    simp only [negP, List.map_cons, pden] at this ⊢
    rw [this, Int.neg_mul]; omega
theorem mden_insVar (ρ : Nat → Int) (i : Nat) : ∀ l : List Nat, mden ρ (insVar i l) = ρ i * mden ρ l
  | [] => rfl
  | j :: r => by
    unfold insVar
    split
    · rfl
    · simp only [mden, mden_insVar ρ i r]; rw [Int.mul_left_comm]
theorem mden_mul (ρ : Nat → Int) : ∀ a b : List Nat, mden ρ (mulMono a b) = mden ρ a * mden ρ b
  | [], b => by simp [mulMono, mden]
  | i :: r, b => by
    have := mden_mul ρ r b
    simp only [mulMono, List.foldr_cons] at this ⊢
    rw [mden_insVar, this, mden, Int.mul_assoc]
theorem pden_scale (ρ : Nat → Int) (m : List Nat) (c : Int) : ∀ q : Poly, pden ρ (q.map fun x => (mulMono m x.1, c * x.2)) = c * mden ρ m * pden ρ q
  | [] => by simp [pden]
  | (m', c') :: r => by
    simp only [List.map_cons, pden, pden_scale ρ m c r, mden_mul, Int.mul_add]
    have : c * c' * (mden ρ m * mden ρ m') = c * mden ρ m * (c' * mden ρ m') := by ac_rfl
    rw [this]
theorem pden_mul (ρ : Nat → Int) : ∀ p q : Poly, pden ρ (mulP p q) = pden ρ p * pden ρ q
  | [], q => by simp [mulP, pden]
  | (m, c) :: r, q => by simp only [mulP, pden_add, pden_scale, pden, pden_mul ρ r q, Int.add_mul]
theorem pden_norm (ρ : Nat → Int) : ∀ e : IE, pden ρ (norm e) = e.den ρ
  | .lit n => by simp [norm, pden, mden, IE.den]
  | .var i => by simp [norm, pden, mden, IE.den]
  | .add a b => by simp only [norm, pden_add, pden_norm ρ a, pden_norm ρ b, IE.den]
  | .sub a b => by simp only [norm, pden_add, pden_neg, pden_norm ρ a, pden_norm ρ b, IE.den]; omega
  | .mul a b => by simp only [norm, pden_mul, pden_norm ρ a, pden_norm ρ b, IE.den]
theorem pden_zero (ρ : Nat → Int) : ∀ p : Poly, (p.all fun x => x.2 == 0) = true → pden ρ p = 0
  | [], _ => rfl
  | (m, c) :: r, h => by
    simp only [List.all_cons, Bool.and_eq_true, beq_iff_eq] at h
    simp only [pden, h.1, Int.zero_mul, pden_zero ρ r h.2, Int.add_zero]
theorem isZero_ok (ρ : Nat → Int) {e : IE} (h : isZero e = true) : e.den ρ = 0 := by rw [← pden_norm]; exact pden_zero ρ _ h
theorem decB_ok (ρ : Nat → Int) : ∀ (b : BE) (v : Bool), decB b = some v → b.den ρ = v
  | .lit b, v, h => by simpa [decB, BE.den] using h
  | .ne a b, v, h => by
    unfold decB at h
    split at h
    · rename_i hz
      have := isZero_ok ρ hz
      simp only [IE.den] at this
      cases h
      simp only [BE.den]
      have : a.den ρ = b.den ρ := by omega
      simp [this]
    · cases h
  | .not a, v, h => by
    unfold decB at h
    cases hq : decB a with
    | none => rw [hq] at h; cases h
    | some x => rw [hq] at h; cases h; simp [BE.den, decB_ok ρ a x hq]
  | .and a b, v, h => by
    unfold decB at h
    simp only [BE.den]
    split at h <;> rename_i h1
    · rw [decB_ok ρ a _ h1, decB_ok ρ b _ h]; rfl
    · cases h; rw [decB_ok ρ a _ h1]; rfl
    · rename_i h2 _; cases h; rw [decB_ok ρ b _ h1, Bool.and_false]
    · cases h
  | .or a b, v, h => by
    unfold decB at h
    simp only [BE.den]
    split at h <;> rename_i h1
    · rw [decB_ok ρ a _ h1, decB_ok ρ b _ h]; rfl
    · cases h; rw [decB_ok ρ a _ h1]; rfl
    · rename_i h2 _; cases h; rw [decB_ok ρ b _ h1, Bool.or_true]
    · cases h
  | .beq a b, v, h => by
    unfold decB at h
    split at h
    · rename_i x y h1 h2; cases h; simp only [BE.den]; rw [decB_ok ρ a _ h1, decB_ok ρ b _ h2]
    · cases h
end Mine
end SD2
section SD3
open PySem PySem.W PySem.Calls PyProof.Rows
namespace Mine
section
variable (ρ : Nat → Int) (H : Heap)
abbrev lO (vs : List Value) (n : Nat) : Obj := { cls := .type "list", data := .seq vs.toArray n }
abbrev tO (vs : List Value) (n : Nat) : Obj := { cls := .type "tuple", data := .seq vs.toArray n }
abbrev dO : Obj := { cls := .type "dict", data := .dict #[] }
noncomputable def RV (αs : List Addr) (v : Value) : SV → Prop
  | .int e => ∃ t, v = .int (e.den ρ) t
  | .none => v = .none
  | .bool b => v = .bool (b.den ρ)
  | .ref i => ∃ a, αs[i]? = some a ∧ v = .ref a
  | .junk => True
noncomputable def RVs (αs : List Addr) : List Value → List SV → Prop
  | [], [] => True
  | v :: vs, x :: xs => RV ρ αs v x ∧ RVs αs vs xs
  | _, _ => False
noncomputable def RO (αs : List Addr) (o : Obj) : SO → Prop
  | .list xs => ∃ vs n, o = lO vs n ∧ RVs ρ αs vs xs
  | .tup xs => ∃ vs n, o = tO vs n ∧ RVs ρ αs vs xs
  | .dict => ∃ n, o = { cls := .type "dict", data := .dict #[] n }
  | .flist b => ∃ vs n, o = lO vs n ∧ (b.den ρ = true ↔ vs = []) ∧ vs.length ≤ 4096
structure SR (αs : List Addr) (hp : Hp) (h : Heap) : Prop where
  base : ∀ b o, H.get? b = some o → h.get? b = some o
  len : αs.length = hp.length
  real : ∀ (i : Nat) (a : Addr) (so : SO), αs[i]? = some a → hp[i]? = some so → ∃ o, h.get? a = some o ∧ RO ρ αs o so
  nodup : αs.Nodup
  fresh : ∀ a ∈ αs, H.get? a = none
  sys : ∀ (i : Nat) (a : Addr), αs[i]? = some a → hp[i]? = some .dict → a ≠ sysModules
  top : ∃ o, H.get? mainGlobals = some o
end
noncomputable def StepM (M : List Addr) (αs : List Addr) (h : Heap) (αs' : List Addr) (h' : Heap) : Prop :=
  (∃ more, αs' = αs ++ more) ∧ ∀ b o, h.get? b = some o → (b ∉ αs → b ∉ αs') ∧ ∃ o', h'.get? b = some o' ∧ (b ∉ M → o' = o)
structure EK (env : Env) (ks : Kinds) : Prop where
  kind : env.scope.kind = .function
  names : env.scope.names = ks
  glob : env.globals = mainGlobals
  bi : env.builtins = builtinsNs
noncomputable def BV (env : Env) (h : Heap) (m : Str → Option Value) (x : Str) (v : Value) : Prop :=
  (env.kindOf x = some .local ∧ m x = some v) ∨ (env.kindOf x = some .cell ∧ ∃ c, env.cells.lookup x = some c ∧ h.IsCell c (some v))
structure FR (ρ : Nat → Int) (H : Heap) (env : Env) (αs : List Addr) (vars : Vars) (h : Heap) : Prop where
  loc : env.locals ∉ αs ∧ H.get? env.locals = none
  cel : ∀ p ∈ env.cells, p.2 ∉ αs ∧ H.get? p.2 = none ∧ p.2 ≠ env.locals ∧ ∃ v, h.IsCell p.2 v
  inj : ∀ p ∈ env.cells, ∀ q ∈ env.cells, p.2 = q.2 → p.1 = q.1
  has : ∀ x, env.kindOf x = some .cell → ∃ c, env.cells.lookup x = some c
  ns : ∃ m, h.Ns env.locals m ∧ ∀ x sv, vars.lookup x = some sv → sv = .junk ∨ ∃ v, BV env h m x v ∧ RV ρ αs v sv
abbrev fp (env : Env) : List Addr := env.locals :: env.cells.map (·.2)

section
variable {ρ : Nat → Int} {H : Heap} {αs αs' αs'' more : List Addr} {v : Value} {vs : List Value} {x : SV} {xs : List SV} {o : Obj} {so : SO} {hp : Hp} {h h' h'' : Heap} {M : List Addr} {env : Env} {vars : Vars}
theorem get_pre {i : Nat} {a : Addr} (e : αs[i]? = some a) : (αs ++ more)[i]? = some a := by
  rw [List.getElem?_append_left (List.getElem?_eq_some_iff.mp e).1]; exact e
theorem RV.mono (r : RV ρ αs v x) : RV ρ (αs ++ more) v x := by
  cases x with
  | ref i => obtain ⟨a, e, rfl⟩ := r; exact ⟨a, get_pre e, rfl⟩
  | _ => exact r
theorem RVs.mono : ∀ {vs : List Value} {xs : List SV}, RVs ρ αs vs xs → RVs ρ (αs ++ more) vs xs
  | [], [], _ => trivial
  | _ :: _, _ :: _, r => ⟨r.1.mono, RVs.mono r.2⟩
  | [], _ :: _, r => r.elim
  | _ :: _, [], r => r.elim
theorem RO.mono (r : RO ρ αs o so) : RO ρ (αs ++ more) o so := by
  cases so with
  | list xs => obtain ⟨vs, n, e, q⟩ := r; exact ⟨vs, n, e, q.mono⟩
  | tup xs => obtain ⟨vs, n, e, q⟩ := r; exact ⟨vs, n, e, q.mono⟩
  | dict => exact r
  | flist b => exact r
theorem RVs.length : ∀ {vs : List Value} {xs : List SV}, RVs ρ αs vs xs → vs.length = xs.length
  | [], [], _ => rfl
  | _ :: _, _ :: _, r => by rw [List.length_cons, List.length_cons, RVs.length r.2]
  | [], _ :: _, r => r.elim
  | _ :: _, [], r => r.elim
theorem RVs.get : ∀ {vs : List Value} {xs : List SV} {i : Nat} {x : SV}, RVs ρ αs vs xs → xs[i]? = some x → ∃ v, vs[i]? = some v ∧ RV ρ αs v x
  | _ :: _, _ :: _, 0, _, r, e => by cases e; exact ⟨_, rfl, r.1⟩
  | _ :: _, _ :: _, i + 1, _, r, e => RVs.get (i := i) r.2 e
  | [], _ :: _, _, _, r, _ => r.elim
  | _, [], _, _, _, e => by cases e
theorem RVs.append : ∀ {vs : List Value} {xs : List SV} {ws : List Value} {ys : List SV}, RVs ρ αs vs xs → RVs ρ αs ws ys → RVs ρ αs (vs ++ ws) (xs ++ ys)
  | [], [], _, _, _, q => q
  | _ :: _, _ :: _, _, _, r, q => ⟨r.1, RVs.append r.2 q⟩
  | [], _ :: _, _, _, r, _ => r.elim
  | _ :: _, [], _, _, r, _ => r.elim

/-! steps -/
theorem StepM.refl : StepM M αs h αs h := ⟨⟨[], (List.append_nil _).symm⟩, fun _ o e => ⟨id, o, e, fun _ => rfl⟩⟩
theorem StepM.trans (a : StepM M αs h αs' h') (b : StepM M αs' h' αs'' h'') : StepM M αs h αs'' h'' := by
  obtain ⟨⟨m1, rfl⟩, a⟩ := a
  obtain ⟨⟨m2, rfl⟩, b⟩ := b
  refine ⟨⟨m1 ++ m2, List.append_assoc ..⟩, fun c o e => ?_⟩
  obtain ⟨n1, o1, e1, k1⟩ := a c o e
  obtain ⟨n2, o2, e2, k2⟩ := b c o1 e1
  exact ⟨fun n => n2 (n1 n), o2, e2, fun q => (k2 q).trans (k1 q)⟩
theorem StepM.weak {M' : List Addr} (a : StepM M αs h αs' h') (k : ∀ b ∈ M, b ∈ M') : StepM M' αs h αs' h' :=
  ⟨a.1, fun b o e => let ⟨n1, o1, e1, k1⟩ := a.2 b o e; ⟨n1, o1, e1, fun q => k1 fun q' => q (k b q')⟩⟩
theorem StepM.of0 (a : StepM [] αs h αs' h') : StepM M αs h αs' h' := a.weak fun _ q => nomatch q
theorem StepM.keep (a : StepM M αs h αs' h') {b : Addr} {o : Obj} (e : h.get? b = some o) (m : b ∉ M) : h'.get? b = some o := by
  obtain ⟨_, o', e', k⟩ := a.2 b o e; rw [e', k m]
theorem StepM.keeps (a : StepM [] αs h αs' h') : ∀ b o, h.get? b = some o → h'.get? b = some o := fun _ _ e => a.keep e fun q => nomatch q
theorem StepM.off (a : StepM M αs h αs' h') {b : Addr} {o : Obj} (e : h.get? b = some o) (n : b ∉ αs) : b ∉ αs' := (a.2 b o e).1 n
/-- nothing old was changed -/
theorem StepM.ext (k : ∀ b o, h.get? b = some o → h'.get? b = some o) : StepM M αs h αs h' := ⟨⟨[], (List.append_nil _).symm⟩, fun b o e => ⟨id, o, k b o e, fun _ => rfl⟩⟩
theorem StepM.but {a : Addr} (ha : a ∈ M) (hs : Heap.SameBut a h h') (hx : ∃ o, h'.get? a = some o) : StepM M αs h αs h' :=
  ⟨⟨[], (List.append_nil _).symm⟩, fun b o e => ⟨id, by
    by_cases q : b = a
    · subst q; obtain ⟨o', e'⟩ := hx; exact ⟨o', e', fun z => absurd ha z⟩
    · exact ⟨o, hs.extBut b o q e, fun _ => rfl⟩⟩⟩
theorem RV.step (s : StepM M αs h αs' h') (r : RV ρ αs v x) : RV ρ αs' v x := by obtain ⟨⟨m, rfl⟩, _⟩ := s; exact r.mono
theorem RVs.step (s : StepM M αs h αs' h') (r : RVs ρ αs vs xs) : RVs ρ αs' vs xs := by obtain ⟨⟨m, rfl⟩, _⟩ := s; exact r.mono

/-! the heap -/
theorem SR.lt (S : SR ρ H αs hp h) {i : Nat} {so : SO} (e : hp[i]? = some so) : ∃ a, αs[i]? = some a := by
  have := (List.getElem?_eq_some_iff.mp e).1
  exact ⟨αs[i]'(S.len ▸ this), by simp [S.len ▸ this]⟩
theorem SR.at (S : SR ρ H αs hp h) {i : Nat} {a : Addr} {so : SO} (e : αs[i]? = some a) (es : hp[i]? = some so) : ∃ o, h.get? a = some o ∧ RO ρ αs o so := S.real i a so e es
theorem SR.keeps (S : SR ρ H αs hp h) (k : ∀ b o, h.get? b = some o → h'.get? b = some o) : SR ρ H αs hp h' :=
  ⟨fun b o e => k _ _ (S.base b o e), S.len, fun i a so e1 e2 => let ⟨o, e, r⟩ := S.real i a so e1 e2; ⟨o, k _ _ e, r⟩, S.nodup, S.fresh, S.sys, S.top⟩
theorem SR.but (S : SR ρ H αs hp h) {c : Addr} (hs : Heap.SameBut c h h') (hc : c ∉ αs) (h0 : H.get? c = none) : SR ρ H αs hp h' :=
  ⟨fun b o e => hs.extBut b o (fun q => by subst q; rw [h0] at e; cases e) (S.base b o e), S.len, fun i a so e1 e2 => let ⟨o, e, r⟩ := S.real i a so e1 e2; ⟨o, hs.extBut a o (fun q => hc (q ▸ List.mem_of_getElem? e1)) e, r⟩, S.nodup, S.fresh, S.sys, S.top⟩
theorem SR.old {b : Addr} (S : SR ρ H αs hp h) (e : h.get? b = none) : H.get? b = none := by
  cases q : H.get? b with
  | none => rfl
  | some o => rw [S.base b o q] at e; cases e
theorem SR.in_h (S : SR ρ H αs hp h) {a : Addr} (m : a ∈ αs) : ∃ o, h.get? a = some o := by
  obtain ⟨i, e⟩ := List.getElem?_of_mem m
  have hi := (List.getElem?_eq_some_iff.mp e).1
  obtain ⟨o, e', _⟩ := S.real i a (hp[i]'(S.len ▸ hi)) e (by simp [S.len ▸ hi])
  exact ⟨o, e'⟩
/-- one more object, at an address that is no object's of the table's -/
theorem SR.add (S : SR ρ H αs hp h) {a : Addr} {o : Obj} (hn : a ∉ αs) (h0 : H.get? a = none) (hsys : so = .dict → a ≠ sysModules) (e : h.get? a = some o) (r : RO ρ αs o so) : SR ρ H (αs ++ [a]) (hp ++ [so]) h := by
  refine ⟨S.base, by simp [S.len], fun i b s e1 e2 => ?_, ?_, fun b hb => ?_, fun i b e1 e2 => ?_, S.top⟩
  · rcases Nat.lt_trichotomy i αs.length with hi | hi | hi
    · rw [List.getElem?_append_left hi] at e1
      rw [List.getElem?_append_left (S.len ▸ hi)] at e2
      obtain ⟨o', e', r'⟩ := S.real i b s e1 e2
      exact ⟨o', e', r'.mono⟩
    · subst hi
      rw [List.getElem?_append_right (Nat.le_refl _), Nat.sub_self] at e1
      rw [S.len, List.getElem?_append_right (Nat.le_refl _), Nat.sub_self] at e2
      cases e1; cases e2
      exact ⟨o, e, r.mono⟩
    · rw [List.getElem?_eq_none (by simp; omega)] at e1; cases e1
  · rw [List.nodup_append]
    exact ⟨S.nodup, by simp, fun b hb c hc q => by rw [List.mem_singleton] at hc; subst hc; subst q; exact hn hb⟩
  · rcases List.mem_append.mp hb with hb | hb
    · exact S.fresh b hb
    · rw [List.mem_singleton.mp hb]; exact h0
  · rcases Nat.lt_trichotomy i αs.length with hi | hi | hi
    · rw [List.getElem?_append_left hi] at e1
      rw [List.getElem?_append_left (S.len ▸ hi)] at e2
      exact S.sys i b e1 e2
    · subst hi
      rw [List.getElem?_append_right (Nat.le_refl _), Nat.sub_self] at e1
      rw [S.len, List.getElem?_append_right (Nat.le_refl _), Nat.sub_self] at e2
      cases e1; cases e2
      exact hsys rfl
    · rw [List.getElem?_eq_none (by simp; omega)] at e1; cases e1
theorem next_none (h : Heap) : h.get? h.objs.size = none := by
  cases q : h.get? h.objs.size with
  | none => rfl
  | some o => exact absurd (Heap.lt_size q) (Nat.lt_irrefl _)
theorem SR.next (S : SR ρ H αs hp h) : h.objs.size ∉ αs := fun m => by obtain ⟨o, e⟩ := S.in_h m; exact absurd (Heap.lt_size e) (Nat.lt_irrefl _)
theorem SR.szsys (S : SR ρ H αs hp h) : h.objs.size ≠ sysModules := fun q => by
  obtain ⟨o, e⟩ := S.top
  have := Heap.lt_size (S.base _ _ e)
  rw [q] at this
  exact absurd this (by decide)
theorem SR.alloc (S : SR ρ H αs hp h) (hf : o.isFreed = false) (r : RO ρ αs o so) : SR ρ H (αs ++ [h.objs.size]) (hp ++ [so]) (h.push o) :=
  (S.keeps fun _ _ e => Heap.get?_push_of_some _ e).add S.next (S.old (next_none h)) (fun _ => S.szsys) (Heap.get?_push_size _ hf) r
theorem StepM.alloc (hf : o.isFreed = false) : StepM M αs h (αs ++ [h.objs.size]) (h.push o) :=
  ⟨⟨_, rfl⟩, fun b o' e => ⟨(fun n m => by
    rcases List.mem_append.mp m with m | m
    · exact n m
    · rw [List.mem_singleton.mp m, next_none] at e; cases e), o', Heap.get?_push_of_some _ e, fun _ => rfl⟩⟩
theorem StepM.add {a : Addr} (s : StepM M αs h αs' h') (ha : ∀ o, h.get? a = some o → a ∈ αs) : StepM M αs h (αs' ++ [a]) h' := by
  obtain ⟨⟨m, rfl⟩, k⟩ := s
  refine ⟨⟨m ++ [a], by rw [List.append_assoc]⟩, fun b o e => ?_⟩
  obtain ⟨n1, r⟩ := k b o e
  refine ⟨fun n q => ?_, r⟩
  rcases List.mem_append.mp q with q | q
  · exact n1 n q
  · rw [List.mem_singleton.mp q] at e n; exact n (ha o e)

/-! frames -/
theorem IsCell.get {c : Addr} {v : Option Value} (k : h.IsCell c v) : ∃ o, h.get? c = some o := let ⟨o, e, _⟩ := k; ⟨o, e⟩
theorem Ns.get {a : Addr} {m : Str → Option Value} (k : h.Ns a m) : ∃ o, h.get? a = some o := let ⟨o, _, _, e, _⟩ := k; ⟨o, e⟩
theorem IsCell.at {c : Addr} {v : Option Value} (k : h.IsCell c v) (q : ∀ o, h.get? c = some o → h'.get? c = some o) : h'.IsCell c v := let ⟨o, e, d⟩ := k; ⟨o, q o e, d⟩
theorem FR.step (F : FR ρ H env αs vars h) (s : StepM M αs h αs' h') (hM : ∀ b ∈ fp env, b ∉ M) : FR ρ H env αs' vars h' := by
  obtain ⟨m, hn, hv⟩ := F.ns
  obtain ⟨oL, eL⟩ := Ns.get hn
  have cM : ∀ p ∈ env.cells, p.2 ∉ M := fun p hp => hM _ (List.mem_cons_of_mem _ (List.mem_map_of_mem hp))
  refine ⟨⟨s.off eL F.loc.1, F.loc.2⟩, fun p hp => ?_, F.inj, F.has, m, hn.at' fun o e => s.keep e (hM _ List.mem_cons_self), fun x sv e => ?_⟩
  · obtain ⟨n, n0, ne, v, hc⟩ := F.cel p hp
    obtain ⟨o, e⟩ := IsCell.get hc
    exact ⟨s.off e n, n0, ne, v, IsCell.at hc fun o e => s.keep e (cM p hp)⟩
  · rcases hv x sv e with q | ⟨v, b, r⟩
    · exact .inl q
    · refine .inr ⟨v, ?_, r.step s⟩
      rcases b with b | ⟨b1, c, b2, b3⟩
      · exact .inl b
      · have hp : (x, c) ∈ env.cells := PySem.mem_of_lookup b2
        exact .inr ⟨b1, c, b2, IsCell.at b3 fun o e => s.keep e (cM _ hp)⟩
theorem FR.step0 (F : FR ρ H env αs vars h) (s : StepM [] αs h αs' h') : FR ρ H env αs' vars h' := F.step s fun _ _ q => nomatch q
theorem FR.addr (F : FR ρ H env αs vars h) {b : Addr} (hb : b ∈ fp env) : b ∉ αs ∧ H.get? b = none ∧ ∃ o, h.get? b = some o := by
  rcases List.mem_cons.mp hb with rfl | hb
  · obtain ⟨m, hn, _⟩ := F.ns
    exact ⟨F.loc.1, F.loc.2, Ns.get hn⟩
  · obtain ⟨p, hp, rfl⟩ := List.mem_map.mp hb
    obtain ⟨n, n0, _, v, hc⟩ := F.cel p hp
    exact ⟨n, n0, IsCell.get hc⟩
end
end Mine
end SD3
section SD4
open PySem PySem.W PySem.Calls PyProof.Rows
namespace Mine
section
variable {ρ : Nat → Int} {H : Heap} {αs αs' αs'' more : List Addr} {v : Value} {vs : List Value} {x sv : SV} {xs : List SV} {o : Obj} {so : SO} {hp hp' : Hp} {h h' h'' : Heap} {M : List Addr} {env : Env} {vars : Vars}
theorem get_cut {i : Nat} {a : Addr} (e : (αs ++ more)[i]? = some a) (hi : i < αs.length) : αs[i]? = some a := by
  rw [List.getElem?_append_left hi] at e; exact e
theorem RV.cut (r : RV ρ (αs ++ more) v x) (w : wfV αs.length x = true) : RV ρ αs v x := by
  cases x with
  | ref i => obtain ⟨a, e, rfl⟩ := r; exact ⟨a, get_cut e (of_decide_eq_true w), rfl⟩
  | _ => exact r
theorem RVs.cut : ∀ {vs : List Value} {xs : List SV}, RVs ρ (αs ++ more) vs xs → xs.all (wfV αs.length) = true → RVs ρ αs vs xs
  | [], [], _, _ => trivial
  | _ :: _, _ :: _, r, w => by
    rw [List.all_cons, Bool.and_eq_true] at w
    exact ⟨r.1.cut w.1, RVs.cut r.2 w.2⟩
  | [], _ :: _, r, _ => r.elim
  | _ :: _, [], r, _ => r.elim
theorem RO.cut (r : RO ρ (αs ++ more) o so) (w : wfO αs.length so = true) : RO ρ αs o so := by
  cases so with
  | list xs => obtain ⟨vs, n, e, q⟩ := r; exact ⟨vs, n, e, q.cut w⟩
  | tup xs => obtain ⟨vs, n, e, q⟩ := r; exact ⟨vs, n, e, q.cut w⟩
  | dict => exact r
  | flist b => exact r
theorem SR.cut (S : SR ρ H (αs ++ more) hp h) (w : (hp.take αs.length).all (wfO αs.length) = true) : SR ρ H αs (hp.take αs.length) h := by
  have hl : αs.length ≤ hp.length := by have := S.len; rw [List.length_append] at this; omega
  refine ⟨S.base, by rw [List.length_take]; omega, fun i a s e1 e2 => ?_, (List.nodup_append.mp S.nodup).1, fun a ha => S.fresh a (List.mem_append_left _ ha), fun i a e1 e2 => ?_, S.top⟩
  rotate_left
  · have hi := (List.getElem?_eq_some_iff.mp e1).1
    exact S.sys i a (get_pre e1) (by rw [List.getElem?_take] at e2; simpa [hi] using e2)
  have hi := (List.getElem?_eq_some_iff.mp e1).1
  have e2' : hp[i]? = some s := by rw [List.getElem?_take] at e2; simpa [hi] using e2
  obtain ⟨o, eo, r⟩ := S.real i a s (get_pre e1) e2'
  exact ⟨o, eo, r.cut (List.all_eq_true.mp w s (List.mem_of_getElem? e2))⟩
theorem StepM.sub (s : StepM M αs h αs' h') (e : ∃ m, αs'' = αs ++ m) (k : ∀ b ∈ αs'', b ∈ αs') : StepM M αs h αs'' h' :=
  ⟨e, fun b o eb => let ⟨n1, r⟩ := s.2 b o eb; ⟨fun n q => n1 n (k b q), r⟩⟩
theorem shrinkB_ok (s : StepM M αs h αs' h') (S : SR ρ H αs' hp' h') (hn : αs.length = n) : ∃ αs'', StepM M αs h αs'' h' ∧ SR ρ H αs'' (shrinkB n hp') h' := by
  subst hn
  unfold shrinkB
  split
  · exact ⟨αs', s, S⟩
  split
  · rename_i w
    obtain ⟨⟨m, rfl⟩, _⟩ := id s
    exact ⟨αs, s.sub ⟨[], (List.append_nil _).symm⟩ fun b q => List.mem_append_left _ q, S.cut w⟩
  · exact ⟨αs', s, S⟩
theorem shrink_ok {r : SV × Hp} (s : StepM M αs h αs' h') (S : SR ρ H αs' r.2 h') (R : RV ρ αs' v r.1) (hn : αs.length = n) :
    ∃ αs'', StepM M αs h αs'' h' ∧ SR ρ H αs'' (shrink n r).2 h' ∧ RV ρ αs'' v (shrink n r).1 := by
  subst hn
  unfold shrink
  split
  · exact ⟨αs', s, S, R⟩
  split
  · rename_i w
    obtain ⟨⟨m, rfl⟩, _⟩ := id s
    have base : StepM M αs h αs h' := s.sub ⟨[], (List.append_nil _).symm⟩ fun b q => List.mem_append_left _ q
    have Sc := S.cut w
    split
    · rename_i i hi
      rw [hi] at R
      split
      · rename_i lt
        exact ⟨αs, base, Sc, by rw [hi]; exact R.cut (by simpa [wfV] using lt)⟩
      · rename_i nlt
        split
        · rename_i so hso
          split
          · rename_i w2
            obtain ⟨a, ea, rfl⟩ := R
            have hna : a ∉ αs := fun q => by
              obtain ⟨j, ej⟩ := List.getElem?_of_mem q
              have hj := (List.getElem?_eq_some_iff.mp ej).1
              have hii := (List.getElem?_eq_some_iff.mp ea).1
              have : i = j := (List.getElem?_inj hii S.nodup).mp (ea.trans (get_pre ej).symm)
              omega
            obtain ⟨o, eo, ro⟩ := S.real i a so ea hso
            refine ⟨αs ++ [a], s.sub ⟨_, rfl⟩ fun b q => ?_, Sc.add hna (S.fresh a (List.mem_of_getElem? ea)) (fun z => S.sys i a ea (z ▸ hso)) eo (ro.cut w2), a, ?_, rfl⟩
            · rcases List.mem_append.mp q with q | q
              · exact List.mem_append_left _ q
              · rw [List.mem_singleton.mp q]; exact List.mem_of_getElem? ea
            · rw [List.getElem?_append_right (Nat.le_refl _), Nat.sub_self]; rfl
          · exact ⟨_, s, S, by rw [hi]; exact R⟩
        · exact ⟨_, s, S, by rw [hi]; exact R⟩
    · rename_i hni
      refine ⟨αs, base, Sc, ?_⟩
      refine R.cut ?_
      cases hx : r.1 with
      | ref i => exact absurd hx (hni i)
      | _ => rfl
  · exact ⟨αs', s, S, R⟩
/-! names -/
theorem lookup_setV (vars : Vars) (x : Str) (sv : SV) (y : Str) : (setV vars x sv).lookup y = if y = x then some sv else vars.lookup y := by
  unfold setV
  by_cases hy : y = x
  · subst hy; simp
  · have hb : (y == x) = false := by simpa using hy
    rw [List.lookup_cons, hb, if_neg hy]
    show List.lookup y (vars.filter fun p => !(p.1 == x)) = _
    induction vars with
    | nil => rfl
    | cons p r ih =>
      obtain ⟨z, w⟩ := p
      by_cases hz : z = x
      · subst hz
        rw [List.filter_cons]
        simp only [beq_self_eq_true, Bool.not_true, Bool.false_eq_true, if_false]
        rw [ih, List.lookup_cons, hb]
      · have : (z == x) = false := by simpa using hz
        rw [List.filter_cons]
        simp only [this, Bool.not_false, if_true]
        rw [List.lookup_cons, List.lookup_cons, ih]
theorem NsNe {a : Addr} {m : Str → Option Value} (_k : h.Ns a m) : True := trivial
/-- a local name stored -/
theorem FR.stL {x : Str} {m : Str → Option Value} (F : FR ρ H env αs vars h) (hv : ∀ y sv, vars.lookup y = some sv → sv = .junk ∨ ∃ v, BV env h m y v ∧ RV ρ αs v sv)
    (hx : env.kindOf x = some .local) (r : RV ρ αs v sv) (hn : h'.Ns env.locals (fun y => if y = x then some v else m y)) (hs : Heap.SameBut env.locals h h') : FR ρ H env αs (setV vars x sv) h' := by
  have cc : ∀ p ∈ env.cells, ∀ v, h.IsCell p.2 v → h'.IsCell p.2 v := fun p hp v k => IsCell.at k fun o e => hs.extBut _ _ (F.cel p hp).2.2.1 e
  refine ⟨F.loc, fun p hp => ?_, F.inj, F.has, _, hn, fun y sy e => ?_⟩
  · obtain ⟨n, n0, ne, v, hc⟩ := F.cel p hp
    exact ⟨n, n0, ne, v, cc p hp v hc⟩
  · rw [lookup_setV] at e
    by_cases hy : y = x
    · subst hy
      rw [if_pos rfl] at e; cases e
      exact .inr ⟨v, .inl ⟨hx, if_pos rfl⟩, r⟩
    · rw [if_neg hy] at e
      rcases hv y sy e with q | ⟨w, b, r'⟩
      · exact .inl q
      · refine .inr ⟨w, ?_, r'⟩
        rcases b with ⟨b1, b2⟩ | ⟨b1, c, b2, b3⟩
        · exact .inl ⟨b1, by show (if y = x then some v else m y) = some w; rw [if_neg hy]; exact b2⟩
        · exact .inr ⟨b1, c, b2, cc (y, c) (PySem.mem_of_lookup b2) _ b3⟩
/-- a cell's name stored -/
theorem FR.stC {x : Str} {c : Addr} (F : FR ρ H env αs vars h) (hx : env.kindOf x = some .cell) (hc : env.cells.lookup x = some c) (r : RV ρ αs v sv) (hn : h'.IsCell c (some v)) (hs : Heap.SameBut c h h') : FR ρ H env αs (setV vars x sv) h' := by
  obtain ⟨m, hm, hv⟩ := F.ns
  have hcm : (x, c) ∈ env.cells := PySem.mem_of_lookup hc
  have hcl := (F.cel _ hcm).2.2.1
  refine ⟨F.loc, fun p hp => ?_, F.inj, F.has, m, hm.at' fun o e => hs.extBut _ _ (Ne.symm hcl) e, fun y sy e => ?_⟩
  · obtain ⟨n, n0, ne, v', hc'⟩ := F.cel p hp
    refine ⟨n, n0, ne, ?_⟩
    by_cases q : p.2 = c
    · exact ⟨_, q ▸ hn⟩
    · exact ⟨v', IsCell.at hc' fun o e => hs.extBut _ _ q e⟩
  · rw [lookup_setV] at e
    by_cases hy : y = x
    · subst hy
      rw [if_pos rfl] at e; cases e
      exact .inr ⟨v, .inr ⟨hx, c, hc, hn⟩, r⟩
    · rw [if_neg hy] at e
      rcases hv y sy e with q | ⟨w, b, r'⟩
      · exact .inl q
      · refine .inr ⟨w, ?_, r'⟩
        rcases b with b | ⟨b1, c', b2, b3⟩
        · exact .inl b
        · refine .inr ⟨b1, c', b2, IsCell.at b3 fun o e => hs.extBut _ _ (fun q => hy ?_) e⟩
          exact F.inj (y, c') (PySem.mem_of_lookup b2) (x, c) hcm q
end
end Mine
end SD4
section SD5
open PySem PySem.W PySem.Calls PyProof.Rows
namespace Mine
/-- what stands on the top: the defs' part, the two namespaces, the built-ins that the text asks for -/
structure Gd (K : Frag) (H : Heap) (mg mb : Str → Option Value) : Prop where
  X : K.In H
  g : H.Ns mainGlobals mg
  b : H.Ns builtinsNs mb
  lim : H.NoLimit
  len : mg (Str.ofString "len") = none ∧ mb (Str.ofString "len") = some (.builtin "len")
  min : mg (Str.ofString "min") = none ∧ mb (Str.ofString "min") = some (.builtin "min")
  max : mg (Str.ofString "max") = none ∧ mb (Str.ofString "max") = some (.builtin "max")
  sum : mg (Str.ofString "sum") = none ∧ mb (Str.ofString "sum") = some (.builtin "sum")
  range : mg (Str.ofString "range") = none ∧ mb (Str.ofString "range") = some (.type "range")
  zip : mg (Str.ofString "zip") = none ∧ mb (Str.ofString "zip") = some (.type "zip")
  enumerate : mg (Str.ofString "enumerate") = none ∧ mb (Str.ofString "enumerate") = some (.type "enumerate")
structure AOk (d : Nat) (A : Around) : Prop where
  hh : A.handled = none
  dp : A.depth + d < recursionLimit
  un : A.units + 3 * d + 60 < cLine
section
variable {prog : Program} {w : World} {A : Around} {K : Frag} {H : Heap} {mg mb : Str → Option Value} {ρ : Nat → Int} {αs αs' : List Addr} {hp hp' : Hp} {vars vars' : Vars} {ks : Kinds} {env : Env} {h h' : Heap} {g : Array GenState} {d : Drawn} {t : Nat} {o : OsState} {v : Value} {sv : SV}
theorem EK.kindOf (k : EK env ks) (x : Str) : env.kindOf x = ks.lookup x := by show env.scope.names.lookup x = _; rw [k.names]
theorem canSet_cases {x : Str} (c : canSet ks x = true) : ks.lookup x = some .local ∨ ks.lookup x = some .cell := by
  unfold canSet at c
  split at c
  · rename_i e; exact .inl e
  · rename_i e; exact .inr e
  · cases c
theorem name_ok {x : Str} {pos : Pos} {Q E} (k : EK env ks) (F : FR ρ H env αs vars h) (hd : (x == Str.ofString "__debug__") = false) (hl : vars.lookup x = some sv) (hj : sv ≠ .junk)
    (hQ : ∀ v, RV ρ αs v sv → Q v ⟨h, g, d, t, o⟩) : wpAny (model prog w) A (eval (.Name x pos) env) Q E ⟨h, g, d, t, o⟩ := by
  obtain ⟨m, hn, hv⟩ := F.ns
  rcases hv x sv hl with q | ⟨v, b, r⟩
  · exact absurd q hj
  · refine wpAny_Name ?_ hd
    rcases b with ⟨b1, b2⟩ | ⟨b1, c, b2, b3⟩
    · exact wpAny_loadName_local k.kind b1 hn b2 (hQ v r)
    · exact wpAny_loadName_cell k.kind b1 b2 b3 (hQ v r)
theorem store_ok {x : Str} {Q : Unit → Shared → Prop} {E} (k : EK env ks) (S : SR ρ H αs hp h) (F : FR ρ H env αs vars h) (hc : canSet ks x = true) (r : RV ρ αs v sv)
    (hQ : ∀ h' t', StepM (fp env) αs h αs h' → SR ρ H αs hp h' → FR ρ H env αs (setV vars x sv) h' → Q () ⟨h', g, d, t', o⟩) : wpAny (model prog w) A (storeName env x v) Q E ⟨h, g, d, t, o⟩ := by
  rcases canSet_cases hc with hx | hx
  · have hx' : env.kindOf x = some .local := (k.kindOf x).trans hx
    obtain ⟨m, hn, hv⟩ := F.ns
    refine wpAny_storeName_local hx' hn (fun h' hn' hs => ?_) (by rw [k.kind]; rfl)
    have hg := Ns.get hn'
    exact hQ h' _ (StepM.but List.mem_cons_self hs hg) (S.but hs F.loc.1 F.loc.2) (F.stL hv hx' r hn' hs)
  · have hx' : env.kindOf x = some .cell := (k.kindOf x).trans hx
    obtain ⟨c, hcl⟩ := F.has x hx'
    have hm : (x, c) ∈ env.cells := PySem.mem_of_lookup hcl
    obtain ⟨n, n0, _, v0, hc0⟩ := F.cel _ hm
    refine wpAny_storeName_cell k.kind hx' hcl hc0 fun h' hv' hs => ?_
    exact hQ h' _ (StepM.but (List.mem_cons_of_mem _ (List.mem_map_of_mem hm)) hs (IsCell.get hv')) (S.but hs n n0) (F.stC hx' hcl r hv' hs)
theorem bind_ok {x : Str} {pos : Pos} {Q : Unit → Shared → Prop} {E} (k : EK env ks) (S : SR ρ H αs hp h) (F : FR ρ H env αs vars h) (hc : canSet ks x = true) (r : RV ρ αs v sv)
    (hQ : ∀ h' t', StepM (fp env) αs h αs h' → SR ρ H αs hp h' → FR ρ H env αs (setV vars x sv) h' → Q () ⟨h', g, d, t', o⟩) : wpAny (model prog w) A (assign (.Name x pos) env v) Q E ⟨h, g, d, t, o⟩ :=
  wpAny_assign_Name (store_ok k S F hc r hQ)
theorem each_Name (x : Str) (p : Pos) (es : List Expr) (env : Env) : assignEach (.Name x p :: es) env = (false, fun v => assign (.Name x p) env v) :: assignEach es env := rfl
theorem setAll_nil {xs : List SV} (e : setAll ks vars [] xs = some vars') : xs = [] ∧ vars' = vars := by
  cases xs with
  | nil => simp only [setAll] at e; cases e; exact ⟨rfl, rfl⟩
  | cons a r => simp [setAll] at e
theorem setAll_cons {e : Expr} {es : List Expr} {xs : List SV} (q : setAll ks vars (e :: es) xs = some vars') :
    ∃ x p sv xs', e = .Name x p ∧ xs = sv :: xs' ∧ canSet ks x = true ∧ setAll ks (setV vars x sv) es xs' = some vars' := by
  unfold setAll at q
  split at q
  · rename_i h; cases h
  · rename_i x p es' sv xs' h
    cases h
    split at q
    · rename_i hc; exact ⟨x, p, sv, xs', rfl, rfl, hc, q⟩
    · cases q
  · cases q
theorem setAll_ok (k : EK env ks) (es : List Expr) : ∀ {vars vars' : Vars} {xs : List SV} {vs : List Value} {h : Heap} {t : Nat} {Q : Unit → Shared → Prop} {E}, setAll ks vars es xs = some vars' → SR ρ H αs hp h → FR ρ H env αs vars h → RVs ρ αs vs xs →
    (∀ h' t', StepM (fp env) αs h αs h' → SR ρ H αs hp h' → FR ρ H env αs vars' h' → Q () ⟨h', g, d, t', o⟩) → wpAny (model prog w) A (assignInOrder ((assignEach es env).map (·.2)) vs) Q E ⟨h, g, d, t, o⟩ := by
  induction es with
  | nil =>
    intro vars vars' xs vs h t Q E e S F r hQ
    obtain ⟨rfl, rfl⟩ := setAll_nil e
    cases vs with
    | nil => exact assignInOrder_nil (hQ h t StepM.refl S F)
    | cons a l => exact r.elim
  | cons e0 es ih =>
    intro vars vars' xs vs h t Q E e S F r hQ
    obtain ⟨x, p, sv, xs', rfl, rfl, hc, e'⟩ := setAll_cons e
    cases vs with
    | nil => exact r.elim
    | cons v vs =>
      rw [each_Name]
      refine assignInOrder_cons (bind_ok k S F hc r.1 fun h' t' s S' F' => ?_)
      exact ih e' S' F' r.2 fun h'' t'' s' S'' F'' => hQ h'' t'' (s.trans s') S'' F''
theorem setAll_star (es : List Expr) : ∀ {vars vars' : Vars} {xs : List SV}, setAll ks vars es xs = some vars' → (assignEach es env).length = xs.length ∧ (assignEach es env).findIdx? (·.1) = none := by
  induction es with
  | nil => intro vars vars' xs e; obtain ⟨rfl, _⟩ := setAll_nil e; exact ⟨rfl, rfl⟩
  | cons e0 es ih =>
    intro vars vars' xs e
    obtain ⟨x, p, sv, xs', rfl, rfl, hc, e'⟩ := setAll_cons e
    obtain ⟨a, b⟩ := ih e'
    rw [each_Name]
    refine ⟨by rw [List.length_cons, List.length_cons, a], ?_⟩
    rw [List.findIdx?_cons]
    simp [b]
end
end Mine
end SD5
section SD6a
open PySem PySem.W PySem.Calls PyProof.Rows
open PySem.SeqAt PySem.AutoSeq1 PySem.MeetsSeq PySem.MeetsSeq2 PySem.MeetsSeq3 PySem.SeqRoads2
namespace Mine
theorem rc_lt {prog : Program} {w : World} {A : Around} {E : Value → Shared → Prop} {s : Shared} {a b : Int} {t u : Tok} {Q : Value → Shared → Prop} (h : Q (.bool (decide (a < b))) s) : wpAny (model prog w) A (richCompare .Lt (.int a t) (.int b u)) Q E s := PyProof.Rows.lt_int h
theorem tuple_lt2 (l b : Addr) (x1 y1 x2 y2 : Int) (t1 u1 t2 u2 : Tok) (n n2 : Nat) (dd dd2 : Option Addr) (sl sl2 : Array (Option Value)) :
    Meets (Builtin.«tuple.__lt__» ⟨[.ref l, .ref b], []⟩)
      (fun A R s => s.heap.get? l = some { cls := .type "tuple", dict := dd, data := .seq #[.int x1 t1, .int y1 u1] n, slots := sl } ∧ s.heap.get? b = some { cls := .type "tuple", dict := dd2, data := .seq #[.int x2 t2, .int y2 u2] n2, slots := sl2 } ∧
        R (.ok (.ret (.bool (ltT x1 y1 x2 y2)))) s) :=
  .of_wp fun prog w A R s h => by
    obtain ⟨hp, g, d, tk, os⟩ := s; obtain ⟨hl, hb, h⟩ := h
    have f2 := AutoSeq1.sub_tuple_tuple
    wp_walk using wpAny_loadPart' hl, wpAny_loadPart' hb, wpAny_forIn_list _ (fun rest b s' => b.1 = none ∧ s' = ⟨hp, g, d, tk, os⟩ ∧
      (rest = [(Value.int x1 t1, Value.int x2 t2), (Value.int y1 u1, Value.int y2 u2)] ∨ (rest = [(Value.int y1 u1, Value.int y2 u2)] ∧ x1 = x2) ∨ (rest = [] ∧ x1 = x2 ∧ y1 = y2))) _
    case turn =>
      rintro ⟨y, x⟩ rest b s' ⟨hb', rfl, hr⟩
      rcases hr with hr | ⟨hr, hx⟩ | ⟨hr, _⟩
      · injection hr with h1 h2
        injection h1 with h1 h3
        subst h1 h3 h2
        refine wpAny_bind (EqGives.int x1 x2 t1 t2 _ _ _ _ _ _ ?_)
        cases he : (x1 == x2) with
        | true =>
          wp_walk
          exact ⟨rfl, rfl, .inr (.inl ⟨rfl, by simpa using he⟩)⟩
        | false =>
          wp_walk using rc_lt
          refine ⟨_, rfl, ?_⟩
          have hn : x1 ≠ x2 := by simpa using he
          have : ltT x1 y1 x2 y2 = decide (x1 < x2) := by simp [ltT, hn]
          rw [this] at h
          exact h
      · injection hr with h1 h2
        injection h1 with h1 h3
        subst h1 h3 h2
        refine wpAny_bind (EqGives.int y1 y2 u1 u2 _ _ _ _ _ _ ?_)
        cases he : (y1 == y2) with
        | true =>
          wp_walk
          exact ⟨rfl, rfl, .inr (.inr ⟨rfl, hx, by simpa using he⟩)⟩
        | false =>
          wp_walk using rc_lt
          refine ⟨_, rfl, ?_⟩
          have : ltT x1 y1 x2 y2 = decide (y1 < y2) := by simp [ltT, hx]
          rw [this] at h
          exact h
      · cases hr
    case fin =>
      rintro ⟨b1, b2⟩ s' ⟨hb', rfl, hr⟩
      simp only at hb'
      subst hb'
      rcases hr with hr | ⟨hr, hx⟩ | ⟨_, hx, hy⟩
      · cases hr
      · cases hr
      · wp_walk
        have : ltT x1 y1 x2 y2 = false := by simp [ltT, hx, hy]
        rw [this] at h
        exact ⟨_, rfl, by simpa [Builtin.Tuple.tupleCompareSizes] using h⟩
    case h =>
      exact ⟨rfl, rfl, .inl rfl⟩
end Mine
end SD6a
section SD6
open PySem PySem.W PySem.Calls PyProof.Rows
open PySem.SeqAt PySem.MeetsSeq
namespace Mine
section
variable {prog : Program} {w : World} {A : Around} {K : Frag} {H : Heap} {ρ : Nat → Int} {αs αs' : List Addr} {hp hp' : Hp} {h h' : Heap} {g : Array GenState} {d : Drawn} {t : Nat} {o : OsState} {v va vb : Value} {sv a b : SV} {s : Shared}
/-! ### ints -/
theorem bin_ok {op : Operator} {Q : Value → Shared → Prop} {E} (hρ : ∀ i, -4 ≤ ρ i ∧ ρ i ≤ 4) (e : binS op a b = some sv) (ra : RV ρ αs va a) (rb : RV ρ αs vb b)
    (hQ : ∀ v t', RV ρ αs v sv → Q v ⟨h, g, d, t', o⟩) : wpAny (model prog w) A (binaryOp op va vb) Q E ⟨h, g, d, t, o⟩ := by
  unfold binS at e
  split at e
  · cases e
    obtain ⟨t1, rfl⟩ := ra
    obtain ⟨t2, rfl⟩ := rb
    exact PyProof.Rows.add_int (hQ _ _ ⟨_, by rw [den_mkAdd]⟩)
  · cases e
    obtain ⟨t1, rfl⟩ := ra
    obtain ⟨t2, rfl⟩ := rb
    exact PyProof.Rows.sub_int (hQ _ _ ⟨_, by rw [den_mkSub]⟩)
  · split at e
    · rename_i a' b' hb
      cases e
      obtain ⟨t1, rfl⟩ := ra
      obtain ⟨t2, rfl⟩ := rb
      have hbd := bd_ok hρ a'
      have e60 : (2 : Nat) ^ 60 = 1152921504606846976 := by decide
      rw [e60] at hb
      exact PyProof.Rows.mul_int (hQ _ _ ⟨_, by rw [den_mkMul]⟩) (.of_left (intBits_le_64 (by omega) (by omega)))
    · cases e
  · split at e
    · rename_i a' b' hb
      cases e
      obtain ⟨t1, rfl⟩ := ra
      obtain ⟨t2, rfl⟩ := rb
      refine PyProof.Rows.floordiv_int ?_ (hQ _ _ ⟨_, rfl⟩) (.inl (PyProof.noPylong_small ?_))
      · show b' ≠ 0
        omega
      · show b'.natAbs < _
        omega
    · cases e
  · cases e
/-! ### comparing -/
theorem eqVs_ok (ρ : Nat → Int) {eq : SV → SV → Option BE} : ∀ {xs ys : List SV} {be : BE}, eqVs eq xs ys = some be →
    xs.length = ys.length ∧ ∃ e : Nat → Bool, be.den ρ = (List.range xs.length).all e ∧ ∀ (j : Nat) x y, xs[j]? = some x → ys[j]? = some y → ∃ bj, eq x y = some bj ∧ bj.den ρ = e j
  | [], [], be, q => by
    cases q
    exact ⟨rfl, fun _ => true, rfl, fun j x y h => by simp at h⟩
  | x :: xs, y :: ys, be, q => by
    unfold eqVs at q
    cases h1 : eq x y with
    | none => rw [h1] at q; cases q
    | some b1 =>
      cases h2 : eqVs eq xs ys with
      | none => rw [h1, h2] at q; cases q
      | some b2 =>
        rw [h1, h2] at q
        cases q
        obtain ⟨hl, e, hd, hj⟩ := eqVs_ok ρ h2
        refine ⟨by rw [List.length_cons, List.length_cons, hl], fun j => match j with | 0 => b1.den ρ | j + 1 => e j, ?_, fun j x' y' hx hy => ?_⟩
        · rw [den_mkAnd, hd, List.length_cons, List.range_succ_eq_map, List.all_cons, List.all_map]
          rfl
        · cases j with
          | zero => cases hx; cases hy; exact ⟨b1, h1, rfl⟩
          | succ j => exact hj j x' y' hx hy
  | [], _ :: _, _, q => by cases q
  | _ :: _, [], _, q => by cases q
theorem eqV_ok {be : BE} (q : eqV a b = some be) (ra : RV ρ αs va a) (rb : RV ρ αs vb b) : EqAt A s va vb (be.den ρ) := by
  unfold eqV at q
  split at q
  · cases q
    obtain ⟨t1, rfl⟩ := ra
    obtain ⟨t2, rfl⟩ := rb
    rw [den_mkNot, den_mkNe, Bool.not_not]
    exact (EqGives.int _ _ _ _).at A s
  · cases q
theorem SR.ne (S : SR ρ H αs hp h) {i j : Nat} {x y : Addr} (hx : αs[i]? = some x) (hy : αs[j]? = some y) (n : i ≠ j) : x ≠ y := fun q => by
  subst q
  exact n ((List.getElem?_inj (List.getElem?_eq_some_iff.mp hx).1 S.nodup).mp (hx.trans hy.symm))
theorem lO_list {a : Addr} {vs : List Value} {n : Nat} (e : h.get? a = some (lO vs n)) : h.IsList a vs.toArray := ⟨_, e, rfl, n, rfl⟩
theorem tO_tuple {a : Addr} {vs : List Value} {n : Nat} (e : h.get? a = some (tO vs n)) : h.IsTuple a vs.toArray := ⟨_, e, rfl, n, rfl⟩
theorem items_eq {vs ws : List Value} {xs ys : List SV} {e : Nat → Bool} {eq : SV → SV → Option BE} (rv : RVs ρ αs vs xs) (rw_ : RVs ρ αs ws ys) (hj : ∀ (j : Nat) x y, xs[j]? = some x → ys[j]? = some y → ∃ bj, eq x y = some bj ∧ bj.den ρ = e j)
    (hE : ∀ x y va vb bj, eq x y = some bj → RV ρ αs va x → RV ρ αs vb y → EqAt A s va vb (bj.den ρ)) :
    ∀ j (h1 : j < vs.toArray.size) (h2 : j < ws.toArray.size), EqAt A s vs.toArray[j] ws.toArray[j] (e j) := fun j h1 h2 => by
  have l1 := rv.length
  have l2 := rw_.length
  simp only [List.size_toArray] at h1 h2
  obtain ⟨v1, e1, r1⟩ := rv.get (i := j) (x := xs[j]'(by omega)) (by simp)
  obtain ⟨v2, e2, r2⟩ := rw_.get (i := j) (x := ys[j]'(by omega)) (by simp)
  obtain ⟨bj, q1, q2⟩ := hj j _ _ (List.getElem?_eq_getElem (by omega)) (List.getElem?_eq_getElem (by omega))
  have := hE _ _ v1 v2 bj q1 r1 r2
  rw [q2] at this
  have a1 : vs.toArray[j] = v1 := by
    rw [List.getElem?_eq_getElem (by omega)] at e1
    simpa using e1
  have a2 : ws.toArray[j] = v2 := by
    rw [List.getElem?_eq_getElem (by omega)] at e2
    simpa using e2
  rw [a1, a2]
  exact this
theorem eqE_ok (S : SR ρ H αs hp h) (n : Nat) : ∀ (A : Around) (a b : SV) (va vb : Value) (be : BE), eqO hp n a b = some be → RV ρ αs va a → RV ρ αs vb b → A.units + n < cLine → EqAt A ⟨h, g, d, t, o⟩ va vb (be.den ρ) := by
  induction n with
  | zero => intro A a b va vb be q ra rb _; unfold eqO at q; exact eqV_ok q ra rb
  | succ n ih =>
    intro A a b va vb be q ra rb hu
    unfold eqO at q
    split at q
    · cases ‹_ + 1 = 0›
    · rename_i i j _
      cases ‹n + 1 = _ + 1›
      split at q
      · cases q
      · rename_i hij
        obtain ⟨x, hx, rfl⟩ := ra
        obtain ⟨y, hy, rfl⟩ := rb
        refine EqAt.of_refs (S.ne hx hy hij) ?_
        split at q
        · rename_i xs ys h1 h2
          obtain ⟨ox, ex, rx⟩ := S.at hx h1
          obtain ⟨oy, ey, ry⟩ := S.at hy h2
          obtain ⟨vs, n1, rfl, rvs⟩ := rx
          obtain ⟨ws, n2, rfl, rws⟩ := ry
          split at q
          · rename_i hl
            obtain ⟨_, e, hd, hj⟩ := eqVs_ok ρ q
            have := RcAt.lists (A := A) (s := ⟨h, g, d, t, o⟩) (e := e) (lO_list ex) (lO_list ey) (by simp [rvs.length, rws.length, hl]) (by omega)
              (items_eq rvs rws hj fun x y va vb bj q r1 r2 => ih A.in1 x y va vb bj q r1 r2 (by show A.units + 1 + n < _; omega))
            rw [hd]
            rw [List.size_toArray, rvs.length] at this
            exact this
          · rename_i hl
            cases q
            exact RcAt.lists_lengths (A := A) (s := ⟨h, g, d, t, o⟩) (lO_list ex) (lO_list ey) (by simp [rvs.length, rws.length, hl]) (by omega)
        · rename_i xs ys h1 h2
          obtain ⟨ox, ex, rx⟩ := S.at hx h1
          obtain ⟨oy, ey, ry⟩ := S.at hy h2
          obtain ⟨vs, n1, rfl, rvs⟩ := rx
          obtain ⟨ws, n2, rfl, rws⟩ := ry
          split at q
          · rename_i hl
            obtain ⟨_, e, hd, hj⟩ := eqVs_ok ρ q
            have := RcAt.tuples (A := A) (s := ⟨h, g, d, t, o⟩) (e := e) (tO_tuple ex) (tO_tuple ey) (by omega)
              (items_eq rvs rws hj fun x y va vb bj q r1 r2 => ih A.in1 x y va vb bj q r1 r2 (by show A.units + 1 + n < _; omega))
            rw [hd]
            rw [List.size_toArray, List.size_toArray, rvs.length, rws.length, ← hl, Nat.min_self] at this
            simpa using this
          · cases q
        · rename_i be' h1 h2
          cases q
          obtain ⟨ox, ex, rx⟩ := S.at hx h1
          obtain ⟨oy, ey, ry⟩ := S.at hy h2
          obtain ⟨vs, n1, rfl, hb, _⟩ := rx
          obtain ⟨ws, n2, rfl, rws⟩ := ry
          have hw : ws = [] := List.eq_nil_of_length_eq_zero (by rw [rws.length]; rfl)
          subst hw
          cases vs with
          | nil =>
            have := RcAt.lists (A := A) (s := ⟨h, g, d, t, o⟩) (e := fun _ => true) (lO_list ex) (lO_list ey) rfl (by omega) (fun j h1 => by simp at h1)
            rw [hb.mpr rfl]
            exact this
          | cons v vs =>
            have : be.den ρ = false := by
              cases hq : be.den ρ with
              | false => rfl
              | true => exact nomatch hb.mp hq
            rw [this]
            exact RcAt.lists_lengths (A := A) (s := ⟨h, g, d, t, o⟩) (lO_list ex) (lO_list ey) (by simp) (by omega)
        · cases q
    · exact eqV_ok q ra rb
theorem eqO_ok (S : SR ρ H αs hp h) {be : BE} {Q : Value → Shared → Prop} {E} (q : eqO hp 2 a b = some be) (ra : RV ρ αs va a) (rb : RV ρ αs vb b) (hu : A.units + 5 < cLine) (hQ : Q (.bool (be.den ρ)) ⟨h, g, d, t, o⟩) :
    wpAny (model prog w) A (compareOp .Eq va vb) Q E ⟨h, g, d, t, o⟩ := by
  unfold eqO at q
  split at q
  · cases ‹_ + 1 = 0›
  · rename_i n i j hn
    cases hn
    split at q
    · cases q
    · rename_i hij
      obtain ⟨x, hx, rfl⟩ := ra
      obtain ⟨y, hy, rfl⟩ := rb
      split at q
      · rename_i xs ys h1 h2
        obtain ⟨ox, ex, rx⟩ := S.at hx h1
        obtain ⟨oy, ey, ry⟩ := S.at hy h2
        obtain ⟨vs, n1, rfl, rvs⟩ := rx
        obtain ⟨ws, n2, rfl, rws⟩ := ry
        split at q
        · rename_i hl
          obtain ⟨_, e, hd, hj⟩ := eqVs_ok ρ q
          refine eq_listAt (e := e) (lO_list ex) (lO_list ey) (by simp [rvs.length, rws.length, hl]) (by omega)
            (items_eq rvs rws hj fun x y va vb bj q r1 r2 => eqE_ok S 1 A.in1 x y va vb bj q r1 r2 (by show A.units + 1 + 1 < _; omega)) ?_
          rw [List.size_toArray, rvs.length, ← hd]
          exact hQ
        · rename_i hl
          cases q
          exact eq_list_lengthsAt (lO_list ex) (lO_list ey) (by simp [rvs.length, rws.length, hl]) (by omega) hQ
      · rename_i xs ys h1 h2
        obtain ⟨ox, ex, rx⟩ := S.at hx h1
        obtain ⟨oy, ey, ry⟩ := S.at hy h2
        obtain ⟨vs, n1, rfl, rvs⟩ := rx
        obtain ⟨ws, n2, rfl, rws⟩ := ry
        split at q
        · rename_i hl
          obtain ⟨_, e, hd, hj⟩ := eqVs_ok ρ q
          refine eq_tupleAt (e := e) (tO_tuple ex) (tO_tuple ey) (by omega)
            (items_eq rvs rws hj fun x y va vb bj q r1 r2 => eqE_ok S 1 A.in1 x y va vb bj q r1 r2 (by show A.units + 1 + 1 < _; omega)) ?_
          rw [List.size_toArray, List.size_toArray, rvs.length, rws.length, ← hl, Nat.min_self, beq_self_eq_true, Bool.and_true, ← hd]
          exact hQ
        · cases q
      · rename_i be' h1 h2
        cases q
        obtain ⟨ox, ex, rx⟩ := S.at hx h1
        obtain ⟨oy, ey, ry⟩ := S.at hy h2
        obtain ⟨vs, n1, rfl, hb, _⟩ := rx
        obtain ⟨ws, n2, rfl, rws⟩ := ry
        have hw : ws = [] := List.eq_nil_of_length_eq_zero (by rw [rws.length]; rfl)
        subst hw
        cases vs with
        | nil =>
          refine eq_listAt (e := fun _ => true) (lO_list ex) (lO_list ey) rfl (by omega) (fun j h1 => by simp at h1) ?_
          rw [hb.mpr rfl] at hQ
          exact hQ
        | cons v vs =>
          have : be.den ρ = false := by
            cases hq : be.den ρ with
            | false => rfl
            | true => exact nomatch hb.mp hq
          rw [this] at hQ
          exact eq_list_lengthsAt (lO_list ex) (lO_list ey) (by simp) (by omega) hQ
      · cases q
  · unfold eqV at q
    split at q
    · cases q
      obtain ⟨t1, rfl⟩ := ra
      obtain ⟨t2, rfl⟩ := rb
      rw [den_mkNot, den_mkNe, Bool.not_not] at hQ
      exact PyProof.Rows.eq_int hQ
    · cases q
theorem neO_ok (S : SR ρ H αs hp h) {be : BE} {Q : Value → Shared → Prop} {E} (q : eqO hp 2 a b = some be) (ra : RV ρ αs va a) (rb : RV ρ αs vb b) (hu : A.units + 5 < cLine) (hQ : Q (.bool (!be.den ρ)) ⟨h, g, d, t, o⟩) :
    wpAny (model prog w) A (compareOp .NotEq va vb) Q E ⟨h, g, d, t, o⟩ := by
  refine cmp_ofNotEq ?_
  unfold eqO at q
  split at q
  · cases ‹_ + 1 = 0›
  · rename_i n i j hn
    cases hn
    split at q
    · cases q
    · rename_i hij
      obtain ⟨x, hx, rfl⟩ := ra
      obtain ⟨y, hy, rfl⟩ := rb
      split at q
      · rename_i xs ys h1 h2
        obtain ⟨ox, ex, rx⟩ := S.at hx h1
        obtain ⟨oy, ey, ry⟩ := S.at hy h2
        obtain ⟨vs, n1, rfl, rvs⟩ := rx
        obtain ⟨ws, n2, rfl, rws⟩ := ry
        split at q
        · rename_i hl
          obtain ⟨_, e, hd, hj⟩ := eqVs_ok ρ q
          refine RcNeAt.lists (e := e) (lO_list ex) (lO_list ey) (by simp [rvs.length, rws.length, hl]) (by omega)
            (items_eq rvs rws hj fun x y va vb bj q r1 r2 => eqE_ok S 1 A.in1 x y va vb bj q r1 r2 (by show A.units + 1 + 1 < _; omega)) prog w E _ ?_
          rw [List.size_toArray, rvs.length, ← hd]
          exact hQ
        · rename_i hl
          cases q
          exact RcNeAt.lists_lengths (lO_list ex) (lO_list ey) (by simp [rvs.length, rws.length, hl]) (by omega) prog w E _ hQ
      · rename_i xs ys h1 h2
        obtain ⟨ox, ex, rx⟩ := S.at hx h1
        obtain ⟨oy, ey, ry⟩ := S.at hy h2
        obtain ⟨vs, n1, rfl, rvs⟩ := rx
        obtain ⟨ws, n2, rfl, rws⟩ := ry
        split at q
        · rename_i hl
          obtain ⟨_, e, hd, hj⟩ := eqVs_ok ρ q
          refine RcNeAt.tuples (e := e) (tO_tuple ex) (tO_tuple ey) (by omega)
            (items_eq rvs rws hj fun x y va vb bj q r1 r2 => eqE_ok S 1 A.in1 x y va vb bj q r1 r2 (by show A.units + 1 + 1 < _; omega)) prog w E _ ?_
          rw [List.size_toArray, List.size_toArray, rvs.length, rws.length, ← hl, Nat.min_self, beq_self_eq_true, Bool.and_true, ← hd]
          exact hQ
        · cases q
      · rename_i be' h1 h2
        cases q
        obtain ⟨ox, ex, rx⟩ := S.at hx h1
        obtain ⟨oy, ey, ry⟩ := S.at hy h2
        obtain ⟨vs, n1, rfl, hb, _⟩ := rx
        obtain ⟨ws, n2, rfl, rws⟩ := ry
        have hw : ws = [] := List.eq_nil_of_length_eq_zero (by rw [rws.length]; rfl)
        subst hw
        cases vs with
        | nil =>
          refine RcNeAt.lists (e := fun _ => true) (lO_list ex) (lO_list ey) rfl (by omega) (fun j h1 => by simp at h1) prog w E _ ?_
          rw [hb.mpr rfl] at hQ
          exact hQ
        | cons v vs =>
          have : be.den ρ = false := by
            cases hq : be.den ρ with
            | false => rfl
            | true => exact nomatch hb.mp hq
          rw [this] at hQ
          exact RcNeAt.lists_lengths (lO_list ex) (lO_list ey) (by simp) (by omega) prog w E _ hQ
      · cases q
  · unfold eqV at q
    split at q
    · cases q
      obtain ⟨t1, rfl⟩ := ra
      obtain ⟨t2, rfl⟩ := rb
      rw [den_mkNot, den_mkNe, Bool.not_not] at hQ
      exact RcNeAt.int_int _ _ _ _ prog w E _ hQ
    · cases q
end
end Mine
end SD6
section SD7
open PySem PySem.W PySem.Calls PyProof.Rows
open PySem.SeqAt PySem.MeetsSeq
namespace Mine
section
variable {prog : Program} {w : World} {A : Around} {K : Frag} {H : Heap} {ρ : Nat → Int} {αs αs' : List Addr} {hp hp' : Hp} {h h' : Heap} {g : Array GenState} {d : Drawn} {t : Nat} {o : OsState} {v va vb : Value} {sv a b : SV} {s : Shared}
theorem pair_inv {vs : List Value} {a b : SV} (r : RVs ρ αs vs [a, b]) : ∃ v1 v2, vs = [v1, v2] ∧ RV ρ αs v1 a ∧ RV ρ αs v2 b := by
  match vs, r with
  | [v1, v2], r => exact ⟨v1, v2, rfl, r.1, r.2.1⟩
theorem ints_none {vs : List Value} {xs : List SV} (r : RVs ρ αs vs xs) (q : xs.all (fun v => match v with | .int _ => true | _ => false) = true) : ∀ y, y ∈ vs.toArray → EqAt A s y .none false := fun y hy => by
  have hy' : y ∈ vs := by simpa using hy
  obtain ⟨i, hi⟩ := List.getElem?_of_mem hy'
  have hlt := (List.getElem?_eq_some_iff.mp hi).1
  have hx : xs[i]? = some (xs[i]'(by rw [← r.length]; exact hlt)) := List.getElem?_eq_getElem _
  obtain ⟨v', e', rv⟩ := r.get hx
  have : y = v' := Option.some.inj (hi.symm.trans e')
  subst this
  have hq := List.all_eq_true.mp q _ (List.mem_of_getElem? hx)
  split at hq
  · rename_i e he
    rw [he] at rv
    obtain ⟨tk, rfl⟩ := rv
    exact EqAt.int_none _ _
  · cases hq
theorem cmp_ok (S : SR ρ H αs hp h) {op : CmpOp} {be : BE} {Q : Value → Shared → Prop} {E} (q : cmpS hp op a b = some be) (ra : RV ρ αs va a) (rb : RV ρ αs vb b) (hu : A.units + 5 < cLine) (hQ : Q (.bool (be.den ρ)) ⟨h, g, d, t, o⟩) :
    wpAny (model prog w) A (compareOp op va vb) Q E ⟨h, g, d, t, o⟩ := by
  unfold cmpS at q
  split at q
  · cases q
    obtain ⟨t1, rfl⟩ := ra
    obtain ⟨t2, rfl⟩ := rb
    exact PyProof.Rows.lt_int hQ
  · split at q
    · rename_i h1 h2
      cases q
      obtain ⟨x, hx, rfl⟩ := ra
      obtain ⟨y, hy, rfl⟩ := rb
      obtain ⟨ox, ex, rx⟩ := S.at hx h1
      obtain ⟨oy, ey, ry⟩ := S.at hy h2
      obtain ⟨vs, n1, rfl, rvs⟩ := rx
      obtain ⟨ws, n2, rfl, rws⟩ := ry
      obtain ⟨v1, v2, rfl, r1, r2⟩ := pair_inv rvs
      obtain ⟨w1, w2, rfl, r3, r4⟩ := pair_inv rws
      obtain ⟨_, rfl⟩ := r1
      obtain ⟨_, rfl⟩ := r2
      obtain ⟨_, rfl⟩ := r3
      obtain ⟨_, rfl⟩ := r4
      exact cmp_ofLt (richCompare_meets_room (op := .Lt) ⟨_, ex, rfl⟩ ⟨_, ey, rfl⟩ F.slot_tuple_lt F.entry_tuple_lt (F.args_tuple_lt_2 _ _) (tuple_lt2 x y _ _ _ _ _ _ _ _ n1 n2 none none #[] #[])
        ⟨ex, ey, show Value.bool _ ≠ Value.notImplemented ∧ Q (.bool _) _ from ⟨(fun x => nomatch x), hQ⟩⟩ (by omega))
    · cases q
  · cases q
    cases ra; cases rb
    exact PyProof.Rows.is_none_none hQ
  · cases q
    cases rb
    obtain ⟨t1, rfl⟩ := ra
    exact PyProof.Rows.is_int_none hQ
  · cases q
    cases ra; cases rb
    exact PyProof.Rows.eq_bool hQ
  · exact eqO_ok S q ra rb hu hQ
  · cases he : eqO hp 2 a b with
    | none => rw [he] at q; cases q
    | some b' =>
      rw [he] at q
      cases q
      rw [den_mkNot] at hQ
      exact neO_ok S he ra rb hu hQ
  · split at q
    · rename_i xs h1
      split at q
      · rename_i hall
        cases q
        cases ra
        obtain ⟨y, hy, rfl⟩ := rb
        obtain ⟨oy, ey, ry⟩ := S.at hy h1
        obtain ⟨ws, n2, rfl, rws⟩ := ry
        refine in_listAt (fun _ => false) (lO_list ey) (ints_none rws hall) ?_
        have : (ws.toArray.any fun _ => false) = false := by simp
        rw [this]
        exact hQ
      · cases q
    · cases q
  · cases q
theorem idx_ok {value slice : Expr} (S : SR ρ H αs hp h) {Q : Value → Shared → Prop} {E} (q : idxS hp a b = some sv) (ra : RV ρ αs va a) (rb : RV ρ αs vb b)
    (hsl : ∀ ov i t, subscripted slice false ov (.int i t) = operate [ov, .int i t] (getItem ov (.int i t)))
    (hQ : ∀ v, RV ρ αs v sv → Q v ⟨h, g, d, t, o⟩) : wpAny (model prog w) A (subscriptTail value slice va vb) Q E ⟨h, g, d, t, o⟩ := by
  unfold idxS at q
  split at q
  · rename_i i k
    obtain ⟨x, hx, rfl⟩ := ra
    obtain ⟨t1, rfl⟩ := rb
    have e63 : (2 : Int) ^ 63 = 9223372036854775808 := by decide
    split at q
    · rename_i xs h1
      split at q
      · rename_i hk
        obtain ⟨ox, ex, rx⟩ := S.at hx h1
        obtain ⟨vs, n1, rfl, rvs⟩ := rx
        obtain ⟨v, ev, rv⟩ := rvs.get q
        have hl := lO_list ex
        exact tail_any hl.typeIs slot_list_getitem.lookup (wpAny_getItem_list hl hk.1 (by show k < _; omega) (by rw [List.getElem?_toArray]; exact ev) (hQ v rv)) (hsl _ _ _)
      · cases q
    · rename_i xs h1
      split at q
      · rename_i hk
        obtain ⟨ox, ex, rx⟩ := S.at hx h1
        obtain ⟨vs, n1, rfl, rvs⟩ := rx
        obtain ⟨v, ev, rv⟩ := rvs.get q
        have hlt : k.toNat < vs.length := (List.getElem?_eq_some_iff.mp ev).1
        refine item_tupleT (t := x) (l := vs) (j := k.toNat) ⟨_, ex, rfl, n1, rfl⟩ (by show _ ≤ k; omega) (by show k < _; omega) ?_ ev (hQ v rv) (hsl _ _ _)
        show seqIndex? k vs.length = some k.toNat
        have h1 : 0 ≤ k := hk.1
        have h2 : ¬ k < 0 := by omega
        have h3 : k < (vs.length : Int) := by omega
        simp [seqIndex?, h1, h2, h3]
      · cases q
    · cases q
  · cases q
end
end Mine
end SD7
section SD8
open PySem PySem.W PySem.Calls PyProof.Rows
namespace Mine
section
variable (prog : Program) (w : World) (H : Heap) (ρ : Nat → Int)
/-- a tree that gives sv and leaves hp' -/
noncomputable def EvOk (cx : Cx) (vars : Vars) (hp : Hp) (sv : SV) (hp' : Hp) (tree : Env → Sem Value) : Prop :=
  ∀ ⦃A env αs h g d t o⦄ ⦃Q : Value → Shared → Prop⦄ ⦃E⦄, AOk cx.d A → EK env cx.ks → SR ρ H αs hp h → FR ρ H env αs vars h →
    (∀ v αs' h' t', StepM [] αs h αs' h' → SR ρ H αs' hp' h' → RV ρ αs' v sv → Q v ⟨h', g, d, t', o⟩) → wpAny (model prog w) A (tree env) Q E ⟨h, g, d, t, o⟩
noncomputable def EvsOk (cx : Cx) (vars : Vars) (hp : Hp) (xs : List SV) (hp' : Hp) (tree : Env → Sem (List Value)) : Prop :=
  ∀ ⦃A env αs h g d t o⦄ ⦃Q : List Value → Shared → Prop⦄ ⦃E⦄, AOk cx.d A → EK env cx.ks → SR ρ H αs hp h → FR ρ H env αs vars h →
    (∀ vs αs' h' t', StepM [] αs h αs' h' → SR ρ H αs' hp' h' → RVs ρ αs' vs xs → Q vs ⟨h', g, d, t', o⟩) → wpAny (model prog w) A (tree env) Q E ⟨h, g, d, t, o⟩
noncomputable def TsOk (cx : Cx) (vars : Vars) (hp : Hp) (b : BE) (hp' : Hp) (e : Expr) : Prop :=
  ∀ ⦃A env αs h g d t o⦄ ⦃Q : Bool → Shared → Prop⦄ ⦃E⦄ ⦃whole : Sem Value⦄, AOk cx.d A → EK env cx.ks → SR ρ H αs hp h → FR ρ H env αs vars h →
    (∀ αs' h' t', StepM [] αs h αs' h' → SR ρ H αs' hp' h' → Q (b.den ρ) ⟨h', g, d, t', o⟩) → wpAny (model prog w) A (isTrue e env whole) Q E ⟨h, g, d, t, o⟩
noncomputable def RFl (αs : List Addr) (f : Flow) : Fl → Prop
  | .next => f = .next
  | .ret sv => ∃ v, f = .ret v ∧ RV ρ αs v sv
noncomputable def addrs (αs : List Addr) (mu : List Nat) : List Addr := mu.filterMap (αs[·]?)
noncomputable def SsOk (cx : Cx) (vars : Vars) (hp : Hp) (fl : Fl) (vars' : Vars) (hp' : Hp) (mu : List Nat) (tree : Env → Sem Flow) : Prop :=
  ∀ ⦃A env αs h g d t o⦄ ⦃Q : Flow → Shared → Prop⦄ ⦃E⦄, AOk cx.d A → EK env cx.ks → SR ρ H αs hp h → FR ρ H env αs vars h →
    (∀ f αs' h' t', StepM (fp env ++ addrs αs' mu) αs h αs' h' → SR ρ H αs' hp' h' → FR ρ H env αs' vars' h' → RFl ρ αs' f fl → Q f ⟨h', g, d, t', o⟩) → wpAny (model prog w) A (tree env) Q E ⟨h, g, d, t, o⟩
structure Snd (ih : IH) : Prop where
  ev : ∀ {cx vars hp e sv hp'}, ih.ev cx vars hp e = some (sv, hp') → EvOk prog w H ρ cx vars hp sv hp' fun env => eval e env
  ts : ∀ {cx vars hp e b hp'}, ih.ts cx vars hp e = some (b, hp') → TsOk prog w H ρ cx vars hp b hp' e
  ss : ∀ {cx vars hp sts fl vars' hp' mu}, ih.ss cx vars hp sts = some (fl, vars', hp', mu) → SsOk prog w H ρ cx vars hp fl vars' hp' mu fun env => execs sts env
end
theorem bind_some {α β : Type} {x : Option α} {f : α → Option β} {r : β} (q : (x >>= f) = some r) : ∃ a, x = some a ∧ f a = some r := by
  cases x with
  | none => cases q
  | some a => exact ⟨a, rfl, q⟩
section
variable {prog : Program} {w : World} {H : Heap} {ρ : Nat → Int} {ih : IH} {cx : Cx} {vars : Vars} {hp hp' : Hp} {sv : SV} {xs : List SV}
theorem star_cons {e : Expr} (q : notStar e = true) (es : List Expr) (env : Env) : starEach (e :: es) env = (false, eval e env) :: starEach es env := by
  cases e <;> first | rfl | cases q
theorem evs_ok (I : Snd prog w H ρ ih) (pos : Pos) : ∀ (es : List Expr) {hp hp' : Hp} {xs : List SV}, evs ih cx vars hp es = some (xs, hp') → EvsOk prog w H ρ cx vars hp xs hp' fun env => spliced (backTo pos (starEach es env))
  | [], hp, hp', xs, q => by
    simp only [evs] at q
    cases q
    intro A env αs h g d t o Q E a k S F hQ
    exact args_nil (hQ [] αs h t StepM.refl S trivial)
  | e :: es, hp, hp', xs, q => by
    simp only [evs] at q
    split at q
    · rename_i hs
      obtain ⟨⟨v1, hp1⟩, q1, q⟩ := bind_some q
      obtain ⟨⟨vs1, hp2⟩, q2, q⟩ := bind_some q
      cases q
      intro A env αs h g d t o Q E a k S F hQ
      refine args_cons (I.ev q1 a k S F fun v αs1 h1 t1 s1 S1 r1 => ?_) (star_cons hs es env)
      refine evs_ok I pos es q2 a k S1 (F.step0 s1) fun vs αs2 h2 t2 s2 S2 r2 => ?_
      exact hQ (v :: vs) αs2 h2 t2 (s1.trans s2) S2 ⟨r1.step s2, r2⟩
    · cases q
theorem plain_any : ∀ (es : List Expr) (pos : Pos) (env : Env), (es.all notStar) = true → (backTo pos (starEach es env)).any (·.1) = false
  | [], _, _, _ => rfl
  | e :: es, pos, env, q => by
    rw [List.all_cons, Bool.and_eq_true] at q
    rw [star_cons q.1]
    have := plain_any es pos env q.2
    simpa [backTo] using this
theorem evs_plain : ∀ (es : List Expr) {hp hp' : Hp} {xs : List SV}, evs ih cx vars hp es = some (xs, hp') → (es.all notStar) = true ∧ es.length = xs.length
  | [], hp, hp', xs, q => by simp only [evs] at q; cases q; exact ⟨rfl, rfl⟩
  | e :: es, hp, hp', xs, q => by
    simp only [evs] at q
    split at q
    · rename_i hs
      obtain ⟨⟨v1, hp1⟩, q1, q⟩ := bind_some q
      obtain ⟨⟨vs1, hp2⟩, q2, q⟩ := bind_some q
      cases q
      obtain ⟨a, b⟩ := evs_plain es q2
      exact ⟨by rw [List.all_cons, hs, a]; rfl, by rw [List.length_cons, List.length_cons, b]⟩
    · cases q
/-! displays -/
theorem tup_ok (I : Snd prog w H ρ ih) {es : List Expr} {n : Nat} {pos : Pos} (q : evs ih cx vars hp es = some (xs, hp')) (hl : es.length ≤ 1000) : EvOk prog w H ρ cx vars hp (.ref hp'.length) (hp' ++ [.tup xs]) fun env => eval (.Tuple es n pos) env := by
  intro A env αs h g d t o Q E a k S F hQ
  refine Tuple_ (evs_ok I pos es q a k S F fun vs αs1 h1 t1 s1 S1 r1 => ?_)
  have hlen : vs.length ≤ 1000 := by rw [r1.length, ← (evs_plain es q).2]; exact hl
  refine wpAny_newObj_type ?_ (by show vs.toArray.size ≤ sizeLine; rw [List.size_toArray, sizeLine_eq]; omega)
  refine hQ _ (αs1 ++ [h1.objs.size]) _ _ (s1.trans (StepM.alloc (o := tO vs 0) rfl)) (S1.alloc (o := tO vs 0) rfl ⟨vs, 0, rfl, r1⟩) ⟨h1.objs.size, ?_, rfl⟩
  rw [← S1.len, List.getElem?_append_right (Nat.le_refl _), Nat.sub_self]; rfl
theorem list_ok (I : Snd prog w H ρ ih) {es : List Expr} {pos : Pos} (q : evs ih cx vars hp es = some (xs, hp')) (hl : es.length ≤ 1000) : EvOk prog w H ρ cx vars hp (.ref hp'.length) (hp' ++ [.list xs]) fun env => eval (.List es pos) env := by
  intro A env αs h g d t o Q E a k S F hQ
  refine List_ (evs_ok I pos es q a k S F fun vs αs1 h1 t1 s1 S1 r1 => ?_)
  have hlen : vs.length ≤ 1000 := by rw [r1.length, ← (evs_plain es q).2]; exact hl
  refine wpAny_newObj_type ?_ (by show vs.toArray.size ≤ sizeLine; rw [List.size_toArray, sizeLine_eq]; omega)
  refine hQ _ (αs1 ++ [h1.objs.size]) _ _ (s1.trans (StepM.alloc (o := lO vs 0) rfl)) (S1.alloc (o := lO vs 0) rfl ⟨vs, 0, rfl, r1⟩) ⟨h1.objs.size, ?_, rfl⟩
  rw [← S1.len, List.getElem?_append_right (Nat.le_refl _), Nat.sub_self]; rfl
theorem bin_ev (I : Snd prog w H ρ ih) (hρ : ∀ i, -4 ≤ ρ i ∧ ρ i ≤ 4) {l r : Expr} {op : Operator} {pos : Pos} {a b : SV} {hp1 hp2 : Hp} (q1 : ih.ev cx vars hp l = some (a, hp1)) (q2 : ih.ev cx vars hp1 r = some (b, hp2)) (q3 : binS op a b = some sv) :
    EvOk prog w H ρ cx vars hp sv hp2 fun env => eval (.BinOp l op r pos) env := by
  intro A env αs h g d t o Q E ao k S F hQ
  refine wpAny_BinOp (I.ev q1 ao k S F fun v1 αs1 h1 t1 s1 S1 r1 => I.ev q2 ao k S1 (F.step0 s1) fun v2 αs2 h2 t2 s2 S2 r2 => ?_)
  exact bin_ok hρ q3 (r1.step s2) r2 fun v t' rv => hQ v αs2 h2 t' (s1.trans s2) S2 rv
theorem cmp_ev (I : Snd prog w H ρ ih) {l r : Expr} {op : CmpOp} {pos : Pos} {a b : SV} {be : BE} {hp1 hp2 : Hp} (hm : behindInMarks op r = false) (q1 : ih.ev cx vars hp l = some (a, hp1)) (q2 : ih.ev cx vars hp1 r = some (b, hp2)) (q3 : cmpS hp2 op a b = some be) :
    EvOk prog w H ρ cx vars hp (.bool be) hp2 fun env => eval (.Compare l [op] [r] pos) env := by
  intro A env αs h g d t o Q E ao k S F hQ
  refine wpAny_Compare1 (I.ev q1 ao k S F fun v1 αs1 h1 t1 s1 S1 r1 => I.ev q2 ao k S1 (F.step0 s1) fun v2 αs2 h2 t2 s2 S2 r2 => ?_) hm
  exact cmp_ok S2 q3 (r1.step s2) r2 (by have := ao.un; omega) (hQ _ αs2 h2 _ (s1.trans s2) S2 rfl)
theorem cmp_ts (I : Snd prog w H ρ ih) {l r : Expr} {op : CmpOp} {pos : Pos} {a b : SV} {be : BE} {hp1 hp2 : Hp} (hm : behindInMarks op r = false) (q1 : ih.ev cx vars hp l = some (a, hp1)) (q2 : ih.ev cx vars hp1 r = some (b, hp2)) (q3 : cmpS hp2 op a b = some be) :
    TsOk prog w H ρ cx vars hp be hp2 (.Compare l [op] [r] pos) := by
  intro A env αs h g d t o Q E whole ao k S F hQ
  refine wpAny_isTrue_Compare1 (I.ev q1 ao k S F fun v1 αs1 h1 t1 s1 S1 r1 => I.ev q2 ao k S1 (F.step0 s1) fun v2 αs2 h2 t2 s2 S2 r2 => ?_) hm
  exact cmp_ok S2 q3 (r1.step s2) r2 (by have := ao.un; omega) (wpAny_truthy_bool (hQ αs2 h2 _ (s1.trans s2) S2))
theorem ifexp_ev (I : Snd prog w H ρ ih) {t0 a b : Expr} {pos : Pos} {c : BE} {v0 : Bool} {hp1 hp2 : Hp} (q1 : ih.ts cx vars hp t0 = some (c, hp1)) (qd : decB c = some v0) (q2 : ih.ev cx vars hp1 (if v0 then a else b) = some (sv, hp2)) :
    EvOk prog w H ρ cx vars hp sv hp2 fun env => eval (.IfExp t0 a b pos) env := by
  intro A env αs h g d t o Q E ao k S F hQ
  refine wpAny_IfExp (I.ts q1 ao k S F fun αs1 h1 t1 s1 S1 => ?_)
  rw [decB_ok ρ c v0 qd]
  have := I.ev q2 (Q := Q) (E := E) (g := g) (d := d) (t := t1) (o := o) ao k S1 (F.step0 s1) fun v αs2 h2 t2 s2 S2 r => hQ v αs2 h2 t2 (s1.trans s2) S2 r
  cases v0 with
  | true => exact this
  | false => exact this
theorem sub_ev (I : Snd prog w H ρ ih) {ov ix : Expr} {pos : Pos} {a b : SV} {hp1 hp2 : Hp} (hs : isSlice ix = false) (q1 : ih.ev cx vars hp ov = some (a, hp1)) (q2 : ih.ev cx vars hp1 ix = some (b, hp2)) (q3 : idxS hp2 a b = some sv) :
    EvOk prog w H ρ cx vars hp sv hp2 fun env => eval (.Subscript ov ix pos) env := by
  intro A env αs h g d t o Q E ao k S F hQ
  refine Subscript_ (I.ev q1 ao k S F fun v1 αs1 h1 t1 s1 S1 r1 => I.ev q2 ao k S1 (F.step0 s1) fun v2 αs2 h2 t2 s2 S2 r2 => ?_)
  refine idx_ok S2 q3 (r1.step s2) r2 (fun o i t => ?_) fun v rv => hQ v αs2 h2 _ (s1.trans s2) S2 rv
  cases ix <;> first | rfl | cases hs
/-! tests -/
theorem and_ts (I : Snd prog w H ρ ih) {a b : Expr} {pos : Pos} {x y : BE} {hp1 hp2 : Hp} (q1 : ih.ts cx vars hp a = some (x, hp1)) (qd : decB x = some true) (q2 : ih.ts cx vars hp1 b = some (y, hp2)) : TsOk prog w H ρ cx vars hp y hp2 (.BoolOp .And [a, b] pos) := by
  intro A env αs h g d t o Q E whole ao k S F hQ
  refine isTrue_and (I.ts q1 ao k S F fun αs1 h1 t1 s1 S1 => ?_)
  rw [decB_ok ρ x _ qd]
  simp only [if_true]
  refine isTrue_and (I.ts q2 ao k S1 (F.step0 s1) fun αs2 h2 t2 s2 S2 => ?_)
  have := hQ αs2 h2 t2 (s1.trans s2) S2
  cases hy : y.den ρ with
  | true => simp only [if_true]; rw [hy] at this; exact isTrue_and_nil this
  | false => simp only [Bool.false_eq_true, if_false]; rw [hy] at this; exact this
theorem and_ts0 (I : Snd prog w H ρ ih) {a b : Expr} {pos : Pos} {x : BE} {hp1 : Hp} (q1 : ih.ts cx vars hp a = some (x, hp1)) (qd : decB x = some false) : TsOk prog w H ρ cx vars hp (.lit false) hp1 (.BoolOp .And [a, b] pos) := by
  intro A env αs h g d t o Q E whole ao k S F hQ
  refine isTrue_and (I.ts q1 ao k S F fun αs1 h1 t1 s1 S1 => ?_)
  rw [decB_ok ρ x _ qd]
  exact hQ αs1 h1 t1 s1 S1
theorem or_ts (I : Snd prog w H ρ ih) {a b : Expr} {pos : Pos} {x y : BE} {hp1 hp2 : Hp} (q1 : ih.ts cx vars hp a = some (x, hp1)) (qd : decB x = some false) (q2 : ih.ts cx vars hp1 b = some (y, hp2)) : TsOk prog w H ρ cx vars hp y hp2 (.BoolOp .Or [a, b] pos) := by
  intro A env αs h g d t o Q E whole ao k S F hQ
  refine isTrue_or (I.ts q1 ao k S F fun αs1 h1 t1 s1 S1 => ?_)
  rw [decB_ok ρ x _ qd]
  simp only [Bool.false_eq_true, if_false]
  refine isTrue_or (I.ts q2 ao k S1 (F.step0 s1) fun αs2 h2 t2 s2 S2 => ?_)
  have := hQ αs2 h2 t2 (s1.trans s2) S2
  cases hy : y.den ρ with
  | true => simp only [if_true]; rw [hy] at this; exact this
  | false => simp only [Bool.false_eq_true, if_false]; rw [hy] at this; exact isTrue_or_nil this
theorem or_ts0 (I : Snd prog w H ρ ih) {a b : Expr} {pos : Pos} {x : BE} {hp1 : Hp} (q1 : ih.ts cx vars hp a = some (x, hp1)) (qd : decB x = some true) : TsOk prog w H ρ cx vars hp (.lit true) hp1 (.BoolOp .Or [a, b] pos) := by
  intro A env αs h g d t o Q E whole ao k S F hQ
  refine isTrue_or (I.ts q1 ao k S F fun αs1 h1 t1 s1 S1 => ?_)
  rw [decB_ok ρ x _ qd]
  exact hQ αs1 h1 t1 s1 S1
end
end Mine
end SD8
section SD9
open PySem PySem.W PySem.Calls PyProof.Rows
namespace Mine
/-! ### entering a def -/
inductive Bs (ρ : Nat → Int) (αs : List Addr) : List (Str × Value) → Vars → Prop
  | nil : Bs ρ αs [] []
  | cons {n : Str} {v : Value} {sv : SV} {r : List (Str × Value)} {q : Vars} : RV ρ αs v sv → Bs ρ αs r q → Bs ρ αs ((n, v) :: r) ((n, sv) :: q)
section
variable {ρ : Nat → Int} {αs αs' : List Addr} {binds : List (Str × Value)} {vars : Vars}
theorem Bs.append {r : List (Str × Value)} {q : Vars} (a : Bs ρ αs binds vars) (b : Bs ρ αs r q) : Bs ρ αs (binds ++ r) (vars ++ q) := by
  induction a with
  | nil => exact b
  | cons v _ ih => exact .cons v ih
theorem Bs.zip : ∀ (ps : List Str) {vs : List Value} {xs : List SV}, RVs ρ αs vs xs → Bs ρ αs (ps.zip vs) (ps.zip xs)
  | [], _, _, _ => by simp only [List.zip_nil_left]; exact .nil
  | _ :: _, [], [], _ => by simp only [List.zip_nil_right]; exact .nil
  | p :: ps, v :: vs, x :: xs, r => .cons r.1 (Bs.zip ps r.2)
  | _ :: _, [], _ :: _, r => r.elim
  | _ :: _, _ :: _, [], r => r.elim
theorem Bs.names (b : Bs ρ αs binds vars) : binds.map (·.1) = vars.map (·.1) := by
  induction b with
  | nil => rfl
  | cons _ _ ih => rw [List.map_cons, List.map_cons, ih]
theorem bindL_off (k : Str → Option NameKind) {x : Str} : ∀ (binds : List (Str × Value)) (m : Str → Option Value), x ∉ binds.map (·.1) → bindL k binds m x = m x
  | [], _, _ => rfl
  | (n, v) :: r, m, h => by
    rw [List.map_cons, List.mem_cons, not_or] at h
    unfold bindL
    rw [bindL_off k r _ h.2]
    split
    · exact if_neg h.1
    · rfl
theorem bindC_off (k : Str → Option NameKind) {x : Str} : ∀ (binds : List (Str × Value)) (m : Str → Option Value), x ∉ binds.map (·.1) → bindC k binds m x = m x
  | [], _, _ => rfl
  | (n, v) :: r, m, h => by
    rw [List.map_cons, List.mem_cons, not_or] at h
    unfold bindC
    rw [bindC_off k r _ h.2]
    split
    · rfl
    · exact if_neg h.1
theorem Bs.look (k : Str → Option NameKind) (b : Bs ρ αs binds vars) (nd : (binds.map (·.1)).Nodup) {x : Str} {sv : SV} (e : vars.lookup x = some sv) :
    ∃ v, x ∈ binds.map (·.1) ∧ RV ρ αs v sv ∧ (∀ m, k x = some .local → bindL k binds m x = some v) ∧ (∀ m, k x ≠ some .local → bindC k binds m x = some v) := by
  induction b with
  | nil => cases e
  | @cons n v sv' r q rv b ih =>
    rw [List.map_cons, List.nodup_cons] at nd
    rw [List.lookup_cons] at e
    split at e
    · rename_i he
      have he := eq_of_beq he
      subst he
      cases e
      refine ⟨v, List.mem_cons_self, rv, fun m hk => ?_, fun m hk => ?_⟩
      · unfold bindL; rw [bindL_off _ _ _ nd.1, if_pos hk, if_pos rfl]
      · unfold bindC; rw [bindC_off _ _ _ nd.1, if_neg hk, if_pos rfl]
    · obtain ⟨v', h1, h2, h3, h4⟩ := ih nd.2 e
      exact ⟨v', List.mem_cons_of_mem _ h1, h2, fun m hk => by unfold bindL; exact h3 _ hk, fun m hk => by unfold bindC; exact h4 _ hk⟩
theorem cell_in {x : Str} : ∀ {names : List (Str × NameKind)} {n : Nat} {acc : List (Str × Addr)}, ((x, .cell) ∈ names ∨ ∃ c, (x, c) ∈ acc) → ∃ c, (x, c) ∈ cellsFrom n names acc
  | [], _, _, h => by
    rcases h with h | h
    · cases h
    · exact h
  | (name, kind) :: r, n, acc, h => by
    unfold cellsFrom
    split
    · refine cell_in ?_
      rcases h with h | ⟨c, h⟩
      · rcases List.mem_cons.mp h with e | h
        · cases e; exact .inr ⟨n, List.mem_cons_self⟩
        · exact .inl h
      · exact .inr ⟨c, List.mem_cons_of_mem _ h⟩
    · rename_i hk
      refine cell_in ?_
      rcases h with h | h
      · rcases List.mem_cons.mp h with e | h
        · cases e; exact absurd rfl hk
        · exact .inl h
      · exact .inr h
end
structure FnOk (K : Frag) (mg : Str → Option Value) (ρ : Nat → Int) (f : Str) (n : Nat) (fn : Fn) : Prop where
  glob : mg f = some (.ref fn.addr)
  keep : keepIn K (.ref fn.addr) = true
  dbg : (f == Str.ofString "__debug__") = false
  len : fn.params.length = n
  fd : ∃ name qual params dV kV doc pm an cdv ct oc od osl, K.lookup fn.addr = some ⟨oc, od, .func (fnX name qual params fn.body fn.scope [] dV kV doc pm an cdv ct), osl⟩ ∧ codeIn K cdv qual = true ∧
    ∀ (s : Shared) (vals : List Value), K.In s.heap → vals.length = n → BindsTo s (fnX name qual params fn.body fn.scope [] dV kV doc pm an cdv ct) ⟨vals, []⟩ (fn.params.zip vals ++ fn.more.map fun m => (m.1, m.2.1))
  more : ∀ m ∈ fn.more, ∀ αs, RV ρ αs m.2.1 m.2.2
  names : (fn.params ++ fn.more.map (·.1)).Nodup
  kinds : ∀ x ∈ fn.params ++ fn.more.map (·.1), fn.scope.names.lookup x = some .local ∨ fn.scope.names.lookup x = some .cell
  cells : ((cellsFrom 0 fn.scope.names []).map (·.1)).Nodup
  kind : fn.scope.kind = .function
  co : fn.scope.isCoroutine = false
  gen : fn.scope.isGenerator = false
section
variable {prog : Program} {w : World} {A : Around} {K : Frag} {H : Heap} {mg mb : Str → Option Value} {ρ : Nat → Int} {αs αs' αs'' : List Addr} {hp hp' : Hp} {vars vars' : Vars} {ks : Kinds} {env : Env} {h h' : Heap} {g : Array GenState} {d : Drawn} {t : Nat} {o : OsState} {v : Value} {sv : SV}
theorem mem_addrs {b : Addr} {mu : List Nat} : b ∈ addrs αs mu ↔ ∃ i ∈ mu, αs[i]? = some b := by unfold addrs; rw [List.mem_filterMap]
theorem addrs_pre {more : List Addr} {mu : List Nat} (k : ∀ i ∈ mu, i < αs.length) : ∀ b, b ∈ addrs (αs ++ more) mu ↔ b ∈ addrs αs mu := fun b => by
  rw [mem_addrs, mem_addrs]
  constructor
  · rintro ⟨i, hi, e⟩; exact ⟨i, hi, by rw [List.getElem?_append_left (k i hi)] at e; exact e⟩
  · rintro ⟨i, hi, e⟩; exact ⟨i, hi, get_pre e⟩
/-- what was turned at all, of the old, is an old object's index -/
theorem StepM.old {M : List Addr} {mu : List Nat} (s : StepM (M ++ addrs αs' mu) αs h αs' h') (nd : αs'.Nodup) (k : ∀ b ∈ M, h.get? b = none) : StepM (addrs αs (mu.filter (· < αs.length))) αs h αs' h' := by
  obtain ⟨⟨more, rfl⟩, s⟩ := s
  refine ⟨⟨more, rfl⟩, fun b o e => ?_⟩
  obtain ⟨n1, o', e', q⟩ := s b o e
  refine ⟨n1, o', e', fun hb => q fun hm => ?_⟩
  rcases List.mem_append.mp hm with hm | hm
  · rw [k b hm] at e; cases e
  · obtain ⟨i, hi, ei⟩ := mem_addrs.mp hm
    rcases Nat.lt_or_ge i αs.length with lt | ge
    · refine hb (mem_addrs.mpr ⟨i, List.mem_filter.mpr ⟨hi, by simpa using lt⟩, ?_⟩)
      rw [List.getElem?_append_left lt] at ei; exact ei
    · by_cases hin : b ∈ αs
      · obtain ⟨j, ej⟩ := List.getElem?_of_mem hin
        have hj := (List.getElem?_eq_some_iff.mp ej).1
        have : i = j := (List.getElem?_inj (List.getElem?_eq_some_iff.mp ei).1 nd).mp (ei.trans (get_pre ej).symm)
        omega
      · exact n1 hin (List.mem_of_getElem? ei)
theorem enter_ok {f : Str} {n dd : Nat} {fn : Fn} {vs : List Value} {xs : List SV} {fl : Fl} {mu : List Nat} {Q : Value → Shared → Prop} {E} (G : Gd K H mg mb) (O : FnOk K mg ρ f n fn) (a : AOk (dd + 1) A) (S : SR ρ H αs hp h) (r : RVs ρ αs vs xs) (hn : xs.length = n)
    (body : SsOk prog w H ρ ⟨fn.scope.names, dd⟩ (fn.params.zip xs ++ fn.more.map fun m => (m.1, m.2.2)) hp fl vars' hp' mu fun env => execs fn.body env)
    (hQ : ∀ v αs' h' t', StepM (addrs αs (mu.filter (· < αs.length))) αs h αs' h' → SR ρ H αs' hp' h' → RV ρ αs' v fl.val → Q v ⟨h', g, d, t', o⟩) :
    wpAny (model prog w) A (call (.ref fn.addr) vs) Q E ⟨h, g, d, t, o⟩ := by
  obtain ⟨name, qual, params, dV, kV, doc, pm, an, cdv, ct, oc, od, osl, hl, hcd, hb⟩ := O.fd
  have X : K.In h := G.X.keeps S.base
  have hbind := hb ⟨h, g, d, t, o⟩ vs X (r.length.trans hn)
  have Bx : Bs ρ αs (fn.params.zip vs ++ fn.more.map fun m => (m.1, m.2.1)) (fn.params.zip xs ++ fn.more.map fun m => (m.1, m.2.2)) := by
    refine (Bs.zip _ r).append ?_
    have : ∀ l : List (Str × Value × SV), (∀ m ∈ l, RV ρ αs m.2.1 m.2.2) → Bs ρ αs (l.map fun m => (m.1, m.2.1)) (l.map fun m => (m.1, m.2.2)) := fun l => by
      induction l with
      | nil => exact fun _ => .nil
      | cons m l ih => exact fun q => .cons (q m List.mem_cons_self) (ih fun m' hm' => q m' (List.mem_cons_of_mem _ hm'))
    exact this _ fun m hm => O.more m hm αs
  have hnm : (fn.params.zip vs ++ fn.more.map fun m => (m.1, m.2.1)).map (·.1) = fn.params ++ fn.more.map (·.1) := by
    rw [List.map_append, List.map_map, List.map_fst_zip (by rw [O.len, r.length, hn]; exact Nat.le_refl _)]; rfl
  have hroom : A.depth < recursionLimit := by have := a.dp; omega
  have cellNd : ∀ k, ((cellsFrom k fn.scope.names []).map (·.1)).Nodup := fun k => cellsFrom_names fn.scope.names 0 k [] [] rfl ▸ O.cells
  have hcell : ∀ k x, fn.scope.names.lookup x = some .cell → ∃ c, (cellsFrom k fn.scope.names []).lookup x = some c := fun k x e => by
    obtain ⟨c, hc⟩ := cell_in (n := k) (acc := []) (.inl (PySem.mem_of_lookup_some e))
    exact ⟨c, lookup_of_mem_nodup (cellNd k) hc⟩
  refine wpAny_call (codeAny_call_function hroom (X _ _ hl) rfl O.co O.gen rfl (codeRec_of X hcd) (hbind _ _ _ _ ?_))
  refine wpAny_newFunctionEnv_cells O.kind (fun x hx => ?_) fun env' he s' x => ?_
  · rcases O.kinds x.1 (hnm ▸ List.mem_map_of_mem hx) with q | q
    · exact .inl q
    · obtain ⟨c, hc⟩ := hcell (h.objs.size + 1) x.1 q
      exact .inr ⟨q, by rw [show (Shared.mk h g d t o).heap.objs.size = h.objs.size from rfl, hc]; rfl⟩
  subst he
  refine ⟨(G.lim.keeps S.base).keeps x.toInCall.keep, codeAny_func ?_⟩
  obtain ⟨h₁, tk, rfl, _⟩ := x.done
  have hk₁ := x.toInCall.keep
  have cin : ∀ p ∈ cellsFrom (h.objs.size + 1) fn.scope.names [], h.objs.size < p.2 ∧ ∃ v, h₁.IsCell p.2 v := fun p hp =>
    ⟨x.above p.1 p.2 hp, _, x.cell p.1 p.2 (lookup_of_mem_nodup (cellNd _) hp)⟩
  have hbig : ∀ b, h.objs.size ≤ b → h.get? b = none := fun b hb => by
    cases q : h.get? b with
    | none => rfl
    | some o => exact absurd (Heap.lt_size q) (Nat.not_lt.mpr hb)
  have hoff : ∀ b, h.objs.size ≤ b → b ∉ αs := fun b hb q => by obtain ⟨o, e⟩ := S.in_h q; rw [hbig b hb] at e; cases e
  have nsz : h.objs.size ≤ (newEnv fn.scope h.objs.size mainGlobals (cellsFrom (h.objs.size + 1) fn.scope.names []) (qual ++ ".<locals>.") (some fn.addr) cdv none builtinsNs).locals := Nat.le_refl _
  have k : EK (newEnv fn.scope h.objs.size mainGlobals (cellsFrom (h.objs.size + 1) fn.scope.names []) (qual ++ ".<locals>.") (some fn.addr) cdv none builtinsNs) fn.scope.names := ⟨O.kind, rfl, rfl, rfl⟩
  have S1 : SR ρ H αs hp h₁ := S.keeps hk₁
  have F1 : FR ρ H (newEnv fn.scope h.objs.size mainGlobals (cellsFrom (h.objs.size + 1) fn.scope.names []) (qual ++ ".<locals>.") (some fn.addr) cdv none builtinsNs) αs (fn.params.zip xs ++ fn.more.map fun m => (m.1, m.2.2)) h₁ := by
    refine ⟨⟨hoff _ nsz, S.old (hbig _ nsz)⟩, fun p hp => ?_, fun p hp q hq e => ?_, fun y e => ?_, _, x.toInCall.ns, fun y sv e => ?_⟩
    · obtain ⟨lt, v, hc⟩ := cin p hp
      exact ⟨hoff _ (Nat.le_of_lt lt), S.old (hbig _ (Nat.le_of_lt lt)), Nat.ne_of_gt lt, v, hc⟩
    · have := x.apart
      exact name_of_addr this hp (e ▸ hq)
    · exact hcell _ y e
    · refine .inr ?_
      obtain ⟨v, hm, rv, bl, bc⟩ := Bx.look (newEnv fn.scope h.objs.size mainGlobals (cellsFrom (h.objs.size + 1) fn.scope.names []) (qual ++ ".<locals>.") (some fn.addr) cdv none builtinsNs).kindOf (hnm ▸ O.names) e
      rcases O.kinds y (hnm ▸ hm) with q | q
      · exact ⟨v, .inl ⟨q, bl _ q⟩, rv⟩
      · obtain ⟨c, hc⟩ := hcell (h.objs.size + 1) y q
        have := x.cell y c hc
        rw [bc _ (fun z => by have z' := q.symm.trans z; cases z')] at this
        exact ⟨v, .inr ⟨q, c, hc, this⟩, rv⟩
  have a' : AOk dd (A.deeper (newEnv fn.scope h.objs.size mainGlobals (cellsFrom (h.objs.size + 1) fn.scope.names []) (qual ++ ".<locals>.") (some fn.addr) cdv none builtinsNs)) :=
    ⟨a.hh, by have := a.dp; show A.depth + 1 + dd < _; omega, by have := a.un; show A.units + 3 + 3 * dd + 60 < _; omega⟩
  refine body a' k S1 F1 fun f αs' h' t' s S' F' rf => ?_
  have s0 : StepM (fp (newEnv fn.scope h.objs.size mainGlobals (cellsFrom (h.objs.size + 1) fn.scope.names []) (qual ++ ".<locals>.") (some fn.addr) cdv none builtinsNs) ++ addrs αs' mu) αs h αs' h' := (StepM.ext hk₁).trans s
  have s2 := s0.old S'.nodup fun b hb => by
    rcases List.mem_cons.mp hb with rfl | hb
    · exact hbig _ nsz
    · obtain ⟨p, hp, rfl⟩ := List.mem_map.mp hb
      exact hbig _ (Nat.le_of_lt (cin p hp).1)
  cases fl with
  | next => subst rf; exact hQ _ αs' h' t' s2 S' rfl
  | ret sv => obtain ⟨v, rfl, rv⟩ := rf; exact hQ _ αs' h' t' s2 S' rv
end
end Mine
end SD9
section SDA
open PySem PySem.W PySem.Calls PyProof.Rows
namespace Mine
section
variable {prog : Program} {w : World} {A : Around} {K : Frag} {H : Heap} {mg mb : Str → Option Value} {ρ : Nat → Int} {ih : IH} {cx : Cx} {αs αs' αs'' : List Addr} {hp hp' : Hp} {vars vars' : Vars} {ks : Kinds} {env : Env} {h h' : Heap} {g : Array GenState} {d : Drawn} {t : Nat} {o : OsState} {v : Value} {sv : SV} {xs : List SV}
theorem evalArgs_ok (I : Snd prog w H ρ ih) {fv : Value} (pos : Pos) (es : List Expr) (q : evs ih cx vars hp es = some (xs, hp')) {Q : Args → Shared → Prop} {E} (a : AOk cx.d A) (k : EK env cx.ks) (S : SR ρ H αs hp h) (F : FR ρ H env αs vars h)
    (hQ : ∀ vs αs' h' t', StepM [] αs h αs' h' → SR ρ H αs' hp' h' → RVs ρ αs' vs xs → Q ⟨vs, []⟩ ⟨h', g, d, t', o⟩) :
    wpAny (model prog w) A (evalArgs fv true (backTo pos (starEach es env)) []) Q E ⟨h, g, d, t, o⟩ := by
  cases es with
  | nil =>
    simp only [evs] at q
    cases q
    exact evalArgs_nil3 (hQ [] αs h t StepM.refl S trivial)
  | cons e es =>
    have hs := (evs_plain _ q).1
    rw [List.all_cons, Bool.and_eq_true] at hs
    have := evs_ok I pos (e :: es) q (Q := fun vs s => Q ⟨vs, []⟩ s) (E := E) (g := g) (d := d) (t := t) (o := o) a k S F hQ
    dsimp only at this
    rw [star_cons hs.1] at this ⊢
    exact evalArgs_plain this
theorem builtin_ok (G : Gd K H mg mb) (I : Snd prog w H ρ ih) (id : String) {p pos : Pos} {es : List Expr} (hx : cx.ks.lookup (Str.ofString id) = some .globalImplicit) (hm : mg (Str.ofString id) = none ∧ mb (Str.ofString id) = some (.builtin id))
    (q : evs ih cx vars hp es = some (xs, hp')) {Q : Value → Shared → Prop} {E} (a : AOk cx.d A) (k : EK env cx.ks) (S : SR ρ H αs hp h) (F : FR ρ H env αs vars h)
    (hQ : ∀ vs αs' h' t', StepM [] αs h αs' h' → SR ρ H αs' hp' h' → RVs ρ αs' vs xs → wpAny (model prog w) A (call (.builtin id) vs) Q E ⟨h', g, d, t', o⟩) (hd : (Str.ofString id == ("__debug__" : Str)) = false := by decide) :
    wpAny (model prog w) A (eval (.Call (.Name (Str.ofString id) p) es [] pos) env) Q E ⟨h, g, d, t, o⟩ := by
  refine Call_ (Name_function_global k.kind ((k.kindOf _).trans hx) (loadGlobal_builtin (mg := mg) (mb := mb) ?_ hm.1 ?_ hm.2 ?_) hd)
  · rw [k.glob]; exact G.g.keeps S.base
  · rw [k.bi]; exact G.b.keeps S.base
  · exact callWith_builtin (plain_any _ _ _ (evs_plain _ q).1) (evalArgs_ok I pos es q a k S F hQ)
theorem type_ok (G : Gd K H mg mb) (I : Snd prog w H ρ ih) (id : String) {p pos : Pos} {es : List Expr} (hx : cx.ks.lookup (Str.ofString id) = some .globalImplicit) (hm : mg (Str.ofString id) = none ∧ mb (Str.ofString id) = some (.type id))
    (q : evs ih cx vars hp es = some (xs, hp')) {Q : Value → Shared → Prop} {E} (a : AOk cx.d A) (k : EK env cx.ks) (S : SR ρ H αs hp h) (F : FR ρ H env αs vars h)
    (hQ : ∀ vs αs' h' t', StepM [] αs h αs' h' → SR ρ H αs' hp' h' → RVs ρ αs' vs xs → wpAny (model prog w) A (call (.type id) vs) Q E ⟨h', g, d, t', o⟩) (hd : (Str.ofString id == ("__debug__" : Str)) = false := by decide) :
    wpAny (model prog w) A (eval (.Call (.Name (Str.ofString id) p) es [] pos) env) Q E ⟨h, g, d, t, o⟩ := by
  refine Call_ (Name_function_global k.kind ((k.kindOf _).trans hx) (loadGlobal_builtin (mg := mg) (mb := mb) ?_ hm.1 ?_ hm.2 ?_) hd)
  · rw [k.glob]; exact G.g.keeps S.base
  · rw [k.bi]; exact G.b.keeps S.base
  · exact PySem.callWith_type (plain_any _ _ _ (evs_plain _ q).1) (evalArgs_ok I pos es q a k S F hQ)
theorem glob_inv {x : Str} {n : String} (e : glob cx x n = true) : x = Str.ofString n ∧ cx.ks.lookup (Str.ofString n) = some .globalImplicit := by
  unfold glob at e
  rw [Bool.and_eq_true, decide_eq_true_eq, decide_eq_true_eq] at e
  obtain ⟨rfl, e⟩ := e
  exact ⟨rfl, e⟩
theorem one_inv {vs : List Value} {a : SV} (r : RVs ρ αs vs [a]) : ∃ v1, vs = [v1] ∧ RV ρ αs v1 a := by
  match vs, r with
  | [v1], r => exact ⟨v1, rfl, r.1⟩
theorem sumS_ok : ∀ {xs : List SV} {vs : List Value} {acc e : IE}, sumS acc xs = some e → RVs ρ αs vs xs → ∃ ns, IntsAre vs ns ∧ e.den ρ = acc.den ρ + ns.sum
  | [], [], acc, e, q, _ => by simp only [sumS] at q; cases q; exact ⟨[], .nil, by simp⟩
  | .int x :: xs, v :: vs, acc, e, q, r => by
    simp only [sumS] at q
    obtain ⟨ns, hi, he⟩ := sumS_ok q r.2
    obtain ⟨tk, rfl⟩ := r.1
    refine ⟨_, .cons _ tk hi, ?_⟩
    rw [he, den_mkAdd, List.sum_cons, Int.add_assoc]
  | .none :: _, _ :: _, _, _, q, _ => by simp [sumS] at q
  | .bool _ :: _, _ :: _, _, _, q, _ => by simp [sumS] at q
  | .ref _ :: _, _ :: _, _, _, q, _ => by simp [sumS] at q
  | .junk :: _, _ :: _, _, _, q, _ => by simp [sumS] at q
  | [], _ :: _, _, _, _, r => r.elim
  | _ :: _, [], _, _, _, r => r.elim
theorem sum_ok {l : Addr} {vs : List Value} {ns : List Int} {Q : Value → Shared → Prop} {E} (hh : A.handled = none) (hl : h.IsList l vs.toArray) (hi : IntsAre vs ns)
    (hQ : ∀ h' tk t', (∀ b o, h.get? b = some o → h'.get? b = some o) → Q (.int ns.sum t') ⟨h', g, d, tk, o⟩) :
    wpAny (model prog w) A (call (.builtin "sum") [.ref l]) Q E ⟨h, g, d, t, o⟩ := by
  obtain ⟨xs, hx⟩ := hi.allInts.items
  have hn : numsOf vs.toArray.toList = ns := by rw [show vs.toArray.toList = vs from rfl, hi.numsOf]
  rw [hx] at hl hn
  rw [nums_intItems] at hn
  refine sum_intListG hh hl fun h' tk t' hk => ?_
  have := hQ h' tk t' hk
  rw [preSum_eq, List.take_of_length_le (by simp), hn]
  exact this
/-! the built-ins -/
theorem len_ev (G : Gd K H mg mb) (I : Snd prog w H ρ ih) {p pos : Pos} {es : List Expr} {f : Str} {i : Nat} (hg : glob cx f "len" = true) (q : evs ih cx vars hp es = some ([.ref i], hp')) (hi : hp'[i]? = some (.list xs)) (hl : xs.length ≤ 1000) :
    EvOk prog w H ρ cx vars hp (.int (.lit xs.length)) hp' fun env => eval (.Call (.Name f p) es [] pos) env := by
  obtain ⟨rfl, hx⟩ := glob_inv hg
  intro A env αs h g d t o Q E a k S F hQ
  refine builtin_ok G I "len" hx G.len q a k S F fun vs αs1 h1 t1 s1 S1 r1 => ?_
  obtain ⟨v, rfl, rv⟩ := one_inv r1
  obtain ⟨ad, ha, rfl⟩ := rv
  obtain ⟨ob, eo, ro⟩ := S1.at ha hi
  obtain ⟨vs, n, rfl, rvs⟩ := ro
  have hlen := rvs.length
  refine kun_lenL (k := xs.length) (lO_list eo) (by rw [List.size_toArray, hlen]) (by omega) ?_
  exact hQ _ αs1 h1 _ s1 S1 ⟨_, rfl⟩
theorem min_ev (G : Gd K H mg mb) (I : Snd prog w H ρ ih) {p pos : Pos} {es : List Expr} {f : Str} {x y : Int} (hg : glob cx f "min" = true) (q : evs ih cx vars hp es = some ([.int (.lit x), .int (.lit y)], hp')) :
    EvOk prog w H ρ cx vars hp (.int (.lit (if y < x then y else x))) hp' fun env => eval (.Call (.Name f p) es [] pos) env := by
  obtain ⟨rfl, hx⟩ := glob_inv hg
  intro A env αs h g d t o Q E a k S F hQ
  refine builtin_ok G I "min" hx G.min q a k S F fun vs αs1 h1 t1 s1 S1 r1 => ?_
  obtain ⟨v1, v2, rfl, ⟨k1, rfl⟩, ⟨k2, rfl⟩⟩ := pair_inv r1
  refine min_two_ints a.hh fun h' tk hk => ?_
  split
  · rename_i c; exact hQ _ αs1 h' tk (s1.trans (StepM.ext hk)) (S1.keeps hk) ⟨k2, by have c' : y < x := c; show _ = Value.int (if y < x then y else x) _; rw [if_pos c']; rfl⟩
  · rename_i c; exact hQ _ αs1 h' tk (s1.trans (StepM.ext hk)) (S1.keeps hk) ⟨k1, by have c' : ¬ y < x := c; show _ = Value.int (if y < x then y else x) _; rw [if_neg c']; rfl⟩
theorem max_ev (G : Gd K H mg mb) (I : Snd prog w H ρ ih) {p pos : Pos} {es : List Expr} {f : Str} {x y : Int} (hg : glob cx f "max" = true) (q : evs ih cx vars hp es = some ([.int (.lit x), .int (.lit y)], hp')) :
    EvOk prog w H ρ cx vars hp (.int (.lit (if x < y then y else x))) hp' fun env => eval (.Call (.Name f p) es [] pos) env := by
  obtain ⟨rfl, hx⟩ := glob_inv hg
  intro A env αs h g d t o Q E a k S F hQ
  refine builtin_ok G I "max" hx G.max q a k S F fun vs αs1 h1 t1 s1 S1 r1 => ?_
  obtain ⟨v1, v2, rfl, ⟨k1, rfl⟩, ⟨k2, rfl⟩⟩ := pair_inv r1
  refine max_two_ints a.hh fun h' tk hk => ?_
  split
  · rename_i c; exact hQ _ αs1 h' tk (s1.trans (StepM.ext hk)) (S1.keeps hk) ⟨k2, by have c' : x < y := c; show _ = Value.int (if x < y then y else x) _; rw [if_pos c']; rfl⟩
  · rename_i c; exact hQ _ αs1 h' tk (s1.trans (StepM.ext hk)) (S1.keeps hk) ⟨k1, by have c' : ¬ x < y := c; show _ = Value.int (if x < y then y else x) _; rw [if_neg c']; rfl⟩
theorem sum_ev (G : Gd K H mg mb) (I : Snd prog w H ρ ih) {p pos : Pos} {es : List Expr} {f : Str} {i : Nat} {e : IE} (hg : glob cx f "sum" = true) (q : evs ih cx vars hp es = some ([.ref i], hp')) (hi : hp'[i]? = some (.list xs)) (hs : sumS (.lit 0) xs = some e) :
    EvOk prog w H ρ cx vars hp (.int e) hp' fun env => eval (.Call (.Name f p) es [] pos) env := by
  obtain ⟨rfl, hx⟩ := glob_inv hg
  intro A env αs h g d t o Q E a k S F hQ
  refine builtin_ok G I "sum" hx G.sum q a k S F fun vs αs1 h1 t1 s1 S1 r1 => ?_
  obtain ⟨v, rfl, rv⟩ := one_inv r1
  obtain ⟨ad, ha, rfl⟩ := rv
  obtain ⟨ob, eo, ro⟩ := S1.at ha hi
  obtain ⟨vs, n, rfl, rvs⟩ := ro
  obtain ⟨ns, hin, hd⟩ := sumS_ok hs rvs
  refine sum_ok a.hh (lO_list eo) hin fun h' tk t' hk => ?_
  refine hQ _ αs1 h' tk (s1.trans (StepM.ext hk)) (S1.keeps hk) ⟨t', ?_⟩
  rw [hd]; simp [IE.den]
theorem dict_ev {pos : Pos} : EvOk prog w H ρ cx vars hp (.ref hp.length) (hp ++ [.dict]) fun env => eval (.Dict [] [] pos) env := by
  intro A env αs h g d t o Q E a k S F hQ
  refine wpAny_Dict_empty ?_
  refine hQ _ (αs ++ [h.objs.size]) _ _ (StepM.alloc (o := dO) rfl) (S.alloc (o := dO) rfl ⟨_, rfl⟩) ⟨h.objs.size, ?_, rfl⟩
  rw [← S.len, List.getElem?_append_right (Nat.le_refl _), Nat.sub_self]; rfl
/-! a def of the text's -/
noncomputable def TabOk (K : Frag) (mg : Str → Option Value) (ρ : Nat → Int) (T : Tab) : Prop := ∀ f n fn, T f n = some fn → FnOk K mg ρ f n fn
theorem callM_ok (G : Gd K H mg mb) {T : Tab} (TO : TabOk K mg ρ T) (I : Snd prog w H ρ ih) {p pos : Pos} {es : List Expr} {f : Str} {hp1 hp2 : Hp} {mu : List Nat} (q : evs ih cx vars hp es = some (xs, hp1)) (qc : callM T ih cx hp1 f xs = some (sv, hp2, mu)) {Q : Value → Shared → Prop} {E} (a : AOk cx.d A) (k : EK env cx.ks) (S : SR ρ H αs hp h) (F : FR ρ H env αs vars h)
    (hQ : ∀ v αs' h' t', StepM (addrs αs' mu) αs h αs' h' → SR ρ H αs' hp2 h' → RV ρ αs' v sv → Q v ⟨h', g, d, t', o⟩) :
    wpAny (model prog w) A (eval (.Call (.Name f p) es [] pos) env) Q E ⟨h, g, d, t, o⟩ := by
  unfold callM at qc
  split at qc
  · rename_i hf
    have hf := of_decide_eq_true hf
    split at qc
    · rename_i fn dd hT hd
      obtain ⟨⟨fl, vars3, hp3, mu3⟩, qb, qc⟩ := bind_some qc
      have O := TO _ _ _ hT
      have X : K.In h := G.X.keeps S.base
      refine Call_ (Name_function_global k.kind ((k.kindOf _).trans hf) (loadGlobal_global (mg := mg) ?_ O.glob ?_) O.dbg)
      · rw [k.glob]; exact G.g.keeps S.base
      · refine callWith_of (P := K.In) (by rw [plain_any _ _ _ (evs_plain _ q).1]; rfl) (keeps_K O.keep) (evalArgs_ok I pos es q a k S F fun vs αs1 h1 t1 s1 S1 r1 => ⟨X.keeps s1.keeps, ?_⟩)
        rw [hd] at a
        refine enter_ok G O a S1 r1 rfl (I.ss qb) fun v αs2 h2 t2 s2 S2 r2 => ?_
        simp only [Option.some.injEq, Prod.mk.injEq] at qc
        obtain ⟨rfl, rfl, rfl⟩ := qc
        obtain ⟨αs3, s3, S3, r3⟩ := shrink_ok (r := (fl.val, hp3)) s2 S2 r2 S1.len
        refine hQ v αs3 h2 t2 ((s1.of0).trans (s3.weak fun b hb => ?_)) S3 r3
        rw [S1.len] at hb
        obtain ⟨⟨m, rfl⟩, _⟩ := s3
        obtain ⟨i, hi, ei⟩ := mem_addrs.mp hb
        exact mem_addrs.mpr ⟨i, hi, get_pre ei⟩
    · cases qc
  · cases qc
theorem call_ev (G : Gd K H mg mb) {T : Tab} (TO : TabOk K mg ρ T) (I : Snd prog w H ρ ih) {p pos : Pos} {es : List Expr} {f : Str} {hp1 hp2 : Hp} (q : evs ih cx vars hp es = some (xs, hp1)) (qc : callS T ih cx hp1 f xs = some (sv, hp2)) :
    EvOk prog w H ρ cx vars hp sv hp2 fun env => eval (.Call (.Name f p) es [] pos) env := by
  intro A env αs h g d t o Q E a k S F hQ
  unfold callS at qc
  obtain ⟨⟨v1, hp3, mu⟩, qm, qc⟩ := bind_some qc
  dsimp only at qc
  split at qc
  · rename_i hmu
    subst hmu
    cases qc
    exact callM_ok G TO I q qm a k S F fun v αs' h' t' s S' r => hQ v αs' h' t' s S' r
  · cases qc
end
end Mine
end SDA
section SDB
open PySem PySem.W PySem.Calls PyProof.Rows
namespace Mine
/-! ### binding a loop's target -/
noncomputable def ItV (ρ : Nat → Int) (αs : List Addr) (h : Heap) (v : Value) : It → Prop
  | .one sv => RV ρ αs v sv
  | .two a b => ∃ T v1 v2, v = .ref T ∧ IsTup h T #[v1, v2] ∧ RV ρ αs v1 a ∧ RV ρ αs v2 b
noncomputable def OwnM (env : Env) (M : List Addr) (xs : List Str) : Prop := env.locals ∈ M ∧ ∀ x ∈ xs, ∀ c, env.cells.lookup x = some c → c ∈ M
section
variable {prog : Program} {w : World} {A : Around} {ρ : Nat → Int} {H : Heap} {αs αs' αs'' αs0 : List Addr} {hp hp' : Hp} {vars vars' : Vars} {ks : Kinds} {env : Env} {h h' h'' h0 : Heap} {g : Array GenState} {d : Drawn} {t : Nat} {o : OsState} {v : Value} {sv : SV} {M Mb Mt : List Addr}
theorem OwnM.fp {xs : List Str} : OwnM env (fp env) xs := ⟨List.mem_cons_self, fun _ _ _ hc => List.mem_cons_of_mem _ (List.mem_map_of_mem (f := (·.2)) (PySem.mem_of_lookup hc))⟩
theorem ItV.step {it : It} (r : ItV ρ αs h' v it) (s : StepM M αs h0 αs' h) : ItV ρ αs' h' v it := by
  cases it with
  | one sv => exact RV.step s r
  | two a b => obtain ⟨T, v1, v2, e, hT, r1, r2⟩ := r; exact ⟨T, v1, v2, e, hT, r1.step s, r2.step s⟩
theorem store_okM {x : Str} {Q : Unit → Shared → Prop} {E} (O : OwnM env M [x]) (k : EK env ks) (S : SR ρ H αs hp h) (F : FR ρ H env αs vars h) (hc : canSet ks x = true) (r : RV ρ αs v sv)
    (hQ : ∀ h' t', StepM M αs h αs h' → SR ρ H αs hp h' → FR ρ H env αs (setV vars x sv) h' → Q () ⟨h', g, d, t', o⟩) : wpAny (model prog w) A (storeName env x v) Q E ⟨h, g, d, t, o⟩ := by
  rcases canSet_cases hc with hx | hx
  · have hx' : env.kindOf x = some .local := (k.kindOf x).trans hx
    obtain ⟨m, hn, hv⟩ := F.ns
    refine wpAny_storeName_local hx' hn (fun h' hn' hs => ?_) (by rw [k.kind]; rfl)
    have hg := Ns.get hn'
    exact hQ h' _ (StepM.but O.1 hs hg) (S.but hs F.loc.1 F.loc.2) (F.stL hv hx' r hn' hs)
  · have hx' : env.kindOf x = some .cell := (k.kindOf x).trans hx
    obtain ⟨c, hcl⟩ := F.has x hx'
    have hm : (x, c) ∈ env.cells := PySem.mem_of_lookup hcl
    obtain ⟨n, n0, _, v0, hc0⟩ := F.cel _ hm
    refine wpAny_storeName_cell k.kind hx' hcl hc0 fun h' hv' hs => ?_
    exact hQ h' _ (StepM.but (O.2 x (List.mem_singleton.mpr rfl) c hcl) hs (IsCell.get hv')) (S.but hs n n0) (F.stC hx' hcl r hv' hs)
theorem bind_okM {x : Str} {pos : Pos} {Q : Unit → Shared → Prop} {E} (O : OwnM env M [x]) (k : EK env ks) (S : SR ρ H αs hp h) (F : FR ρ H env αs vars h) (hc : canSet ks x = true) (r : RV ρ αs v sv)
    (hQ : ∀ h' t', StepM M αs h αs h' → SR ρ H αs hp h' → FR ρ H env αs (setV vars x sv) h' → Q () ⟨h', g, d, t', o⟩) : wpAny (model prog w) A (assign (.Name x pos) env v) Q E ⟨h, g, d, t, o⟩ :=
  wpAny_assign_Name (store_okM O k S F hc r hQ)
theorem setAll_okM (k : EK env ks) (es : List Expr) : ∀ {vars vars' : Vars} {xs : List SV} {vs : List Value} {h : Heap} {t : Nat} {Q : Unit → Shared → Prop} {E}, OwnM env M (es.flatMap nameOf) → setAll ks vars es xs = some vars' → SR ρ H αs hp h → FR ρ H env αs vars h → RVs ρ αs vs xs →
    (∀ h' t', StepM M αs h αs h' → SR ρ H αs hp h' → FR ρ H env αs vars' h' → Q () ⟨h', g, d, t', o⟩) → wpAny (model prog w) A (assignInOrder ((assignEach es env).map (·.2)) vs) Q E ⟨h, g, d, t, o⟩ := by
  induction es with
  | nil =>
    intro vars vars' xs vs h t Q E _ e S F r hQ
    obtain ⟨rfl, rfl⟩ := setAll_nil e
    cases vs with
    | nil => exact assignInOrder_nil (hQ h t StepM.refl S F)
    | cons a l => exact r.elim
  | cons e0 es ih =>
    intro vars vars' xs vs h t Q E O e S F r hQ
    obtain ⟨x, p, sv, xs', rfl, rfl, hc, e'⟩ := setAll_cons e
    have O1 : OwnM env M [x] := ⟨O.1, fun y hy => O.2 y (List.mem_flatMap.mpr ⟨_, List.mem_cons_self, hy⟩)⟩
    have O2 : OwnM env M (es.flatMap nameOf) := ⟨O.1, fun y hy => O.2 y (by rw [List.flatMap_cons]; exact List.mem_append_right _ hy)⟩
    cases vs with
    | nil => exact r.elim
    | cons v vs =>
      rw [each_Name]
      refine assignInOrder_cons (bind_okM O1 k S F hc r.1 fun h' t' s S' F' => ?_)
      exact ih O2 e' S' F' r.2 fun h'' t'' s' S'' F'' => hQ h'' t'' (s.trans s') S'' F''
theorem tup_asg (hh : A.handled = none) (k : EK env ks) {es : List Expr} {n : Nat} {pos : Pos} {T : Addr} {xs : List SV} {vs : List Value} {Q : Unit → Shared → Prop} {E} (O : OwnM env M (es.flatMap nameOf)) (hT : IsTup h T vs.toArray) (e : setAll ks vars es xs = some vars') (S : SR ρ H αs hp h) (F : FR ρ H env αs vars h) (r : RVs ρ αs vs xs)
    (hQ : ∀ h' t', StepM M αs h αs h' → SR ρ H αs hp h' → FR ρ H env αs vars' h' → Q () ⟨h', g, d, t', o⟩) : wpAny (model prog w) A (assign (.Tuple es n pos) env (.ref T)) Q E ⟨h, g, d, t, o⟩ := by
  obtain ⟨a, b⟩ := setAll_star (env := env) es e
  refine assign_Tuple_tuple hh hT (by rw [a, ← r.length, List.size_toArray]) b fun h' hk => ?_
  have hk' : ∀ b o, h.get? b = some o → h'.get? b = some o := fun b o e => hk b o (Nat.ne_of_lt (Heap.lt_size e)) e
  have s0 : StepM M αs h αs h' := StepM.ext hk'
  exact setAll_okM k es O e (S.keeps hk') (F.step0 (StepM.ext hk')) r fun h'' t'' s' S'' F'' => hQ h'' t'' (s0.trans s') S'' F''
theorem asg_ok (hh : A.handled = none) (k : EK env ks) {target : Expr} {it : It} {Q : Unit → Shared → Prop} {E} (O : OwnM env M (tnames target)) (e : asgS ks vars hp target it = some vars') (S : SR ρ H αs hp h) (F : FR ρ H env αs vars h) (r : ItV ρ αs h v it)
    (hQ : ∀ h' t', StepM M αs h αs h' → SR ρ H αs hp h' → FR ρ H env αs vars' h' → Q () ⟨h', g, d, t', o⟩) : wpAny (model prog w) A (assign target env v) Q E ⟨h, g, d, t, o⟩ := by
  unfold asgS at e
  split at e
  · split at e
    · rename_i hc; cases e; exact bind_okM O k S F hc r hQ
    · cases e
  · obtain ⟨T, v1, v2, rfl, hT, r1, r2⟩ := r
    exact tup_asg hh k (vs := [v1, v2]) O hT e S F ⟨r1, r2, trivial⟩ hQ
  · split at e
    · rename_i hi
      obtain ⟨T, ha, rfl⟩ := r
      obtain ⟨ob, eo, ro⟩ := S.at ha hi
      obtain ⟨vs, n, rfl, rvs⟩ := ro
      exact tup_asg hh k O ⟨_, eo, rfl, n, rfl⟩ e S F rvs hQ
    · cases e
  · cases e

/-! ### what a loop draws from -/
structure Drw (prog : Program) (w : World) (A : Around) (ρ : Nat → Int) (H : Heap) (αs : List Addr) (h0 : Heap) (target : Expr) (I : Addr) (its : List It) (src fp wr : List Addr) (P Md : Nat → Value → Heap → Prop) (St : Nat → Heap → Prop) : Prop where
  K : KTurns prog w A target I fp wr its.length P Md St
  val : ∀ i v h it, its[i]? = some it → P i v h → ItV ρ αs h v it
  frsh : ∀ b ∈ wr, b ∉ αs ∧ H.get? b = none ∧ h0.get? b = none
  fpo : ∀ b ∈ fp, b ∈ wr ∨ b ∈ src
  ex : ∀ i h, St i h → ∀ b ∈ wr, ∃ o, h.get? b = some o
theorem SR.butW (S : SR ρ H αs hp h) {wr : List Addr} (hw : ∀ b ∈ wr, b ∉ αs ∧ H.get? b = none) (hk : ∀ b o, b ∉ wr → h.get? b = some o → h'.get? b = some o) : SR ρ H αs hp h' :=
  ⟨fun b o e => hk b o (fun q => by rw [(hw b q).2] at e; cases e) (S.base b o e), S.len, fun i a so e1 e2 => let ⟨o, e, r⟩ := S.real i a so e1 e2; ⟨o, hk a o (fun q => (hw a q).1 (List.mem_of_getElem? e1)) e, r⟩, S.nodup, S.fresh, S.sys, S.top⟩
theorem FR.butW (F : FR ρ H env αs vars h) {wr : List Addr} (hw : ∀ b ∈ Mine.fp env, b ∉ wr) (hk : ∀ b o, b ∉ wr → h.get? b = some o → h'.get? b = some o) : FR ρ H env αs vars h' := by
  obtain ⟨m, hn, hv⟩ := F.ns
  have cw : ∀ p ∈ env.cells, p.2 ∉ wr := fun p hp => hw _ (List.mem_cons_of_mem _ (List.mem_map_of_mem (f := (·.2)) hp))
  refine ⟨F.loc, fun p hp => ?_, F.inj, F.has, m, hn.at' fun o e => hk _ o (hw _ List.mem_cons_self) e, fun x sv e => ?_⟩
  · obtain ⟨n, n0, ne, v, hc⟩ := F.cel p hp
    exact ⟨n, n0, ne, v, IsCell.at hc fun o e => hk _ o (cw p hp) e⟩
  · rcases hv x sv e with q | ⟨v, b, r⟩
    · exact .inl q
    · refine .inr ⟨v, ?_, r⟩
      rcases b with b | ⟨b1, c, b2, b3⟩
      · exact .inl b
      · exact .inr ⟨b1, c, b2, IsCell.at b3 fun o e => hk _ o (cw _ (PySem.mem_of_lookup b2)) e⟩
theorem StepM.butW (s : StepM M αs0 h0 αs h) {wr : List Addr} (hw : ∀ b ∈ wr, h0.get? b = none) (hk : ∀ b o, b ∉ wr → h.get? b = some o → h'.get? b = some o) : StepM M αs0 h0 αs h' :=
  ⟨s.1, fun b o e => let ⟨n, o', e', q⟩ := s.2 b o e; ⟨n, o', hk b o' (fun z => by rw [hw b z] at e; cases e) e', q⟩⟩
/-- one item drawn and bound -/
theorem next_ok {target : Expr} {I : Addr} {its : List It} {src fp wr : List Addr} {P Md : Nat → Value → Heap → Prop} {St : Nat → Heap → Prop} (D : Drw prog w A ρ H αs0 h0 target I its src fp wr P Md St) (hh : A.handled = none) (k : EK env ks) {i : Nat} {it : It}
    (O : OwnM env Mb (tnames target)) (hi : its[i]? = some it) (st : St i h) (s : StepM Mt αs0 h0 αs h) (e : asgS ks vars hp target it = some vars') (S : SR ρ H αs hp h) (F : FR ρ H env αs vars h)
    (hwr : ∀ b ∈ wr, b ∉ αs) (hfw : ∀ b ∈ Mine.fp env, b ∉ wr) (hsrc : ∀ b ∈ src, b ∉ Mb) (hMw : ∀ b ∈ Mb, b ∉ wr) (hMt : ∀ b ∈ Mb, b ∈ Mt) {Q : Unit → Shared → Prop} {E} {N : Option Value → Shared → Prop}
    (hN : ∀ v s1, wpAny (model prog w) A (letOwnedTupleGo target (.ref I) v) (fun _ s1' => wpAny (model prog w) A (assign target env v) Q E s1') E s1 → N (some v) s1)
    (hQ : ∀ h' t', St (i + 1) h' → StepM Mt αs0 h0 αs h' → (∀ b o, b ∉ wr → b ∉ Mb → h.get? b = some o → h'.get? b = some o) → SR ρ H αs hp h' → FR ρ H env αs vars' h' → Q () ⟨h', g, d, t', o⟩) :
    wpAny (model prog w) A (pyNext (.ref I)) N E ⟨h, g, d, t, o⟩ := by
  have hlt : i < its.length := (List.getElem?_eq_some_iff.mp hi).1
  refine D.K.item i _ _ _ hlt st fun v h1 t1 hm hk1 => hN v _ ?_
  refine D.K.go i v _ _ _ hm fun h2 hP st2 hk2 => ?_
  have hk : ∀ b o, b ∉ wr → h.get? b = some o → h2.get? b = some o := fun b o q e => hk2 b o q (hk1 b o q e)
  have hw : ∀ b ∈ wr, b ∉ αs ∧ H.get? b = none := fun b q => ⟨hwr b q, (D.frsh b q).2.1⟩
  refine asg_ok hh k O e (S.butW hw hk) (F.butW hfw hk) ((D.val i v h2 it hi hP).step s) fun h3 t3 s3 S3 F3 => ?_
  have hk3 : ∀ b o, b ∉ Mb → h2.get? b = some o → h3.get? b = some o := fun b o q e => s3.keep e q
  refine hQ h3 t3 (D.K.frame _ _ _ st2 fun b hb o e => hk3 b o (fun q => ?_) e) (((s.butW (fun b q => (D.frsh b q).2.2) hk)).trans (s3.weak hMt)) (fun b o q1 q2 e => hk3 b o q2 (hk b o q1 e)) S3 F3
  rcases D.fpo b hb with z | z
  · exact hMw b q z
  · exact hsrc b z q
end
end Mine
end SDB
section SDC
open PySem PySem.W PySem.Calls PyProof.Rows
namespace Mine
theorem wider {prog : Program} {w : World} {A : Around} {target : Expr} {I : Addr} {fp wr wr' : List Addr} {n : Nat} {P Md : Nat → Value → Heap → Prop} {St : Nat → Heap → Prop} (K : KTurns prog w A target I fp wr n P Md St) (a : ∀ b ∈ wr, b ∈ wr') (c : ∀ b ∈ wr', b ∈ fp) : KTurns prog w A target I fp wr' n P Md St where
  sub := c
  frame := K.frame
  item := fun i s Q E hi st hQ => K.item i s Q E hi st fun v h' tk hm hk => hQ v h' tk hm fun b o q e => hk b o (fun z => q (a b z)) e
  go := fun i v s Q E hm hQ => K.go i v s Q E hm fun h' hP st hk => hQ h' hP st fun b o q e => hk b o (fun z => q (a b z)) e
  done := fun s Q E st hQ => K.done s Q E st fun h' tk hk => hQ h' tk fun b o q e => hk b o (fun z => q (a b z)) e
section
variable {prog : Program} {w : World} {A : Around} {K : Frag} {mg mb : Str → Option Value} {ρ : Nat → Int} {H : Heap} {ih : IH} {cx : Cx} {αs αs' αs'' αs0 : List Addr} {hp hp' : Hp} {vars vars' : Vars} {env : Env} {h h' h'' h0 : Heap} {g : Array GenState} {d : Drawn} {t : Nat} {o : OsState} {v : Value} {sv : SV} {xs : List SV} {target : Expr}
theorem fresh_ge (S : SR ρ H αs hp h) {b : Addr} (hb : h.objs.size ≤ b) : b ∉ αs ∧ H.get? b = none ∧ h.get? b = none := by
  have e : h.get? b = none := by
    cases q : h.get? b with
    | none => rfl
    | some o => exact absurd (Heap.lt_size q) (Nat.not_lt.mpr hb)
  exact ⟨(fun q => by obtain ⟨o, e'⟩ := S.in_h q; rw [e] at e'; cases e'), S.old e, e⟩
theorem no_old (s : ∀ b o, h.get? b = some o → h'.get? b = some o) {b : Addr} (e : h'.get? b = none) : h.get? b = none := by
  cases q : h.get? b with
  | none => rfl
  | some o => rw [s b o q] at e; cases e
theorem go_list {I l : Addr} {i : Nat} {v : Value} {s : Shared} {Q : Unit → Shared → Prop} {E} (target : Expr) (hit : s.heap.IsListIter I l i) (hQ : Q () s) : wpAny (model prog w) A (letOwnedTupleGo target (.ref I) v) Q E s := by
  have key : ∀ a : Addr, wpAny (model prog w) A (do
      let o ← load I
      match o.cls, o.data with
      | .type n, .fields vs =>
        if ["enumerate", "zip", "dict_itemiterator", "dict_reverseitemiterator", "odict_iterator", "itertools.zip_longest", "itertools.pairwise"].contains n && vs[0]? == some (rawInt a) then
          rule "for.unpacks-the-owned-tuple"
          updateField I 0 .none
      | _, _ => pure ()) Q E s := fun a => by
    exact wpAny_letOwnedTupleGo_listiter (elts := []) (x1 := 0) (pos := default) (T := a) hit hQ
  cases target <;> first
    | exact wpAny_pure hQ
    | (cases v <;> first | exact wpAny_pure hQ | exact key _)
/-- what a source hands over -/
noncomputable def SrcTo (prog : Program) (w : World) (A : Around) (ρ : Nat → Int) (H : Heap) (target : Expr) (αs : List Addr) (h : Heap) (hp' : Hp) (its : List It) (is : List Nat) (g : Array GenState) (d : Drawn) (o : OsState) (Q : Value → Shared → Prop) : Prop :=
  ∀ I αs1 h1 t1 src fp wr P Md St, StepM [] αs h αs1 h1 → SR ρ H αs1 hp' h1 → Drw prog w A ρ H αs1 h target I its src fp wr P Md St → St 0 h1 → (∀ b ∈ src, ∃ i ∈ is, αs1[i]? = some b) → (∀ (s : Shared) (Q' : Value → Shared → Prop) (E' : Value → Shared → Prop), St 0 s.heap → Q' (.ref I) s → wpAny (model prog w) A (pyIter (.ref I)) Q' E' s) → Q (.ref I) ⟨h1, g, d, t1, o⟩
theorem list_src (hh : A.handled = none) (S : SR ρ H αs hp h) {i : Nat} {ax : Addr} (ha : αs[i]? = some ax) (hi : hp[i]? = some (.list xs)) (target : Expr) {Q : Value → Shared → Prop} {E} (hQ : SrcTo prog w A ρ H target αs h hp (xs.map .one) [i] g d o Q) :
    wpAny (model prog w) A (pyIter (.ref ax)) Q E ⟨h, g, d, t, o⟩ := by
  obtain ⟨ob, eo, ro⟩ := S.at ha hi
  obtain ⟨vs, n, rfl, rvs⟩ := ro
  have hl := lO_list eo
  refine wpAny_pyIter_list hl ?_
  have hk : ∀ b o, h.get? b = some o → (h.push { cls := .type "list_iterator", data := .fields #[.ref ax, .int 0 0] }).get? b = some o := fun b o e => Heap.get?_push_of_some _ e
  have hne : ax ≠ h.objs.size := Nat.ne_of_lt (Heap.lt_size eo)
  have f := fresh_ge S (Nat.le_refl h.objs.size)
  have W := Walks.list (prog := prog) (w := w) (A := A) hh h.objs.size ax hne vs.toArray
  have D : Drw prog w A ρ H αs h target h.objs.size (xs.map .one) [ax] [h.objs.size, ax] [h.objs.size] (fun i v _ => vs.toArray[i]? = some v) (fun i v h' => vs.toArray[i]? = some v ∧ h'.IsListIter h.objs.size ax (i + 1) ∧ h'.IsList ax vs.toArray) (fun i h' => h'.IsListIter h.objs.size ax i ∧ h'.IsList ax vs.toArray) := by
   refine ⟨?_, fun j v h' it e1 e2 => ?_, fun b hb => ?_, fun b hb => ?_, fun j h' st b hb => ?_⟩
   · rw [List.length_map, ← rvs.length, ← List.size_toArray]
     exact KTurns.ofWalks W fun i v s Q E st hQ => go_list target st.1 hQ
   · rw [List.getElem?_map] at e1
     cases q : xs[j]? with
     | none => rw [q] at e1; cases e1
     | some x =>
       rw [q] at e1
       cases e1
       obtain ⟨v', e', r⟩ := rvs.get q
       have : vs[j]? = some v := by simpa using e2
       rw [this] at e'; cases e'; exact r
   · rw [List.mem_singleton.mp hb]; exact f
   · rcases List.mem_cons.mp hb with rfl | hb
     · exact .inl List.mem_cons_self
     · exact .inr hb
   · rw [List.mem_singleton.mp hb]; obtain ⟨o, e, _⟩ := st.1; exact ⟨o, e⟩
  refine hQ h.objs.size αs _ _ [ax] [h.objs.size, ax] [h.objs.size] _ _ _ (StepM.ext hk) (S.keeps hk) D ⟨⟨_, Heap.get?_push_size _ rfl, rfl, rfl⟩, hl.at fun o e => hk _ o e⟩ ?_ fun s Q' E' st hq => W.self 0 s Q' E' st hq
  intro b hb; rw [List.mem_singleton.mp hb]; exact ⟨i, List.mem_singleton.mpr rfl, ha⟩
/-! ranges -/
theorem rangeUp_len : ∀ (n : Nat) (a : Int), (rangeUp a n).length = n
  | 0, _ => rfl
  | n + 1, a => by rw [rangeUp, List.length_cons, rangeUp_len n]
theorem rangeDown_len : ∀ (n : Nat) (a : Int), (rangeDown a n).length = n
  | 0, _ => rfl
  | n + 1, a => by rw [rangeDown, List.length_cons, rangeDown_len n]
theorem rangeUp_get : ∀ (n : Nat) (a : Int) (i : Nat) {x : Int}, (rangeUp a n)[i]? = some x → x = a + i * 1
  | 0, _, _, _, e => by cases e
  | n + 1, a, 0, _, e => by cases e; simp
  | n + 1, a, i + 1, _, e => by have := rangeUp_get n (a + 1) i e; push_cast; omega
theorem rangeDown_get : ∀ (n : Nat) (a : Int) (i : Nat) {x : Int}, (rangeDown a n)[i]? = some x → x = a + i * (-1)
  | 0, _, _, _, e => by cases e
  | n + 1, a, 0, _, e => by cases e; simp
  | n + 1, a, i + 1, _, e => by have := rangeDown_get n (a - 1) i e; push_cast; omega
theorem go_range {I : Addr} {v : Value} {x l c : Int} {s : Shared} {Q : Unit → Shared → Prop} {E} (target : Expr) (st : IsRangeIter s.heap I x l c) (hQ : Q () s) : wpAny (model prog w) A (letOwnedTupleGo target (.ref I) v) Q E s := by
  have key : ∀ aa : Addr, wpAny (model prog w) A (do
        let o ← load I
        match o.cls, o.data with
        | .type n, .fields vs =>
          if ["enumerate", "zip", "dict_itemiterator", "dict_reverseitemiterator", "odict_iterator", "itertools.zip_longest", "itertools.pairwise"].contains n && vs[0]? == some (rawInt aa) then
            rule "for.unpacks-the-owned-tuple"
            updateField I 0 .none
        | _, _ => pure ()) Q E s := fun aa => by
      refine wpAny_bind (wpAny_load st ?_)
      show wpAny _ A (if (["enumerate", "zip", "dict_itemiterator", "dict_reverseitemiterator", "odict_iterator", "itertools.zip_longest", "itertools.pairwise"].contains "range_iterator" && _) = true then _ else _) Q E s
      rw [if_neg (by intro z; rw [Bool.and_eq_true] at z; exact absurd z.1 (by decide))]
      exact wpAny_pure hQ
  cases target <;> first
       | exact wpAny_pure hQ
       | (cases v <;> first | exact wpAny_pure hQ | exact key _)
theorem range_iter (hh : A.handled = none) (S : SR ρ H αs hp h) {a b c : Int} {t1 u1 v1 : Tok} {r : Addr} (hr : IsRange h r a b c t1 u1 v1) (hs : Builtin.Range.small a b c = true) {is : List Int} (hn : Builtin.Range.rangeSize a b c = is.length) (hv : ∀ (i : Nat) (x : Int), is[i]? = some x → x = a + i * c)
    (target : Expr) {h00 : Heap} {αs00 : List Addr} (s0 : StepM [] αs00 h00 αs h) {Q : Value → Shared → Prop} {E} (hQ : SrcTo prog w A ρ H target αs00 h00 hp (is.map fun i => .one (.int (.lit i))) [] g d o Q) :
    wpAny (model prog w) A (pyIter (.ref r)) Q E ⟨h, g, d, t, o⟩ := by
  refine wpAny_pyIter_range hr hs ?_
  have hk : ∀ b1 o, h.get? b1 = some o → (h.push { cls := .type "range_iterator", data := .fields #[rawInt a, rawInt (Builtin.Range.rangeSize a b c), rawInt c] }).get? b1 = some o := fun b1 o e => Heap.get?_push_of_some _ e
  have f := fresh_ge S (Nat.le_refl h.objs.size)
  have W := Walks.range (prog := prog) (w := w) (A := A) hh h.objs.size a c is.length
  have D : Drw prog w A ρ H αs h00 target h.objs.size (is.map fun i => .one (.int (.lit i))) [] [h.objs.size] [h.objs.size] (fun i v _ => ∃ t, v = .int (a + i * c) t) (fun i v h' => (∃ t, v = .int (a + i * c) t) ∧ IsRangeIter h' h.objs.size (a + ((i + 1 : Nat) : Nat) * c) ((is.length : Int) - ((i + 1 : Nat) : Nat)) c) (fun i h' => IsRangeIter h' h.objs.size (a + (i : Nat) * c) ((is.length : Int) - (i : Nat)) c) := by
   refine ⟨?_, fun j v h' it e1 e2 => ?_, fun b hb => ?_, fun b hb => .inl hb, fun j h' st b hb => ?_⟩
   · rw [List.length_map]
     refine KTurns.ofWalks W fun i v s Q E st hQ => ?_
     exact go_range target st hQ
   · rw [List.getElem?_map] at e1
     cases q : is[j]? with
     | none => rw [q] at e1; cases e1
     | some x =>
       rw [q] at e1
       cases e1
       obtain ⟨tk, rfl⟩ := e2
       have := hv j x q
       subst this
       exact ⟨tk, rfl⟩
   · rw [List.mem_singleton.mp hb]; exact ⟨f.1, f.2.1, no_old s0.keeps f.2.2⟩
   · rw [List.mem_singleton.mp hb]; exact ⟨_, st⟩
  refine hQ h.objs.size αs _ _ [] [h.objs.size] [h.objs.size] _ _ _ (s0.trans (StepM.ext hk)) (S.keeps hk) D ?_ (fun b hb => nomatch hb) fun s Q' E' st hq => W.self 0 s Q' E' st hq
  show IsRangeIter _ _ _ _ _
  rw [hn]; simp; exact Heap.get?_push_size _ rfl
theorem litsOf_ok : ∀ {xs : List SV} {ns : List Int}, litsOf xs = some ns → xs = ns.map fun n => .int (.lit n)
  | [], _, q => by simp only [litsOf] at q; cases q; rfl
  | .int (.lit n) :: r, ns, q => by
    simp only [litsOf, Option.map_eq_some_iff] at q
    obtain ⟨m, q, rfl⟩ := q
    rw [litsOf_ok q]; rfl
  | .int (.var _) :: _, _, q => by simp [litsOf] at q
  | .int (.add _ _) :: _, _, q => by simp [litsOf] at q
  | .int (.sub _ _) :: _, _, q => by simp [litsOf] at q
  | .int (.mul _ _) :: _, _, q => by simp [litsOf] at q
  | .none :: _, _, q => by simp [litsOf] at q
  | .bool _ :: _, _, q => by simp [litsOf] at q
  | .ref _ :: _, _, q => by simp [litsOf] at q
  | .junk :: _, _, q => by simp [litsOf] at q
theorem smallI_ok {a : Int} (q : smallI a = true) : -1000 < a ∧ a < 1000 := by simpa [smallI] using q
theorem small_down {a b : Int} (ha : -1000 < a ∧ a < 1000) (hb : -1000 < b ∧ b < 1000) : Builtin.Range.rangeSize a b (-1) = ((a - b).toNat : Int) ∧ Builtin.Range.small a b (-1) = true := by
  have e : Builtin.Range.rangeSize a b (-1) = ((a - b).toNat : Int) := by
    unfold Builtin.Range.rangeSize
    simp only [show ¬ ((-1 : Int) > 0) by decide, if_false]
    rw [show -(-1 : Int) = 1 by decide, Int.ediv_one]
    split <;> omega
  refine ⟨e, ?_⟩
  unfold Builtin.Range.small
  rw [e]
  simp only [Builtin.Range.rangeFitsLong, Bool.and_eq_true, Bool.or_eq_true, decide_eq_true_eq, beq_iff_eq, show ¬ ((-1 : Int) > 0) by decide, if_false]
  omega
theorem range_src (G : Gd K H mg mb) (I : Snd prog w H ρ ih) {p pos : Pos} {es : List Expr} {f : Str} {ns is : List Int} (hg : glob cx f "range" = true) (q : evs ih cx vars hp es = some (xs, hp')) (ql : litsOf xs = some ns) (qr : rangeS ns = some is) (target : Expr) {Q : Value → Shared → Prop} {E} (a : AOk cx.d A) (k : EK env cx.ks) (S : SR ρ H αs hp h) (F : FR ρ H env αs vars h)
    (hQ : SrcTo prog w A ρ H target αs h hp' (is.map fun i => .one (.int (.lit i))) [] g d o Q) :
    wpAny (model prog w) A (eval (.Call (.Name f p) es [] pos) env) (fun x s1 => wpAny (model prog w) A (pyIter x) Q E s1) E ⟨h, g, d, t, o⟩ := by
  obtain ⟨rfl, hx⟩ := glob_inv hg
  have := litsOf_ok ql
  subst this
  refine type_ok G I "range" hx G.range q a k S F fun vs αs1 h1 t1 s1 S1 r1 => ?_
  unfold rangeS at qr
  split at qr
  · rename_i b
    split at qr
    · rename_i hb
      cases qr
      obtain ⟨v1, rfl, ⟨t2, rfl⟩⟩ := one_inv r1
      have hb := smallI_ok hb
      refine PySem.call_range_1 ?_
      have hk : ∀ (ob : Obj) b o, h1.get? b = some o → (h1.push ob).get? b = some o := fun ob b o e => Heap.get?_push_of_some _ e
      refine range_iter a.hh (S1.keeps (hk _)) (IsRange.new ..) (small_one (by omega) (by omega) (by show -(2^62) ≤ b; omega) (by show b < 2^62; omega)) ?_ (fun i x e => rangeUp_get _ _ _ e) target (s1.trans (StepM.ext (hk _))) hQ
      rw [rangeSize_one, rangeUp_len]
      show (if 0 < b then b - 0 else 0) = _
      split <;> omega
    · cases qr
  · rename_i a' b
    split at qr
    · rename_i hb
      rw [Bool.and_eq_true] at hb
      cases qr
      obtain ⟨v1, v2, rfl, ⟨t2, rfl⟩, ⟨t3, rfl⟩⟩ := pair_inv r1
      have ha := smallI_ok hb.1
      have hb := smallI_ok hb.2
      refine PySem.call_range_2 ?_
      have hk : ∀ (ob : Obj) b o, h1.get? b = some o → (h1.push ob).get? b = some o := fun ob b o e => Heap.get?_push_of_some _ e
      refine range_iter a.hh (S1.keeps (hk _)) (IsRange.new ..) (small_one (by show -(2^62) ≤ a'; omega) (by show a' < 2^62; omega) (by show -(2^62) ≤ b; omega) (by show b < 2^62; omega)) ?_ (fun i x e => rangeUp_get _ _ _ e) target (s1.trans (StepM.ext (hk _))) hQ
      rw [rangeSize_one, rangeUp_len]
      show (if a' < b then b - a' else 0) = _
      split <;> omega
    · cases qr
  · rename_i a' b
    split at qr
    · rename_i hb
      rw [Bool.and_eq_true] at hb
      cases qr
      have r1' : ∃ t2 t3 t4, vs = [.int a' t2, .int b t3, .int (-1) t4] := by
        match vs, r1 with
        | [_, _, _], r1 =>
          obtain ⟨⟨t2, rfl⟩, ⟨t3, rfl⟩, ⟨t4, rfl⟩, _⟩ := r1
          exact ⟨t2, t3, t4, rfl⟩
      obtain ⟨t2, t3, t4, rfl⟩ := r1'
      have sd := small_down (smallI_ok hb.1) (smallI_ok hb.2)
      refine PySem.call_range_3 (by decide) ?_ (Or.inl (PyProof.noPylong_small (by decide)))
      have hk : ∀ (ob : Obj) b o, h1.get? b = some o → (h1.push ob).get? b = some o := fun ob b o e => Heap.get?_push_of_some _ e
      refine range_iter a.hh (S1.keeps (hk _)) (IsRange.new ..) sd.2 ?_ (fun i x e => rangeDown_get _ _ _ e) target (s1.trans (StepM.ext (hk _))) hQ
      rw [sd.1, rangeDown_len]
    · cases qr
  · cases qr
/-- what a comprehension's clause goes over -/
theorem src_ok (G : Gd K H mg mb) (I : Snd prog w H ρ ih) {e : Expr} (q : srcS ih cx vars hp e = some (xs, hp')) (target : Expr) {Q : Value → Shared → Prop} {E} (a : AOk cx.d A) (k : EK env cx.ks) (S : SR ρ H αs hp h) (F : FR ρ H env αs vars h)
    (hQ : ∀ is, SrcTo prog w A ρ H target αs h hp' (xs.map .one) is g d o Q) :
    wpAny (model prog w) A (eval e env) (fun x s1 => wpAny (model prog w) A (pyIter x) Q E s1) E ⟨h, g, d, t, o⟩ ∧ ∀ x, foldedSetIterable e env x = pure x := by
  have gen : ∀ (q : (if isSet e then none else do
    let (v, hp) ← ih.ev cx vars hp e
    match v with
    | .ref i => match hp[i]? with
      | some (.list xs) => some (xs, hp)
      | _ => none
    | _ => none) = some (xs, hp')), wpAny (model prog w) A (eval e env) (fun x s1 => wpAny (model prog w) A (pyIter x) Q E s1) E ⟨h, g, d, t, o⟩ ∧ ∀ x, foldedSetIterable e env x = pure x := fun q => by
    split at q
    · cases q
    · rename_i hs
      obtain ⟨⟨v1, hp1⟩, q1, q⟩ := bind_some q
      dsimp only at q
      split at q
      · rename_i i
        split at q
        · rename_i xs' hi
          cases q
          refine ⟨I.ev q1 a k S F fun v αs1 h1 t1 s1 S1 r1 => ?_, fun x => ?_⟩
          · obtain ⟨ax, ha, rfl⟩ := r1
            refine list_src a.hh S1 ha hi target fun I αs2 h2 t2 src fp wr P Md St s2 S2 D st hs self => ?_
            exact hQ [i] I αs2 h2 t2 src fp wr P Md St (s1.trans s2) S2 ⟨D.K, D.val, fun b hb => let ⟨z1, z2, z3⟩ := D.frsh b hb; ⟨z1, z2, no_old s1.keeps z3⟩, D.fpo, D.ex⟩ st hs self
          · cases e <;> first | rfl | (exact absurd rfl hs)
        · cases q
      · cases q
  unfold srcS at q
  split at q
  · split at q
    · rename_i hg
      obtain ⟨⟨vs, hp1⟩, q1, q⟩ := bind_some q
      obtain ⟨ns, q2, q⟩ := bind_some q
      obtain ⟨is, q3, q⟩ := bind_some q
      cases q
      refine ⟨range_src G I hg q1 q2 q3 target a k S F ?_, fun x => rfl⟩
      have := hQ []
      rw [List.map_map] at this
      exact this
    · cases q
  · exact gen q
end
end Mine
end SDC
section SDD
open PySem PySem.W PySem.Calls PyProof.Rows
namespace Mine
/-! ### a comprehension's turns -/
noncomputable def loopTree (target : Expr) (p : Pos) (ifs : List Expr) (it : Value) (env : Env) (yes next : Sem Fin) : Sem Fin := do
  standAt p
  match ← pyNext it with
  | none => pure (.done .next)
  | some v =>
    letOwnedTupleGo target it v
    assign target env v
    let mut ok := true
    for c in ifs do
      if ok then ok ← isTrue c env (eval c env)
    if ok then yes else next
theorem tree_one (elt target iter : Expr) (ifs : List Expr) (scope : Scope) (pos : Pos) (it acc : Value) (env : Env) :
    compTurn (.ListComp elt [⟨target, iter, ifs, 0⟩] scope pos) 0 it acc env = loopTree target iter.pos ifs it env ((do let _ ← call (.builtin "list.append") [acc, ← eval elt env] : Sem Unit) >>= fun _ => again (.compLoop (.ListComp elt [⟨target, iter, ifs, 0⟩] scope pos) 0 it acc env)) (again (.compLoop (.ListComp elt [⟨target, iter, ifs, 0⟩] scope pos) 0 it acc env)) := by rfl
theorem tree_in (elt target iter target2 iter2 : Expr) (ifs ifs2 : List Expr) (scope : Scope) (pos : Pos) (it acc : Value) (env : Env) :
    compTurn (.ListComp elt [⟨target, iter, ifs, 0⟩, ⟨target2, iter2, ifs2, 0⟩] scope pos) 1 it acc env = loopTree target2 iter2.pos ifs2 it env ((do let _ ← call (.builtin "list.append") [acc, ← eval elt env] : Sem Unit) >>= fun _ => again (.compLoop (.ListComp elt [⟨target, iter, ifs, 0⟩, ⟨target2, iter2, ifs2, 0⟩] scope pos) 1 it acc env)) (again (.compLoop (.ListComp elt [⟨target, iter, ifs, 0⟩, ⟨target2, iter2, ifs2, 0⟩] scope pos) 1 it acc env)) := by rfl
theorem tree_out (elt target iter target2 iter2 : Expr) (ifs ifs2 : List Expr) (scope : Scope) (pos : Pos) (it acc : Value) (env : Env) :
    compTurn (.ListComp elt [⟨target, iter, ifs, 0⟩, ⟨target2, iter2, ifs2, 0⟩] scope pos) 0 it acc env = loopTree target iter.pos ifs it env (do
        let x ← eval iter2 env
        standAt iter2.pos
        let x ← foldedSetIterable iter2 env x
        let _ ← runOwn (.compStart (.ListComp elt [⟨target, iter, ifs, 0⟩, ⟨target2, iter2, ifs2, 0⟩] scope pos) 1 (← holding [x] (pyIter x)) acc env) env
        again (.compLoop (.ListComp elt [⟨target, iter, ifs, 0⟩, ⟨target2, iter2, ifs2, 0⟩] scope pos) 0 it acc env))
      (again (.compLoop (.ListComp elt [⟨target, iter, ifs, 0⟩, ⟨target2, iter2, ifs2, 0⟩] scope pos) 0 it acc env)) := by rfl
section
variable {prog : Program} {w : World} {A : Around} {R : Result → Shared → Prop} {s : Shared}
theorem loop_turn {elt : Expr} {gens : List Comprehension} {scope : Scope} {pos p : Pos} {n : Nat} {target : Expr} {ifs : List Expr} {it acc : Value} {env : Env} {yes : Sem Fin}
    (ht : compTurn (.ListComp elt gens scope pos) n it acc env = loopTree target p ifs it env yes (again (.compLoop (.ListComp elt gens scope pos) n it acc env)))
    (h : ∀ E, wpAny (model prog w) A (pyNext it) (fun r s₁ => match r with
      | none => R (.ok .next) s₁
      | some v => wpAny (model prog w) A (letOwnedTupleGo target it v) (fun _ s₁' => wpAny (model prog w) A (assign target env v) (fun _ s₂ =>
          wpAny (model prog w) A (forIn ifs true fun c r => if r = true then do let ok ← isTrue c env (eval c env); pure (ForInStep.yield ok) else pure (ForInStep.yield r)) (fun ok s₃ =>
            if ok = true then wpAny (model prog w) A yes (fun fin s₄ => fin = .again (.compLoop (.ListComp elt gens scope pos) n it acc env) ∧ codeAny (model prog w) A (.compLoop (.ListComp elt gens scope pos) n it acc env) R s₄) E s₃
            else codeAny (model prog w) A (.compLoop (.ListComp elt gens scope pos) n it acc env) R s₃) E s₂) E s₁') E s₁) E s) :
    codeAny (model prog w) A (.compLoop (.ListComp elt gens scope pos) n it acc env) R s := by
  refine codeAny_of_tree ?_
  show wpAny _ A ((compTurn (.ListComp elt gens scope pos) n it acc env).onRaise (fun x => do noteFrame x env; theTreesLotGoes x)) _ _ s
  refine wpAny_noted ?_
  rw [ht]
  refine wpAny_bind (wpAny_standAt (wpAny_bind (wpAny_mono (h _) (fun r s₁ h₁ => ?_) fun _ _ h' => h')))
  cases r with
  | none => exact wpAny_pure h₁
  | some v =>
    refine wpAny_bind (wpAny_mono h₁ (fun _ s₁' h₁' => ?_) fun _ _ h' => h')
    refine wpAny_bind (wpAny_mono h₁' (fun _ s₂ h₂ => wpAny_bind (wpAny_mono h₂ (fun ok s₃ h₃ => ?_) fun _ _ h' => h')) fun _ _ h' => h')
    cases ok with
    | false => exact wpAny_pure ⟨rfl, h₃⟩
    | true => exact wpAny_mono h₃ (fun fin s₄ h₄ => by obtain ⟨rfl, h₄⟩ := h₄; exact ⟨rfl, h₄⟩) fun _ _ h' => h'
theorem start_code {elt : Expr} {gens : List Comprehension} {scope : Scope} {pos : Pos} {n : Nat} {it acc : Value} {env : Env} {g : Comprehension} (hg : gens[n]? = some g) (ha : g.is_async = 0)
    (h0 : codeAny (model prog w) A (.compLoop (.ListComp elt gens scope pos) n it acc env) R s)
    (h : ∀ E, wpAny (model prog w) A (pyIter it) (fun it' s' => codeAny (model prog w) A (.compLoop (.ListComp elt gens scope pos) n it' acc env) R s') E s) :
    codeAny (model prog w) A (.compStart (.ListComp elt gens scope pos) n it acc env) R s := by
  refine codeAny_of_tree ?_
  show wpAny _ _ ((compStart (.ListComp elt gens scope pos) n it acc env).onRaise (fun x => do noteFrame x env; standAt theWindowsPlace)) _ _ s
  refine wpAny_notedAt ?_
  unfold compStart
  have e1 : (clausesOf (.ListComp elt gens scope pos))[n]? = some g := hg
  rw [e1]
  simp only [Option.elim, ha, bne_self_eq_false, Bool.false_eq_true, if_false]
  show wpAny _ _ (ask >>= _) _ _ s
  refine wpAny_bind (wpAny_askSetting (wpAny_ite ?_))
  split
  · first
      | exact wpAny_bind (wpAny_pure (wpAny_pure (And.intro rfl h0)))
      | exact wpAny_pure (And.intro rfl h0)
  · first
      | exact wpAny_bind (wpAny_rule (wpAny_bind (wpAny_standAt (wpAny_bind (wpAny_mono (h _) (fun it' s' h' => wpAny_pure (And.intro rfl h')) fun _ _ x => x)))))
      | (refine wpAny_bind (wpAny_rule ?_); exact wpAny_bind (wpAny_standAt (wpAny_bind (wpAny_mono (h _) (fun it' s' h' => wpAny_pure (And.intro rfl h')) fun _ _ x => x))))
end
end Mine
end SDD
section SDE
open PySem PySem.W PySem.Calls PyProof.Rows
namespace Mine
section
variable {prog : Program} {w : World} {A : Around} {K : Frag} {mg mb : Str → Option Value} {ρ : Nat → Int} {H : Heap} {ih : IH} {cx : Cx} {αs αs' αs'' αs0 : List Addr} {hp hp' : Hp} {vars vars' : Vars} {env : Env} {h h' h'' h0 : Heap} {g : Array GenState} {d : Drawn} {t : Nat} {o : OsState} {v : Value} {sv : SV} {xs : List SV} {target : Expr} {acc acc' : SO} {ys : List Value} {n : Nat}
theorem StepM.glue {M : List Addr} (a : StepM [] αs h αs' h') (b : StepM M αs' h αs'' h'') : StepM M αs h αs'' h'' := by
  obtain ⟨⟨m1, rfl⟩, a⟩ := a
  obtain ⟨⟨m2, rfl⟩, b⟩ := b
  refine ⟨⟨m1 ++ m2, List.append_assoc ..⟩, fun c o e => ?_⟩
  obtain ⟨n2, o2, e2, k2⟩ := b c o e
  exact ⟨fun n => n2 ((a c o e).1 n), o2, e2, k2⟩
theorem lO_inj {vs ws : List Value} {n m : Nat} (e : lO vs n = lO ws m) : vs = ws := by
  have := congrArg Obj.data e
  simp only [Data.seq.injEq] at this
  simpa using this.1
theorem RO.step {ob : Obj} {so : SO} {M : List Addr} (s : StepM M αs h αs' h') (r : RO ρ αs ob so) : RO ρ αs' ob so := by obtain ⟨⟨m, rfl⟩, _⟩ := s; exact r.mono
theorem putAcc_ok {c : BE} {y : SV} (q : putAcc acc c y = some acc') (r : RO ρ αs (lO ys n) acc) (hl : ys.length + 1 ≤ 4096) :
    (c.den ρ = true → ∀ v n', RV ρ αs v y → RO ρ αs (lO (ys ++ [v]) n') acc') ∧ (c.den ρ = false → RO ρ αs (lO ys n) acc') := by
  have len1 : ∀ v : Value, (ys ++ [v]).length ≤ 4096 := fun v => by rw [List.length_append]; exact hl
  have ne1 : ∀ v : Value, ys ++ [v] ≠ [] := fun v => by simp
  unfold putAcc at q
  split at q
  · cases q
    obtain ⟨vs, m, e, rv⟩ := r
    have := lO_inj e; subst this
    exact ⟨fun _ v n' rv' => ⟨_, n', rfl, rv.append ⟨rv', trivial⟩⟩, fun z => nomatch z⟩
  · cases q
    exact ⟨(fun z => nomatch z), fun _ => r⟩
  · cases q
    obtain ⟨vs, m, e, hb, hv⟩ := r
    have := lO_inj e; subst this
    refine ⟨fun _ v n' rv' => ⟨_, n', rfl, ?_, len1 v⟩, fun z => nomatch z⟩
    rw [den_mkAnd]
    simp [BE.den]
  · cases q
    exact ⟨(fun z => nomatch z), fun _ => r⟩
  · rename_i c hc1 hc2
    cases q
    obtain ⟨vs, m, e, rv⟩ := r
    have := lO_inj e; subst this
    have h0 : ys = [] := by cases ys with
      | nil => rfl
      | cons a b => exact rv.elim
    subst h0
    refine ⟨fun z v n' rv' => ⟨_, n', rfl, ?_, len1 v⟩, fun z => ⟨_, n, rfl, ?_, by simp⟩⟩
    · rw [den_mkNot, z]; simp
    · rw [den_mkNot, z]; simp
  · cases q
    obtain ⟨vs, m, e, rv⟩ := r
    have := lO_inj e; subst this
    refine ⟨fun z v n' rv' => ⟨_, n', rfl, ?_, len1 v⟩, fun z => ⟨_, n, rfl, ?_, by omega⟩⟩
    · simp [BE.den]
    · cases ys with
      | nil => exact rv.elim
      | cons a b => simp [BE.den]
  · cases q
    obtain ⟨vs, m, e, hb, hv⟩ := r
    have := lO_inj e; subst this
    refine ⟨fun z v n' rv' => ⟨_, n', rfl, ?_, len1 v⟩, fun z => ⟨_, n, rfl, ?_, by omega⟩⟩
    · rw [den_mkAnd, den_mkNot, z]; simp
    · rw [den_mkAnd, den_mkNot, z]; simpa using hb
  · cases q
theorem ifs_ok (I : Snd prog w H ρ ih) {ifs : List Expr} {b : BE} (q : ifsS ih cx vars hp ifs = some (b, hp')) {Q : Bool → Shared → Prop} {E} (a : AOk cx.d A) (k : EK env cx.ks) (S : SR ρ H αs hp h) (F : FR ρ H env αs vars h)
    (hQ : ∀ αs' h' t', StepM [] αs h αs' h' → SR ρ H αs' hp' h' → Q (b.den ρ) ⟨h', g, d, t', o⟩) :
    wpAny (model prog w) A (forIn ifs true fun c r => if r = true then do let ok ← isTrue c env (eval c env); pure (ForInStep.yield ok) else pure (ForInStep.yield r)) Q E ⟨h, g, d, t, o⟩ := by
  unfold ifsS at q
  split at q
  · cases q; exact wpAny_tests_nil (hQ αs h t StepM.refl S)
  · obtain ⟨⟨b1, hp1⟩, q1, q⟩ := bind_some q
    cases q
    refine wpAny_tests_one (I.ts q1 a k S F fun αs1 h1 t1 s1 S1 => ?_)
    obtain ⟨αs2, s2, S2⟩ := shrinkB_ok s1 S1 S.len
    exact hQ αs2 h1 t1 s2 S2
  · cases q
/-- how a comprehension stands between its turns -/
structure LS (ρ : Nat → Int) (H : Heap) (cenv : Env) (αs0 : List Addr) (h0 : Heap) (Mb wr : List Addr) (D : Addr) (αs : List Addr) (hp : Hp) (vars : Vars) (acc : SO) (h : Heap) (ys : List Value) (n : Nat) : Prop where
  S : SR ρ H αs hp h
  F : FR ρ H cenv αs vars h
  s : StepM (D :: Mb) αs0 h0 αs h
  dn : D ∉ αs
  dv : h.get? D = some (lO ys n)
  wn : ∀ b ∈ wr, b ∉ αs
  ac : RO ρ αs (lO ys n) acc
theorem LS.step {Mb wr : List Addr} {D : Addr} {M : List Addr} (L : LS ρ H env αs0 h0 Mb wr D αs hp vars acc h ys n) (s : StepM M αs h αs' h') (S : SR ρ H αs' hp' h') (F : FR ρ H env αs' vars' h') (hM : ∀ b ∈ M, b ∈ D :: Mb) (hD : D ∉ M) (ex : ∀ b ∈ wr, ∃ o, h.get? b = some o) : LS ρ H env αs0 h0 Mb wr D αs' hp' vars' acc h' ys n :=
  ⟨S, F, L.s.trans (s.weak hM), s.off L.dv L.dn, s.keep L.dv hD, fun b hb => let ⟨_, e⟩ := ex b hb; s.off e (L.wn b hb), L.ac.step s⟩
theorem LS.put {cenv : Env} {Mb wr : List Addr} {D : Addr} (L : LS ρ H cenv αs0 h0 Mb wr D αs hp vars acc h ys n) (hDH : H.get? D = none) (hDc : D ∉ Mine.fp cenv) (hs : Heap.SameBut D h h') (hD : h'.get? D = some { cls := .type "list", data := .seq (ys.toArray.push v) (n + 1) }) (r : RO ρ αs (lO (ys ++ [v]) (n + 1)) acc') :
    LS ρ H cenv αs0 h0 Mb wr D αs hp vars acc' h' (ys ++ [v]) (n + 1) := by
  have s : StepM [D] αs h αs h' := StepM.but List.mem_cons_self hs ⟨_, hD⟩
  refine ⟨L.S.but hs L.dn hDH, L.F.step s fun b hb q => hDc (List.mem_singleton.mp q ▸ hb), L.s.trans (s.weak fun b hb => List.mem_singleton.mp hb ▸ List.mem_cons_self), L.dn, ?_, L.wn, r⟩
  rw [hD]; simp [lO]
theorem turnsIn_ok (I : Snd prog w H ρ ih) {gens : List Comprehension} {elt : Expr} {scope : Scope} {pos p : Pos} {kk : Nat} {ifs : List Expr} {Ia D : Addr} {cenv : Env} {R : Result → Shared → Prop}
    (ht : compTurn (.ListComp elt gens scope pos) kk (.ref Ia) (.ref D) cenv = loopTree target p ifs (.ref Ia) cenv ((do let _ ← call (.builtin "list.append") [.ref D, ← eval elt cenv] : Sem Unit) >>= fun _ => again (.compLoop (.ListComp elt gens scope pos) kk (.ref Ia) (.ref D) cenv)) (again (.compLoop (.ListComp elt gens scope pos) kk (.ref Ia) (.ref D) cenv)))
    (a : AOk cx.d A) (k : EK cenv cx.ks) {src fp wr Mb : List Addr} {P Md : Nat → Value → Heap → Prop} {St : Nat → Heap → Prop} (Dw : Drw prog w A ρ H αs0 h0 target Ia (xs.map .one) src fp wr P Md St)
    (O : OwnM cenv Mb (tnames target)) (hDH : H.get? D = none) (hDw : D ∉ wr) (hDs : D ∉ src) (hDM : D ∉ Mb) (hDc : D ∉ Mine.fp cenv) (hfw : ∀ b ∈ Mine.fp cenv, b ∉ wr) (hsrc : ∀ b ∈ src, b ∉ Mb) (hMb : ∀ b ∈ Mb, b ∈ Mine.fp cenv) (vars' : Vars) (hp' : Hp) (acc' : SO) :
    ∀ (rest : List SV) (i : Nat), xs.drop i = rest → i + rest.length = xs.length → ∀ {vars : Vars} {hp : Hp} {acc : SO}, turnsIn ih cx elt target ifs vars hp acc rest = some (vars', hp', acc') → ∀ (αs : List Addr) (h : Heap) (t : Nat) (ys : List Value) (n : Nat), LS ρ H cenv αs0 h0 Mb wr D αs hp vars acc h ys n → St i h → ys.length + rest.length ≤ 4096 →
      (∀ αs' h' t' ys' n', StepM (D :: Mb) αs0 h0 αs' h' → SR ρ H αs' hp' h' → FR ρ H cenv αs' vars' h' → D ∉ αs' → h'.get? D = some (lO ys' n') → RO ρ αs' (lO ys' n') acc' → ys'.length ≤ ys.length + rest.length → R (.ok .next) ⟨h', g, d, t', o⟩) →
      codeAny (model prog w) A (.compLoop (.ListComp elt gens scope pos) kk (.ref Ia) (.ref D) cenv) R ⟨h, g, d, t, o⟩ := by
  have hMw : ∀ b ∈ Mb, b ∉ wr := fun b hb => hfw b (hMb b hb)
  have hD0 : ∀ b ∈ wr, h0.get? b = none := fun b hb => (Dw.frsh b hb).2.2
  have hDfp : D ∉ fp := fun hb => by rcases Dw.fpo D hb with z | z; exact hDw z; exact hDs z
  intro rest
  induction rest with
  | nil =>
    intro i _ hi vars hp acc q αs h t ys n L st hl hR
    simp only [turnsIn] at q
    cases q
    refine loop_turn ht fun E => ?_
    have hlen : (xs.map It.one).length = i := by rw [List.length_map]; simpa using hi.symm
    refine Dw.K.done _ _ _ (hlen ▸ st) fun h1 t1 hk => ?_
    exact hR αs h1 t1 ys n (L.s.butW hD0 hk) (L.S.butW (fun b hb => ⟨L.wn b hb, (Dw.frsh b hb).2.1⟩) hk) (L.F.butW hfw hk) L.dn (hk D _ hDw L.dv) L.ac (Nat.le_add_right _ _)
  | cons x rest IHr =>
    intro i hd hi vars hp acc q αs h t ys n L st hl hR
    have hix : xs[i]? = some x := by
      have := congrArg (·[0]?) hd
      simpa using this
    have hd' : xs.drop (i + 1) = rest := by
      have := congrArg List.tail hd
      simpa using this
    rw [List.length_cons] at hi hl
    simp only [turnsIn] at q
    obtain ⟨vars1, q1, q⟩ := bind_some q
    obtain ⟨⟨c, hp1⟩, q2, q⟩ := bind_some q
    dsimp only at q
    refine loop_turn ht fun E => ?_
    refine next_ok Dw a.hh k O (it := .one x) (by rw [List.getElem?_map, hix]; rfl) st L.s q1 L.S L.F L.wn hfw hsrc hMw (fun b hb => List.mem_cons_of_mem _ hb) (fun v s1 z => z) fun h1 t1 st1 s1 hk1 S1 F1 => ?_
    have L1 : LS ρ H cenv αs0 h0 Mb wr D αs hp vars1 acc h1 ys n := ⟨S1, F1, s1, L.dn, hk1 D _ hDw hDM L.dv, L.wn, L.ac⟩
    refine ifs_ok I q2 a k S1 F1 fun αs2 h2 t2 s2 S2 => ?_
    have L2 : LS ρ H cenv αs0 h0 Mb wr D αs2 hp1 vars1 acc h2 ys n := L1.step s2 S2 (F1.step0 s2) (fun _ z => nomatch z) (fun z => nomatch z) (Dw.ex _ _ st1)
    have st2 : St (i + 1) h2 := Dw.K.frame _ _ _ st1 fun b _ o e => s2.keeps b o e
    have next : ∀ {hp2 : Hp} {acc2 : SO} {αs3 : List Addr} {h3 : Heap} {t3 : Nat} {ys3 : List Value} {n3 : Nat}, turnsIn ih cx elt target ifs vars1 hp2 acc2 rest = some (vars', hp', acc') → LS ρ H cenv αs0 h0 Mb wr D αs3 hp2 vars1 acc2 h3 ys3 n3 → St (i + 1) h3 → ys3.length ≤ ys.length + 1 →
        codeAny (model prog w) A (.compLoop (.ListComp elt gens scope pos) kk (.ref Ia) (.ref D) cenv) R ⟨h3, g, d, t3, o⟩ := fun q3 L3 st3 hl3 =>
      IHr (i + 1) hd' (by omega) q3 _ _ _ _ _ L3 st3 (by omega) fun αs' h' t' ys' n' z1 z2 z3 z4 z5 z6 z7 => hR αs' h' t' ys' n' z1 z2 z3 z4 z5 z6 (by rw [List.length_cons]; omega)
    have put : ∀ {hp2 : Hp} {acc2 : SO} {αs3 : List Addr} {h3 : Heap} {t3 : Nat} {v : Value}, turnsIn ih cx elt target ifs vars1 hp2 acc2 rest = some (vars', hp', acc') → LS ρ H cenv αs0 h0 Mb wr D αs3 hp2 vars1 acc h3 ys n → St (i + 1) h3 → RO ρ αs3 (lO (ys ++ [v]) (n + 1)) acc2 →
        wpAny (model prog w) A (call (.builtin "list.append") [.ref D, v]) (fun _ s4 => wpAny (model prog w) A (pure () : Sem Unit) (fun _ s5 => wpAny (model prog w) A (again (.compLoop (.ListComp elt gens scope pos) kk (.ref Ia) (.ref D) cenv)) (fun fin s₄ => fin = .again (.compLoop (.ListComp elt gens scope pos) kk (.ref Ia) (.ref D) cenv) ∧ codeAny (model prog w) A (.compLoop (.ListComp elt gens scope pos) kk (.ref Ia) (.ref D) cenv) R s₄) E s5) E s4) E ⟨h3, g, d, t3, o⟩ := fun q3 L3 st3 r3 => by
      refine append_at (hsz := by show ys.toArray.size ≤ sizeLine; rw [List.size_toArray, sizeLine_eq]; omega) L3.dv fun h4 hs4 hD4 => wpAny_pure (wpAny_pure ⟨rfl, ?_⟩)
      exact next q3 (L3.put hDH hDc hs4 hD4 r3) (Dw.K.frame _ _ _ st3 fun b hb o e => hs4.extBut b o (fun z => hDfp (z ▸ hb)) e) (by rw [List.length_append]; exact Nat.le_refl _)
    split at q
    · rw [if_neg (by simp [BE.den])]
      exact next q L2 st2 (Nat.le_succ _)
    · rw [if_pos (by simp [BE.den])]
      obtain ⟨⟨y3, hp3⟩, q3, q⟩ := bind_some q
      obtain ⟨acc2, q4, q⟩ := bind_some q
      refine wpAny_bind (wpAny_bind (I.ev q3 a k S2 L2.F fun v αs3 h3 t3 s3 S3 r3 => wpAny_bind ?_))
      obtain ⟨αs4, s4, S4, r4⟩ := shrink_ok (r := (y3, hp3)) s3 S3 r3 S2.len
      have L4 := L2.step s4 S4 (L2.F.step0 s4) (fun _ z => nomatch z) (fun z => nomatch z) (Dw.ex _ _ st2)
      have st4 : St (i + 1) h3 := Dw.K.frame _ _ _ st2 fun b _ o e => s3.keeps b o e
      exact put q L4 st4 ((putAcc_ok q4 L4.ac (by omega)).1 rfl v _ r4)
    · obtain ⟨⟨y3, hp3⟩, q3, q⟩ := bind_some q
      dsimp only at q
      split at q
      · rename_i hlen
        obtain ⟨acc2, q4, q⟩ := bind_some q
        have pk := putAcc_ok q4 L2.ac (by omega)
        cases hc : c.den ρ with
        | false =>
          rw [if_neg (by simp)]
          refine next q ⟨L2.S, L2.F, L2.s, L2.dn, L2.dv, L2.wn, pk.2 hc⟩ st2 (Nat.le_succ _)
        | true =>
          rw [if_pos rfl]
          refine wpAny_bind (wpAny_bind (I.ev q3 a k S2 L2.F fun v αs3 h3 t3 s3 S3 r3 => wpAny_bind ?_))
          have e3 : αs3 = αs2 := by
            obtain ⟨⟨m, rfl⟩, _⟩ := s3
            have := S3.len
            rw [List.length_append, S2.len, hlen] at this
            have : m = [] := List.length_eq_zero_iff.mp (by omega)
            rw [this, List.append_nil]
          subst e3
          have L4 := L2.step s3 (S2.keeps s3.keeps) (L2.F.step0 s3) (fun _ z => nomatch z) (fun z => nomatch z) (Dw.ex _ _ st2)
          have st4 : St (i + 1) h3 := Dw.K.frame _ _ _ st2 fun b _ o e => s3.keeps b o e
          exact put q L4 st4 ((putAcc_ok q4 L4.ac (by omega)).1 hc v _ r3)
      · cases q
theorem turnsOut_ok (G : Gd K H mg mb) (I : Snd prog w H ρ ih) {elt iter target2 iter2 : Expr} {ifs2 : List Expr} {scope : Scope} {pos : Pos} {Ia D : Addr} {cenv : Env} {R : Result → Shared → Prop}
    (a : AOk cx.d A) (k : EK cenv cx.ks) {src fp wr Mb : List Addr} {P Md : Nat → Value → Heap → Prop} {St : Nat → Heap → Prop} (Dw : Drw prog w A ρ H αs0 h0 target Ia (xs.map .one) src fp wr P Md St)
    (O : OwnM cenv Mb (tnames target)) (O2 : OwnM cenv Mb (tnames target2)) (hDH : H.get? D = none) (hDw : D ∉ wr) (hDs : D ∉ src) (hDM : D ∉ Mb) (hDc : D ∉ Mine.fp cenv) (hfw : ∀ b ∈ Mine.fp cenv, b ∉ wr) (hsrc : ∀ b ∈ src, b ∉ Mb) (hMb : ∀ b ∈ Mb, b ∈ Mine.fp cenv) (vars' : Vars) (hp' : Hp) (acc' : SO) :
    ∀ (rest : List SV) (i : Nat), xs.drop i = rest → i + rest.length = xs.length → ∀ {vars : Vars} {hp : Hp} {acc : SO}, turnsOut ih cx elt target ⟨target2, iter2, ifs2, 0⟩ vars hp acc rest = some (vars', hp', acc') → ∀ (αs : List Addr) (h : Heap) (t : Nat) (ys : List Value) (n : Nat), LS ρ H cenv αs0 h0 Mb wr D αs hp vars acc h ys n → St i h → ys.length + 200 * rest.length ≤ 4096 →
      (∀ αs' h' t' ys' n', StepM (D :: Mb) αs0 h0 αs' h' → SR ρ H αs' hp' h' → FR ρ H cenv αs' vars' h' → D ∉ αs' → h'.get? D = some (lO ys' n') → RO ρ αs' (lO ys' n') acc' → ys'.length ≤ 4096 → R (.ok .next) ⟨h', g, d, t', o⟩) →
      codeAny (model prog w) A (.compLoop (.ListComp elt [⟨target, iter, [], 0⟩, ⟨target2, iter2, ifs2, 0⟩] scope pos) 0 (.ref Ia) (.ref D) cenv) R ⟨h, g, d, t, o⟩ := by
  have hMw : ∀ b ∈ Mb, b ∉ wr := fun b hb => hfw b (hMb b hb)
  have hD0 : ∀ b ∈ wr, h0.get? b = none := fun b hb => (Dw.frsh b hb).2.2
  have hDfp : D ∉ fp := fun hb => by rcases Dw.fpo D hb with z | z; exact hDw z; exact hDs z
  intro rest
  induction rest with
  | nil =>
    intro i _ hi vars hp acc q αs h t ys n L st hl hR
    simp only [turnsOut] at q
    cases q
    refine loop_turn (tree_out ..) fun E => ?_
    have hlen : (xs.map It.one).length = i := by rw [List.length_map]; simpa using hi.symm
    refine Dw.K.done _ _ _ (hlen ▸ st) fun h1 t1 hk => ?_
    exact hR αs h1 t1 ys n (L.s.butW hD0 hk) (L.S.butW (fun b hb => ⟨L.wn b hb, (Dw.frsh b hb).2.1⟩) hk) (L.F.butW hfw hk) L.dn (hk D _ hDw L.dv) L.ac (by rw [List.length_nil] at hl; omega)
  | cons x rest IHr =>
    intro i hd hi vars hp acc q αs h t ys n L st hl hR
    have hix : xs[i]? = some x := by
      have := congrArg (·[0]?) hd
      simpa using this
    have hd' : xs.drop (i + 1) = rest := by
      have := congrArg List.tail hd
      simpa using this
    rw [List.length_cons] at hi hl
    simp only [turnsOut] at q
    obtain ⟨vars1, q1, q⟩ := bind_some q
    obtain ⟨⟨xs2, hp1⟩, q2, q⟩ := bind_some q
    dsimp only at q
    split at q
    · rename_i hx2
      obtain ⟨⟨vars2, hp2, acc2⟩, q3, q⟩ := bind_some q
      refine loop_turn (tree_out ..) fun E => ?_
      refine next_ok Dw a.hh k O (it := .one x) (by rw [List.getElem?_map, hix]; rfl) st L.s q1 L.S L.F L.wn hfw hsrc hMw (fun b hb => List.mem_cons_of_mem _ hb) (fun v s1 z => z) fun h1 t1 st1 s1 hk1 S1 F1 => ?_
      have L1 : LS ρ H cenv αs0 h0 Mb wr D αs hp vars1 acc h1 ys n := ⟨S1, F1, s1, L.dn, hk1 D _ hDw hDM L.dv, L.wn, L.ac⟩
      refine wpAny_tests_nil ?_
      rw [if_pos rfl]
      have so := src_ok G I q2 target2 (g := g) (d := d) (t := t1) (o := o) (E := E) (Q := fun it s2 => wpAny (model prog w) A (runOwn (.compStart (.ListComp elt [⟨target, iter, [], 0⟩, ⟨target2, iter2, ifs2, 0⟩] scope pos) 1 it (.ref D) cenv) cenv) (fun _ s3 => wpAny (model prog w) A (again (.compLoop (.ListComp elt [⟨target, iter, [], 0⟩, ⟨target2, iter2, ifs2, 0⟩] scope pos) 0 (.ref Ia) (.ref D) cenv)) (fun fin s₄ => fin = .again (.compLoop (.ListComp elt [⟨target, iter, [], 0⟩, ⟨target2, iter2, ifs2, 0⟩] scope pos) 0 (.ref Ia) (.ref D) cenv) ∧ codeAny (model prog w) A (.compLoop (.ListComp elt [⟨target, iter, [], 0⟩, ⟨target2, iter2, ifs2, 0⟩] scope pos) 0 (.ref Ia) (.ref D) cenv) R s₄) E s3) E s2) a k S1 F1 fun is I2 αs2 h2 t2 src2 fp2 wr2 P2 Md2 St2 s2 S2 D2 st2 hs2 self => ?_
      · exact wpAny_bind (wpAny_mono so.1 (fun x s1 z => wpAny_bind (wpAny_standAt (wpAny_bind (wpAny_of_eq (so.2 x) (wpAny_bind (wpAny_holding (wpAny_mono z (fun it s2 z2 => wpAny_bind z2) fun _ _ e => e))))))) fun _ _ e => e)
      · have L2 : LS ρ H cenv αs0 h0 Mb wr D αs2 hp1 vars1 acc h2 ys n := L1.step s2 S2 (F1.step0 s2) (fun _ z => nomatch z) (fun z => nomatch z) (Dw.ex _ _ st1)
        have sto2 : St (i + 1) h2 := Dw.K.frame _ _ _ st1 fun b _ o e => s2.keeps b o e
        have hsrc2 : ∀ b ∈ src2, b ∈ αs2 := fun b hb => by obtain ⟨j, _, e⟩ := hs2 b hb; exact List.mem_of_getElem? e
        have hfp1 : ∀ b ∈ Mine.fp cenv, b ∉ αs2 ∧ ∃ o, h1.get? b = some o := fun b hb => ⟨(L2.F.addr hb).1, (F1.addr hb).2.2⟩
        have hw2 : ∀ b ∈ wr2, h1.get? b = none := fun b hb => (D2.frsh b hb).2.2
        have hDw2 : D ∉ wr2 := fun z => by have := hw2 D z; rw [L1.dv] at this; cases this
        have inner : ∀ E' : Value → Shared → Prop, codeAny (model prog w) A (.compLoop (.ListComp elt [⟨target, iter, [], 0⟩, ⟨target2, iter2, ifs2, 0⟩] scope pos) 1 (.ref I2) (.ref D) cenv) (fun r s' => match r with | .ok f => (fun (_ : Flow) s3 => wpAny (model prog w) A (again (.compLoop (.ListComp elt [⟨target, iter, [], 0⟩, ⟨target2, iter2, ifs2, 0⟩] scope pos) 0 (.ref Ia) (.ref D) cenv)) (fun fin s₄ => fin = .again (.compLoop (.ListComp elt [⟨target, iter, [], 0⟩, ⟨target2, iter2, ifs2, 0⟩] scope pos) 0 (.ref Ia) (.ref D) cenv) ∧ codeAny (model prog w) A (.compLoop (.ListComp elt [⟨target, iter, [], 0⟩, ⟨target2, iter2, ifs2, 0⟩] scope pos) 0 (.ref Ia) (.ref D) cenv) R s₄) E s3) f s' | .error e => cameBackBy (model prog w) A cenv E e s') ⟨h2, g, d, t2, o⟩ := fun E' => by
          refine turnsIn_ok I (tree_in ..) a k D2 O2 hDH hDw2 (fun z => L2.dn (hsrc2 D z)) hDM hDc (fun b hb z => ?_) (fun b hb z => (hfp1 b (hMb b z)).1 (hsrc2 b hb)) hMb vars2 hp2 acc2 xs2 0 rfl (Nat.zero_add _) q3 αs2 h2 t2 ys n ⟨L2.S, L2.F, StepM.ext s2.keeps, L2.dn, L2.dv, fun b hb => (D2.frsh b hb).1, L2.ac⟩ st2 (by omega) fun αs3 h3 t3 ys3 n3 s3 S3 F3 dn3 dv3 ac3 hl3 => ?_
          · obtain ⟨_, ob, e⟩ := hfp1 b hb
            rw [hw2 b z] at e; cases e
          · have s13 : StepM (D :: Mb) αs h1 αs3 h3 := s2.glue s3
            have L3 : LS ρ H cenv αs0 h0 Mb wr D αs3 hp2 vars2 acc2 h3 ys3 n3 := ⟨S3, F3, s1.trans s13, dn3, dv3, fun b hb => let ⟨_, e⟩ := Dw.ex _ _ st1 b hb; s13.off e (L.wn b hb), ac3⟩
            have st3 : St (i + 1) h3 := Dw.K.frame _ _ _ st1 fun b hb o e => s13.keep e fun z => by
              rcases List.mem_cons.mp z with rfl | z
              · exact hDfp hb
              · rcases Dw.fpo b hb with y | y
                · exact hMw b z y
                · exact hsrc b y z
            refine wpAny_pure ⟨rfl, IHr (i + 1) hd' (by omega) q _ _ _ _ _ L3 st3 (by omega) hR⟩
        refine wpAny_runOwn ?_
        show codeAny (model prog w) A _ _ _
        exact start_code (g := ⟨target2, iter2, ifs2, 0⟩) rfl rfl (inner E) fun E' => self _ _ _ st2 (inner E)
    · cases q
end
end Mine
end SDE
section SDF
open PySem PySem.W PySem.Calls PyProof.Rows
namespace Mine
/-! ### the frame of a comprehension -/
noncomputable def closAcc (cells : List (Str × Addr)) : Kinds → List (Str × Addr) → List (Str × Addr)
  | [], acc => acc
  | (n, k) :: r, acc => if k == .free then match cells.lookup n with
    | some c => closAcc cells r ((n, c) :: acc)
    | none => closAcc cells r acc
    else closAcc cells r acc
theorem clos_go {env : Env} (f : Str × NameKind → List (Str × Addr) → Sem (ForInStep (List (Str × Addr)))) (hf : ∀ n k cs, f (n, k) cs = if k == .free then (do let a ← cellOf env n; pure (.yield ((n, a) :: cs))) else pure (.yield cs)) :
    ∀ (names : Kinds) (acc : List (Str × Addr)), (∀ p ∈ names, p.2 = .free → ∃ c, env.cells.lookup p.1 = some c) → forIn names acc f = (pure (closAcc env.cells names acc) : Sem _)
  | [], acc, _ => by rw [List.forIn_nil]; rfl
  | (n, k) :: r, acc, h => by
    rw [List.forIn_cons, hf]
    have hr := clos_go f hf r
    by_cases q : (k == NameKind.free) = true
    · rw [if_pos q]
      obtain ⟨c, hc⟩ := h (n, k) List.mem_cons_self (by simpa using q)
      have : cellOf env n = pure c := by unfold cellOf; rw [hc]
      rw [this]
      show forIn r ((n, c) :: acc) f = _
      rw [hr _ fun p hp => h p (List.mem_cons_of_mem _ hp)]
      simp only [closAcc, q, if_true, hc]
    · rw [if_neg q]
      show forIn r acc f = _
      rw [hr _ fun p hp => h p (List.mem_cons_of_mem _ hp)]
      simp only [closAcc, q, if_false, Bool.false_eq_true]
theorem clos_ok {scope : Scope} {env : Env} (h : ∀ p ∈ scope.names, p.2 = .free → ∃ c, env.cells.lookup p.1 = some c) : closureFor scope env = pure (closAcc env.cells scope.names []) := by
  unfold closureFor
  have := clos_go (env := env) (fun x cs => match x with | (name, kind) => if kind == .free then (do let a ← cellOf env name; pure (ForInStep.yield ((name, a) :: cs))) else pure (ForInStep.yield cs)) (fun _ _ _ => rfl) scope.names [] h
  refine Eq.trans ?_ (congrArg (fun z => z >>= pure) this)
  rfl
theorem clos_mem {cells : List (Str × Addr)} : ∀ (names : Kinds) (acc : List (Str × Addr)) {p : Str × Addr}, p ∈ closAcc cells names acc → p ∈ acc ∨ ((p.1, .free) ∈ names ∧ cells.lookup p.1 = some p.2)
  | [], acc, p, h => .inl h
  | (n, k) :: r, acc, p, h => by
    unfold closAcc at h
    split at h
    · rename_i hk
      have hk : k = .free := by simpa using hk
      subst hk
      split at h
      · rename_i c hc
        rcases clos_mem r _ h with h | ⟨h1, h2⟩
        · rcases List.mem_cons.mp h with rfl | h
          · exact .inr ⟨List.mem_cons_self, hc⟩
          · exact .inl h
        · exact .inr ⟨List.mem_cons_of_mem _ h1, h2⟩
      · rcases clos_mem r _ h with h | ⟨h1, h2⟩
        · exact .inl h
        · exact .inr ⟨List.mem_cons_of_mem _ h1, h2⟩
    · rcases clos_mem r _ h with h | ⟨h1, h2⟩
      · exact .inl h
      · exact .inr ⟨List.mem_cons_of_mem _ h1, h2⟩
theorem clos_acc {cells : List (Str × Addr)} : ∀ (names : Kinds) (acc : List (Str × Addr)) {p : Str × Addr}, p ∈ acc → p ∈ closAcc cells names acc
  | [], acc, p, h => h
  | (n, k) :: r, acc, p, h => by
    unfold closAcc
    split
    · split
      · exact clos_acc r _ (List.mem_cons_of_mem _ h)
      · exact clos_acc r _ h
    · exact clos_acc r _ h
theorem clos_in {cells : List (Str × Addr)} {x : Str} {c : Addr} (hc : cells.lookup x = some c) : ∀ (names : Kinds) (acc : List (Str × Addr)), (x, .free) ∈ names → (x, c) ∈ closAcc cells names acc
  | [], _, h => nomatch h
  | (n, k) :: r, acc, h => by
    unfold closAcc
    rcases List.mem_cons.mp h with e | h
    · cases e
      rw [if_pos (by rfl), hc]
      exact clos_acc r _ List.mem_cons_self
    · split
      · split <;> exact clos_in hc r _ h
      · exact clos_in hc r _ h
theorem cells_app : ∀ (names : Kinds) (n : Nat) (acc : List (Str × Addr)), cellsFrom n names acc = cellsFrom n names [] ++ acc
  | [], _, _ => rfl
  | (name, k) :: r, n, acc => by
    unfold cellsFrom
    split
    · rw [cells_app r (n + 1) ((name, n) :: acc), cells_app r (n + 1) [(name, n)], List.append_assoc]; rfl
    · exact cells_app r n acc
theorem own_mem : ∀ (names : Kinds) (n : Nat) {p : Str × Addr}, p ∈ cellsFrom n names [] → (p.1, .cell) ∈ names
  | [], _, _, h => nomatch h
  | (name, k) :: r, n, p, h => by
    unfold cellsFrom at h
    split at h
    · rename_i hk
      have hk : k = .cell := by simpa using hk
      subst hk
      rw [cells_app] at h
      rcases List.mem_append.mp h with h | h
      · exact List.mem_cons_of_mem _ (own_mem r _ h)
      · rw [List.mem_singleton.mp h]; exact List.mem_cons_self
    · exact List.mem_cons_of_mem _ (own_mem r _ h)
theorem nodup_lookup : ∀ {names : Kinds}, nodupS (names.map (·.1)) = true → ∀ {x : Str} {k : NameKind}, (x, k) ∈ names → names.lookup x = some k
  | (n, k') :: r, q, x, k, h => by
    rw [List.map_cons, nodupS, Bool.and_eq_true] at q
    rw [List.lookup_cons]
    rcases List.mem_cons.mp h with e | hr
    · cases e; simp
    · have hne : ¬ x = n := fun e => by
        have := q.1
        rw [Bool.not_eq_true'] at this
        have hm : x ∈ r.map (·.1) := List.mem_map.mpr ⟨(x, k), hr, rfl⟩
        rw [← List.contains_iff_mem, e] at hm
        rw [hm] at this; cases this
      rw [beq_eq_false_iff_ne.mpr hne]
      exact nodup_lookup q.2 hr
  | [], _, _, _, h => nomatch h
theorem relab_lookup (ks : Kinds) (x : Str) : ∀ (names : Kinds), (relab ks names).lookup x = (names.lookup x).map fun k => if (k == .free && ks.lookup x == some .cell) then .cell else k
  | [] => rfl
  | (n, k) :: r => by
    have ih := relab_lookup ks x r
    show List.lookup x ((if (k == NameKind.free && ks.lookup n == some .cell) = true then (n, NameKind.cell) else (n, k)) :: relab ks r) = _
    by_cases hx : x = n
    · subst hx
      by_cases hc : (k == NameKind.free && ks.lookup x == some .cell) = true
      · rw [if_pos hc]; simp only [List.lookup_cons, beq_self_eq_true, Option.map_some]; rw [if_pos hc]
      · rw [if_neg hc]; simp only [List.lookup_cons, beq_self_eq_true, Option.map_some]; rw [if_neg hc]
    · have hb : (x == n) = false := beq_eq_false_iff_ne.mpr hx
      by_cases hc : (k == NameKind.free && ks.lookup n == some .cell) = true
      · rw [if_pos hc]; simp only [List.lookup_cons, hb]; exact ih
      · rw [if_neg hc]; simp only [List.lookup_cons, hb]; exact ih
theorem free_look {ks : Kinds} {vars : Vars} : ∀ {names : Kinds} {x : Str} {sv : SV}, (freeVars ks vars names).lookup x = some sv → (x, .free) ∈ names ∧ ks.lookup x = some .cell ∧ vars.lookup x = some sv
  | [], _, _, h => nomatch h
  | (n, k) :: r, x, sv, h => by
    unfold freeVars at h
    split at h
    · rename_i hk
      rw [Bool.and_eq_true] at hk
      have hk1 : k = .free := by simpa using hk.1
      subst hk1
      split at h
      · rename_i v hv
        rw [List.lookup_cons] at h
        split at h
        · rename_i he
          have he := eq_of_beq he
          subst he
          cases h
          exact ⟨List.mem_cons_self, by simpa using hk.2, hv⟩
        · obtain ⟨a, b⟩ := free_look h
          exact ⟨List.mem_cons_of_mem _ a, b⟩
      · obtain ⟨a, b⟩ := free_look h
        exact ⟨List.mem_cons_of_mem _ a, b⟩
    · obtain ⟨a, b⟩ := free_look h
      exact ⟨List.mem_cons_of_mem _ a, b⟩
theorem lookup_ex {x : Str} : ∀ {cells : List (Str × Addr)}, (∃ c, (x, c) ∈ cells) → ∃ c, cells.lookup x = some c
  | [], ⟨_, h⟩ => nomatch h
  | (n, a) :: r, ⟨c, h⟩ => by
    rw [List.lookup_cons]
    by_cases hx : (x == n) = true
    · rw [hx]; exact ⟨a, rfl⟩
    · have hb : (x == n) = false := by simpa using hx
      rw [hb]
      rcases List.mem_cons.mp h with e | h
      · cases e; simp at hx
      · exact lookup_ex ⟨c, h⟩
section
variable {M : Model} {A : Around} {E : Value → Shared → Prop} {s : Shared} {env : Env}
theorem wpAny_newAround {scope : Scope} {globals : Addr} {cl : List (Str × Addr)} {qual : Str} {Q : Env → Shared → Prop}
    (hQ : Q { scope := scope, locals := s.heap.objs.size, globals := globals, cells := cellsFrom (s.heap.objs.size + 1) scope.names cl, qual := qual, func := none, code := env.code, frame := env.frame, builtins := env.builtins }
      { s with heap := pushCells (s.heap.push { cls := .type "dict", data := .dict #[] }) scope.names }) :
    wpAny M A (newFunctionEnv scope globals cl [] qual none .none (some env)) Q E s := by
  simp only [newFunctionEnv, Option.isSome_some, if_true]
  refine wpAny_bind (wpAny_alloc ?_)
  refine wpAny_bind (wpAny_layCells _ (fun name kind cells => by cases hkc : kind == NameKind.cell <;> simp [hkc]) _ _ _ _ ?_)
  rw [show ({ s with heap := s.heap.push { cls := .type "dict", data := .dict #[] } } : Shared).heap.objs.size = s.heap.objs.size + 1 from Heap.size_push ..]
  exact wpAny_bind (wpAny_pure (wpAny_pure hQ))
end
end Mine
end SDF
section SDG
open PySem PySem.W PySem.Calls PyProof.Rows
namespace Mine
section
variable {prog : Program} {w : World} {A : Around} {K : Frag} {mg mb : Str → Option Value} {ρ : Nat → Int} {H : Heap} {ih : IH} {cx : Cx} {αs αs' αs'' αs0 : List Addr} {hp hp' : Hp} {vars vars' : Vars} {env : Env} {h h' h'' h0 : Heap} {g : Array GenState} {d : Drawn} {t : Nat} {o : OsState} {v : Value} {sv : SV} {xs : List SV} {target : Expr} {acc acc' : SO} {ys : List Value} {n : Nat} {scope : Scope}
/-- a comprehension's frame, new made -/
structure Made (ρ : Nat → Int) (H : Heap) (env : Env) (ks : Kinds) (scope : Scope) (αs : List Addr) (hp : Hp) (vars : Vars) (h : Heap) (D : Addr) (cenv : Env) (Mb : List Addr) (h4 : Heap) : Prop where
  k : EK cenv (relab ks scope.names)
  keeps : ∀ b o, h.get? b = some o → h4.get? b = some o
  F : FR ρ H cenv αs (freeVars ks vars scope.names) h4
  dv : h4.get? D = some (lO [] 0)
  d0 : h.get? D = none
  dc : D ∉ fp cenv
  m0 : ∀ b ∈ Mb, h.get? b = none
  mf : ∀ b ∈ Mb, b ∈ fp cenv
  fm : ∀ b ∈ fp cenv, b ∈ Mb ∨ b ∈ fp env
  own : ∀ target, ownAll scope.names target = true → OwnM cenv Mb (tnames target)
  loc : cenv.locals ∈ Mb
  dsys : D ≠ sysModules
theorem comp_clos (k : EK env cx.ks) (F : FR ρ H env αs vars h) (hc : compOk cx.ks scope.names = true) : closureFor scope env = pure (closAcc env.cells scope.names []) := by
  unfold compOk at hc
  rw [Bool.and_eq_true] at hc
  refine clos_ok fun p hp hf => ?_
  have := List.all_eq_true.mp hc.2 p hp
  rw [hf] at this
  have : cx.ks.lookup p.1 = some .cell := by simpa using this
  exact F.has p.1 ((k.kindOf _).trans this)
theorem comp_env {Z : Value → Env → Shared → Prop} {E} (k : EK env cx.ks) (S : SR ρ H αs hp h) (F : FR ρ H env αs vars h) (hk : scope.kind = .function) (hc : compOk cx.ks scope.names = true)
    (hZ : ∀ D cenv Mb h4 t4, Made ρ H env cx.ks scope αs hp vars h D cenv Mb h4 → Z (.ref D) cenv ⟨h4, g, d, t4, o⟩) :
    wpAny (model prog w) A (newList []) (fun acc s₃ => wpAny (model prog w) A (newFunctionEnv scope env.globals (closAcc env.cells scope.names []) [] env.qual none .none (some env)) (fun cenv s₄ => Z acc { cenv with scope := relabel scope env } s₄) E s₃) E ⟨h, g, d, t, o⟩ := by
  have hcn : nodupS (scope.names.map (·.1)) = true := by unfold compOk at hc; rw [Bool.and_eq_true] at hc; exact hc.1
  have hcf : ∀ x, (x, NameKind.free) ∈ scope.names → cx.ks.lookup x = some .cell := fun x hx => by
    unfold compOk at hc; rw [Bool.and_eq_true] at hc
    have := List.all_eq_true.mp hc.2 _ hx
    simpa using this
  refine wpAny_newObj_type (wpAny_newAround ?_)
  dsimp only
  generalize hH2 : h.push { cls := .type "list", dict := none, data := .seq ([] : List Value).toArray } = H2
  have szC : H2.objs.size = h.objs.size + 1 := by rw [← hH2, Heap.size_push]
  generalize hh4 : pushCells (H2.push { cls := .type "dict", data := .dict #[] }) scope.names = h4
  have hk4 : ∀ b o, h.get? b = some o → h4.get? b = some o := fun b o e => by rw [← hh4, ← hH2]; exact pushCells_keeps _ _ b o (Heap.get?_push_of_some _ (Heap.get?_push_of_some _ e))
  have dv4 : h4.get? h.objs.size = some (lO [] 0) := by rw [← hh4, ← hH2]; exact pushCells_keeps _ _ _ _ (Heap.get?_push_of_some _ (Heap.get?_push_size _ rfl))
  have ns4 : h4.Ns H2.objs.size fun _ => none := by rw [← hh4]; exact (Heap.Ns.new H2 (.type "dict")).keeps (pushCells_keeps _ _)
  have ok := cellsFrom_ok scope.names (H2.push { cls := .type "dict", data := .dict #[] }) (H2.objs.size + 1) [] ⟨fun _ _ hm => (nomatch hm), List.Pairwise.nil⟩ (by rw [Heap.size_push]; exact Nat.le_refl _)
  rw [hh4, Heap.size_push] at ok
  have none_ge : ∀ b, h.objs.size ≤ b → h.get? b = none := fun b hb => (fresh_ge S hb).2.2
  have hcells : cellsFrom (H2.objs.size + 1) scope.names (closAcc env.cells scope.names []) = cellsFrom (H2.objs.size + 1) scope.names [] ++ closAcc env.cells scope.names [] := cells_app _ _ _
  generalize hown : cellsFrom (H2.objs.size + 1) scope.names [] = own at hcells ok
  have ownM : ∀ p ∈ own, (p.1, NameKind.cell) ∈ scope.names := fun p hp => own_mem _ _ (hown ▸ hp)
  have ownE : ∀ p ∈ own, h4.IsCell p.2 none ∧ h.objs.size + 2 ≤ p.2 := fun p hp => ⟨(ok.empty p.1 p.2 hp).1, by have := (ok.empty p.1 p.2 hp).2; omega⟩
  have clM : ∀ p ∈ closAcc env.cells scope.names [], (p.1, NameKind.free) ∈ scope.names ∧ p ∈ env.cells ∧ env.cells.lookup p.1 = some p.2 := fun p hp => by
    rcases clos_mem _ _ hp with z | ⟨z1, z2⟩
    · cases z
    · exact ⟨z1, PySem.mem_of_lookup z2, z2⟩
  have clL : ∀ p ∈ closAcc env.cells scope.names [], h.objs.size > p.2 := fun p hp => by
    obtain ⟨_, hm, _⟩ := clM p hp
    obtain ⟨_, _, _, v, hcl⟩ := F.cel p hm
    exact hcl.lt
  have hks : ∀ x, (relab cx.ks scope.names).lookup x = (scope.names.lookup x).map fun k => if (k == .free && cx.ks.lookup x == some .cell) then .cell else k := fun x => relab_lookup _ _ _
  have hrel : (relabel scope env).names = relab cx.ks scope.names := by
    show scope.names.map _ = scope.names.map _
    refine List.map_congr_left fun p hp => ?_
    obtain ⟨n, kk⟩ := p
    rw [k.kind]
    simp only [k.kindOf]
    cases kk <;> rfl
  refine hZ h.objs.size _ (H2.objs.size :: own.map (·.2)) h4 _ ?_
  rw [hcells]
  refine ⟨⟨hk, hrel, k.glob, k.bi⟩, hk4, ?_, dv4, none_ge _ (Nat.le_refl _), ?_, fun b hb => ?_, fun b hb => ?_, fun b hb => ?_, fun target ht => ⟨List.mem_cons_self, fun x hx c hcl => ?_⟩, List.mem_cons_self, S.szsys⟩
  · have hkd : ∀ x, Env.kindOf { scope := relabel scope env, locals := H2.objs.size, globals := env.globals, cells := own ++ closAcc env.cells scope.names [], qual := env.qual, func := none, code := env.code, frame := env.frame, builtins := env.builtins } x = (relab cx.ks scope.names).lookup x := fun x => by show (relabel scope env).names.lookup x = _; rw [hrel]
    have fC := fresh_ge S (b := H2.objs.size) (by omega)
    refine ⟨⟨fC.1, fC.2.1⟩, fun p hp => ?_, fun p hp q hq e => ?_, fun x hx => ?_, _, ns4, fun x sv hx => ?_⟩
    · rcases List.mem_append.mp hp with hp | hp
      · obtain ⟨z1, z2⟩ := ownE p hp
        have f := fresh_ge S (b := p.2) (by omega)
        exact ⟨f.1, f.2.1, by show @Ne Nat p.2 H2.objs.size; omega, _, z1⟩
      · obtain ⟨_, hm, _⟩ := clM p hp
        obtain ⟨z1, z2, _, v, z4⟩ := F.cel p hm
        exact ⟨z1, z2, by have := clL p hp; show @Ne Nat p.2 H2.objs.size; omega, v, z4.keeps hk4⟩
    · rcases List.mem_append.mp hp with hp | hp <;> rcases List.mem_append.mp hq with hq | hq
      · exact name_of_addr ok.apart hp (e ▸ hq)
      · have := (ownE p hp).2; have := clL q hq; have e' : @Eq Nat p.2 q.2 := e; omega
      · have := (ownE q hq).2; have := clL p hp; have e' : @Eq Nat p.2 q.2 := e; omega
      · exact F.inj p (clM p hp).2.1 q (clM q hq).2.1 e
    · rw [hkd, hks] at hx
      cases hl : scope.names.lookup x with
      | none => rw [hl] at hx; cases hx
      | some kk =>
        rw [hl, Option.map_some, Option.some.injEq] at hx
        have hm : (x, kk) ∈ scope.names := PySem.mem_of_lookup_some hl
        split at hx
        · rename_i hc2
          rw [Bool.and_eq_true] at hc2
          have : kk = .free := by simpa using hc2.1
          subst this
          obtain ⟨c, hcl⟩ := F.has x ((k.kindOf _).trans (hcf x hm))
          exact lookup_ex ⟨c, List.mem_append_right _ (clos_in hcl _ _ hm)⟩
        · subst hx
          obtain ⟨c, hcl⟩ := cell_in (n := H2.objs.size + 1) (acc := []) (.inl hm)
          rw [hown] at hcl
          exact lookup_ex ⟨c, List.mem_append_left _ hcl⟩
    · obtain ⟨hm, hck, hv⟩ := free_look hx
      obtain ⟨m, hn, hvv⟩ := F.ns
      rcases hvv x sv hv with z | ⟨v, b, r⟩
      · exact .inl z
      · refine .inr ⟨v, .inr ⟨?_, ?_⟩, r⟩
        · rw [hkd, hks, nodup_lookup hcn hm, hck]; rfl
        · rcases b with ⟨b1, _⟩ | ⟨b1, c, b2, b3⟩
          · rw [k.kindOf, hck] at b1; cases b1
          · obtain ⟨c', hc'⟩ := lookup_ex (cells := own ++ closAcc env.cells scope.names []) ⟨c, List.mem_append_right _ (clos_in b2 _ _ hm)⟩
            refine ⟨c', hc', ?_⟩
            rcases List.mem_append.mp (PySem.mem_of_lookup hc') with z | z
            · have z1 := nodup_lookup hcn (ownM _ z)
              have z2 := nodup_lookup hcn hm
              rw [z1] at z2; cases z2
            · have := (clM _ z).2.2
              rw [b2] at this
              cases this
              exact b3.keeps hk4
  · intro hb
    rcases List.mem_cons.mp hb with e | hb
    · have e' : h.objs.size = H2.objs.size := e
      omega
    · obtain ⟨p, hp, e⟩ := List.mem_map.mp hb
      have e' : @Eq Nat p.2 h.objs.size := e
      rcases List.mem_append.mp hp with hp | hp
      · have := (ownE p hp).2; omega
      · have := clL p hp; omega
  · rcases List.mem_cons.mp hb with rfl | hb
    · exact none_ge _ (by omega)
    · obtain ⟨p, hp, rfl⟩ := List.mem_map.mp hb
      exact none_ge _ (by have := (ownE p hp).2; omega)
  · rcases List.mem_cons.mp hb with rfl | hb
    · exact List.mem_cons_self
    · obtain ⟨p, hp, rfl⟩ := List.mem_map.mp hb
      exact List.mem_cons_of_mem _ (List.mem_map_of_mem (f := (·.2)) (List.mem_append_left _ hp))
  · rcases List.mem_cons.mp hb with rfl | hb
    · exact .inl List.mem_cons_self
    · obtain ⟨p, hp, rfl⟩ := List.mem_map.mp hb
      rcases List.mem_append.mp hp with hp | hp
      · exact .inl (List.mem_cons_of_mem _ (List.mem_map_of_mem (f := (·.2)) hp))
      · exact .inr (List.mem_cons_of_mem _ (List.mem_map_of_mem (f := (·.2)) (clM p hp).2.1))
  · rcases List.mem_append.mp (PySem.mem_of_lookup hcl) with z | z
    · exact List.mem_cons_of_mem _ (List.mem_map_of_mem (f := (·.2)) z)
    · have z1 := nodup_lookup hcn (clM _ z).1
      have z2 := List.all_eq_true.mp ht x hx
      unfold canSet at z2
      rw [z1] at z2
      cases z2
end
end Mine
end SDG
section SDH
open PySem PySem.W PySem.Calls PyProof.Rows
namespace Mine
section
variable {prog : Program} {w : World} {A : Around} {K : Frag} {mg mb : Str → Option Value} {ρ : Nat → Int} {H : Heap} {ih : IH} {cx : Cx} {αs αs' αs'' αs0 αs2 : List Addr} {hp hp' hp1 : Hp} {vars vars' : Vars} {env : Env} {h h' h'' h0 h2 h4 : Heap} {g : Array GenState} {d : Drawn} {t : Nat} {o : OsState} {v : Value} {sv : SV} {xs : List SV} {target : Expr} {acc acc' : SO} {ys : List Value} {n : Nat} {scope : Scope} {D : Addr} {Mb : List Addr} {cenv : Env}
theorem StepM.drop {M : List Addr} (s : StepM M αs h αs' h') (k : ∀ b ∈ M, h.get? b = none) : StepM [] αs h αs' h' :=
  ⟨s.1, fun b o e => let ⟨n, o', e', q⟩ := s.2 b o e; ⟨n, o', e', fun _ => q fun z => by rw [k b z] at e; cases e⟩⟩
/-- what is known when a comprehension's loop begins -/
structure Begun (ρ : Nat → Int) (H : Heap) (env cenv : Env) (αs2 : List Addr) (h h2 h4 : Heap) (hp1 : Hp) (cvars : Vars) (Mb src wr : List Addr) (D : Addr) : Prop where
  dDH : H.get? D = none
  dw : D ∉ wr
  ds : D ∉ src
  dM : D ∉ Mb
  dc : D ∉ fp cenv
  fw : ∀ b ∈ fp cenv, b ∉ wr
  srcM : ∀ b ∈ src, b ∉ Mb
  mf : ∀ b ∈ Mb, b ∈ fp cenv
  L : LS ρ H cenv αs2 h Mb wr D αs2 hp1 cvars (.list []) h4 [] 0
  off : ∀ b ∈ D :: Mb, h.get? b = none
  loc : cenv.locals ∈ Mb
  dsys : D ≠ sysModules
theorem begun (k : EK env cx.ks) (s2 : StepM [] αs h αs2 h2) (S2 : SR ρ H αs2 hp1 h2) (F : FR ρ H env αs vars h) {I : Addr} {its : List It} {src fp' wr : List Addr} {P Md : Nat → Value → Heap → Prop} {St : Nat → Heap → Prop} (Dw : Drw prog w A ρ H αs2 h target I its src fp' wr P Md St) (st : St 0 h2)
    (hs : ∀ b ∈ src, b ∈ αs2) (M : Made ρ H env cx.ks scope αs2 hp1 vars h2 D cenv Mb h4) : Begun ρ H env cenv αs2 h h2 h4 hp1 (freeVars cx.ks vars scope.names) Mb src wr D := by
  have hsr : ∀ b ∈ src, ∃ o, h2.get? b = some o := fun b hb => S2.in_h (hs b hb)
  have hwr : ∀ b ∈ wr, ∃ o, h2.get? b = some o := Dw.ex 0 h2 st
  have no2 : ∀ {b}, h2.get? b = none → (∃ o, h2.get? b = some o) → False := fun e ⟨o, e'⟩ => by rw [e] at e'; cases e'
  refine ⟨S2.old M.d0, fun z => no2 M.d0 (hwr D z), fun z => no2 M.d0 (hsr D z), fun z => M.dc (M.mf D z), M.dc, fun b hb z => ?_, fun b hb z => no2 (M.m0 b z) (hsr b hb), M.mf, ?_, fun b hb => ?_, M.loc, M.dsys⟩
  · rcases M.fm b hb with y | y
    · exact no2 (M.m0 b y) (hwr b z)
    · obtain ⟨_, _, ob, e⟩ := F.addr y
      rw [(Dw.frsh b z).2.2] at e; cases e
  · exact ⟨S2.keeps M.keeps, M.F, StepM.ext fun b o e => M.keeps b o (s2.keeps b o e), fun z => no2 M.d0 (S2.in_h z), M.dv, fun b hb => (Dw.frsh b hb).1, ⟨[], 0, rfl, trivial⟩⟩
  · rcases List.mem_cons.mp hb with rfl | hb
    · exact no_old s2.keeps M.d0
    · exact no_old s2.keeps (M.m0 b hb)
/-- how a comprehension ends -/
noncomputable def CompFin (prog : Program) (w : World) (A : Around) (ρ : Nat → Int) (H : Heap) (αs : List Addr) (h : Heap) (sv : SV) (hp2 : Hp) (g : Array GenState) (d : Drawn) (o : OsState) (RR : Value → Addr → Result → Shared → Prop) : Prop :=
  ∀ hp' acc' D cenv αs' h' t' vars3 ys n, sv = .ref hp'.length → hp2 = hp' ++ [acc'] → StepM [] αs h αs' h' → SR ρ H αs' hp' h' → FR ρ H cenv αs' vars3 h' → D ∉ αs' → H.get? D = none → h.get? D = none → h.get? cenv.locals = none → D ≠ cenv.locals → D ≠ sysModules →
    h'.get? D = some (lO ys n) → RO ρ αs' (lO ys n) acc' → RR (.ref D) cenv.locals (.ok .next) ⟨h', g, d, t', o⟩
theorem comp_core (G : Gd K H mg mb) (I : Snd prog w H ρ ih) {elt : Expr} {gens : List Comprehension} {pos p : Pos} {hp2 : Hp} (q : compS ih cx vars hp elt gens scope = some (sv, hp2)) (a : AOk cx.d A) (k : EK env cx.ks) (S : SR ρ H αs hp h) (F : FR ρ H env αs vars h) {use : Option (Value → Sem Unit)} {Q : Value → Shared → Prop} {E}
    (hfin : CompFin prog w A ρ H αs h sv hp2 g d o (compPost (model prog w) A E use Q)) :
    wpAny (model prog w) A (comprehension (.ListComp elt gens scope pos) scope env p (newList []) (firstAsync gens) (firstIter gens env) use) Q E ⟨h, g, d, t, o⟩ := by
  unfold compS at q
  split at q
  · rename_i hb
    rw [Bool.and_eq_true] at hb
    have hk : scope.kind = .function := of_decide_eq_true hb.1
    have hc := hb.2
    have hcn : nodupS (scope.names.map (·.1)) = true := by unfold compOk at hc; rw [Bool.and_eq_true] at hc; exact hc.1
    have hnames : ∀ x ∈ scope.names, x.2 = .local → scope.names.lookup x.1 = some .local := fun x hx e => by
      have : (x.1, NameKind.local) ∈ scope.names := by rw [← e]; exact hx
      exact nodup_lookup hcn this
    have hclos := comp_clos (scope := scope) k F hc
    split at q
    · rename_i target iter ifs
      split at q
      · rename_i ht
        obtain ⟨⟨xs, hp1⟩, q1, q⟩ := bind_some q
        dsimp only at q
        split at q
        · rename_i hx
          obtain ⟨⟨vars3, hp3, acc3⟩, q2, q⟩ := bind_some q
          cases q
          have so := src_ok G I q1 target (g := g) (d := d) (t := t) (o := o) (E := E) (Q := fun it s₂ => wpAny (model prog w) A (newList []) (fun acc s₃ => wpAny (model prog w) A (newFunctionEnv scope env.globals (closAcc env.cells scope.names []) [] env.qual none .none (some env)) (fun cenv s₄ =>
            codeAny (model prog w) A (.compStart (.ListComp elt [⟨target, iter, ifs, 0⟩] scope pos) 0 it acc { cenv with scope := relabel scope env }) (compPost (model prog w) A E use Q acc cenv.locals) s₄) E s₃) E s₂) a k S F fun is I2 αs2 h2 t2 src fp wr P Md St s2 S2 Dw st hs self => ?_
          · exact wpAny_comprehension_free rfl so.2 hclos hk hnames so.1
          · refine comp_env (Z := fun acc cenv s₄ => codeAny (model prog w) A (.compStart (.ListComp elt [⟨target, iter, ifs, 0⟩] scope pos) 0 (.ref I2) acc cenv) (compPost (model prog w) A E use Q acc cenv.locals) s₄) k S2 (F.step0 s2) hk hc fun D cenv Mb h4 t4 M => ?_
            have hsrc : ∀ b ∈ src, b ∈ αs2 := fun b hb => by obtain ⟨j, _, e⟩ := hs b hb; exact List.mem_of_getElem? e
            have B := begun k s2 S2 F Dw st hsrc M
            have st4 : St 0 h4 := Dw.K.frame _ _ _ st fun b _ o e => M.keeps b o e
            have loop : codeAny (model prog w) A (.compLoop (.ListComp elt [⟨target, iter, ifs, 0⟩] scope pos) 0 (.ref I2) (.ref D) cenv) (compPost (model prog w) A E use Q (.ref D) cenv.locals) ⟨h4, g, d, t4, o⟩ := by
              refine turnsIn_ok I (tree_one ..) (cx := { cx with ks := relab cx.ks scope.names }) a M.k Dw (M.own _ ht) B.dDH B.dw B.ds B.dM B.dc B.fw B.srcM B.mf vars3 hp3 acc3 xs 0 rfl (Nat.zero_add _) q2 αs2 h4 t4 [] 0 B.L st4 (by show 0 + xs.length ≤ 4096; omega) fun αs3 h3 t3 ys3 n3 s3 S3 F3 dn3 dv3 ac3 hl3 => ?_
              exact hfin hp3 acc3 D cenv αs3 h3 t3 vars3 ys3 n3 rfl rfl ((s2.glue s3).drop B.off) S3 F3 dn3 B.dDH (B.off D List.mem_cons_self) (B.off _ (List.mem_cons_of_mem _ B.loc)) (fun e => B.dM (e ▸ B.loc)) B.dsys dv3 ac3
            exact start_code (g := ⟨target, iter, ifs, 0⟩) rfl rfl loop fun E' => self _ _ _ st4 loop
        · cases q
      · cases q
    · rename_i target iter target2 iter2 ifs2
      split at q
      · rename_i ht
        rw [Bool.and_eq_true] at ht
        obtain ⟨⟨xs, hp1⟩, q1, q⟩ := bind_some q
        dsimp only at q
        split at q
        · rename_i hx
          obtain ⟨⟨vars3, hp3, acc3⟩, q2, q⟩ := bind_some q
          cases q
          have so := src_ok G I q1 target (g := g) (d := d) (t := t) (o := o) (E := E) (Q := fun it s₂ => wpAny (model prog w) A (newList []) (fun acc s₃ => wpAny (model prog w) A (newFunctionEnv scope env.globals (closAcc env.cells scope.names []) [] env.qual none .none (some env)) (fun cenv s₄ =>
            codeAny (model prog w) A (.compStart (.ListComp elt [⟨target, iter, [], 0⟩, ⟨target2, iter2, ifs2, 0⟩] scope pos) 0 it acc { cenv with scope := relabel scope env }) (compPost (model prog w) A E use Q acc cenv.locals) s₄) E s₃) E s₂) a k S F fun is I2 αs2 h2 t2 src fp wr P Md St s2 S2 Dw st hs self => ?_
          · exact wpAny_comprehension_free rfl so.2 hclos hk hnames so.1
          · refine comp_env (Z := fun acc cenv s₄ => codeAny (model prog w) A (.compStart (.ListComp elt [⟨target, iter, [], 0⟩, ⟨target2, iter2, ifs2, 0⟩] scope pos) 0 (.ref I2) acc cenv) (compPost (model prog w) A E use Q acc cenv.locals) s₄) k S2 (F.step0 s2) hk hc fun D cenv Mb h4 t4 M => ?_
            have hsrc : ∀ b ∈ src, b ∈ αs2 := fun b hb => by obtain ⟨j, _, e⟩ := hs b hb; exact List.mem_of_getElem? e
            have B := begun k s2 S2 F Dw st hsrc M
            have st4 : St 0 h4 := Dw.K.frame _ _ _ st fun b _ o e => M.keeps b o e
            have loop : codeAny (model prog w) A (.compLoop (.ListComp elt [⟨target, iter, [], 0⟩, ⟨target2, iter2, ifs2, 0⟩] scope pos) 0 (.ref I2) (.ref D) cenv) (compPost (model prog w) A E use Q (.ref D) cenv.locals) ⟨h4, g, d, t4, o⟩ := by
              refine turnsOut_ok G I (cx := { cx with ks := relab cx.ks scope.names }) a M.k Dw (M.own _ ht.1) (M.own _ ht.2) B.dDH B.dw B.ds B.dM B.dc B.fw B.srcM B.mf vars3 hp3 acc3 xs 0 rfl (Nat.zero_add _) q2 αs2 h4 t4 [] 0 B.L st4 (by show 0 + 200 * xs.length ≤ 4096; omega) fun αs3 h3 t3 ys3 n3 s3 S3 F3 dn3 dv3 ac3 hl3 => ?_
              exact hfin hp3 acc3 D cenv αs3 h3 t3 vars3 ys3 n3 rfl rfl ((s2.glue s3).drop B.off) S3 F3 dn3 B.dDH (B.off D List.mem_cons_self) (B.off _ (List.mem_cons_of_mem _ B.loc)) (fun e => B.dM (e ▸ B.loc)) B.dsys dv3 ac3
            exact start_code (g := ⟨target, iter, [], 0⟩) rfl rfl loop fun E' => self _ _ _ st4 loop
        · cases q
      · cases q
    · cases q
  · cases q
theorem comp_ev (G : Gd K H mg mb) (I : Snd prog w H ρ ih) {elt : Expr} {gens : List Comprehension} {pos : Pos} {hp2 : Hp} (q : compS ih cx vars hp elt gens scope = some (sv, hp2)) : EvOk prog w H ρ cx vars hp sv hp2 fun env => eval (.ListComp elt gens scope pos) env := by
  intro A env αs h g d t o Q E a k S F hQ
  show wpAny (model prog w) A (eval (.ListComp elt gens scope pos) env) Q E _
  rw [eval_ListComp]
  refine comp_core G I q a k S F fun hp' acc' D cenv αs' h' t' vars3 ys n e1 e2 s S' F' dn dH d0 c0 dc ds dv ac => ?_
  subst e1 e2
  obtain ⟨m, hn, _⟩ := F'.ns
  refine ⟨m, hn, fun h'' hs => ?_⟩
  have hk : ∀ b o, b ∉ [cenv.locals] → h'.get? b = some o → h''.get? b = some o := fun b o q e => hs.extBut b o (fun z => q (List.mem_singleton.mpr z)) e
  have s' : StepM [] αs h αs' h'' := s.butW (wr := [cenv.locals]) (fun b hb => by rw [List.mem_singleton.mp hb]; exact c0) hk
  have S'' : SR ρ H αs' hp' h'' := S'.but hs F'.loc.1 F'.loc.2
  refine hQ _ (αs' ++ [D]) h'' t' (s'.add fun o e => by rw [d0] at e; cases e) (S''.add dn dH (fun _ => ds) (hs.extBut _ _ dc dv) ac) ⟨D, ?_, rfl⟩
  rw [← S'.len, List.getElem?_append_right (Nat.le_refl _), Nat.sub_self]; rfl
end
end Mine
end SDH
section SDI
open PySem PySem.W PySem.Calls PyProof.Rows
namespace Mine
section
variable {prog : Program} {w : World} {A : Around} {K : Frag} {mg mb : Str → Option Value} {ρ : Nat → Int} {H : Heap} {ih : IH} {cx : Cx} {αs αs' αs'' αs0 : List Addr} {hp hp' : Hp} {vars vars' : Vars} {env : Env} {h h' h'' h0 : Heap} {g : Array GenState} {d : Drawn} {t : Nat} {o : OsState} {v : Value} {sv : SV} {xs ys : List SV} {target : Expr}
/-- what a for's source hands over -/
noncomputable def SrcFor (prog : Program) (w : World) (A : Around) (ρ : Nat → Int) (H : Heap) (target : Expr) (αs : List Addr) (h : Heap) (hp' : Hp) (its : List It) (is : List Nat) (g : Array GenState) (d : Drawn) (o : OsState) (Q : Value → Shared → Prop) : Prop :=
  ∀ I αs1 h1 t1 src fp wr P Md St, StepM [] αs h αs1 h1 → SR ρ H αs1 hp' h1 → Drw prog w A ρ H αs1 h target I its src fp wr P Md St → St 0 h1 → (∀ b ∈ src, ∃ i ∈ is, αs1[i]? = some b) → Q (.ref I) ⟨h1, g, d, t1, o⟩
theorem zipIt_len : ∀ (xs ys : List SV), (zipIt xs ys).length = min xs.length ys.length
  | [], _ => by simp [zipIt]
  | _ :: _, [] => by simp [zipIt]
  | _ :: r, _ :: q => by simp only [zipIt, List.length_cons, zipIt_len r q]; omega
theorem zipIt_get : ∀ (xs ys : List SV) (i : Nat) {it : It}, (zipIt xs ys)[i]? = some it → ∃ a b, xs[i]? = some a ∧ ys[i]? = some b ∧ it = .two a b
  | [], _, _, _, e => by simp [zipIt] at e
  | _ :: _, [], _, _, e => by simp [zipIt] at e
  | x :: r, y :: q, 0, _, e => by simp [zipIt] at e; exact ⟨x, y, rfl, rfl, e.symm⟩
  | x :: r, y :: q, i + 1, _, e => by
    exact zipIt_get r q i (by simpa [zipIt] using e)
theorem enumIt_len : ∀ (xs : List SV) (k : Nat), (enumIt k xs).length = xs.length
  | [], _ => rfl
  | _ :: r, k => by rw [enumIt, List.length_cons, enumIt_len r, List.length_cons]
theorem enumIt_get : ∀ (xs : List SV) (k i : Nat) {it : It}, (enumIt k xs)[i]? = some it → ∃ a, xs[i]? = some a ∧ it = .two (.int (.lit (k + i : Nat))) a
  | [], _, _, _, e => by cases e
  | x :: r, k, 0, _, e => by cases e; exact ⟨x, rfl, rfl⟩
  | x :: r, k, i + 1, _, e => by
    obtain ⟨a, e1, e2⟩ := enumIt_get r (k + 1) i e
    exact ⟨a, e1, by rw [e2]; congr 4; omega⟩
theorem zip_src (hh : A.handled = none) (S : SR ρ H αs hp h) {i j : Nat} {l1 l2 : Addr} (h1 : αs[i]? = some l1) (h2 : αs[j]? = some l2) (e1 : hp[i]? = some (.list xs)) (e2 : hp[j]? = some (.list ys)) {es : List Expr} {kk : Nat} {pos : Pos} {h00 : Heap} {αs00 : List Addr} (s0 : StepM [] αs00 h00 αs h) {Q : Value → Shared → Prop} {E}
    (hQ : SrcFor prog w A ρ H (.Tuple es kk pos) αs00 h00 hp (zipIt xs ys) [i, j] g d o Q) :
    wpAny (model prog w) A (call (.type "zip") [.ref l1, .ref l2]) (fun x s1 => wpAny (model prog w) A (pyIter x) Q E s1) E ⟨h, g, d, t, o⟩ := by
  obtain ⟨o1, g1, r1⟩ := S.at h1 e1
  obtain ⟨o2, g2, r2⟩ := S.at h2 e2
  obtain ⟨vs, n1, rfl, rv1⟩ := r1
  obtain ⟨ws, n2, rfl, rv2⟩ := r2
  have hl1 := lO_list g1
  have hl2 := lO_list g2
  refine call_zip_2 hl1 hl2 fun h' hz hTI hTO hi1 hi2 hsz hk => ?_
  refine wpAny_pyIter_zip hz ?_
  have Dz : ZipApart (h.objs.size + 4) (h.objs.size + 2) (h.objs.size + 3) h.objs.size (h.objs.size + 1) l1 l2 := ktu_apart _ _ _ (Heap.lt_size g1) (Heap.lt_size g2)
  have W := KTurns.ofWalksU (elts := es) (k := kk) (pos := pos) (WalksT.zip2 (prog := prog) (w := w) (A := A) hh _ _ _ _ _ _ _ Dz vs.toArray ws.toArray).toU
  have W' := wider W (wr' := [h.objs.size + 4, h.objs.size + 3, h.objs.size, h.objs.size + 1, h.objs.size + 2]) (fun b hb => by simp at hb ⊢; rcases hb with rfl | rfl | rfl | rfl <;> simp) (fun b hb => by simp at hb ⊢; rcases hb with rfl | rfl | rfl | rfl | rfl <;> simp)
  have hlen : min vs.toArray.size ws.toArray.size = (zipIt xs ys).length := by rw [zipIt_len, List.size_toArray, List.size_toArray, rv1.length, rv2.length]
  rw [hlen] at W'
  have ge : ∀ b ∈ [h.objs.size + 4, h.objs.size + 3, h.objs.size, h.objs.size + 1, h.objs.size + 2], h.objs.size ≤ b := fun b hb => by simp at hb; omega
  refine hQ _ αs h' _ [l1, l2] _ _ _ _ _ (s0.trans (StepM.ext hk)) (S.keeps hk) ⟨W', fun m v h'' it q1 q2 => ?_, fun b hb => ?_, fun b hb => ?_, fun m h'' st b hb => ?_⟩ ⟨hz, hTI, ⟨_, _, hTO⟩, hi1, hi2, hl1.at fun o e => hk _ o e, hl2.at fun o e => hk _ o e⟩ (fun b hb => ?_)
  · obtain ⟨a, b, z1, z2, rfl⟩ := zipIt_get _ _ _ q1
    obtain ⟨T, vals, rfl, ⟨x, y, hx, hy, rfl⟩, hT⟩ := q2
    obtain ⟨v', y1, y2⟩ := rv1.get z1
    obtain ⟨w', y3, y4⟩ := rv2.get z2
    have hx' : vs[m]? = some x := by simpa using hx
    have hy' : ws[m]? = some y := by simpa using hy
    rw [hx'] at y1; rw [hy'] at y3
    cases y1; cases y3
    exact ⟨T, x, y, rfl, hT, y2, y4⟩
  · have f := fresh_ge S (ge b hb)
    exact ⟨f.1, f.2.1, no_old s0.keeps f.2.2⟩
  · simp at hb
    rcases hb with rfl | rfl | rfl | rfl | rfl | rfl | rfl
    · exact .inl (by simp)
    · exact .inl (by simp)
    · exact .inl (by simp)
    · exact .inl (by simp)
    · exact .inl (by simp)
    · exact .inr (by simp)
    · exact .inr (by simp)
  · obtain ⟨z1, z2, ⟨_, _, z3⟩, ⟨_, z4, _⟩, ⟨_, z5, _⟩, _⟩ := st
    simp at hb
    rcases hb with rfl | rfl | rfl | rfl | rfl
    · exact ⟨_, z1⟩
    · exact ⟨_, z3⟩
    · exact ⟨_, z4⟩
    · exact ⟨_, z5⟩
    · exact ⟨_, z2⟩
  · simp at hb
    rcases hb with rfl | rfl
    · exact ⟨i, by simp, h1⟩
    · exact ⟨j, by simp, h2⟩
theorem enum_src (hh : A.handled = none) (S : SR ρ H αs hp h) {i : Nat} {l : Addr} (h1 : αs[i]? = some l) (e1 : hp[i]? = some (.list xs)) {es : List Expr} {kk : Nat} {pos : Pos} {h00 : Heap} {αs00 : List Addr} (s0 : StepM [] αs00 h00 αs h) {Q : Value → Shared → Prop} {E}
    (hQ : SrcFor prog w A ρ H (.Tuple es kk pos) αs00 h00 hp (enumIt 0 xs) [i] g d o Q) :
    wpAny (model prog w) A (call (.type "enumerate") [.ref l]) (fun x s1 => wpAny (model prog w) A (pyIter x) Q E s1) E ⟨h, g, d, t, o⟩ := by
  obtain ⟨o1, g1, r1⟩ := S.at h1 e1
  obtain ⟨vs, n1, rfl, rv1⟩ := r1
  have hl := lO_list g1
  have hlt : l < h.objs.size := Heap.lt_size g1
  refine call_enumerate_list hl fun h' hE hI hsz hk => ?_
  refine wpAny_pyIter_enum hE ?_
  have W := KTurns.ofWalksU (elts := es) (k := kk) (pos := pos) (WalksT.enumerate (prog := prog) (w := w) (A := A) hh (h.objs.size + 1) h.objs.size l (Nat.succ_ne_self _) (ktu_ne 1 hlt) (Nat.ne_of_lt hlt) vs.toArray).toU
  have hlen : vs.toArray.size = (enumIt 0 xs).length := by rw [enumIt_len, List.size_toArray, rv1.length]
  rw [hlen] at W
  have ge : ∀ b ∈ [h.objs.size + 1, h.objs.size], h.objs.size ≤ b := fun b hb => by simp at hb; omega
  refine hQ _ αs h' _ [l] _ _ _ _ _ (s0.trans (StepM.ext hk)) (S.keeps hk) ⟨W, fun m v h'' it q1 q2 => ?_, fun b hb => ?_, fun b hb => ?_, fun m h'' st b hb => ?_⟩ ⟨⟨.none, hE⟩, hI, hl.at fun o e => hk _ o e⟩ (fun b hb => ?_)
  · obtain ⟨a, z1, rfl⟩ := enumIt_get _ _ _ q1
    obtain ⟨T, vals, rfl, ⟨tk, x, hx, rfl⟩, hT⟩ := q2
    obtain ⟨v', y1, y2⟩ := rv1.get z1
    have hx' : vs[m]? = some x := by simpa using hx
    rw [hx'] at y1
    cases y1
    refine ⟨T, _, x, rfl, hT, ⟨tk, ?_⟩, y2⟩
    simp [IE.den]
  · have f := fresh_ge S (ge b hb)
    exact ⟨f.1, f.2.1, no_old s0.keeps f.2.2⟩
  · simp at hb
    rcases hb with rfl | rfl | rfl
    · exact .inl (by simp)
    · exact .inl (by simp)
    · exact .inr (by simp)
  · obtain ⟨⟨_, z1⟩, ⟨_, z2, _⟩, _⟩ := st
    simp at hb
    rcases hb with rfl | rfl
    · exact ⟨_, z1⟩
    · exact ⟨_, z2⟩
  · simp at hb
    subst hb
    exact ⟨i, by simp, h1⟩
theorem dict_at {H' : Heap} {d1 : Addr} {n : Nat} (e : H'.get? d1 = some { cls := .type "dict", data := .dict #[] n }) : H'.DictAt (strKind prog w) d1 [] n := by
  obtain ⟨o, es, ep, ho, hc, hdat, hk, hp, hn⟩ := Heap.DictOf.new (knd := strKind prog w) (default : Heap)
  have ho' := ho
  rw [Heap.get?_push_size _ rfl] at ho'
  cases ho'
  cases hdat
  exact ⟨_, #[], e, ⟨rfl, rfl, rfl⟩, rfl, hk, hp, hn⟩
theorem items_src (G : Gd K H mg mb) (hh : A.handled = none) (S : SR ρ H αs hp h) {i : Nat} {d1 : Addr} (h1 : αs[i]? = some d1) (e1 : hp[i]? = some .dict) {es : List Expr} {kk : Nat} {pos : Pos} {h00 : Heap} {αs00 : List Addr} (s0 : StepM [] αs00 h00 αs h) {Q : Value → Shared → Prop} {E}
    (hQ : SrcFor prog w A ρ H (.Tuple es kk pos) αs00 h00 hp [] [i] g d o Q) :
    wpAny (model prog w) A (call (.builtin "dict.items") [.ref d1]) (fun x s1 => wpAny (model prog w) A (pyIter x) Q E s1) E ⟨h, g, d, t, o⟩ := by
  obtain ⟨ob, g1, n, rfl⟩ := S.at h1 e1
  have hsys : (d1 == sysModules) = false := beq_eq_false_iff_ne.mpr (S.sys i d1 h1 e1)
  have hat := dict_at (prog := prog) (w := w) g1
  refine call_meetsIn PySem.F.slot_dict_items hat.dictOf.typeIs PySem.F.entry_dict_items (PySem.F.args_dict_items_1 _) (meets_dict_items (strKind prog w) d1 hsys) ⟨⟨[], hat.dictOf⟩, ?_⟩
  have hk : ∀ (ob : Obj) (H' : Heap) b o, H'.get? b = some o → (H'.push ob).get? b = some o := fun ob H' b o e => Heap.get?_push_of_some _ e
  have hat2 : (h.push { cls := .type "dict_items", data := .fields #[.ref d1] }).DictAt (strKind prog w) d1 [] n := hat.push _
  refine wpAny_pyIter_items (knd := strKind prog w) (d := d1) (kvs := []) (ep := n) ⟨_, Heap.get?_push_size _ rfl, rfl, rfl⟩ hat2 ?_
  have S2 := S.keeps (hk { cls := .type "dict_items", data := .fields #[.ref d1] } h)
  have hne : d1 ≠ (h.push { cls := .type "dict_items", data := .fields #[.ref d1] }).objs.size := Nat.ne_of_lt hat2.lt_size
  have W := kti_itemsTurns (prog := prog) (w := w) (A := A) (knd := strKind prog w) (elts := es) (kk := kk) (pos := pos) hh (h.push { cls := .type "dict_items", data := .fields #[.ref d1] }).objs.size d1 hne [] n
  have f := fresh_ge S2 (Nat.le_refl _)
  refine hQ _ αs _ _ [d1] _ _ _ _ _ ((s0.trans (StepM.ext (hk _ _))).trans (StepM.ext (hk _ _))) (S2.keeps (hk _ _)) ⟨W, fun m v h'' it q1 q2 => ?_, fun b hb => ?_, fun b hb => ?_, fun m h'' st b hb => ?_⟩ ⟨⟨.none, .none, Heap.get?_push_size _ rfl⟩, hat2.push _⟩ (fun b hb => ?_)
  · cases q1
  · rw [List.mem_singleton.mp hb]
    exact ⟨f.1, f.2.1, no_old (fun b o e => hk _ _ b o (s0.keeps b o e)) f.2.2⟩
  · rcases List.mem_cons.mp hb with rfl | hb
    · exact .inl List.mem_cons_self
    · exact .inr hb
  · obtain ⟨⟨_, _, z⟩, _⟩ := st
    rw [List.mem_singleton.mp hb]; exact ⟨_, z⟩
  · rw [List.mem_singleton.mp hb]; exact ⟨i, List.mem_singleton.mpr rfl, h1⟩
/-- a for's source -/
theorem items_ok (G : Gd K H mg mb) (I : Snd prog w H ρ ih) {T : Tab} {e : Expr} {its : List It} {is : List Nat} (q : itemsS T ih cx vars hp e = some (its, hp', is)) (tgt : Expr) (ht : (∃ es kk pos, tgt = .Tuple es kk pos) ∨ (∃ f p es q, e = .Call (.Name f p) es [] q ∧ glob cx f "range" = true)) {Q : Value → Shared → Prop} {E} (a : AOk cx.d A) (k : EK env cx.ks) (S : SR ρ H αs hp h) (F : FR ρ H env αs vars h)
    (hQ : SrcFor prog w A ρ H tgt αs h hp' its is g d o Q) :
    wpAny (model prog w) A (eval e env) (fun x s1 => wpAny (model prog w) A (pyIter x) Q E s1) E ⟨h, g, d, t, o⟩ ∧ ∀ x, foldedSetIterable e env x = pure x := by
  unfold itemsS at q
  split at q
  · refine ⟨?_, fun _ => rfl⟩
    replace q := bind_some q
    obtain ⟨⟨vs, hp1⟩, q1, q⟩ := q
    dsimp only at q
    split at q
    · rename_i hg
      obtain ⟨ns, q2, q⟩ := bind_some q
      obtain ⟨is', q3, q⟩ := bind_some q
      cases q
      exact range_src G I hg q1 q2 q3 tgt a k S F fun I αs1 h1 t1 src fp wr P Md St z1 z2 z3 z4 z5 _ => hQ I αs1 h1 t1 src fp wr P Md St z1 z2 z3 z4 z5
    · rename_i hng
      have ht' : ∃ es kk pos, tgt = .Tuple es kk pos := by
        rcases ht with z | ⟨f, p, es, q, e, z⟩
        · exact z
        · cases e; exact absurd z hng
      obtain ⟨es', kk, tp, rfl⟩ := ht'
      split at q
      · rename_i hg
        obtain ⟨rfl, hx⟩ := glob_inv hg
        split at q
        · split at q
          · rename_i i j _ _ xs ys e1 e2
            cases q
            refine type_ok G I "zip" hx G.zip q1 a k S F fun vs αs1 h1 t1 s1 S1 r1 => ?_
            obtain ⟨v1, v2, rfl, ⟨l1, z1, rfl⟩, ⟨l2, z2, rfl⟩⟩ := pair_inv r1
            exact zip_src a.hh S1 z1 z2 e1 e2 s1 hQ
          · cases q
        · cases q
      · split at q
        · rename_i hg
          obtain ⟨rfl, hx⟩ := glob_inv hg
          split at q
          · split at q
            · rename_i i _ xs e1
              cases q
              refine type_ok G I "enumerate" hx G.enumerate q1 a k S F fun vs αs1 h1 t1 s1 S1 r1 => ?_
              obtain ⟨v1, rfl, ⟨l1, z1, rfl⟩⟩ := one_inv r1
              exact enum_src a.hh S1 z1 e1 s1 hQ
            · cases q
          · cases q
        · cases q
  · split at q
    · rename_i hm
      obtain ⟨rfl, hline⟩ := hm
      replace q := bind_some q
      obtain ⟨⟨v1, hp1⟩, q1, q⟩ := q
      dsimp only at q
      split at q
      · rename_i i
        split at q
        · rename_i e1
          cases q
          have ht' : ∃ es kk pos, tgt = .Tuple es kk pos := by
            rcases ht with z | ⟨f, p, es, q, e, z⟩
            · exact z
            · cases e
          obtain ⟨es', kk, tp, rfl⟩ := ht'
          refine ⟨wpAny_Call_method (T := "dict") (id := "dict.items") rfl rfl hline PySem.F.plainAttrs_dict PySem.F.slot_dict_items PySem.F.type_dict_items (I.ev q1 a k S F fun v αs1 h1 t1 s1 S1 r1 => ?_), fun _ => rfl⟩
          obtain ⟨d1, z1, rfl⟩ := r1
          obtain ⟨ob, g1, n, rfl⟩ := S1.at z1 e1
          refine ⟨⟨_, g1, rfl⟩, fun a e => by cases e; exact ⟨_, g1, rfl⟩, ?_⟩
          exact callWith_builtin rfl (evalArgs_nil3 (items_src G a.hh S1 z1 e1 s1 hQ))
        · cases q
      · cases q
    · cases q
  · cases q
end
end Mine
end SDI
section SDJ
open PySem PySem.W PySem.Calls PyProof.Rows
namespace Mine
section
variable {prog : Program} {w : World} {A : Around} {K : Frag} {mg mb : Str → Option Value} {ρ : Nat → Int} {H : Heap} {ih : IH} {T : Tab} {cx : Cx} {αs αs' αs'' αs0 αs1 αs2 : List Addr} {hp hp' hp1 hp2 : Hp} {vars vars' vars1 : Vars} {env : Env} {h h' h'' h0 h1 h2 : Heap} {g : Array GenState} {d : Drawn} {t : Nat} {o : OsState} {v : Value} {sv : SV} {xs : List SV} {target : Expr} {mu mu2 : List Nat} {M : List Addr} {fl : Fl}
theorem StepM.seq (a : StepM (M ++ addrs αs' mu) αs h αs' h') (b : StepM (M ++ addrs αs'' mu2) αs' h' αs'' h'') : StepM (M ++ addrs αs'' (mu ++ mu2)) αs h αs'' h'' := by
  obtain ⟨m, e⟩ := b.1
  refine (a.weak fun c hc => ?_).trans (b.weak fun c hc => ?_)
  · rcases List.mem_append.mp hc with hc | hc
    · exact List.mem_append_left _ hc
    · obtain ⟨i, hi, ei⟩ := mem_addrs.mp hc
      exact List.mem_append_right _ (mem_addrs.mpr ⟨i, List.mem_append_left _ hi, by rw [e]; exact get_pre ei⟩)
  · rcases List.mem_append.mp hc with hc | hc
    · exact List.mem_append_left _ hc
    · obtain ⟨i, hi, ei⟩ := mem_addrs.mp hc
      exact List.mem_append_right _ (mem_addrs.mpr ⟨i, List.mem_append_right _ hi, ei⟩)
theorem StepM.old' (s : StepM (M ++ addrs αs' mu) αs h αs' h') (nd : αs'.Nodup) : StepM (M ++ addrs αs (mu.filter (· < αs.length))) αs h αs' h' := by
  obtain ⟨⟨more, rfl⟩, s⟩ := s
  refine ⟨⟨more, rfl⟩, fun b o e => ?_⟩
  obtain ⟨n1, o', e', q⟩ := s b o e
  refine ⟨n1, o', e', fun hb => q fun hm => ?_⟩
  rcases List.mem_append.mp hm with hm | hm
  · exact hb (List.mem_append_left _ hm)
  · obtain ⟨i, hi, ei⟩ := mem_addrs.mp hm
    rcases Nat.lt_or_ge i αs.length with lt | ge
    · refine hb (List.mem_append_right _ (mem_addrs.mpr ⟨i, List.mem_filter.mpr ⟨hi, by simpa using lt⟩, ?_⟩))
      rw [List.getElem?_append_left lt] at ei; exact ei
    · by_cases hin : b ∈ αs
      · obtain ⟨j, ej⟩ := List.getElem?_of_mem hin
        have hj := (List.getElem?_eq_some_iff.mp ej).1
        have : i = j := (List.getElem?_inj (List.getElem?_eq_some_iff.mp ei).1 nd).mp (ei.trans (get_pre ej).symm)
        omega
      · exact n1 hin (List.mem_of_getElem? ei)
theorem while_ok (I : Snd prog w H ρ ih) {test : Expr} {body : List Stmt} {pos : Pos} {N : Nat} (q : whileS ih cx test body N vars hp = some (vars', hp', mu)) : SsOk prog w H ρ cx vars hp .next vars' hp' mu fun env => exec (.While test body [] pos) env := by
  intro A env αs h g d t o Q E a k S F hQ
  refine wpAny_While (codeAny_whileLoop (fun n s => ∃ αs1 h1 t1 vars1 hp1 mu1, s = ⟨h1, g, d, t1, o⟩ ∧ whileS ih cx test body n vars1 hp1 = some (vars', hp', mu1) ∧ SR ρ H αs1 hp1 h1 ∧ FR ρ H env αs1 vars1 h1 ∧
    (∀ αs' h' t', StepM (fp env ++ addrs αs' mu1) αs1 h1 αs' h' → SR ρ H αs' hp' h' → FR ρ H env αs' vars' h' → Q .next ⟨h', g, d, t', o⟩)) ?_ N ⟨αs, h, t, vars, hp, mu, rfl, q, S, F, fun αs' h' t' z1 z2 z3 => hQ .next αs' h' t' z1 z2 z3 rfl⟩)
  rintro n s ⟨αs1, h1, t1, vars1, hp1, mu1, rfl, q, S1, F1, hR⟩
  cases n with
  | zero => simp [whileS] at q
  | succ n =>
    simp only [whileS] at q
    obtain ⟨⟨c, hp2⟩, q1, q⟩ := bind_some q
    dsimp only at q
    refine I.ts q1 a k S1 F1 fun αs2 h2 t2 s2 S2 => ?_
    cases hd : decB c with
    | none => rw [hd] at q; cases q
    | some b =>
      rw [hd] at q
      rw [decB_ok ρ c b hd]
      cases b with
      | false =>
        cases q
        rw [if_neg (by simp)]
        exact wpAny_execs_nil (hR αs2 h2 t2 s2.of0 S2 (F1.step0 s2))
      | true =>
        rw [if_pos rfl]
        dsimp only at q
        obtain ⟨⟨fl, vars2, hp3, mu2⟩, q2, q⟩ := bind_some q
        dsimp only at q
        cases fl with
        | ret v => cases q
        | next =>
          obtain ⟨⟨vars3, hp4, mu3⟩, q3, q⟩ := bind_some q
          cases q
          refine I.ss q2 a k S2 (F1.step0 s2) fun f αs3 h3 t3 s3 S3 F3 rf => ?_
          cases rf
          exact ⟨n, Nat.lt_succ_self _, αs3, h3, t3, vars2, hp3, mu3, rfl, q3, S3, F3, fun αs' h' t' z1 z2 z3 => hR αs' h' t' ((s2.of0.trans s3).seq z1) z2 z3⟩
theorem for_ok (G : Gd K H mg mb) (I : Snd prog w H ρ ih) {iter : Expr} {body : List Stmt} {pos : Pos} {its : List It} {is : List Nat} (hc : (isTupT target || rangeCall cx iter) = true) (q1 : itemsS T ih cx vars hp iter = some (its, hp1, is)) (q2 : forS ih cx target body is vars hp1 its = some (vars', hp', mu)) :
    SsOk prog w H ρ cx vars hp .next vars' hp' mu fun env => exec (.For target iter body [] pos) env := by
  intro A env αs h g d t o Q E a k S F hQ
  have ht : (∃ es kk pos, target = .Tuple es kk pos) ∨ (∃ f p es q, iter = .Call (.Name f p) es [] q ∧ glob cx f "range" = true) := by
    rw [Bool.or_eq_true] at hc
    rcases hc with z | z
    · cases target with
      | Tuple es kk pos => exact .inl ⟨es, kk, pos, rfl⟩
      | _ => cases z
    · unfold rangeCall at z
      split at z
      · exact .inr ⟨_, _, _, _, rfl, z⟩
      · cases z
  have so := items_ok G I q1 target ht (g := g) (d := d) (t := t) (o := o) (E := E) (Q := fun it s₂ => codeAny (model prog w) A (.forLoop target it body [] env) (fun r s' => match r with | .ok f => Q f s' | .error e => cameBackBy (model prog w) A env E e s') s₂) a k S F fun Ia αs1 h1 t1 src fp' wr P Md St s1 S1 D st hs => ?_
  · exact wpAny_For so.1 so.2
  · have hfw : ∀ b ∈ Mine.fp env, b ∉ wr := fun b hb z => by obtain ⟨_, _, ob, e⟩ := F.addr hb; rw [(D.frsh b z).2.2] at e; cases e
    refine codeAny_forLoop_any (fun n s => ∃ i rest αs2 h2 t2 vars2 hp2 muA mu2, s = ⟨h2, g, d, t2, o⟩ ∧ its.drop i = rest ∧ i + rest.length = its.length ∧ n = rest.length + 1 ∧ forS ih cx target body is vars2 hp2 rest = some (vars', hp', mu2) ∧ SR ρ H αs2 hp2 h2 ∧ FR ρ H env αs2 vars2 h2 ∧
      StepM (Mine.fp env ++ addrs αs2 muA) αs1 h αs2 h2 ∧ (∀ b ∈ wr, b ∉ αs2) ∧ St i h2 ∧ muA ++ mu2 = mu) ?_ (its.length + 1) ⟨0, its, αs1, h1, t1, vars, hp1, [], mu, rfl, rfl, Nat.zero_add _, rfl, q2, S1, F.step0 s1, StepM.ext s1.keeps, fun b hb => (D.frsh b hb).1, st, rfl⟩
    rintro n s ⟨i, rest, αs2, h2, t2, vars2, hp2, muA, mu2, rfl, hd, hi, rfl, q, S2, F2, s2, wn, st2, rfl⟩
    have pre : ∃ m, αs2 = αs1 ++ m := s2.1
    have hsr : ∀ b ∈ src, b ∈ αs2 := fun b hb => by obtain ⟨j, _, e⟩ := hs b hb; obtain ⟨m, rfl⟩ := pre; exact List.mem_append_left _ (List.mem_of_getElem? e)
    cases rest with
    | nil =>
      simp only [forS] at q
      cases q
      have hlen : its.length = i := by simpa using hi.symm
      refine D.K.done _ _ _ (hlen ▸ st2) fun h3 t3 hk => ?_
      refine wpAny_execs_nil ?_
      have hD0 : ∀ b ∈ wr, h.get? b = none := fun b hb => (D.frsh b hb).2.2
      refine hQ .next αs2 h3 t3 ?_ (S2.butW (fun b hb => ⟨wn b hb, (D.frsh b hb).2.1⟩) hk) (F2.butW hfw hk) rfl
      rw [List.append_nil]
      exact s1.glue (s2.butW hD0 hk)
    | cons it rest =>
      have hix : its[i]? = some it := by
        have := congrArg (·[0]?) hd
        simpa using this
      have hd' : its.drop (i + 1) = rest := by
        have := congrArg List.tail hd
        simpa using this
      rw [List.length_cons] at hi
      simp only [forS] at q
      obtain ⟨vars3, q3, q⟩ := bind_some q
      obtain ⟨⟨fl, vars4, hp4, mu4⟩, q4, q⟩ := bind_some q
      dsimp only at q
      split at q
      · rename_i hsrcs
        obtain ⟨⟨vars5, hp5, mu5⟩, q5, q⟩ := bind_some q
        cases q
        refine next_ok D a.hh k OwnM.fp hix st2 s2 q3 S2 F2 wn hfw (fun b hb z => (F2.addr z).1 (hsr b hb)) hfw (fun b hb => List.mem_append_left _ hb) (fun v s1 z => z) fun h3 t3 st3 s3 hk3 S3 F3 => ?_
        refine I.ss q4 a k S3 F3 fun f αs4 h4 t4 s4 S4 F4 rf => ?_
        cases rf
        refine ⟨rest.length + 1, by simp, i + 1, rest, αs4, h4, t4, vars4, hp4, muA ++ mu4, mu5, rfl, hd', by omega, rfl, q5, S4, F4, s3.seq s4, fun b hb => let ⟨_, e⟩ := D.ex _ _ st3 b hb; s4.off e (wn b hb), ?_, by rw [List.append_assoc]⟩
        refine D.K.frame _ _ _ st3 fun b hb o e => s4.keep e fun z => ?_
        rcases List.mem_append.mp z with z | z
        · rcases D.fpo b hb with y | y
          · exact hfw b z y
          · exact (F2.addr z).1 (hsr b y)
        · obtain ⟨j, hj, ej⟩ := mem_addrs.mp z
          rcases D.fpo b hb with y | y
          · exact (s4.off e (wn b y)) (List.mem_of_getElem? ej)
          · obtain ⟨i0, hi0, e0⟩ := hs b y
            have e4 : αs4[i0]? = some b := by obtain ⟨m, rfl⟩ := pre; obtain ⟨⟨m', rfl⟩, _⟩ := s4; exact get_pre (get_pre e0)
            have : j = i0 := (List.getElem?_inj (List.getElem?_eq_some_iff.mp ej).1 S4.nodup).mp (ej.trans e4.symm)
            subst this
            have := List.all_eq_true.mp hsrcs j hi0
            rw [Bool.not_eq_true', ← Bool.not_eq_true, List.contains_iff_mem] at this
            exact this hj
      · cases q
end
end Mine
end SDJ
section SDK
open PySem PySem.W PySem.Calls PyProof.Rows
namespace Mine
section
variable {prog : Program} {w : World} {A : Around} {K : Frag} {mg mb : Str → Option Value} {ρ : Nat → Int} {H : Heap} {ih : IH} {T : Tab} {cx : Cx} {αs αs' αs'' αs0 αs1 αs2 : List Addr} {hp hp' hp1 hp2 : Hp} {vars vars' vars1 : Vars} {env : Env} {h h' h'' h0 h1 h2 : Heap} {g : Array GenState} {d : Drawn} {t : Nat} {o : OsState} {v : Value} {sv : SV} {xs : List SV} {target : Expr} {mu mu2 : List Nat} {M : List Addr} {fl : Fl}
theorem plain_swaps {x : Str} {p : Pos} {e : Expr} {n : Nat} {env : Env} (q : plainVal e = true) : swapsWith e (some (.Name x p)) n env = pure false := by
  cases e <;> first | rfl | (cases q)
theorem asgn_ok (I : Snd prog w H ρ ih) {x : Str} {p pos : Pos} {e : Expr} (q1 : ih.ev cx vars hp e = some (sv, hp')) (hc : canSet cx.ks x = true) (hv : plainVal e = true) : SsOk prog w H ρ cx vars hp .next (setV vars x sv) hp' [] fun env => exec (.Assign [.Name x p] e pos) env := by
  intro A env αs h g d t o Q E a k S F hQ
  refine wpAny_Assign_Name (I.ev q1 a k S F fun v αs1 h1 t1 s1 S1 r1 => ?_) (plain_swaps hv)
  refine store_ok k S1 (F.step0 s1) hc r1 fun h2 t2 s2 S2 F2 => ?_
  exact hQ .next αs1 h2 t2 (by rw [show addrs αs1 [] = [] from rfl, List.append_nil]; exact s1.of0.trans s2) S2 F2 rfl
theorem tupasg_ok (I : Snd prog w H ρ ih) {es : List Expr} {n : Nat} {p pos : Pos} {e : Expr} (q1 : ih.ev cx vars hp e = some (sv, hp')) (q2 : asgS cx.ks vars hp' (.Tuple es n p) (.one sv) = some vars') (hv : tupVal cx.ks es e = true) : SsOk prog w H ρ cx vars hp .next vars' hp' [] fun env => exec (.Assign [.Tuple es n p] e pos) env := by
  intro A env αs h g d t o Q E a k S F hQ
  refine Assign_Tuple (I.ev q1 a k S F fun v αs1 h1 t1 s1 S1 r1 => ?_) ?_ ?_
  · refine asg_ok a.hh k OwnM.fp q2 S1 (F.step0 s1) (show ItV ρ αs1 h1 v (.one sv) from r1) fun h2 t2 s2 S2 F2 => ?_
    exact hQ .next αs1 h2 t2 (by rw [show addrs αs1 [] = [] from rfl, List.append_nil]; exact s1.of0.trans s2) S2 F2 rfl
  · cases e <;> first | rfl | (cases hv)
  · unfold tupVal at hv
    split at hv
    · rfl
    · rfl
    · rename_i vs k' p'
      rw [Bool.and_eq_true] at hv
      have hn : (es.filterMap fun
          | .Name id pos => if env.kindOf id == some .local && pos.line == ((es.head?.map (·.pos.line)).getD 0) then some id else none
          | _ => none) = [] := by
        rw [List.filterMap_eq_nil_iff]
        intro y hy
        have := List.all_eq_true.mp hv.1 y hy
        unfold cellName at this
        split at this
        · rename_i x px
          have := of_decide_eq_true this
          simp [k.kindOf, this]
        · cases this
      have hne : ¬ (0 = es.length) := by
        intro z
        have : es = [] := List.length_eq_zero_iff.mp z.symm
        rw [this] at hv
        exact absurd hv.2 (by simp)
      unfold swappedStores
      show (if (!(es.length == 2 || es.length == 3) || vs.length != es.length || env.blockKind != .function) = true then (pure none : Sem (Option (List Str))) else _) = _
      by_cases c1 : (!(es.length == 2 || es.length == 3) || vs.length != es.length || env.blockKind != .function) = true
      · rw [if_pos c1]
      · rw [if_neg c1]
        show (if (vs.any fun | .Starred .. => true | _ => false) = true then (pure none : Sem (Option (List Str))) else _) = _
        by_cases c2 : (vs.any fun | .Starred .. => true | _ => false) = true
        · rw [if_pos c2]
        · rw [if_neg c2]
          simp only [hn]
          rw [if_pos]
          simp
          refine .inl ?_
          cases es with
          | nil => exact absurd rfl hne
          | cons e0 es' =>
            refine ⟨e0, List.mem_cons_self, ?_⟩
            have := List.all_eq_true.mp hv.1 e0 List.mem_cons_self
            unfold cellName at this
            split at this
            · have := of_decide_eq_true this
              simp [k.kindOf, this]
            · cases this
    · cases hv
theorem comp_asg (G : Gd K H mg mb) (I : Snd prog w H ρ ih) {x : Str} {p pos cpos : Pos} {elt : Expr} {gens : List Comprehension} {scope : Scope} {hp2 : Hp} (q : compS ih cx vars hp elt gens scope = some (sv, hp2)) (hc : canSet cx.ks x = true) (hn : (scope.names.all fun p => !(p.1 == x)) = true) :
    SsOk prog w H ρ cx vars hp .next (setV vars x sv) hp2 [] fun env => exec (.Assign [.Name x p] (.ListComp elt gens scope cpos) pos) env := by
  intro A env αs h g d t o Q E a k S F hQ
  have hany : (scope.names.any fun p => p.1 == x && (p.2 == .local || p.2 == .cell)) = false := by
    rw [List.any_eq_false]
    intro y hy
    have := List.all_eq_true.mp hn y hy
    rw [Bool.not_eq_true'] at this
    rw [this]; simp
  have hsw : ∀ b, (env.blockKind == .function && env.kindOf x == some .local && p.line == cpos.line) = b → swapsWith (.ListComp elt gens scope cpos) (some (.Name x p)) pos.line env = pure b := fun b e => by
    show (pure (env.blockKind == .function && env.kindOf x == some .local && p.line == cpos.line && !(scope.names.any fun y => y.1 == x && (y.2 == .local || y.2 == .cell))) : Sem Bool) = _
    rw [hany, e]; simp
  cases hb : (env.blockKind == .function && env.kindOf x == some .local && p.line == cpos.line) with
  | false =>
    refine wpAny_Assign_Name (comp_ev G I q a k S F fun v αs1 h1 t1 s1 S1 r1 => ?_) (hsw _ hb)
    refine store_ok k S1 (F.step0 s1) hc r1 fun h2 t2 s2 S2 F2 => ?_
    exact hQ .next αs1 h2 t2 (by rw [show addrs αs1 [] = [] from rfl, List.append_nil]; exact s1.of0.trans s2) S2 F2 rfl
  | true =>
    show wpAny (model prog w) A (exec (.Assign [.Name x p] (.ListComp elt gens scope cpos) pos) env) Q E _
    rw [exec_Assign_Name_used _ _ _ _ (hsw _ hb)]
    refine wpAny_bind (wpAny_standAt (wpAny_bind ?_))
    show wpAny _ A (do let _ ← comprehension (.ListComp elt gens scope cpos) scope env (firstIterPos gens cpos) (newList []) (firstAsync gens) (firstIter gens env) (some (assign (.Name x p) env))) _ _ _
    refine wpAny_bind (wpAny_mono (comp_core G I q a k S F (use := some (assign (.Name x p) env)) (Q := fun _ s' => Q .next s') fun hp' acc' D cenv αs' h' t' vars3 ys n e1 e2 s S' F' dn dH d0 c0 dc ds dv ac => ?_) (fun _ s' hq => wpAny_pure (wpAny_pure hq)) fun _ _ e => e)
    subst e1 e2
    obtain ⟨m, hns, _⟩ := F'.ns
    have sD : StepM [] αs h (αs' ++ [D]) h' := s.add fun o e => by rw [d0] at e; cases e
    have SD := S'.add dn dH (fun _ => ds) dv ac
    have FD := F.step0 sD
    have rD : RV ρ (αs' ++ [D]) (.ref D) (.ref hp'.length) := ⟨D, by rw [← S'.len, List.getElem?_append_right (Nat.le_refl _), Nat.sub_self]; rfl, rfl⟩
    have cf : cenv.locals ∉ fp env := fun z => by obtain ⟨_, _, ob, e⟩ := F.addr z; rw [c0] at e; cases e
    have cα : cenv.locals ∉ αs' ++ [D] := fun z => by
      rcases List.mem_append.mp z with z | z
      · exact F'.loc.1 z
      · exact dc (List.mem_singleton.mp z).symm
    show wpAny _ A (assign (.Name x p) env (.ref D)) _ _ _
    refine bind_ok k SD FD hc rD fun h2 t2 s2 S2 F2 => ?_
    refine ⟨m, hns.at' fun o e => s2.keep e cf, fun h3 hs => ?_⟩
    have hk : ∀ b o, b ∉ [cenv.locals] → h2.get? b = some o → h3.get? b = some o := fun b o q e => hs.extBut b o (fun z => q (List.mem_singleton.mpr z)) e
    refine hQ .next (αs' ++ [D]) h3 t2 ?_ (S2.but hs cα F'.loc.2) (F2.butW (wr := [cenv.locals]) (fun b hb z => cf (List.mem_singleton.mp z ▸ hb)) hk) rfl
    rw [show addrs (αs' ++ [D]) [] = [] from rfl, List.append_nil]
    exact (sD.of0.trans s2).butW (wr := [cenv.locals]) (fun b hb => by rw [List.mem_singleton.mp hb]; exact c0) hk
theorem ret_ok (I : Snd prog w H ρ ih) {pos : Pos} {e : Expr} (q1 : ih.ev cx vars hp e = some (sv, hp')) : SsOk prog w H ρ cx vars hp (.ret sv) vars hp' [] fun env => exec (.Return (some e) pos) env := by
  intro A env αs h g d t o Q E a k S F hQ
  refine wpAny_Return_some (I.ev q1 a k S F fun v αs1 h1 t1 s1 S1 r1 => ?_)
  exact hQ _ αs1 h1 t1 s1.of0 S1 (F.step0 s1) ⟨v, rfl, r1⟩
theorem calls_ok (G : Gd K H mg mb) (TO : TabOk K mg ρ T) (I : Snd prog w H ρ ih) {f : Str} {p pos pos2 : Pos} {es : List Expr} (q : evs ih cx vars hp es = some (xs, hp1)) (qc : callM T ih cx hp1 f xs = some (.none, hp2, mu)) :
    SsOk prog w H ρ cx vars hp .next vars hp2 mu fun env => exec (.Expr (.Call (.Name f p) es [] pos) pos2) env := by
  intro A env αs h g d t o Q E a k S F hQ
  have hi : interactive env = false := by unfold interactive; rw [k.kind]; rfl
  refine wpAny_Expr (callM_ok G TO I q qc a k S F fun v αs1 h1 t1 s1 S1 r1 => ?_) hi rfl
  cases r1
  refine hQ .next αs1 h1 t1 (s1.weak fun b hb => List.mem_append_right _ hb) S1 (F.step s1 fun b hb z => ?_) rfl
  obtain ⟨i, _, e⟩ := mem_addrs.mp z
  obtain ⟨n, _, ob, eo⟩ := F.addr hb
  exact s1.off eo n (List.mem_of_getElem? e)
theorem lookup_joinV (b : Vars) (x : Str) : ∀ (a : Vars), (joinV a b).lookup x = (a.lookup x).map fun v => if same (b.lookup x) v = true then v else .junk
  | [] => rfl
  | (n, v) :: r => by
    have ih := lookup_joinV b x r
    show List.lookup x ((n, if same (b.lookup n) v = true then v else .junk) :: joinV r b) = _
    by_cases hx : x = n
    · subst hx
      simp only [List.lookup_cons, beq_self_eq_true, Option.map_some]
    · have hb : (x == n) = false := beq_eq_false_iff_ne.mpr hx
      simp only [List.lookup_cons, hb]; exact ih
theorem FR.join1 (F : FR ρ H env αs vars h) : FR ρ H env αs (joinV vars vars1) h := by
  obtain ⟨m, hn, hv⟩ := F.ns
  refine ⟨F.loc, F.cel, F.inj, F.has, m, hn, fun x sv e => ?_⟩
  rw [lookup_joinV] at e
  obtain ⟨v0, e0, e⟩ := Option.map_eq_some_iff.mp e
  split at e
  · subst e; exact hv x v0 e0
  · exact .inl e.symm
theorem FR.join2 {more : List Addr} (F0 : FR ρ H env αs vars h) (F : FR ρ H env (αs ++ more) vars1 h') : FR ρ H env αs (joinV vars vars1) h' := by
  obtain ⟨m, hn, hv⟩ := F.ns
  obtain ⟨m0, hn0, hv0⟩ := F0.ns
  refine ⟨⟨fun z => F.loc.1 (List.mem_append_left _ z), F.loc.2⟩, fun p hp => ?_, F.inj, F.has, m, hn, fun x sv e => ?_⟩
  · obtain ⟨a, b⟩ := F.cel p hp
    exact ⟨fun z => a (List.mem_append_left _ z), b⟩
  · rw [lookup_joinV] at e
    obtain ⟨v0, e0, e⟩ := Option.map_eq_some_iff.mp e
    split at e
    · rename_i e1
      have e1 := same_eq e1
      subst e
      rcases hv x v0 e1 with q | ⟨v, b, r⟩
      · exact .inl q
      · rcases hv0 x v0 e0 with q | ⟨v', b', r'⟩
        · exact .inl q
        · refine .inr ⟨v, b, ?_⟩
          cases v0 with
          | ref i =>
            obtain ⟨a, ea, rfl⟩ := r'
            obtain ⟨a', ea', rfl⟩ := r
            rw [get_pre ea] at ea'
            cases ea'
            exact ⟨a, ea, rfl⟩
          | _ => exact r
    · exact .inl e.symm
theorem if_ok (I : Snd prog w H ρ ih) {test : Expr} {body orelse : List Stmt} {pos : Pos} {c : BE} {b : Bool} (q1 : ih.ts cx vars hp test = some (c, hp1)) (hd : decB c = some b) (q2 : ih.ss cx vars (shrinkB hp.length hp1) (if b then body else orelse) = some (fl, vars', hp', mu)) :
    SsOk prog w H ρ cx vars hp fl vars' hp' mu fun env => exec (.If test body orelse pos) env := by
  intro A env αs h g d t o Q E a k S F hQ
  refine wpAny_If (I.ts q1 a k S F fun αs1 h1 t1 s1 S1 => ?_)
  obtain ⟨αs2, s2, S2⟩ := shrinkB_ok s1 S1 S.len
  rw [decB_ok ρ c b hd]
  have body := I.ss q2 (Q := Q) (E := E) (g := g) (d := d) (t := t1) (o := o) a k S2 (F.step0 s2) fun f αs3 h3 t3 s3 S3 F3 rf => hQ f αs3 h3 t3 (s2.of0.trans s3) S3 F3 rf
  cases b with
  | true => exact body
  | false => exact body
theorem ifopen_ok (I : Snd prog w H ρ ih) {test : Expr} {body : List Stmt} {pos : Pos} {c : BE} (q1 : ih.ts cx vars hp test = some (c, hp1)) (q2 : ih.ss cx vars (shrinkB hp.length hp1) body = some (.next, vars', hp', mu)) (hm : mu.filter (· < (shrinkB hp.length hp1).length) = []) :
    SsOk prog w H ρ cx vars hp .next (joinV vars vars') (shrinkB hp.length hp1) [] fun env => exec (.If test body [] pos) env := by
  intro A env αs h g d t o Q E a k S F hQ
  refine wpAny_If (I.ts q1 a k S F fun αs1 h1 t1 s1 S1 => ?_)
  obtain ⟨αs2, s2, S2⟩ := shrinkB_ok s1 S1 S.len
  have F2 := F.step0 s2
  cases hc : c.den ρ with
  | false =>
    rw [if_neg (by simp)]
    exact wpAny_execs_nil (hQ .next αs2 h1 t1 s2.of0 S2 F2.join1 rfl)
  | true =>
    rw [if_pos rfl]
    refine I.ss q2 a k S2 F2 fun f αs3 h3 t3 s3 S3 F3 rf => ?_
    cases rf
    have s4 := s3.old' S3.nodup
    rw [S2.len, hm, show addrs αs2 [] = [] from rfl, List.append_nil] at s4
    obtain ⟨⟨m, rfl⟩, _⟩ := id s4
    have kp : ∀ b o, b ∈ αs2 → h1.get? b = some o → h3.get? b = some o := fun b o hb e => s4.keep e fun z => (F2.addr z).1 hb
    refine hQ .next αs2 h3 t3 ?_ ⟨S3.base, S2.len, fun i a so e1 e2 => let ⟨o, e, r⟩ := S2.real i a so e1 e2; ⟨o, kp a o (List.mem_of_getElem? e1) e, r⟩, S2.nodup, S2.fresh, S2.sys, S2.top⟩ (F2.join2 F3) rfl
    rw [show addrs αs2 [] = [] from rfl, List.append_nil]
    exact s2.of0.trans (s4.sub ⟨[], (List.append_nil _).symm⟩ fun b q => List.mem_append_left _ q)
end
end Mine
end SDK
section SDL
open PySem PySem.W PySem.Calls PyProof.Rows
namespace Mine
section
variable {prog : Program} {w : World} {A : Around} {K : Frag} {mg mb : Str → Option Value} {ρ : Nat → Int} {H : Heap} {ih : IH} {T : Tab} {cx : Cx} {αs αs' αs'' αs0 αs1 αs2 : List Addr} {hp hp' hp1 hp2 hp3 : Hp} {vars vars' vars1 : Vars} {env : Env} {h h' h'' h0 h1 h2 : Heap} {g : Array GenState} {d : Drawn} {t : Nat} {o : OsState} {v : Value} {sv : SV} {xs ys : List SV} {target : Expr} {mu mu2 : List Nat} {M : List Addr} {fl : Fl}
theorem RVs.take : ∀ {vs : List Value} {xs : List SV} (k : Nat), RVs ρ αs vs xs → RVs ρ αs (vs.take k) (xs.take k)
  | _, _, 0, _ => trivial
  | [], [], _ + 1, _ => trivial
  | _ :: _, _ :: _, k + 1, r => ⟨r.1, RVs.take k r.2⟩
  | [], _ :: _, _ + 1, r => r.elim
  | _ :: _, [], _ + 1, r => r.elim
theorem RVs.drop : ∀ {vs : List Value} {xs : List SV} (k : Nat), RVs ρ αs vs xs → RVs ρ αs (vs.drop k) (xs.drop k)
  | _, _, 0, r => r
  | [], [], _ + 1, _ => trivial
  | _ :: _, _ :: _, k + 1, r => RVs.drop k r.2
  | [], _ :: _, _ + 1, r => r.elim
  | _ :: _, [], _ + 1, r => r.elim
theorem SR.upd (S : SR ρ H αs hp h) {i : Nat} {l : Addr} {ob : Obj} {so : SO} (hl : αs[i]? = some l) (hs : Heap.SameBut l h h') (hob : h'.get? l = some ob) (hso : so ≠ .dict) (r : RO ρ αs ob so) : SR ρ H αs (hp.set i so) h' := by
  have h0 := S.fresh l (List.mem_of_getElem? hl)
  refine ⟨fun b o e => hs.extBut b o (fun q => by subst q; rw [h0] at e; cases e) (S.base b o e), by rw [List.length_set]; exact S.len, fun j a s e1 e2 => ?_, S.nodup, S.fresh, fun j a e1 e2 => ?_, S.top⟩
  rotate_left
  · by_cases q : j = i
    · subst q
      have hj := (List.getElem?_eq_some_iff.mp e2).1
      rw [List.length_set] at hj
      rw [List.getElem?_set_self hj] at e2
      cases e2
      exact absurd rfl hso
    · rw [List.getElem?_set_ne (Ne.symm q)] at e2
      exact S.sys j a e1 e2
  by_cases q : j = i
  · subst q
    rw [hl] at e1; cases e1
    have hj := (List.getElem?_eq_some_iff.mp e2).1
    rw [List.length_set] at hj
    rw [List.getElem?_set_self hj] at e2
    cases e2
    exact ⟨ob, hob, r⟩
  · rw [List.getElem?_set_ne (Ne.symm q)] at e2
    obtain ⟨o, e, r'⟩ := S.real j a s e1 e2
    refine ⟨o, hs.extBut a o (fun z => q ?_) e, r'⟩
    subst z
    exact (List.getElem?_inj (List.getElem?_eq_some_iff.mp e1).1 S.nodup).mp (e1.trans hl.symm)
theorem ins_ok (I : Snd prog w H ρ ih) {a0 : Str} {q0 ap pos pos2 : Pos} {ke xe : Expr} {i : Nat} {k0 : Int} {sx : SV} (hline : (ap.endLine == pos.line) = true) (q1 : ih.ev cx vars hp (.Name a0 q0) = some (.ref i, hp1)) (q2 : ih.ev cx vars hp1 ke = some (.int (.lit k0), hp2)) (q3 : ih.ev cx vars hp2 xe = some (sx, hp3)) (nk : notStar ke = true) (nx : notStar xe = true) (hi1 : hp1[i]? = some (.list ys)) (hi : hp3[i]? = some (.list xs)) (hk : 0 ≤ k0 ∧ k0 ≤ xs.length ∧ xs.length < 1000) :
    SsOk prog w H ρ cx vars hp .next vars (hp3.set i (.list (insAt xs k0.toNat sx))) [i] fun env => exec (.Expr (.Call (.Attribute (.Name a0 q0) (Str.ofString "insert") ap) [ke, xe] [] pos) pos2) env := by
  intro A env αs h g d t o Q E a k S F hQ
  have hint : interactive env = false := by unfold interactive; rw [k.kind]; rfl
  have qe : evs ih cx vars hp1 [ke, xe] = some ([.int (.lit k0), sx], hp3) := by simp [evs, nk, nx, q2, q3]
  have hstar : starEach [ke, xe] env = [(false, eval ke env), (false, eval xe env)] := by rw [star_cons nk, star_cons nx]; rfl
  refine wpAny_Expr (wpAny_Call_method (T := "list") (id := "list.insert") rfl (by rw [hstar]; rfl) hline PySem.F.plainAttrs_list PySem.F.slot_list_insert PySem.F.type_list_insert (I.ev q1 a k S F fun v αs1 h1 t1 s1 S1 r1 => ?_)) hint rfl
  obtain ⟨l, ha, rfl⟩ := r1
  obtain ⟨ob1, eo1, vs1, n1, rfl, _⟩ := S1.at ha hi1
  have key : ∀ {ws : List Value} {αs2 : List Addr} {h2 : Heap} {t2 : Nat}, StepM [] αs1 h1 αs2 h2 → SR ρ H αs2 hp3 h2 → RVs ρ αs2 ws [.int (.lit k0), sx] → wpAny (model prog w) A (call (.builtin "list.insert") ([.ref l] ++ ws)) (fun v s' => match v with | .ref _ => False | _ => Q .next s') E ⟨h2, g, d, t2, o⟩ := by
    intro ws αs2 h2 t2 s2 S2 r2
    obtain ⟨v1, v2, rfl, ⟨tk, rfl⟩, rx⟩ := pair_inv r2
    have ha2 : αs2[i]? = some l := by obtain ⟨⟨m, rfl⟩, _⟩ := s2; exact get_pre ha
    obtain ⟨ob, eo, ro⟩ := S2.at ha2 hi
    obtain ⟨vs, n, rfl, rv⟩ := ro
    have hlen := rv.length
    have hfit : ¬(!Builtin.List.listFitsIndex k0) = true := by
      simp only [Builtin.List.listFitsIndex, Bool.not_eq_true', Bool.not_eq_false, Bool.and_eq_true, decide_eq_true_eq]
      omega
    refine call_meets PySem.F.slot_list_insert ⟨_, eo, rfl⟩ PySem.F.entry_list_insert (PySem.F.args_list_insert_3 _ _ _) (AutoSeq1.list_insert_list_int_val_1 l vs.toArray n k0 tk v2 hfit (by rw [List.size_toArray, sizeLine_eq]; omega)) ⟨eo, ?_⟩
    show Q .next _
    have hs : Heap.SameBut l h2 (h2.update l (Obj.mapSeq fun xs => have k := if k0 < 0 then (k0 + (xs.size : Int)).toNat else min k0.toNat xs.size; (xs.extract 0 k).push v2 ++ xs.extract k)) := Heap.SameBut.update ..
    have hob : ∃ n', (h2.update l (Obj.mapSeq fun xs => have k := if k0 < 0 then (k0 + (xs.size : Int)).toNat else min k0.toNat xs.size; (xs.extract 0 k).push v2 ++ xs.extract k)).get? l = some (lO (vs.take k0.toNat ++ v2 :: vs.drop k0.toNat) n') := by
      rw [Heap.get?_update_self _ eo rfl]
      have hk0 : ¬ k0 < 0 := by omega
      have hmin : min k0.toNat vs.toArray.size = k0.toNat := by rw [List.size_toArray]; omega
      have harr : ((vs.toArray.extract 0 k0.toNat).push v2 ++ vs.toArray.extract k0.toNat) = (vs.take k0.toNat ++ v2 :: vs.drop k0.toNat).toArray := by
        apply Array.ext'
        simp
        exact List.take_of_length_le (by rw [List.length_drop]; exact Nat.le_refl _)
      simp only [Obj.mapSeq, lO, hk0, if_false, hmin]
      rw [harr]
      exact ⟨_, rfl⟩
    obtain ⟨n', hob⟩ := hob
    have S3 := S2.upd ha2 hs hob (hso := fun z => nomatch z) (so := .list (insAt xs k0.toNat sx)) ⟨_, n', rfl, (rv.take _).append ⟨rx, rv.drop _⟩⟩
    have s3 : StepM (addrs αs2 [i]) αs2 h2 αs2 (h2.update l (Obj.mapSeq fun xs => have k := if k0 < 0 then (k0 + (xs.size : Int)).toNat else min k0.toNat xs.size; (xs.extract 0 k).push v2 ++ xs.extract k)) := StepM.but (mem_addrs.mpr ⟨i, List.mem_singleton.mpr rfl, ha2⟩) hs ⟨_, hob⟩
    have s13 := s1.trans s2
    have F2 := F.step0 s13
    refine hQ .next αs2 _ _ (s13.of0.trans (s3.weak fun b hb => List.mem_append_right _ hb)) S3 (F2.step s3 fun b hb z => ?_) rfl
    obtain ⟨j, _, e⟩ := mem_addrs.mp z
    exact (F2.addr hb).1 (List.mem_of_getElem? e)
  refine ⟨⟨_, eo1, rfl⟩, fun a e => by cases e; exact ⟨_, eo1, rfl⟩, ?_⟩
  · exact callWith_builtin (plain_any _ _ _ (evs_plain _ qe).1) (evalArgs_ok I pos [ke, xe] qe a k S1 (F.step0 s1) fun vs αs2 h2 t2 s2 S2 r2 => key s2 S2 r2)
theorem slice_made (S : SR ρ H αs hp h) {i : Nat} {l : Addr} (ha : αs[i]? = some l) (hi : hp[i]? = some (.list xs)) (hn : xs.length ≤ 1000) {vl vu : Value} {lo hi' : Option Int} (pl : IsPart vl lo) (pu : IsPart vu hi') {f : ∀ {α : Type}, List α → List α} (hf : ∀ vs : List Value, vs.length = xs.length → slicePick vs.toArray lo hi' none = (f vs).toArray) (hr : ∀ {vs : List Value}, RVs ρ αs vs xs → RVs ρ αs (f vs) (f xs)) {Q : Value → Shared → Prop} {E}
    (hQ : ∀ v αs' h' t', StepM [] αs h αs' h' → SR ρ H αs' (hp ++ [.list (f xs)]) h' → RV ρ αs' v (.ref hp.length) → Q v ⟨h', g, d, t', o⟩) :
    wpAny (model prog w) A (getItem (.ref l) (.ref h.objs.size)) Q E ⟨h.push { cls := .type "slice", data := .fields #[vl, vu, .none] }, g, d, t, o⟩ := by
  obtain ⟨ob, eo, ro⟩ := S.at ha hi
  obtain ⟨vs, n, rfl, rv⟩ := ro
  have hl := lO_list eo
  have hk : ∀ (ob : Obj) (H' : Heap) b o, H'.get? b = some o → (H'.push ob).get? b = some o := fun ob H' b o e => Heap.get?_push_of_some _ e
  refine wpAny_getItem_list_slice (hl.at fun o e => hk _ _ _ o e) (Heap.IsSliceOf.new ..) pl pu .none (by simp) ?_ (by rw [List.size_toArray, sizeLine_eq, rv.length]; omega)
  rw [hf vs rv.length]
  have S1 := S.keeps (hk { cls := .type "slice", data := .fields #[vl, vu, .none] } h)
  refine hQ _ (αs ++ [(h.push { cls := .type "slice", data := .fields #[vl, vu, .none] }).objs.size]) _ _ ((StepM.ext (hk _ _)).trans (StepM.alloc (o := lO (f vs) 0) rfl)) (S1.alloc (o := lO (f vs) 0) rfl ⟨_, 0, rfl, hr rv⟩) ⟨_, ?_, rfl⟩
  rw [← S.len, List.getElem?_append_right (Nat.le_refl _), Nat.sub_self]; rfl
theorem upto_ev (I : Snd prog w H ρ ih) {x : Str} {q pos p1 p2 : Pos} {c i : Nat} {k : Int} (q1 : ih.ev cx vars hp (.Name x q) = some (.ref i, hp')) (hi : hp'[i]? = some (.list xs)) (hk : 0 ≤ k ∧ k ≤ xs.length ∧ xs.length ≤ 1000) :
    EvOk prog w H ρ cx vars hp (.ref hp'.length) (hp' ++ [.list (xs.take k.toNat)]) fun env => eval (.Subscript (.Name x q) (.Slice none (some (.Constant (.int k) c p1)) none p2) pos) env := by
  intro A env αs h g d t o Q E a kk S F hQ
  refine wpAny_Subscript_Slice (T := "list") slot_list_getitem.lookup (I.ev q1 a kk S F fun v αs1 h1 t1 s1 S1 r1 => ?_)
  obtain ⟨l, ha, rfl⟩ := r1
  obtain ⟨ob, eo, vs, n, rfl, rv⟩ := S1.at ha hi
  refine wpAny_Slice (wpAny_evalPart_none (wpAny_evalPart_some (wpAny_Constant_int (wpAny_evalPart_none ⟨⟨_, Heap.get?_push_of_some _ eo, rfl⟩, ?_⟩))))
  refine slice_made S1 ha hi hk.2.2 .none (.int k _) (f := fun l => l.take k.toNat) (fun vs hv => ?_) (fun r => r.take _) fun v αs2 h2 t2 s2 S2 r2 => hQ v αs2 h2 t2 (s1.trans s2) S2 r2
  have := slicePick_upto vs.toArray k.toNat (by simp; omega)
  rw [show ((k.toNat : Nat) : Int) = k by omega] at this
  simpa using this
theorem from_ev (I : Snd prog w H ρ ih) {x : Str} {q pos p1 p2 : Pos} {c i : Nat} {k : Int} (q1 : ih.ev cx vars hp (.Name x q) = some (.ref i, hp')) (hi : hp'[i]? = some (.list xs)) (hk : 0 ≤ k ∧ k ≤ xs.length ∧ xs.length ≤ 1000) :
    EvOk prog w H ρ cx vars hp (.ref hp'.length) (hp' ++ [.list (xs.drop k.toNat)]) fun env => eval (.Subscript (.Name x q) (.Slice (some (.Constant (.int k) c p1)) none none p2) pos) env := by
  intro A env αs h g d t o Q E a kk S F hQ
  refine wpAny_Subscript_Slice (T := "list") slot_list_getitem.lookup (I.ev q1 a kk S F fun v αs1 h1 t1 s1 S1 r1 => ?_)
  obtain ⟨l, ha, rfl⟩ := r1
  obtain ⟨ob, eo, vs, n, rfl, rv⟩ := S1.at ha hi
  refine wpAny_Slice (wpAny_evalPart_some (wpAny_Constant_int (wpAny_evalPart_none (wpAny_evalPart_none ⟨⟨_, Heap.get?_push_of_some _ eo, rfl⟩, ?_⟩))))
  refine slice_made S1 ha hi hk.2.2 (.int k _) .none (f := fun l => l.drop k.toNat) (fun vs hv => ?_) (fun r => r.drop _) fun v αs2 h2 t2 s2 S2 r2 => hQ v αs2 h2 t2 (s1.trans s2) S2 r2
  have := slicePick_from vs.toArray k.toNat (by simp; omega)
  rw [show ((k.toNat : Nat) : Int) = k by omega] at this
  simpa using this
/-! ### the executor is sound -/
theorem stepEv_ok (G : Gd K H mg mb) (TO : TabOk K mg ρ T) (hρ : ∀ i, -4 ≤ ρ i ∧ ρ i ≤ 4) (I : Snd prog w H ρ ih) {e : Expr} (q : stepEv T ih cx vars hp e = some (sv, hp')) : EvOk prog w H ρ cx vars hp sv hp' fun env => eval e env := by
  unfold stepEv at q
  split at q
  · cases q; intro A env αs h g d t o Q E a k S F hQ
    exact wpAny_Constant_int (hQ _ αs h _ StepM.refl S ⟨t, rfl⟩)
  · cases q; intro A env αs h g d t o Q E a k S F hQ
    exact fun _ _ _ => hQ _ αs h _ StepM.refl S rfl
  · cases q; intro A env αs h g d t o Q E a k S F hQ
    exact fun _ _ _ => hQ _ αs h _ StepM.refl S rfl
  · split at q
    · rename_i hc
      rw [Bool.and_eq_true, Bool.not_eq_true'] at hc
      split at q
      · cases q
      · rename_i v hj hl
        cases q
        intro A env αs h g d t o Q E a k S F hQ
        exact name_ok k F hc.2 hl (fun z => hj z) fun v r => hQ v αs h _ StepM.refl S r
      · cases q
    · cases q
  · obtain ⟨⟨a, hp1⟩, q1, q⟩ := bind_some q
    obtain ⟨⟨b, hp2⟩, q2, q⟩ := bind_some q
    obtain ⟨v, q3, q⟩ := bind_some q
    cases q
    exact bin_ev I hρ q1 q2 q3
  · split at q
    · cases q
    · rename_i hm
      obtain ⟨⟨a, hp1⟩, q1, q⟩ := bind_some q
      obtain ⟨⟨b, hp2⟩, q2, q⟩ := bind_some q
      obtain ⟨v, q3, q⟩ := bind_some q
      cases q
      exact cmp_ev I (by simpa using hm) q1 q2 q3
  · obtain ⟨⟨c, hp1⟩, q1, q⟩ := bind_some q
    dsimp only at q
    split at q
    · rename_i hd; exact ifexp_ev I q1 hd q
    · rename_i hd; exact ifexp_ev I q1 hd q
    · cases q
  · split at q
    · rename_i hl
      obtain ⟨⟨xs, hp1⟩, q1, q⟩ := bind_some q
      cases q
      exact tup_ok I q1 hl
    · cases q
  · split at q
    · rename_i hl
      obtain ⟨⟨xs, hp1⟩, q1, q⟩ := bind_some q
      cases q
      exact list_ok I q1 hl
    · cases q
  · cases q; exact dict_ev
  · obtain ⟨⟨a, hp1⟩, q1, q⟩ := bind_some q
    dsimp only at q
    split at q
    · split at q
      · rename_i i _ xs hi
        split at q
        · rename_i hk; cases q; exact upto_ev I q1 hi hk
        · cases q
      · cases q
    · cases q
  · obtain ⟨⟨a, hp1⟩, q1, q⟩ := bind_some q
    dsimp only at q
    split at q
    · split at q
      · rename_i i _ xs hi
        split at q
        · rename_i hk; cases q; exact from_ev I q1 hi hk
        · cases q
      · cases q
    · cases q
  · split at q
    · cases q
    · rename_i hs
      obtain ⟨⟨a, hp1⟩, q1, q⟩ := bind_some q
      obtain ⟨⟨b, hp2⟩, q2, q⟩ := bind_some q
      obtain ⟨v, q3, q⟩ := bind_some q
      cases q
      exact sub_ev I (by simpa using hs) q1 q2 q3
  · obtain ⟨⟨vs, hp1⟩, q1, q⟩ := bind_some q
    dsimp only at q
    split at q
    · rename_i hg
      split at q
      · split at q
        · rename_i i _ xs hi
          split at q
          · rename_i hl; cases q; exact len_ev G I hg q1 hi hl
          · cases q
        · cases q
      · cases q
    · split at q
      · rename_i hg
        split at q
        · cases q; exact min_ev G I hg q1
        · cases q
      · split at q
        · rename_i hg
          split at q
          · cases q; exact max_ev G I hg q1
          · cases q
        · split at q
          · rename_i hg
            split at q
            · split at q
              · rename_i i _ xs hi
                obtain ⟨e, q2, q⟩ := bind_some q
                cases q; exact sum_ev G I hg q1 hi q2
              · cases q
            · cases q
          · exact call_ev G TO I q1 q
  · exact comp_ev G I q
  · cases q
theorem stepTs_ok (I : Snd prog w H ρ ih) {e : Expr} {b : BE} (q : stepTs T ih cx vars hp e = some (b, hp')) : TsOk prog w H ρ cx vars hp b hp' e := by
  unfold stepTs at q
  split at q
  · obtain ⟨⟨x, hp1⟩, q1, q⟩ := bind_some q
    dsimp only at q
    split at q
    · rename_i hd; cases q; exact and_ts0 I q1 hd
    · rename_i hd
      obtain ⟨⟨y, hp2⟩, q2, q⟩ := bind_some q
      cases q; exact and_ts I q1 hd q2
    · cases q
  · obtain ⟨⟨x, hp1⟩, q1, q⟩ := bind_some q
    dsimp only at q
    split at q
    · rename_i hd; cases q; exact or_ts0 I q1 hd
    · rename_i hd
      obtain ⟨⟨y, hp2⟩, q2, q⟩ := bind_some q
      cases q; exact or_ts I q1 hd q2
    · cases q
  · split at q
    · cases q
    · rename_i hm
      obtain ⟨⟨a, hp1⟩, q1, q⟩ := bind_some q
      obtain ⟨⟨b, hp2⟩, q2, q⟩ := bind_some q
      obtain ⟨v, q3, q⟩ := bind_some q
      cases q
      exact cmp_ts I (by simpa using hm) q1 q2 q3
  · cases q
theorem stepS_ok (G : Gd K H mg mb) (TO : TabOk K mg ρ T) (I : Snd prog w H ρ ih) (ic : ∀ {cx vars hp elt gens scope pos sv hp'}, ih.ev cx vars hp (.ListComp elt gens scope pos) = some (sv, hp') → ∃ ih', Snd prog w H ρ ih' ∧ compS ih' cx vars hp elt gens scope = some (sv, hp')) {st : Stmt} (q : stepS T ih cx vars hp st = some (fl, vars', hp', mu)) : SsOk prog w H ρ cx vars hp fl vars' hp' mu fun env => exec st env := by
  unfold stepS at q
  split at q
  · obtain ⟨⟨v, hp1⟩, q1, q⟩ := bind_some q
    dsimp only at q
    split at q
    · rename_i hc
      split at q
      · split at q
        · rename_i hn
          cases q
          obtain ⟨ih', I', qc⟩ := ic q1
          exact comp_asg G I' qc hc hn
        · cases q
      · split at q
        · rename_i hv; cases q; exact asgn_ok I q1 hc hv
        · cases q
    · cases q
  · obtain ⟨⟨v, hp1⟩, q1, q⟩ := bind_some q
    obtain ⟨vars1, q2, q⟩ := bind_some q
    split at q
    · rename_i hv; cases q; exact tupasg_ok I q1 q2 hv
    · cases q
  · obtain ⟨⟨c, hp1⟩, q1, q⟩ := bind_some q
    dsimp only at q
    split at q
    · rename_i hd; exact if_ok I q1 hd q
    · rename_i hd; exact if_ok I q1 hd q
    · split at q
      · obtain ⟨⟨fl, vars1, hp2, mu1⟩, q2, q⟩ := bind_some q
        dsimp only at q
        split at q
        · split at q
          · rename_i hm; cases q; exact ifopen_ok I q1 q2 hm
          · cases q
        · cases q
      · cases q
  · obtain ⟨⟨vars1, hp1, mu1⟩, q1, q⟩ := bind_some q
    cases q
    exact while_ok I q1
  · split at q
    · rename_i hc
      obtain ⟨⟨its, hp1, is⟩, q1, q⟩ := bind_some q
      obtain ⟨⟨vars1, hp2, mu1⟩, q2, q⟩ := bind_some q
      cases q
      exact for_ok G I hc q1 q2
    · cases q
  · obtain ⟨⟨v, hp1⟩, q1, q⟩ := bind_some q
    cases q
    exact ret_ok I q1
  · split at q
    · cases q
    · rename_i hl
      replace q := bind_some q
      obtain ⟨⟨o, hp1⟩, q1, q⟩ := q
      replace q := bind_some q
      obtain ⟨⟨k, hp2⟩, q2, q⟩ := q
      replace q := bind_some q
      obtain ⟨⟨x, hp3⟩, q3, q⟩ := q
      dsimp only at q
      split at q
      · rename_i hm
        obtain ⟨rfl, nk, nx⟩ := hm
        split at q
        · split at q
          · rename_i ys xs e1 e2
            split at q
            · rename_i hk
              cases q
              exact ins_ok I (by simpa using hl) q1 q2 q3 nk nx e1 e2 hk
            · cases q
          · cases q
        · cases q
      · cases q
  · obtain ⟨⟨vs, hp1⟩, q1, q⟩ := bind_some q
    obtain ⟨⟨v, hp2, mu1⟩, q2, q⟩ := bind_some q
    dsimp only at q
    split at q
    · cases q; exact calls_ok G TO I q1 q2
    · cases q
  · cases q
theorem stepSs_ok (G : Gd K H mg mb) (TO : TabOk K mg ρ T) (I : Snd prog w H ρ ih) (ic : ∀ {cx vars hp elt gens scope pos sv hp'}, ih.ev cx vars hp (.ListComp elt gens scope pos) = some (sv, hp') → ∃ ih', Snd prog w H ρ ih' ∧ compS ih' cx vars hp elt gens scope = some (sv, hp')) {sts : List Stmt} (q : stepSs T ih cx vars hp sts = some (fl, vars', hp', mu)) : SsOk prog w H ρ cx vars hp fl vars' hp' mu fun env => execs sts env := by
  cases sts with
  | nil =>
    simp only [stepSs] at q
    cases q
    intro A env αs h g d t o Q E a k S F hQ
    exact wpAny_execs_nil (hQ .next αs h t StepM.refl S F rfl)
  | cons st rest =>
    simp only [stepSs] at q
    obtain ⟨⟨fl1, vars1, hp1, mu1⟩, q1, q⟩ := bind_some q
    dsimp only at q
    intro A env αs h g d t o Q E a k S F hQ
    cases fl1 with
    | ret v =>
      cases q
      refine wpAny_execs_cons (stepS_ok G TO I ic q1 a k S F fun f αs1 h1 t1 s1 S1 F1 rf => ?_)
      obtain ⟨v', rfl, r⟩ := rf
      exact hQ _ αs1 h1 t1 s1 S1 F1 ⟨v', rfl, r⟩
    | next =>
      obtain ⟨⟨fl2, vars2, hp2, mu2⟩, q2, q⟩ := bind_some q
      cases q
      refine wpAny_execs_cons (stepS_ok G TO I ic q1 a k S F fun f αs1 h1 t1 s1 S1 F1 rf => ?_)
      cases rf
      exact I.ss q2 a k S1 F1 fun f αs2 h2 t2 s2 S2 F2 rf2 => hQ f αs2 h2 t2 (s1.seq s2) S2 F2 rf2
theorem run_sound (G : Gd K H mg mb) (TO : TabOk K mg ρ T) (hρ : ∀ i, -4 ≤ ρ i ∧ ρ i ≤ 4) : ∀ n, Snd prog w H ρ (run T n)
  | 0 => ⟨(fun q => nomatch q), (fun q => nomatch q), (fun q => nomatch q)⟩
  | n + 1 =>
    have I := run_sound G TO hρ n
    ⟨fun q => stepEv_ok G TO hρ I q, fun q => stepTs_ok (T := T) I q, fun q => stepSs_ok G TO I (fun {cx vars hp elt gens scope pos sv hp'} q => by
      cases n with
      | zero => cases q
      | succ m => exact ⟨run T m, run_sound G TO hρ m, q⟩) q⟩
end
end Mine
end SDL
section STK
open PySem PySem.W PyProof.Rows
set_option maxRecDepth 100000
set_option maxHeartbeats 8000000
namespace Mine
open_top hd1 for PySem.Challenge.rw_hv0002_01
end Mine
end STK
section SDM
open PySem PySem.W PySem.Calls PyProof.Rows
set_option maxRecDepth 100000
set_option maxHeartbeats 8000000
namespace Mine
noncomputable def bodyOf (x : String) : List Stmt := match defsC.find? fun d => d.1 == Str.ofString x with | some d => d.2.2.1 | none => []
noncomputable def scopeOf (x : String) : Scope := match defsC.find? fun d => d.1 == Str.ofString x with | some d => d.2.2.2 | none => default
noncomputable def nm (x : String) : Str := Str.ofString x
noncomputable def tabT : Tab := fun f n =>
  if f == nm "insort_left" && n == 2 then some ⟨23, [nm "a", nm "x"], [(nm "lo", .int 0 189, .int (.lit 0)), (nm "hi", .none, .none), (nm "key", .none, .none)], bodyOf "insort_left", scopeOf "insort_left"⟩
  else if f == nm "bisect_left" && n == 2 then some ⟨32, [nm "a", nm "x"], [(nm "lo", .int 0 202, .int (.lit 0)), (nm "hi", .none, .none), (nm "key", .none, .none)], bodyOf "bisect_left", scopeOf "bisect_left"⟩
  else if f == nm "bisect_left" && n == 4 then some ⟨32, [nm "a", nm "x", nm "lo", nm "hi"], [(nm "key", .none, .none)], bodyOf "bisect_left", scopeOf "bisect_left"⟩
  else if f == nm "add_func_stats" && n == 2 then some ⟨39, [nm "target", nm "source"], [], bodyOf "add_func_stats", scopeOf "add_func_stats"⟩
  else if f == nm "add_callers" && n == 2 then some ⟨46, [nm "target", nm "source"], [], bodyOf "add_callers", scopeOf "add_callers"⟩
  else if f == nm "_law_pairs" && n == 0 then some ⟨53, [], [], bodyOf "_law_pairs", scopeOf "_law_pairs"⟩
  else if f == nm "_law_six" && n == 3 then some ⟨58, [nm "one", nm "other", nm "pairs"], [], bodyOf "_law_six", scopeOf "_law_six"⟩
  else if f == nm "_law_by_places" && n == 2 then some ⟨65, [nm "one", nm "other"], [], bodyOf "_law_by_places", scopeOf "_law_by_places"⟩
  else if f == nm "_law_at" && n == 4 then some ⟨72, [nm "six", nm "pairs", nm "one", nm "other"], [], bodyOf "_law_at", scopeOf "_law_at"⟩
  else none
/-! the nine entries of the table -/
theorem tab_cases {P : Str → Nat → Fn → Prop} (h1 : ∀ fn, tabT (nm "insort_left") 2 = some fn → P (nm "insort_left") 2 fn) (h2 : ∀ fn, tabT (nm "bisect_left") 2 = some fn → P (nm "bisect_left") 2 fn) (h3 : ∀ fn, tabT (nm "bisect_left") 4 = some fn → P (nm "bisect_left") 4 fn)
    (h4 : ∀ fn, tabT (nm "add_func_stats") 2 = some fn → P (nm "add_func_stats") 2 fn) (h5 : ∀ fn, tabT (nm "add_callers") 2 = some fn → P (nm "add_callers") 2 fn) (h6 : ∀ fn, tabT (nm "_law_pairs") 0 = some fn → P (nm "_law_pairs") 0 fn)
    (h7 : ∀ fn, tabT (nm "_law_six") 3 = some fn → P (nm "_law_six") 3 fn) (h8 : ∀ fn, tabT (nm "_law_by_places") 2 = some fn → P (nm "_law_by_places") 2 fn) (h9 : ∀ fn, tabT (nm "_law_at") 4 = some fn → P (nm "_law_at") 4 fn) :
    ∀ f n fn, tabT f n = some fn → P f n fn := by
  intro f n fn q
  have key : ∀ {a : Str} {m : Nat}, (f == a && n == m) = true → f = a ∧ n = m := fun z => by
    rw [Bool.and_eq_true] at z; exact ⟨eq_of_beq z.1, eq_of_beq z.2⟩
  have q0 := q
  unfold tabT at q
  split at q
  · rename_i z; obtain ⟨rfl, rfl⟩ := key z; exact h1 fn q0
  split at q
  · rename_i z; obtain ⟨rfl, rfl⟩ := key z; exact h2 fn q0
  split at q
  · rename_i z; obtain ⟨rfl, rfl⟩ := key z; exact h3 fn q0
  split at q
  · rename_i z; obtain ⟨rfl, rfl⟩ := key z; exact h4 fn q0
  split at q
  · rename_i z; obtain ⟨rfl, rfl⟩ := key z; exact h5 fn q0
  split at q
  · rename_i z; obtain ⟨rfl, rfl⟩ := key z; exact h6 fn q0
  split at q
  · rename_i z; obtain ⟨rfl, rfl⟩ := key z; exact h7 fn q0
  split at q
  · rename_i z; obtain ⟨rfl, rfl⟩ := key z; exact h8 fn q0
  split at q
  · rename_i z; obtain ⟨rfl, rfl⟩ := key z; exact h9 fn q0
  cases q
end Mine
end SDM
section SDN
open PySem PySem.W PySem.Calls PyProof.Rows
set_option maxRecDepth 100000
set_option maxHeartbeats 8000000
namespace Mine
noncomputable abbrev KK (P : Params) : Frag := hd1.heap_39 P
theorem glob_at {P : Params} {H : Heap} {mg : Str → Option Value} (X : (KK P).In H) (hg : H.Ns mainGlobals mg) {f : Str} {v : Option Value} {o : Obj} {es : Array DictEntry} {ep : Nat} (ho : (KK P).lookup 3 = some o) (hd : o.data = .dict es ep) (hf : nsFind es f = v) : mg f = v := by
  obtain ⟨o', es', ep', e, d, _, k⟩ := hg
  have := X 3 o ho
  rw [show mainGlobals = 3 from rfl, this] at e
  cases e
  rw [hd] at d
  cases d
  rw [← k f, hf]
theorem list3 {vals : List Value} (h : vals.length = 3) : ∃ a b c, vals = [a, b, c] := by
  match vals, h with
  | [a, b, c], _ => exact ⟨a, b, c, rfl⟩
theorem list2 {vals : List Value} (h : vals.length = 2) : ∃ a b, vals = [a, b] := by
  match vals, h with
  | [a, b], _ => exact ⟨a, b, rfl⟩
theorem list4 {vals : List Value} (h : vals.length = 4) : ∃ a b c d, vals = [a, b, c, d] := by
  match vals, h with
  | [a, b, c, d], _ => exact ⟨a, b, c, d, rfl⟩
theorem list0 {vals : List Value} (h : vals.length = 0) : vals = [] := List.length_eq_zero_iff.mp h
section
variable {P : Params} {H : Heap} {mg : Str → Option Value} {ρ : Nat → Int}
theorem okinsort_left2 (X : (KK P).In H) (hg : H.Ns mainGlobals mg) : ∀ fn, tabT (nm "insort_left") 2 = some fn → FnOk (KK P) mg ρ (nm "insort_left") 2 fn := by
  intro fn q
  have q' : fn = ⟨23, [nm "a", nm "x"], [(nm "lo", .int 0 189, .int (.lit 0)), (nm "hi", .none, .none), (nm "key", .none, .none)], bodyOf "insort_left", scopeOf "insort_left"⟩ := by
    have : tabT (nm "insort_left") 2 = some ⟨23, [nm "a", nm "x"], [(nm "lo", .int 0 189, .int (.lit 0)), (nm "hi", .none, .none), (nm "key", .none, .none)], bodyOf "insort_left", scopeOf "insort_left"⟩ := by rfl
    rw [this] at q; exact (Option.some.inj q).symm
  subst q'
  refine ⟨?_, ?_, ?_, rfl, ?_, ?_, ?_, ?_, ?_, ?_, ?_, ?_⟩
  · exact glob_at X hg (by rfl) (by rfl) (by rfl)
  · rfl
  · decide
  · refine ⟨_, _, _, _, _, _, _, _, _, _, _, _, _, (by with_unfolding_all rfl), (by rfl), fun s vals X hv => ?_⟩
    obtain ⟨a, b, rfl⟩ := list2 hv
    exact kp_binds X (fun S => by with_unfolding_all rfl)
  · intro m hm αs
    rcases List.mem_cons.mp hm with rfl | hm
    · exact ⟨_, rfl⟩
    rcases List.mem_cons.mp hm with rfl | hm
    · exact rfl
    rw [List.mem_singleton.mp hm]; exact rfl
  · decide
  · decide
  · decide
  · rfl
  · rfl
  · rfl
theorem okbisect_left2 (X : (KK P).In H) (hg : H.Ns mainGlobals mg) : ∀ fn, tabT (nm "bisect_left") 2 = some fn → FnOk (KK P) mg ρ (nm "bisect_left") 2 fn := by
  intro fn q
  have q' : fn = ⟨32, [nm "a", nm "x"], [(nm "lo", .int 0 202, .int (.lit 0)), (nm "hi", .none, .none), (nm "key", .none, .none)], bodyOf "bisect_left", scopeOf "bisect_left"⟩ := by
    have : tabT (nm "bisect_left") 2 = some ⟨32, [nm "a", nm "x"], [(nm "lo", .int 0 202, .int (.lit 0)), (nm "hi", .none, .none), (nm "key", .none, .none)], bodyOf "bisect_left", scopeOf "bisect_left"⟩ := by rfl
    rw [this] at q; exact (Option.some.inj q).symm
  subst q'
  refine ⟨?_, ?_, ?_, rfl, ?_, ?_, ?_, ?_, ?_, ?_, ?_, ?_⟩
  · exact glob_at X hg (by rfl) (by rfl) (by rfl)
  · rfl
  · decide
  · refine ⟨_, _, _, _, _, _, _, _, _, _, _, _, _, (by with_unfolding_all rfl), (by rfl), fun s vals X hv => ?_⟩
    obtain ⟨a, b, rfl⟩ := list2 hv
    exact kp_binds X (fun S => by with_unfolding_all rfl)
  · intro m hm αs
    rcases List.mem_cons.mp hm with rfl | hm
    · exact ⟨_, rfl⟩
    rcases List.mem_cons.mp hm with rfl | hm
    · exact rfl
    rw [List.mem_singleton.mp hm]; exact rfl
  · decide
  · decide
  · decide
  · rfl
  · rfl
  · rfl
theorem okbisect_left4 (X : (KK P).In H) (hg : H.Ns mainGlobals mg) : ∀ fn, tabT (nm "bisect_left") 4 = some fn → FnOk (KK P) mg ρ (nm "bisect_left") 4 fn := by
  intro fn q
  have q' : fn = ⟨32, [nm "a", nm "x", nm "lo", nm "hi"], [(nm "key", .none, .none)], bodyOf "bisect_left", scopeOf "bisect_left"⟩ := by
    have : tabT (nm "bisect_left") 4 = some ⟨32, [nm "a", nm "x", nm "lo", nm "hi"], [(nm "key", .none, .none)], bodyOf "bisect_left", scopeOf "bisect_left"⟩ := by rfl
    rw [this] at q; exact (Option.some.inj q).symm
  subst q'
  refine ⟨?_, ?_, ?_, rfl, ?_, ?_, ?_, ?_, ?_, ?_, ?_, ?_⟩
  · exact glob_at X hg (by rfl) (by rfl) (by rfl)
  · rfl
  · decide
  · refine ⟨_, _, _, _, _, _, _, _, _, _, _, _, _, (by with_unfolding_all rfl), (by rfl), fun s vals X hv => ?_⟩
    obtain ⟨a, b, c, d, rfl⟩ := list4 hv
    exact kp_binds X (fun S => by with_unfolding_all rfl)
  · intro m hm αs; rw [List.mem_singleton.mp hm]; exact rfl
  · decide
  · decide
  · decide
  · rfl
  · rfl
  · rfl
theorem okadd_func_stats2 (X : (KK P).In H) (hg : H.Ns mainGlobals mg) : ∀ fn, tabT (nm "add_func_stats") 2 = some fn → FnOk (KK P) mg ρ (nm "add_func_stats") 2 fn := by
  intro fn q
  have q' : fn = ⟨39, [nm "target", nm "source"], [], bodyOf "add_func_stats", scopeOf "add_func_stats"⟩ := by
    have : tabT (nm "add_func_stats") 2 = some ⟨39, [nm "target", nm "source"], [], bodyOf "add_func_stats", scopeOf "add_func_stats"⟩ := by rfl
    rw [this] at q; exact (Option.some.inj q).symm
  subst q'
  refine ⟨?_, ?_, ?_, rfl, ?_, ?_, ?_, ?_, ?_, ?_, ?_, ?_⟩
  · exact glob_at X hg (by rfl) (by rfl) (by rfl)
  · rfl
  · decide
  · refine ⟨_, _, _, _, _, _, _, _, _, _, _, _, _, (by with_unfolding_all rfl), (by rfl), fun s vals X hv => ?_⟩
    obtain ⟨a, b, rfl⟩ := list2 hv
    exact BindsTo.of_eq (by with_unfolding_all rfl)
  · intro m hm; cases hm
  · decide
  · decide
  · decide
  · rfl
  · rfl
  · rfl
theorem okadd_callers2 (X : (KK P).In H) (hg : H.Ns mainGlobals mg) : ∀ fn, tabT (nm "add_callers") 2 = some fn → FnOk (KK P) mg ρ (nm "add_callers") 2 fn := by
  intro fn q
  have q' : fn = ⟨46, [nm "target", nm "source"], [], bodyOf "add_callers", scopeOf "add_callers"⟩ := by
    have : tabT (nm "add_callers") 2 = some ⟨46, [nm "target", nm "source"], [], bodyOf "add_callers", scopeOf "add_callers"⟩ := by rfl
    rw [this] at q; exact (Option.some.inj q).symm
  subst q'
  refine ⟨?_, ?_, ?_, rfl, ?_, ?_, ?_, ?_, ?_, ?_, ?_, ?_⟩
  · exact glob_at X hg (by rfl) (by rfl) (by rfl)
  · rfl
  · decide
  · refine ⟨_, _, _, _, _, _, _, _, _, _, _, _, _, (by with_unfolding_all rfl), (by rfl), fun s vals X hv => ?_⟩
    obtain ⟨a, b, rfl⟩ := list2 hv
    exact BindsTo.of_eq (by with_unfolding_all rfl)
  · intro m hm; cases hm
  · decide
  · decide
  · decide
  · rfl
  · rfl
  · rfl
theorem ok_law_pairs0 (X : (KK P).In H) (hg : H.Ns mainGlobals mg) : ∀ fn, tabT (nm "_law_pairs") 0 = some fn → FnOk (KK P) mg ρ (nm "_law_pairs") 0 fn := by
  intro fn q
  have q' : fn = ⟨53, [], [], bodyOf "_law_pairs", scopeOf "_law_pairs"⟩ := by
    have : tabT (nm "_law_pairs") 0 = some ⟨53, [], [], bodyOf "_law_pairs", scopeOf "_law_pairs"⟩ := by rfl
    rw [this] at q; exact (Option.some.inj q).symm
  subst q'
  refine ⟨?_, ?_, ?_, rfl, ?_, ?_, ?_, ?_, ?_, ?_, ?_, ?_⟩
  · exact glob_at X hg (by rfl) (by rfl) (by rfl)
  · rfl
  · decide
  · refine ⟨_, _, _, _, _, _, _, _, _, _, _, _, _, (by with_unfolding_all rfl), (by rfl), fun s vals X hv => ?_⟩
    have := list0 hv; subst this
    exact BindsTo.of_eq (by with_unfolding_all rfl)
  · intro m hm; cases hm
  · decide
  · decide
  · decide
  · rfl
  · rfl
  · rfl
theorem ok_law_six3 (X : (KK P).In H) (hg : H.Ns mainGlobals mg) : ∀ fn, tabT (nm "_law_six") 3 = some fn → FnOk (KK P) mg ρ (nm "_law_six") 3 fn := by
  intro fn q
  have q' : fn = ⟨58, [nm "one", nm "other", nm "pairs"], [], bodyOf "_law_six", scopeOf "_law_six"⟩ := by
    have : tabT (nm "_law_six") 3 = some ⟨58, [nm "one", nm "other", nm "pairs"], [], bodyOf "_law_six", scopeOf "_law_six"⟩ := by rfl
    rw [this] at q; exact (Option.some.inj q).symm
  subst q'
  refine ⟨?_, ?_, ?_, rfl, ?_, ?_, ?_, ?_, ?_, ?_, ?_, ?_⟩
  · exact glob_at X hg (by rfl) (by rfl) (by rfl)
  · rfl
  · decide
  · refine ⟨_, _, _, _, _, _, _, _, _, _, _, _, _, (by with_unfolding_all rfl), (by rfl), fun s vals X hv => ?_⟩
    obtain ⟨a, b, c, rfl⟩ := list3 hv
    exact BindsTo.of_eq (by with_unfolding_all rfl)
  · intro m hm; cases hm
  · decide
  · decide
  · decide
  · rfl
  · rfl
  · rfl
theorem ok_law_by_places2 (X : (KK P).In H) (hg : H.Ns mainGlobals mg) : ∀ fn, tabT (nm "_law_by_places") 2 = some fn → FnOk (KK P) mg ρ (nm "_law_by_places") 2 fn := by
  intro fn q
  have q' : fn = ⟨65, [nm "one", nm "other"], [], bodyOf "_law_by_places", scopeOf "_law_by_places"⟩ := by
    have : tabT (nm "_law_by_places") 2 = some ⟨65, [nm "one", nm "other"], [], bodyOf "_law_by_places", scopeOf "_law_by_places"⟩ := by rfl
    rw [this] at q; exact (Option.some.inj q).symm
  subst q'
  refine ⟨?_, ?_, ?_, rfl, ?_, ?_, ?_, ?_, ?_, ?_, ?_, ?_⟩
  · exact glob_at X hg (by rfl) (by rfl) (by rfl)
  · rfl
  · decide
  · refine ⟨_, _, _, _, _, _, _, _, _, _, _, _, _, (by with_unfolding_all rfl), (by rfl), fun s vals X hv => ?_⟩
    obtain ⟨a, b, rfl⟩ := list2 hv
    exact BindsTo.of_eq (by with_unfolding_all rfl)
  · intro m hm; cases hm
  · decide
  · decide
  · decide
  · rfl
  · rfl
  · rfl
theorem ok_law_at4 (X : (KK P).In H) (hg : H.Ns mainGlobals mg) : ∀ fn, tabT (nm "_law_at") 4 = some fn → FnOk (KK P) mg ρ (nm "_law_at") 4 fn := by
  intro fn q
  have q' : fn = ⟨72, [nm "six", nm "pairs", nm "one", nm "other"], [], bodyOf "_law_at", scopeOf "_law_at"⟩ := by
    have : tabT (nm "_law_at") 4 = some ⟨72, [nm "six", nm "pairs", nm "one", nm "other"], [], bodyOf "_law_at", scopeOf "_law_at"⟩ := by rfl
    rw [this] at q; exact (Option.some.inj q).symm
  subst q'
  refine ⟨?_, ?_, ?_, rfl, ?_, ?_, ?_, ?_, ?_, ?_, ?_, ?_⟩
  · exact glob_at X hg (by rfl) (by rfl) (by rfl)
  · rfl
  · decide
  · refine ⟨_, _, _, _, _, _, _, _, _, _, _, _, _, (by with_unfolding_all rfl), (by rfl), fun s vals X hv => ?_⟩
    obtain ⟨a, b, c, d, rfl⟩ := list4 hv
    exact BindsTo.of_eq (by with_unfolding_all rfl)
  · intro m hm; cases hm
  · decide
  · decide
  · decide
  · rfl
  · rfl
  · rfl
theorem tab_ok (X : (KK P).In H) (hg : H.Ns mainGlobals mg) : TabOk (KK P) mg ρ tabT := tab_cases (okinsort_left2 X hg) (okbisect_left2 X hg) (okbisect_left4 X hg) (okadd_func_stats2 X hg) (okadd_callers2 X hg) (ok_law_pairs0 X hg) (ok_law_six3 X hg) (ok_law_by_places2 X hg) (ok_law_at4 X hg)
end
end Mine
end SDN
section SDO
open PySem PySem.W PySem.Calls PyProof.Rows
set_option maxRecDepth 1000000
set_option maxHeartbeats 0
namespace Mine
noncomputable def cx0 : Cx := ⟨(scopeOf "law").names, 5⟩
noncomputable def hp0 : Hp := [.list [.int (.var 0), .int (.var 1), .int (.var 2), .int (.var 3), .int (.var 4), .int (.var 5), .int (.var 6), .int (.var 7)]]
noncomputable def vars0 : Vars := [(nm "numbers", .ref 0)]
noncomputable def chain : List BE → BE
  | [] => .lit true
  | c :: cs => cs.foldl .and c
noncomputable def n3 (e : IE) (f : IE) : BE := .not (.not (.not (.ne e f)))
noncomputable def sixE (j k : Nat) : IE := .sub (.mul (.var j) (.var (4 + k))) (.mul (.var k) (.var (4 + j)))
noncomputable def AE : BE := chain ([(0, 1), (0, 2), (0, 3), (1, 2), (1, 3), (2, 3)].map fun p => n3 (sixE p.1 p.2) (.lit 0))
noncomputable def grid : List (Int × Int) := ((rangeUp (-4) 9).flatMap fun o => (rangeUp (-4) 9).map fun m => (o, m)).filter fun p => !(p == (0, 0))
noncomputable def inE (o m : Int) : BE := chain ([0, 1, 2, 3].map fun k => n3 (.mul (.lit o) (.var k)) (.mul (.lit m) (.var (4 + k))))
noncomputable def CE : BE := chain (grid.map fun p => .not (inE p.1 p.2))
noncomputable def EXP : BE := .beq AE (.not CE)
noncomputable def vars7 : Vars := [((nm "crossed"), .ref 19), ((nm "more"), .ref 15), ((nm "last"), .ref 13), ((nm "third"), .ref 12), ((nm "six"), .ref 11), ((nm "pairs"), .ref 3), ((nm "other"), .ref 2), ((nm "one"), .ref 1), ((nm "numbers"), .ref 0)]
noncomputable def hp7 : Hp := [
  .list [.int (.var 0), .int (.var 1), .int (.var 2), .int (.var 3), .int (.var 4), .int (.var 5), .int (.var 6), .int (.var 7)],
  .list [.int (.var 0), .int (.var 1), .int (.var 2), .int (.var 3)],
  .list [.int (.var 4), .int (.var 5), .int (.var 6), .int (.var 7)],
  .list [.ref 9, .ref 8, .ref 7, .ref 6, .ref 5, .ref 4],
  .tup [.int (.lit 2), .int (.lit 3)],
  .tup [.int (.lit 1), .int (.lit 3)],
  .tup [.int (.lit 1), .int (.lit 2)],
  .tup [.int (.lit 0), .int (.lit 3)],
  .tup [.int (.lit 0), .int (.lit 2)],
  .tup [.int (.lit 0), .int (.lit 1)],
  .tup [.ref 1, .ref 2, .ref 3],
  .list [.int (.sub (.mul (.var 0) (.var 5)) (.mul (.var 1) (.var 4))), .int (.sub (.mul (.var 0) (.var 6)) (.mul (.var 2) (.var 4))), .int (.sub (.mul (.var 0) (.var 7)) (.mul (.var 3) (.var 4))), .int (.sub (.mul (.var 1) (.var 6)) (.mul (.var 2) (.var 5))), .int (.sub (.mul (.var 1) (.var 7)) (.mul (.var 3) (.var 5))), .int (.sub (.mul (.var 2) (.var 7)) (.mul (.var 3) (.var 6)))],
  .list [.int (.lit 1), .int (.lit 2), .int (.lit 0), .int (.var 0)],
  .list [.int (.var 5), .int (.lit 1), .int (.lit 3), .int (.lit (-1))],
  .tup [.ref 12, .ref 13],
  .list [.int (.sub (.lit 1) (.mul (.lit 2) (.var 5))), .int (.sub (.lit 3) (.mul (.lit 0) (.var 5))), .int (.sub (.lit (-1)) (.mul (.var 0) (.var 5))), .int (.lit 6), .int (.sub (.lit (-2)) (.mul (.var 0) (.lit 1))), .int (.sub (.lit 0) (.mul (.var 0) (.lit 3)))],
  .list [.ref 1, .ref 2],
  .list [.ref 12, .ref 13],
  .list [.ref 12, .ref 13],
  .list [.int (.add (.mul (.var 3) (.var 0)) (.add (.mul (.var 2) (.lit 0)) (.add (.mul (.var 1) (.lit 2)) (.add (.mul (.var 0) (.lit 1)) (.lit 0))))), .int (.add (.mul (.var 3) (.lit (-1))) (.add (.mul (.var 2) (.lit 3)) (.add (.mul (.var 1) (.lit 1)) (.add (.mul (.var 0) (.var 5)) (.lit 0))))), .int (.add (.mul (.var 7) (.var 0)) (.add (.mul (.var 6) (.lit 0)) (.add (.mul (.var 5) (.lit 2)) (.add (.mul (.var 4) (.lit 1)) (.lit 0))))), .int (.add (.mul (.var 7) (.lit (-1))) (.add (.mul (.var 6) (.lit 3)) (.add (.mul (.var 5) (.lit 1)) (.add (.mul (.var 4) (.var 5)) (.lit 0)))))]]
noncomputable def vars12 : Vars := [((nm "mixed"), .ref 23), ((nm "squares"), .ref 20), ((nm "crossed"), .ref 19), ((nm "more"), .ref 15), ((nm "last"), .ref 13), ((nm "third"), .ref 12), ((nm "six"), .ref 11), ((nm "pairs"), .ref 3), ((nm "other"), .ref 2), ((nm "one"), .ref 1), ((nm "numbers"), .ref 0)]
noncomputable def hp12 : Hp := [
  .list [.int (.var 0), .int (.var 1), .int (.var 2), .int (.var 3), .int (.var 4), .int (.var 5), .int (.var 6), .int (.var 7)],
  .list [.int (.var 0), .int (.var 1), .int (.var 2), .int (.var 3)],
  .list [.int (.var 4), .int (.var 5), .int (.var 6), .int (.var 7)],
  .list [.ref 9, .ref 8, .ref 7, .ref 6, .ref 5, .ref 4],
  .tup [.int (.lit 2), .int (.lit 3)],
  .tup [.int (.lit 1), .int (.lit 3)],
  .tup [.int (.lit 1), .int (.lit 2)],
  .tup [.int (.lit 0), .int (.lit 3)],
  .tup [.int (.lit 0), .int (.lit 2)],
  .tup [.int (.lit 0), .int (.lit 1)],
  .tup [.ref 1, .ref 2, .ref 3],
  .list [.int (.sub (.mul (.var 0) (.var 5)) (.mul (.var 1) (.var 4))), .int (.sub (.mul (.var 0) (.var 6)) (.mul (.var 2) (.var 4))), .int (.sub (.mul (.var 0) (.var 7)) (.mul (.var 3) (.var 4))), .int (.sub (.mul (.var 1) (.var 6)) (.mul (.var 2) (.var 5))), .int (.sub (.mul (.var 1) (.var 7)) (.mul (.var 3) (.var 5))), .int (.sub (.mul (.var 2) (.var 7)) (.mul (.var 3) (.var 6)))],
  .list [.int (.lit 1), .int (.lit 2), .int (.lit 0), .int (.var 0)],
  .list [.int (.var 5), .int (.lit 1), .int (.lit 3), .int (.lit (-1))],
  .tup [.ref 12, .ref 13],
  .list [.int (.sub (.lit 1) (.mul (.lit 2) (.var 5))), .int (.sub (.lit 3) (.mul (.lit 0) (.var 5))), .int (.sub (.lit (-1)) (.mul (.var 0) (.var 5))), .int (.lit 6), .int (.sub (.lit (-2)) (.mul (.var 0) (.lit 1))), .int (.sub (.lit 0) (.mul (.var 0) (.lit 3)))],
  .list [.ref 1, .ref 2],
  .list [.ref 12, .ref 13],
  .list [.ref 12, .ref 13],
  .list [.int (.add (.mul (.var 3) (.var 0)) (.add (.mul (.var 2) (.lit 0)) (.add (.mul (.var 1) (.lit 2)) (.add (.mul (.var 0) (.lit 1)) (.lit 0))))), .int (.add (.mul (.var 3) (.lit (-1))) (.add (.mul (.var 2) (.lit 3)) (.add (.mul (.var 1) (.lit 1)) (.add (.mul (.var 0) (.var 5)) (.lit 0))))), .int (.add (.mul (.var 7) (.var 0)) (.add (.mul (.var 6) (.lit 0)) (.add (.mul (.var 5) (.lit 2)) (.add (.mul (.var 4) (.lit 1)) (.lit 0))))), .int (.add (.mul (.var 7) (.lit (-1))) (.add (.mul (.var 6) (.lit 3)) (.add (.mul (.var 5) (.lit 1)) (.add (.mul (.var 4) (.var 5)) (.lit 0)))))],
  .list [.int (.add (.mul (.var 3) (.var 3)) (.add (.mul (.var 2) (.var 2)) (.add (.mul (.var 1) (.var 1)) (.add (.mul (.var 0) (.var 0)) (.lit 0))))), .int (.add (.mul (.var 7) (.var 7)) (.add (.mul (.var 6) (.var 6)) (.add (.mul (.var 5) (.var 5)) (.add (.mul (.var 4) (.var 4)) (.lit 0))))), .int (.add (.mul (.var 3) (.var 7)) (.add (.mul (.var 2) (.var 6)) (.add (.mul (.var 1) (.var 5)) (.add (.mul (.var 0) (.var 4)) (.lit 0)))))],
  .list [.int (.add (.mul (.lit 2) (.var 0)) (.var 4)), .int (.add (.mul (.lit 2) (.var 1)) (.var 5)), .int (.add (.mul (.lit 2) (.var 2)) (.var 6)), .int (.add (.mul (.lit 2) (.var 3)) (.var 7))],
  .list [.int (.sub (.var 0) (.mul (.lit 3) (.var 4))), .int (.sub (.var 1) (.mul (.lit 3) (.var 5))), .int (.sub (.var 2) (.mul (.lit 3) (.var 6))), .int (.sub (.var 3) (.mul (.lit 3) (.var 7)))],
  .list [.ref 21, .ref 22]]
noncomputable def vars13 : Vars := [((nm "k"), .int (.lit 3)), ((nm "j"), .int (.lit 3)), ((nm "mixed"), .ref 23), ((nm "squares"), .ref 20), ((nm "crossed"), .ref 19), ((nm "more"), .ref 15), ((nm "last"), .ref 13), ((nm "third"), .ref 12), ((nm "six"), .ref 11), ((nm "pairs"), .ref 3), ((nm "other"), .ref 2), ((nm "one"), .ref 1), ((nm "numbers"), .ref 0)]
noncomputable def vars14 : Vars := [((nm "number"), .int (.sub (.mul (.var 2) (.var 7)) (.mul (.var 3) (.var 6)))), ((nm "place"), .int (.lit 5)), ((nm "k"), .int (.lit 3)), ((nm "j"), .int (.lit 3)), ((nm "mixed"), .ref 23), ((nm "squares"), .ref 20), ((nm "crossed"), .ref 19), ((nm "more"), .ref 15), ((nm "last"), .ref 13), ((nm "third"), .ref 12), ((nm "six"), .ref 11), ((nm "pairs"), .ref 3), ((nm "other"), .ref 2), ((nm "one"), .ref 1), ((nm "numbers"), .ref 0)]
/-! ### the kernel runs the executor, piece by piece -/
noncomputable def isRet : Option (Fl × Vars × Hp × List Nat) → Bool
  | some (.ret (.bool b), _) => b.eqb EXP
  | _ => false
noncomputable def isAt (v : Vars) (hp : Hp) : Option (Fl × Vars × Hp × List Nat) → Bool
  | some (.next, v', hp', _) => listEqb varEqb v' v && listEqb SO.eqb hp' hp
  | _ => false
theorem ret_of : ∀ r, isRet r = true → ∃ vars' hp' mu, r = some (.ret (.bool EXP), vars', hp', mu)
  | none, h => nomatch h
  | some (.next, _), h => nomatch h
  | some (.ret .none, _), h => nomatch h
  | some (.ret (.int _), _), h => nomatch h
  | some (.ret (.ref _), _), h => nomatch h
  | some (.ret .junk, _), h => nomatch h
  | some (.ret (.bool b), v, hp, mu), h => by
    have h : b.eqb EXP = true := h
    rw [BE.eqb_eq _ _ h]; exact ⟨v, hp, mu, rfl⟩
theorem at_of {v : Vars} {hp : Hp} : ∀ r, isAt v hp r = true → ∃ mu, r = some (.next, v, hp, mu)
  | none, h => nomatch h
  | some (.ret _, _), h => nomatch h
  | some (.next, v', hp', mu), h => by
    have h : (listEqb varEqb v' v && listEqb SO.eqb hp' hp) = true := h
    rw [Bool.and_eq_true] at h
    rw [listEqb_eq varEqb_eq _ _ h.1, listEqb_eq SO.eqb_eq _ _ h.2]; exact ⟨mu, rfl⟩
/-- a run of the first statements, and then of the rest -/
theorem ss_app {T : Tab} {cx : Cx} {v1 : Vars} {h1 : Hp} {n : Nat} {l2 : List Stmt} {b : SV} (q2 : ∃ v2 h2 mu, (run T (n + 1)).ss cx v1 h1 l2 = some (.ret b, v2, h2, mu)) :
    ∀ (l1 : List Stmt) {vars : Vars} {hp : Hp} {m1 : List Nat}, (run T (n + 1 + l1.length)).ss cx vars hp l1 = some (.next, v1, h1, m1) → ∃ v2 h2 mu, (run T (n + 1 + l1.length)).ss cx vars hp (l1 ++ l2) = some (.ret b, v2, h2, mu)
  | [], vars, hp, m1, q => by
    have q : stepSs T (run T n) cx vars hp [] = some (.next, v1, h1, m1) := q
    simp only [stepSs, Option.some.injEq, Prod.mk.injEq, true_and] at q
    obtain ⟨rfl, rfl, _⟩ := q
    exact q2
  | st :: l1, vars, hp, m1, q => by
    have q : stepSs T (run T (n + 1 + l1.length)) cx vars hp (st :: l1) = some (.next, v1, h1, m1) := q
    show ∃ v2 h2 mu, stepSs T (run T (n + 1 + l1.length)) cx vars hp (st :: (l1 ++ l2)) = some (.ret b, v2, h2, mu)
    simp only [stepSs] at q ⊢
    cases e : stepS T (run T (n + 1 + l1.length)) cx vars hp st with
    | none => rw [e] at q; cases q
    | some r =>
      obtain ⟨fl, va, ha, ma⟩ := r
      rw [e] at q
      cases fl with
      | ret v => cases q
      | next =>
        dsimp only [bind, Option.bind] at q ⊢
        cases e2 : (run T (n + 1 + l1.length)).ss cx va ha l1 with
        | none => rw [e2] at q; cases q
        | some r2 =>
          obtain ⟨fl2, vb, hb, mb⟩ := r2
          rw [e2] at q
          simp only [Option.some.injEq, Prod.mk.injEq] at q
          obtain ⟨rfl, rfl, rfl, _⟩ := q
          obtain ⟨v2, h2, mu, q3⟩ := ss_app q2 l1 e2
          rw [q3]
          exact ⟨_, _, _, rfl⟩
theorem ss_cut {T : Tab} {cx : Cx} {vars v1 : Vars} {hp h1 : Hp} {n : Nat} {l : List Stmt} {b : SV} (k : Nat) (hk : (l.take k).length = k) (q1 : isAt v1 h1 ((run T (n + 1 + k)).ss cx vars hp (l.take k)) = true)
    (q2 : ∃ v2 h2 mu, (run T (n + 1)).ss cx v1 h1 (l.drop k) = some (.ret b, v2, h2, mu)) : ∃ v2 h2 mu, (run T (n + 1 + k)).ss cx vars hp l = some (.ret b, v2, h2, mu) := by
  obtain ⟨mu, q1⟩ := at_of _ q1
  have := ss_app q2 (l.take k) (by rw [hk]; exact q1)
  rwa [hk, List.take_append_drop] at this
noncomputable def rows1 : List Stmt := (bodyOf "law").drop 1
noncomputable def rows2 : List Stmt := rows1.drop 7
noncomputable def rows3 : List Stmt := rows2.drop 5
noncomputable def rows4 : List Stmt := rows3.drop 1
noncomputable def rows5 : List Stmt := rows4.drop 1
theorem piece1 : isAt vars7 hp7 ((run tabT 100).ss cx0 vars0 hp0 (rows1.take 7)) = true := by decide +kernel
theorem piece2 : isAt vars12 hp12 ((run tabT 93).ss cx0 vars7 hp7 (rows2.take 5)) = true := by decide +kernel
theorem piece3 : isAt vars13 hp12 ((run tabT 88).ss cx0 vars12 hp12 (rows3.take 1)) = true := by decide +kernel
theorem piece4 : isAt vars14 hp12 ((run tabT 87).ss cx0 vars13 hp12 (rows4.take 1)) = true := by decide +kernel
theorem piece5 : isRet ((run tabT 86).ss cx0 vars14 hp12 rows5) = true := by decide +kernel
theorem res_ok : ∃ vars' hp' mu, (run tabT 100).ss cx0 vars0 hp0 rows1 = some (.ret (.bool EXP), vars', hp', mu) :=
  ss_cut (n := 92) 7 (by decide +kernel) piece1 (ss_cut (n := 87) 5 (by decide +kernel) piece2 (ss_cut (n := 86) 1 (by decide +kernel) piece3 (ss_cut (n := 85) 1 (by decide +kernel) piece4 (ret_of _ piece5))))
end Mine
end SDO
section SDQ
open PySem PySem.W PySem.Calls PyProof.Rows
namespace Mine
/-! ### the plain law -/
theorem chain_den (ρ : Nat → Int) : ∀ l : List BE, (chain l).den ρ = l.all (·.den ρ)
  | [] => rfl
  | c :: cs => by
    have : ∀ (cs : List BE) (c : BE), (cs.foldl .and c).den ρ = (c.den ρ && cs.all (·.den ρ)) := fun cs => by
      induction cs with
      | nil => intro c; simp
      | cons d cs ih => intro c; rw [List.foldl_cons, ih, List.all_cons]; show ((c.den ρ && d.den ρ) && _) = _; rw [Bool.and_assoc]
    exact this cs c
theorem n3_den (ρ : Nat → Int) (a b : IE) : (n3 a b).den ρ = decide (a.den ρ = b.den ρ) := by
  show (!(!(!(!(a.den ρ == b.den ρ))))) = _
  simp only [Bool.not_not]
  by_cases h : a.den ρ = b.den ρ
  · simp [h]
  · simp [h]
theorem mem_up : ∀ (n : Nat) (a x : Int), x ∈ rangeUp a n ↔ a ≤ x ∧ x < a + n
  | 0, a, x => by simp [rangeUp]
  | n + 1, a, x => by rw [rangeUp, List.mem_cons, mem_up n (a + 1) x]; push_cast; omega
theorem mem_grid (o m : Int) : (o, m) ∈ grid ↔ (-4 ≤ o ∧ o ≤ 4 ∧ -4 ≤ m ∧ m ≤ 4 ∧ ¬ (o = 0 ∧ m = 0)) := by
  unfold grid
  rw [List.mem_filter, List.mem_flatMap]
  constructor
  · rintro ⟨⟨o', ho, hm⟩, hne⟩
    obtain ⟨m', hm, e⟩ := List.mem_map.mp hm
    cases e
    have h1 := (mem_up _ _ _).mp ho
    have h2 := (mem_up _ _ _).mp hm
    refine ⟨by omega, by omega, by omega, by omega, fun z => ?_⟩
    obtain ⟨rfl, rfl⟩ := z
    simp at hne
  · rintro ⟨a, b, c, d, e⟩
    refine ⟨⟨o, (mem_up _ _ _).mpr ⟨a, by omega⟩, List.mem_map.mpr ⟨m, (mem_up _ _ _).mpr ⟨c, by omega⟩, rfl⟩⟩, ?_⟩
    simp only [Bool.not_eq_true', beq_eq_false_iff_ne, ne_eq, Prod.mk.injEq]
    exact e
theorem AE_den (ρ : Nat → Int) : AE.den ρ = true ↔ ∀ p ∈ [(0, 1), (0, 2), (0, 3), (1, 2), (1, 3), (2, 3)], ρ p.1 * ρ (4 + p.2) - ρ p.2 * ρ (4 + p.1) = 0 := by
  unfold AE
  rw [chain_den, List.all_map, List.all_eq_true]
  refine forall_congr' fun p => forall_congr' fun _ => ?_
  show (n3 (sixE p.1 p.2) (.lit 0)).den ρ = true ↔ _
  rw [n3_den, decide_eq_true_eq]
  rfl
theorem in_den (ρ : Nat → Int) (o m : Int) : (inE o m).den ρ = true ↔ ∀ k ∈ [0, 1, 2, 3], o * ρ k = m * ρ (4 + k) := by
  unfold inE
  rw [chain_den, List.all_map, List.all_eq_true]
  refine forall_congr' fun k => forall_congr' fun _ => ?_
  show (n3 (.mul (.lit o) (.var k)) (.mul (.lit m) (.var (4 + k)))).den ρ = true ↔ _
  rw [n3_den, decide_eq_true_eq]
  rfl
theorem CE_den (ρ : Nat → Int) : (BE.not CE).den ρ = true ↔ ∃ p ∈ grid, (inE p.1 p.2).den ρ = true := by
  show (!(CE.den ρ)) = true ↔ _
  unfold CE
  rw [chain_den, List.all_map, Bool.not_eq_true', ← Bool.not_eq_true, List.all_eq_true]
  constructor
  · intro h
    by_cases hx : ∃ p ∈ grid, (inE p.1 p.2).den ρ = true
    · exact hx
    · refine absurd (fun p hp => ?_) h
      show (!(inE p.1 p.2).den ρ) = true
      cases hq : (inE p.1 p.2).den ρ with
      | true => exact absurd ⟨p, hp, hq⟩ hx
      | false => rfl
  · rintro ⟨p, hp, h⟩ q
    have := q p hp
    have h' : (!(inE p.1 p.2).den ρ) = true := this
    rw [h] at h'; cases h'
theorem plain (ρ : Nat → Int) (hρ : ∀ i, -4 ≤ ρ i ∧ ρ i ≤ 4) : EXP.den ρ = true := by
  show (AE.den ρ == (BE.not CE).den ρ) = true
  have iff : AE.den ρ = true ↔ (BE.not CE).den ρ = true := by
    rw [AE_den, CE_den]
    constructor
    · intro h
      by_cases hy : ∃ i ∈ [0, 1, 2, 3], ρ (4 + i) ≠ 0
      · obtain ⟨i, hi, hne⟩ := hy
        have bi := hρ i
        have b4 := hρ (4 + i)
        refine ⟨(ρ (4 + i), ρ i), (mem_grid _ _).mpr ⟨b4.1, b4.2, bi.1, bi.2, fun z => hne z.1⟩, (in_den _ _ _).mpr fun k hk => ?_⟩
        show ρ (4 + i) * ρ k = ρ i * ρ (4 + k)
        have h01 := h (0, 1) (by decide); have h02 := h (0, 2) (by decide); have h03 := h (0, 3) (by decide)
        have h12 := h (1, 2) (by decide); have h13 := h (1, 3) (by decide); have h23 := h (2, 3) (by decide)
        simp only [List.mem_cons, List.not_mem_nil, or_false] at hi hk
        simp only at h01 h02 h03 h12 h13 h23
        rcases hi with rfl | rfl | rfl | rfl <;> rcases hk with rfl | rfl | rfl | rfl <;> (simp only [Int.mul_comm] at * <;> omega)
      · refine ⟨(0, 1), (mem_grid _ _).mpr (by decide), (in_den _ _ _).mpr fun k hk => ?_⟩
        show 0 * ρ k = 1 * ρ (4 + k)
        have : ρ (4 + k) = 0 := Classical.byContradiction fun z => hy ⟨k, hk, z⟩
        rw [this]; simp
    · rintro ⟨⟨o, m⟩, hg, hin⟩ p hp
      have hg := (mem_grid _ _).mp hg
      have hin := (in_den _ _ _).mp hin
      have sub : p.1 ∈ [0, 1, 2, 3] ∧ p.2 ∈ [0, 1, 2, 3] := by
        simp only [List.mem_cons, List.not_mem_nil, or_false] at hp ⊢
        rcases hp with rfl | rfl | rfl | rfl | rfl | rfl <;> simp
      have e1 : o * ρ p.1 = m * ρ (4 + p.1) := hin p.1 sub.1
      have e2 : o * ρ p.2 = m * ρ (4 + p.2) := hin p.2 sub.2
      generalize ρ p.1 = x at *
      generalize ρ p.2 = y at *
      generalize ρ (4 + p.1) = u at *
      generalize ρ (4 + p.2) = v at *
      by_cases ho : o = 0
      · have hm : m ≠ 0 := fun z => hg.2.2.2.2 ⟨ho, z⟩
        subst ho
        have hu : u = 0 := by
          have : m * u = 0 := by rw [← e1]; simp
          rcases Int.mul_eq_zero.mp this with z | z
          · exact absurd z hm
          · exact z
        have hv : v = 0 := by
          have : m * v = 0 := by rw [← e2]; simp
          rcases Int.mul_eq_zero.mp this with z | z
          · exact absurd z hm
          · exact z
        rw [hu, hv]; simp
      · have : o * (x * v - y * u) = 0 := by
          rw [Int.mul_sub, ← Int.mul_assoc, ← Int.mul_assoc, e1, e2, Int.mul_assoc, Int.mul_assoc, Int.mul_comm u v, Int.sub_self]
        rcases Int.mul_eq_zero.mp this with z | z
        · exact absurd z ho
        · exact z
  cases h1 : AE.den ρ <;> cases h2 : (BE.not CE).den ρ <;> simp_all
end Mine
end SDQ
section SDR
open PySem PySem.W PySem.Calls PyProof.Rows
set_option maxRecDepth 100000
set_option maxHeartbeats 8000000
namespace Mine
section
variable {prog : Program} {w : World} {P : Params} {p : Program} {loose : List Str} {mean : ExcName → Option Value} {mg mb : Str → Option Value} {H h : Heap}
theorem gd_of (X : (KK P).In H) (T : Top p loose mean mg mb H) : Gd (KK P) H mg mb := by
  have gl : ∀ {f : Str}, (∀ o es ep, (KK P).lookup 3 = some o → o.data = .dict es ep → nsFind es f = none) → mg f = none := fun {f} k =>
    glob_at (v := none) X T.g (by rfl) (by rfl) (k _ _ _ (by rfl) (by rfl))
  refine ⟨X, T.g, T.b, T.nolimit, ⟨?_, ?_⟩, ⟨?_, ?_⟩, ⟨?_, ?_⟩, ⟨?_, ?_⟩, ⟨?_, ?_⟩, ⟨?_, ?_⟩, ⟨?_, ?_⟩⟩
  all_goals first
    | exact glob_at X T.g (by rfl) (by rfl) (by rfl)
    | (rw [T.builtins _ (by decide)]; rfl)
    | (rw [T.builtins _ (by decide)]; decide +kernel)
theorem ints_rv {ρ : Nat → Int} {αs : List Addr} : ∀ {ys : List Value} {ns : List Int} (k : Nat), IntsAre ys ns → (∀ i x, ns[i]? = some x → ρ (k + i) = x) → RVs ρ αs ys ((List.range' k ns.length).map fun i => .int (.var i))
  | _, _, _, .nil, _ => trivial
  | _, _, k, .cons n t r, e => by
    rw [List.length_cons, List.range'_succ, List.map_cons]
    refine ⟨⟨t, ?_⟩, ints_rv (k + 1) r fun i x h => ?_⟩
    · have := e 0 n rfl
      show _ = Value.int (ρ k) t
      rw [← this, Nat.add_zero]
    · have := e (i + 1) x (by simpa using h)
      rw [← this]; congr 1; omega
theorem tail_ok {A : Around} {Q : Flow → Shared → Prop} {E : Value → Shared → Prop} {g : Array GenState} {d : Drawn} {t : Nat} {o : OsState} {name : Str} {scope : Scope} {fa D : Addr} {cd : Value} {m : Str → Option Value} {news : List (Addr × Obj)} {ys : List Value} {ns : List Int} {n : Nat} {r : List Stmt}
    (X : (KK P).In H) (T : Top p loose mean mg mb H) (F : Fr H H.objs.size h m) (N : News H H.objs.size h news) (hm : m (Str.ofString "numbers") = some (.ref D)) (hD : (D, lO ys n) ∈ news) (hi : IntsAre ys ns) (hl : ns.length = 8) (hb : ∀ x ∈ ns, -4 ≤ x ∧ x ≤ 4)
    (hs : scope = scopeOf "law") (hr : r = (bodyOf "law").drop 1) (hc : ∀ q ∈ cellsFrom (H.objs.size + 1) scope.names [], ∃ ob v, (q.2, ob) ∈ news ∧ ob.data = .cell v) (a : AOk 5 A)
    (hQ : ∀ h' t', (∀ b o, H.get? b = some o → h'.get? b = some o) → Q (.ret (.bool true)) ⟨h', g, d, t', o⟩) :
    wpAny (model prog w) A (execs r (envOfC name scope H.objs.size fa cd)) Q E ⟨h, g, d, t, o⟩ := by
  subst hs hr
  have G := gd_of X T
  have hρ : ∀ i, -4 ≤ ns.getD i 0 ∧ ns.getD i 0 ≤ 4 := fun i => by
    rw [List.getD_eq_getElem?_getD]
    cases e : ns[i]? with
    | none => exact ⟨by decide, by decide⟩
    | some x => exact hb x (List.mem_of_getElem? e)
  obtain ⟨hDv, hDL, hDH⟩ := N _ hD
  have hLn : H.get? H.objs.size = none := next_none H
  have top : ∃ o, H.get? mainGlobals = some o := Ns.get T.g
  have k : EK (envOfC name (scopeOf "law") H.objs.size fa cd) cx0.ks := ⟨by rfl, rfl, rfl, rfl⟩
  have S : SR (fun i => ns.getD i 0) H [D] hp0 h := by
    refine ⟨F.keep, rfl, fun i b so e1 e2 => ?_, by simp, fun b hb => by rw [List.mem_singleton.mp hb]; exact hDH, fun i b e1 e2 => ?_, top⟩
    · cases i with
      | succ i => cases e1
      | zero =>
        cases e1; cases e2
        refine ⟨_, hDv, ys, n, rfl, ?_⟩
        have := ints_rv (ρ := fun i => ns.getD i 0) (αs := [D]) 0 hi fun i x e => by rw [Nat.zero_add, List.getD_eq_getElem?_getD, e]; rfl
        rw [hl] at this
        exact this
    · cases i with
      | succ i => cases e1
      | zero => cases e2
  have hcell : ∀ q ∈ (envOfC name (scopeOf "law") H.objs.size fa cd).cells, (∃ v, h.IsCell q.2 v) ∧ H.get? q.2 = none ∧ q.2 ≠ H.objs.size := fun q hq => by
    obtain ⟨ob, v, hm, hd⟩ := hc q hq
    obtain ⟨z1, z2, z3⟩ := N _ hm
    exact ⟨⟨v, ob, z1, hd⟩, z3, z2⟩
  have Fr1 : FR (fun i => ns.getD i 0) H (envOfC name (scopeOf "law") H.objs.size fa cd) [D] vars0 h := by
    have ok := cellsFrom_ok (scopeOf "law").names (H.push { cls := .type "frame", data := .dict #[] }) 0 [] ⟨fun _ _ hm => (nomatch hm), List.Pairwise.nil⟩ (Nat.zero_le _)
    rw [Heap.size_push] at ok
    refine ⟨⟨fun z => hDL (List.mem_singleton.mp z).symm, hLn⟩, fun q hq => ?_, fun q hq q' hq' e => name_of_addr ok.apart hq (e ▸ hq'), fun x hx => ?_, m, F.ns, fun x sv e => ?_⟩
    · obtain ⟨⟨v, hv⟩, z1, z2⟩ := hcell q hq
      refine ⟨fun z => ?_, z1, z2, v, hv⟩
      rw [List.mem_singleton.mp z] at hv
      obtain ⟨ob, e, dd⟩ := hv
      rw [hDv] at e; cases e; cases dd
    · exact lookup_ex (cell_in (.inl (PySem.mem_of_lookup_some (l := (scopeOf "law").names) hx)))
    · refine .inr ⟨.ref D, ?_⟩
      unfold vars0 at e
      rw [List.lookup_cons] at e
      split at e
      · rename_i he
        have he := eq_of_beq he
        subst he
        cases e
        exact ⟨.inl ⟨by rfl, hm⟩, D, rfl, rfl⟩
      · cases e
  obtain ⟨vars', hp', mu, q⟩ := res_ok
  refine (run_sound G (tab_ok X T.g) hρ 100).ss q a k S Fr1 fun f αs' h' t' s S' F' rf => ?_
  obtain ⟨v, rfl, rv⟩ := rf
  have rv' : v = .bool (EXP.den fun i => ns.getD i 0) := rv
  rw [rv', plain _ hρ]
  exact hQ h' t' S'.base
end
end Mine
end SDR
open PySem PySem.W PyProof.Rows
set_option maxRecDepth 100000
set_option maxHeartbeats 80000000
namespace Mine
theorem kc_nine {cm : Str → Option Value} {n₁ n₂ n₃ n₄ n₅ n₆ n₇ n₈ n₉ : Str} {c₁ c₂ c₃ c₄ c₅ c₆ c₇ c₈ c₉ : Addr} {cells : List (Addr × Obj)} (x : CellsAre cm [(n₁, c₁), (n₂, c₂), (n₃, c₃), (n₄, c₄), (n₅, c₅), (n₆, c₆), (n₇, c₇), (n₈, c₈), (n₉, c₉)] cells) :
    ∃ o₁ o₂ o₃ o₄ o₅ o₆ o₇ o₈ o₉, cells = [(c₁, o₁), (c₂, o₂), (c₃, o₃), (c₄, o₄), (c₅, o₅), (c₆, o₆), (c₇, o₇), (c₈, o₈), (c₉, o₉)] ∧ o₁.data = .cell (cm n₁) ∧ o₂.data = .cell (cm n₂) ∧ o₃.data = .cell (cm n₃) ∧ o₄.data = .cell (cm n₄) ∧ o₅.data = .cell (cm n₅) ∧ o₆.data = .cell (cm n₆) ∧ o₇.data = .cell (cm n₇) ∧ o₈.data = .cell (cm n₈) ∧ o₉.data = .cell (cm n₉) := by
  cases x with | cons h r => obtain ⟨o₂, o₃, o₄, o₅, o₆, o₇, o₈, o₉, rfl, h₂, h₃, h₄, h₅, h₆, h₇, h₈, h₉⟩ := PyProof.Rows.kc_eight r; exact ⟨_, o₂, o₃, o₄, o₅, o₆, o₇, o₈, o₉, rfl, h, h₂, h₃, h₄, h₅, h₆, h₇, h₈, h₉⟩
theorem kc_ten {cm : Str → Option Value} {n₁ n₂ n₃ n₄ n₅ n₆ n₇ n₈ n₉ n₁₀ : Str} {c₁ c₂ c₃ c₄ c₅ c₆ c₇ c₈ c₉ c₁₀ : Addr} {cells : List (Addr × Obj)} (x : CellsAre cm [(n₁, c₁), (n₂, c₂), (n₃, c₃), (n₄, c₄), (n₅, c₅), (n₆, c₆), (n₇, c₇), (n₈, c₈), (n₉, c₉), (n₁₀, c₁₀)] cells) :
    ∃ o₁ o₂ o₃ o₄ o₅ o₆ o₇ o₈ o₉ o₁₀, cells = [(c₁, o₁), (c₂, o₂), (c₃, o₃), (c₄, o₄), (c₅, o₅), (c₆, o₆), (c₇, o₇), (c₈, o₈), (c₉, o₉), (c₁₀, o₁₀)] ∧ o₁.data = .cell (cm n₁) ∧ o₂.data = .cell (cm n₂) ∧ o₃.data = .cell (cm n₃) ∧ o₄.data = .cell (cm n₄) ∧ o₅.data = .cell (cm n₅) ∧ o₆.data = .cell (cm n₆) ∧ o₇.data = .cell (cm n₇) ∧ o₈.data = .cell (cm n₈) ∧ o₉.data = .cell (cm n₉) ∧ o₁₀.data = .cell (cm n₁₀) := by
  cases x with | cons h r => obtain ⟨o₂, o₃, o₄, o₅, o₆, o₇, o₈, o₉, o₁₀, rfl, h₂, h₃, h₄, h₅, h₆, h₇, h₈, h₉, h₁₀⟩ := kc_nine r; exact ⟨_, o₂, o₃, o₄, o₅, o₆, o₇, o₈, o₉, o₁₀, rfl, h, h₂, h₃, h₄, h₅, h₆, h₇, h₈, h₉, h₁₀⟩
theorem hide {M : Model} {A : Around} {st : Stmt} {rest : List Stmt} {env : Env} {Q : Flow → Shared → Prop} {E : Value → Shared → Prop} {s : Shared} (h : ∀ r, r = rest → wpAny M A (execs (st :: r) env) Q E s) : wpAny M A (execs (st :: rest) env) Q E s := h rest rfl
theorem nums_ok (ns : List Int) : (List.map (fun k' => Int.fmod k' 9 - 4) (List.take 8 (ns ++ (List.replicate 8 [0]).flatten))).length = 8 ∧ ∀ x ∈ List.map (fun k' => Int.fmod k' 9 - 4) (List.take 8 (ns ++ (List.replicate 8 [0]).flatten)), -4 ≤ x ∧ x ≤ 4 := by
  refine ⟨by simp, fun x hx => ?_⟩
  obtain ⟨k, _, rfl⟩ := List.mem_map.mp hx
  have h1 := Int.fmod_nonneg_of_pos k (b := 9) (by decide)
  have h2 := Int.fmod_lt_of_pos k (b := 9) (by decide)
  omega
end Mine
local macro_rules | `(tactic| cells_open $x:ident) => `(tactic| (obtain ⟨_, _, _, _, _, _, _, _, _, _, he, _, _, _, _, _, _, _, _, _, _⟩ := Mine.kc_ten $x; subst he))
theorem PySem.Challenge.cw_hv0002_01_holds : PySem.Challenge.rw_hv0002_01.Holds := by
  refine Mine.hd1 ?_

  k_go0
  (all_goals try k_fold)
  refine Mine.hide fun r hr => ?_
  k_steps
  refine Mine.tail_ok (by assumption) (by assumption) (by assumption) (by assumption) ?_ List.mem_cons_self (by assumption) (Mine.nums_ok _).1 (Mine.nums_ok _).2 (by with_unfolding_all rfl) (hr.trans (by with_unfolding_all rfl)) ?_ ?_ ?_
  · rfl
  · intro q hq
    have hq' : q ∈ cellsFrom (_ + 1) _ [] := hq
    repeat (rcases List.mem_cons.mp hq with rfl | hq; (· exact ⟨_, _, by repeat (first | exact List.mem_cons_self | refine List.mem_cons_of_mem _ ?_), by assumption⟩))
    cases hq
  · exact ⟨rfl, (by show callerA.depth + 1 + 5 < recursionLimit; decide), (by show callerA.units + 3 + 3 * 5 + 60 < cLine; decide)⟩
  · intro h' t' hk
    refine ⟨.inl ⟨.bool true, ofPy (.bool true), [], rfl, fun _ => rfl, ?_, ?_, fun _ => ⟨List.nodup_nil, fun a h => nomatch h⟩⟩, hk, rfl, by assumption⟩
    · first | exact ReadsW.bool _ | constructor | (simp [ofPy, ReadsW]; done)
    · first | rfl | decide | (with_unfolding_all rfl)
