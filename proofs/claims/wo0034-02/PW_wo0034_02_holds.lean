import PyProof.Rows.All
import Wide.All
import OpenK.AllK
import Wide.FinOn
import KE.KDictSum
import KE.KRevIter
import KE.KNest
import PyProof.StrLawsIn
import PyProof.OldK
import KE.IntBitsLaws
import PyProof.Rows.BitMore
import PySem.Challenge.RW_wo0034_02
set_option Elab.async false
set_option genSizeOf false
set_option genInjectivity false
set_option bootstrap.genMatcherCode false
set_option tactic.hygienic false
namespace Mine
open PySem
inductive V where
  | non
  | bool (b : Bool)
  | int (i : Int)
  | str (s : List Nat)
  | list (l : List V)
  | tup (l : List V)
  | dict (l : List (Int × V))
  deriving Inhabited
inductive Bop where
  | add | sub | mul | fdiv | fmod | pow | shl | shr | band | bor | bxor
  deriving DecidableEq
inductive Uop where
  | neg | not | inv
  deriving DecidableEq
inductive Cop where
  | eq | ne | lt | le | gt | ge | mem | nmem
  deriving DecidableEq
inductive Prim where
  | int1 | len | max2 | min2 | sum | sorted | hex | divmod
  deriving DecidableEq
inductive Meth where
  | join | split | index | get2 | bitlen
  deriving DecidableEq
inductive Itk where
  | plain | range1 | range2 | reversed | enumerate | zip
  deriving DecidableEq
inductive Tgt where
  | one (i : Nat)
  | many (is : List Nat)
inductive ME where
  | stuck
  | lit (v : V)
  | var (i : Nat)
  | glob (g : Nat)
  | bin (op : Bop) (a b : ME)
  | un (op : Uop) (a : ME)
  | bop (isAnd : Bool) (es : List ME)
  | cmp (a : ME) (o : Cop) (b : ME)
  | ite (c a b : ME)
  | list (es : List ME)
  | tup (es : List ME)
  | call (f : Nat) (es : List ME)
  | prim (p : Prim) (es : List ME)
  | meth (m : Meth) (a : ME) (es : List ME)
  | sub (a i : ME)
  | slice (a : ME) (lo hi : Option ME)
  | comp (elt : ME) (t : Tgt) (k : Itk) (es : List ME) (conds : List ME)
inductive MS where
  | stuck
  | freeze (i : Nat)
  | assign (t : Tgt) (e : ME)
  | fresh (i : Nat) (e : ME)
  | par (is : List (Nat × Bool)) (es : List ME)
  | aug (i : Nat) (op : Bop) (e : ME)
  | append (i : Nat) (e : ME)
  | reverse (i : Nat)
  | setItem (i : Nat) (k e : ME)
  | ret (e : ME)
  | ifs (c : ME) (a b : List MS)
  | while' (c : ME) (b : List MS)
  | for' (t : Tgt) (k : Itk) (es : List ME) (b : List MS) (orelse : List MS)
  | brk
inductive Ent where
  | un
  | fz (v : V)
  | own (v : V)
  deriving Inhabited
abbrev Sig := List Ent
noncomputable def Sig.at (σ : Sig) (i : Nat) : Ent := σ.getD i .un
inductive Fl where
  | next | brk | ret (v : V)
inductive FnDef where
  | code (params slots : Nat) (io : Option Nat) (body : List MS)
  | ext (f : List V → Option V)
structure Genv where
  fn : Nat → Option FnDef
  gl : Nat → Option V
mutual
noncomputable def V.eqb (a b : V) : Bool := match a with
  | .non => (match b with
    | .non => true
    | _ => false)
  | .int a => (match b with
    | .int b => a == b
    | .bool b => a == (if b then 1 else 0)
    | _ => false)
  | .str a => (match b with
    | .str b => a == b
    | _ => false)
  | .bool a => (match b with
    | .bool b => a == b
    | .int b => (if a then 1 else 0) == b
    | _ => false)
  | .list a => (match b with
    | .list b => V.eqbL a b
    | _ => false)
  | .tup a => (match b with
    | .tup b => V.eqbL a b
    | _ => false)
  | .dict _ => false
noncomputable def V.eqbL (a b : List V) : Bool := match a with
  | [] => (match b with
    | [] => true
    | _ :: _ => false)
  | a :: l => (match b with
    | b :: r => V.eqb a b && V.eqbL l r
    | [] => false)
end
noncomputable def chOk (l : List Nat) : Bool := l.all (· < 0x110000)
mutual
noncomputable def V.pl (n : Nat) (v : V) : Bool := match v with
  | .non => true
  | .int _ => true
  | .bool _ => true
  | .str s => chOk s
  | .list l => (match n with
    | 0 => false
    | n + 1 => V.plL n l)
  | .tup l => (match n with
    | 0 => false
    | n + 1 => V.plL n l)
  | .dict _ => false
noncomputable def V.plL (n : Nat) (l : List V) : Bool := match l with
  | [] => true
  | a :: l => V.pl n a && V.plL n l
end
noncomputable def V.eqs (a b : V) : Option Bool := if V.pl 8 a && V.pl 8 b then some (V.eqb a b) else none
noncomputable def V.truthy : V → Option Bool
  | .non => some false
  | .bool b => some b
  | .int i => some (i != 0)
  | .str s => some (!s.isEmpty)
  | .list l => some (!l.isEmpty)
  | .tup l => some (!l.isEmpty)
  | .dict _ => none
noncomputable def lineN : Nat := 1048576
noncomputable def bitsOf (x : Int) : Nat := Builtin.Int.intBits x
noncomputable def rep {α : Type} (l : List α) : Nat → List α
  | 0 => []
  | n + 1 => l ++ rep l n
theorem noSome {α : Type} {b : α} {C : Prop} (h : none = some b) : C := nomatch h
theorem noF {α : Type} {b : α} (h : none = some b) : False := nomatch h
theorem iteS {α : Type} {c : Prop} [Decidable c] {a b : α} (h : (if c then some a else none) = some b) : c ∧ a = b := by
  by_cases q : c
  · rw [if_pos q] at h; exact ⟨q, Option.some.inj h⟩
  · rw [if_neg q] at h; exact noSome h
theorem iteN {α : Type} {c : Prop} [Decidable c] {a b : α} (h : (if c then none else some a) = some b) : ¬ c ∧ a = b := by
  by_cases q : c
  · rw [if_pos q] at h; exact noSome h
  · rw [if_neg q] at h; exact ⟨q, Option.some.inj h⟩
noncomputable def intV (op : Bop) (x y : Int) : Option V := match op with
  | .add => some (.int (x + y))
  | .sub => some (.int (x - y))
  | .mul => if bitsOf x + bitsOf y ≤ lineN then some (.int (x * y)) else none
  | .fdiv => if y = 0 ∨ 8000 < bitsOf y then none else some (.int (x.fdiv y))
  | .fmod => if y = 0 then none else some (.int (x.fmod y))
  | .pow => if 0 ≤ y ∧ (bitsOf x : Int) * y ≤ lineN then some (.int (x ^ y.toNat)) else none
  | .shl => if 0 ≤ y ∧ (bitsOf x : Int) + y ≤ lineN then some (.int (x * 2 ^ y.toNat)) else none
  | .shr => if 0 ≤ y then some (.int (x.fdiv (2 ^ y.toNat))) else none
  | .band => some (.int (Builtin.bitAnd x y))
  | .bor => some (.int (Builtin.bitOr x y))
  | .bxor => some (.int (Builtin.bitXor x y))
noncomputable def binV (op : Bop) (a b : V) : Option V := match a with
  | .int x => (match b with
    | .int y => intV op x y
    | _ => none)
  | .str x => (match b with
    | .str y => (match op with
      | .add => if x.length + y.length ≤ lineN then some (.str (x ++ y)) else none
      | _ => none)
    | .int y => (match op with
      | .mul => if x.length * y.toNat ≤ lineN && decide (y < lineN) && decide (-lineN < y) then some (.str (rep x y.toNat)) else none
      | _ => none)
    | _ => none)
  | .list x => (match b with
    | .list y => (match op with
      | .add => if x.length + y.length ≤ lineN then some (.list (x ++ y)) else none
      | _ => none)
    | .int y => (match op with
      | .mul => if x.length * y.toNat ≤ lineN && decide (y < lineN) && decide (-lineN < y) then some (.list (rep x y.toNat)) else none
      | _ => none)
    | _ => none)
  | _ => none
noncomputable def unV (op : Uop) (a : V) : Option V := match op with
  | .neg => match a with
    | .int x => some (.int (-x))
    | _ => none
  | .inv => match a with
    | .int x => some (.int (Builtin.bitNot x))
    | _ => none
  | .not => match a.truthy with
    | some b => some (.bool (!b))
    | none => none
noncomputable def memV (a : V) (l : List V) : Option Bool := if V.plL 8 l && V.pl 8 a then some (l.any fun x => V.eqb x a) else none
noncomputable def dlook : List (Int × V) → Int → Option V
  | [], _ => none
  | (k, v) :: l, x => if k = x then some v else dlook l x
noncomputable def dput : List (Int × V) → Int → V → List (Int × V)
  | [], x, v => [(x, v)]
  | (k, w) :: l, x, v => if k = x then (k, v) :: l else (k, w) :: dput l x v
noncomputable def inL (a b : V) : Option Bool := match b with
  | .list l => memV a l
  | _ => none
noncomputable def int2 (f : Int → Int → Bool) (a b : V) : Option Bool := match a with
  | .int x => (match b with
    | .int y => some (f x y)
    | _ => none)
  | _ => none
noncomputable def memC : Cop → Bool
  | .mem => true
  | .nmem => true
  | _ => false
theorem plainW {o : Cop} {P : Prop} (h : o = .mem ∨ o = .nmem ∨ P) (ho : memC o = false) : P := by
  rcases h with rfl | rfl | h
  · cases ho
  · cases ho
  · exact h
noncomputable def cmpV (op : Cop) (a b : V) : Option Bool := match op with
  | .eq => a.eqs b
  | .ne => match a.eqs b with
    | some x => some (!x)
    | none => none
  | .mem => inL a b
  | .nmem => none
  | .lt => int2 (fun x y => decide (x < y)) a b
  | .le => int2 (fun x y => decide (x ≤ y)) a b
  | .gt => int2 (fun x y => decide (y < x)) a b
  | .ge => int2 (fun x y => decide (y ≤ x)) a b
theorem int2_inv {f : Int → Int → Bool} {a b : V} {c : Bool} (e : int2 f a b = some c) : ∃ x y, a = .int x ∧ b = .int y ∧ f x y = c := by
  unfold int2 at e
  split at e
  · split at e
    · exact ⟨_, _, rfl, rfl, Option.some.inj e⟩
    · exact nomatch e
  · exact nomatch e
noncomputable def idx (n : Nat) (i : Int) : Option Nat := if 0 ≤ i ∧ i < n then some i.toNat else none
noncomputable def getV (a i : V) : Option V := match a, i with
  | .list l, .int k => match idx l.length k with
    | some j => l[j]?
    | none => none
  | .tup l, .int k => match idx l.length k with
    | some j => l[j]?
    | none => none
  | .dict l, .int k => dlook l k
  | _, _ => none
noncomputable def bound (n : Nat) (i : Int) : Nat := if i < 0 then (i + n).toNat else min i.toNat n
noncomputable def sliceL {α : Type} (l : List α) (lo hi : Option Int) : List α :=
  let a := match lo with | some i => bound l.length i | none => 0
  let b := match hi with | some i => bound l.length i | none => l.length
  (l.take b).drop a
noncomputable def ints? : List V → Option (List Int)
  | [] => some []
  | .int i :: l => (ints? l).map (i :: ·)
  | _ :: _ => none
noncomputable def strs? : List V → Option (List (List Nat))
  | [] => some []
  | .str i :: l => (strs? l).map (i :: ·)
  | _ :: _ => none
noncomputable def insI (x : Int) : List Int → List Int
  | [] => [x]
  | y :: l => if x < y then x :: y :: l else y :: insI x l
noncomputable def sortI : List Int → List Int
  | [] => []
  | x :: l => insI x (sortI l)
noncomputable def hexDigit (n : Nat) : Nat := if n < 10 then 48 + n else 87 + n
noncomputable def hexOf : Nat → Nat → List Nat
  | 0, _ => []
  | f + 1, n => if n < 16 then [hexDigit n] else hexOf f (n / 16) ++ [hexDigit (n % 16)]
noncomputable def intP (f : Int → Int → Option V) (a b : V) : Option V := match a with
  | .int x => (match b with
    | .int y => f x y
    | _ => none)
  | _ => none
theorem intP_inv {f : Int → Int → Option V} {a b z : V} (e : intP f a b = some z) : ∃ x y, a = .int x ∧ b = .int y ∧ f x y = some z := by
  unfold intP at e
  split at e
  · split at e
    · exact ⟨_, _, rfl, rfl, e⟩
    · exact nomatch e
  · exact nomatch e
noncomputable def prim1 (p : Prim) (a : V) : Option V := match p with
  | .int1 => (match a with
    | .int i => some (.int i)
    | _ => none)
  | .len => (match a with
    | .list l => some (.int l.length)
    | .str l => some (.int l.length)
    | _ => none)
  | .sum => (match a with
    | .list l => (ints? l).map fun ns => .int ns.sum
    | _ => none)
  | .sorted => (match a with
    | .dict l => if l.length < 64 then some (.list ((sortI (l.map (·.1))).map .int)) else none
    | _ => none)
  | .hex => (match a with
    | .int i => if 0 ≤ i ∧ i.toNat < 16 ^ 64 then some (.str ([48, 120] ++ hexOf 64 i.toNat)) else none
    | _ => none)
  | _ => none
noncomputable def prim2 (p : Prim) (a b : V) : Option V := match p with
  | .max2 => intP (fun a b => some (.int (if b > a then b else a))) a b
  | .divmod => intP (fun a b => if b = 0 ∨ 8000 < bitsOf b then none else some (.tup [.int (a.fdiv b), .int (a.fmod b)])) a b
  | _ => none
noncomputable def primV (p : Prim) (vs : List V) : Option V := match vs with
  | [] => none
  | a :: vs => (match vs with
    | [] => prim1 p a
    | b :: vs => (match vs with
      | [] => prim2 p a b
      | _ :: _ => none))
noncomputable def joinS (sep : List Nat) : List (List Nat) → List Nat
  | [] => []
  | [x] => x
  | x :: l => x ++ sep ++ joinS sep l
noncomputable def strL (l : List Nat) : Str := ⟨l.toArray⟩
noncomputable def meth0 (m : Meth) (a : V) : Option V := match m with
  | .bitlen => (match a with
    | .int i => some (.int (bitsOf i))
    | _ => none)
  | _ => none
noncomputable def meth1 (m : Meth) (a x : V) : Option V := match m with
  | .join => (match a with
    | .str sep => (match x with
      | .list l => (match strs? l with
        | some ss => if (ss.map fun x => x.length + sep.length).sum ≤ lineN then some (.str (joinS sep ss)) else none
        | none => none)
      | _ => none)
    | _ => none)
  | .split => (match a with
    | .str s => (match x with
      | .str sep => if sep.isEmpty || decide (lineN ≤ s.length) || decide (lineN ≤ (Txt.split (strL s) (strL sep)).length) || !(Txt.split (strL s) (strL sep)).all (fun x => decide (x.length ≤ lineN)) then none
        else some (.list ((Txt.split (strL s) (strL sep)).map fun x => .str x.cps.toList))
      | _ => none)
    | _ => none)
  | .index => (match a with
    | .str s => (match x with
      | .str c => (match Builtin.Str.occurrences (strL s) (strL c) 0 (strL s).length 1 with
        | k :: _ => some (.int (k : Nat))
        | [] => none)
      | _ => none)
    | _ => none)
  | _ => none
noncomputable def meth2 (m : Meth) (a x d : V) : Option V := match m with
  | .get2 => (match a with
    | .dict l => (match x with
      | .int k => (match dlook l k with
        | some v => some v
        | none => some d)
      | _ => none)
    | _ => none)
  | _ => none
noncomputable def methV (m : Meth) (a : V) (vs : List V) : Option V := match vs with
  | [] => meth0 m a
  | x :: vs => (match vs with
    | [] => meth1 m a x
    | d :: vs => (match vs with
      | [] => meth2 m a x d
      | _ :: _ => none))
noncomputable def rangeL (lo hi : Int) : List Int := (List.range (hi - lo).toNat).map fun k : Nat => lo + (k : Int)
noncomputable def enumV : Nat → List V → List V
  | _, [] => []
  | k, x :: l => .tup [.int k, x] :: enumV (k + 1) l
noncomputable def zipV : List V → List V → List V
  | x :: l, y :: r => .tup [x, y] :: zipV l r
  | _, _ => []
noncomputable def iter1 (k : Itk) (a : V) : Option (List V) := match k with
  | .plain => (match a with
    | .list l => some l
    | .dict l => some (l.map fun p => .int p.1)
    | _ => none)
  | .range1 => (match a with
    | .int n => if -lineN < n ∧ n < lineN then some ((rangeL 0 n).map .int) else none
    | _ => none)
  | .reversed => (match a with
    | .list l => some l.reverse
    | _ => none)
  | .enumerate => (match a with
    | .list l => some (enumV 0 l)
    | _ => none)
  | _ => none
noncomputable def iter2 (k : Itk) (a b : V) : Option (List V) := match k with
  | .range2 => (match a with
    | .int a => (match b with
      | .int b => if b - a < lineN ∧ -lineN < a ∧ a < lineN ∧ -lineN < b ∧ b < lineN then some ((rangeL a b).map .int) else none
      | _ => none)
    | _ => none)
  | .zip => (match a with
    | .list l => (match b with
      | .list r => some (zipV l r)
      | _ => none)
    | _ => none)
  | _ => none
noncomputable def iterV (k : Itk) (vs : List V) : Option (List V) := match vs with
  | [] => none
  | a :: vs => (match vs with
    | [] => iter1 k a
    | b :: vs => (match vs with
      | [] => iter2 k a b
      | _ :: _ => none))
noncomputable def sets : Sig → List Nat → List V → Option Sig
  | σ, [], [] => some σ
  | σ, i :: is, v :: vs => sets (σ.set i (.fz v)) is vs
  | _, _, _ => none
noncomputable def put (σ : Sig) (t : Tgt) (v : V) : Option Sig := match t with
  | .one i => some (σ.set i (.fz v))
  | .many is => match v with
    | .tup vs => sets σ is vs
    | _ => none
noncomputable def refV (ev : Sig → ME → Option V) (σ : Sig) (e : ME) : Option V := match e with
  | .var i => match σ.at i with
    | .fz v => some v
    | .own v => some v
    | .un => none
  | e => ev σ e
noncomputable def evL (ev : Sig → ME → Option V) (σ : Sig) : List ME → Option (List V)
  | [] => some []
  | e :: es => match ev σ e with
    | some v => match evL ev σ es with
      | some vs => some (v :: vs)
      | none => none
    | none => none
theorem evL_inv {ev : Sig → ME → Option V} {σ : Sig} {e : ME} {es : List ME} {vs : List V} (h : evL ev σ (e :: es) = some vs) : ∃ v us, ev σ e = some v ∧ evL ev σ es = some us ∧ vs = v :: us := by
  unfold evL at h
  split at h
  · split at h
    · exact ⟨_, _, by assumption, by assumption, (Option.some.inj h).symm⟩
    · exact nomatch h
  · exact nomatch h
theorem evL_inv1 {ev : Sig → ME → Option V} {σ : Sig} {e : ME} {vs : List V} (h : evL ev σ [e] = some vs) : ∃ v, ev σ e = some v ∧ vs = [v] := by
  obtain ⟨v, us, h1, h2, rfl⟩ := evL_inv h
  obtain rfl := Option.some.inj h2
  exact ⟨v, h1, rfl⟩
theorem evL_inv2 {ev : Sig → ME → Option V} {σ : Sig} {e e2 : ME} {vs : List V} (h : evL ev σ [e, e2] = some vs) : ∃ v w, ev σ e = some v ∧ ev σ e2 = some w ∧ vs = [v, w] := by
  obtain ⟨v, us, h1, h2, rfl⟩ := evL_inv h
  obtain ⟨w, h3, rfl⟩ := evL_inv1 h2
  exact ⟨v, w, h1, h3, rfl⟩
noncomputable def bopV (ev : Sig → ME → Option V) (σ : Sig) (isAnd : Bool) : List ME → Option V
  | [] => none
  | [e] => ev σ e
  | e :: es => match ev σ e with
    | some v => match v.truthy with
      | some b => if b == isAnd then bopV ev σ isAnd es else some v
      | none => none
    | none => none
noncomputable def cmp1V (ev : Sig → ME → Option V) (σ : Sig) (a : V) (o : Cop) (e : ME) : Option Bool :=
  match (if o = .mem ∨ o = .nmem then refV ev σ e else ev σ e) with
  | some b => cmpV o a b
  | none => none
noncomputable def allV (ev : Sig → ME → Option V) (σ : Sig) : List ME → Option Bool
  | [] => some true
  | c :: cs => match ev σ c with
    | some v => match v.truthy with
      | some true => allV ev σ cs
      | some false => some false
      | none => none
    | none => none
noncomputable def compV (ev : Sig → ME → Option V) (σ : Sig) (elt : ME) (t : Tgt) (conds : List ME) : List V → Option (List V)
  | [] => some []
  | x :: xs => match put σ t x with
    | some σ' => match allV ev σ' conds with
      | some true => match ev σ' elt with
        | some v => match compV ev σ elt t conds xs with
          | some vs => some (v :: vs)
          | none => none
        | none => none
      | some false => compV ev σ elt t conds xs
      | none => none
    | none => none
noncomputable def optV (ev : Sig → ME → Option V) (σ : Sig) : Option ME → Option (Option Int)
  | none => some none
  | some e => match ev σ e with
    | some (.int i) => some (some i)
    | _ => none
structure Rn where
  ev : Sig → ME → Option V
  ex : Sig → List MS → Option (Fl × Sig)
  call : Nat → List V → Option V
  callIO : Nat → List V → Nat → Option (V × V)
noncomputable def Rn.zero : Rn := ⟨fun _ _ => none, fun _ _ => none, fun _ _ => none, fun _ _ _ => none⟩
noncomputable def forV (ex : Sig → List MS → Option (Fl × Sig)) (t : Tgt) (b orelse : List MS) : List V → Sig → Option (Fl × Sig)
  | [], σ => ex σ orelse
  | x :: xs, σ => match put σ t x with
    | some σ' => match ex σ' b with
      | some (.next, σ'') => forV ex t b orelse xs σ''
      | some (.brk, σ'') => some (.next, σ'')
      | some (.ret v, σ'') => some (.ret v, σ'')
      | none => none
    | none => none
noncomputable def evStep (g : Genv) (r : Rn) (σ : Sig) (e : ME) : Option V := match e with
  | .stuck => none
  | .lit v => some v
  | .var i => match σ.at i with
    | .fz v => some v
    | _ => none
  | .glob i => g.gl i
  | .bin op a b => match r.ev σ a with
    | some x => match r.ev σ b with
      | some y => binV op x y
      | none => none
    | none => none
  | .un op a => match r.ev σ a with
    | some x => unV op x
    | none => none
  | .bop isAnd es => bopV r.ev σ isAnd es
  | .cmp a o b => match r.ev σ a with
    | some x => match cmp1V r.ev σ x o b with
      | some b => some (.bool b)
      | none => none
    | none => none
  | .ite c a b => match r.ev σ c with
    | some x => match x.truthy with
      | some true => r.ev σ a
      | some false => r.ev σ b
      | none => none
    | none => none
  | .list es => match evL r.ev σ es with
    | some vs => some (.list vs)
    | none => none
  | .tup es => match evL r.ev σ es with
    | some vs => some (.tup vs)
    | none => none
  | .call f es => match evL r.ev σ es with
    | some vs => r.call f vs
    | none => none
  | .prim p es => match evL r.ev σ es with
    | some vs => primV p vs
    | none => none
  | .meth m a es => match refV r.ev σ a with
    | some x => match evL r.ev σ es with
      | some vs => methV m x vs
      | none => none
    | none => none
  | .sub a i => match refV r.ev σ a with
    | some x => match r.ev σ i with
      | some y => getV x y
      | none => none
    | none => none
  | .slice a lo hi => match refV r.ev σ a with
    | some (.list l) => match optV r.ev σ lo with
      | some x => match optV r.ev σ hi with
        | some y => some (.list (sliceL l x y))
        | none => none
      | none => none
    | _ => none
  | .comp elt t k es conds => match evL r.ev σ es with
    | some vs => match iterV k vs with
      | some l => match compV r.ev σ elt t conds l with
        | some out => some (.list out)
        | none => none
      | none => none
    | none => none
noncomputable def freshV (σ : Sig) (ev : Sig → ME → Option V) : List (Nat × Bool) → List ME → Option (List V)
  | [], [] => some []
  | _ :: is, e :: es => match ev σ e with
    | some v => match freshV σ ev is es with
      | some vs => some (v :: vs)
      | none => none
    | none => none
  | _, _ => none
noncomputable def setsB : Sig → List (Nat × Bool) → List V → Option Sig
  | σ, [], [] => some σ
  | σ, (i, own) :: is, v :: vs => setsB (σ.set i (if own then .own v else .fz v)) is vs
  | _, _, _ => none
noncomputable def exStep (r : Rn) (σ : Sig) (s : MS) : Option (Fl × Sig) := match s with
  | .stuck => none
  | .freeze i => match σ.at i with
    | .own v => some (.next, σ.set i (.fz v))
    | .fz v => some (.next, σ.set i (.fz v))
    | .un => none
  | .assign t e => match r.ev σ e with
    | some v => match put σ t v with
      | some σ' => some (.next, σ')
      | none => none
    | none => none
  | .fresh i e => match r.ev σ e with
    | some v => some (.next, σ.set i (.own v))
    | none => none
  | .par is es => match freshV σ r.ev is es with
    | some vs => match setsB σ is vs with
      | some σ' => some (.next, σ')
      | none => none
    | none => none
  | .aug i op e => match σ.at i with
    | .fz (.int x) => match r.ev σ e with
      | some (.int y) => match binV op (.int x) (.int y) with
        | some z => some (.next, σ.set i (.fz z))
        | none => none
      | _ => none
    | _ => none
  | .append i e => match σ.at i with
    | .own (.list l) => match r.ev σ e with
      | some v => if l.length < lineN then some (.next, σ.set i (.own (.list (l ++ [v])))) else none
      | none => none
    | _ => none
  | .reverse i => match σ.at i with
    | .own (.list l) => some (.next, σ.set i (.own (.list l.reverse)))
    | _ => none
  | .setItem i k e => match σ.at i with
    | .own (.dict l) => match r.ev σ e with
      | some v => match r.ev σ k with
        | some (.int x) => if l.length < lineN then some (.next, σ.set i (.own (.dict (dput l x v)))) else none
        | _ => none
      | none => none
    | _ => none
  | .ret e => match r.ev σ e with
    | some v => some (.ret v, σ)
    | none => none
  | .ifs c a b => match r.ev σ c with
    | some x => match x.truthy with
      | some true => r.ex σ a
      | some false => r.ex σ b
      | none => none
    | none => none
  | .while' c b => match r.ev σ c with
    | some x => match x.truthy with
      | some true => match r.ex σ b with
        | some (.next, σ') => r.ex σ' [.while' c b]
        | some (.brk, σ') => some (.next, σ')
        | some (.ret v, σ') => some (.ret v, σ')
        | none => none
      | some false => some (.next, σ)
      | none => none
    | none => none
  | .for' t k es b orelse => match evL r.ev σ es with
    | some vs => match iterV k vs with
      | some l => forV r.ex t b orelse l σ
      | none => none
    | none => none
  | .brk => some (.brk, σ)
noncomputable def exsStep (r : Rn) : Sig → List MS → Option (Fl × Sig)
  | σ, [] => some (.next, σ)
  | σ, s :: ss => match exStep r σ s with
    | some (.next, σ') => exsStep r σ' ss
    | some x => some x
    | none => none
noncomputable def frame (params slots : Nat) (io : Option Nat) (vs : List V) : Option Sig :=
  if vs.length = params then
    some ((vs.zipIdx.map fun p => if io = some p.2 then Ent.own p.1 else Ent.fz p.1) ++ List.replicate (slots - params) Ent.un)
  else none
noncomputable def callStep (big : Bool) (g : Genv) (r : Rn) (f : Nat) (vs : List V) : Option V := match g.fn f with
  | some (.code p n none b) => match frame p n none vs with
    | some σ => match r.ex σ b with
      | some (.ret v, _) => some v
      | some (.next, _) => some .non
      | _ => none
    | none => none
  | some (.ext h) => if big then h vs else none
  | _ => none
noncomputable def callIOStep (_ : Genv) (_ : Rn) (_ : Nat) (_ : List V) (_ : Nat) : Option (V × V) := none
noncomputable def run (g : Genv) : Nat → Rn
  | 0 => .zero
  | n + 1 => ⟨evStep g (run g n), exsStep (run g n), callStep (Nat.ble 40 n) g (run g n), callIOStep g (run g n)⟩
section
variable {α β : Type} {P : Prop} {b : β}
theorem mE {x : Option α} {f : α → Option β} (e : (match x with | some a => f a | none => none) = some b) (k : ∀ a, x = some a → f a = some b → P) : P :=
  match x, e, k with
  | some a, e, k => k a rfl e
  | none, e, _ => (noF e).elim
theorem mB {x : Option Bool} {t f : Option β} (e : (match x with | some true => t | some false => f | none => none) = some b) (k1 : x = some true → t = some b → P) (k2 : x = some false → f = some b → P) : P :=
  match x, e, k1, k2 with
  | some true, e, k, _ => k rfl e
  | some false, e, _, k => k rfl e
  | none, e, _, _ => (noF e).elim
theorem mI {x : Option V} {f : Int → Option β} (e : (match x with | some (.int a) => f a | _ => none) = some b) (k : ∀ a, x = some (.int a) → f a = some b → P) : P := by
  induction x using Option.casesOn with
  | none => exact (noF e).elim
  | some v => induction v using Mine.V.casesOn <;> first | exact (noF e).elim | exact k _ rfl e
theorem mL {x : Option V} {f : List V → Option β} (e : (match x with | some (.list a) => f a | _ => none) = some b) (k : ∀ a, x = some (.list a) → f a = some b → P) : P := by
  induction x using Option.casesOn with
  | none => exact (noF e).elim
  | some v => induction v using Mine.V.casesOn <;> first | exact (noF e).elim | exact k _ rfl e
set_option tactic.hygienic true in
theorem mOL {x : Ent} {f : List V → Option β} (e : (match x with | .own (.list a) => f a | _ => none) = some b) (k : ∀ a, x = .own (.list a) → f a = some b → P) : P := by
  induction x using Mine.Ent.casesOn <;> first | exact (noF e).elim | (rename_i v; induction v using Mine.V.casesOn <;> first | exact (noF e).elim | exact k _ rfl e)
set_option tactic.hygienic true in
theorem mOD {x : Ent} {f : List (Int × V) → Option β} (e : (match x with | .own (.dict a) => f a | _ => none) = some b) (k : ∀ a, x = .own (.dict a) → f a = some b → P) : P := by
  induction x using Mine.Ent.casesOn <;> first | exact (noF e).elim | (rename_i v; induction v using Mine.V.casesOn <;> first | exact (noF e).elim | exact k _ rfl e)
theorem mOV {x : Ent} {f : V → Option β} (e : (match x with | .own a => f a | _ => none) = some b) (k : ∀ a, x = .own a → f a = some b → P) : P := by
  induction x using Mine.Ent.casesOn <;> first | exact (noF e).elim | exact k _ rfl e
theorem mFV {x : Ent} {f : V → Option β} (e : (match x with | .fz a => f a | _ => none) = some b) (k : ∀ a, x = .fz a → f a = some b → P) : P := by
  induction x using Mine.Ent.casesOn <;> first | exact (noF e).elim | exact k _ rfl e
set_option tactic.hygienic true in
theorem mFI {x : Ent} {f : Int → Option β} (e : (match x with | .fz (.int a) => f a | _ => none) = some b) (k : ∀ a, x = .fz (.int a) → f a = some b → P) : P := by
  induction x using Mine.Ent.casesOn <;> first | exact (noF e).elim | (rename_i v; induction v using Mine.V.casesOn <;> first | exact (noF e).elim | exact k _ rfl e)
theorem mS {a : β} (e : some a = some b) (k : a = b → P) : P := k (Option.some.inj e)
theorem mIf {c : Prop} [Decidable c] {f : Option β} (e : (if c then f else none) = some b) (k : c → f = some b → P) : P := by
  by_cases q : c
  · rw [if_pos q] at e; exact k q e
  · rw [if_neg q] at e; exact (noF e).elim
theorem mIn {c : Prop} [Decidable c] {f : Option β} (e : (if c then none else f) = some b) (k : ¬ c → f = some b → P) : P := by
  by_cases q : c
  · rw [if_pos q] at e; exact (noF e).elim
  · rw [if_neg q] at e; exact k q e
theorem mFl {x : Option (Fl × Sig)} {f : Sig → Option (Fl × Sig)} {b : Fl × Sig} (e : (match x with | some (.next, σ) => f σ | some y => some y | none => none) = some b) (k1 : ∀ σ, x = some (.next, σ) → f σ = some b → P) (k2 : ∀ y : Fl × Sig, (∀ σ, y ≠ (.next, σ)) → x = some y → y = b → P) : P := by
  induction x using Option.casesOn with
  | none => exact (noF e).elim
  | some v =>
    obtain ⟨v, w⟩ := v
    induction v using Mine.Fl.casesOn with
    | next => exact k1 _ rfl e
    | brk => exact k2 _ (fun _ q => by injection q with q _; exact Fl.noConfusion q) rfl (Option.some.inj e)
    | ret u => exact k2 _ (fun _ q => by injection q with q _; exact Fl.noConfusion q) rfl (Option.some.inj e)
theorem mOF {x : Ent} {f g : V → Option (Fl × Sig)} {b : Fl × Sig} (e : (match x with | .own v => f v | .fz v => g v | .un => none) = some b) (k1 : ∀ v, x = .own v → f v = some b → P) (k2 : ∀ v, x = .fz v → g v = some b → P) : P := by
  induction x using Mine.Ent.casesOn with
  | un => exact (noF e).elim
  | own v => exact k1 _ rfl e
  | fz v => exact k2 _ rfl e
theorem mNot {x : Option Bool} {c : Bool} (e : (match x with | some a => some (!a) | none => none) = some c) (k : ∀ a, x = some a → (!a) = c → P) : P := by
  induction x using Option.casesOn with
  | none => exact (noF e).elim
  | some a => exact k a rfl (Option.some.inj e)
theorem ifE {c : Prop} [Decidable c] {x y z : α} (e : (if c then x else y) = z) (k1 : c → x = z → P) (k2 : y = z → P) : P := by
  by_cases q : c
  · rw [if_pos q] at e; exact k1 q e
  · rw [if_neg q] at e; exact k2 e
theorem mF3 {x : Option (Fl × Sig)} {f g : Sig → Option (Fl × Sig)} {h : V → Sig → Option (Fl × Sig)} {b : Fl × Sig} (e : (match x with | some (.next, σ) => f σ | some (.brk, σ) => g σ | some (.ret v, σ) => h v σ | none => none) = some b)
    (k1 : ∀ σ, x = some (.next, σ) → f σ = some b → P) (k2 : ∀ σ, x = some (.brk, σ) → g σ = some b → P) (k3 : ∀ v σ, x = some (.ret v, σ) → h v σ = some b → P) : P := by
  induction x using Option.casesOn with
  | none => exact (noF e).elim
  | some v =>
    obtain ⟨v, w⟩ := v
    induction v using Mine.Fl.casesOn with
    | next => exact k1 _ rfl e
    | brk => exact k2 _ rfl e
    | ret u => exact k3 _ _ rfl e
theorem ifN {c : Prop} [Decidable c] {x y z : α} (e : (if c then x else y) = z) (k1 : c → x = z → P) (k2 : ¬ c → y = z → P) : P := by
  by_cases q : c
  · rw [if_pos q] at e; exact k1 q e
  · rw [if_neg q] at e; exact k2 q e
theorem mB' {x : Option Bool} {t f : Option β} (e : (match x with | some false => f | some true => t | none => none) = some b) (k2 : x = some false → f = some b → P) (k1 : x = some true → t = some b → P) : P :=
  match x, e, k1, k2 with
  | some true, e, k, _ => k rfl e
  | some false, e, _, k => k rfl e
  | none, e, _, _ => (noF e).elim
theorem mFn {x : Option FnDef} {f : Nat → Nat → List MS → Option V} {g : (List V → Option V) → Option V} {b : V} (e : (match x with | some (.code p n none b) => f p n b | some (.ext h) => g h | _ => none) = some b)
    (k1 : ∀ p n bd, x = some (.code p n none bd) → f p n bd = some b → P) (k2 : ∀ h, x = some (.ext h) → g h = some b → P) : P := by
  induction x using Option.casesOn with
  | none => exact (noF e).elim
  | some v =>
    induction v using Mine.FnDef.casesOn with
    | ext h => exact k2 h rfl e
    | code p n io bd =>
      induction io using Option.casesOn with
      | none => exact k1 p n bd rfl e
      | some i => exact (noF e).elim
theorem mRet {x : Option (Fl × Sig)} {f : V → Option V} {g : Option V} {b : V} (e : (match x with | some (.ret v, _) => f v | some (.next, _) => g | _ => none) = some b) (k1 : ∀ v σ, x = some (.ret v, σ) → f v = some b → P) (k2 : ∀ σ, x = some (.next, σ) → g = some b → P) : P := by
  induction x using Option.casesOn with
  | none => exact (noF e).elim
  | some v =>
    obtain ⟨v, w⟩ := v
    induction v using Mine.Fl.casesOn with
    | next => exact k2 _ rfl e
    | brk => exact (noF e).elim
    | ret u => exact k1 _ _ rfl e
end
end Mine
section
local macro_rules | `(tactic| cases $h:ident) => `(tactic| first | (exfalso; exact Mine.noF $h) | (replace $h := Option.some.inj $h; subst $h) | cases ($h))
namespace Mine
open PySem
abbrev GMap := Addr → Option Obj
noncomputable def listO (vs : List Value) (n : Nat) : Obj := { cls := .type "list", data := .seq vs.toArray n }
noncomputable def tupO (vs : List Value) (n : Nat) : Obj := { cls := .type "tuple", data := .seq vs.toArray n }
noncomputable def TupAt (G : GMap) (a : Addr) (vs : List Value) : Prop := ∃ o n, G a = some o ∧ o.cls = .type "tuple" ∧ o.data = .seq vs.toArray n
theorem TupAt.of {G : GMap} {a : Addr} {vs : List Value} {n : Nat} (h : G a = some (tupO vs n)) : TupAt G a vs := ⟨_, n, h, rfl, rfl⟩
noncomputable def dictO (es : List DictEntry) (n : Nat) : Obj := { cls := .type "dict", data := .dict es.toArray n }
mutual
noncomputable def Rep (G : GMap) (u : Value) (v : V) : Prop := match v with
  | .non => u = .none
  | .bool b => u = .bool b
  | .int i => ∃ t, u = .int i t
  | .str l => ∃ s t, u = .str s t ∧ s.cps.toList = l ∧ l.length ≤ sizeLine
  | .list l => ∃ a vs n, u = .ref a ∧ G a = some (listO vs n) ∧ Reps G vs l ∧ l.length ≤ sizeLine
  | .tup l => ∃ a vs, u = .ref a ∧ TupAt G a vs ∧ Reps G vs l ∧ l.length ≤ sizeLine
  | .dict l => ∃ a es n, u = .ref a ∧ G a = some (dictO es n) ∧ DReps G es l ∧ l.length ≤ sizeLine ∧ (l.map (·.1)).Nodup
noncomputable def Reps (G : GMap) (vs : List Value) (l : List V) : Prop := match l with
  | [] => vs = []
  | x :: l => ∃ v us, vs = v :: us ∧ Rep G v x ∧ Reps G us l
noncomputable def DReps (G : GMap) (es : List DictEntry) (l : List (Int × V)) : Prop := match l with
  | [] => es = []
  | x :: l => ∃ t v us, es = ⟨hashInt x.1, .int x.1 t, v⟩ :: us ∧ DRep G v x ∧ DReps G us l
noncomputable def DRep (G : GMap) (v : Value) (x : Int × V) : Prop := match x with
  | (_, y) => Rep G v y
end
section
variable {G : GMap}
theorem Rep.non : Rep G .none .non := rfl
theorem Rep.bool (b : Bool) : Rep G (.bool b) (.bool b) := rfl
theorem Rep.int (i : Int) (t : Tok) : Rep G (.int i t) (.int i) := ⟨t, rfl⟩
theorem Rep.str (s : Str) (t : Tok) {l : List Nat} (h : s.cps.toList = l) (hz : l.length ≤ sizeLine) : Rep G (.str s t) (.str l) := ⟨s, t, rfl, h, hz⟩
theorem Rep.list {a : Addr} {vs : List Value} {l : List V} {n : Nat} (h : G a = some (listO vs n)) (r : Reps G vs l) (hz : l.length ≤ sizeLine) : Rep G (.ref a) (.list l) := ⟨a, vs, n, rfl, h, r, hz⟩
theorem Rep.tup {a : Addr} {vs : List Value} {l : List V} (h : TupAt G a vs) (r : Reps G vs l) (hz : l.length ≤ sizeLine) : Rep G (.ref a) (.tup l) := ⟨a, vs, rfl, h, r, hz⟩
theorem Rep.dict {a : Addr} {es : List DictEntry} {l : List (Int × V)} {n : Nat} (h : G a = some (dictO es n)) (r : DReps G es l) (hz : l.length ≤ sizeLine ∧ (l.map (·.1)).Nodup) : Rep G (.ref a) (.dict l) := ⟨a, es, n, rfl, h, r, hz⟩
theorem Reps.nil : Reps G [] [] := rfl
theorem Reps.cons {v : Value} {x : V} {vs : List Value} {l : List V} (h : Rep G v x) (r : Reps G vs l) : Reps G (v :: vs) (x :: l) := ⟨v, vs, rfl, h, r⟩
theorem DReps.nil : DReps G [] [] := rfl
theorem DReps.cons {k : Int} {t : Tok} {v : Value} {x : V} {hh : Int} {es : List DictEntry} {l : List (Int × V)} (hk : hh = hashInt k) (h : Rep G v x) (r : DReps G es l) : DReps G (⟨hh, .int k t, v⟩ :: es) ((k, x) :: l) := ⟨t, v, es, by rw [hk], h, r⟩
end
noncomputable def GMap.le (G G' : GMap) : Prop := ∀ b o, G b = some o → G' b = some o
theorem GMap.le.refl (G : GMap) : G.le G := fun _ _ h => h
theorem GMap.le.trans {G G' G'' : GMap} (x : G.le G') (y : G'.le G'') : G.le G'' := fun b o h => y b o (x b o h)
mutual
theorem Rep.mono' {G G' : GMap} (k : G.le G') (x : V) {v : Value} (r : Rep G v x) : Rep G' v x := match x, r with
  | .non, r => r
  | .bool _, r => r
  | .int _, r => r
  | .str _, r => r
  | .list l, r => by obtain ⟨a, vs, n, e, h, r, z⟩ := r; exact ⟨a, vs, n, e, k _ _ h, Reps.mono' k l r, z⟩
  | .tup l, r => by obtain ⟨a, vs, e, ⟨o, n, x, y⟩, r, z⟩ := r; exact ⟨a, vs, e, ⟨o, n, k _ _ x, y⟩, Reps.mono' k l r, z⟩
  | .dict l, r => by obtain ⟨a, vs, n, e, h, r, z⟩ := r; exact ⟨a, vs, n, e, k _ _ h, DReps.mono' k l r, z⟩
theorem Reps.mono' {G G' : GMap} (k : G.le G') (x : List V) {v : List Value} (r : Reps G v x) : Reps G' v x := match x, r with
  | [], r => r
  | x :: l, r => by obtain ⟨v, us, e, h, r⟩ := r; exact ⟨v, us, e, Rep.mono' k x h, Reps.mono' k l r⟩
theorem DReps.mono' {G G' : GMap} (k : G.le G') (x : List (Int × V)) {v : List DictEntry} (r : DReps G v x) : DReps G' v x := match x, r with
  | [], r => r
  | x :: l, r => by obtain ⟨t, v, us, e, h, r⟩ := r; exact ⟨t, v, us, e, DRep.mono' k x h, DReps.mono' k l r⟩
theorem DRep.mono' {G G' : GMap} (k : G.le G') (x : Int × V) {v : Value} (r : DRep G v x) : DRep G' v x := match x, r with
  | (_, y), r => Rep.mono' k y r
end
section
variable {G G' : GMap}
theorem Rep.mono (k : G.le G') {v : Value} {x : V} (r : Rep G v x) : Rep G' v x := Rep.mono' k x r
theorem Reps.mono (k : G.le G') {v : List Value} {x : List V} (r : Reps G v x) : Reps G' v x := Reps.mono' k x r
theorem DReps.mono (k : G.le G') {v : List DictEntry} {x : List (Int × V)} (r : DReps G v x) : DReps G' v x := DReps.mono' k x r
theorem Rep.int_inv {u : Value} {a : Int} (r : Rep G u (.int a)) : ∃ t, u = .int a t := r
theorem Rep.str_inv {u : Value} {l : List Nat} (r : Rep G u (.str l)) : ∃ s t, u = .str s t ∧ s.cps.toList = l ∧ l.length ≤ sizeLine := r
theorem Rep.list_inv {u : Value} {l : List V} (r : Rep G u (.list l)) : ∃ a vs n, u = .ref a ∧ G a = some (listO vs n) ∧ Reps G vs l ∧ l.length ≤ sizeLine := r
theorem Rep.tup_inv {u : Value} {l : List V} (r : Rep G u (.tup l)) : ∃ a vs, u = .ref a ∧ TupAt G a vs ∧ Reps G vs l ∧ l.length ≤ sizeLine := r
theorem Rep.non_inv {u : Value} (r : Rep G u .non) : u = .none := r
theorem Rep.bool_inv {u : Value} {b : Bool} (r : Rep G u (.bool b)) : u = .bool b := r
theorem Reps.nil_inv {vs : List Value} (r : Reps G vs []) : vs = [] := r
theorem Reps.cons_inv {vs : List Value} {x : V} {l : List V} (r : Reps G vs (x :: l)) : ∃ v us, vs = v :: us ∧ Rep G v x ∧ Reps G us l := r
theorem Reps.one_inv {vs : List Value} {x : V} (r : Reps G vs [x]) : ∃ v, vs = [v] ∧ Rep G v x := by
  obtain ⟨v, us, rfl, h, rfl⟩ := r
  exact ⟨v, rfl, h⟩
theorem Reps.two_inv {vs : List Value} {x y : V} (r : Reps G vs [x, y]) : ∃ v w, vs = [v, w] ∧ Rep G v x ∧ Rep G w y := by
  obtain ⟨v, us, rfl, h, r⟩ := r
  obtain ⟨w, rfl, h2⟩ := r.one_inv
  exact ⟨v, w, rfl, h, h2⟩
theorem Reps.three_inv {vs : List Value} {x y z : V} (r : Reps G vs [x, y, z]) : ∃ v w u, vs = [v, w, u] ∧ Rep G v x ∧ Rep G w y ∧ Rep G u z := by
  obtain ⟨v, us, rfl, h, r⟩ := r
  obtain ⟨w, u, rfl, h2, h3⟩ := r.two_inv
  exact ⟨v, w, u, rfl, h, h2, h3⟩
theorem Reps.length {l : List V} {vs : List Value} (h : Reps G vs l) : vs.length = l.length := by
  induction l generalizing vs with
  | nil => obtain rfl := h; rfl
  | cons x l ih => obtain ⟨v, us, rfl, _, r⟩ := h; exact congrArg (· + 1) (ih r)
theorem Reps.append {l r : List V} {vs us : List Value} (h : Reps G vs l) (y : Reps G us r) : Reps G (vs ++ us) (l ++ r) := by
  induction l generalizing vs with
  | nil => obtain rfl := h; exact y
  | cons x l ih => obtain ⟨v, us, rfl, a, r⟩ := h; exact .cons a (ih r)
theorem Reps.get {l : List V} {vs : List Value} (h : Reps G vs l) {i : Nat} {x : V} (e : l[i]? = some x) : ∃ v, vs[i]? = some v ∧ Rep G v x := by
  induction l generalizing vs i with
  | nil => exact (noF e).elim
  | cons y l ih =>
    obtain ⟨v, us, rfl, a, r⟩ := h
    induction i using Nat.casesAuxOn with
    | zero => exact ⟨v, rfl, Option.some.inj e ▸ a⟩
    | succ i => exact ih r e
theorem Reps.get' {l : List V} {vs : List Value} (h : Reps G vs l) {i : Nat} {v : Value} (e : vs[i]? = some v) : ∃ x, l[i]? = some x ∧ Rep G v x := by
  induction l generalizing vs i with
  | nil => obtain rfl := h; exact (noF e).elim
  | cons y l ih =>
    obtain ⟨v, us, rfl, a, r⟩ := h
    induction i using Nat.casesAuxOn with
    | zero => exact ⟨y, rfl, Option.some.inj e ▸ a⟩
    | succ i => exact ih r e
theorem Reps.set {l : List V} {vs : List Value} (h : Reps G vs l) {i : Nat} {v : Value} {x : V} (e : Rep G v x) : Reps G (vs.set i v) (l.set i x) := by
  induction l generalizing vs i with
  | nil => obtain rfl := h; exact rfl
  | cons y l ih =>
    obtain ⟨v, us, rfl, a, r⟩ := h
    induction i using Nat.casesAuxOn with
    | zero => exact .cons e r
    | succ i => exact .cons a (ih r)
theorem Reps.reverse {l : List V} {vs : List Value} (h : Reps G vs l) : Reps G vs.reverse l.reverse := by
  induction l generalizing vs with
  | nil => obtain rfl := h; exact rfl
  | cons y l ih =>
    obtain ⟨v, us, rfl, a, r⟩ := h
    rw [List.reverse_cons, List.reverse_cons]
    exact (ih r).append (.cons a .nil)
theorem Reps.drop (n : Nat) {l : List V} {vs : List Value} (h : Reps G vs l) : Reps G (vs.drop n) (l.drop n) := by
  induction l generalizing vs n with
  | nil => obtain rfl := h; rw [List.drop_nil, List.drop_nil]; exact rfl
  | cons y l ih =>
    induction n using Nat.casesAuxOn with
    | zero => exact h
    | succ n => obtain ⟨v, us, rfl, a, r⟩ := h; exact ih n r
theorem Reps.take (n : Nat) {l : List V} {vs : List Value} (h : Reps G vs l) : Reps G (vs.take n) (l.take n) := by
  induction l generalizing vs n with
  | nil => obtain rfl := h; rw [List.take_nil, List.take_nil]; exact rfl
  | cons y l ih =>
    induction n using Nat.casesAuxOn with
    | zero => exact rfl
    | succ n => obtain ⟨v, us, rfl, a, r⟩ := h; exact .cons a (ih n r)
theorem Reps.rep {vs : List Value} {l : List V} (h : Reps G vs l) (n : Nat) : Reps G (rep vs n) (rep l n) := by
  induction n with
  | zero => exact rfl
  | succ n ih => exact h.append ih
end
/-! ### the small language and the text -/
noncomputable def bopOf : Operator → Option Bop
  | .Add => some .add | .Sub => some .sub | .Mult => some .mul | .Mod => some .fmod | .Pow => some .pow | .LShift => some .shl | .RShift => some .shr
  | .BitOr => some .bor | .BitXor => some .bxor | .BitAnd => some .band | .FloorDiv => some .fdiv
  | _ => none
noncomputable def uopOf : UnaryOp → Option Uop
  | .Invert => some .inv | .Not => some .not | .USub => some .neg
  | .UAdd => none
noncomputable def copOf : CmpOp → Option Cop
  | .Eq => some .eq | .NotEq => some .ne | .Lt => some .lt | .LtE => some .le | .Gt => some .gt | .GtE => some .ge | .In => some .mem | .NotIn => some .nmem
  | _ => none
noncomputable def isAndOf : BoolOp → Bool
  | .And => true | .Or => false
noncomputable def primOf (x : Str) : Option Prim :=
  if x == ("int" : Str) then some .int1 else if x == ("len" : Str) then some .len else if x == ("max" : Str) then some .max2 else if x == ("min" : Str) then some .min2
  else if x == ("sum" : Str) then some .sum else if x == ("sorted" : Str) then some .sorted else if x == ("hex" : Str) then some .hex else if x == ("divmod" : Str) then some .divmod else none
noncomputable def methOf (x : Str) (n : Nat) : Option Meth :=
  if x == ("join" : Str) then some .join else if x == ("split" : Str) then some .split else if x == ("index" : Str) then some .index
  else if x == ("get" : Str) then (if n = 2 then some .get2 else none) else if x == ("bit_length" : Str) then some .bitlen else none
structure Cx where
  scope : Scope
  vars : List (Str × Nat)
  fid : Str → Option Nat
  gid : Str → Option Nat
  io : Option Nat
noncomputable def Cx.glob (cx : Cx) (x : Str) : Prop := cx.scope.names.lookup x = some .globalImplicit
noncomputable def plainBase : Expr → Bool
  | .Call _ [] _ _ => false
  | _ => true
noncomputable def okE : Expr → Bool
  | .Set .. => false
  | .Starred .. => false
  | _ => true
inductive TT (cx : Cx) : Expr → Tgt → Prop
  | one {x : Str} {pos : Pos} {i : Nat} (h : cx.vars.lookup x = some i) : TT cx (.Name x pos) (.one i)
  | many {xs : List (Str × Pos)} {is : List Nat} {k : Nat} {pos : Pos} (h : xs.map (fun x => cx.vars.lookup x.1) = is.map some) (hd : is.Nodup) :
      TT cx (.Tuple (xs.map fun x => .Name x.1 x.2) k pos) (.many is)
noncomputable def tgtOk : Itk → Expr → Bool
  | .enumerate, .Name .. => false
  | .zip, .Name .. => false
  | _, _ => true
noncomputable def namesOf : Expr → List Str
  | .Name x _ => [x]
  | .Tuple es _ _ => es.filterMap fun e => match e with | .Name x _ => some x | _ => none
  | _ => []
noncomputable def compNames (out inn : Scope) : List (Str × NameKind) :=
  inn.names.map fun p => if p.2 == .free && out.kind == .function && out.names.lookup p.1 == some .cell then (p.1, .cell) else p
noncomputable def isCellish : Option NameKind → Bool
  | some .cell => true
  | some .free => true
  | _ => false
noncomputable def compVarsOk (cx : Cx) (scope : Scope) (tn : List Str) (vars : List (Str × Nat)) : Bool :=
  vars.all (fun p => if tn.contains p.1 then (scope.names.lookup p.1 == some .local || scope.names.lookup p.1 == some .cell)
    else (scope.names.lookup p.1 == some .free && cx.vars.lookup p.1 == some p.2 && isCellish (cx.scope.names.lookup p.1))) &&
  decide (vars.map (·.2)).Nodup && decide (vars.map (·.1)).Nodup &&
  scope.names.all (fun p => if p.2 == .free then isCellish (cx.scope.names.lookup p.1) else p.2 == .local || p.2 == .cell || p.2 == .globalImplicit) &&
  decide (scope.names.map (·.1)).Nodup && (scope.names.lookup (Str.ofString "__classdict__")).isNone
structure CompOk (cx cx' : Cx) (scope : Scope) (t : Expr) : Prop where
  eq : cx' = { scope := { scope with names := compNames cx.scope scope }, vars := cx'.vars, fid := cx.fid, gid := cx.gid, io := none }
  kind : scope.kind = .function
  ok : compVarsOk cx scope (namesOf t) cx'.vars = true
noncomputable def LitT (e : Expr) (v : V) : Prop := match v with
  | .int i => ∃ k pos, e = .Constant (.int i) k pos
  | .bool b => ∃ k pos, e = .Constant (.bool b) k pos
  | .str s => ∃ x k pos, e = .Constant (.str x) k pos ∧ x.cps.toList = s ∧ s.length ≤ 1000
  | _ => False
noncomputable def ItT (cx : Cx) (k : Itk) (e : Expr) (es : List Expr) : Prop := match k with
  | .plain => es = [e]
  | .range1 => ∃ a p1 pos, e = .Call (.Name "range" p1) [a] [] pos ∧ cx.glob "range" ∧ es = [a]
  | .range2 => ∃ a b p1 pos, e = .Call (.Name "range" p1) [a, b] [] pos ∧ cx.glob "range" ∧ es = [a, b]
  | .reversed => ∃ a p1 pos, e = .Call (.Name "reversed" p1) [a] [] pos ∧ cx.glob "reversed" ∧ es = [a]
  | .enumerate => ∃ a p1 pos, e = .Call (.Name "enumerate" p1) [a] [] pos ∧ cx.glob "enumerate" ∧ es = [a]
  | .zip => ∃ a b p1 pos, e = .Call (.Name "zip" p1) [a, b] [] pos ∧ cx.glob "zip" ∧ es = [a, b]
mutual
noncomputable def T (cx : Cx) (e : Expr) (m : ME) : Prop := match m with
  | .stuck => okE e = true
  | .lit v => LitT e v
  | .var i => ∃ x pos, e = .Name x pos ∧ cx.vars.lookup x = some i ∧ (x == ("__debug__" : Str)) = false
  | .glob i => ∃ x pos, e = .Name x pos ∧ cx.glob x ∧ cx.gid x = some i ∧ (x == ("__debug__" : Str)) = false
  | .bin o ma mb => ∃ op a b pos, e = .BinOp a op b pos ∧ bopOf op = some o ∧ T cx a ma ∧ T cx b mb
  | .un o ma => ∃ op a pos, e = .UnaryOp op a pos ∧ uopOf op = some o ∧ T cx a ma
  | .bop k ms => ∃ op es pos, e = .BoolOp op es pos ∧ isAndOf op = k ∧ TL cx es ms
  | .cmp ma o mb => ∃ a b op pos, e = .Compare a [op] [b] pos ∧ copOf op = some o ∧ T cx a ma ∧ T cx b mb
  | .ite mc ma mb => ∃ c a b pos, e = .IfExp c a b pos ∧ T cx c mc ∧ T cx a ma ∧ T cx b mb
  | .list ms => ∃ es pos, e = .List es pos ∧ es.length ≤ 1000 ∧ TL cx es ms
  | .tup ms => ∃ es k pos, e = .Tuple es k pos ∧ es.length ≤ 1000 ∧ TL cx es ms
  | .call f ms => ∃ x p1 es pos, e = .Call (.Name x p1) es [] pos ∧ cx.glob x ∧ cx.fid x = some f ∧ (x == ("__debug__" : Str)) = false ∧ es.length ≤ 20 ∧ TL cx es ms
  | .prim p ms => ∃ x p1 es pos, e = .Call (.Name x p1) es [] pos ∧ cx.glob x ∧ primOf x = some p ∧ TL cx es ms
  | .meth m ma ms => ∃ a x apos es pos, e = .Call (.Attribute a x apos) es [] pos ∧ methOf x es.length = some m ∧ plainBase a = true ∧ es.length ≤ 20 ∧ (apos.endLine == pos.line) = true ∧ T cx a ma ∧ TL cx es ms
  | .sub ma mi => ∃ a i pos, e = .Subscript a i pos ∧ T cx a ma ∧ T cx i mi
  | .slice ma mlo mhi => ∃ a lo hi p2 pos, e = .Subscript a (.Slice lo hi none p2) pos ∧ T cx a ma ∧ TO cx lo mlo ∧ TO cx hi mhi
  | .comp melt mt k ms mcs => ∃ cx' elt it t cs scope pos, e = .ListComp elt [⟨t, it, cs, 0⟩] scope pos ∧ CompOk cx cx' scope t ∧ tgtOk k t = true ∧ (∃ es, ItT cx k it es ∧ TL cx es ms) ∧ TT cx' t mt ∧ TL cx' cs mcs ∧ T cx' elt melt
noncomputable def TL (cx : Cx) (es : List Expr) (ms : List ME) : Prop := match ms with
  | [] => es = []
  | m :: ms => ∃ e l, es = e :: l ∧ T cx e m ∧ TL cx l ms
noncomputable def TO (cx : Cx) (e : Option Expr) (m : Option ME) : Prop := match m with
  | none => e = none
  | some m => ∃ e', e = some e' ∧ T cx e' m
end
noncomputable def TI (cx : Cx) (e : Expr) (k : Itk) (ms : List ME) : Prop := ∃ es, ItT cx k e es ∧ TL cx es ms
theorem T.stuck {cx : Cx} {e : Expr} (h : okE e = true) : T cx e .stuck := h
theorem T.cint {cx : Cx} {i : Int} {k : Nat} {pos : Pos} : T cx (.Constant (.int i) k pos) (.lit (.int i)) := ⟨_, _, rfl⟩
theorem T.cbool {cx : Cx} {b : Bool} {k : Nat} {pos : Pos} : T cx (.Constant (.bool b) k pos) (.lit (.bool b)) := ⟨_, _, rfl⟩
theorem T.cstr {cx : Cx} {x : Str} {k : Nat} {pos : Pos} {s : List Nat} (h : x.cps.toList = s) (hz : s.length ≤ 1000) : T cx (.Constant (.str x) k pos) (.lit (.str s)) := ⟨_, _, _, rfl, h, hz⟩
theorem T.var {cx : Cx} {x : Str} {pos : Pos} {i : Nat} (h : cx.vars.lookup x = some i) (hd : (x == ("__debug__" : Str)) = false) : T cx (.Name x pos) (.var i) := ⟨_, _, rfl, h, hd⟩
theorem T.glob {cx : Cx} {x : Str} {pos : Pos} {i : Nat} (h : cx.glob x) (hg : cx.gid x = some i) (hd : (x == ("__debug__" : Str)) = false) : T cx (.Name x pos) (.glob i) := ⟨_, _, rfl, h, hg, hd⟩
theorem T.bin {cx : Cx} {op : Operator} {o : Bop} {a b : Expr} {ma mb : ME} {pos : Pos} (h : bopOf op = some o) (ha : T cx a ma) (hb : T cx b mb) : T cx (.BinOp a op b pos) (.bin o ma mb) := ⟨_, _, _, _, rfl, h, ha, hb⟩
theorem T.un {cx : Cx} {op : UnaryOp} {o : Uop} {a : Expr} {ma : ME} {pos : Pos} (h : uopOf op = some o) (ha : T cx a ma) : T cx (.UnaryOp op a pos) (.un o ma) := ⟨_, _, _, rfl, h, ha⟩
theorem T.bop {cx : Cx} {op : BoolOp} {es : List Expr} {ms : List ME} {pos : Pos} (h : TL cx es ms) : T cx (.BoolOp op es pos) (.bop (isAndOf op) ms) := ⟨_, _, _, rfl, rfl, h⟩
theorem T.cmp {cx : Cx} {a b : Expr} {ma mb : ME} {op : CmpOp} {o : Cop} {pos : Pos} (h : copOf op = some o) (ha : T cx a ma) (hb : T cx b mb) : T cx (.Compare a [op] [b] pos) (.cmp ma o mb) := ⟨_, _, _, _, rfl, h, ha, hb⟩
theorem T.ite {cx : Cx} {c a b : Expr} {mc ma mb : ME} {pos : Pos} (hc : T cx c mc) (ha : T cx a ma) (hb : T cx b mb) : T cx (.IfExp c a b pos) (.ite mc ma mb) := ⟨_, _, _, _, rfl, hc, ha, hb⟩
theorem T.list {cx : Cx} {es : List Expr} {ms : List ME} {pos : Pos} (hz : es.length ≤ 1000) (h : TL cx es ms) : T cx (.List es pos) (.list ms) := ⟨_, _, rfl, hz, h⟩
theorem T.tup {cx : Cx} {es : List Expr} {k : Nat} {ms : List ME} {pos : Pos} (hz : es.length ≤ 1000) (h : TL cx es ms) : T cx (.Tuple es k pos) (.tup ms) := ⟨_, _, _, rfl, hz, h⟩
theorem T.call {cx : Cx} {x : Str} {f : Nat} {p1 pos : Pos} {es : List Expr} {ms : List ME} (hg : cx.glob x) (hf : cx.fid x = some f) (hd : (x == ("__debug__" : Str)) = false) (hl : es.length ≤ 20) (h : TL cx es ms) : T cx (.Call (.Name x p1) es [] pos) (.call f ms) := ⟨_, _, _, _, rfl, hg, hf, hd, hl, h⟩
theorem T.prim {cx : Cx} {x : Str} {p : Prim} {p1 pos : Pos} {es : List Expr} {ms : List ME} (hg : cx.glob x) (hf : primOf x = some p) (h : TL cx es ms) : T cx (.Call (.Name x p1) es [] pos) (.prim p ms) := ⟨_, _, _, _, rfl, hg, hf, h⟩
theorem T.meth {cx : Cx} {a : Expr} {ma : ME} {x : Str} {m : Meth} {apos pos : Pos} {es : List Expr} {ms : List ME} (hm : methOf x es.length = some m) (hb : plainBase a = true) (hl : es.length ≤ 20) (hp : (apos.endLine == pos.line) = true) (ha : T cx a ma) (h : TL cx es ms) : T cx (.Call (.Attribute a x apos) es [] pos) (.meth m ma ms) := ⟨_, _, _, _, _, rfl, hm, hb, hl, hp, ha, h⟩
theorem T.sub {cx : Cx} {a i : Expr} {ma mi : ME} {pos : Pos} (ha : T cx a ma) (hi : T cx i mi) : T cx (.Subscript a i pos) (.sub ma mi) := ⟨_, _, _, rfl, ha, hi⟩
theorem T.slice {cx : Cx} {a : Expr} {lo hi : Option Expr} {ma : ME} {mlo mhi : Option ME} {p2 pos : Pos} (ha : T cx a ma) (hl : TO cx lo mlo) (hh : TO cx hi mhi) : T cx (.Subscript a (.Slice lo hi none p2) pos) (.slice ma mlo mhi) := ⟨_, _, _, _, _, rfl, ha, hl, hh⟩
theorem T.comp {cx cx' : Cx} {elt it t : Expr} {mt : Tgt} {k : Itk} {ms mcs : List ME} {cs : List Expr} {melt : ME} {scope : Scope} {pos : Pos} (hs : CompOk cx cx' scope t) (hk : tgtOk k t = true) (h : TI cx it k ms) (ht : TT cx' t mt) (hc : TL cx' cs mcs) (he : T cx' elt melt) : T cx (.ListComp elt [⟨t, it, cs, 0⟩] scope pos) (.comp melt mt k ms mcs) := ⟨_, _, _, _, _, _, _, rfl, hs, hk, h, ht, hc, he⟩
theorem TL.nil {cx : Cx} : TL cx [] [] := rfl
theorem TL.cons {cx : Cx} {e : Expr} {m : ME} {es : List Expr} {ms : List ME} (h : T cx e m) (r : TL cx es ms) : TL cx (e :: es) (m :: ms) := ⟨_, _, rfl, h, r⟩
theorem TO.none {cx : Cx} : TO cx none none := rfl
theorem TO.some {cx : Cx} {e : Expr} {m : ME} (h : T cx e m) : TO cx (some e) (some m) := ⟨_, rfl, h⟩
theorem TI.plain {cx : Cx} {e : Expr} {m : ME} (h : T cx e m) : TI cx e .plain [m] := ⟨_, rfl, _, _, rfl, h, rfl⟩
theorem TI.range1 {cx : Cx} {a : Expr} {ma : ME} {p1 pos : Pos} (hg : cx.glob "range") (ha : T cx a ma) : TI cx (.Call (.Name "range" p1) [a] [] pos) .range1 [ma] := ⟨_, ⟨_, _, _, rfl, hg, rfl⟩, _, _, rfl, ha, rfl⟩
theorem TI.range2 {cx : Cx} {a b : Expr} {ma mb : ME} {p1 pos : Pos} (hg : cx.glob "range") (ha : T cx a ma) (hb : T cx b mb) : TI cx (.Call (.Name "range" p1) [a, b] [] pos) .range2 [ma, mb] := ⟨_, ⟨_, _, _, _, rfl, hg, rfl⟩, _, _, rfl, ha, _, _, rfl, hb, rfl⟩
theorem TI.reversed {cx : Cx} {a : Expr} {ma : ME} {p1 pos : Pos} (hg : cx.glob "reversed") (ha : T cx a ma) : TI cx (.Call (.Name "reversed" p1) [a] [] pos) .reversed [ma] := ⟨_, ⟨_, _, _, rfl, hg, rfl⟩, _, _, rfl, ha, rfl⟩
theorem TI.enumerate {cx : Cx} {a : Expr} {ma : ME} {p1 pos : Pos} (hg : cx.glob "enumerate") (ha : T cx a ma) : TI cx (.Call (.Name "enumerate" p1) [a] [] pos) .enumerate [ma] := ⟨_, ⟨_, _, _, rfl, hg, rfl⟩, _, _, rfl, ha, rfl⟩
theorem TI.zip {cx : Cx} {a b : Expr} {ma mb : ME} {p1 pos : Pos} (hg : cx.glob "zip") (ha : T cx a ma) (hb : T cx b mb) : TI cx (.Call (.Name "zip" p1) [a, b] [] pos) .zip [ma, mb] := ⟨_, ⟨_, _, _, _, rfl, hg, rfl⟩, _, _, rfl, ha, _, _, rfl, hb, rfl⟩
theorem T.cases {cx : Cx} {P : Expr → ME → Prop} (stuck : ∀ {e : Expr} (h : okE e = true), P e .stuck)
    (cint : ∀ {i : Int} {k : Nat} {pos : Pos}, P (.Constant (.int i) k pos) (.lit (.int i)))
    (cbool : ∀ {b : Bool} {k : Nat} {pos : Pos}, P (.Constant (.bool b) k pos) (.lit (.bool b)))
    (cstr : ∀ {x : Str} {k : Nat} {pos : Pos} {s : List Nat} (h : x.cps.toList = s) (hz : s.length ≤ 1000), P (.Constant (.str x) k pos) (.lit (.str s)))
    (var : ∀ {x : Str} {pos : Pos} {i : Nat} (h : cx.vars.lookup x = some i) (hd : (x == ("__debug__" : Str)) = false), P (.Name x pos) (.var i))
    (glob : ∀ {x : Str} {pos : Pos} {i : Nat} (h : cx.glob x) (hg : cx.gid x = some i) (hd : (x == ("__debug__" : Str)) = false), P (.Name x pos) (.glob i))
    (bin : ∀ {op : Operator} {o : Bop} {a b : Expr} {ma mb : ME} {pos : Pos} (h : bopOf op = some o) (ha : T cx a ma) (hb : T cx b mb), P (.BinOp a op b pos) (.bin o ma mb))
    (un : ∀ {op : UnaryOp} {o : Uop} {a : Expr} {ma : ME} {pos : Pos} (h : uopOf op = some o) (ha : T cx a ma), P (.UnaryOp op a pos) (.un o ma))
    (bop : ∀ {op : BoolOp} {es : List Expr} {ms : List ME} {pos : Pos} (h : TL cx es ms), P (.BoolOp op es pos) (.bop (isAndOf op) ms))
    (cmp : ∀ {a b : Expr} {ma mb : ME} {op : CmpOp} {o : Cop} {pos : Pos} (h : copOf op = some o) (ha : T cx a ma) (hb : T cx b mb), P (.Compare a [op] [b] pos) (.cmp ma o mb))
    (ite : ∀ {c a b : Expr} {mc ma mb : ME} {pos : Pos} (hc : T cx c mc) (ha : T cx a ma) (hb : T cx b mb), P (.IfExp c a b pos) (.ite mc ma mb))
    (list : ∀ {es : List Expr} {ms : List ME} {pos : Pos} (hz : es.length ≤ 1000) (h : TL cx es ms), P (.List es pos) (.list ms))
    (tup : ∀ {es : List Expr} {k : Nat} {ms : List ME} {pos : Pos} (hz : es.length ≤ 1000) (h : TL cx es ms), P (.Tuple es k pos) (.tup ms))
    (call : ∀ {x : Str} {f : Nat} {p1 pos : Pos} {es : List Expr} {ms : List ME} (hg : cx.glob x) (hf : cx.fid x = some f) (hd : (x == ("__debug__" : Str)) = false) (hl : es.length ≤ 20) (h : TL cx es ms), P (.Call (.Name x p1) es [] pos) (.call f ms))
    (prim : ∀ {x : Str} {p : Prim} {p1 pos : Pos} {es : List Expr} {ms : List ME} (hg : cx.glob x) (hf : primOf x = some p) (h : TL cx es ms), P (.Call (.Name x p1) es [] pos) (.prim p ms))
    (meth : ∀ {a : Expr} {ma : ME} {x : Str} {m : Meth} {apos pos : Pos} {es : List Expr} {ms : List ME} (hm : methOf x es.length = some m) (hb : plainBase a = true) (hl : es.length ≤ 20) (hp : (apos.endLine == pos.line) = true) (ha : T cx a ma) (h : TL cx es ms), P (.Call (.Attribute a x apos) es [] pos) (.meth m ma ms))
    (sub : ∀ {a i : Expr} {ma mi : ME} {pos : Pos} (ha : T cx a ma) (hi : T cx i mi), P (.Subscript a i pos) (.sub ma mi))
    (slice : ∀ {a : Expr} {lo hi : Option Expr} {ma : ME} {mlo mhi : Option ME} {p2 pos : Pos} (ha : T cx a ma) (hl : TO cx lo mlo) (hh : TO cx hi mhi), P (.Subscript a (.Slice lo hi none p2) pos) (.slice ma mlo mhi))
    (comp : ∀ {cx' : Cx} {elt it t : Expr} {mt : Tgt} {k : Itk} {ms mcs : List ME} {cs : List Expr} {melt : ME} {scope : Scope} {pos : Pos} (hs : CompOk cx cx' scope t) (hk : tgtOk k t = true) (h : TI cx it k ms) (ht : TT cx' t mt) (hc : TL cx' cs mcs) (he : T cx' elt melt), P (.ListComp elt [⟨t, it, cs, 0⟩] scope pos) (.comp melt mt k ms mcs))
    {e : Expr} {m : ME} (t : T cx e m) : P e m := by
  induction m using Mine.ME.casesOn with
  | stuck => exact stuck t
  | lit v =>
    induction v using Mine.V.casesOn with
    | int i => obtain ⟨_, _, rfl⟩ := t; exact cint
    | bool b => obtain ⟨_, _, rfl⟩ := t; exact cbool
    | str l => obtain ⟨_, _, _, rfl, h, hz⟩ := t; exact cstr h hz
    | _ => exact t.elim
  | var i => obtain ⟨_, _, rfl, h, hd⟩ := t; exact var h hd
  | glob i => obtain ⟨_, _, rfl, h, hg, hd⟩ := t; exact glob h hg hd
  | bin o ma mb => obtain ⟨_, _, _, _, rfl, h, ha, hb⟩ := t; exact bin h ha hb
  | un o ma => obtain ⟨_, _, _, rfl, h, ha⟩ := t; exact un h ha
  | bop k ms => obtain ⟨_, _, _, rfl, rfl, h⟩ := t; exact bop h
  | cmp ma o mb => obtain ⟨_, _, _, _, rfl, h, ha, hb⟩ := t; exact cmp h ha hb
  | ite mc ma mb => obtain ⟨_, _, _, _, rfl, hc, ha, hb⟩ := t; exact ite hc ha hb
  | list ms => obtain ⟨_, _, rfl, hz, h⟩ := t; exact list hz h
  | tup ms => obtain ⟨_, _, _, rfl, hz, h⟩ := t; exact tup hz h
  | call f ms => obtain ⟨_, _, _, _, rfl, hg, hf, hd, hl, h⟩ := t; exact call hg hf hd hl h
  | prim p ms => obtain ⟨_, _, _, _, rfl, hg, hf, h⟩ := t; exact prim hg hf h
  | meth m ma ms => obtain ⟨_, _, _, _, _, rfl, hm, hb, hl, hp, ha, h⟩ := t; exact meth hm hb hl hp ha h
  | sub ma mi => obtain ⟨_, _, _, rfl, ha, hi⟩ := t; exact sub ha hi
  | slice ma mlo mhi => obtain ⟨_, _, _, _, _, rfl, ha, hl, hh⟩ := t; exact slice ha hl hh
  | comp melt mt k ms mcs => obtain ⟨_, _, _, _, _, _, _, rfl, hs, hk, h, ht, hc, he⟩ := t; exact comp hs hk h ht hc he
end Mine
namespace Mine
open PySem
noncomputable def isComp : Expr → Bool
  | .ListComp .. => true
  | _ => false
noncomputable def isTup : Expr → Bool
  | .Tuple .. => true
  | _ => false
noncomputable def isList : Expr → Bool
  | .List .. => true
  | _ => false
noncomputable def augOk : Bop → Bool
  | .add => true | .sub => true | .mul => true | .shl => true | .shr => true | .bxor => true
  | _ => false
inductive FreshT (cx : Cx) : Expr → ME → Prop
  | val {e : Expr} {m : ME} (h : T cx e m) (hf : isComp e = false) (hk : isTup e = false) : FreshT cx e m
  | dict {pos : Pos} : FreshT cx (.Dict [] [] pos) (.lit (.dict []))
noncomputable def makesList : Expr → Bool
  | .List .. => true
  | .BinOp (.List ..) .Mult _ _ => true
  | .Dict [] [] _ => true
  | _ => false
noncomputable def ParT (cx : Cx) (ts es : List Expr) (is : List (Nat × Bool)) (ms : List ME) : Prop := match is with
  | [] => ts = [] ∧ es = [] ∧ ms = []
  | b :: is => ∃ x p e m ts' es' ms', ts = .Name x p :: ts' ∧ es = e :: es' ∧ ms = m :: ms' ∧ cx.vars.lookup x = some b.1 ∧ T cx e m ∧ (b.2 = true → makesList e = true ∧ cx.io ≠ some b.1) ∧ ParT cx ts' es' is ms'
theorem ParT.nil {cx : Cx} : ParT cx [] [] [] [] := ⟨rfl, rfl, rfl⟩
theorem ParT.cons {cx : Cx} {x : Str} {p : Pos} {e : Expr} {i : Nat} {own : Bool} {m : ME} {ts es : List Expr} {is : List (Nat × Bool)} {ms : List ME} (hx : cx.vars.lookup x = some i) (he : T cx e m) (ho : own = true → makesList e = true ∧ cx.io ≠ some i) (r : ParT cx ts es is ms) : ParT cx (.Name x p :: ts) (e :: es) ((i, own) :: is) (m :: ms) := ⟨_, _, _, _, _, _, _, rfl, rfl, rfl, hx, he, ho, r⟩
mutual
inductive T1 : Cx → Stmt → MS → Prop
  | stuck {cx : Cx} {s : Stmt} : T1 cx s .stuck
  | assign {cx : Cx} {t e : Expr} {mt : Tgt} {me : ME} {pos : Pos} (ht : TT cx t mt) (he : T cx e me) (hp : (isTup t && isTup e) = false) (hq : (isTup t && isComp e) = false) : T1 cx (.Assign [t] e pos) (.assign mt me)
  | fresh {cx : Cx} {x : Str} {p1 pos : Pos} {i : Nat} {e : Expr} {me : ME} (hx : cx.vars.lookup x = some i) (he : FreshT cx e me) (hm : makesList e = true) (hio : cx.io ≠ some i) : T1 cx (.Assign [.Name x p1] e pos) (.fresh i me)
  | par {cx : Cx} {ts es : List Expr} {k1 k2 : Nat} {p1 p2 pos : Pos} {is : List (Nat × Bool)} {ms : List ME} (h : ParT cx ts es is ms) (hn : (is.map (·.1)).Nodup) (hz : es.length ≤ 1000) (hsw : (es.all (foldedForSure 8) || !es.all (constantsAlone 8)) = true) :
      T1 cx (.Assign [.Tuple ts k1 p1] (.Tuple es k2 p2) pos) (.par is ms)
  | aug {cx : Cx} {x : Str} {p1 pos : Pos} {i : Nat} {op : Operator} {o : Bop} {e : Expr} {me : ME} (hx : cx.vars.lookup x = some i) (ho : bopOf op = some o) (ha : augOk o = true) (he : T cx e me) : T1 cx (.AugAssign (.Name x p1) op e pos) (.aug i o me)
  | append {cx : Cx} {x : Str} {p1 p2 p3 pos : Pos} {i : Nat} {e : Expr} {me : ME} (hx : cx.vars.lookup x = some i) (hd : (x == ("__debug__" : Str)) = false) (he : T cx e me) (hp : (p2.endLine == p3.line) = true) :
      T1 cx (.Expr (.Call (.Attribute (.Name x p1) "append" p2) [e] [] p3) pos) (.append i me)
  | reverse {cx : Cx} {x : Str} {p1 p2 p3 pos : Pos} {i : Nat} (hx : cx.vars.lookup x = some i) (hd : (x == ("__debug__" : Str)) = false) (hp : (p2.endLine == p3.line) = true) :
      T1 cx (.Expr (.Call (.Attribute (.Name x p1) "reverse" p2) [] [] p3) pos) (.reverse i)
  | setItem {cx : Cx} {x : Str} {p1 p2 pos : Pos} {i : Nat} {k e : Expr} {mk me : ME} (hx : cx.vars.lookup x = some i) (hd : (x == ("__debug__" : Str)) = false) (hk : T cx k mk) (he : T cx e me) (hc : isComp e = false) (hu : isTup e = false) :
      T1 cx (.Assign [.Subscript (.Name x p1) k p2] e pos) (.setItem i mk me)
  | ret {cx : Cx} {e : Expr} {me : ME} {pos : Pos} (he : T cx e me) : T1 cx (.Return (some e) pos) (.ret me)
  | ifs {cx : Cx} {c : Expr} {mc : ME} {a b : List Stmt} {ma mb : List MS} {pos : Pos} (hc : T cx c mc) (ha : TS cx a ma) (hb : TS cx b mb) : T1 cx (.If c a b pos) (.ifs mc ma mb)
  | while' {cx : Cx} {c : Expr} {mc : ME} {b : List Stmt} {mb : List MS} {pos : Pos} (hc : T cx c mc) (hb : TS cx b mb) : T1 cx (.While c b [] pos) (.while' mc mb)
  | for' {cx : Cx} {t it : Expr} {mt : Tgt} {k : Itk} {ms : List ME} {b o : List Stmt} {mb mo : List MS} {pos : Pos} (ht : TT cx t mt) (hk : tgtOk k t = true) (hi : TI cx it k ms) (hb : TS cx b mb) (ho : TS cx o mo) : T1 cx (.For t it b o pos) (.for' mt k ms mb mo)
  | brk {cx : Cx} {pos : Pos} : T1 cx (.Break pos) .brk
inductive TS : Cx → List Stmt → List MS → Prop
  | nil {cx : Cx} : TS cx [] []
  | ghost {cx : Cx} {ss : List Stmt} {ms : List MS} {x : Str} {i : Nat} (hx : cx.vars.lookup x = some i) (hio : cx.io ≠ some i) (r : TS cx ss ms) : TS cx ss (.freeze i :: ms)
  | cons {cx : Cx} {s : Stmt} {m : MS} {ss : List Stmt} {ms : List MS} (h : T1 cx s m) (r : TS cx ss ms) : TS cx (s :: ss) (m :: ms)
end
/-! ### what stands around a run -/
structure Base where
  prog : Program
  w : World
  g : Genv
  fid : Str → Option Nat
  gid : Str → Option Nat
  G0 : GMap
  tab : Addr → Prop
  tok : GMap → Heap → Prop
  os : OsState
  gens : Array GenState
  mg : Str → Option Value
  mb : Str → Option Value
  fa : Nat → Addr
structure Hp (B : Base) (G : GMap) (s : Shared) : Prop where
  base : B.G0.le G
  keep : ∀ b o, G b = some o → s.heap.get? b = some o
  tabG : ∀ b, B.tab b → G b = none
  tok : B.tok G s.heap
  os : s.os = B.os
  gens : s.gens = B.gens
structure Ext (B : Base) (G : GMap) (s : Shared) (G' : GMap) (s' : Shared) : Prop where
  le : G.le G'
  hp : Hp B G' s'
  grow : ∀ b o, s.heap.get? b = some o → ¬ B.tab b → s'.heap.get? b = some o
  new : ∀ b o, s.heap.get? b = some o → G' b = G b
theorem Ext.refl {B : Base} {G : GMap} {s : Shared} (h : Hp B G s) : Ext B G s G s := ⟨.refl G, h, fun _ _ e _ => e, fun _ _ _ => rfl⟩
theorem Ext.trans {B : Base} {G G' G'' : GMap} {s s' s'' : Shared} (x : Ext B G s G' s') (y : Ext B G' s' G'' s'') : Ext B G s G'' s'' := by
  refine ⟨x.le.trans y.le, y.hp, fun b o e n => y.grow b o (x.grow b o e n) n, fun b o e => ?_⟩
  by_cases n : B.tab b
  · rw [y.hp.tabG b n]
    have := x.hp.tabG b n
    have h2 := x.new b o e
    rw [this] at h2
    exact h2
  · exact (y.new b o (x.grow b o e n)).trans (x.new b o e)
structure Fm (cx : Cx) (env : Env) : Prop where
  ne1 : ∀ y c, isCellish (cx.scope.names.lookup y) = true → env.cells.lookup y = some c → c ≠ env.locals
  ne2 : ∀ x y c, isCellish (cx.scope.names.lookup x) = true → isCellish (cx.scope.names.lookup y) = true → env.cells.lookup x = some c → env.cells.lookup y = some c → x = y
structure EnvB (cx : Cx) (env : Env) : Prop where
  scope : env.scope = cx.scope
  kind : cx.scope.kind = .function
  globals : env.globals = mainGlobals
  builtins : env.builtins = builtinsNs
  cells : ∀ n, isCellish (cx.scope.names.lookup n) = true → ∃ a, env.cells.lookup n = some a
  noCd : isCellish (cx.scope.names.lookup (Str.ofString "__classdict__")) = false
  fm : Fm cx env
noncomputable def cellO (v : Option Value) : Obj := { cls := .type "cell", data := .cell v }
noncomputable def NsAt (h : Heap) (a : Addr) (m : Str → Option Value) : Prop := h.Ns a m
noncomputable def Std (o : Obj) : Prop := o.cls ≠ .none ∨ ∃ es n, o.data = .dict es n
noncomputable def Reads1 (cx : Cx) (env : Env) (h : Heap) (x : Str) (v : Value) : Prop :=
  (cx.scope.names.lookup x = some .local ∧ ∃ m, NsAt h env.locals m ∧ m x = some v) ∨
  (isCellish (cx.scope.names.lookup x) = true ∧ ∃ c, env.cells.lookup x = some c ∧ h.get? c = some (cellO (some v)))
noncomputable def OwnAt (G : GMap) (h : Heap) (a : Addr) : V → Prop
  | .list l => ∃ vs n, h.get? a = some (listO vs n) ∧ Reps G vs l ∧ l.length ≤ sizeLine
  | .dict l => ∃ es n, h.get? a = some (dictO es n) ∧ DReps G es l ∧ l.length ≤ sizeLine ∧ (l.map (·.1)).Nodup
  | _ => False
noncomputable def EntAt (cx : Cx) (env : Env) (G : GMap) (h : Heap) (x : Str) : Ent → Prop
  | .un => True
  | .fz v => ∃ u, Reads1 cx env h x u ∧ Rep G u v
  | .own v => ∃ a, Reads1 cx env h x (.ref a) ∧ OwnAt G h a v
structure Rd (cx : Cx) (env : Env) (σ : Sig) (G : GMap) (h : Heap) : Prop where
  ent : ∀ x i, cx.vars.lookup x = some i → EntAt cx env G h x (σ.at i)
  up : ∀ y c, isCellish (cx.scope.names.lookup y) = true → env.cells.lookup y = some c → ∃ v, h.get? c = some (cellO v)
noncomputable def cxOk (B : Base) (cx : Cx) : Prop := cx.fid = B.fid ∧ cx.gid = B.gid
structure Room (A : Around) (n : Nat) : Prop where
  depth : A.depth + n + 50 < recursionLimit
  units : A.units + 8 * n + 200 < cLine
  handled : A.handled = none
abbrev Wp (B : Base) (A : Around) {α : Type} (t : Sem α) (Q : α → Shared → Prop) (s : Shared) : Prop := wpAny (model B.prog B.w) A t Q (fun _ _ => False) s
noncomputable def ESpec (B : Base) (n : Nat) (ev : Sig → ME → Option V) : Prop :=
  ∀ cx e me, T cx e me → cxOk B cx → ∀ σ v, ev σ me = some v → ∀ (A : Around) (env : Env) (G : GMap) (s : Shared), Room A n → EnvB cx env → Hp B G s → Rd cx env σ G s.heap →
    ∀ Q : Value → Shared → Prop, (∀ G' s' u, Ext B G s G' s' → Rep G' u v → Q u s') → Wp B A (eval e env) Q s
noncomputable def GMap.add (G : GMap) (a : Addr) (o : Obj) : GMap := fun b => if b = a then some o else G b
theorem GMap.add_at (G : GMap) (a : Addr) (o : Obj) : G.add a o a = some o := if_pos rfl
theorem GMap.add_ne (G : GMap) {a b : Addr} (o : Obj) (h : b ≠ a) : G.add a o b = G b := if_neg h
theorem GMap.le_add {G : GMap} {a : Addr} {o : Obj} (h : G a = none ∨ G a = some o) : G.le (G.add a o) := fun b x e => by
  by_cases hb : b = a
  · subst hb
    rcases h with h | h
    · rw [h] at e; cases e
    · rw [h] at e; cases e; exact G.add_at _ _
  · rw [G.add_ne _ hb]; exact e
structure BaseOK (B : Base) : Prop where
  tabF : ∀ {G h b}, B.tok G h → B.tab b → ∃ o, h.get? b = some o ∧ o.cls = .none ∧ ∃ ps, o.data = .fields ps
  tokM : ∀ {G G' h h'}, B.tok G h → G.le G' → (∀ b, B.tab b → h'.get? b = h.get? b) → B.tok G' h'
  nsg : ∀ h : Heap, (∀ b o, B.G0 b = some o → h.get? b = some o) → h.Ns mainGlobals B.mg
  nsb : ∀ h : Heap, (∀ b o, B.G0 b = some o → h.get? b = some o) → h.Ns builtinsNs B.mb
  nolim : ∀ h : Heap, (∀ b o, B.G0 b = some o → h.get? b = some o) → h.NoLimit
  gl : ∀ x i v, B.gid x = some i → B.g.gl i = some v → ∃ u, B.mg x = some u ∧ Rep B.G0 u v
  fns : ∀ x f, B.fid x = some f → B.mg x = some (.ref (B.fa f)) ∧ ∃ o fd, B.G0 (B.fa f) = some o ∧ o.data = .func fd
  sysm : ∃ o e es n, B.G0 sysModules = some o ∧ o.data = .dict es n ∧ es.toList.head? = some e ∧ ∃ x t, e.key = .str x t
  prim : ∀ x p, primOf x = some p → B.mg x = none
  pint : B.mb "int" = some (.type "int")
  plen : B.mb "len" = some (.builtin "len")
  pmax : B.mb "max" = some (.builtin "max")
  pmin : B.mb "min" = some (.builtin "min")
  psum : B.mb "sum" = some (.builtin "sum")
  psorted : B.mb "sorted" = some (.builtin "sorted")
  phex : B.mb "hex" = some (.builtin "hex")
  pdivmod : B.mb "divmod" = some (.builtin "divmod")
  prange : B.mg "range" = none ∧ B.mb "range" = some (.type "range")
  plist : B.mg "list" = none ∧ B.mb "list" = some (.type "list")
  preversed : B.mg "reversed" = none ∧ B.mb "reversed" = some (.type "reversed")
  penumerate : B.mg "enumerate" = none ∧ B.mb "enumerate" = some (.type "enumerate")
  pzip : B.mg "zip" = none ∧ B.mb "zip" = some (.type "zip")
section
variable {B : Base} {G G' : GMap} {s s' : Shared}
theorem Hp.nottab (ok : BaseOK B) (H : Hp B G s) {b : Addr} {o : Obj} (e : s.heap.get? b = some o) (hc : o.cls ≠ .none) : ¬ B.tab b := fun t => by
  obtain ⟨o', e', c, _⟩ := ok.tabF H.tok t
  rw [e] at e'; cases e'; exact hc c
theorem Hp.nottabS (ok : BaseOK B) (H : Hp B G s) {b : Addr} {o : Obj} (e : s.heap.get? b = some o) (hc : Std o) : ¬ B.tab b := fun t => by
  obtain ⟨o', e', c, ps, d⟩ := ok.tabF H.tok t
  rw [e] at e'; cases e'
  rcases hc with hc | ⟨es, n, hc⟩
  · exact hc c
  · rw [d] at hc; cases hc
theorem Ext.keep (ok : BaseOK B) (H : Hp B G s) (x : Ext B G s G' s') {b : Addr} {o : Obj} (e : s.heap.get? b = some o) (hc : o.cls ≠ .none) : s'.heap.get? b = some o := x.grow b o e (H.nottab ok e hc)
theorem Hp.grown (ok : BaseOK B) (H : Hp B G s) {h' : Heap} {tk : Nat} (k : ∀ b o, s.heap.get? b = some o → h'.get? b = some o) : Hp B G { s with heap := h', toks := tk } :=
  ⟨H.base, fun b o e => k b o (H.keep b o e), H.tabG, ok.tokM H.tok (.refl G) (fun b t => by
    obtain ⟨o, e, _⟩ := ok.tabF H.tok t
    rw [e]; exact k b o e), H.os, H.gens⟩
theorem Ext.grown (ok : BaseOK B) (H : Hp B G s) {h' : Heap} {tk : Nat} (k : ∀ b o, s.heap.get? b = some o → h'.get? b = some o) : Ext B G s G { s with heap := h', toks := tk } :=
  ⟨.refl G, H.grown ok k, fun b o e _ => k b o e, fun _ _ _ => rfl⟩
theorem Ext.toks (ok : BaseOK B) (H : Hp B G s) {tk : Nat} : Ext B G s G { s with toks := tk } := Ext.grown ok H (h' := s.heap) fun _ _ e => e
theorem Ext.add (ok : BaseOK B) (_H : Hp B G s) (x : Ext B G s G' s') {a : Addr} {o : Obj} (e : s'.heap.get? a = some o) (hc : o.cls ≠ .none) (hn : s.heap.get? a = none) : Ext B G s (G'.add a o) s' := by
  have nt : ¬ B.tab a := x.hp.nottab ok e hc
  have hG : G' a = none ∨ G' a = some o := by
    cases q : G' a with
    | none => exact .inl rfl
    | some o' => have := x.hp.keep a o' q; rw [e] at this; cases this; exact .inr rfl
  refine ⟨x.le.trans (GMap.le_add hG), ⟨x.hp.base.trans (GMap.le_add hG), fun b o' q => ?_, fun b t => ?_, ok.tokM x.hp.tok (GMap.le_add hG) fun _ _ => rfl, x.hp.os, x.hp.gens⟩, x.grow, fun b o' q => ?_⟩
  · by_cases hb : b = a
    · subst hb; rw [G'.add_at] at q; cases q; exact e
    · rw [G'.add_ne _ hb] at q; exact x.hp.keep b o' q
  · have hb : b ≠ a := fun q => nt (q ▸ t)
    rw [G'.add_ne _ hb]; exact x.hp.tabG b t
  · have hb : b ≠ a := fun z => by rw [z, hn] at q; cases q
    rw [G'.add_ne _ hb]; exact x.new b o' q
theorem get_size_none (h : Heap) : h.get? h.objs.size = none := by
  cases q : h.get? h.objs.size with
  | none => rfl
  | some o => exact absurd (Heap.lt_size q) (Nat.lt_irrefl _)
theorem Ext.push (ok : BaseOK B) (H : Hp B G s) {o : Obj} {tk : Nat} (hf : o.isFreed = false) (hc : o.cls ≠ .none) : Ext B G s (G.add s.heap.objs.size o) { s with heap := s.heap.push o, toks := tk } :=
  Ext.add ok H (Ext.grown ok H fun _ _ e => Heap.get?_push_of_some _ e) (Heap.get?_push_size _ hf) hc (get_size_none _)
theorem NsAt.ext (ok : BaseOK B) (H : Hp B G s) (x : Ext B G s G' s') {a : Addr} {m : Str → Option Value} (r : NsAt s.heap a m) : NsAt s'.heap a m := by
  obtain ⟨o, es, ep, e, r⟩ := r
  exact ⟨o, es, ep, x.grow _ _ e (H.nottabS ok e (.inr ⟨es, ep, r.1⟩)), r⟩
theorem Reads1.ext (ok : BaseOK B) (H : Hp B G s) (x : Ext B G s G' s') {cx : Cx} {env : Env} {n : Str} {v : Value} (r : Reads1 cx env s.heap n v) : Reads1 cx env s'.heap n v := by
  rcases r with ⟨h1, m, hm, hv⟩ | ⟨h1, c, hc, ho⟩
  · exact .inl ⟨h1, m, hm.ext ok H x, hv⟩
  · exact .inr ⟨h1, c, hc, x.keep ok H ho (by intro z; cases z)⟩
theorem OwnAt.at {h h' : Heap} {a : Addr} {v : V} (o : OwnAt G h a v) (e : h'.get? a = h.get? a) : OwnAt G h' a v := by
  induction v using Mine.V.casesOn <;> first | exact o.elim | skip
  · obtain ⟨vs, m, e1, rr⟩ := o; exact ⟨vs, m, e.trans e1, rr⟩
  · obtain ⟨vs, m, e1, rr⟩ := o; exact ⟨vs, m, e.trans e1, rr⟩
theorem OwnAt.std {h : Heap} {a : Addr} {v : V} (o : OwnAt G h a v) : ∃ ob, h.get? a = some ob ∧ ob.cls ≠ .none ∧ ∀ w, ob ≠ cellO w := by
  induction v using Mine.V.casesOn <;> first | exact o.elim | skip
  · obtain ⟨vs, m, e1, rr⟩ := o; exact ⟨_, e1, (by intro q; cases q), fun w q => nomatch congrArg Obj.data q⟩
  · obtain ⟨vs, m, e1, rr⟩ := o; exact ⟨_, e1, (by intro q; cases q), fun w q => nomatch congrArg Obj.data q⟩
theorem OwnAt.mono {h : Heap} {a : Addr} {v : V} (o : OwnAt G h a v) (k : G.le G') : OwnAt G' h a v := by
  induction v using Mine.V.casesOn <;> first | exact o.elim | skip
  · obtain ⟨vs, m, e, r, z⟩ := o; exact ⟨vs, m, e, r.mono k, z⟩
  · obtain ⟨vs, m, e, r, z⟩ := o; exact ⟨vs, m, e, r.mono k, z⟩
theorem OwnAt.ext (ok : BaseOK B) (H : Hp B G s) (x : Ext B G s G' s') {a : Addr} {v : V} (r : OwnAt G s.heap a v) : OwnAt G' s'.heap a v := by
  obtain ⟨ob, e, c, _⟩ := r.std
  exact (r.mono x.le).at ((x.keep ok H e c).trans e.symm)
theorem Rd.ext (ok : BaseOK B) (H : Hp B G s) (x : Ext B G s G' s') {cx : Cx} {env : Env} {σ : Sig} (r : Rd cx env σ G s.heap) : Rd cx env σ G' s'.heap := by
  refine ⟨fun n i e => ?_, fun y c h1 h2 => let ⟨v, e⟩ := r.up y c h1 h2; ⟨v, x.keep ok H e (by intro z; cases z)⟩⟩
  have z := r.ent n i e
  cases q : σ.at i with
  | un => trivial
  | fz v => rw [q] at z; obtain ⟨u, a, b⟩ := z; exact ⟨u, a.ext ok H x, b.mono x.le⟩
  | own v => rw [q] at z; obtain ⟨u, a, b⟩ := z; exact ⟨u, a.ext ok H x, b.ext ok H x⟩
variable {A : Around} {n : Nat}
theorem Room.in1 (r : Room A (n + 1)) : Room A.in1 n := ⟨by have := r.depth; show A.depth + n + 50 < _; lia, by have := r.units; show A.units + 1 + 8 * n + 200 < _; lia, r.handled⟩
theorem Room.less (r : Room A n) {m : Nat} (h : m ≤ n) : Room A m := ⟨by have := r.depth; lia, by have := r.units; lia, r.handled⟩
end
end Mine
namespace Mine
open PySem PySem.Calls
theorem szLine : sizeLine = 16777216 := by rw [sizeLine_eq]
theorem lineN_eq : lineN = 1048576 := rfl
section
variable {B : Base} {G G' : GMap} {s s' : Shared} {A : Around} {n : Nat}
theorem str_len {x : Str} {l : List Nat} (h : x.cps.toList = l) : x.length = l.length := by
  rw [← h, Array.length_toList]; rfl
theorem wp_mono {α : Type} {t : Sem α} {Q Q' : α → Shared → Prop} (h : Wp B A t Q s) (k : ∀ a s, Q a s → Q' a s) : Wp B A t Q' s := wpAny_mono h k fun _ _ x => x
theorem isL_of {h : Heap} {a : Addr} {vs : List Value} {k : Nat} (e : h.get? a = some (listO vs k)) : IsL h a vs.toArray k := e
theorem isTup_of {G : GMap} {h : Heap} (k : ∀ b o, G b = some o → h.get? b = some o) {a : Addr} {vs : List Value} (e : TupAt G a vs) : PyProof.Rows.IsTup h a vs.toArray := let ⟨o, n, x, y, z⟩ := e; ⟨o, k _ _ x, y, n, z⟩
theorem isList_of {h : Heap} {a : Addr} {vs : List Value} {k : Nat} (e : h.get? a = some (listO vs k)) : h.IsList a vs.toArray := ⟨_, e, rfl, k, rfl⟩
theorem truthy_rep (ok : BaseOK B) (H : Hp B G s) {u : Value} {v : V} {b : Bool} (r : Rep G u v) (e : v.truthy = some b) {Q : Bool → Shared → Prop}
    (h : ∀ tk, Q b { s with toks := tk }) : Wp B A (truthy u) Q s := by
  have h0 : Q b s := h s.toks
  induction v using Mine.V.casesOn with
  | non => obtain rfl := r; cases e; exact wpAny_pure h0
  | bool p => obtain rfl := r; cases e; exact wpAny_truthy_bool h0
  | int i => obtain ⟨t, rfl⟩ := r; cases e; exact PyProof.Rows.truthy_int h0
  | str l =>
    obtain ⟨x, t, rfl, hx, hz⟩ := r
    cases e
    have hl := str_len hx
    refine P.truthy_str (by rw [hl]; have := szLine; lia) ?_
    have e2 : ((x.length : Int) != 0) = !l.isEmpty := by
      rw [hl]
      induction l using List.casesOn with
      | nil => rfl
      | cons a l => simp; lia
    rw [e2]; exact h _
  | list l =>
    obtain ⟨a, vs, k, rfl, hg, rr, hz⟩ := r
    cases e
    have hl := rr.length
    refine wpAny_truthy_list (isList_of (H.keep _ _ hg)) ?_ ?_
    · rw [List.size_toArray]; have := szLine; lia
    · have e2 : (!vs.toArray.isEmpty) = !l.isEmpty := by induction vs using List.casesOn <;> induction l using List.casesOn <;> simp_all
      rw [e2]; exact h _
  | tup l =>
    obtain ⟨a, vs, rfl, hg, rr, hz⟩ := r
    cases e
    have hl := rr.length
    refine PyProof.Rows.truthy_tuple (isTup_of H.keep hg) ?_ ?_
    · rw [List.size_toArray]; have := szLine; lia
    · have e2 : (!vs.toArray.isEmpty) = !l.isEmpty := by induction vs using List.casesOn <;> induction l using List.casesOn <;> simp_all
      rw [e2]; exact h _
  | dict _ => cases e
theorem load_var {cx : Cx} {env : Env} (X : EnvB cx env) {x : Str} {u : Value} (r : Reads1 cx env s.heap x u) {Q : Value → Shared → Prop} (h : Q u s) : Wp B A (loadName env x) Q s := by
  have hk : env.scope.kind = .function := by rw [X.scope]; exact X.kind
  rcases r with ⟨h1, m, hm, hv⟩ | ⟨h1, c, hc, ho⟩
  · exact wpAny_loadName_local hk (by show env.scope.names.lookup x = _; rw [X.scope]; exact h1) hm hv h
  · cases q : cx.scope.names.lookup x with
    | none => rw [q] at h1; cases h1
    | some k =>
      have hq : env.kindOf x = some k := by show env.scope.names.lookup x = _; rw [X.scope]; exact q
      rw [q] at h1
      induction k using PySem.NameKind.casesOn <;> first | cases h1 | skip
      · exact wpAny_loadName_cell hk hq hc ⟨_, ho, rfl⟩ h
      · refine wpAny_loadName_free hk hq hc ⟨_, ho, rfl⟩ h ?_
        cases hx : (x == ("__classdict__" : Str)) with
        | false => rfl
        | true =>
          have e := eq_of_beq hx
          subst e
          have := X.noCd
          rw [q] at this; cases this
theorem load_glob (ok : BaseOK B) (H : Hp B G s) {cx : Cx} {env : Env} (X : EnvB cx env) {x : Str} (hg : cx.glob x) {u : Value} (hu : B.mg x = some u ∨ (B.mg x = none ∧ B.mb x = some u)) {pos : Pos} {Q : Value → Shared → Prop} (h : Q u s)
    (hd : (x == ("__debug__" : Str)) = false) : Wp B A (eval (.Name x pos) env) Q s := by
  have hk : env.scope.kind = .function := by rw [X.scope]; exact X.kind
  have hq : env.kindOf x = some .globalImplicit := by show env.scope.names.lookup x = _; rw [X.scope]; exact hg
  have kp : ∀ b o, B.G0 b = some o → s.heap.get? b = some o := fun b o e => H.keep b o (H.base b o e)
  refine Name_function_global hk hq ?_ hd
  rcases hu with hu | ⟨h1, h2⟩
  · exact loadGlobal_global (by rw [X.globals]; exact ok.nsg _ kp) hu h
  · exact loadGlobal_builtin (by rw [X.globals]; exact ok.nsg _ kp) h1 (by rw [X.builtins]; exact ok.nsb _ kp) h2 h
set_option tactic.hygienic true in
theorem un_op (ok : BaseOK B) (H : Hp B G s) {u : Value} {v z : V} {op : UnaryOp} {o : Uop} (ho : uopOf op = some o) (r : Rep G u v) (e : unV o v = some z) {Q : Value → Shared → Prop}
    (h : ∀ tk u', Rep G u' z → Q u' { s with toks := tk }) : Wp B A (unaryOp op u) Q s := by
  induction op using PySem.UnaryOp.casesOn with
  | Invert =>
    obtain rfl := Option.some.inj ho
    induction v using Mine.V.casesOn with
    | int a => obtain ⟨t, rfl⟩ := r; obtain rfl := Option.some.inj e; exact PyProof.Rows.invert_int (h _ _ (.int _ _))
    | _ => exfalso; exact noF e
  | Not =>
    obtain rfl := Option.some.inj ho
    dsimp only [unV] at e
    split at e
    · rename_i b hb
      obtain rfl := Option.some.inj e
      exact not_value (truthy_rep ok H r hb fun tk => h tk _ (.bool _))
    · exfalso; exact noF e
  | UAdd => exfalso; exact noF ho
  | USub =>
    obtain rfl := Option.some.inj ho
    induction v using Mine.V.casesOn with
    | int a => obtain ⟨t, rfl⟩ := r; obtain rfl := Option.some.inj e; exact PyProof.Rows.neg_int (h _ _ (.int _ _))
    | _ => exfalso; exact noF e
theorem mulOk {x y : Int} (h : bitsOf x + bitsOf y ≤ lineN) : IntMulOk x y := by
  unfold IntMulOk
  have e : Builtin.Int.intTooBig ((Builtin.Int.intBits x : Int) + Builtin.Int.intBits y) = false := by
    unfold Builtin.Int.intTooBig bitsLine
    unfold bitsOf lineN at h
    exact decide_eq_false (by lia)
  rw [e, Bool.and_false]
  exact Bool.false_ne_true
theorem rep_flat {α : Type} (l : List α) : ∀ n, rep l n = (List.replicate n l).flatten
  | 0 => rfl
  | n + 1 => by rw [rep, rep_flat l n, List.replicate_succ, List.flatten_cons]
theorem foldl_app {α : Type} : ∀ (ls : List (Array α)) (acc : Array α), (ls.foldl (fun x y => x ++ y) acc).toList = acc.toList ++ (ls.map (·.toList)).flatten
  | [], acc => by simp
  | l :: ls, acc => by rw [List.foldl_cons, foldl_app ls]; simp
theorem rep_arr {α : Type} (l : List α) (n : Nat) : List.foldl (fun x y => x ++ y) #[] (List.replicate n l.toArray) = (rep l n).toArray := by
  apply Array.toList_inj.mp
  rw [foldl_app]; simp [rep_flat]
theorem rep_len {α : Type} (l : List α) : ∀ n, (rep l n).length = l.length * n
  | 0 => rfl
  | n + 1 => by rw [rep, List.length_append, rep_len l n, Nat.mul_succ]; lia
theorem rep_nil {α : Type} : ∀ n, rep ([] : List α) n = []
  | 0 => rfl
  | n + 1 => by rw [rep, rep_nil n]; rfl
theorem mul_listG {l : Addr} {vs : List Value} {k : Nat} {x : Int} {u : Tok} {Q : Value → Shared → Prop} (hl : s.heap.get? l = some (listO vs k))
    (hlo : -(2 ^ 63 : Int) ≤ x) (hhi : x < 2 ^ 63) (hsz : vs.length * x.toNat ≤ 2 ^ 24)
    (h : Q (.ref s.heap.objs.size) { s with heap := s.heap.push (listO (rep vs x.toNat) 0) }) :
    Wp B A (binaryOp .Mult (.ref l) (.int x u)) Q s := by
  have hz : vs.toArray.size = vs.length := List.size_toArray
  refine wpAny_binaryOp_repeat_ref (T := "list") (U := "int") (by decide) ⟨_, hl, rfl⟩ (fun s' => typeIs_int s' x u) noFill_list_mul F.fills_int_mul F.slot_int_rmul repeat_list F.slot_int_index.lookup
    (call_meets F.slot_int_rmul (typeIs_int s x u) F.entry_int_rmul (F.args_int_rmul_2 _ _) (int___rmul___int_list x u l vs.toArray k)
      ⟨hl, rfl, ⟨_, hl, rfl⟩, call_meets F.slot_list_mul ⟨_, hl, rfl⟩ F.entry_list_mul (F.args_list_mul_2 _ _)
        (AutoListH.list___mul___list_int_3 l vs.toArray k x u (by simp [Builtin.List.listFitsIndex]; lia) (by rw [hz]; lia) (by rw [hz]; simp [Builtin.List.listTooLong, sizeLine]; lia))
        ⟨hl, ?_⟩⟩)
  have e : List.foldl (fun x1 x2 => x1 ++ x2) #[] (List.replicate (if vs.toArray.isEmpty = true then 0 else x.toNat) vs.toArray) = (rep vs x.toNat).toArray := by
    induction vs using List.casesOn with
    | nil => rw [rep_nil]; rfl
    | cons v vs => rw [if_neg (by simp)]; exact rep_arr _ _
  rw [e]
  exact h
theorem add_listG {l l' : Addr} {vs vs' : List Value} {k k' : Nat} {Q : Value → Shared → Prop} (hl : s.heap.get? l = some (listO vs k)) (hl' : s.heap.get? l' = some (listO vs' k')) (hz : vs.length + vs'.length ≤ sizeLine)
    (h : Q (.ref s.heap.objs.size) { s with heap := s.heap.push (listO (vs ++ vs') 0) }) : Wp B A (binaryOp .Add (.ref l) (.ref l')) Q s := by
  refine P.add_list (isL_of hl) (isL_of hl') ?_ (by rw [List.size_toArray, List.size_toArray]; exact hz)
  have eq : vs.toArray ++ vs'.toArray = (vs ++ vs').toArray := by simp
  rw [eq]
  exact h
set_option tactic.hygienic true in
theorem mul_strG {x : Str} {t u : Tok} {l : List Nat} (hx : x.cps.toList = l) {y : Int} {Q : Value → Shared → Prop} (hz : l.length * y.toNat ≤ lineN) (h1 : y < lineN) (h2 : -lineN < y)
    (h : ∀ t' tk x', x'.cps.toList = rep l y.toNat → Q (.str x' t') { s with toks := tk }) : Wp B A (binaryOp .Mult (.str x t) (.int y u)) Q s := by
  have hl := str_len hx
  have := lineN_eq
  refine SB.mul ⟨?_, fun h3 _ => ?_, fun h3 _ => ?_⟩ fun t' tk => h t' tk _ ?_
  · simp only [Bool.or_eq_false_iff, decide_eq_false_iff_not]; lia
  · have p : 0 < y := by lia
    intro q
    have q2 : ((x.length : Int) + 1) ≤ (2 ^ 63 - 1) / y + 0 + 0 + ((x.length : Int) + 1 - (2 ^ 63 - 1) / y) := by lia
    have q3 : (2 ^ 63 - 1) / y < (x.length : Int) := q
    have q4 : (2 ^ 63 - 1 : Int) < (x.length : Int) * y := by
      have := Int.lt_mul_of_ediv_lt p q3
      exact this
    have q5 : ((x.length : Int) * y) ≤ lineN := by
      rw [hl]
      have e : y = (y.toNat : Int) := by lia
      rw [e]
      exact_mod_cast hz
    lia
  · unfold Builtin.Str.tooLong
    have := szLine
    rw [hl]
    exact decide_eq_false (by lia)
  · unfold Txt.mul
    split
    · have : y.toNat = 0 := by lia
      rw [this]; rfl
    · split
      · rename_i h3 h4
        rcases Bool.or_eq_true_iff.mp h4 with h4 | h4
        · have : y = 1 := eq_of_beq h4
          subst this
          rw [hx]; show l = l ++ []; rw [List.append_nil]
        · have h5 : x.length = 0 := eq_of_beq h4
          have h6 : l = [] := List.eq_nil_of_length_eq_zero (by lia)
          rw [hx, h6, rep_nil]
      · show (List.foldl (fun x1 x2 => x1 ++ x2) #[] (List.replicate y.toNat x.cps)).toList = _
        have e : x.cps = l.toArray := by rw [← hx]
        rw [e, rep_arr]
set_option tactic.hygienic true in
theorem noPy {x y : Int} {P : Prop} (h : ¬ 8000 < bitsOf y) : Builtin.divisionGoesByPylong x y = false ∨ P := .inl (PyProof.noPylong_of_log2 (by
  unfold bitsOf Builtin.Int.intBits at h
  split at h
  · rename_i q
    have : y = 0 := eq_of_beq q
    subst this; decide +kernel
  · lia))
theorem bin_int {a b : Int} {t t' : Tok} {z : V} {op : Operator} {o : Bop} (ho : bopOf op = some o) (e : intV o a b = some z) {Q : Value → Shared → Prop}
    (ht : ∀ tk u', Rep G u' z → Q u' { s with toks := tk }) : Wp B A (binaryOp op (.int a t) (.int b t')) Q s := by
  induction op using PySem.Operator.casesOn with
  | Add => obtain rfl := Option.some.inj ho; obtain rfl := Option.some.inj e; exact PyProof.Rows.add_int (ht _ _ (.int _ _))
  | Sub => obtain rfl := Option.some.inj ho; obtain rfl := Option.some.inj e; exact PyProof.Rows.sub_int (ht _ _ (.int _ _))
  | Mult => obtain rfl := Option.some.inj ho; obtain ⟨hz, rfl⟩ := iteS e; exact PyProof.Rows.mul_int (ht _ _ (.int _ _)) (mulOk hz)
  | Mod => obtain rfl := Option.some.inj ho; obtain ⟨hz, rfl⟩ := iteN e; exact PyProof.Rows.mod_int' hz (ht _ _ (.int _ _))
  | Pow =>
    obtain rfl := Option.some.inj ho; obtain ⟨hz, rfl⟩ := iteS e
    exact PyProof.Rows.pow_int hz.1 (by have := hz.2; have := lineN_eq; unfold bitsOf at *; lia) (ht _ _ (.int _ _))
  | LShift =>
    obtain rfl := Option.some.inj ho; obtain ⟨hz, rfl⟩ := iteS e
    exact PyProof.Rows.lshift_int hz.1 (by have := hz.2; have := lineN_eq; unfold bitsOf at *; lia) (ht _ _ (.int _ _))
  | RShift => obtain rfl := Option.some.inj ho; obtain ⟨hz, rfl⟩ := iteS e; exact PyProof.Rows.rshift_int hz (ht _ _ (.int _ _))
  | BitOr => obtain rfl := Option.some.inj ho; obtain rfl := Option.some.inj e; exact PyProof.Rows.or_int (ht _ _ (.int _ _))
  | BitXor => obtain rfl := Option.some.inj ho; obtain rfl := Option.some.inj e; exact PyProof.Rows.xor_int (ht _ _ (.int _ _))
  | BitAnd => obtain rfl := Option.some.inj ho; obtain rfl := Option.some.inj e; exact PyProof.Rows.and_int (ht _ _ (.int _ _))
  | FloorDiv => obtain rfl := Option.some.inj ho; obtain ⟨hz, rfl⟩ := iteN e; exact PyProof.Rows.floordiv_int (fun q => hz (.inl q)) (ht _ _ (.int _ _)) (noPy fun q => hz (.inr q))
  | _ => exfalso; exact noF ho
theorem bopAdd {op : Operator} (h : bopOf op = some .add) : op = .Add := by induction op using PySem.Operator.casesOn <;> first | rfl | exact nomatch h
theorem bopMul {op : Operator} (h : bopOf op = some .mul) : op = .Mult := by induction op using PySem.Operator.casesOn <;> first | rfl | exact nomatch h
theorem bin_op (ok : BaseOK B) (H : Hp B G s) {u w : Value} {x y z : V} {op : Operator} {o : Bop} (ho : bopOf op = some o) (ru : Rep G u x) (rw' : Rep G w y) (e : binV o x y = some z) {Q : Value → Shared → Prop}
    (h : ∀ G' s' u', Ext B G s G' s' → Rep G' u' z → Q u' s') : Wp B A (binaryOp op u w) Q s := by
  have ht : ∀ tk u', Rep G u' z → Q u' { s with toks := tk } := fun tk u' r => h G _ u' (Ext.toks ok H) r
  have sz := szLine
  have ln := lineN_eq
  induction x using Mine.V.casesOn with
  | int a =>
    obtain ⟨t, rfl⟩ := ru
    induction y using Mine.V.casesOn with
    | int b => obtain ⟨t', rfl⟩ := rw'; exact bin_int ho e ht
    | _ => exfalso; exact noF e
  | str l =>
    obtain ⟨x, t, rfl, hx, hz1⟩ := ru
    induction y using Mine.V.casesOn with
    | str l' =>
      obtain ⟨x', t', rfl, hx', hz2⟩ := rw'
      dsimp only [binV] at e
      induction o using Mine.Bop.casesOn with
      | add =>
        obtain rfl := bopAdd ho
        obtain ⟨hz, rfl⟩ := iteS e
        refine PyProof.Rows.add_str (fun t' tk => ht tk _ (.str _ _ ?_ ?_)) ?_
        · show (x.cps ++ x'.cps).toList = _
          rw [Array.toList_append, hx, hx']
        · rw [List.length_append]; lia
        · rw [str_len hx, str_len hx']; lia
      | _ => exfalso; exact noF e
    | int i =>
      obtain ⟨t', rfl⟩ := rw'
      dsimp only [binV] at e
      induction o using Mine.Bop.casesOn with
      | mul =>
        obtain rfl := bopMul ho
        obtain ⟨hz, rfl⟩ := iteS e
        simp only [Bool.and_eq_true, decide_eq_true_eq] at hz
        refine mul_strG hx hz.1.1 hz.1.2 hz.2 fun t' tk x' hx' => ht tk _ (.str _ _ hx' ?_)
        rw [rep_len]; lia
      | _ => exfalso; exact noF e
    | _ => exfalso; exact noF e
  | list l =>
    obtain ⟨_, vs, _, rfl, hg, rr, hz1⟩ := ru
    have l1 := rr.length
    induction y using Mine.V.casesOn with
    | list l' =>
      obtain ⟨_, vs', _, rfl, hg', rr', hz2⟩ := rw'
      dsimp only [binV] at e
      induction o using Mine.Bop.casesOn with
      | add =>
        obtain rfl := bopAdd ho
        obtain ⟨hz, rfl⟩ := iteS e
        have l2 := rr'.length
        refine add_listG (H.keep _ _ hg) (H.keep _ _ hg') (by lia) ?_
        have x : Ext B G s _ _ := Ext.push (tk := s.toks) ok H (o := listO (vs ++ vs') 0) rfl (by intro q; cases q)
        exact h _ _ _ x (.list (G.add_at _ _) ((rr.append rr').mono x.le) (by rw [List.length_append]; lia))
      | _ => exfalso; exact noF e
    | int y' =>
      obtain ⟨t'', rfl⟩ := rw'
      dsimp only [binV] at e
      induction o using Mine.Bop.casesOn with
      | mul =>
        obtain rfl := bopMul ho
        obtain ⟨hz, rfl⟩ := iteS e
        simp only [Bool.and_eq_true, decide_eq_true_eq] at hz
        refine mul_listG (H.keep _ _ hg) (by lia) (by lia) (by rw [l1]; lia) ?_
        have x := fun k => Ext.push (tk := s.toks) ok H (o := listO (rep vs k) 0) rfl (by intro q; cases q)
        exact h _ _ _ (x _) (.list (G.add_at _ _) ((rr.rep _).mono (x _).le) (by rw [rep_len]; lia))
      | _ => exfalso; exact noF e
    | _ => exfalso; exact noF e
  | _ => exfalso; exact noF e
end
end Mine
namespace Mine
open PySem PySem.Calls
mutual
noncomputable def V.toPy : V → PyData
  | .non => .none
  | .bool b => .bool b
  | .int i => .int i
  | .str s => .str ⟨s.toArray⟩
  | .list l => .list (V.toPyL l)
  | .tup l => .tuple (V.toPyL l)
  | .dict _ => .none
noncomputable def V.toPyL : List V → List PyData
  | [] => []
  | a :: l => V.toPy a :: V.toPyL l
end
theorem lookL {l : List Nat} {s : Str} (h : s.cps.toList = l) : s = ⟨l.toArray⟩ := by
  induction s using PySem.Str.casesOn; subst h; simp
mutual
theorem Rep.reads' {G : GMap} {h : Heap} (k : ∀ b o, G b = some o → h.get? b = some o) : ∀ (v : V) (n : Nat) (u : Value), Rep G u v → V.pl n v = true → ∃ as, Reads h u v.toPy as ∧ v.toPy.canLay0 = true ∧ v.toPy.depth ≤ n
  | .non, n, u, r, _ => by
    obtain rfl := r.non_inv
    exact ⟨_, .none, by simp [V.toPy, PyData.canLay0], by simp [V.toPy, PyData.depth]⟩
  | .bool b, n, u, r, _ => by
    obtain rfl := r.bool_inv
    exact ⟨_, .bool b, by simp [V.toPy, PyData.canLay0], by simp [V.toPy, PyData.depth]⟩
  | .int i, n, u, r, _ => by
    obtain ⟨t, rfl⟩ := r.int_inv
    exact ⟨_, .int i t, by simp [V.toPy, PyData.canLay0], by simp [V.toPy, PyData.depth]⟩
  | .str l, n, u, r, hp => by
    obtain ⟨s, t, rfl, e, _⟩ := r.str_inv
    have e' := lookL e
    subst e'
    refine ⟨_, .str _ _, ?_, by simp [V.toPy, PyData.depth]⟩
    have : chOk l = true := by induction n using Nat.casesAuxOn <;> simpa [V.pl] using hp
    simpa [V.toPy, PyData.canLay0, PyData.strOk, chOk] using this
  | .list l, n, u, r, hp => by
    obtain ⟨a, vs, q, rfl, hg, r, _⟩ := r.list_inv
    induction n using Nat.casesAuxOn with
    | zero => simp [V.pl] at hp
    | succ n =>
      obtain ⟨as, r1, r2, r3⟩ := Reps.reads' k l n vs r (by simpa [V.pl] using hp)
      refine ⟨_, .list (k _ _ hg) rfl rfl r1, by simpa [V.toPy, PyData.canLay0] using r2, ?_⟩
      simp only [V.toPy, PyData.depth]; lia
  | .tup l, n, u, r, hp => by
    obtain ⟨a, vs, rfl, hg, r, _⟩ := r.tup_inv
    induction n using Nat.casesAuxOn with
    | zero => simp [V.pl] at hp
    | succ n =>
      obtain ⟨as, r1, r2, r3⟩ := Reps.reads' k l n vs r (by simpa [V.pl] using hp)
      obtain ⟨o, q, h1, h2, h3⟩ := hg
      refine ⟨_, .tuple (k _ _ h1) h2 h3 r1, by simpa [V.toPy, PyData.canLay0] using r2, ?_⟩
      simp only [V.toPy, PyData.depth]; lia
  | .dict _, n, u, r, hp => by induction n using Nat.casesAuxOn <;> simp [V.pl] at hp
theorem Reps.reads' {G : GMap} {h : Heap} (k : ∀ b o, G b = some o → h.get? b = some o) : ∀ (l : List V) (n : Nat) (us : List Value), Reps G us l → V.plL n l = true → ∃ as, ReadsAll h us (V.toPyL l) as ∧ PyData.canLayAll0 (V.toPyL l) = true ∧ PyData.depthAll (V.toPyL l) ≤ n
  | [], n, us, r, _ => by
    obtain rfl := r.nil_inv
    exact ⟨_, .nil, by simp [V.toPyL, PyData.canLayAll0], by simp [V.toPyL, PyData.depthAll]⟩
  | x :: l, n, us, r, hp => by
    obtain ⟨u, us, rfl, hr, r⟩ := r.cons_inv
    have hp' : V.pl n x = true ∧ V.plL n l = true := by simpa [V.plL] using hp
    obtain ⟨as, a1, a2, a3⟩ := Rep.reads' k x n u hr hp'.1
    obtain ⟨bs, b1, b2, b3⟩ := Reps.reads' k l n us r hp'.2
    refine ⟨_, .cons a1 b1, by simp [V.toPyL, PyData.canLayAll0, a2, b2], ?_⟩
    simp only [V.toPyL, PyData.depthAll]; lia
end
theorem Rep.reads {G : GMap} {h : Heap} (k : ∀ b o, G b = some o → h.get? b = some o) {n : Nat} {u : Value} {v : V} (r : Rep G u v) (hp : V.pl n v = true) : ∃ as, Reads h u v.toPy as ∧ v.toPy.canLay0 = true ∧ v.toPy.depth ≤ n := Rep.reads' k v n u r hp
theorem Reps.reads {G : GMap} {h : Heap} (k : ∀ b o, G b = some o → h.get? b = some o) {n : Nat} {us : List Value} {l : List V} (r : Reps G us l) (hp : V.plL n l = true) : ∃ as, ReadsAll h us (V.toPyL l) as ∧ PyData.canLayAll0 (V.toPyL l) = true ∧ PyData.depthAll (V.toPyL l) ≤ n := Reps.reads' k l n us r hp
set_option tactic.hygienic true
mutual
theorem eqb_eqv : ∀ {n : Nat} (a b : V), V.pl n a = true → V.pl n b = true → PyData.eqv a.toPy b.toPy = V.eqb a b
  | n, .non, b, _, hb => by induction b using Mine.V.casesOn <;> first | (induction n using Nat.casesAuxOn <;> simp [V.pl] at hb; done) | simp [V.toPy, PyData.eqv, V.eqb]
  | n, .bool x, b, _, hb => by induction b using Mine.V.casesOn <;> first | (induction n using Nat.casesAuxOn <;> simp [V.pl] at hb; done) | simp [V.toPy, PyData.eqv, V.eqb]
  | n, .int x, b, _, hb => by induction b using Mine.V.casesOn <;> first | (induction n using Nat.casesAuxOn <;> simp [V.pl] at hb; done) | simp [V.toPy, PyData.eqv, V.eqb]
  | n, .str x, b, _, hb => by
    induction b using Mine.V.casesOn <;> first | (induction n using Nat.casesAuxOn <;> simp [V.pl] at hb; done) | (simp [V.toPy, PyData.eqv, V.eqb]; done) | skip
    rename_i y
    simp only [V.toPy, PyData.eqv, V.eqb]
    by_cases h : x = y
    · subst h; simp
    · have h2 : ¬ ((⟨x.toArray⟩ : Str) = ⟨y.toArray⟩) := fun e => h (by injection e with e; simpa using congrArg Array.toList e)
      rw [beq_eq_false_iff_ne.mpr h, beq_eq_false_iff_ne.mpr h2]
  | 0, .list x, b, ha, _ => by simp [V.pl] at ha
  | n + 1, .list x, b, ha, hb => by
    induction b using Mine.V.casesOn <;> first | (simp [V.pl] at hb; done) | (simp [V.toPy, PyData.eqv, V.eqb]; done) | skip
    simp only [V.toPy, PyData.eqv, V.eqb]
    exact eqb_eqvL _ _ (n := n) (by simpa [V.pl] using ha) (by simpa [V.pl] using hb)
  | 0, .tup x, b, ha, _ => by simp [V.pl] at ha
  | n + 1, .tup x, b, ha, hb => by
    induction b using Mine.V.casesOn <;> first | (simp [V.pl] at hb; done) | (simp [V.toPy, PyData.eqv, V.eqb]; done) | skip
    simp only [V.toPy, PyData.eqv, V.eqb]
    exact eqb_eqvL _ _ (n := n) (by simpa [V.pl] using ha) (by simpa [V.pl] using hb)
  | 0, .dict _, _, ha, _ => by simp [V.pl] at ha
  | _ + 1, .dict _, _, ha, _ => by simp [V.pl] at ha
theorem eqb_eqvL : ∀ {n : Nat} (a b : List V), V.plL n a = true → V.plL n b = true → PyData.eqvAll (V.toPyL a) (V.toPyL b) = V.eqbL a b
  | _, [], [], _, _ => by simp [V.toPyL, PyData.eqvAll, V.eqbL]
  | _, [], _ :: _, _, _ => by simp [V.toPyL, PyData.eqvAll, V.eqbL]
  | _, _ :: _, [], _, _ => by simp [V.toPyL, PyData.eqvAll, V.eqbL]
  | n, a :: l, b :: r, ha, hb => by
    have ha' : V.pl n a = true ∧ V.plL n l = true := by simpa [V.plL] using ha
    have hb' : V.pl n b = true ∧ V.plL n r = true := by simpa [V.plL] using hb
    simp only [V.toPyL, PyData.eqvAll, V.eqbL]
    rw [eqb_eqv a b ha'.1 hb'.1, eqb_eqvL l r ha'.2 hb'.2]
end
set_option tactic.hygienic false
section
variable {B : Base} {G G' : GMap} {s s' : Shared} {A : Around} {n : Nat}
set_option tactic.hygienic true in
theorem eqs_at (H : Hp B G s) {u w : Value} {x y : V} {c : Bool} (ru : Rep G u x) (rw' : Rep G w y) (e : V.eqs x y = some c) :
    ∃ as bs, Reads s.heap u x.toPy as ∧ Reads s.heap w y.toPy bs ∧ x.toPy.canLay0 = true ∧ y.toPy.canLay0 = true ∧ x.toPy.depth ≤ 8 ∧ PyData.eqv x.toPy y.toPy = c := by
  unfold V.eqs at e
  split at e
  · rename_i hp
    obtain ⟨h1, h2⟩ := Bool.and_eq_true_iff.mp hp
    obtain ⟨as, a1, a2, a3⟩ := ru.reads H.keep h1
    obtain ⟨bs, b1, b2, b3⟩ := rw'.reads H.keep h2
    cases e
    exact ⟨as, bs, a1, b1, a2, b2, a3, eqb_eqv _ _ h1 h2⟩
  · cases e
theorem eq_op (H : Hp B G s) (hr : A.units + 200 < cLine) {u w : Value} {x y : V} {c : Bool} (ru : Rep G u x) (rw' : Rep G w y) (e : V.eqs x y = some c) {Q : Value → Shared → Prop} (h : Q (.bool c) s) :
    Wp B A (compareOp .Eq u w) Q s := by
  obtain ⟨as, bs, h1, h2, h3, h4, h5, h6⟩ := eqs_at H ru rw' e
  exact SeqAt.compareEq_reads h1 h2 h3 h4 (by lia) (by rw [h6]; exact h)
theorem ne_op (H : Hp B G s) (hr : A.units + 200 < cLine) {u w : Value} {x y : V} {c : Bool} (ru : Rep G u x) (rw' : Rep G w y) (e : V.eqs x y = some c) {Q : Value → Shared → Prop} (h : Q (.bool (!c)) s) :
    Wp B A (compareOp .NotEq u w) Q s := by
  obtain ⟨as, bs, h1, h2, h3, h4, h5, h6⟩ := eqs_at H ru rw' e
  exact SeqAt.compareNe_reads h1 h2 h3 h4 (by lia) (by rw [h6]; exact h)
theorem eqAt_rep (H : Hp B G s) (hr : A.units + 200 < cLine) {u w : Value} {x y : V} {c : Bool} (ru : Rep G u x) (rw' : Rep G w y) (e : V.eqs x y = some c) : SeqAt.EqAt A s u w c := by
  obtain ⟨as, bs, h1, h2, h3, h4, h5, h6⟩ := eqs_at H ru rw' e
  rw [← h6]
  exact SeqAt.eqAt_reads _ _ A s u w _ _ h1 h2 h3 h4 (by lia)
end
end Mine
namespace Mine
open PySem PySem.Calls
noncomputable def KVs (G : GMap) (kvs : List (Int × Value)) (l : List (Int × V)) : Prop := match l with
  | [] => kvs = []
  | x :: l => ∃ v us, kvs = (x.1, v) :: us ∧ Rep G v x.2 ∧ KVs G us l
theorem KVs.mono {G G' : GMap} (k : G.le G') {l : List (Int × V)} {kvs : List (Int × Value)} (h : KVs G kvs l) : KVs G' kvs l := by
  induction l generalizing kvs with
  | nil => exact h
  | cons x l ih => obtain ⟨v, us, e, a, r⟩ := h; exact ⟨v, us, e, a.mono k, ih r⟩
theorem KVs.keys {G : GMap} {l : List (Int × V)} {kvs : List (Int × Value)} (h : KVs G kvs l) : kvs.map (·.1) = l.map (·.1) := by
  induction l generalizing kvs with
  | nil => obtain rfl := h; rfl
  | cons x l ih => obtain ⟨v, us, rfl, a, r⟩ := h; exact congrArg (x.1 :: ·) (ih r)
theorem KVs.length {G : GMap} {kvs : List (Int × Value)} {l : List (Int × V)} (h : KVs G kvs l) : kvs.length = l.length := by
  have e := congrArg List.length h.keys
  rw [List.length_map, List.length_map] at e; exact e
theorem valueAt_cons {k' k : Int} {v : Value} {us : List (Int × Value)} : valueAt ((k', v) :: us) k = if k' = k then some v else valueAt us k := by
  unfold valueAt
  rw [List.find?_cons]
  by_cases q : k' = k
  · rw [if_pos q, decide_eq_true q]; rfl
  · rw [if_neg q, decide_eq_false q]
theorem KVs.look {G : GMap} {l : List (Int × V)} {kvs : List (Int × Value)} (h : KVs G kvs l) (k : Int) :
    (∀ x, dlook l k = some x → ∃ v, valueAt kvs k = some v ∧ Rep G v x) ∧ (dlook l k = none → valueAt kvs k = none) := by
  induction l generalizing kvs with
  | nil => obtain rfl := h; exact ⟨fun x e => (noF e).elim, fun _ => rfl⟩
  | cons x l ih =>
    obtain ⟨v, us, rfl, a, r⟩ := h
    obtain ⟨k', x⟩ := x
    rw [valueAt_cons]
    show (∀ y, (if k' = k then some x else dlook l k) = some y → _) ∧ ((if k' = k then some x else dlook l k) = none → _)
    by_cases q : k' = k
    · rw [if_pos q, if_pos q]
      exact ⟨fun y e => ⟨v, rfl, Option.some.inj e ▸ a⟩, fun e => nomatch e⟩
    · rw [if_neg q, if_neg q]
      exact ih r
theorem dput_stored {G : GMap} {l : List (Int × V)} {kvs : List (Int × Value)} (hk : KVs G kvs l) (hn : (kvs.map (·.1)).Nodup) {k : Int} {v : Value} {x : V} (h : Rep G v x) : KVs G (stored kvs k v) (dput l k x) := by
  induction l generalizing kvs with
  | nil => obtain rfl := hk; exact ⟨v, [], rfl, h, rfl⟩
  | cons y l ih =>
    obtain ⟨v', kvs, rfl, h0, r⟩ := hk
    obtain ⟨k', x'⟩ := y
    rw [List.map_cons, List.nodup_cons] at hn
    show KVs G _ (if k' = k then (k', x) :: l else (k', x') :: dput l k x)
    by_cases q : k' = k
    · subst q
      rw [if_pos rfl]
      refine ⟨v, kvs, ?_, h, r⟩
      unfold stored
      rw [if_pos (by simp), List.map_cons, if_pos rfl, map_store_of_not_mem kvs _ v hn.1]
    · rw [if_neg q]
      refine ⟨v', stored kvs k v, ?_, h0, ih r hn.2⟩
      unfold stored
      rw [List.any_cons, decide_eq_false q, Bool.false_or, List.map_cons, if_neg q]
      split <;> rfl
theorem dput_keys : ∀ (l : List (Int × V)) (k : Int) (x : V), ((dput l k x).map (·.1) = l.map (·.1)) ∨ ((dput l k x).map (·.1) = l.map (·.1) ++ [k] ∧ k ∉ l.map (·.1))
  | [], k, x => .inr ⟨rfl, by simp⟩
  | (k', v') :: l, k, x => by
    unfold dput
    by_cases q : k' = k
    · rw [if_pos q]; exact .inl rfl
    · rw [if_neg q]
      rcases dput_keys l k x with h | ⟨h, h2⟩
      · exact .inl (by rw [List.map_cons, List.map_cons, h])
      · refine .inr ⟨by rw [List.map_cons, List.map_cons, h]; rfl, ?_⟩
        rw [List.map_cons, List.mem_cons]
        rintro (e | e)
        · exact q e.symm
        · exact h2 e
theorem dput_nodup {l : List (Int × V)} (h : (l.map (·.1)).Nodup) (k : Int) (x : V) : ((dput l k x).map (·.1)).Nodup := by
  rcases dput_keys l k x with e | ⟨e, n⟩
  · rw [e]; exact h
  · rw [e]
    refine List.nodup_append.mpr ⟨h, by simp, fun a ha b hb => ?_⟩
    rw [List.mem_singleton] at hb
    subst hb
    rintro rfl
    exact n ha
theorem dput_length (l : List (Int × V)) (k : Int) (x : V) : (dput l k x).length ≤ l.length + 1 := by
  rcases dput_keys l k x with e | ⟨e, _⟩
  · have := congrArg List.length e; simp at this; lia
  · have := congrArg List.length e; simp at this; lia
section
variable {prog : Program} {w : World} {G : GMap}
theorem DReps.to {l : List (Int × V)} {es : List DictEntry} (h : DReps G es l) : ∃ kvs, Pairs (intKind prog w) es kvs ∧ (∀ e ∈ es, ∃ k, (intKind prog w).is k e.key = true ∧ e.hash = (intKind prog w).hash k) ∧ KVs G kvs l := by
  induction l generalizing es with
  | nil => obtain rfl := h; exact ⟨[], .nil, (fun _ h => nomatch h), rfl⟩
  | cons x l ih =>
    obtain ⟨k, x⟩ := x
    obtain ⟨t, v, us, rfl, a, r⟩ := h
    obtain ⟨kvs, p, q, z⟩ := ih r
    refine ⟨(k, v) :: kvs, .cons (intKind_is prog w k t) rfl p, fun e he => ?_, ⟨v, kvs, rfl, a, z⟩⟩
    rcases List.mem_cons.mp he with rfl | he
    · exact ⟨k, intKind_is prog w k t, rfl⟩
    · exact q e he
theorem DReps.of {es : List DictEntry} {kvs : List (Int × Value)} (p : Pairs (intKind prog w) es kvs) {l : List (Int × V)} (q : ∀ e ∈ es, ∃ k, (intKind prog w).is k e.key = true ∧ e.hash = (intKind prog w).hash k) (h : KVs G kvs l) : DReps G es l := by
  induction p generalizing l with
  | nil =>
    induction l using List.casesOn with
    | nil => exact rfl
    | cons x l => obtain ⟨_, _, e, _⟩ := h; exact nomatch e
  | @cons e kv es kvs h1 h2 p ih =>
    obtain ⟨k, v⟩ := kv
    induction l using List.casesOn with
    | nil => exact nomatch (show (k, v) :: kvs = [] from h)
    | cons x l =>
      obtain ⟨x1, x⟩ := x
      obtain ⟨v', us, e', a, r⟩ := h
      obtain ⟨t, ht⟩ := Value.isInt_shape h1
      obtain ⟨k', hk, hh⟩ := q e (.head _)
      have := (intKind prog w).inj _ _ _ hk h1
      obtain ⟨e1, e2⟩ := List.cons.inj e'
      obtain ⟨rfl, rfl⟩ := Prod.mk.inj e1
      subst this e2
      obtain ⟨eh, ek, ev⟩ := e
      dsimp only at ht h2 hh
      subst ht h2 hh
      exact ⟨t, _, es, rfl, a, ih (fun e he => q e (.tail _ he)) r⟩
end
noncomputable def HeldL (G : GMap) (h : Heap) (u : Value) (l : List V) : Prop := ∃ a vs n, u = .ref a ∧ h.get? a = some (listO vs n) ∧ Reps G vs l ∧ l.length ≤ sizeLine
noncomputable def HeldD (G : GMap) (h : Heap) (u : Value) (l : List (Int × V)) : Prop := ∃ a es n, u = .ref a ∧ h.get? a = some (dictO es n) ∧ DReps G es l ∧ l.length ≤ sizeLine ∧ (l.map (·.1)).Nodup
noncomputable def Held (G : GMap) (h : Heap) (u : Value) : V → Prop
  | .list l => HeldL G h u l
  | .dict l => HeldD G h u l
  | v => Rep G u v
section
variable {B : Base} {G G' : GMap} {s s' : Shared} {A : Around} {n : Nat}
theorem Rep.held (H : Hp B G s) {u : Value} {v : V} (r : Rep G u v) : Held G s.heap u v := by
  induction v using Mine.V.casesOn with
  | list l => obtain ⟨a, vs, n, e, h, r⟩ := r; exact ⟨a, vs, n, e, H.keep _ _ h, r⟩
  | dict l => obtain ⟨a, vs, n, e, h, r⟩ := r; exact ⟨a, vs, n, e, H.keep _ _ h, r⟩
  | _ => exact r
theorem OwnAt.held {a : Addr} {v : V} (r : OwnAt G s.heap a v) : Held G s.heap (.ref a) v := by
  induction v using Mine.V.casesOn <;> first | exact r.elim | skip
  · obtain ⟨vs, n, e, r, z⟩ := r; exact ⟨_, _, _, rfl, e, r, z⟩
  · obtain ⟨vs, n, e, r, z⟩ := r; exact ⟨_, _, _, rfl, e, r, z⟩
theorem Held.ext (ok : BaseOK B) (H : Hp B G s) (x : Ext B G s G' s') {u : Value} {v : V} (r : Held G s.heap u v) : Held G' s'.heap u v := by
  induction v using Mine.V.casesOn with
  | list l => obtain ⟨a, vs, n, e, h, r, z⟩ := r; exact ⟨a, vs, n, e, x.keep ok H h (by intro q; cases q), r.mono x.le, z⟩
  | dict l => obtain ⟨a, vs, n, e, h, r, z⟩ := r; exact ⟨a, vs, n, e, x.keep ok H h (by intro q; cases q), r.mono x.le, z⟩
  | _ => exact Rep.mono x.le r
theorem HeldD.dictOf {u : Value} {l : List (Int × V)} (h : HeldD G s.heap u l) : ∃ a kvs, u = .ref a ∧ s.heap.DictOf (intKind B.prog B.w) a kvs ∧ KVs G kvs l := by
  obtain ⟨a, es, n, e, h, r, z, nd⟩ := h
  obtain ⟨kvs, p, q, k⟩ := r.to (prog := B.prog) (w := B.w)
  exact ⟨a, kvs, e, ⟨_, es.toArray, n, h, ⟨rfl, rfl, rfl⟩, rfl, fun e he => q e (by simpa using he), by simpa using p, by rw [k.keys]; exact nd⟩, k⟩
theorem notSys (ok : BaseOK B) (H : Hp B G s) {a : Addr} {l : List (Int × V)} (h : HeldD G s.heap (.ref a) l) : (a == sysModules) = false := by
  cases q : a == sysModules with
  | false => rfl
  | true =>
    have e := eq_of_beq q
    subst e
    obtain ⟨a', es, n, e, h, r, _⟩ := h
    cases e
    obtain ⟨o, e0, es', n', h1, h2, h3, x, t, hx⟩ := ok.sysm
    have := H.keep _ _ (H.base _ _ h1)
    rw [h] at this
    cases this
    cases h2
    induction l using List.casesOn with
    | nil => obtain rfl := r; exact (noF h3).elim
    | cons y l =>
      obtain ⟨_, _, _, rfl, _⟩ := r
      obtain rfl := Option.some.inj h3
      exact nomatch hx
theorem eqv_any {n : Nat} {y : V} (hy : V.pl n y = true) : ∀ {l : List V}, V.plL n l = true → (V.toPyL l).any (fun x => PyData.eqv x y.toPy) = l.any fun x => V.eqb x y
  | [], _ => by simp [V.toPyL]
  | x :: l, h => by
    have h' : V.pl n x = true ∧ V.plL n l = true := by simpa [V.plL] using h
    rw [V.toPyL, List.any_cons, List.any_cons, eqb_eqv x y h'.1 hy, eqv_any hy h'.2]
theorem in_op (ok : BaseOK B) (H : Hp B G s) (hr : A.units + 200 < cLine) {u w : Value} {x y : V} {c : Bool} (ru : Rep G u x) (hw : Held G s.heap w y) (e : inL x y = some c) {Q : Value → Shared → Prop}
    (h : ∀ tk, Q (.bool c) { s with toks := tk }) : Wp B A (compareOp .In u w) Q s := by
  induction y using Mine.V.casesOn with
  | list l =>
    obtain ⟨a, vs, k, rfl, hl, rr, hz⟩ := hw
    obtain ⟨hp, rfl⟩ := iteS (show (if V.plL 8 l && V.pl 8 x then some (l.any fun z => V.eqb z x) else none) = some c from e)
    obtain ⟨h1, h2⟩ := Bool.and_eq_true_iff.mp hp
    obtain ⟨as, a1, a2, a3⟩ := rr.reads H.keep h1
    obtain ⟨bs, b1, b2, b3⟩ := ru.reads H.keep h2
    refine SeqAt.in_list_reads (.list hl rfl rfl a1) b1 a2 b2 (by lia) ?_
    rw [eqv_any h2 h1]
    exact h s.toks
  | _ => exact (noF e).elim
theorem int2_elim {f : Int → Int → Bool} {u w : Value} {x y : V} {c : Bool} {P : Value → Value → Bool → Prop} (e : int2 f x y = some c) (ru : Rep G u x) (rw' : Rep G w y) (k : ∀ a t b t', P (.int a t) (.int b t') (f a b)) : P u w c := by
  obtain ⟨a, b, rfl, rfl, rfl⟩ := int2_inv e
  obtain ⟨t, rfl⟩ := ru
  obtain ⟨t', rfl⟩ := rw'
  exact k _ _ _ _
theorem cmp_op (ok : BaseOK B) (H : Hp B G s) (hr : A.units + 200 < cLine) {op : CmpOp} {o : Cop} (ho : copOf op = some o) {u w : Value} {x y : V} {c : Bool} (ru : Rep G u x) (hw : Held G s.heap w y)
    (hw' : o = .mem ∨ o = .nmem ∨ Rep G w y) (e : cmpV o x y = some c) {Q : Value → Shared → Prop}
    (h : ∀ tk, Q (.bool c) { s with toks := tk }) : Wp B A (compareOp op u w) Q s := by
  induction op using PySem.CmpOp.casesOn with
  | Eq => obtain rfl := Option.some.inj ho; exact eq_op H hr ru (plainW hw' rfl) e (h s.toks)
  | NotEq =>
    obtain rfl := Option.some.inj ho
    refine mNot (x := x.eqs y) e fun z q e => ?_
    subst e; exact ne_op H hr ru (plainW hw' rfl) q (h s.toks)
  | Lt =>
    obtain rfl := Option.some.inj ho
    exact int2_elim (P := fun u w c => (∀ tk, Q (.bool c) { s with toks := tk }) → Wp B A (compareOp .Lt u w) Q s) e ru (plainW hw' rfl) (fun _ _ _ _ h => PyProof.Rows.lt_int (h s.toks)) h
  | LtE =>
    obtain rfl := Option.some.inj ho
    exact int2_elim (P := fun u w c => (∀ tk, Q (.bool c) { s with toks := tk }) → Wp B A (compareOp .LtE u w) Q s) e ru (plainW hw' rfl) (fun _ _ _ _ h => PyProof.Rows.le_int (h s.toks)) h
  | Gt =>
    obtain rfl := Option.some.inj ho
    exact int2_elim (P := fun u w c => (∀ tk, Q (.bool c) { s with toks := tk }) → Wp B A (compareOp .Gt u w) Q s) e ru (plainW hw' rfl) (fun _ _ _ _ h => PyProof.Rows.gt_int (h s.toks)) h
  | GtE =>
    obtain rfl := Option.some.inj ho
    exact int2_elim (P := fun u w c => (∀ tk, Q (.bool c) { s with toks := tk }) → Wp B A (compareOp .GtE u w) Q s) e ru (plainW hw' rfl) (fun _ _ _ _ h => PyProof.Rows.ge_int (h s.toks)) h
  | In => obtain rfl := Option.some.inj ho; exact in_op ok H hr ru hw e h
  | NotIn => obtain rfl := Option.some.inj ho; exact (noF e).elim
  | _ => exfalso; exact noF ho
theorem getItem_op (ok : BaseOK B) (H : Hp B G s) {u w : Value} {x y z : V} (hu : Held G s.heap u x) (rw' : Rep G w y) (e : getV x y = some z) {Q : Value → Shared → Prop}
    (h : ∀ tk v, Rep G v z → Q v { s with toks := tk }) : Wp B A (getItem u w) Q s := by
  have sz := szLine
  induction x using Mine.V.casesOn with
  | list l =>
    induction y using Mine.V.casesOn with
    | int k =>
      set_option smartUnfolding false in refine mE (x := idx l.length k) e fun j hj e => ?_
      obtain ⟨a, vs, n, rfl, hl, rr, hz⟩ := hu
      obtain ⟨t1, rfl⟩ := rw'
      obtain ⟨hb, rfl⟩ := iteS (show (if 0 ≤ k ∧ k < l.length then some k.toNat else none) = some j from hj)
      obtain ⟨v, hv, rv⟩ := rr.get e
      exact wpAny_getItem_list (isList_of hl) hb.1 (by lia) (by rw [List.getElem?_toArray]; exact hv) (h s.toks v rv)
    | _ => exact (noF e).elim
  | tup l =>
    induction y using Mine.V.casesOn with
    | int k =>
      set_option smartUnfolding false in refine mE (x := idx l.length k) e fun j hj e => ?_
      obtain ⟨a, vs, rfl, hg, rr, hz⟩ := hu
      obtain ⟨t1, rfl⟩ := rw'
      obtain ⟨hb, rfl⟩ := iteS (show (if 0 ≤ k ∧ k < l.length then some k.toNat else none) = some j from hj)
      obtain ⟨v, hv, rv⟩ := rr.get e
      have hl := rr.length
      refine PyProof.Rows.getItem_tuple (isTup_of H.keep hg) (by lia) (by lia) ?_ (by rw [List.getElem?_toArray]; exact hv) (h s.toks v rv)
      unfold seqIndex?
      rw [List.size_toArray, hl]
      have e1 : ¬ k < 0 := by lia
      dsimp only
      rw [if_neg e1, if_pos (by simp [hb.1, hb.2])]
    | _ => exact (noF e).elim
  | dict l =>
    induction y using Mine.V.casesOn with
    | int k =>
      obtain ⟨t, rfl⟩ := rw'
      obtain ⟨a, kvs, rfl, hd, hk⟩ := HeldD.dictOf (B := B) hu
      obtain ⟨v, hv, rv⟩ := (hk.look k).1 z e
      exact wpAny_getItem_of (intKind_is _ _ k t) hd.mapOf hv (h _ v rv)
    | _ => exact (noF e).elim
  | _ => exact (noF e).elim
end
end Mine
namespace Mine
open PySem PySem.Calls
inductive Hd : Expr → Prop
  | const {c : Const} {k : Nat} {p : Pos} : Hd (.Constant c k p)
  | name {x : Str} {p : Pos} : Hd (.Name x p)
  | bin {a b : Expr} {o : Operator} {p : Pos} : Hd (.BinOp a o b p)
  | un {a : Expr} {o : UnaryOp} {p : Pos} : Hd (.UnaryOp o a p)
  | bop {o : BoolOp} {es : List Expr} {p : Pos} : Hd (.BoolOp o es p)
  | cmp {a : Expr} {os : List CmpOp} {es : List Expr} {p : Pos} : Hd (.Compare a os es p)
  | ite {a b c : Expr} {p : Pos} : Hd (.IfExp a b c p)
  | list {es : List Expr} {p : Pos} : Hd (.List es p)
  | tup {es : List Expr} {k : Nat} {p : Pos} : Hd (.Tuple es k p)
  | call {f : Expr} {es : List Expr} {p : Pos} : Hd (.Call f es [] p)
  | sub {a i : Expr} {p : Pos} : Hd (.Subscript a i p)
  | comp {a : Expr} {g : List Comprehension} {sc : Scope} {p : Pos} : Hd (.ListComp a g sc p)
noncomputable def TV (cx : Cx) (e : Expr) (m : ME) : Prop := match e with
  | .List es _ => m = .stuck ∨ ∃ ms, m = .list ms ∧ es.length ≤ 1000 ∧ TL cx es ms
  | .BinOp l op b _ => m = .stuck ∨ ∃ o ma mb, m = .bin o ma mb ∧ bopOf op = some o ∧ T cx l ma ∧ T cx b mb
  | .ListComp elt gens scope _ => m = .stuck ∨ ∃ cx' it t mt k ms mcs cs melt, gens = [⟨t, it, cs, 0⟩] ∧ m = .comp melt mt k ms mcs ∧ CompOk cx cx' scope t ∧ tgtOk k t = true ∧ TI cx it k ms ∧ TT cx' t mt ∧ TL cx' cs mcs ∧ T cx' elt melt
  | .Dict _ _ _ => m = .stuck
  | _ => True
theorem TV.stuck {cx : Cx} (e : Expr) : TV cx e .stuck := by
  induction e using PySem.Expr.casesOn with
  | List => exact .inl rfl
  | BinOp => exact .inl rfl
  | ListComp => exact .inl rfl
  | Dict => exact rfl
  | _ => exact True.intro
noncomputable def TW (cx : Cx) (e : Expr) (m : ME) : Prop := okE e = true ∧ (m ≠ .stuck → Hd e) ∧ TV cx e m
theorem TW.mk {cx : Cx} {e : Expr} {m : ME} (h1 : okE e = true) (h2 : Hd e) (h3 : TV cx e m) : TW cx e m := ⟨h1, fun _ => h2, h3⟩
theorem T.view {cx : Cx} {e : Expr} {m : ME} (h : T cx e m) : TW cx e m := by
  refine T.cases (P := TW cx) ?stuck ?cint ?cbool ?cstr ?var ?glob ?bin ?un ?bop ?cmp ?ite ?list ?tup ?call ?prim ?meth ?sub ?slice ?comp h
  case stuck => intro e h; exact ⟨h, fun q => absurd rfl q, TV.stuck _⟩
  case bin => intro op o a b ma mb pos ho ta tb; exact .mk rfl .bin (.inr ⟨_, _, _, rfl, ho, ta, tb⟩)
  case list => intro es ms pos hz tl; exact .mk rfl .list (.inr ⟨_, rfl, hz, tl⟩)
  case comp => intro cx' elt it t mt k ms mcs cs melt scope pos hs hk ti tt tcs tel; exact .mk rfl .comp (.inr ⟨_, _, _, _, _, _, _, _, _, rfl, rfl, hs, hk, ti, tt, tcs, tel⟩)
  all_goals (intros; exact .mk rfl (by constructor) True.intro)
theorem T.hd {cx : Cx} {e : Expr} {m : ME} (h : T cx e m) : okE e = true ∧ (m ≠ .stuck → Hd e) := ⟨h.view.1, h.view.2.1⟩
theorem T.list_inv {cx : Cx} {es : List Expr} {pos : Pos} {m : ME} (t : T cx (.List es pos) m) : m = .stuck ∨ ∃ ms, m = .list ms ∧ es.length ≤ 1000 ∧ TL cx es ms := t.view.2.2
theorem T.bin_inv {cx : Cx} {l b : Expr} {op : Operator} {pos : Pos} {m : ME} (t : T cx (.BinOp l op b pos) m) : m = .stuck ∨ ∃ o ma mb, m = .bin o ma mb ∧ bopOf op = some o ∧ T cx l ma ∧ T cx b mb := t.view.2.2
theorem T.dict_inv {cx : Cx} {ks : List (Option Expr)} {vs : List Expr} {pos : Pos} {m : ME} (t : T cx (.Dict ks vs pos) m) : m = .stuck := t.view.2.2
theorem T.comp_inv {cx : Cx} {elt : Expr} {gens : List Comprehension} {scope : Scope} {pos : Pos} {m : ME} (t : T cx (.ListComp elt gens scope pos) m) :
    m = .stuck ∨ ∃ cx' it t mt k ms mcs cs melt, gens = [⟨t, it, cs, 0⟩] ∧ m = .comp melt mt k ms mcs ∧ CompOk cx cx' scope t ∧ tgtOk k t = true ∧ TI cx it k ms ∧ TT cx' t mt ∧ TL cx' cs mcs ∧ T cx' elt melt := t.view.2.2
theorem okStar {e : Expr} (h : okE e = true) (rest : List Expr) (env : Env) : starEach (e :: rest) env = (false, eval e env) :: starEach rest env := by
  induction e using PySem.Expr.casesOn <;> first | rfl | exact nomatch h
theorem okSet {e : Expr} (h : okE e = true) : (∀ op, behindInMarks op e = false) ∧ ∀ env x, foldedSetIterable e env x = pure x := by
  induction e using PySem.Expr.casesOn <;> first | exact ⟨fun _ => rfl, fun _ _ => rfl⟩ | exact nomatch h
theorem T.notStar {cx : Cx} {e : Expr} {m : ME} (h : T cx e m) (rest : List Expr) (env : Env) : starEach (e :: rest) env = (false, eval e env) :: starEach rest env := okStar h.hd.1 rest env
theorem T.notSet {cx : Cx} {e : Expr} {m : ME} (h : T cx e m) : (∀ op, behindInMarks op e = false) ∧ ∀ env x, foldedSetIterable e env x = pure x := okSet h.hd.1
theorem T.var_inv {cx : Cx} {e : Expr} {i : Nat} (t : T cx e (.var i)) : ∃ x p, e = .Name x p ∧ cx.vars.lookup x = some i ∧ (x == ("__debug__" : Str)) = false := t
noncomputable def BSpec (B : Base) (n : Nat) (ev : Sig → ME → Option V) : Prop :=
  ∀ cx e me, T cx e me → cxOk B cx → ∀ σ v b, ev σ me = some v → v.truthy = some b → ∀ (A : Around) (env : Env) (G : GMap) (s : Shared), Room A n → EnvB cx env → Hp B G s → Rd cx env σ G s.heap →
    ∀ Q : Bool → Shared → Prop, (∀ G' s', Ext B G s G' s' → Q b s') → Wp B A (isTrue e env (eval e env)) Q s
section
variable {B : Base} {n : Nat} {ev : Sig → ME → Option V}
set_option tactic.hygienic true in
theorem refV_var {σ : Sig} {i : Nat} {v : V} (e : refV ev σ (.var i) = some v) : σ.at i = .fz v ∨ σ.at i = .own v := by
  unfold refV at e
  dsimp only at e
  split at e
  · rename_i h; cases e; exact .inl h
  · rename_i h; cases e; exact .inr h
  · cases e
theorem read_ref {cx : Cx} {env : Env} {σ : Sig} {G : GMap} {s : Shared} (H : Hp B G s) (R : Rd cx env σ G s.heap) {x : Str} {i : Nat} (hx : cx.vars.lookup x = some i) {v : V} (e : σ.at i = .fz v ∨ σ.at i = .own v) :
    ∃ u, Reads1 cx env s.heap x u ∧ Held G s.heap u v := by
  have z := R.ent x i hx
  rcases e with e | e
  · rw [e] at z; obtain ⟨u, a, b⟩ := z; exact ⟨u, a, b.held H⟩
  · rw [e] at z; obtain ⟨a, r, b⟩ := z; exact ⟨_, r, b.held⟩
theorem ref_spec (ok : BaseOK B) (IH : ESpec B n ev) {cx : Cx} {e : Expr} {me : ME} (t : T cx e me) (hc : cxOk B cx) {σ : Sig} {v : V} (he : refV ev σ me = some v) {A : Around} {env : Env} {G : GMap} {s : Shared} (hr : Room A n) (X : EnvB cx env) (H : Hp B G s)
    (R : Rd cx env σ G s.heap) {Q : Value → Shared → Prop} (h : ∀ G' s' u, Ext B G s G' s' → Held G' s'.heap u v → Q u s') : Wp B A (eval e env) Q s := by
  by_cases hv : ∃ i, me = .var i
  · obtain ⟨i, rfl⟩ := hv
    obtain ⟨x, p, rfl, hx, hd⟩ := t.var_inv
    obtain ⟨u, r, b⟩ := read_ref H R hx (refV_var he)
    exact wpAny_Name (load_var X r (h G s u (.refl H) b)) hd
  · have he' : ev σ me = some v := by
      unfold refV at he
      split at he
      · exact absurd ⟨_, rfl⟩ hv
      · exact he
    exact IH cx e me t hc σ v he' A env G s hr X H R Q fun G' s' u x r => h G' s' u x (r.held x.hp)
theorem list_spec (ok : BaseOK B) (IH : ESpec B n ev) {cx : Cx} (hc : cxOk B cx) {σ : Sig} {env : Env} (X : EnvB cx env) {A : Around} (hr : Room A n) (pos : Pos) : ∀ {es : List Expr} {ms : List ME}, TL cx es ms → ∀ {vs : List V}, evL ev σ ms = some vs →
    ∀ {G : GMap} {s : Shared}, Hp B G s → Rd cx env σ G s.heap → ∀ {Q : List Value → Shared → Prop}, (∀ G' s' us, Ext B G s G' s' → Reps G' us vs → Q us s') → Wp B A (spliced (backTo pos (starEach es env))) Q s := by
  intro es ms
  induction ms generalizing es with
  | nil =>
    intro t vs e G s H _ Q h
    obtain rfl := t
    exact wpAny_items_nil (h G s [] (.refl H) (Option.some.inj e ▸ .nil))
  | cons m ms ih =>
    intro t vs e G s H R Q h
    obtain ⟨e1, l, rfl, t, r⟩ := t
    obtain ⟨v, vs', hv, hvs, rfl⟩ := evL_inv e
    refine wpAny_items_cons (IH _ _ _ t hc σ v hv A env G s hr X H R _ fun G1 s1 u x1 ru => ?_) (t.notStar _ _)
    exact ih r hvs x1.hp (R.ext ok H x1) fun G2 s2 us x2 rus => h G2 s2 _ (x1.trans x2) (.cons (ru.mono x2.le) rus)
theorem evL_len {σ : Sig} {cx : Cx} {ms : List ME} {es : List Expr} (t : TL cx es ms) {vs : List V} (e : evL ev σ ms = some vs) : vs.length = es.length := by
  induction ms generalizing es vs with
  | nil => obtain rfl := t; exact Option.some.inj e ▸ rfl
  | cons m ms ih =>
    obtain ⟨e1, l, rfl, t, r⟩ := t
    obtain ⟨v, vs', hv, hvs, rfl⟩ := evL_inv e
    exact congrArg (· + 1) (ih r hvs)
theorem boolOp_spec (ok : BaseOK B) (IH : ESpec B n ev) {cx : Cx} (hc : cxOk B cx) {σ : Sig} {env : Env} (X : EnvB cx env) {A : Around} (hr : Room A n) (pos : Pos) (op : BoolOp) : ∀ {es : List Expr} {ms : List ME}, TL cx es ms → ∀ {v : V}, bopV ev σ (isAndOf op) ms = some v →
    ∀ {G : GMap} {s : Shared}, Hp B G s → Rd cx env σ G s.heap → ∀ {Q : Value → Shared → Prop}, (∀ G' s' u, Ext B G s G' s' → Rep G' u v → Q u s') → Wp B A (boolOp pos op (evalEach es env)) Q s := by
  intro es ms
  induction ms generalizing es with
  | nil => intro _ _ e; exact (noF e).elim
  | cons m ms ih =>
    intro t v e G s H R Q h
    obtain ⟨e1, l, rfl, t, r⟩ := t
    induction ms using List.casesOn with
    | nil => obtain rfl := r; exact IH _ _ _ t hc σ v e A env G s hr X H R _ h
    | cons m2 ms =>
      obtain ⟨e2, es, rfl, t2, r2⟩ := id r
      unfold bopV at e
      set_option smartUnfolding false in refine mE e fun x hx e => ?_
      set_option smartUnfolding false in refine mE e fun b hb e => ?_
      show Wp B A (do
        let v ← eval e1 env
        standAt pos
        let t ← holding [v] (truthy v)
        match op, t with
        | .And, false | .Or, true => pure v
        | _, _ => boolOp pos op (evalEach (e2 :: es) env)) Q s
      refine wpAny_bind (IH _ _ _ t hc σ x hx A env G s hr X H R _ fun G1 s1 u x1 ru => ?_)
      refine wpAny_bind (wpAny_standAt (wpAny_bind (wpAny_holding (truthy_rep ok x1.hp ru hb fun tk => ?_))))
      have x1' : Ext B G s G1 { s1 with toks := tk } := x1.trans (Ext.toks ok x1.hp)
      have go : bopV ev σ (isAndOf op) (m2 :: ms) = some v → Wp B A (boolOp pos op (evalEach (e2 :: es) env)) Q { s1 with toks := tk } := fun e => ih r e x1'.hp (R.ext ok H x1') fun G2 s2 u2 x2 r2 => h G2 s2 u2 (x1'.trans x2) r2
      have pu : some x = some v → Wp B A (pure u) Q { s1 with toks := tk } := fun e => wpAny_pure (h G1 _ u x1' (Option.some.inj e ▸ ru))
      induction op using PySem.BoolOp.casesOn <;> induction b using Bool.casesOn
      · exact pu e
      · exact go e
      · exact go e
      · exact pu e
end
end Mine
namespace Mine
open PySem PySem.Calls
section
variable {B : Base} {n : Nat} {ev : Sig → ME → Option V}
theorem cop_last {cx : Cx} (ok : BaseOK B) (IH : ESpec B n ev) (hc : cxOk B cx) {σ : Sig} {env : Env} (X : EnvB cx env) {A : Around} (hr : Room A n) {e : Expr} {m : ME} (t : T cx e m) {o : Cop} {y : V}
    (he : (if o = .mem ∨ o = .nmem then refV ev σ m else ev σ m) = some y) {G : GMap} {s : Shared} (H : Hp B G s) (R : Rd cx env σ G s.heap) {Q : Value → Shared → Prop}
    (h : ∀ G' s' u, Ext B G s G' s' → Held G' s'.heap u y → (o = .mem ∨ o = .nmem ∨ Rep G' u y) → Q u s') : Wp B A (eval e env) Q s := by
  by_cases q : o = .mem ∨ o = .nmem
  · rw [if_pos q] at he
    exact ref_spec ok IH t hc he hr X H R fun G' s' u x hh => h G' s' u x hh (by rcases q with q | q <;> simp [q])
  · rw [if_neg q] at he
    exact IH _ _ _ t hc σ y he A env G s hr X H R _ fun G' s' u x r => h G' s' u x (r.held x.hp) (.inr (.inr r))
theorem Room.u200 {A : Around} (r : Room A n) : A.units + 200 < cLine := by have := r.units; lia
set_option tactic.hygienic true in
theorem cmp1_spec (ok : BaseOK B) (IH : ESpec B n ev) {cx : Cx} (hc : cxOk B cx) {σ : Sig} {env : Env} (X : EnvB cx env) {A : Around} (hr : Room A n) {op : CmpOp} {o : Cop} (ho : copOf op = some o) {b : Expr} {mb : ME} (t : T cx b mb)
    {x : V} {c : Bool} (e : cmp1V ev σ x o mb = some c) {u : Value} {G : GMap} {s : Shared} (H : Hp B G s) (R : Rd cx env σ G s.heap) (ru : Rep G u x) {Q : Value → Shared → Prop} (h : ∀ G' s', Ext B G s G' s' → Q (.bool c) s') :
    Wp B A (eval b env) (fun w s2 => Wp B A (compareOp op u w) Q s2) s := by
  unfold cmp1V at e
  split at e
  · rename_i y hy
    refine cop_last ok IH hc X hr t hy H R fun G1 s1 w x1 hh hw => ?_
    exact cmp_op ok x1.hp hr.u200 ho (ru.mono x1.le) hh hw e fun tk => h G1 _ (x1.trans (Ext.toks ok x1.hp))
  · cases e
theorem cmp_spec (ok : BaseOK B) (IH : ESpec B n ev) {cx : Cx} (hc : cxOk B cx) {σ : Sig} {env : Env} (X : EnvB cx env) {A : Around} (hr : Room A n) {op : CmpOp} {o : Cop} (ho : copOf op = some o) {a b : Expr} {ma mb : ME} (ta : T cx a ma) (tb : T cx b mb)
    {x : V} (ex : ev σ ma = some x) {c : Bool} (e : cmp1V ev σ x o mb = some c) {G : GMap} {s : Shared} (H : Hp B G s) (R : Rd cx env σ G s.heap) {Q : Value → Shared → Prop} (h : ∀ G' s', Ext B G s G' s' → Q (.bool c) s') :
    Wp B A (eval a env) (fun u s1 => Wp B A (eval b env) (fun w s2 => Wp B A (compareOp op u w) Q s2) s1) s :=
  IH _ _ _ ta hc σ x ex A env G s hr X H R _ fun G1 s1 u x1 ru =>
    cmp1_spec ok IH hc X hr ho tb e x1.hp (R.ext ok H x1) ru fun G2 s2 x2 => h G2 s2 (x1.trans x2)
theorem wp_rel {M : Model} {A : Around} {E : Value → Shared → Prop} {vs keep : List Value} {Q : Unit → Shared → Prop} {s : Shared} (h : Q () s) : wpAny M A (release vs keep) Q E s := fun Γ p _ => by
  rw [Sem.wp_release]; exact h
theorem wpAny_Compare2 {M : Model} {A : Around} {E : Value → Shared → Prop} {s : Shared} {env : Env} {a b c : Expr} {op1 op2 : CmpOp} {pos : Pos} {Q : Value → Shared → Prop} (hc : ∀ op, behindInMarks op c = false)
    (h : wpAny M A (eval a env) (fun u s1 => wpAny M A (eval b env) (fun w s2 => wpAny M A (compareOp op1 u w) (fun t s3 => wpAny M A (truthy t) (fun p s4 => if p then wpAny M A (eval c env) (fun z s5 => wpAny M A (compareOp op2 w z) Q E s5) E s4 else Q t s4) E s3) E s2) E s1) E s) :
    wpAny M A (eval (.Compare a [op1, op2] [b, c] pos) env) Q E s := by
  show wpAny M A (do compareChain pos (← eval a env) [op1, op2] [eval b env, markedBehindIn op2 c (eval c env)]) Q E s
  rw [markedBehindIn_of_false (hc op2)]
  refine wpAny_bind (wpAny_mono h (fun u s1 h1 => ?_) fun _ _ x => x)
  show wpAny M A (do
    let rv ← holding [u] (eval b env)
    standAt pos
    let c' ← holding [u, rv] (compareOp op1 u rv)
    release [u, rv] [c']
    if ← holding [c', rv] (truthy c') then compareChain pos rv [op2] [eval c env] else pure c') Q E s1
  refine wpAny_bind (wpAny_holding (wpAny_mono h1 (fun w s2 h2 => wpAny_bind (wpAny_standAt (wpAny_bind (wpAny_holding (wpAny_mono h2 (fun t s3 h3 => ?_) fun _ _ x => x))))) fun _ _ x => x))
  refine wpAny_bind (wp_rel (wpAny_bind (wpAny_holding (wpAny_mono h3 (fun q s4 h4 => ?_) fun _ _ x => x))))
  induction q using Bool.casesOn with
  | false => exact wpAny_pure h4
  | true =>
    show wpAny M A (do
      let rv ← holding [w] (eval c env)
      standAt pos
      operate [w, rv] (compareOp op2 w rv)) Q E s4
    exact wpAny_bind (wpAny_holding (wpAny_mono h4 (fun z s5 h5 => wpAny_bind (wpAny_standAt (wpAny_operating h5))) fun _ _ x => x))
theorem wpAny_isTrue_Compare2 {M : Model} {A : Around} {E : Value → Shared → Prop} {s : Shared} {env : Env} {a b c : Expr} {op1 op2 : CmpOp} {pos : Pos} {Q : Bool → Shared → Prop} (hc : ∀ op, behindInMarks op c = false) {whole : Sem Value}
    (h : wpAny M A (eval a env) (fun u s1 => wpAny M A (eval b env) (fun w s2 => wpAny M A (compareOp op1 u w) (fun t s3 => wpAny M A (truthy t) (fun p s4 => if p then wpAny M A (eval c env) (fun z s5 => wpAny M A (compareOp op2 w z) (fun t2 s6 => wpAny M A (truthy t2) Q E s6) E s5) E s4 else Q false s4) E s3) E s2) E s1) E s) :
    wpAny M A (isTrue (.Compare a [op1, op2] [b, c] pos) env whole) Q E s := by
  show wpAny M A (do testChain pos (← eval a env) [op1, op2] [eval b env, markedBehindIn op2 c (eval c env)]) Q E s
  rw [markedBehindIn_of_false (hc op2)]
  refine wpAny_bind (wpAny_mono h (fun u s1 h1 => ?_) fun _ _ x => x)
  show wpAny M A (do
    let rv ← holding [u] (eval b env)
    standAt pos
    let c' ← holding [u, rv] (compareOp op1 u rv)
    release [u, rv] [c']
    if ← holding [c', rv] (truthy c') then testChain pos rv [op2] [eval c env] else pure false) Q E s1
  refine wpAny_bind (wpAny_holding (wpAny_mono h1 (fun w s2 h2 => wpAny_bind (wpAny_standAt (wpAny_bind (wpAny_holding (wpAny_mono h2 (fun t s3 h3 => ?_) fun _ _ x => x))))) fun _ _ x => x))
  refine wpAny_bind (wp_rel (wpAny_bind (wpAny_holding (wpAny_mono h3 (fun q s4 h4 => ?_) fun _ _ x => x))))
  induction q using Bool.casesOn with
  | false => exact wpAny_pure h4
  | true =>
    show wpAny M A (do
      let rv ← holding [w] (eval c env)
      standAt pos
      let c' ← operate [w, rv] (compareOp op2 w rv)
      holding [c'] (truthy c')) Q E s4
    exact wpAny_bind (wpAny_holding (wpAny_mono h4 (fun z s5 h5 => wpAny_bind (wpAny_standAt (wpAny_bind (wpAny_operating (wpAny_mono h5 (fun t2 s6 h6 => wpAny_holding h6) fun _ _ x => x))))) fun _ _ x => x))
end
end Mine
namespace Mine
open PySem PySem.Calls
theorem take_drop_range {α : Type} (l : List α) (a b : Nat) : (l.drop a).take (b - a) = (l.take b).drop a := by
  rw [List.drop_take]
theorem bound_eq (n : Nat) (i : Int) : (bound n i : Int) = max 0 (min (if i < 0 then i + n else i) n) := by
  unfold bound
  split
  · by_cases h : 0 ≤ i + n
    · have : ((i + n).toNat : Int) = i + n := Int.toNat_of_nonneg h
      rw [this]; omega
    · have : (i + n).toNat = 0 := by omega
      rw [this]; omega
  · omega
theorem slicePick_L (vs : List Value) (lo hi : Option Int) : slicePick vs.toArray lo hi none = (sliceL vs lo hi).toArray := by
  have key : sliceBounds lo hi none vs.toArray.size = (((match lo with | some i => bound vs.length i | none => 0 : Nat) : Int), ((match hi with | some i => bound vs.length i | none => vs.length : Nat) : Int), 1) := by
    simp only [sliceBounds, Option.getD_none, List.size_toArray, show (1 : Int) > 0 by decide, if_true]
    congr 1
    · induction lo using Option.casesOn with
      | none => rfl
      | some i => dsimp only; rw [bound_eq]
    · congr 1
      induction hi using Option.casesOn with
      | none => rfl
      | some i => dsimp only; rw [bound_eq]
  unfold slicePick
  rw [key]
  simp only [sliceRange_one, pick_run]
  unfold sliceL
  rw [take_drop_range]
  try rfl
theorem sliceL_len {α : Type} (l : List α) (lo hi : Option Int) : (sliceL l lo hi).length ≤ l.length := by
  unfold sliceL
  dsimp only
  rw [List.length_drop, List.length_take]; omega
theorem sliceL_reps {G : GMap} {vs : List Value} {l : List V} (r : Reps G vs l) (lo hi : Option Int) : Reps G (sliceL vs lo hi) (sliceL l lo hi) := by
  unfold sliceL
  dsimp only
  rw [r.length]
  exact (r.take _).drop _
section
variable {B : Base} {n : Nat} {ev : Sig → ME → Option V}
theorem tail_op (ok : BaseOK B) {A : Around} {G : GMap} {s : Shared} (H : Hp B G s) {u w : Value} {x y z : V} (hu : Held G s.heap u x) (rw' : Rep G w y) (e : getV x y = some z) {value slice : Expr}
    (hs : subscripted slice false u w = operate [u, w] (getItem u w)) {Q : Value → Shared → Prop}
    (h : ∀ tk v, Rep G v z → Q v { s with toks := tk }) : Wp B A (PyProof.Rows.subscriptTail value slice u w) Q s := by
  have g := getItem_op (A := A) ok H hu rw' e h
  induction x using Mine.V.casesOn with
  | list l =>
    obtain ⟨a, vs, n, rfl, hl, _⟩ := hu
    exact PyProof.Rows.tail_any (isList_of hl).typeIs slot_list_getitem.lookup g hs
  | tup l =>
    obtain ⟨a, vs, rfl, hg, _⟩ := hu
    exact PyProof.Rows.tail_any (isTup_of H.keep hg).typeIs F.slot_tuple_getitem.lookup g hs
  | dict l =>
    obtain ⟨a, kvs, rfl, hd, _⟩ := HeldD.dictOf (B := B) hu
    exact PyProof.Rows.tail_any hd.typeIs slot_dict_getitem.lookup g hs
  | _ => exact (noF e).elim
theorem T.notSlice {cx : Cx} {e : Expr} {m : ME} (h : T cx e m) (he : m ≠ .stuck) (o i : Value) : subscripted e false o i = operate [o, i] (getItem o i) := by
  have hd := h.hd.2 he
  induction hd using Mine.Hd.casesOn <;> rfl
theorem sub_spec (ok : BaseOK B) (IH : ESpec B n ev) {cx : Cx} (hc : cxOk B cx) {σ : Sig} {env : Env} (X : EnvB cx env) {A : Around} (hr : Room A n) {a i : Expr} {ma mi : ME} (ta : T cx a ma) (ti : T cx i mi) (hs : mi ≠ .stuck)
    {x y z : V} (ex : refV ev σ ma = some x) (ey : ev σ mi = some y) (e : getV x y = some z) {G : GMap} {s : Shared} (H : Hp B G s) (R : Rd cx env σ G s.heap) {pos : Pos} {Q : Value → Shared → Prop}
    (h : ∀ G' s' u, Ext B G s G' s' → Rep G' u z → Q u s') : Wp B A (eval (.Subscript a i pos) env) Q s := by
  refine PyProof.Rows.Subscript_ (ref_spec ok IH ta hc ex hr X H R fun G1 s1 u x1 hu => ?_)
  refine IH _ _ _ ti hc σ y ey A env G1 s1 hr X x1.hp (R.ext ok H x1) _ fun G2 s2 w x2 rw' => ?_
  exact tail_op ok x2.hp (hu.ext ok x1.hp x2) rw' e (ti.notSlice hs u w) fun tk v rv => h G2 _ v ((x1.trans x2).trans (Ext.toks ok x2.hp)) rv
theorem opt_spec (ok : BaseOK B) (IH : ESpec B n ev) {cx : Cx} (hc : cxOk B cx) {σ : Sig} {env : Env} (X : EnvB cx env) {A : Around} (hr : Room A n) {e : Option Expr} {m : Option ME} (t : TO cx e m) {x : Option Int} (ex : optV ev σ m = some x)
    {G : GMap} {s : Shared} (H : Hp B G s) (R : Rd cx env σ G s.heap) {Q : Value → Shared → Prop} (h : ∀ G' s' u, Ext B G s G' s' → IsPart u x → Q u s') : Wp B A (evalPart e env) Q s := by
  induction m using Option.casesOn with
  | none => obtain rfl := t; exact wpAny_pure (h G s _ (.refl H) (Option.some.inj ex ▸ .none))
  | some m =>
    obtain ⟨e', rfl, t⟩ := t
    refine mI ex fun i hi ex => ?_
    exact IH _ _ _ t hc σ _ hi A env G s hr X H R _ fun G' s' u x ⟨_, r⟩ => h G' s' _ x (r ▸ Option.some.inj ex ▸ .int _ _)
theorem slice_spec (ok : BaseOK B) (IH : ESpec B n ev) {cx : Cx} (hc : cxOk B cx) {σ : Sig} {env : Env} (X : EnvB cx env) {A : Around} (hr : Room A n) {a : Expr} {lo hi : Option Expr} {ma : ME} {mlo mhi : Option ME} (ta : T cx a ma) (tl : TO cx lo mlo) (th : TO cx hi mhi)
    {l : List V} {x y : Option Int} (el : refV ev σ ma = some (.list l)) (ex : optV ev σ mlo = some x) (ey : optV ev σ mhi = some y) {G : GMap} {s : Shared} (H : Hp B G s) (R : Rd cx env σ G s.heap) {p2 pos : Pos} {Q : Value → Shared → Prop}
    (h : ∀ G' s' u, Ext B G s G' s' → Rep G' u (.list (sliceL l x y)) → Q u s') : Wp B A (eval (.Subscript a (.Slice lo hi none p2) pos) env) Q s := by
  refine PyProof.Rows.Subscript_ (ref_spec ok IH ta hc el hr X H R fun G1 s1 u x1 hu => ?_)
  refine wpAny_Slice (opt_spec ok IH hc X hr tl ex x1.hp (R.ext ok H x1) fun G2 s2 vl x2 pl => ?_)
  refine opt_spec ok IH hc X hr th ey x2.hp ((R.ext ok H x1).ext ok x1.hp x2) fun G3 s3 vu x3 pu => ?_
  rw [evalPart_none]
  refine wpAny_pure ?_
  have hu3 := (hu.ext ok x1.hp x2).ext ok x2.hp x3
  obtain ⟨a, vs, k, rfl, hl, rr, hz⟩ := hu3
  have l1 := rr.length
  have hl' := Heap.get?_push_of_some { cls := .type "slice", data := .fields #[vl, vu, .none] } hl
  refine PyProof.Rows.tail_any (ops := _) (isList_of hl').typeIs list_getitem_lookup (wpAny_getItem_list_slice (isList_of hl') (Heap.IsSliceOf.new ..) pl pu .none (by simp) ?_ (by rw [List.size_toArray, l1]; exact hz)) rfl
  rw [slicePick_L]
  have x4 : Ext B G3 s3 G3 { s3 with heap := s3.heap.push { cls := .type "slice", data := .fields #[vl, vu, .none] } } := Ext.grown (tk := s3.toks) ok x3.hp fun _ _ e => Heap.get?_push_of_some _ e
  have x5 := Ext.push (tk := s3.toks) ok x4.hp (o := listO (sliceL vs x y) 0) rfl (by intro q; cases q)
  refine h _ _ _ (((x1.trans x2).trans x3).trans (x4.trans x5)) (.list (GMap.add_at _ _ _) ((sliceL_reps rr x y).mono x5.le) ?_)
  have := sliceL_len l x y
  omega
theorem listD_spec (ok : BaseOK B) (IH : ESpec B n ev) {cx : Cx} (hc : cxOk B cx) {σ : Sig} {env : Env} (X : EnvB cx env) {A : Around} (hr : Room A n) {es : List Expr} {ms : List ME} (hz : es.length ≤ 1000) (t : TL cx es ms) {vs : List V} (e : evL ev σ ms = some vs)
    {G : GMap} {s : Shared} (H : Hp B G s) (R : Rd cx env σ G s.heap) {pos : Pos} {Q : Value → Shared → Prop}
    (h : ∀ G' s' us, Ext B G s G' s' → Reps G' us vs → us.length ≤ 1000 → Q (.ref s'.heap.objs.size) { s' with heap := s'.heap.push (listO us 0) }) : Wp B A (eval (.List es pos) env) Q s := by
  refine wpAny_List (list_spec ok IH hc X hr pos t e H R fun G1 s1 us x1 r => ?_)
  have : vs.length ≤ 1000 := (evL_len t e).symm ▸ hz
  have l1 := r.length
  have := szLine
  exact ⟨by omega, h G1 s1 us x1 r (by omega)⟩
theorem tupD_spec (ok : BaseOK B) (IH : ESpec B n ev) {cx : Cx} (hc : cxOk B cx) {σ : Sig} {env : Env} (X : EnvB cx env) {A : Around} (hr : Room A n) {es : List Expr} {ms : List ME} (hz : es.length ≤ 1000) (t : TL cx es ms) {vs : List V} (e : evL ev σ ms = some vs)
    {G : GMap} {s : Shared} (H : Hp B G s) (R : Rd cx env σ G s.heap) {k : Nat} {pos : Pos} {Q : Value → Shared → Prop}
    (h : ∀ G' s' u, Ext B G s G' s' → Rep G' u (.tup vs) → Q u s') : Wp B A (eval (.Tuple es k pos) env) Q s := by
  refine wpAny_Tuple (list_spec ok IH hc X hr pos t e H R fun G1 s1 us x1 r => ?_)
  have : vs.length ≤ 1000 := (evL_len t e).symm ▸ hz
  have l1 := r.length
  have := szLine
  have x2 := Ext.push (tk := s1.toks) ok x1.hp (o := tupO us 0) rfl (by intro q; cases q)
  exact ⟨by omega, h _ _ _ (x1.trans x2) (.tup (.of (GMap.add_at _ _ _)) (r.mono x2.le) (by omega))⟩
end
end Mine
namespace Mine
open PySem PySem.Calls PyProof.Rows
theorem ints_cons {v : V} {l : List V} {ns : List Int} (e : ints? (v :: l) = some ns) : ∃ i ms, v = .int i ∧ ints? l = some ms ∧ ns = i :: ms := by
  induction v using Mine.V.casesOn with
  | int i =>
    obtain ⟨a, e1, e2⟩ := Option.map_eq_some_iff.1 (show (ints? l).map (i :: ·) = some ns from e)
    exact ⟨i, a, rfl, e1, e2.symm⟩
  | _ => exact (noF e).elim
theorem ints_are {G : GMap} {l : List V} {us : List Value} {ns : List Int} (h : Reps G us l) (e : ints? l = some ns) : IntsAre us ns := by
  induction l generalizing us ns with
  | nil => obtain rfl := h; exact Option.some.inj e ▸ .nil
  | cons v l ih =>
    obtain ⟨i, ms, rfl, e1, rfl⟩ := ints_cons e
    obtain ⟨_, us, rfl, ⟨t, rfl⟩, r⟩ := h
    exact .cons _ _ (ih r e1)
theorem ints_len {l : List V} {ns : List Int} (e : ints? l = some ns) : ns.length = l.length := by
  induction l generalizing ns with
  | nil => exact Option.some.inj e ▸ rfl
  | cons v l ih =>
    obtain ⟨i, ms, rfl, e1, rfl⟩ := ints_cons e
    exact congrArg (· + 1) (ih e1)
theorem reps_ints {G : GMap} {us : List Value} {ns : List Int} (h : IntsAre us ns) : Reps G us (ns.map .int) := by
  induction h with
  | nil => exact rfl
  | cons n t r ih => exact .cons (.int n t) ih
theorem insI_perm (x : Int) : ∀ l, (insI x l).Perm (x :: l)
  | [] => .refl _
  | y :: l => by
    unfold insI
    split
    · exact .refl _
    · exact ((insI_perm x l).cons y).trans (.swap x y l)
theorem sortI_perm : ∀ l, (sortI l).Perm l
  | [] => .refl _
  | x :: l => (insI_perm x _).trans ((sortI_perm l).cons x)
set_option tactic.hygienic true in
theorem insI_sorted (x : Int) : ∀ l : List Int, l.Pairwise (· ≤ ·) → (insI x l).Pairwise (· ≤ ·)
  | [], _ => by simp [insI]
  | y :: l, h => by
    unfold insI
    have h' := List.pairwise_cons.mp h
    split
    · rename_i q
      refine List.pairwise_cons.mpr ⟨fun z hz => ?_, h⟩
      rcases List.mem_cons.mp hz with rfl | hz
      · lia
      · have := h'.1 z hz; lia
    · rename_i q
      refine List.pairwise_cons.mpr ⟨fun z hz => ?_, insI_sorted x l h'.2⟩
      rcases List.mem_cons.mp ((insI_perm x l).mem_iff.mp hz) with rfl | hz
      · lia
      · exact h'.1 z hz
theorem sortI_sorted : ∀ l, (sortI l).Pairwise (· ≤ ·)
  | [] => .nil
  | x :: l => insI_sorted x _ (sortI_sorted l)
theorem sort_unique {ns ns' : List Int} (p : ns'.Perm ns) (s : ns'.Pairwise (· ≤ ·)) : ns' = sortI ns :=
  List.Perm.eq_of_pairwise (fun _ _ _ _ a b => Int.le_antisymm a b) s (sortI_sorted ns) (p.trans (sortI_perm ns).symm)
theorem sortI_len (ns : List Int) : (sortI ns).length = ns.length := (sortI_perm ns).length_eq
theorem digitChar_hex {d : Nat} (h : d < 16) : (Nat.digitChar d).toNat = hexDigit d := by
  have : ∀ d : Fin 16, (Nat.digitChar d.1).toNat = hexDigit d.1 := by decide
  exact this ⟨d, h⟩
theorem hexOf_eq : ∀ (f n : Nat), n < 16 ^ (f + 1) → (Nat.toDigits 16 n).map Char.toNat = hexOf (f + 1) n
  | 0, n, h => by
    have q : n < 16 := by simpa using h
    unfold hexOf
    rw [if_pos q, Nat.toDigits_of_lt_base q]; simp [digitChar_hex q]
  | f + 1, n, h => by
    unfold hexOf
    by_cases q : n < 16
    · rw [if_pos q, Nat.toDigits_of_lt_base q]; simp [digitChar_hex q]
    · rw [if_neg q, Nat.toDigits_of_base_le (by decide) (by lia), List.map_append, hexOf_eq f (n / 16) (by rw [Nat.pow_succ] at h; lia)]
      simp [digitChar_hex (Nat.mod_lt n (by decide : 0 < 16))]
theorem hexText {i : Int} (h : 0 ≤ i) (hi : i.toNat < 16 ^ 64) : (baseText "0x" 16 i).cps.toList = [48, 120] ++ hexOf 64 i.toNat := by
  rw [baseText_nonneg h, ← hexOf_eq 63 _ hi]
  have e : i.natAbs = i.toNat := by lia
  rw [e]
  show ((Str.ofString "").cps ++ (Str.ofString "0x").cps ++ (Str.ofString (String.ofList (Nat.toDigits 16 i.toNat))).cps).toList = _
  rw [Array.toList_append, Array.toList_append]
  have a : (Str.ofString "").cps.toList ++ (Str.ofString "0x").cps.toList = [48, 120] := by decide +kernel
  rw [a]
  congr 1
  show (cpsOfBytes 0 0 (String.ofList (Nat.toDigits 16 i.toNat)).toByteArray.data.toList).toArray.toList = _
  rw [cpsOfBytes_string]
  simp
theorem hexOf_len : ∀ (f n : Nat), (hexOf f n).length ≤ f
  | 0, _ => Nat.le_refl _
  | f + 1, n => by
    unfold hexOf
    split
    · simp
    · rw [List.length_append]; have := hexOf_len f (n / 16); simp; lia
noncomputable def primF : Prim → Value
  | .int1 => .type "int"
  | .len => .builtin "len"
  | .max2 => .builtin "max"
  | .min2 => .builtin "min"
  | .sum => .builtin "sum"
  | .sorted => .builtin "sorted"
  | .hex => .builtin "hex"
  | .divmod => .builtin "divmod"
section
variable {B : Base} {G G' : GMap} {s s' : Shared} {A : Around} {n : Nat}
theorem sortedD (H : Hp B G s) (hh : A.handled = none) {d : Addr} {l : List (Int × V)} (hd : HeldD G s.heap (.ref d) l) (lo : (d == sysModules) = false) (h64 : l.length < 64) {Q : Value → Shared → Prop}
    (h : ∀ (h' : Heap) (tk : Nat) (a : Addr) (us : List Value) (k : Nat), (∀ b o, s.heap.get? b = some o → h'.get? b = some o) → s.heap.get? a = none → h'.get? a = some (listO us k) → IntsAre us (sortI (l.map (·.1))) → Q (.ref a) { s with heap := h', toks := tk }) :
    Wp B A (call (.builtin "sorted") [.ref d]) Q s := by
  obtain ⟨a, kvs, e, hD, hk⟩ := hd.dictOf (B := B)
  cases e
  obtain ⟨ep, hat⟩ := hD.dictAt
  have hlen := hk.length
  have hsz := szLine
  refine call_function_entry kind_sorted plain_sorted entry_sorted (args_sorted1 _) ?_
  unfold Builtin.«sorted»
  refine wpAny_bind (m := checkCount "sorted" 1 1 _) (wpAny_pure ?_)
  refine wpAny_bind (PySem.W.kdu_collect (A := A.in1) (PySem.W.kdl_dict (knd := intKind B.prog B.w) (kvs := kvs) (ep := ep) lo) hh hat (by lia) fun h' tk acc kk hacc => ?_)
  have hl : acc.toList.length = l.length := by rw [Array.length_toList, ← hlen]; exact hacc.1
  have hI : IntsAre acc.toList (l.map (·.1)) := by
    have key : ∀ (us : List Value) (ks : List Int), us.length = ks.length → (∀ (j : Nat) (v : Value), us[j]? = some v → ∃ k, ks[j]? = some k ∧ (intKind B.prog B.w).is k v = true) → IntsAre us ks := by
      intro us
      induction us with
      | nil => intro ks e _; induction ks using List.casesOn with
        | nil => exact .nil
        | cons => cases e
      | cons v us ih =>
        intro ks e hv
        induction ks using List.casesOn with
        | nil => cases e
        | cons k ks =>
          obtain ⟨k', hk', hi⟩ := hv 0 v rfl
          cases hk'
          obtain ⟨t, rfl⟩ := Value.isInt_shape hi
          exact .cons _ _ (ih ks (by simpa using e) fun j w hw => hv (j + 1) w hw)
    refine key _ _ (by rw [hl, List.length_map]) fun j v hv => ?_
    obtain ⟨k, x, q, hi⟩ := hacc.2 j v (by rw [← Array.getElem?_toList]; exact hv)
    refine ⟨k, ?_, hi⟩
    rw [← hk.keys, List.getElem?_map, q]; rfl
  refine wpAny_bind (wpAny_newList ?_ (by lia))
  have hoL : (h'.push (seqObj "list" acc.toList.toArray 0)).get? h'.objs.size = some (seqObj "list" acc.toList.toArray 0) := Heap.get?_push_size _ rfl
  refine wpAny_bind (wpAny_holding (wpAny_call_entry slot_list_sort ⟨_, hoL, rfl⟩ entry_list_sort (list_sort_tree (ns := l.map (·.1)) hoL hI (by lia) fun out ns' a1 a2 a3 => ⟨_, rfl, ?_⟩) (args_list_sort _)))
  refine wpAny_pure ⟨_, rfl, ?_⟩
  obtain ⟨e, he⟩ := sortedHeap_at (out := out) hoL
  have hs := sort_unique a2 a3
  subst hs
  refine h _ tk _ out.toList e (fun b o hb => ?_) ?_ (by show _ = some (seqObj "list" out.toList.toArray e); rw [Array.toArray_toList]; exact he) a1
  · have hlt := Heap.lt_size (kk b o hb)
    rw [sortedHeap_old (Nat.ne_of_lt hlt) (by rw [size_push']; exact Nat.lt_succ_of_lt hlt)]
    exact Heap.get?_push_of_some _ (kk b o hb)
  · cases q : s.heap.get? h'.objs.size with
    | none => rfl
    | some o => exact absurd (Heap.lt_size (kk _ _ q)) (Nat.lt_irrefl _)
theorem prim1_op (ok : BaseOK B) (H : Hp B G s) (hh : A.handled = none) {p : Prim} {u : Value} {x z : V} (a : Rep G u x) (e : prim1 p x = some z) {Q : Value → Shared → Prop}
    (h : ∀ G' s' u, Ext B G s G' s' → Rep G' u z → Q u s') : Wp B A (call (primF p) [u]) Q s := by
  have ht : ∀ tk u', Rep G u' z → Q u' { s with toks := tk } := fun tk u' r => h G _ u' (Ext.toks ok H) r
  have hsz := szLine
  have hln := lineN_eq
  induction p using Mine.Prim.casesOn with
  | int1 =>
    induction x using Mine.V.casesOn with
    | int i => obtain ⟨t, rfl⟩ := a; exact call_int_int (ht _ _ (Option.some.inj e ▸ .int _ _))
    | _ => exact (noF e).elim
  | len =>
    induction x using Mine.V.casesOn with
    | list l =>
      obtain ⟨_, _, _, rfl, hG, rr, hz⟩ := a
      have := rr.length
      exact call_len_list (isList_of (H.keep _ _ hG)) (by rw [List.size_toArray]; lia) (ht _ _ (Option.some.inj e ▸ ⟨_, by rw [List.size_toArray, this]⟩))
    | str l =>
      obtain ⟨x, t, rfl, hx, hz⟩ := a
      have := str_len hx
      exact PyProof.Rows.len_str (by lia) (ht _ _ (Option.some.inj e ▸ ⟨_, by rw [this]⟩))
    | _ => exact (noF e).elim
  | sum =>
    induction x using Mine.V.casesOn with
    | list l =>
      obtain ⟨_, _, _, rfl, hG, rr, hz⟩ := a
      obtain ⟨ns, e1, rfl⟩ := Option.map_eq_some_iff.1 e
      have hI := ints_are rr e1
      obtain ⟨xs, hx⟩ := hI.allInts.items
      have hl := isList_of (H.keep _ _ hG)
      have hN := hI.numsOf
      rw [hx] at hl
      refine sum_intListG hh hl fun h' tk t' k => h G _ _ (Ext.grown ok H k) ⟨t', congrArg (Value.int · t') ?_⟩
      rw [preSum_eq, List.take_of_length_le (by simp), ← hN, ← nums_intItems, ← hx]
    | _ => exact (noF e).elim
  | sorted =>
    induction x using Mine.V.casesOn with
    | dict l =>
      obtain ⟨h64, rfl⟩ := iteS e
      have hd : HeldD G s.heap u l := Rep.held (v := .dict l) H a
      obtain ⟨_, _, _, rfl, _⟩ := a
      refine sortedD H hh hd (notSys ok H hd) h64 fun h' tk a us k kk hn ha hI => ?_
      have x1 : Ext B G s G { s with heap := h', toks := tk } := Ext.grown ok H kk
      refine h _ _ _ (Ext.add ok H x1 ha (by intro q; cases q) hn) (.list (GMap.add_at _ _ _) (reps_ints hI) ?_)
      rw [List.length_map, sortI_len, List.length_map]; lia
    | _ => exact (noF e).elim
  | hex =>
    induction x using Mine.V.casesOn with
    | int i =>
      obtain ⟨t, rfl⟩ := a
      obtain ⟨hi, rfl⟩ := iteS e
      have ht' := hexText hi.1 hi.2
      have hl : (baseText "0x" 16 _).length = _ := str_len ht'
      have := hexOf_len 64 (Int.toNat i)
      refine P.hex_of_int (ht _ _ (.str _ _ ht' (by simp; lia))) ?_
      rw [hl]; simp; lia
    | _ => exact (noF e).elim
  | _ => exact (noF e).elim
theorem intP_elim {f : Int → Int → Option V} {u w : Value} {x y z : V} {P : Value → Value → Prop} (e : intP f x y = some z) (ru : Rep G u x) (rw' : Rep G w y) (k : ∀ a t b t', f a b = some z → P (.int a t) (.int b t')) : P u w := by
  obtain ⟨a, b, rfl, rfl, e⟩ := intP_inv e
  obtain ⟨t, rfl⟩ := ru
  obtain ⟨t', rfl⟩ := rw'
  exact k _ _ _ _ e
theorem prim2_op (ok : BaseOK B) (H : Hp B G s) (hh : A.handled = none) {p : Prim} {u w : Value} {x y z : V} (a : Rep G u x) (b : Rep G w y) (e : prim2 p x y = some z) {Q : Value → Shared → Prop}
    (h : ∀ G' s' u, Ext B G s G' s' → Rep G' u z → Q u s') : Wp B A (call (primF p) [u, w]) Q s := by
  induction p using Mine.Prim.casesOn with
  | max2 =>
    refine intP_elim (P := fun u w => Wp B A (call (primF .max2) [u, w]) Q s) e a b fun x t y t' e => max_two_ints hh fun h' tk k => h G _ _ (Ext.grown ok H k) ?_
    rw [← Option.some.inj e]
    split <;> exact ⟨_, rfl⟩
  | divmod =>
    refine intP_elim (P := fun u w => Wp B A (call (primF .divmod) [u, w]) Q s) e a b fun x t y t' e => mIn e fun hz e => ?_
    refine PyProof.Rows.divmod_int (fun q => hz (.inl q)) ?_ (noPy fun q => hz (.inr q))
    refine h _ _ _ (Ext.push ok H (o := tupO [_, _] 0) rfl (by intro q; cases q)) (Option.some.inj e ▸ .tup (.of (n := 0) (GMap.add_at _ _ _)) (.cons (.int _ _) (.cons (.int _ _) .nil)) (show 2 ≤ sizeLine by decide))
  | _ => exact (noF e).elim
theorem prim_op (ok : BaseOK B) (H : Hp B G s) (hh : A.handled = none) {p : Prim} {us : List Value} {vs : List V} {z : V} (r : Reps G us vs) (e : primV p vs = some z) {Q : Value → Shared → Prop}
    (h : ∀ G' s' u, Ext B G s G' s' → Rep G' u z → Q u s') : Wp B A (call (primF p) us) Q s := by
  induction vs using List.casesOn with
  | nil => exact (noF e).elim
  | cons x vs =>
    obtain ⟨u, us, rfl, a, r⟩ := r
    induction vs using List.casesOn with
    | nil => obtain rfl := r; exact prim1_op ok H hh a e h
    | cons y vs =>
      obtain ⟨w, us, rfl, b, r⟩ := r
      induction vs using List.casesOn with
      | nil => obtain rfl := r; exact prim2_op ok H hh a b e h
      | cons _ _ => exact (noF e).elim
end
end Mine
namespace Mine
open PySem PySem.Calls
section
variable {B : Base} {n : Nat} {ev : Sig → ME → Option V}
theorem TL.plain {cx : Cx} {env : Env} {pos : Pos} {ms : List ME} {es : List Expr} (t : TL cx es ms) : (backTo pos (starEach es env)).any (·.1) = false ∧ (backTo pos (starEach es env)).all (fun x => !x.1) = true := by
  induction ms generalizing es with
  | nil => obtain rfl := t; exact ⟨rfl, rfl⟩
  | cons m ms ih =>
    obtain ⟨e, es, rfl, t, r⟩ := t
    rw [t.notStar]
    obtain ⟨a, b⟩ := ih r
    exact ⟨congrArg (false || ·) a, congrArg (true && ·) b⟩
theorem args_spec (ok : BaseOK B) (IH : ESpec B n ev) {cx : Cx} (hc : cxOk B cx) {σ : Sig} {env : Env} (X : EnvB cx env) {A : Around} (hr : Room A n) (pos : Pos) {es : List Expr} {ms : List ME} (t : TL cx es ms) {vs : List V} (e : evL ev σ ms = some vs)
    {G : GMap} {s : Shared} (H : Hp B G s) (R : Rd cx env σ G s.heap) {f : Value} {Q : Args → Shared → Prop} (h : ∀ G' s' us, Ext B G s G' s' → Reps G' us vs → Q ⟨us, []⟩ s') : Wp B A (evalArgs f true (backTo pos (starEach es env)) []) Q s := by
  have key := list_spec ok IH hc X hr pos t e H R (Q := fun us s' => Q ⟨us, []⟩ s') h
  induction ms using List.casesOn with
  | nil =>
    obtain rfl := t
    exact evalArgs_none (h G s [] (.refl H) (Option.some.inj e ▸ .nil))
  | cons m ms =>
    obtain ⟨_, _, rfl, t, r⟩ := t
    rw [t.notStar] at key ⊢
    exact evalArgs_plain key
noncomputable def PName (x : Str) (p : Prim) : Prop := (x == ("__debug__" : Str)) = false ∧ ∀ B : Base, BaseOK B → B.mb x = some (primF p)
theorem prim_name {x : Str} {p : Prim} (h : primOf x = some p) : PName x p := by
  have k : ∀ (y : Str) (q : Prim), PName y q → (x == y) = true → some q = some p → PName x p := fun y q hh e e2 => eq_of_beq e ▸ Option.some.inj e2 ▸ hh
  exact ifE h (k "int" .int1 ⟨by decide +kernel, fun _ ok => ok.pint⟩) fun h => ifE h (k "len" .len ⟨by decide +kernel, fun _ ok => ok.plen⟩) fun h => ifE h (k "max" .max2 ⟨by decide +kernel, fun _ ok => ok.pmax⟩) fun h => ifE h (k "min" .min2 ⟨by decide +kernel, fun _ ok => ok.pmin⟩) fun h => ifE h (k "sum" .sum ⟨by decide +kernel, fun _ ok => ok.psum⟩) fun h => ifE h (k "sorted" .sorted ⟨by decide +kernel, fun _ ok => ok.psorted⟩) fun h => ifE h (k "hex" .hex ⟨by decide +kernel, fun _ ok => ok.phex⟩) fun h => ifE h (k "divmod" .divmod ⟨by decide +kernel, fun _ ok => ok.pdivmod⟩) fun h => (noF h).elim
theorem prim_callWith {A : Around} {p : Prim} {pos : Pos} {args : List (Bool × Sem Value)} {s : Shared} {Q : Value → Shared → Prop} (hplain : args.any (·.1) = false)
    (h : Wp B A (evalArgs (primF p) true args []) (fun a s₁ => Wp B A (call (primF p) ([] ++ a.pos) a.kw) Q s₁) s) : Wp B A (callWith pos (primF p) [] args []) Q s := by
  induction p using Mine.Prim.casesOn
  case int1 => exact PyProof.Rows.callWith_type hplain h
  all_goals exact callWith_builtin hplain h
theorem prim_spec (ok : BaseOK B) (IH : ESpec B n ev) {cx : Cx} (hc : cxOk B cx) {σ : Sig} {env : Env} (X : EnvB cx env) {A : Around} (hr : Room A n) {x : Str} {p : Prim} {p1 pos : Pos} {es : List Expr} {ms : List ME} (hg : cx.glob x) (hf : primOf x = some p) (t : TL cx es ms)
    {vs : List V} {z : V} (e : evL ev σ ms = some vs) (ez : primV p vs = some z) {G : GMap} {s : Shared} (H : Hp B G s) (R : Rd cx env σ G s.heap) {Q : Value → Shared → Prop} (h : ∀ G' s' u, Ext B G s G' s' → Rep G' u z → Q u s') :
    Wp B A (eval (.Call (.Name x p1) es [] pos) env) Q s := by
  have hd := (prim_name hf).1
  have hb := (prim_name hf).2 B ok
  refine PyProof.Rows.Call_Name rfl (load_glob ok H X hg (.inr ⟨ok.prim x p hf, hb⟩) ?_ hd)
  refine prim_callWith (t.plain (env := env) (pos := pos)).1 ?_
  exact args_spec ok IH hc X hr pos t e H R fun G1 s1 us x1 r => prim_op ok x1.hp hr.handled r ez fun G2 s2 u x2 ru => h G2 s2 u (x1.trans x2) ru
/-! ### methods -/
theorem strs_cons {v : V} {l : List V} {ns : List (List Nat)} (e : strs? (v :: l) = some ns) : ∃ i ms, v = .str i ∧ strs? l = some ms ∧ ns = i :: ms := by
  induction v using Mine.V.casesOn with
  | str i =>
    obtain ⟨a, e1, e2⟩ := Option.map_eq_some_iff.1 (show (strs? l).map (i :: ·) = some ns from e)
    exact ⟨i, a, rfl, e1, e2.symm⟩
  | _ => exact (noF e).elim
theorem strs_are {G : GMap} {l : List V} {us : List Value} {ss : List (List Nat)} (h : Reps G us l) (e : strs? l = some ss) : ∃ xs : List (Str × Tok), us = strValues xs ∧ xs.map (·.1) = ss.map strL := by
  induction l generalizing us ss with
  | nil => obtain rfl := h; exact Option.some.inj e ▸ ⟨[], rfl, rfl⟩
  | cons v l ih =>
    obtain ⟨i, ms, rfl, e1, rfl⟩ := strs_cons e
    obtain ⟨_, us, rfl, ⟨x, t, rfl, hx, _⟩, r⟩ := h
    obtain ⟨xs, rfl, h2⟩ := ih r e1
    exact ⟨(x, t) :: xs, rfl, by rw [List.map_cons, List.map_cons, h2, ← hx]; rfl⟩
theorem glued_fold (sep : List Nat) : ∀ (l : List (List Nat)) (acc : Array Nat), ((l.map strL).foldl (fun acc p => acc ++ (strL sep).cps ++ p.cps) acc).toList = acc.toList ++ (l.flatMap fun p => sep ++ p)
  | [], acc => by simp
  | a :: l, acc => by
    rw [List.map_cons, List.foldl_cons, glued_fold sep l]
    simp [strL]
theorem joinS_eq (sep : List Nat) : ∀ (x : List Nat) (l : List (List Nat)), joinS sep (x :: l) = x ++ l.flatMap fun p => sep ++ p
  | x, [] => by simp [joinS]
  | x, y :: l => by
    show x ++ sep ++ joinS sep (y :: l) = _
    rw [joinS_eq sep y l]
    simp
theorem join_text (sep : List Nat) (l : List (List Nat)) : (Txt.join (strL sep) (l.map strL)).cps.toList = joinS sep l := by
  show (Builtin.Str.glued (strL sep) (l.map strL)).cps.toList = _
  unfold Builtin.Str.glued
  induction l using List.casesOn with
  | nil => rfl
  | cons x l =>
    rw [joinS_eq]
    show (((l.map strL)).foldl (fun acc p => acc ++ (strL sep).cps ++ p.cps) (strL x).cps).toList = _
    rw [glued_fold]
    simp [strL]
theorem foldl_sum (sep : Nat) : ∀ (l : List (List Nat)) (k : Nat), (l.map strL).foldl (fun x1 x2 => x1 + x2.length + sep) k = k + (l.map fun x => x.length + sep).sum
  | [], k => by simp
  | a :: l, k => by
    rw [List.map_cons, List.foldl_cons, foldl_sum sep l, List.map_cons, List.sum_cons]
    show k + (strL a).cps.size + sep + _ = _
    simp [strL]; lia
theorem join_ok {sep : List Nat} {l : List (List Nat)} (h : (l.map fun x => x.length + sep.length).sum ≤ lineN) : JoinOk (strL sep) (l.map strL) = true := by
  unfold JoinOk
  rw [← Array.foldl_toList]
  have e : (strL sep).length = sep.length := by show (strL sep).cps.size = _; simp [strL]
  rw [e, foldl_sum]
  have hln := lineN_eq
  have hsz := szLine
  show (!decide (0 + _ > sizeLine)) = true
  rw [decide_eq_false (by lia)]; rfl
noncomputable def methI (m : Meth) (x : V) : String := match m with
  | .join => "str.join"
  | .split => "str.split"
  | .index => (match x with | .str _ => "str.index" | _ => "list.index")
  | .get2 => "dict.get"
  | .bitlen => "int.bit_length"
noncomputable def methT (m : Meth) (x : V) : String := match m with
  | .join => "str"
  | .split => "str"
  | .index => (match x with | .str _ => "str" | _ => "list")
  | .get2 => "dict"
  | .bitlen => "int"
noncomputable def methK (m : Meth) (x : V) : Prop := match m with
  | .join => ∃ s, x = .str s
  | .split => ∃ s, x = .str s
  | .index => (∃ s, x = .str s) ∨ ∃ l, x = .list l
  | .get2 => ∃ l, x = .dict l
  | .bitlen => ∃ i, x = .int i
theorem methK_of {m : Meth} {x z : V} {vs : List V} (e : methV m x vs = some z) : methK m x := by
  have k1 : ∀ {y}, meth1 m x y = some z → methK m x := fun {y} e => by
    induction m using Mine.Meth.casesOn <;> first | exact (noF e).elim | (induction x using Mine.V.casesOn <;> first | exact (noF e).elim | exact ⟨_, rfl⟩ | exact .inl ⟨_, rfl⟩ | exact .inr ⟨_, rfl⟩)
  induction vs using List.casesOn with
  | nil => induction m using Mine.Meth.casesOn <;> first | exact (noF e).elim | (induction x using Mine.V.casesOn <;> first | exact (noF e).elim | exact ⟨_, rfl⟩)
  | cons y vs =>
    induction vs using List.casesOn with
    | nil => exact k1 e
    | cons d vs =>
      induction vs using List.casesOn with
      | nil => induction m using Mine.Meth.casesOn <;> first | exact (noF e).elim | (induction x using Mine.V.casesOn <;> first | exact (noF e).elim | exact ⟨_, rfl⟩)
      | cons => exact (noF e).elim
noncomputable def MName (nm : Str) (m : Meth) (x : V) : Prop := PlainAttrs (methT m x) ∧ Slot (methT m x) nm (methI m x) ∧ typeOf (.builtin (methI m x)) = pure (.type "method_descriptor")
theorem meth_name {nm : Str} {k : Nat} {m : Meth} (h : methOf nm k = some m) (x : V) (hx : methK m x) : MName nm m x := by
  have go : ∀ (y : Str) (q : Meth), (methK q x → MName y q x) → (nm == y) = true → some q = some m → MName nm m x := fun y q hh e e2 => by
    rw [eq_of_beq e]; rw [← Option.some.inj e2] at hx ⊢; exact hh hx
  refine ifE h (go "join" .join fun _ => ⟨F.plainAttrs_str, F.slot_str_join, F.type_str_join⟩) fun h => ifE h (go "split" .split fun _ => ⟨F.plainAttrs_str, F.slot_str_split, F.type_str_split⟩) fun h =>
    ifE h (go "index" .index fun hx => ?_) fun h => ifE h (fun q h => ifE h (fun _ => go "get" .get2 (fun _ => ⟨F.plainAttrs_dict, F.slot_dict_get, F.type_dict_get⟩) q) fun h => (noF h).elim) fun h =>
    ifE h (go "bit_length" .bitlen fun _ => ⟨F.plainAttrs_int, F.slot_int_bit_length, F.type_int_bit_length⟩) fun h => (noF h).elim
  rcases hx with ⟨s, rfl⟩ | ⟨l, rfl⟩
  · exact ⟨F.plainAttrs_str, F.slot_str_index, F.type_str_index⟩
  · exact ⟨F.plainAttrs_list, F.slot_list_index, F.type_list_index⟩
noncomputable def MType (s : Shared) (u : Value) (t : String) : Prop := s.TypeIs u t ∧ ∀ a, u = .ref a → ∃ ob, s.heap.get? a = some ob ∧ ob.dict = none
theorem meth_type {G : GMap} {s : Shared} {B : Base} (_H : Hp B G s) {m : Meth} {x : V} (hx : methK m x) {u : Value} (hu : Held G s.heap u x) : MType s u (methT m x) := by
  have hs : ∀ l, x = .str l → MType s u "str" := fun l e => by
    subst e
    obtain ⟨y, t, rfl, _⟩ := hu
    exact ⟨typeIs_str _ _ _, fun a q => nomatch q⟩
  have hd : ∀ l, x = .dict l → MType s u "dict" := fun l e => by
    subst e
    obtain ⟨a, es, k, rfl, h, _⟩ := hu
    exact ⟨⟨_, h, rfl⟩, fun b q => Value.ref.inj q ▸ ⟨_, h, rfl⟩⟩
  induction m using Mine.Meth.casesOn with
  | join => obtain ⟨l, e⟩ := hx; exact hs l e
  | split => obtain ⟨l, e⟩ := hx; exact hs l e
  | get2 => obtain ⟨l, e⟩ := hx; exact hd l e
  | bitlen =>
    obtain ⟨i, rfl⟩ := hx
    obtain ⟨t, rfl⟩ := hu
    exact ⟨typeIs_int _ _ _, fun a q => nomatch q⟩
  | index =>
    rcases hx with ⟨l, e⟩ | ⟨l, e⟩
    · subst e; exact hs l rfl
    · subst e
      obtain ⟨a, vs, k, rfl, h, _⟩ := hu
      exact ⟨⟨_, h, rfl⟩, fun b q => Value.ref.inj q ▸ ⟨_, h, rfl⟩⟩
theorem strL_of {x : Str} {l : List Nat} (h : x.cps.toList = l) : x = strL l := by subst h; rfl
theorem strs_reps {G : GMap} (xs : List (Str × Tok)) (h : ∀ x ∈ xs, x.1.length ≤ sizeLine) : Reps G (strValues xs) (xs.map fun x => .str x.1.cps.toList) := by
  induction xs with
  | nil => exact .nil
  | cons x xs ih => exact .cons (.str _ _ rfl (by have := h x (.head _); rw [str_len (l := x.1.cps.toList) rfl] at this; exact this)) (ih fun y hy => h y (.tail _ hy))
theorem split_op (ok : BaseOK B) {A : Around} {G : GMap} {s : Shared} (H : Hp B G s) {x y : List Nat} {t u : Tok} (hy : y.isEmpty = false) (hx : x.length < lineN) (hn : (Txt.split (strL x) (strL y)).length < lineN)
    (hl : (Txt.split (strL x) (strL y)).all (fun x => decide (x.length ≤ lineN)) = true) {Q : Value → Shared → Prop} (h : ∀ G' s' v, Ext B G s G' s' → Rep G' v (.list ((Txt.split (strL x) (strL y)).map fun x => .str x.cps.toList)) → Q v s') :
    Wp B A (call (.builtin "str.split") [.str (strL x) t, .str (strL y) u]) Q s := by
  have hln := lineN_eq
  have hsz := szLine
  have ly : ((strL y).length == 0) = false := by
    have : (strL y).length = y.length := str_len rfl
    rw [this]
    induction y using List.casesOn with
    | nil => cases hy
    | cons => rfl
  have lx : (strL x).length = x.length := str_len rfl
  have fin : ∀ (xs : List (Str × Tok)) tk, xs.map (·.1) = Txt.split (strL x) (strL y) → Q (.ref s.heap.objs.size) { s with heap := s.heap.push { cls := .type "list", data := .seq (strValues xs).toArray }, toks := tk } := by
    intro xs tk e
    have len : (strValues xs).length = xs.length := by simp [strValues]
    have len2 : xs.length = (Txt.split (strL x) (strL y)).length := by rw [← e]; simp
    have x1 := Ext.push (tk := tk) ok H (o := listO (strValues xs) 0) rfl (by intro q; cases q)
    refine h _ _ _ x1 ?_
    have e2 : ((Txt.split (strL x) (strL y)).map fun x => V.str x.cps.toList) = xs.map fun x => .str x.1.cps.toList := by rw [← e, List.map_map]; rfl
    rw [e2]
    refine .list (GMap.add_at _ _ _) (strs_reps xs fun p hp => ?_) (by rw [List.length_map]; lia)
    have := List.all_eq_true.mp hl p.1 (by rw [← e]; exact List.mem_map_of_mem hp)
    have := of_decide_eq_true this
    lia
  cases h1 : (decide ((strL x).length < (strL y).length) || decide (Builtin.Str.strKind (strL x) < Builtin.Str.strKind (strL y)))
  · cases hf : (Builtin.Str.occurrences (strL x) (strL y) 0 (strL x).length ((strL x).length + 1)).isEmpty
    · have ht : Txt.split (strL x) (strL y) = Builtin.Str.partsBetween (strL x) (Builtin.Str.occurrences (strL x) (strL y) 0 (strL x).length ((strL x).length + 1)) (strL y).length :=
        (if_neg (ne_true_of_eq_false h1)).trans (if_neg (ne_true_of_eq_false hf))
      refine call_meets F.slot_str_split (typeIs_str _ _ _) F.entry_str_split (F.args_str_split_2 _ _) (meets_str_split_sep (strL x) (strL y) t u h1 ly hf (by lia) (by rw [← ht]; lia)) ?_
      show Q (.ref s.heap.objs.size) { s with toks := _, heap := s.heap.push { cls := .type "list", data := .seq (strsFrom s.toks (Builtin.Str.partsBetween (strL x) (Builtin.Str.occurrences (strL x) (strL y) 0 (strL x).length ((strL x).length + 1)) (strL y).length)).toArray } }
      rw [strsFrom_eq]
      exact fin (numbered s.toks _) _ ((numbered_texts _ _).trans ht.symm)
    · exact call_meets F.slot_str_split (typeIs_str _ _ _) F.entry_str_split (F.args_str_split_2 _ _) (meets_str_split_not_found (strL x) (strL y) t u h1 ly hf)
        (fin [(strL x, t)] _ ((if_neg (ne_true_of_eq_false h1)).trans (if_pos hf)).symm)
  · exact call_meets F.slot_str_split (typeIs_str _ _ _) F.entry_str_split (F.args_str_split_2 _ _) (meets_str_split_cannot_occur (strL x) (strL y) t u h1)
      (fin [(strL x, t)] _ (if_pos h1).symm)
theorem join_op {A : Around} {G : GMap} {s : Shared} (H : Hp B G s) {u w : Value} {sep : List Nat} {y z : V} (hu : Rep G u (.str sep)) (a : Rep G w y) (e : meth1 .join (.str sep) y = some z) {Q : Value → Shared → Prop}
    (ht : ∀ tk u', Rep G u' z → Q u' { s with toks := tk }) : Wp B A (call (.builtin "str.join") [u, w]) Q s := by
  have hln := lineN_eq
  have hsz := szLine
  induction y using Mine.V.casesOn with
  | list l =>
    obtain ⟨a, ws, k, rfl, hG, rr, hz⟩ := a
    set_option smartUnfolding false in refine mE (x := strs? l) e fun ss hs e => ?_
    obtain ⟨hlen, rfl⟩ := iteS e
    obtain ⟨xx, t, rfl, hx, hz2⟩ := hu
    obtain ⟨xs, rfl, hxs⟩ := strs_are rr hs
    have e1 := strL_of hx
    subst e1
    refine SC.join (isList_of (H.keep _ _ hG)) hxs (join_ok hlen) fun t' tk => ht _ _ ?_
    refine .str _ _ (join_text sep ss) ?_
    have : (joinS sep ss).length ≤ (ss.map fun x => x.length + sep.length).sum := by
      induction ss using List.casesOn with
      | nil => exact Nat.le_refl 0
      | cons p q =>
        rw [joinS_eq, List.length_append, List.length_flatMap, List.map_cons, List.sum_cons]
        have : (q.map fun a => (sep ++ a).length) = q.map fun x => x.length + sep.length := List.map_congr_left fun a _ => by rw [List.length_append, Nat.add_comm]
        rw [this]; lia
    lia
  | _ => exact (noF e).elim
theorem spl_op (ok : BaseOK B) {A : Around} {G : GMap} {s : Shared} (H : Hp B G s) {u w : Value} {xx : List Nat} {y z : V} (hu : Rep G u (.str xx)) (a : Rep G w y) (e : meth1 .split (.str xx) y = some z) {Q : Value → Shared → Prop}
    (h : ∀ G' s' v, Ext B G s G' s' → Rep G' v z → Q v s') : Wp B A (call (.builtin "str.split") [u, w]) Q s := by
  induction y using Mine.V.casesOn with
  | str yy =>
    obtain ⟨hq, rfl⟩ := iteN e
    simp only [Bool.or_eq_true, decide_eq_true_eq, not_or, Bool.not_eq_true', Bool.not_eq_true, Nat.not_le, Bool.not_eq_false] at hq
    obtain ⟨x2, t, rfl, hx, _⟩ := hu
    obtain ⟨y2, t2, rfl, hy, _⟩ := a
    have e1 := strL_of hx
    have e2 := strL_of hy
    subst e1
    subst e2
    exact split_op ok H hq.1.1.1 hq.1.1.2 hq.1.2 hq.2 h
  | _ => exact (noF e).elim
theorem idx_op {A : Around} {G : GMap} {s : Shared} {u w : Value} {xx : List Nat} {y z : V} (hu : Rep G u (.str xx)) (a : Rep G w y) (e : meth1 .index (.str xx) y = some z) {Q : Value → Shared → Prop}
    (ht : ∀ tk u', Rep G u' z → Q u' { s with toks := tk }) : Wp B A (call (.builtin "str.index") [u, w]) Q s := by
  induction y using Mine.V.casesOn with
  | str yy =>
    obtain ⟨x2, t, rfl, hx, _⟩ := hu
    obtain ⟨y2, t2, rfl, hy, _⟩ := a
    have e1 := strL_of hx
    have e2 := strL_of hy
    subst e1
    subst e2
    replace e : (match Builtin.Str.occurrences (strL xx) (strL yy) 0 (strL xx).length 1 with | k :: _ => some (V.int (k : Nat)) | [] => none) = some z := e
    cases ho : Builtin.Str.occurrences (strL xx) (strL yy) 0 (strL xx).length 1 with
    | nil => rw [ho] at e; exact (noF e).elim
    | cons k rest => rw [ho] at e; exact SC.index ho (ht _ _ (Option.some.inj e ▸ .int _ _))
  | _ => exact (noF e).elim
theorem get_op (ok : BaseOK B) {A : Around} {G : GMap} {s : Shared} (H : Hp B G s) {u w o : Value} {l : List (Int × V)} {y d z : V} (hu : HeldD G s.heap u l) (a : Rep G w y) (b : Rep G o d) (e : meth2 .get2 (.dict l) y d = some z) {Q : Value → Shared → Prop}
    (ht : ∀ tk u', Rep G u' z → Q u' { s with toks := tk }) : Wp B A (call (.builtin "dict.get") [u, w, o]) Q s := by
  induction y using Mine.V.casesOn with
  | int k =>
    obtain ⟨t, rfl⟩ := a
    obtain ⟨c, kvs, rfl, hd, hk⟩ := HeldD.dictOf (B := B) hu
    refine call_meetsIn F.slot_dict_get hd.typeIs F.entry_dict_get (F.args_dict_get_3 _ _ _) (meets_dict_get_default (intKind B.prog B.w) c (intKind_is _ _ k t) (notSys ok H hu) _) ⟨_, hd.mapOf, ?_⟩
    obtain ⟨k1, k2⟩ := hk.look k
    replace e : (match dlook l k with | some v => some v | none => some d) = some z := e
    cases q : dlook l k with
    | none => rw [q] at e; rw [k2 q]; exact ht _ _ (Option.some.inj e ▸ b)
    | some z' => rw [q] at e; obtain ⟨v, e', rv⟩ := k1 _ q; rw [e']; exact ht _ _ (Option.some.inj e ▸ rv)
  | _ => exact (noF e).elim
theorem meth_op (ok : BaseOK B) {A : Around} (hr : A.units + 200 < cLine) {G : GMap} {s : Shared} (H : Hp B G s) {m : Meth} {u : Value} {us : List Value} {x z : V} {vs : List V} (hu : Held G s.heap u x) (r : Reps G us vs) (e : methV m x vs = some z) {Q : Value → Shared → Prop}
    (h : ∀ G' s' v, Ext B G s G' s' → Rep G' v z → Q v s') : Wp B A (call (.builtin (methI m x)) (u :: us)) Q s := by
  have ht : ∀ tk u', Rep G u' z → Q u' { s with toks := tk } := fun tk u' r => h G _ u' (Ext.toks ok H) r
  induction vs using List.casesOn with
  | nil =>
    obtain rfl := r
    induction m using Mine.Meth.casesOn with
    | bitlen =>
      induction x using Mine.V.casesOn with
      | int i =>
        obtain ⟨t, rfl⟩ := hu
        exact PyProof.Rows.call_int_bit_length (ht _ _ (Option.some.inj e ▸ .int _ _))
      | _ => exact (noF e).elim
    | _ => exact (noF e).elim
  | cons y vs =>
    obtain ⟨w, us, rfl, a, r⟩ := r
    induction vs using List.casesOn with
    | nil =>
      obtain rfl := r
      induction m using Mine.Meth.casesOn with
      | join => induction x using Mine.V.casesOn <;> first | exact (noF e).elim | exact join_op H hu a e ht
      | split => induction x using Mine.V.casesOn <;> first | exact (noF e).elim | exact spl_op ok H hu a e h
      | index =>
        induction x using Mine.V.casesOn with
        | str xx => exact idx_op hu a e ht
        | _ => exact (noF e).elim
      | _ => exact (noF e).elim
    | cons d vs =>
      obtain ⟨o, us, rfl, b, r⟩ := r
      induction vs using List.casesOn with
      | cons => exact (noF e).elim
      | nil =>
        obtain rfl := r
        induction m using Mine.Meth.casesOn with
        | get2 => induction x using Mine.V.casesOn <;> first | exact (noF e).elim | exact get_op ok H hu a b e ht
        | _ => exact (noF e).elim
theorem plainBase_eq {o : Expr} (h : plainBase o = true) (x : Str) (env : Env) (t : Sem Value) : attributeBase o x env t = t := by
  induction o using PySem.Expr.casesOn with
  | Call f es ks pos =>
    induction f using PySem.Expr.casesOn with
    | Name =>
      induction es using List.casesOn with
      | nil => exact nomatch h
      | cons => rfl
    | _ => rfl
  | _ => rfl
theorem meth_spec (ok : BaseOK B) (IH : ESpec B n ev) {cx : Cx} (hc : cxOk B cx) {σ : Sig} {env : Env} (X : EnvB cx env) {A : Around} (hr : Room A n) {a : Expr} {ma : ME} {nm : Str} {m : Meth} {apos pos : Pos} {es : List Expr} {ms : List ME} (hm : methOf nm es.length = some m) (hb : plainBase a = true) (hl : es.length ≤ 20)
    (hp : (apos.endLine == pos.line) = true) (ta : T cx a ma) (t : TL cx es ms) {x z : V} {vs : List V} (ex : refV ev σ ma = some x) (e : evL ev σ ms = some vs) (ez : methV m x vs = some z) {G : GMap} {s : Shared} (H : Hp B G s) (R : Rd cx env σ G s.heap) {Q : Value → Shared → Prop}
    (h : ∀ G' s' u, Ext B G s G' s' → Rep G' u z → Q u s') : Wp B A (eval (.Call (.Attribute a nm apos) es [] pos) env) Q s := by
  obtain ⟨pa, slot, hty⟩ := meth_name hm x (methK_of ez)
  have pl := t.plain (env := env) (pos := pos)
  refine wpAny_Call_method (plainBase_eq hb _ _ _) ?_ hp pa slot hty ?_
  · rw [pl.2]
    have e1 : (backToKw pos (keywordEach [] env)).all (fun x => x.1.isSome) = true := rfl
    rw [e1]
    show (true && true && decide (es.length + 0 + 0 < 30)) = true
    rw [decide_eq_true (by lia)]; rfl
  · refine ref_spec ok IH ta hc ex hr X H R fun G1 s1 u x1 hu => ?_
    obtain ⟨h1, h2⟩ := meth_type x1.hp (methK_of ez) hu
    refine ⟨h1, h2, callWith_builtin pl.1 ?_⟩
    exact args_spec ok IH hc X hr pos t e x1.hp (R.ext ok H x1) fun G2 s2 us x2 rus => meth_op ok hr.u200 x2.hp (hu.ext ok x1.hp x2) rus ez fun G3 s3 v x3 rv => h G3 s3 v ((x1.trans x2).trans x3) rv
end
end Mine
namespace Mine
open PySem PySem.Calls
structure SExt (B : Base) (α : Addr → Prop) (G : GMap) (s : Shared) (G' : GMap) (s' : Shared) : Prop where
  le : G.le G'
  hp : Hp B G' s'
  grow : ∀ b o, s.heap.get? b = some o → ¬ B.tab b → ¬ α b → s'.heap.get? b = some o
  new : ∀ b o, s.heap.get? b = some o → ¬ α b → G' b = G b
section
variable {B : Base} {G G' G'' : GMap} {s s' s'' : Shared} {α β : Addr → Prop}
theorem Ext.sx (x : Ext B G s G' s') (α : Addr → Prop) : SExt B α G s G' s' := ⟨x.le, x.hp, fun b o e n _ => x.grow b o e n, fun b o e _ => x.new b o e⟩
theorem SExt.refl (H : Hp B G s) (α : Addr → Prop) : SExt B α G s G s := (Ext.refl H).sx α
theorem SExt.trans (x : SExt B α G s G' s') (y : SExt B β G' s' G'' s'') (h : ∀ a, β a → α a ∨ s.heap.get? a = none) : SExt B α G s G'' s'' := by
  have nb : ∀ b o, s.heap.get? b = some o → ¬ α b → ¬ β b := fun b o e n q => by
    rcases h b q with h | h
    · exact n h
    · rw [h] at e; cases e
  refine ⟨x.le.trans y.le, y.hp, fun b o e n m => y.grow b o (x.grow b o e n m) n (nb b o e m), fun b o e m => ?_⟩
  by_cases n : B.tab b
  · have h2 := x.new b o e m
    rw [y.hp.tabG b n]
    rw [x.hp.tabG b n] at h2
    exact h2
  · exact (y.new b o (x.grow b o e n m) (nb b o e m)).trans (x.new b o e m)
theorem SExt.ext (x : SExt B α G s G' s') (h : ∀ a, α a → s.heap.get? a = none) : Ext B G s G' s' := by
  have nb : ∀ b o, s.heap.get? b = some o → ¬ α b := fun b o e n => by rw [h b n] at e; cases e
  exact ⟨x.le, x.hp, fun b o e n => x.grow b o e n (nb b o e), fun b o e => x.new b o e (nb b o e)⟩
theorem SExt.weaken (x : SExt B α G s G' s') (h : ∀ a, α a → β a ∨ s.heap.get? a = none) : SExt B β G s G' s' := by
  have nb : ∀ b o, s.heap.get? b = some o → ¬ β b → ¬ α b := fun b o e n q => by
    rcases h b q with h | h
    · exact n h
    · rw [h] at e; cases e
  exact ⟨x.le, x.hp, fun b o e n m => x.grow b o e n (nb b o e m), fun b o e m => x.new b o e (nb b o e m)⟩
theorem SExt.keep (ok : BaseOK B) (H : Hp B G s) (x : SExt B α G s G' s') {b : Addr} {o : Obj} (e : s.heap.get? b = some o) (hc : o.cls ≠ .none) (n : ¬ α b) : s'.heap.get? b = some o := x.grow b o e (H.nottab ok e hc) n
theorem SExt.kept (ok : BaseOK B) (H : Hp B G s) (hG : ∀ b, α b → G b = none) (ht : ∀ b, α b → ¬ B.tab b) {h' : Heap} {tk : Nat} (k : ∀ b o, ¬ α b → s.heap.get? b = some o → h'.get? b = some o) : SExt B α G s G { s with heap := h', toks := tk } := by
  refine ⟨.refl G, ⟨H.base, fun b o e => k b o (fun q => by rw [hG b q] at e; cases e) (H.keep b o e), H.tabG, ok.tokM H.tok (.refl G) (fun b t => ?_), H.os, H.gens⟩, fun b o e _ n => k b o n e, fun _ _ _ _ => rfl⟩
  obtain ⟨o, e, _⟩ := ok.tabF H.tok t
  rw [e]; exact k b o (fun q => ht b q t) e
theorem SExt.add (ok : BaseOK B) (_H : Hp B G s) (x : SExt B α G s G' s') {a : Addr} {o : Obj} (e : s'.heap.get? a = some o) (hc : o.cls ≠ .none) (hn : s.heap.get? a = none ∨ α a) : SExt B α G s (G'.add a o) s' := by
  have nt : ¬ B.tab a := x.hp.nottab ok e hc
  have hG : G' a = none ∨ G' a = some o := by
    cases q : G' a with
    | none => exact .inl rfl
    | some o' => have := x.hp.keep a o' q; rw [e] at this; cases this; exact .inr rfl
  refine ⟨x.le.trans (GMap.le_add hG), ⟨x.hp.base.trans (GMap.le_add hG), fun b o' q => ?_, fun b t => ?_, ok.tokM x.hp.tok (GMap.le_add hG) fun _ _ => rfl, x.hp.os, x.hp.gens⟩, x.grow, fun b o' q m => ?_⟩
  · by_cases hb : b = a
    · subst hb; rw [G'.add_at] at q; cases q; exact e
    · rw [G'.add_ne _ hb] at q; exact x.hp.keep b o' q
  · have hb : b ≠ a := fun q => nt (q ▸ t)
    rw [G'.add_ne _ hb]; exact x.hp.tabG b t
  · have hb : b ≠ a := fun z => by
      rcases hn with hn | hn
      · rw [z, hn] at q; cases q
      · exact m (z ▸ hn)
    rw [G'.add_ne _ hb]; exact x.new b o' q m
noncomputable def plainIter (h : Heap) (I : Addr) : Prop := ∃ o nm, h.get? I = some o ∧ o.cls = .type nm ∧
  ["enumerate", "zip", "dict_itemiterator", "dict_reverseitemiterator", "odict_iterator", "itertools.zip_longest", "itertools.pairwise"].contains nm = false
theorem go_plain {A : Around} {M : Model} {E : Value → Shared → Prop} {t : Expr} {I : Addr} {v : Value} {Q : Unit → Shared → Prop} (h : plainIter s.heap I) (hq : Q () s) : wpAny M A (letOwnedTupleGo t (.ref I) v) Q E s := by
  obtain ⟨o, nm, ho, hc, hn⟩ := h
  unfold letOwnedTupleGo
  have key : ∀ a, wpAny M A (load I >>= fun o => match o.cls, o.data with
      | .type n, .fields vs =>
        if ["enumerate", "zip", "dict_itemiterator", "dict_reverseitemiterator", "odict_iterator", "itertools.zip_longest", "itertools.pairwise"].contains n && vs[0]? == some (rawInt a) then
          rule "for.unpacks-the-owned-tuple" >>= fun _ => updateField I 0 .none
        else pure ()
      | _, _ => pure ()) Q E s := by
    intro a
    refine wpAny_bind (wpAny_load ho ?_)
    rw [hc]
    cases o.data <;> dsimp only <;> first | exact wpAny_pure hq | skip
    rw [hn]
    exact wpAny_pure hq
  induction t using PySem.Expr.casesOn <;> first | exact wpAny_pure hq | skip
  all_goals (induction v using PySem.Value.casesOn <;> first | exact key _ | exact wpAny_pure hq)
structure Itr (B : Base) (A : Around) (G0 : GMap) (s0 : Shared) (I : Addr) (wr : List Addr) (St : Nat → Heap → Prop) (k : Itk) (l : List V) : Prop where
  fresh : ∀ b ∈ wr, s0.heap.get? b = none
  live : ∀ i h, St i h → ∀ b ∈ wr, ∃ o, h.get? b = some o ∧ o.cls ≠ .none
  frame : ∀ i h h', St i h → (∀ b, (b ∈ wr ∨ ∃ o, G0 b = some o) → ∀ o, h.get? b = some o → h'.get? b = some o) → St i h'
  self : ∀ i (s : Shared) (Q : Value → Shared → Prop), St i s.heap → Q (.ref I) s → Wp B A (pyIter (.ref I)) Q s
  next : ∀ i G s x (t : Expr) (Q : Value → Shared → Prop), l[i]? = some x → Hp B G s → G0.le G → (∀ b ∈ wr, G b = none) → St i s.heap → tgtOk k t = true → (isTup t = true ∨ ∃ y p, t = .Name y p) →
    (∀ G' s' u, SExt B (· ∈ wr) G s G' s' → St (i + 1) s'.heap → (∀ b ∈ wr, G' b = none) → Rep G' u x → Q u s') →
    Wp B A (pyNext (.ref I)) (fun r s1 => ∃ v, r = some v ∧ Wp B A (letOwnedTupleGo t (.ref I) v) (fun _ s2 => Q v s2) s1) s
  done : ∀ G s (Q : Option Value → Shared → Prop), Hp B G s → G0.le G → (∀ b ∈ wr, G b = none) → St l.length s.heap → (∀ s', SExt B (· ∈ wr) G s G s' → Q none s') → Wp B A (pyNext (.ref I)) Q s
variable {A : Around}
theorem Itr.wrOk (ok : BaseOK B) {G0 : GMap} {s0 : Shared} {I : Addr} {wr : List Addr} {St : Nat → Heap → Prop} {k : Itk} {l : List V} (T : ∀ i h, St i h → ∀ b ∈ wr, ∃ o, h.get? b = some o ∧ o.cls ≠ .none) {i : Nat} (H : Hp B G s) (st : St i s.heap) : ∀ b, b ∈ wr → ¬ B.tab b := fun b hb t => by
  obtain ⟨o, e, c⟩ := T i _ st b hb
  exact H.nottab ok e c t
theorem Itr.ofWalks (ok : BaseOK B) {G0 : GMap} {s0 : Shared} {I : Addr} {fp wr : List Addr} {n : Nat} {P : Nat → Value → Prop} {St : Nat → Heap → Prop} {k : Itk} {l : List V} (W : Walks B.prog B.w A I fp wr n P St)
    (hfp : ∀ b ∈ fp, b ∈ wr ∨ ∃ o, G0 b = some o) (hn : l.length = n) (hP : ∀ i v x, P i v → l[i]? = some x → ∀ G, G0.le G → Rep G v x) (fresh : ∀ b ∈ wr, s0.heap.get? b = none)
    (live : ∀ i h, St i h → ∀ b ∈ wr, ∃ o, h.get? b = some o ∧ o.cls ≠ .none) (pl : ∀ i h, St i h → plainIter h I) : Itr B A G0 s0 I wr St k l where
  fresh := fresh
  live := live
  frame := fun i h h' st hk => W.frame i h h' st fun b hb o e => hk b (hfp b hb) o e
  self := fun i s Q st hq => W.self i s Q _ st hq
  next := fun i G s x t Q hx H hG hw st _ _ hQ => by
    have hi : i < n := by rw [← hn]; exact (List.getElem?_eq_some_iff.mp hx).1
    refine W.item i s _ _ hi st fun v h' tk hPv st' kk => ⟨v, rfl, go_plain (pl _ _ st') ?_⟩
    exact hQ G _ v (SExt.kept ok H hw (Itr.wrOk (G0 := G0) (s0 := s0) (I := I) (k := k) (l := l) ok live H st) kk) st' hw (hP i v x hPv hx G hG)
  done := fun G s Q H hG hw st hQ => by
    rw [hn] at st
    exact W.done s _ _ st fun h' tk kk => hQ _ (SExt.kept ok H hw (Itr.wrOk (G0 := G0) (s0 := s0) (I := I) (k := k) (l := l) ok live H st) kk)
theorem Itr.ofWalksT (ok : BaseOK B) {G0 : GMap} {s0 : Shared} {I : Addr} {fp wr : List Addr} {n : Nat} {Pt : Nat → Array Value → Prop} {St : Nat → Heap → Prop} {Mid : Nat → Addr → Heap → Prop} {k : Itk} {l : List V} (W : WalksT B.prog B.w A I fp wr n Pt St Mid)
    (hk : ∀ y p, tgtOk k (.Name y p) = false) (hfp : ∀ b ∈ fp, b ∈ wr ∨ ∃ o, G0 b = some o) (hn : l.length = n) (hP : ∀ i vals x, Pt i vals → l[i]? = some x → ∃ l', x = .tup l' ∧ l'.length ≤ sizeLine ∧ ∀ G, G0.le G → Reps G vals.toList l') (fresh : ∀ b ∈ wr, s0.heap.get? b = none)
    (live : ∀ i h, St i h → ∀ b ∈ wr, ∃ o, h.get? b = some o ∧ o.cls ≠ .none) : Itr B A G0 s0 I wr St k l where
  fresh := fresh
  live := live
  frame := fun i h h' st hk => W.frame i h h' st fun b hb o e => hk b (hfp b hb) o e
  self := fun i s Q st hq => W.self i s Q _ st hq
  next := fun i G s x t Q hx H hG hw st htk ht hQ => by
    have hi : i < n := by rw [← hn]; exact (List.getElem?_eq_some_iff.mp hx).1
    have ht' : ∃ es kk p, t = .Tuple es kk p := by
      rcases ht with ht | ⟨y, p, rfl⟩
      · induction t using PySem.Expr.casesOn <;> first | exact ⟨_, _, _, rfl⟩ | cases ht
      · rw [hk] at htk; cases htk
    obtain ⟨es, kk, p, rfl⟩ := ht'
    refine W.item i s _ _ hi st fun T vals h' tk hPv hT hTup hMid kp => ⟨_, rfl, ?_⟩
    refine W.go es kk p i T { s with heap := h', toks := tk } _ _ hMid fun h'' st' kp2 => ?_
    obtain ⟨l', rfl, hl', hr⟩ := hP i vals x hPv hx
    obtain ⟨o, ho, hc, q, hd⟩ := hTup
    have hTw := W.apart _ _ _ hMid
    have ho' : h''.get? T = some o := kp2 _ _ hTw ho
    have hTn : s.heap.get? T = none := by
      cases e : s.heap.get? T with
      | none => rfl
      | some o => exact absurd (Heap.lt_size e) (Nat.not_lt.mpr hT)
    have x1 : SExt B (· ∈ wr) G s G { s with heap := h'', toks := tk } := SExt.kept ok H hw (Itr.wrOk (G0 := G0) (s0 := s0) (I := I) (k := k) (l := l) ok live H st) fun b o hb e => kp2 b o hb (kp b o hb e)
    have x2 := SExt.add ok H x1 (a := T) (o := o) ho' (by rw [hc]; intro q; cases q) (.inl hTn)
    refine hQ (G.add T o) _ _ x2 st' (fun b hb => by rw [G.add_ne _ (show b ≠ T from fun q => hTw (q ▸ hb))]; exact hw b hb) (.tup ⟨o, q, GMap.add_at _ _ _, hc, by rw [hd]⟩ (hr _ (hG.trans x2.le)) hl')
  done := fun G s Q H hG hw st hQ => by
    rw [hn] at st
    exact W.done s _ _ st fun h' tk kk => hQ _ (SExt.kept ok H hw (Itr.wrOk (G0 := G0) (s0 := s0) (I := I) (k := k) (l := l) ok live H st) kk)
end
end Mine
namespace Mine
open PySem PySem.Calls
theorem TL.one {cx : Cx} {e : Expr} {ms : List ME} (t : TL cx [e] ms) : ∃ m, ms = [m] ∧ T cx e m := by
  induction ms using List.casesOn with
  | nil => exact nomatch (show [e] = [] from t)
  | cons m ms =>
    obtain ⟨_, _, q, t, r⟩ := t
    obtain ⟨rfl, rfl⟩ := List.cons.inj q
    induction ms using List.casesOn with
    | nil => exact ⟨m, rfl, t⟩
    | cons => obtain ⟨_, _, q, _⟩ := r; exact nomatch q
theorem TI.notSet {cx : Cx} {e : Expr} {k : Itk} {ms : List ME} (h : TI cx e k ms) (env : Env) (x : Value) : foldedSetIterable e env x = pure x := by
  obtain ⟨es, h, t⟩ := h
  induction k using Mine.Itk.casesOn with
  | plain =>
    obtain rfl := h
    obtain ⟨m, rfl, t1⟩ := t.one
    exact t1.notSet.2 env x
  | range1 => obtain ⟨_, _, _, rfl, _⟩ := h; rfl
  | range2 => obtain ⟨_, _, _, _, rfl, _⟩ := h; rfl
  | reversed => obtain ⟨_, _, _, rfl, _⟩ := h; rfl
  | enumerate => obtain ⟨_, _, _, rfl, _⟩ := h; rfl
  | zip => obtain ⟨_, _, _, _, rfl, _⟩ := h; rfl
theorem Reps.at {G : GMap} {us : List Value} {l : List V} (r : Reps G us l) {i : Nat} {v : Value} {x : V} (hv : us[i]? = some v) (hx : l[i]? = some x) : Rep G v x := by
  obtain ⟨x', e, h⟩ := r.get' hv
  rw [hx] at e; cases e; exact h
theorem enumV_get : ∀ (l : List V) (k i : Nat) (x : V), (enumV k l)[i]? = some x → ∃ y, l[i]? = some y ∧ x = .tup [.int (k + i : Nat), y]
  | [], _, _, _, e => by simp [enumV] at e
  | y :: l, k, 0, x, e => by simp [enumV] at e; exact ⟨y, rfl, e.symm⟩
  | y :: l, k, i + 1, x, e => by
    simp only [enumV, List.getElem?_cons_succ] at e
    obtain ⟨z, h1, h2⟩ := enumV_get l (k + 1) i x e
    exact ⟨z, by simpa using h1, by rw [h2]; congr 3; lia⟩
theorem enumV_len : ∀ (l : List V) (k : Nat), (enumV k l).length = l.length
  | [], _ => rfl
  | _ :: l, k => by simp [enumV, enumV_len l]
theorem zipV_get : ∀ (l r : List V) (i : Nat) (x : V), (zipV l r)[i]? = some x → ∃ y z, l[i]? = some y ∧ r[i]? = some z ∧ x = .tup [y, z]
  | [], _, _, _, e => by simp [zipV] at e
  | _ :: _, [], _, _, e => by simp [zipV] at e
  | y :: l, z :: r, 0, x, e => by simp [zipV] at e; exact ⟨y, z, rfl, rfl, e.symm⟩
  | y :: l, z :: r, i + 1, x, e => by
    simp only [zipV, List.getElem?_cons_succ] at e
    obtain ⟨a, b, h1, h2, h3⟩ := zipV_get l r i x e
    exact ⟨a, b, by simpa using h1, by simpa using h2, h3⟩
theorem zipV_len : ∀ (l r : List V), (zipV l r).length = min l.length r.length
  | [], _ => by simp [zipV]
  | _ :: _, [] => by simp [zipV]
  | y :: l, z :: r => by simp [zipV, zipV_len l r]
section
variable {B : Base} {n : Nat} {ev : Sig → ME → Option V}
theorem addr_ne {a b : Nat} (h : a < b ∨ b < a) : (a : Addr) ≠ (b : Addr) := fun e => by
  have e' : (a : Nat) = b := e
  lia
theorem addr_eq {a b : Addr} (h : (a : Nat) = (b : Nat)) : a = b := h
theorem nat_eq {a b : Addr} (h : a = b) : (a : Nat) = (b : Nat) := h
theorem nat_ne {a b : Addr} (h : a ≠ b) : ¬ (a : Nat) = (b : Nat) := h
noncomputable def isMark : List String := ["enumerate", "zip", "dict_itemiterator", "dict_reverseitemiterator", "odict_iterator", "itertools.zip_longest", "itertools.pairwise"]
theorem none_of_size {h : Heap} {a : Addr} (ha : h.objs.size ≤ a) : h.get? a = none := by
  cases e : h.get? a with
  | none => rfl
  | some o => exact absurd (Heap.lt_size e) (Nat.not_lt.mpr ha)
theorem Hp.noneG {G : GMap} {s : Shared} (H : Hp B G s) {a : Addr} (ha : s.heap.get? a = none) : G a = none := by
  cases e : G a with
  | none => rfl
  | some o => rw [H.keep _ _ e] at ha; cases ha
theorem fresh_of (ok : BaseOK B) {G0 G : GMap} {s0 s : Shared} (x0 : Ext B G0 s0 G s) {a : Addr} (ha : s.heap.objs.size ≤ a) : s0.heap.get? a = none := by
  cases e : s0.heap.get? a with
  | none => rfl
  | some o =>
    by_cases t : B.tab a
    · obtain ⟨o', e', _⟩ := ok.tabF x0.hp.tok t
      exact absurd (Heap.lt_size e') (Nat.not_lt.mpr ha)
    · exact absurd (Heap.lt_size (x0.grow _ _ e t)) (Nat.not_lt.mpr ha)
theorem Itr.one (ok : BaseOK B) {A : Around} {G0 : GMap} {s0 : Shared} {I : Addr} {fp : List Addr} {n : Nat} {P : Nat → Value → Prop} {St : Nat → Heap → Prop} {k : Itk} {l : List V} (W : Walks B.prog B.w A I fp [I] n P St)
    (hfp : ∀ b ∈ fp, b ∈ [I] ∨ ∃ o, G0 b = some o) (hn : l.length = n) (hP : ∀ i v x, P i v → l[i]? = some x → ∀ G, G0.le G → Rep G v x) (nI : s0.heap.get? I = none) (pl : ∀ i h, St i h → plainIter h I) : Itr B A G0 s0 I [I] St k l :=
  .ofWalks ok W hfp hn hP (fun b hb => List.mem_singleton.1 hb ▸ nI) (fun i h st b hb => by
    obtain ⟨o, nm, e, hc, _⟩ := pl i h st
    rw [List.mem_singleton.1 hb]
    exact ⟨o, e, by rw [hc]; intro q; cases q⟩) pl
theorem fp_two {G : GMap} {I a : Addr} {o : Obj} (h : G a = some o) : ∀ b ∈ [I, a], b ∈ [I] ∨ ∃ o, G b = some o := fun b hb => by
  rcases List.mem_cons.mp hb with rfl | hb
  · exact .inl (.head _)
  · rw [List.mem_singleton.1 hb]; exact .inr ⟨_, h⟩
theorem one_none {G : GMap} {I : Addr} (h : G I = none) : ∀ b ∈ [I], G b = none := fun b hb => List.mem_singleton.1 hb ▸ h
theorem reps_at {G : GMap} {vs : List Value} {l : List V} (rr : Reps G vs l) (i : Nat) (v : Value) (x : V) (hv : vs.toArray[i]? = some v) (hx : l[i]? = some x) (G' : GMap) (hG' : G.le G') : Rep G' v x :=
  (rr.mono hG').at ((List.getElem?_toArray ..).symm.trans hv) hx
section
variable {A : Around} {G0 G : GMap} {s0 s : Shared}
noncomputable def ItrK (B : Base) (A : Around) (G0 : GMap) (s0 : Shared) (k : Itk) (l : List V) (Q : Value → Shared → Prop) : Prop :=
  ∀ G' s' I wr St, Ext B G0 s0 G' s' → Itr B A G' s0 I wr St k l → (∀ b ∈ wr, G' b = none) → St 0 s'.heap → l.length ≤ sizeLine → Q (.ref I) s'
theorem itr_list (ok : BaseOK B) (hh : A.handled = none) (x0 : Ext B G0 s0 G s) {u : Value} {l : List V} (r : Rep G u (.list l)) {Q : Value → Shared → Prop} (h : ItrK B A G0 s0 .plain l Q) : Wp B A (pyIter u) Q s := by
  have H := x0.hp
  obtain ⟨a, vs, k, rfl, hG, rr, hz⟩ := r
  have hL := isList_of (H.keep _ _ hG)
  refine wpAny_pyIter_list hL ?_
  have x1 : Ext B G0 s0 G { s with heap := s.heap.push { cls := .type "list_iterator", data := .fields #[.ref a, .int 0 0] } } := x0.trans (Ext.grown (tk := s.toks) ok H fun _ _ e => Heap.get?_push_of_some _ e)
  exact h G _ _ [s.heap.objs.size] _ x1 (Itr.one ok (Walks.list hh s.heap.objs.size a (Nat.ne_of_lt (Heap.lt_size (H.keep _ _ hG))) vs.toArray) (fp_two hG) rr.length.symm (reps_at rr) (fresh_of ok x0 (Nat.le_refl _))
    fun i h' st => by obtain ⟨o, ho, hc, _⟩ := st.1; exact ⟨o, _, ho, hc, by decide⟩) (one_none (H.noneG (get_size_none _))) ⟨⟨_, Heap.get?_push_size _ rfl, rfl, rfl⟩, hL.push _⟩ hz
theorem itr_dict (ok : BaseOK B) (hh : A.handled = none) (x0 : Ext B G0 s0 G s) {u : Value} {l : List (Int × V)} (r : Rep G u (.dict l)) {Q : Value → Shared → Prop} (h : ItrK B A G0 s0 .plain (l.map fun p => .int p.1) Q) : Wp B A (pyIter u) Q s := by
  have H := x0.hp
  have hd : HeldD G s.heap u l := Rep.held (v := .dict l) H r
  obtain ⟨a, es, k, rfl, hG, _, hz, _⟩ := r
  have lo := notSys ok H hd
  obtain ⟨d, kvs, e, hD, hk⟩ := hd.dictOf (B := B)
  cases e
  obtain ⟨ep, hat⟩ := hD.dictAt
  refine wpAny_pyIter_dict lo hat ?_
  have x1 : Ext B G0 s0 G { s with heap := s.heap.push { cls := .type "dict_keyiterator", data := .fields #[.ref a, .int 0 0, .int kvs.length 0, .int ep 0] } } := x0.trans (Ext.grown (tk := s.toks) ok H fun _ _ e => Heap.get?_push_of_some _ e)
  refine h G _ _ [s.heap.objs.size] _ x1 (Itr.one ok (Walks.dictKeys hh s.heap.objs.size a (Nat.ne_of_lt (Heap.lt_size (H.keep _ _ hG))) kvs ep) (fp_two hG) (by rw [List.length_map]; exact hk.length.symm) (fun i v x hv hx G' _ => ?_) (fresh_of ok x0 (Nat.le_refl _))
    fun i h' st => by obtain ⟨o, ho, hc, _⟩ := st.1; exact ⟨o, _, ho, hc, by decide⟩) (one_none (H.noneG (get_size_none _))) ⟨⟨_, Heap.get?_push_size _ rfl, rfl, rfl⟩, hat.at' fun o e => Heap.get?_push_of_some _ e⟩ (by rw [List.length_map]; exact hz)
  obtain ⟨q, y, h1, h2⟩ := hv
  obtain ⟨t, rfl⟩ := Value.isInt_shape h2
  have : (l.map (·.1))[i]? = some q := by rw [← hk.keys, List.getElem?_map, h1]; rfl
  have e : l.map (fun p => V.int p.1) = (l.map (·.1)).map V.int := (List.map_map ..).symm
  rw [e, List.getElem?_map, this] at hx
  exact Option.some.inj hx ▸ .int q t
theorem itr_plain (ok : BaseOK B) (hh : A.handled = none) (x0 : Ext B G0 s0 G s) {u : Value} {v : V} {l : List V} (r : Rep G u v) (hl : iterV .plain [v] = some l) {Q : Value → Shared → Prop} (h : ItrK B A G0 s0 .plain l Q) : Wp B A (pyIter u) Q s := by
  induction v using Mine.V.casesOn with
  | list l' => exact itr_list ok hh x0 r (Option.some.inj hl ▸ h)
  | dict l' => exact itr_dict ok hh x0 r (Option.some.inj hl ▸ h)
  | _ => exact (noF hl).elim
end
theorem rangeL_get (a b : Int) (i : Nat) (x : V) (h : ((rangeL a b).map V.int)[i]? = some x) : x = .int (a + i) := by
  unfold rangeL at h
  rw [List.getElem?_map, List.getElem?_map] at h
  by_cases hi : i < (b - a).toNat
  · rw [List.getElem?_range hi] at h; simp at h; exact h.symm
  · rw [List.getElem?_eq_none (by simpa using hi)] at h; cases h
theorem rangeL_len (a b : Int) : ((rangeL a b).map V.int).length = (b - a).toNat := by simp [rangeL]
theorem itr_range (ok : BaseOK B) {A : Around} (hh : A.handled = none) {k : Itk} {G0 G : GMap} {s0 s : Shared} (x0 : Ext B G0 s0 G s) {r : Addr} {a b : Int} {t u v : Tok} (hR : IsRange s.heap r a b 1 t u v)
    (ha : -(2 ^ 62) ≤ a) (ha' : a < 2 ^ 62) (hb : -(2 ^ 62) ≤ b) (hb' : b < 2 ^ 62) (hn : b - a < lineN) {Q : Value → Shared → Prop}
    (h : ItrK B A G0 s0 k ((rangeL a b).map .int) Q) : Wp B A (pyIter (.ref r)) Q s := by
  have H := x0.hp
  have nI := fresh_of ok x0 (Nat.le_refl _)
  have gI : G s.heap.objs.size = none := H.noneG (get_size_none _)
  have hsz : Builtin.Range.rangeSize a b 1 = ((b - a).toNat : Int) := by rw [rangeSize_one]; split <;> lia
  refine wpAny_pyIter_range hR (small_one ha ha' hb hb') ?_
  have x1 : Ext B G0 s0 G { s with heap := s.heap.push { cls := .type "range_iterator", data := .fields #[rawInt a, rawInt (Builtin.Range.rangeSize a b 1), rawInt 1] } } := x0.trans (Ext.grown (tk := s.toks) ok H fun _ _ e => Heap.get?_push_of_some _ e)
  refine h G _ _ [s.heap.objs.size] _ x1 (Itr.one ok (Walks.range hh s.heap.objs.size a 1 (b - a).toNat) (fun b hb => .inl hb) (rangeL_len a b) (fun i v x hv hx G' _ => ?_) nI fun i h' st => ⟨_, _, st, rfl, by decide⟩) (one_none gI) ?_ ?_
  · obtain ⟨t, rfl⟩ := hv
    rw [rangeL_get a b i x hx, Int.mul_one]
    exact .int _ _
  · have e1 : a + ((0 : Nat) : Int) * 1 = a := by simp
    have e2 : (((b - a).toNat : Int) - ((0 : Nat) : Int)) = Builtin.Range.rangeSize a b 1 := by rw [hsz]; simp
    rw [e1, e2]
    exact Heap.get?_push_size _ rfl
  · rw [rangeL_len]
    have := lineN_eq
    have := szLine
    lia
theorem itr_rev (ok : BaseOK B) {A : Around} (hh : A.handled = none) {G0 G : GMap} {s0 s : Shared} (x0 : Ext B G0 s0 G s) {u : Value} {l : List V} (r : Rep G u (.list l)) {Q : Value → Shared → Prop}
    (h : ItrK B A G0 s0 .reversed l.reverse Q) :
    Wp B A (call (.type "reversed") [u]) (fun xv s1 => Wp B A (pyIter xv) Q s1) s := by
  have H := x0.hp
  have nI := fresh_of ok x0 (Nat.le_refl _)
  have gI : G s.heap.objs.size = none := H.noneG (get_size_none _)
  obtain ⟨a, vs, k, rfl, hG, rr, hz⟩ := r.list_inv
  have hL := isList_of (H.keep _ _ hG)
  have hlen := rr.length
  have hne : a ≠ s.heap.objs.size := Nat.ne_of_lt (Heap.lt_size (H.keep _ _ hG))
  refine call_reversed_list hL ?_
  have hit : (s.heap.push (revObj a ((vs.toArray.size : Int) - 1))).IsRevIter s.heap.objs.size a ((vs.toArray.size : Int) - 1) := ⟨_, Heap.get?_push_size _ rfl, rfl, rfl⟩
  refine wpAny_pyIter_revIter hit ?_
  have x1 : Ext B G0 s0 G { s with heap := s.heap.push (revObj a ((vs.toArray.size : Int) - 1)) } := x0.trans (Ext.grown (tk := s.toks) ok H fun _ _ e => Heap.get?_push_of_some _ e)
  refine h G _ _ [s.heap.objs.size] _ x1 (Itr.one ok (Walks.listRev hh s.heap.objs.size a hne vs.toArray) (fp_two hG) (by rw [List.length_reverse]; exact hlen.symm) (fun i v x hv hx G' hG' => ?_) nI
    fun i h' st => by obtain ⟨o, ho, hc, _⟩ := st.2.1; exact ⟨o, _, ho, hc, by decide⟩) (one_none gI) ⟨Nat.zero_le _, by simpa using hit, hL.push _⟩ (by rw [List.length_reverse]; exact hz)
  have hi : i < l.length := by
    have := (List.getElem?_eq_some_iff.mp hx).1
    rw [List.length_reverse] at this; exact this
  rw [List.getElem?_reverse hi] at hx
  refine reps_at rr (l.length - 1 - i) v x ?_ hx G' hG'
  rw [← hlen]; exact hv
theorem itr_enum (ok : BaseOK B) {A : Around} (hh : A.handled = none) {G0 G : GMap} {s0 s : Shared} (x0 : Ext B G0 s0 G s) {u : Value} {l : List V} (r : Rep G u (.list l)) {Q : Value → Shared → Prop}
    (h : ItrK B A G0 s0 .enumerate (enumV 0 l) Q) :
    Wp B A (call (.type "enumerate") [u]) (fun xv s1 => Wp B A (pyIter xv) Q s1) s := by
  have H := x0.hp
  have n0 := fresh_of ok x0 (Nat.le_refl _)
  have n1 := fresh_of ok x0 (Nat.le_succ s.heap.objs.size)
  have g0 : G s.heap.objs.size = none := H.noneG (get_size_none _)
  have g1 : G (s.heap.objs.size + 1) = none := H.noneG (none_of_size (Nat.le_succ _))
  obtain ⟨a, vs, k, rfl, hG, rr, hz⟩ := r.list_inv
  have hL := isList_of (H.keep _ _ hG)
  have hlen := rr.length
  have hlt : @LT.lt Nat instLTNat a s.heap.objs.size := Heap.lt_size (H.keep _ _ hG)
  refine call_enumerate_list hL fun h' he hit hsz hk => ?_
  refine wpAny_pyIter_enum he ?_
  have x1 : Ext B G0 s0 G { s with heap := h' } := x0.trans (Ext.grown (tk := s.toks) ok H hk)
  have hL' : h'.IsList a vs.toArray := hL.at fun o e => hk _ _ e
  refine h G _ _ [s.heap.objs.size + 1, s.heap.objs.size] _ x1 (Itr.ofWalksT ok (WalksT.enumerate hh (s.heap.objs.size + 1) s.heap.objs.size a (addr_ne (by lia)) (addr_ne (by lia)) (addr_ne (by lia)) vs.toArray) (fun _ _ => rfl) ?_ ?_ ?_ ?_ ?_) ?_
    ⟨⟨.none, he⟩, hit, hL'⟩ (by rw [enumV_len]; exact hz)
  · intro b hb
    simp only [List.mem_cons, List.not_mem_nil, or_false] at hb ⊢
    rcases hb with rfl | rfl | rfl
    · exact .inl (.inl rfl)
    · exact .inl (.inr rfl)
    · exact .inr ⟨_, hG⟩
  · rw [enumV_len, ← hlen]; simp
  · rintro i vals x ⟨t, y, hy, rfl⟩ hx
    obtain ⟨z, h1, h2⟩ := enumV_get l 0 i x hx
    refine ⟨_, h2, by have := szLine; simp; lia, fun G' hG' => ?_⟩
    rw [Nat.zero_add]
    exact .cons (.int _ _) (.cons ((rr.mono hG').at (by simpa using hy) h1) .nil)
  · intro b hb
    simp only [List.mem_cons, List.not_mem_nil, or_false] at hb
    rcases hb with rfl | rfl
    · exact n1
    · exact n0
  · rintro i h' ⟨⟨old, he⟩, hit, _⟩ b hb
    simp only [List.mem_cons, List.not_mem_nil, or_false] at hb
    rcases hb with rfl | rfl
    · exact ⟨_, he, by intro q; cases q⟩
    · obtain ⟨o, ho, hc, _⟩ := hit; exact ⟨o, ho, by rw [hc]; intro q; cases q⟩
  · intro b hb
    simp only [List.mem_cons, List.not_mem_nil, or_false] at hb
    rcases hb with rfl | rfl
    · exact g1
    · exact g0
theorem itr_zip (ok : BaseOK B) {A : Around} (hh : A.handled = none) {G0 G : GMap} {s0 s : Shared} (x0 : Ext B G0 s0 G s) {u u2 : Value} {l l2 : List V} (r : Rep G u (.list l)) (r2 : Rep G u2 (.list l2)) {Q : Value → Shared → Prop}
    (h : ItrK B A G0 s0 .zip (zipV l l2) Q) :
    Wp B A (call (.type "zip") [u, u2]) (fun xv s1 => Wp B A (pyIter xv) Q s1) s := by
  have H := x0.hp
  have nn : ∀ k, s0.heap.get? (s.heap.objs.size + k) = none := fun k => fresh_of ok x0 (Nat.le_add_right _ _)
  have gg : ∀ k, G (s.heap.objs.size + k) = none := fun k => H.noneG (none_of_size (Nat.le_add_right _ _))
  obtain ⟨a, vs, k, rfl, hG, rr, hz⟩ := r.list_inv
  obtain ⟨a2, vs2, k2, rfl, hG2, rr2, hz2⟩ := r2.list_inv
  have hL := isList_of (H.keep _ _ hG)
  have hL2 := isList_of (H.keep _ _ hG2)
  have hlen := rr.length
  have hlen2 := rr2.length
  have hlt : @LT.lt Nat instLTNat a s.heap.objs.size := Heap.lt_size (H.keep _ _ hG)
  have hlt2 : @LT.lt Nat instLTNat a2 s.heap.objs.size := Heap.lt_size (H.keep _ _ hG2)
  refine call_zip_2 hL hL2 fun h' hZ hTI hTO hi1 hi2 hsz hk => ?_
  refine wpAny_pyIter_zip hZ ?_
  have x1 : Ext B G0 s0 G { s with heap := h' } := x0.trans (Ext.grown (tk := s.toks) ok H hk)
  have hL' : h'.IsList a vs.toArray := hL.at fun o e => hk _ _ e
  have hL2' : h'.IsList a2 vs2.toArray := hL2.at fun o e => hk _ _ e
  have D : ZipApart (s.heap.objs.size + 4) (s.heap.objs.size + 2) (s.heap.objs.size + 3) s.heap.objs.size (s.heap.objs.size + 1) a a2 := by
    constructor <;> exact addr_ne (by lia)
  refine h G _ _ [s.heap.objs.size + 4, s.heap.objs.size + 3, s.heap.objs.size + 0, s.heap.objs.size + 1, s.heap.objs.size + 2] (fun i hp => (IsZip hp (s.heap.objs.size + 4) (s.heap.objs.size + 2) (s.heap.objs.size + 3) .none ∧ IsPair hp (s.heap.objs.size + 2) (.ref s.heap.objs.size) (.ref (s.heap.objs.size + 1)) ∧ (∃ a b, IsPair hp (s.heap.objs.size + 3) a b) ∧
      hp.IsListIter s.heap.objs.size a i ∧ hp.IsListIter (s.heap.objs.size + 1) a2 i ∧ hp.IsList a vs.toArray ∧ hp.IsList a2 vs2.toArray)) x1 ?_ ?_
    ⟨hZ, hTI, ⟨_, _, hTO⟩, hi1, hi2, hL', hL2'⟩ (by rw [zipV_len]; lia)
  · have W := WalksT.zip2 (prog := B.prog) (w := B.w) (A := A) hh _ _ _ _ _ _ _ D vs.toArray vs2.toArray
    have W' : WalksT B.prog B.w A (s.heap.objs.size + 4) [s.heap.objs.size + 4, s.heap.objs.size + 3, s.heap.objs.size + 0, s.heap.objs.size + 1, s.heap.objs.size + 2, a, a2] [s.heap.objs.size + 4, s.heap.objs.size + 3, s.heap.objs.size + 0, s.heap.objs.size + 1, s.heap.objs.size + 2] _ _ _
        (fun i T hp => (IsZip hp (s.heap.objs.size + 4) (s.heap.objs.size + 2) (s.heap.objs.size + 3) (rawInt T) ∧ IsPair hp (s.heap.objs.size + 2) (.ref s.heap.objs.size) (.ref (s.heap.objs.size + 1)) ∧ (∃ a b, IsPair hp (s.heap.objs.size + 3) a b) ∧
          hp.IsListIter s.heap.objs.size a (i + 1) ∧ hp.IsListIter (s.heap.objs.size + 1) a2 (i + 1) ∧ hp.IsList a vs.toArray ∧ hp.IsList a2 vs2.toArray ∧ T ≠ s.heap.objs.size + 4 ∧ T ≠ s.heap.objs.size + 3 ∧ T ≠ s.heap.objs.size ∧ T ≠ s.heap.objs.size + 1) ∧ T ≠ s.heap.objs.size + 2) :=
      { sub := fun b hb => by grind
        frame := fun i h h' st hk => W.frame i h h' st fun b hb o e => hk b (by grind) o e
        item := fun i s' Q E hi st hQ => W.item i s' Q E hi st fun T vals h' tk hv hT hTup hM kp => hQ T vals h' tk hv hT hTup ⟨hM, by
          obtain ⟨_, hTI, _⟩ := st
          have : @LT.lt Nat instLTNat _ _ := Heap.lt_size hTI
          exact addr_ne (by have hT' : @LE.le Nat instLENat _ _ := hT; lia)⟩ fun b o hb e => kp b o (fun q => hb (by grind)) e
        go := fun elts k pos i T s' Q E hM hQ => W.go elts k pos i T s' Q E hM.1 fun h' st kp => hQ h' st fun b o hb e => kp b o (fun q => hb (by grind)) e
        apart := fun i T h hM q => by
          have := W.apart i T h hM.1
          have h2 := hM.2
          grind
        done := fun s' Q E st hQ => W.done s' Q E st fun h' tk kp => hQ h' tk fun b o hb e => kp b o (fun q => hb (by grind)) e
        self := W.self }
    refine Itr.ofWalksT ok W' (fun _ _ => rfl) ?_ ?_ ?_ ?_ ?_
    · intro b hb
      simp only [List.mem_cons, List.not_mem_nil, or_false] at hb ⊢
      rcases hb with hb | hb | hb | hb | hb | hb | hb
      · exact .inl (by grind)
      · exact .inl (by grind)
      · exact .inl (by grind)
      · exact .inl (by grind)
      · exact .inl (by grind)
      · exact .inr ⟨_, hb ▸ hG⟩
      · exact .inr ⟨_, hb ▸ hG2⟩
    · rw [zipV_len, ← hlen, ← hlen2]; simp
    · rintro i vals x ⟨y, y2, hy, hy2, rfl⟩ hx
      obtain ⟨z, z2, h1, h2, h3⟩ := zipV_get l l2 i x hx
      refine ⟨_, h3, by have := szLine; simp; lia, fun G' hG' => ?_⟩
      exact .cons ((rr.mono hG').at (by simpa using hy) h1) (.cons ((rr2.mono hG').at (by simpa using hy2) h2) .nil)
    · intro b hb
      simp only [List.mem_cons, List.not_mem_nil, or_false] at hb
      rcases hb with rfl | rfl | rfl | rfl | rfl <;> exact nn _
    · rintro i h' ⟨hz, hTI, ⟨_, _, hTO⟩, hi1, hi2, _⟩ b hb
      simp only [List.mem_cons, List.not_mem_nil, or_false] at hb
      rcases hb with rfl | rfl | rfl | rfl | rfl
      · exact ⟨_, hz, by intro q; cases q⟩
      · exact ⟨_, hTO, by intro q; cases q⟩
      · obtain ⟨o, ho, hc, _⟩ := hi1; exact ⟨o, ho, by rw [hc]; intro q; cases q⟩
      · obtain ⟨o, ho, hc, _⟩ := hi2; exact ⟨o, ho, by rw [hc]; intro q; cases q⟩
      · exact ⟨_, hTI, by intro q; cases q⟩
  · intro b hb
    simp only [List.mem_cons, List.not_mem_nil, or_false] at hb
    rcases hb with rfl | rfl | rfl | rfl | rfl <;> exact gg _
end
end Mine
namespace Mine
open PySem PySem.Calls
section
variable {B : Base} {n : Nat} {ev : Sig → ME → Option V}
theorem type_call (ok : BaseOK B) {A : Around} {cx : Cx} {env : Env} (X : EnvB cx env) {G : GMap} {s : Shared} (H : Hp B G s) {x : Str} (hg : cx.glob x) {T : String} (hb : B.mg x = none ∧ B.mb x = some (.type T)) (hd : (x == ("__debug__" : Str)) = false) {p1 pos : Pos} {es : List Expr} {ms : List ME}
    (t : TL cx es ms) {Q : Value → Shared → Prop} (h : Wp B A (evalArgs (.type T) true (backTo pos (starEach es env)) []) (fun a s₁ => Wp B A (call (.type T) ([] ++ a.pos) a.kw) Q s₁) s) : Wp B A (eval (.Call (.Name x p1) es [] pos) env) Q s := by
  refine PyProof.Rows.Call_Name rfl (load_glob ok H X hg (.inr hb) ?_ hd)
  exact PyProof.Rows.callWith_type (t.plain (env := env) (pos := pos)).1 h
theorem len_one {vs : List V} (h : vs.length = 1) : ∃ v, vs = [v] := List.length_eq_one_iff.1 h
theorem len_two {vs : List V} (h : vs.length = 2) : ∃ v w, vs = [v, w] := by
  induction vs using List.casesOn with
  | nil => exact nomatch h
  | cons v vs => obtain ⟨w, rfl⟩ := len_one (Nat.succ.inj h); exact ⟨v, w, rfl⟩
theorem iter_call (ok : BaseOK B) (IH : ESpec B n ev) {cx : Cx} (hc : cxOk B cx) {σ : Sig} {env : Env} (X : EnvB cx env) {A : Around} (hr : Room A n) {es : List Expr} {ms : List ME} (t : TL cx es ms) {vs : List V} (hv : evL ev σ ms = some vs) {G : GMap} {s : Shared} (H : Hp B G s) (R : Rd cx env σ G s.heap) {Q : Value → Shared → Prop}
    {x : Str} {T : String} {p1 pos : Pos} (hg : cx.glob x) (hb : B.mg x = none ∧ B.mb x = some (.type T)) (hd : (x == ("__debug__" : Str)) = false) (k : ∀ G1 s1 us, Ext B G s G1 s1 → Reps G1 us vs → Wp B A (PySem.call (.type T) us) Q s1) :
    ∀ e, e = .Call (.Name x p1) es [] pos → Wp B A (eval e env) Q s := fun e q => by
  rw [q]
  exact type_call ok X H hg hb hd t (args_spec ok IH hc X hr _ t hv H R fun G1 s1 us x1 r => k G1 s1 us x1 r)
theorem iter_spec (ok : BaseOK B) (IH : ESpec B n ev) {cx : Cx} (hc : cxOk B cx) {σ : Sig} {env : Env} (X : EnvB cx env) {A : Around} (hr : Room A n) {e : Expr} {k : Itk} {ms : List ME} (t : TI cx e k ms) {vs l : List V} (hv : evL ev σ ms = some vs) (hl : iterV k vs = some l)
    {G : GMap} {s : Shared} (H : Hp B G s) (R : Rd cx env σ G s.heap) {Q : Value → Shared → Prop} (h : ItrK B A G s k l Q) :
    Wp B A (eval e env) (fun xv s1 => Wp B A (pyIter xv) Q s1) s := by
  obtain ⟨es, i, t⟩ := t
  have hlen := evL_len t hv
  induction k using Mine.Itk.casesOn with
  | plain =>
    obtain rfl := i
    obtain ⟨m, rfl, t1⟩ := t.one
    obtain ⟨v, hv1, rfl⟩ := evL_inv1 hv
    exact IH _ _ _ t1 hc σ v hv1 A env G s hr X H R _ fun G1 s1 u x1 r => itr_plain ok hr.handled x1 r hl h
  | range1 =>
    obtain ⟨a, p1, pos, q, hg, rfl⟩ := i
    obtain ⟨v, rfl⟩ := len_one hlen
    refine iter_call ok IH hc X hr t hv H R hg ok.prange (by decide +kernel) (fun G1 s1 us x1 r => ?_) e q
    obtain ⟨_, rfl, a⟩ := r.one_inv
    induction v using Mine.V.casesOn with
    | int i =>
      obtain ⟨t, rfl⟩ := a
      obtain ⟨hi, rfl⟩ := iteS hl
      have := lineN_eq
      exact call_range_1 (itr_range ok hr.handled (x1.trans (Ext.grown ok x1.hp fun _ _ e => Heap.get?_push_of_some _ e)) (IsRange.new ..) (by decide) (by decide) (by lia) (by lia) (by lia) h)
    | _ => exact (noF hl).elim
  | range2 =>
    obtain ⟨a, b, p1, pos, q, hg, rfl⟩ := i
    obtain ⟨v, w, rfl⟩ := len_two hlen
    refine iter_call ok IH hc X hr t hv H R hg ok.prange (by decide +kernel) (fun G1 s1 us x1 r => ?_) e q
    obtain ⟨_, _, rfl, a, b⟩ := r.two_inv
    induction v using Mine.V.casesOn with
    | int i =>
      induction w using Mine.V.casesOn with
      | int j =>
        obtain ⟨t, rfl⟩ := a
        obtain ⟨u, rfl⟩ := b
        obtain ⟨hi, rfl⟩ := iteS hl
        have := lineN_eq
        exact call_range_2 (itr_range ok hr.handled (x1.trans (Ext.grown ok x1.hp fun _ _ e => Heap.get?_push_of_some _ e)) (IsRange.new ..) (by lia) (by lia) (by lia) (by lia) (by lia) h)
      | _ => exact (noF hl).elim
    | _ => exact (noF hl).elim
  | reversed =>
    obtain ⟨a, p1, pos, q, hg, rfl⟩ := i
    obtain ⟨v, rfl⟩ := len_one hlen
    refine iter_call ok IH hc X hr t hv H R hg ok.preversed (by decide +kernel) (fun G1 s1 us x1 r => ?_) e q
    obtain ⟨_, rfl, a⟩ := r.one_inv
    induction v using Mine.V.casesOn with
    | list l => exact itr_rev ok hr.handled x1 a (Option.some.inj hl ▸ h)
    | _ => exact (noF hl).elim
  | enumerate =>
    obtain ⟨a, p1, pos, q, hg, rfl⟩ := i
    obtain ⟨v, rfl⟩ := len_one hlen
    refine iter_call ok IH hc X hr t hv H R hg ok.penumerate (by decide +kernel) (fun G1 s1 us x1 r => ?_) e q
    obtain ⟨_, rfl, a⟩ := r.one_inv
    induction v using Mine.V.casesOn with
    | list l => exact itr_enum ok hr.handled x1 a (Option.some.inj hl ▸ h)
    | _ => exact (noF hl).elim
  | zip =>
    obtain ⟨a, b, p1, pos, q, hg, rfl⟩ := i
    obtain ⟨v, w, rfl⟩ := len_two hlen
    refine iter_call ok IH hc X hr t hv H R hg ok.pzip (by decide +kernel) (fun G1 s1 us x1 r => ?_) e q
    obtain ⟨_, _, rfl, a, b⟩ := r.two_inv
    induction v using Mine.V.casesOn with
    | list l =>
      induction w using Mine.V.casesOn with
      | list r => exact itr_zip ok hr.handled x1 a b (Option.some.inj hl ▸ h)
      | _ => exact (noF hl).elim
    | _ => exact (noF hl).elim
end
end Mine
namespace Mine
open PySem PySem.Calls
noncomputable def WAt (cx : Cx) (env : Env) (h : Heap) (x : Str) (a : Addr) : Prop :=
  (cx.scope.names.lookup x = some .local ∧ a = env.locals ∧ ∃ m, NsAt h a m) ∨ (cx.scope.names.lookup x = some .cell ∧ env.cells.lookup x = some a ∧ ∃ v, h.get? a = some (cellO v))
theorem Sig.set_at (σ : Sig) (i j : Nat) (e : Ent) : Sig.at (σ.set i e) j = if j = i ∧ i < σ.length then e else σ.at j := by
  unfold Sig.at
  rw [List.getD_eq_getElem?_getD, List.getD_eq_getElem?_getD, List.getElem?_set]
  by_cases h : i = j
  · subst h
    by_cases q : i < σ.length
    · simp [q]
    · simp [q, List.getElem?_eq_none (Nat.le_of_not_lt q)]
  · have h' : ¬ j = i := fun e => h e.symm
    simp [h, h']
theorem Sig.set_ne (σ : Sig) {i j : Nat} (e : Ent) (h : j ≠ i) : Sig.at (σ.set i e) j = σ.at j := by
  rw [Sig.set_at, if_neg fun q => h q.1]
theorem Sig.set_or (σ : Sig) (i : Nat) (e : Ent) : Sig.at (σ.set i e) i = e ∨ Sig.at (σ.set i e) i = .un := by
  rw [Sig.set_at]
  by_cases q : i < σ.length
  · exact .inl (if_pos ⟨rfl, q⟩)
  · right
    rw [if_neg fun z => q z.2]
    unfold Sig.at
    rw [List.getD_eq_getElem?_getD, List.getElem?_eq_none (Nat.le_of_not_lt q)]; rfl
section
variable {B : Base} {A : Around}
theorem store_var {cx : Cx} {env : Env} (X : EnvB cx env) {s : Shared} {x : Str} {a : Addr} (w : WAt cx env s.heap x a) {u : Value} {Q : Unit → Shared → Prop}
    (h : ∀ h' tk, (∀ b, b ≠ a → h'.get? b = s.heap.get? b) → Reads1 cx env h' x u → (∀ y v, y ≠ x → Reads1 cx env s.heap y v → Reads1 cx env h' y v) → (∀ y b, WAt cx env s.heap y b → WAt cx env h' y b) →
      (∃ o, h'.get? a = some o ∧ Std o) → Q () { s with heap := h', toks := tk }) : Wp B A (storeName env x u) Q s := by
  have hk : env.scope.kind = .function := by rw [X.scope]; exact X.kind
  have ko : ∀ y, env.kindOf y = cx.scope.names.lookup y := fun y => by show env.scope.names.lookup y = _; rw [X.scope]
  rcases w with ⟨hl, rfl, m, hm⟩ | ⟨hl, hc, v₀, ho⟩
  · refine wpAny_storeName_local (by rw [ko]; exact hl) hm (fun h' hn hs => ?_) (by rw [hk]; rfl)
    refine h h' _ (fun b hb => hs.2 b hb) (.inl ⟨hl, _, hn, by simp⟩) (fun y v hy r => ?_) (fun y b wy => ?_) ?_
    · rcases r with ⟨h1, m', hm', hv⟩ | ⟨h1, c, hc, ho⟩
      · refine .inl ⟨h1, _, hn, ?_⟩
        show (if y = x then some u else m y) = some v
        rw [if_neg hy]
        obtain ⟨o, es, ep, e1, e2, e3, e4⟩ := hm
        obtain ⟨o', es', ep', f1, f2, f3, f4⟩ := hm'
        rw [e1] at f1; cases f1
        rw [e2] at f2; cases f2
        rw [← e4 y, f4 y]; exact hv
      · exact .inr ⟨h1, c, hc, (hs.2 c (X.fm.ne1 y c h1 hc)).trans ho⟩
    · rcases wy with ⟨h1, rfl, m', hm'⟩ | ⟨h1, hc, v, ho⟩
      · exact .inl ⟨h1, rfl, _, hn⟩
      · exact .inr ⟨h1, hc, v, (hs.2 b (X.fm.ne1 y b (by rw [h1]; rfl) hc)).trans ho⟩
    · obtain ⟨o, es, ep, e1, e2, _⟩ := hn
      exact ⟨o, e1, .inr ⟨es, ep, e2⟩⟩
  · unfold storeName
    have ex : env.kindOf x = some .cell := by rw [ko]; exact hl
    simp only [ex, hk]
    refine wpAny_bind (wpAny_cellOf hc ?_)
    unfold cellSet
    refine wpAny_bind (wpAny_load ho ?_)
    refine wpAny_update ho ?_
    have hs : Heap.SameBut a s.heap (s.heap.update a fun o => { o with data := .cell (some u) }) := Heap.SameBut.update ..
    have hn : (s.heap.update a fun o => { o with data := .cell (some u) }).get? a = some (cellO (some u)) := Heap.get?_update_self _ ho rfl
    have hcx : isCellish (cx.scope.names.lookup x) = true := by rw [hl]; rfl
    refine h _ s.toks (fun b hb => hs.2 b hb) (.inr ⟨hcx, a, hc, hn⟩) (fun y v hy r => ?_) (fun y b wy => ?_) ⟨_, hn, .inl (by intro q; cases q)⟩
    · rcases r with ⟨h1, m', hm', hv⟩ | ⟨h1, c, hc', ho'⟩
      · exact .inl ⟨h1, m', hm'.sameBut hs (Ne.symm (X.fm.ne1 x a hcx hc)), hv⟩
      · refine .inr ⟨h1, c, hc', (hs.2 c fun q => hy ?_).trans ho'⟩
        subst q
        exact X.fm.ne2 y x _ h1 hcx hc' hc
    · rcases wy with ⟨h1, rfl, m', hm'⟩ | ⟨h1, hc', v, ho'⟩
      · exact .inl ⟨h1, rfl, m', hm'.sameBut hs (Ne.symm (X.fm.ne1 x a hcx hc))⟩
      · by_cases q : b = a
        · subst q; exact .inr ⟨h1, hc', _, hn⟩
        · exact .inr ⟨h1, hc', v, (hs.2 b q).trans ho'⟩
noncomputable def wset (cx : Cx) (env : Env) (xs : List Str) (b : Addr) : Prop := ∃ x ∈ xs, (cx.scope.names.lookup x = some .local ∧ b = env.locals) ∨ (cx.scope.names.lookup x = some .cell ∧ env.cells.lookup x = some b)
theorem WAt.wset {cx : Cx} {env : Env} {h : Heap} {x : Str} {a : Addr} {xs : List Str} (w : WAt cx env h x a) (hx : x ∈ xs) : wset cx env xs a := by
  rcases w with ⟨h1, h2, _⟩ | ⟨h1, h2, _⟩
  · exact ⟨x, hx, .inl ⟨h1, h2⟩⟩
  · exact ⟨x, hx, .inr ⟨h1, h2⟩⟩
structure Stored (cx : Cx) (env : Env) (xs : List Str) (us : List Value) (h h' : Heap) : Prop where
  kept : ∀ b, ¬ wset cx env xs b → h'.get? b = h.get? b
  reads : ∀ (i : Nat) (x : Str) (u : Value), xs[i]? = some x → us[i]? = some u → Reads1 cx env h' x u
  other : ∀ y v, y ∉ xs → Reads1 cx env h y v → Reads1 cx env h' y v
  wat : ∀ y b, WAt cx env h y b → WAt cx env h' y b
theorem store_all {cx : Cx} {env : Env} (X : EnvB cx env) : ∀ (xs : List (Str × Pos)) (us : List Value) (s : Shared) {Q : Unit → Shared → Prop}, (xs.map (·.1)).Nodup → (∀ x ∈ xs.map (·.1), ∃ a, WAt cx env s.heap x a) → us.length = xs.length →
    (∀ h' tk, Stored cx env (xs.map (·.1)) us s.heap h' → Q () { s with heap := h', toks := tk }) →
    Wp B A (assignInOrder ((assignEach (xs.map fun x => .Name x.1 x.2) env).map (·.2)) us) Q s
  | [], [], s, Q, _, _, _, h => by
    refine wpAny_pure (h s.heap s.toks ⟨fun _ _ => rfl, fun i x u e => by simp at e, fun _ _ _ r => r, fun _ _ w => w⟩)
  | (x, p) :: xs, u :: us, s, Q, nd, hw, hl, h => by
    obtain ⟨a, wa⟩ := hw x (by simp)
    have nd' : x ∉ xs.map (·.1) ∧ (xs.map (·.1)).Nodup := List.nodup_cons.mp nd
    show Wp B A (do holding us (assign (.Name x p) env u); assignInOrder ((assignEach (xs.map fun x => .Name x.1 x.2) env).map (·.2)) us) Q s
    refine wpAny_bind (wpAny_holding (wpAny_assign_Name (store_var X wa fun h' tk k r o w _ => ?_)))
    refine store_all X xs us { s with heap := h', toks := tk } nd'.2 (fun y hy => ?_) (by simpa using hl) fun h'' tk' S => ?_
    · obtain ⟨b, wb⟩ := hw y (by simp at hy ⊢; exact .inr hy)
      exact ⟨b, w y b wb⟩
    · refine h h'' tk' ⟨fun b hb => ?_, fun i y v hy hv => ?_, fun y v hy r' => ?_, fun y b wy => S.wat y b (w y b wy)⟩
      · have h1 : b ≠ a := fun q => hb (q ▸ wa.wset (by simp))
        have h2 : ¬ wset cx env (xs.map (·.1)) b := fun ⟨z, hz, q⟩ => hb ⟨z, by simp at hz ⊢; exact .inr hz, q⟩
        exact (S.kept b h2).trans (k b h1)
      · induction i using Nat.casesAuxOn with
        | zero =>
          simp at hy hv; subst hy hv
          exact S.other x u nd'.1 r
        | succ i => exact S.reads i y v (by simpa using hy) (by simpa using hv)
      · simp only [List.map_cons, List.mem_cons, not_or] at hy
        exact S.other y v hy.2 (o y v hy.1 r')
  | [], _ :: _, _, _, _, _, hl, _ => by simp at hl
  | _ :: _, [], _, _, _, _, hl, _ => by simp at hl
theorem assignEach_names (xs : List (Str × Pos)) (env : Env) : (assignEach (xs.map fun x => .Name x.1 x.2) env).length = xs.length ∧ (assignEach (xs.map fun x => Expr.Name x.1 x.2) env).findIdx? (·.1) = none := by
  induction xs with
  | nil => exact ⟨rfl, rfl⟩
  | cons x xs ih =>
    constructor
    · show (_ :: assignEach (xs.map fun x => .Name x.1 x.2) env).length = _
      simp [ih.1]
    · show ((false, assign (.Name x.1 x.2) env) :: assignEach (xs.map fun x => .Name x.1 x.2) env).findIdx? (·.1) = none
      rw [List.findIdx?_cons]
      simp only [Bool.false_eq_true, if_false]
      rw [ih.2]; rfl
theorem sets_len : ∀ {is : List Nat} {vs : List V} {σ σ' : Sig}, sets σ is vs = some σ' → is.length = vs.length
  | [], [], _, _, _ => rfl
  | [], _ :: _, _, _, e => by cases e
  | _ :: _, [], _, _, e => by cases e
  | i :: is, v :: vs, σ, σ', e => by simp [sets_len (is := is) (vs := vs) e]
theorem sets_ne : ∀ {is : List Nat} {vs : List V} {σ σ' : Sig} {j : Nat}, sets σ is vs = some σ' → j ∉ is → σ'.at j = σ.at j
  | [], [], _, _, _, e, _ => by cases e; rfl
  | [], _ :: _, _, _, _, e, _ => by cases e
  | _ :: _, [], _, _, _, e, _ => by cases e
  | i :: is, v :: vs, σ, σ', j, e, hj => by
    simp only [List.mem_cons, not_or] at hj
    rw [sets_ne (is := is) (vs := vs) e hj.2, Sig.set_ne _ _ hj.1]
theorem sets_at : ∀ {is : List Nat} {vs : List V} {σ σ' : Sig} {k i : Nat}, sets σ is vs = some σ' → is.Nodup → is[k]? = some i → ∃ v, vs[k]? = some v ∧ (σ'.at i = .fz v ∨ σ'.at i = .un)
  | [], _, _, _, _, _, _, _, h => by simp at h
  | _ :: _, [], _, _, _, _, e, _, _ => by cases e
  | i :: is, v :: vs, σ, σ', 0, j, e, nd, h => by
    simp at h; subst h
    have nd' := List.nodup_cons.mp nd
    refine ⟨v, rfl, ?_⟩
    rw [sets_ne (is := is) (vs := vs) e nd'.1]
    exact Sig.set_or σ i _
  | i :: is, v :: vs, σ, σ', k + 1, j, e, nd, h => by
    have nd' := List.nodup_cons.mp nd
    obtain ⟨w, h1, h2⟩ := sets_at (is := is) (vs := vs) e nd'.2 (by simpa using h)
    exact ⟨w, by simpa using h1, h2⟩
theorem names_slots {cx : Cx} {xs : List (Str × Pos)} {is : List Nat} (h : xs.map (fun x => cx.vars.lookup x.1) = is.map some) (nd : is.Nodup) : (xs.map (·.1)).Nodup := by
  induction xs generalizing is with
  | nil => exact .nil
  | cons x xs ih =>
    induction is using List.casesOn with
    | nil => cases h
    | cons i is =>
      simp only [List.map_cons, List.cons.injEq] at h
      have nd' := List.nodup_cons.mp nd
      rw [List.map_cons]
      refine List.nodup_cons.mpr ⟨fun hx => nd'.1 ?_, ih h.2 nd'.2⟩
      obtain ⟨y, hy, e⟩ := List.mem_map.mp hx
      have : cx.vars.lookup y.1 ∈ xs.map (fun x => cx.vars.lookup x.1) := List.mem_map_of_mem hy
      rw [h.2, e, h.1] at this
      simpa using this
theorem namesOf_tuple (xs : List (Str × Pos)) (k : Nat) (pos : Pos) : namesOf (.Tuple (xs.map fun x => .Name x.1 x.2) k pos) = xs.map (·.1) := by
  show (xs.map fun x => Expr.Name x.1 x.2).filterMap _ = _
  induction xs with
  | nil => rfl
  | cons x xs ih => simp [ih]
set_option tactic.hygienic true in
theorem assign_spec (ok : BaseOK B) {cx : Cx} {env : Env} (X : EnvB cx env) (hh : A.handled = none) {t : Expr} {mt : Tgt} (T : TT cx t mt) {σ σ' : Sig} {v : V} (e : put σ mt v = some σ') {G : GMap} {s : Shared} (H : Hp B G s) {u : Value} (r : Rep G u v)
    (hw : ∀ x ∈ namesOf t, ∃ a, WAt cx env s.heap x a) (hG : ∀ a, wset cx env (namesOf t) a → ∃ o, s.heap.get? a = some o) {Q : Unit → Shared → Prop}
    (h : ∀ s', (∃ h' tk, s' = { s with heap := h', toks := tk }) → (∀ b o, ¬ wset cx env (namesOf t) b → s.heap.get? b = some o → s'.heap.get? b = some o) → (∀ x i, x ∈ namesOf t → cx.vars.lookup x = some i → EntAt cx env G s'.heap x (σ'.at i)) →
      (∀ y w, y ∉ namesOf t → Reads1 cx env s.heap y w → Reads1 cx env s'.heap y w) → (∀ y b, WAt cx env s.heap y b → WAt cx env s'.heap y b) → (∀ j, (∀ x ∈ namesOf t, cx.vars.lookup x ≠ some j) → σ'.at j = σ.at j) → Q () s') :
    Wp B A (assign t env u) Q s := by
  induction T using Mine.TT.casesOn with
  | @one x pos i hx =>
    cases e
    obtain ⟨a, wa⟩ := hw x (.head _)
    refine wpAny_assign_Name (store_var X wa fun h' tk k rd o w _ => h _ ⟨h', tk, rfl⟩ (fun b o' hb e => ?_) (fun y j hy hj => ?_) (fun y v hy r' => o y v (fun q => hy (q ▸ .head _)) r') w fun j hj => ?_)
    · exact (k b fun q => hb (q ▸ wa.wset (.head _))).trans e
    · rcases List.mem_cons.mp hy with rfl | hy
      · rw [hx] at hj; cases hj
        rcases Sig.set_or σ i (.fz v) with q | q <;> rw [q]
        · exact ⟨u, rd, r⟩
        · trivial
      · cases hy
    · exact Sig.set_ne _ _ fun q => hj x (.head _) (q ▸ hx)
  | @many xs is k pos hx nd =>
    rw [namesOf_tuple] at hw hG h
    unfold put at e
    dsimp only at e
    split at e
    · rename_i vs
      obtain ⟨a, ws, rfl, hT, rr, hz⟩ := r.tup_inv
      have hlen := rr.length
      have hl2 := sets_len e
      have hl3 : xs.length = is.length := by have := congrArg List.length hx; simpa using this
      have hT' : s.heap.IsTuple a ws.toArray := isTup_of H.keep hT
      obtain ⟨n1, n2⟩ := assignEach_names xs env
      refine wpAny_assign_Tuple hh hT' (by rw [n1, List.size_toArray]; lia) n2 fun h1 hs1 => ?_
      have old : ∀ b o, s.heap.get? b = some o → h1.get? b = some o := fun b o e => hs1 b o (Nat.ne_of_lt (Heap.lt_size e)) e
      have tW : ∀ y b, WAt cx env s.heap y b → WAt cx env h1 y b := fun y b w => by
        rcases w with ⟨q1, q2, m, q3⟩ | ⟨q1, q2, v, q3⟩
        · exact .inl ⟨q1, q2, m, q3.keeps old⟩
        · exact .inr ⟨q1, q2, v, old _ _ q3⟩
      have tR : ∀ y w, Reads1 cx env s.heap y w → Reads1 cx env h1 y w := fun y w r => by
        rcases r with ⟨q1, m, q2, q3⟩ | ⟨q1, c, q2, q3⟩
        · exact .inl ⟨q1, m, Heap.Ns.keeps q2 old, q3⟩
        · exact .inr ⟨q1, c, q2, old _ _ q3⟩
      refine store_all X xs ws.toArray.toList { s with heap := h1 } (names_slots hx nd) (fun x hx => ?_) (by simp; lia) fun h' tk S => ?_
      · obtain ⟨b, wb⟩ := hw x hx; exact ⟨b, tW x b wb⟩
      · refine h _ ⟨h', tk, rfl⟩ (fun b o hb e => (S.kept b hb).trans (old b o e)) (fun x i hx' hi => ?_) (fun y w hy r => S.other y w hy (tR y w r)) (fun y b w => S.wat y b (tW y b w)) fun j hj => ?_
        · obtain ⟨q, hq, rfl⟩ := List.mem_map.mp hx'
          obtain ⟨m, hm⟩ := List.getElem?_of_mem hq
          have e1 : (xs.map fun x => cx.vars.lookup x.1)[m]? = some (some i) := by rw [List.getElem?_map, hm]; simp [hi]
          rw [hx, List.getElem?_map] at e1
          have e2 : is[m]? = some i := by
            cases q2 : is[m]? with
            | none => rw [q2] at e1; cases e1
            | some z => rw [q2] at e1; simp at e1; rw [e1]
          obtain ⟨vv, hv, hd⟩ := sets_at e nd e2
          rcases hd with hd | hd <;> rw [hd]
          · obtain ⟨uu, hu, ru⟩ := rr.get hv
            exact ⟨uu, S.reads m q.1 uu (by rw [List.getElem?_map, hm]; rfl) (by simpa using hu), ru⟩
          · trivial
        · refine sets_ne e fun hm => ?_
          have : some j ∈ xs.map fun x => cx.vars.lookup x.1 := by rw [hx]; exact List.mem_map_of_mem hm
          obtain ⟨q, hq, eq⟩ := List.mem_map.mp this
          exact hj q.1 (List.mem_map_of_mem hq) eq
    · cases e
end
end Mine
namespace Mine
open PySem PySem.Calls
/-! ### the cells of a new block -/
theorem cells_new : ∀ (names : List (Str × NameKind)) (h : Heap) (acc : List (Str × Addr)), (names.map (·.1)).Nodup →
    (∀ x, (x, NameKind.cell) ∈ names → ∃ a, (cellsFrom h.objs.size names acc).lookup x = some a ∧ h.objs.size ≤ a ∧ (pushCells h names).get? a = some (cellO none)) ∧
    (∀ x, (x, NameKind.cell) ∉ names → (cellsFrom h.objs.size names acc).lookup x = acc.lookup x) ∧
    (∀ x y a, (x, NameKind.cell) ∈ names → (y, NameKind.cell) ∈ names → (cellsFrom h.objs.size names acc).lookup x = some a → (cellsFrom h.objs.size names acc).lookup y = some a → x = y)
  | [], h, acc, _ => ⟨fun _ h => (nomatch h), fun _ _ => rfl, fun _ _ _ h => (nomatch h)⟩
  | (n, k) :: r, h, acc, nd => by
    have nd' : n ∉ r.map (·.1) ∧ (r.map (·.1)).Nodup := List.nodup_cons.mp nd
    have nin : ∀ k', (n, k') ∉ r := fun k' q => nd'.1 (List.mem_map_of_mem (f := (·.1)) q)
    by_cases hk : (k == NameKind.cell) = true
    · have hk' : k = .cell := eq_of_beq hk
      subst hk'
      have ih := cells_new r (h.push (cellO none)) ((n, h.objs.size) :: acc) nd'.2
      rw [show (h.push (cellO none)).objs.size = h.objs.size + 1 from Heap.size_push ..] at ih
      obtain ⟨i1, i2, i3⟩ := ih
      have e1 : cellsFrom h.objs.size ((n, .cell) :: r) acc = cellsFrom (h.objs.size + 1) r ((n, h.objs.size) :: acc) := by
        conv => lhs; unfold cellsFrom
        rfl
      have e2 : pushCells h ((n, .cell) :: r) = pushCells (h.push (cellO none)) r := by
        conv => lhs; unfold pushCells
        rfl
      rw [e1, e2]
      have hn : (cellsFrom (h.objs.size + 1) r ((n, h.objs.size) :: acc)).lookup n = some h.objs.size := by
        rw [i2 n (nin _)]; simp [List.lookup_cons]
      refine ⟨fun x hx => ?_, fun x hx => ?_, fun x y a hx hy ex ey => ?_⟩
      · rcases List.mem_cons.mp hx with q | q
        · cases q
          exact ⟨_, hn, Nat.le_refl _, pushCells_keeps r _ _ _ (Heap.get?_push_size _ rfl)⟩
        · obtain ⟨a, q1, q2, q3⟩ := i1 x q
          exact ⟨a, q1, Nat.le_trans (Nat.le_succ _) q2, q3⟩
      · have h1 : x ≠ n := fun q => hx (q ▸ .head _)
        rw [i2 x fun q => hx (.tail _ q), List.lookup_cons]
        have : (x == n) = false := by simpa using h1
        rw [this]
      · rcases List.mem_cons.mp hx with q | q <;> rcases List.mem_cons.mp hy with q' | q'
        · cases q; cases q'; rfl
        · cases q
          rw [hn] at ex; cases ex
          obtain ⟨a, q1, q2, _⟩ := i1 y q'
          rw [ey] at q1; cases q1
          exact absurd q2 (Nat.not_le.mpr (Nat.lt_succ_self _))
        · cases q'
          rw [hn] at ey; cases ey
          obtain ⟨a, q1, q2, _⟩ := i1 x q
          rw [ex] at q1; cases q1
          exact absurd q2 (Nat.not_le.mpr (Nat.lt_succ_self _))
        · exact i3 x y a q q' ex ey
    · have e1 : cellsFrom h.objs.size ((n, k) :: r) acc = cellsFrom h.objs.size r acc := by
        conv => lhs; unfold cellsFrom
        rw [if_neg hk]
      have e2 : pushCells h ((n, k) :: r) = pushCells h r := by
        conv => lhs; unfold pushCells
        rw [if_neg hk]
      rw [e1, e2]
      obtain ⟨i1, i2, i3⟩ := cells_new r h acc nd'.2
      have nc : ∀ x, (x, NameKind.cell) ∈ (n, k) :: r → (x, NameKind.cell) ∈ r := fun x q => by
        rcases List.mem_cons.mp q with q | q
        · cases q; exact absurd rfl hk
        · exact q
      exact ⟨fun x hx => i1 x (nc x hx), fun x hx => i2 x fun q => hx (.tail _ q), fun x y a hx hy => i3 x y a (nc x hx) (nc y hy)⟩
theorem closure_all {env : Env} : ∀ (names : List (Str × NameKind)) (acc : List (Str × Addr)), (∀ p ∈ names, p.2 = .free → ∃ a, env.cells.lookup p.1 = some a) →
    ∃ cl, (forIn names acc (fun (x : Str × NameKind) (cs : List (Str × Addr)) => (if x.2 == .free then do let c ← cellOf env x.1; pure (ForInStep.yield ((x.1, c) :: cs)) else pure (ForInStep.yield cs) : Sem (ForInStep (List (Str × Addr))))) : Sem (List (Str × Addr))) = pure cl ∧
      ∀ x, ((x, NameKind.free) ∈ names → cl.lookup x = env.cells.lookup x) ∧ ((x, NameKind.free) ∉ names → cl.lookup x = acc.lookup x)
  | [], acc, _ => ⟨acc, by rw [List.forIn_nil], fun x => ⟨fun h => (nomatch h), fun _ => rfl⟩⟩
  | (n, k) :: r, acc, hc => by
    by_cases hk : (k == NameKind.free) = true
    · have hk' : k = .free := eq_of_beq hk
      subst hk'
      obtain ⟨a, ha⟩ := hc (n, .free) (.head _) rfl
      obtain ⟨cl, h1, h2⟩ := closure_all r ((n, a) :: acc) fun p hp => hc p (.tail _ hp)
      refine ⟨cl, ?_, fun x => ⟨fun hx => ?_, fun hx => ?_⟩⟩
      · rw [List.forIn_cons]
        have e : cellOf env n = pure a := by unfold cellOf; rw [ha]
        simp only [e, beq_self_eq_true, if_true, pure_bind]
        exact h1
      · by_cases q : (x, NameKind.free) ∈ r
        · exact (h2 x).1 q
        · rw [(h2 x).2 q]
          rcases List.mem_cons.mp hx with q' | q'
          · cases q'; rw [List.lookup_cons]; simp [ha]
          · exact absurd q' q
      · rw [(h2 x).2 fun q => hx (.tail _ q), List.lookup_cons]
        have : (x == n) = false := by
          cases q : x == n with
          | false => rfl
          | true => have := eq_of_beq q; subst this; exact absurd (List.Mem.head _) hx
        rw [this]
    · obtain ⟨cl, h1, h2⟩ := closure_all r acc fun p hp => hc p (.tail _ hp)
      refine ⟨cl, ?_, fun x => ⟨fun hx => (h2 x).1 ?_, fun hx => (h2 x).2 fun q => hx (.tail _ q)⟩⟩
      · rw [List.forIn_cons]
        simp only [if_neg hk, pure_bind]
        exact h1
      · rcases List.mem_cons.mp hx with q | q
        · cases q; exact absurd rfl hk
        · exact q
theorem closure_spec {env : Env} {scope : Scope} (hc : ∀ p ∈ scope.names, p.2 = .free → ∃ a, env.cells.lookup p.1 = some a) :
    ∃ cl, closureFor scope env = pure cl ∧ ∀ x, ((x, NameKind.free) ∈ scope.names → cl.lookup x = env.cells.lookup x) ∧ ((x, NameKind.free) ∉ scope.names → cl.lookup x = none) := by
  obtain ⟨cl, h1, h2⟩ := closure_all scope.names [] hc
  refine ⟨cl, ?_, fun x => ⟨(h2 x).1, fun q => by rw [(h2 x).2 q]; rfl⟩⟩
  unfold closureFor
  rw [← h1]
  simp only [bind_pure]
section
variable {M : Model} {A : Around} {E : Value → Shared → Prop} {s : Shared}
theorem newCompEnv {scope : Scope} {globals : Addr} {cl : List (Str × Addr)} {qual : Str} {env : Env} {Q : Env → Shared → Prop}
    (h : Q { scope, locals := s.heap.objs.size, globals, cells := cellsFrom (s.heap.objs.size + 1) scope.names cl, qual, func := none, code := env.code, frame := env.frame, builtins := env.builtins }
      { s with heap := pushCells (s.heap.push { cls := .type "dict", data := .dict #[] }) scope.names }) : wpAny M A (newFunctionEnv scope globals cl [] qual none .none (some env)) Q E s := by
  simp only [newFunctionEnv, Option.isSome_some, if_true]
  refine wpAny_bind (wpAny_alloc ?_)
  refine wpAny_bind (wpAny_layCells _ (fun name kind cells => by cases hkc : kind == NameKind.cell <;> simp [hkc]) _ _ _ _ ?_)
  rw [show ({ s with heap := s.heap.push { cls := .type "dict", data := .dict #[] } } : Shared).heap.objs.size = s.heap.objs.size + 1 from Heap.size_push ..]
  rw [List.forIn_nil]
  exact wpAny_bind (wpAny_pure (wpAny_pure h))
end
section
variable {prog : Program} {w : World} {A : Around} {R : Result → Shared → Prop} {s : Shared}
theorem codeAny_compLoop_go {elt target iter : Expr} {ifs : List Expr} {scope : Scope} {pos : Pos} {it acc : Value} {env : Env} (I : Nat → Shared → Prop)
    (turn : ∀ n s, I n s → wpAny (model prog w) A (pyNext it) (fun r s₁ => match r with
      | none => R (.ok .next) s₁
      | some v => wpAny (model prog w) A (letOwnedTupleGo target it v) (fun _ s₁' => wpAny (model prog w) A (assign target env v) (fun _ s₂ =>
          wpAny (model prog w) A (forIn ifs true fun c r => if r = true then do let ok ← isTrue c env (eval c env); pure (ForInStep.yield ok) else pure (ForInStep.yield r)) (fun ok s₃ =>
            if ok = true then wpAny (model prog w) A (eval elt env) (fun x s₄ =>
              wpAny (model prog w) A (call (.builtin "list.append") [acc, x]) (fun _ s₅ => ∃ m, m < n ∧ I m s₅) (fun _ _ => False) s₄) (fun _ _ => False) s₃
            else ∃ m, m < n ∧ I m s₃) (fun _ _ => False) s₂) (fun _ _ => False) s₁') (fun _ _ => False) s₁) (fun _ _ => False) s)
    (n : Nat) (h : I n s) : codeAny (model prog w) A (.compLoop (.ListComp elt [⟨target, iter, ifs, 0⟩] scope pos) 0 it acc env) R s := by
  refine codeAny_loop rfl I (fun n s hI => ?_) n h
  show wpAny _ A ((compTurn (.ListComp elt [⟨target, iter, ifs, 0⟩] scope pos) 0 it acc env).onRaise (fun x => do noteFrame x env; theTreesLotGoes x)) _ _ s
  refine wpAny_noted ?_
  rw [compTurn_list]
  refine wpAny_bind (wpAny_standAt (wpAny_bind (wpAny_mono (turn n s hI) (fun r s₁ h₁ => ?_) fun _ _ f => f.elim)))
  induction r using Option.casesOn with
  | none => exact wpAny_pure h₁
  | some v =>
    refine wpAny_bind (wpAny_mono h₁ (fun _ s₁' h₁' => ?_) fun _ _ f => f.elim)
    refine wpAny_bind (wpAny_mono h₁' (fun _ s₂ h₂ => wpAny_bind (wpAny_mono h₂ (fun ok s₃ h₃ => ?_) fun _ _ f => f.elim)) fun _ _ f => f.elim)
    induction ok using Bool.casesOn with
    | false => exact wpAny_pure ⟨rfl, h₃⟩
    | true =>
      exact wpAny_bind (wpAny_bind (wpAny_mono h₃ (fun x s₄ h₄ => wpAny_bind (wpAny_mono h₄ (fun _ s₅ h₅ => wpAny_pure (wpAny_pure ⟨rfl, h₅⟩)) fun _ _ f => f.elim)) fun _ _ f => f.elim))
end
section
variable {B : Base} {n : Nat} {ev : Sig → ME → Option V}
abbrev condB (env : Env) (c : Expr) (r : Bool) : Sem (ForInStep Bool) := if r = true then do let ok ← isTrue c env (eval c env); pure (ForInStep.yield ok) else pure (ForInStep.yield r)
theorem conds_no {env : Env} {A : Around} {Q : Bool → Shared → Prop} {s : Shared} (h : Q false s) (es : List Expr) : Wp B A (forIn es false (condB env)) Q s := by
  induction es with
  | nil => rw [List.forIn_nil]; exact wpAny_pure h
  | cons c es ih => rw [List.forIn_cons]; exact wpAny_bind (wpAny_pure ih)
theorem conds_spec (ok : BaseOK B) (IHb : BSpec B n ev) {cx : Cx} (hc : cxOk B cx) {σ : Sig} {env : Env} (X : EnvB cx env) {A : Around} (hr : Room A n) {cs : List Expr} {ms : List ME} (t : TL cx cs ms) {b : Bool} (e : allV ev σ ms = some b)
    {G : GMap} {s : Shared} (H : Hp B G s) (R : Rd cx env σ G s.heap) {Q : Bool → Shared → Prop} (h : ∀ G' s', Ext B G s G' s' → Q b s') : Wp B A (forIn cs true (condB env)) Q s := by
  induction ms generalizing cs G s with
  | nil =>
    obtain rfl := t
    rw [List.forIn_nil]
    exact wpAny_pure (Option.some.inj e ▸ h G s (.refl H))
  | cons m ms ih =>
    obtain ⟨c, cs, rfl, t, r⟩ := t
    unfold allV at e
    rw [List.forIn_cons]
    set_option smartUnfolding false in refine mE e fun v hv e => ?_
    set_option smartUnfolding false in refine mB e (fun hb e => ?_) (fun hb e => ?_)
    · refine wpAny_bind (wpAny_bind (IHb _ _ _ t hc σ v true hv hb A env G s hr X H R _ fun G1 s1 x1 => wpAny_pure ?_))
      exact ih r e x1.hp (R.ext ok H x1) fun G2 s2 x2 => h G2 s2 (x1.trans x2)
    · refine wpAny_bind (wpAny_bind (IHb _ _ _ t hc σ v false hv hb A env G s hr X H R _ fun G1 s1 x1 => wpAny_pure ?_))
      exact conds_no (Option.some.inj e ▸ h G1 s1 x1) cs
theorem lookup_mem {l : List (Str × NameKind)} {x : Str} {k : NameKind} (h : l.lookup x = some k) : (x, k) ∈ l := mem_of_lookup h
theorem mem_lookup {α : Type} {l : List (Str × α)} {x : Str} {k : α} (nd : (l.map (·.1)).Nodup) (h : (x, k) ∈ l) : l.lookup x = some k := by
  induction l with
  | nil => exact nomatch h
  | cons p r ih =>
    obtain ⟨n, k'⟩ := p
    obtain ⟨nd1, nd2⟩ := List.nodup_cons.mp nd
    rw [List.lookup_cons]
    rcases List.mem_cons.mp h with q | q
    · cases q; rw [beq_self_eq_true]
    · have : (x == n) = false := beq_eq_false_iff_ne.2 fun e => nd1 (e ▸ List.mem_map_of_mem (f := (·.1)) q)
      rw [this]; exact ih nd2 q
theorem comp_kind {out inn : Scope} : ∀ {l : List (Str × NameKind)} (x : Str), (l.map fun p => if p.2 == .free && out.kind == .function && out.names.lookup p.1 == some .cell then (p.1, NameKind.cell) else p).lookup x =
    (l.lookup x).map fun k => if k == .free && out.kind == .function && out.names.lookup x == some .cell then .cell else k
  | [], _ => rfl
  | (n, k) :: r, x => by
    have ih := comp_kind (out := out) (inn := inn) (l := r) x
    rw [List.map_cons, List.lookup_cons]
    by_cases hc : (k == NameKind.free && out.kind == .function && out.names.lookup n == some .cell) = true
    · have e1 : (if (n, k).2 == .free && out.kind == .function && out.names.lookup (n, k).1 == some .cell then ((n, k).1, NameKind.cell) else (n, k)) = (n, .cell) := if_pos hc
      rw [e1, List.lookup_cons]
      cases e : x == n with
      | true =>
        have := eq_of_beq e
        subst this
        show some NameKind.cell = some (if k == .free && out.kind == .function && out.names.lookup x == some .cell then .cell else k)
        rw [if_pos hc]
      | false => exact ih
    · have e1 : (if (n, k).2 == .free && out.kind == .function && out.names.lookup (n, k).1 == some .cell then ((n, k).1, NameKind.cell) else (n, k)) = (n, k) := if_neg hc
      rw [e1, List.lookup_cons]
      cases e : x == n with
      | true =>
        have := eq_of_beq e
        subst this
        show some k = some (if k == .free && out.kind == .function && out.names.lookup x == some .cell then .cell else k)
        rw [if_neg hc]
      | false => exact ih
end
end Mine
namespace Mine
open PySem PySem.Calls
structure CV (cx cx' : Cx) (scope : Scope) (tn : List Str) : Prop where
  vars : ∀ x i, cx'.vars.lookup x = some i → (x ∈ tn ∧ (scope.names.lookup x = some .local ∨ scope.names.lookup x = some .cell)) ∨
    (x ∉ tn ∧ scope.names.lookup x = some .free ∧ cx.vars.lookup x = some i ∧ isCellish (cx.scope.names.lookup x) = true)
  inj : ∀ x y i, cx'.vars.lookup x = some i → cx'.vars.lookup y = some i → x = y
  free : ∀ x, (x, NameKind.free) ∈ scope.names → isCellish (cx.scope.names.lookup x) = true
  nd : (scope.names.map (·.1)).Nodup
  cd : scope.names.lookup (Str.ofString "__classdict__") = none
theorem snd_inj : ∀ {l : List (Str × Nat)} {x y : Str} {i : Nat}, (l.map (·.2)).Nodup → (x, i) ∈ l → (y, i) ∈ l → x = y
  | (n, k) :: r, x, y, i, nd, h, h' => by
    have nd' : k ∉ r.map (·.2) ∧ (r.map (·.2)).Nodup := List.nodup_cons.mp nd
    rcases List.mem_cons.mp h with q | q <;> rcases List.mem_cons.mp h' with q' | q'
    · cases q; cases q'; rfl
    · cases q; exact absurd (List.mem_map_of_mem (f := (·.2)) q') nd'.1
    · cases q'; exact absurd (List.mem_map_of_mem (f := (·.2)) q) nd'.1
    · exact snd_inj nd'.2 q q'
set_option tactic.hygienic true in
theorem CompOk.cv {cx cx' : Cx} {scope : Scope} {t : Expr} (h : CompOk cx cx' scope t) : CV cx cx' scope (namesOf t) := by
  have k := h.ok
  unfold compVarsOk at k
  simp only [Bool.and_eq_true, decide_eq_true_eq] at k
  obtain ⟨⟨⟨⟨⟨v1, v2⟩, v3⟩, v4⟩, v5⟩, v6⟩ := k
  refine ⟨fun x i hx => ?_, fun x y i hx hy => ?_, fun x hx => ?_, v5, by simpa using v6⟩
  · have := List.all_eq_true.mp v1 _ (mem_of_lookup hx)
    dsimp only at this
    split at this
    · rename_i q
      left
      refine ⟨by simpa using q, ?_⟩
      simpa using this
    · rename_i q
      right
      simp only [Bool.and_eq_true, beq_iff_eq] at this
      exact ⟨by simpa using q, this.1.1, this.1.2, this.2⟩
  · exact snd_inj v2 (mem_of_lookup hx) (mem_of_lookup hy)
  · have := List.all_eq_true.mp v4 _ hx
    simpa using this
section
variable {B : Base} {n : Nat} {ev : Sig → ME → Option V}
theorem comp_scope {cx cx' : Cx} {scope : Scope} {t : Expr} {env : Env} (X : EnvB cx env) (hs : CompOk cx cx' scope t) : relabel scope env = cx'.scope := by
  rw [hs.eq]
  unfold relabel compNames
  simp only [Env.kindOf, X.scope]
theorem comp_look {cx cx' : Cx} {scope : Scope} {t : Expr} (hs : CompOk cx cx' scope t) (x : Str) :
    cx'.scope.names.lookup x = (scope.names.lookup x).map fun k => if k == .free && cx.scope.kind == .function && cx.scope.names.lookup x == some .cell then .cell else k := by
  rw [hs.eq]
  exact comp_kind (out := cx.scope) (inn := scope) x
theorem comp_cellish {cx cx' : Cx} {scope : Scope} {t : Expr} (hs : CompOk cx cx' scope t) {x : Str} (h : isCellish (cx'.scope.names.lookup x) = true) : (x, NameKind.cell) ∈ scope.names ∨ (x, NameKind.free) ∈ scope.names := by
  rw [comp_look hs] at h
  cases q : scope.names.lookup x with
  | none => rw [q] at h; cases h
  | some k =>
    have m := lookup_mem q
    rw [q] at h
    induction k using PySem.NameKind.casesOn <;> first | exact .inl m | exact .inr m | cases h
theorem comp_env {cx cx' : Cx} {scope : Scope} {t : Expr} {env : Env} (X : EnvB cx env) (hs : CompOk cx cx' scope t) {h0 h1 : Heap} (hup : ∀ y c, isCellish (cx.scope.names.lookup y) = true → env.cells.lookup y = some c → ∃ v, h0.get? c = some (cellO v))
    (hle : ∀ b o, h0.get? b = some o → h1.get? b = some o) {cl : List (Str × Addr)} (hcl : ∀ x, ((x, NameKind.free) ∈ scope.names → cl.lookup x = env.cells.lookup x) ∧ ((x, NameKind.free) ∉ scope.names → cl.lookup x = none))
    {L : Addr} (hL : L = h1.objs.size) {hp : Heap} (ehp : hp = h1.push { cls := .type "dict", data := .dict #[] }) {cenv : Env} (e1 : cenv.scope = relabel scope env) (e2 : cenv.locals = L) (e3 : cenv.globals = env.globals) (e4 : cenv.builtins = env.builtins)
    (e5 : cenv.cells = cellsFrom hp.objs.size scope.names cl) :
    EnvB cx' cenv ∧ (∀ x, (x, NameKind.cell) ∈ scope.names → ∃ a, cenv.cells.lookup x = some a ∧ h1.objs.size < a ∧ (pushCells hp scope.names).get? a = some (cellO none)) ∧
      (∀ x, (x, NameKind.free) ∈ scope.names → cenv.cells.lookup x = env.cells.lookup x) := by
  have v := hs.cv
  have sz : hp.objs.size = h1.objs.size + 1 := by rw [ehp]; exact Heap.size_push ..
  obtain ⟨c1, c2, c3⟩ := cells_new scope.names hp cl v.nd
  rw [← e5] at c1 c2 c3
  have notboth : ∀ x, (x, NameKind.free) ∈ scope.names → (x, NameKind.cell) ∉ scope.names := fun x h h' => by
    have a := mem_lookup v.nd h
    have b := mem_lookup v.nd h'
    rw [a] at b; cases b
  have fr : ∀ x, (x, NameKind.free) ∈ scope.names → cenv.cells.lookup x = env.cells.lookup x := fun x h => by rw [c2 x (notboth x h), (hcl x).1 h]
  have frlt : ∀ x c, (x, NameKind.free) ∈ scope.names → cenv.cells.lookup x = some c → @LT.lt Nat instLTNat c h1.objs.size := fun x c h e => by
    rw [fr x h] at e
    obtain ⟨w, q⟩ := hup x c (v.free x h) e
    exact Heap.lt_size (hle _ _ q)
  have cge : ∀ x c, (x, NameKind.cell) ∈ scope.names → cenv.cells.lookup x = some c → @LT.lt Nat instLTNat h1.objs.size c := fun x c h e => by
    obtain ⟨a, q1, q2, _⟩ := c1 x h
    rw [e] at q1; cases q1
    rw [sz] at q2
    exact q2
  refine ⟨⟨?_, ?_, by rw [e3]; exact X.globals, by rw [e4]; exact X.builtins, fun y hy => ?_, ?_, ⟨fun y c hy hc => ?_, fun x y c hx hy ex ey => ?_⟩⟩, fun x hx => ?_, fr⟩
  · rw [e1]; exact comp_scope X hs
  · rw [hs.eq]; exact hs.kind
  · rcases comp_cellish hs hy with h | h
    · obtain ⟨a, q1, _⟩ := c1 y h; exact ⟨a, q1⟩
    · rw [fr y h]; exact X.cells y (v.free y h)
  · rw [comp_look hs, v.cd]; rfl
  · rw [e2, hL]
    rcases comp_cellish hs hy with h | h
    · exact addr_ne (.inr (cge y c h hc))
    · exact addr_ne (.inl (frlt y c h hc))
  · rcases comp_cellish hs hx with h | h <;> rcases comp_cellish hs hy with h' | h'
    · exact c3 x y c h h' ex ey
    · have := cge x c h ex; have := frlt y c h' ey; lia
    · have := cge y c h' ey; have := frlt x c h ex; lia
    · rw [fr x h] at ex; rw [fr y h'] at ey
      exact X.fm.ne2 x y c (v.free x h) (v.free y h') ex ey
  · obtain ⟨a, q1, q2, q3⟩ := c1 x hx
    refine ⟨a, q1, ?_, q3⟩
    rw [sz] at q2
    exact q2
theorem comp_rd {cx cx' : Cx} {scope : Scope} {t : Expr} {mt : Tgt} {env cenv : Env} (hs : CompOk cx cx' scope t) (T : TT cx' t mt) (hfr : ∀ x, (x, NameKind.free) ∈ scope.names → cenv.cells.lookup x = env.cells.lookup x)
    {σ σ' : Sig} {G : GMap} {h : Heap} (R : Rd cx env σ G h)
    (hcells : ∀ x a, (x, NameKind.cell) ∈ scope.names → cenv.cells.lookup x = some a → ∃ v, h.get? a = some (cellO v))
    (ht : ∀ x i, x ∈ namesOf t → cx'.vars.lookup x = some i → EntAt cx' cenv G h x (σ'.at i)) (hj : ∀ j, (∀ x ∈ namesOf t, cx'.vars.lookup x ≠ some j) → σ'.at j = σ.at j) : Rd cx' cenv σ' G h := by
  have v := hs.cv
  have cel : ∀ x, (x, NameKind.free) ∈ scope.names → isCellish (cx'.scope.names.lookup x) = true := fun x h => by
    rw [comp_look hs, mem_lookup v.nd h]
    show isCellish (some (if _ then _ else _)) = true
    split <;> rfl
  refine ⟨fun x i hx => ?_, fun y c hy hc => ?_⟩
  · rcases v.vars x i hx with ⟨h1, _⟩ | ⟨h1, h2, h3, h4⟩
    · exact ht x i h1 hx
    · have e : σ'.at i = σ.at i := hj i fun y hy q => h1 (v.inj x y i hx q ▸ hy)
      rw [e]
      have z := R.ent x i h3
      have m := lookup_mem h2
      have tr : ∀ w, Reads1 cx env h x w → Reads1 cx' cenv h x w := fun w r => by
        rcases r with ⟨q1, _⟩ | ⟨q1, c, q2, q3⟩
        · rw [q1] at h4; cases h4
        · exact .inr ⟨cel x m, c, by rw [hfr x m]; exact q2, q3⟩
      cases q : σ.at i with
      | un => trivial
      | fz w => rw [q] at z; obtain ⟨u, a, b⟩ := z; exact ⟨u, tr u a, b⟩
      | own w => rw [q] at z; obtain ⟨u, a, b⟩ := z; exact ⟨u, tr _ a, b⟩
  · rcases comp_cellish hs hy with q | q
    · exact hcells y c q hc
    · rw [hfr y q] at hc
      exact R.up y c (v.free y q) hc
end
end Mine
namespace Mine
open PySem PySem.Calls
theorem append_exact {prog : Program} {w : World} {A : Around} {E : Value → Shared → Prop} {s : Shared} {D : Addr} {us : List Value} {k : Nat} {v : Value} (hD : s.heap.get? D = some (listO us k)) (hz : us.length ≤ sizeLine) {Q : Value → Shared → Prop}
    (hq : ∀ h' k', (∀ b, b ≠ D → h'.get? b = s.heap.get? b) → h'.get? D = some (listO (us ++ [v]) k') → Q .none { s with heap := h' }) : wpAny (model prog w) A (call (.builtin "list.append") [.ref D, v]) Q E s := by
  refine call_meets F.slot_list_append ⟨_, hD, rfl⟩ F.entry_list_append (F.args_list_append_2 _ _) (PySem.list_append D us.toArray k v (by rw [List.size_toArray]; exact hz)) ⟨hD, ?_⟩
  have := PyProof.Rows.get?_update_seq (c := "list") (xs := us.toArray) (n := k) hD (fun xs => xs.push v)
  refine hq _ (if (us.toArray.push v).size == us.toArray.size then k else k + 1) (fun b hb => Heap.get?_update_ne _ _ _ _ hb) ?_
  rw [this]
  show some (PyProof.Rows.seqObj "list" (us.toArray.push v) _) = some (PyProof.Rows.seqObj "list" (us ++ [v]).toArray _)
  rw [List.push_toArray]
theorem TT.names {cx : Cx} {t : Expr} {mt : Tgt} (T : TT cx t mt) : ∀ x ∈ namesOf t, ∃ i, cx.vars.lookup x = some i := by
  induction T using Mine.TT.casesOn with
  | one h => intro x hx; rcases List.mem_cons.mp hx with rfl | hx; exact ⟨_, h⟩; cases hx
  | @many xs is k pos h nd =>
    rw [namesOf_tuple]
    intro x hx
    obtain ⟨q, hq, rfl⟩ := List.mem_map.mp hx
    have : cx.vars.lookup q.1 ∈ xs.map fun x => cx.vars.lookup x.1 := List.mem_map_of_mem hq
    rw [h] at this
    obtain ⟨i, _, e⟩ := List.mem_map.mp this
    exact ⟨i, e.symm⟩
theorem TT.shape {cx : Cx} {t : Expr} {mt : Tgt} (T : TT cx t mt) : isTup t = true ∨ ∃ y p, t = .Name y p := by
  induction T using Mine.TT.casesOn with
  | one h => exact .inr ⟨_, _, rfl⟩
  | many h nd => exact .inl rfl
end Mine
namespace Mine
open PySem PySem.Calls
section
variable {B : Base} {n : Nat} {ev : Sig → ME → Option V}
theorem Itr.turn {A : Around} {G0 : GMap} {s0 : Shared} {I : Addr} {wr : List Addr} {St : Nat → Heap → Prop} {k : Itk} {l : List V} (Iw : Itr B A G0 s0 I wr St k l) {i : Nat} {G : GMap} {s : Shared} {x : V} {t : Expr} {Q : Option Value → Shared → Prop} {K : Value → Shared → Prop}
    (hx : l[i]? = some x) (H : Hp B G s) (hle : G0.le G) (hw : ∀ b ∈ wr, G b = none) (st : St i s.heap) (hk : tgtOk k t = true) (ht : isTup t = true ∨ ∃ y p, t = .Name y p)
    (hK : ∀ v s1, Wp B A (letOwnedTupleGo t (.ref I) v) (fun _ s2 => K v s2) s1 → Q (some v) s1)
    (h : ∀ G' s' u, SExt B (· ∈ wr) G s G' s' → St (i + 1) s'.heap → (∀ b ∈ wr, G' b = none) → Rep G' u x → K u s') : Wp B A (pyNext (.ref I)) Q s :=
  wpAny_mono (Iw.next i G s x t K hx H hle hw st hk ht h) (fun r s1 ⟨v, e, hgo⟩ => e ▸ hK v s1 hgo) fun _ _ f => f
structure CI (B : Base) (G0 : GMap) (s0 : Shared) (G2 : GMap) (scope : Scope) (cenv : Env) (wr : List Addr) (St : Nat → Heap → Prop) (D : Addr) (us : List Value) (i : Nat) (G : GMap) (s : Shared) : Prop where
  ext : Ext B G0 s0 G s
  le2 : G2.le G
  wrn : ∀ b ∈ wr, G b = none
  st : St i s.heap
  dn : G D = none
  ln : G cenv.locals = none
  cn : ∀ x a, (x, NameKind.cell) ∈ scope.names → cenv.cells.lookup x = some a → G a = none
  acc : ∃ k, s.heap.get? D = some (listO us k)
  ns : ∃ m, s.heap.Ns cenv.locals m
  cells : ∀ x a, (x, NameKind.cell) ∈ scope.names → cenv.cells.lookup x = some a → ∃ v, s.heap.get? a = some (cellO v)
structure CZ (G0 : GMap) (s0 : Shared) (scope : Scope) (cenv : Env) (wr : List Addr) (D : Addr) : Prop where
  dw : D ∉ wr
  lw : cenv.locals ∉ wr
  cw : ∀ x a, (x, NameKind.cell) ∈ scope.names → cenv.cells.lookup x = some a → a ∉ wr
  dl : D ≠ cenv.locals
  dc : ∀ x a, (x, NameKind.cell) ∈ scope.names → cenv.cells.lookup x = some a → D ≠ a
  lc : ∀ x a, (x, NameKind.cell) ∈ scope.names → cenv.cells.lookup x = some a → a ≠ cenv.locals
  df : s0.heap.get? D = none
  lf : s0.heap.get? cenv.locals = none
  cf : ∀ x a, (x, NameKind.cell) ∈ scope.names → cenv.cells.lookup x = some a → s0.heap.get? a = none
  wf : ∀ b ∈ wr, s0.heap.get? b = none
variable {G0 G2 G G' : GMap} {s0 s s' : Shared} {scope : Scope} {cenv : Env} {wr : List Addr} {St : Nat → Heap → Prop} {D : Addr} {us : List Value} {i : Nat}
theorem CI.step (ok : BaseOK B) (Z : CZ G0 s0 scope cenv wr D) (c : CI B G0 s0 G2 scope cenv wr St D us i G s) {α : Addr → Prop} (x : SExt B α G s G' s') (hf : ∀ a, α a → s0.heap.get? a = none)
    (h1 : ¬ α D) (h2 : ¬ α cenv.locals) (h3 : ∀ x a, (x, NameKind.cell) ∈ scope.names → cenv.cells.lookup x = some a → ¬ α a) {i' : Nat} (st : St i' s'.heap) (wrn : ∀ b ∈ wr, G' b = none) : CI B G0 s0 G2 scope cenv wr St D us i' G' s' where
  ext := ((c.ext.sx (fun _ => False)).trans x fun a ha => .inr (hf a ha)).ext fun _ f => f.elim
  le2 := c.le2.trans x.le
  wrn := wrn
  st := st
  dn := by obtain ⟨k, e⟩ := c.acc; rw [x.new _ _ e h1]; exact c.dn
  ln := by obtain ⟨m, o, es, ep, e, _⟩ := c.ns; rw [x.new _ _ e h2]; exact c.ln
  cn := fun y a hy ha => by obtain ⟨v, e⟩ := c.cells y a hy ha; rw [x.new _ _ e (h3 y a hy ha)]; exact c.cn y a hy ha
  acc := by obtain ⟨k, e⟩ := c.acc; exact ⟨k, x.keep ok c.ext.hp e (by intro q; cases q) h1⟩
  ns := by
    obtain ⟨m, o, es, ep, e, r⟩ := c.ns
    exact ⟨m, o, es, ep, x.grow _ _ e (c.ext.hp.nottabS ok e (.inr ⟨es, ep, r.1⟩)) h2, r⟩
  cells := fun y a hy ha => by obtain ⟨v, e⟩ := c.cells y a hy ha; exact ⟨v, x.keep ok c.ext.hp e (by intro q; cases q) (h3 y a hy ha)⟩
theorem CI.keep (ok : BaseOK B) (Z : CZ G0 s0 scope cenv wr D) {A : Around} {I : Addr} {k : Itk} {l : List V} (Iw : Itr B A G2 s0 I wr St k l) (c : CI B G0 s0 G2 scope cenv wr St D us i G s) (x : Ext B G s G' s') : CI B G0 s0 G2 scope cenv wr St D us i G' s' := by
  refine c.step ok Z (x.sx fun _ => False) (fun _ f => f.elim) (fun f => f) (fun f => f) (fun _ _ _ _ f => f) (Iw.frame _ _ _ c.st fun b hb o e => ?_) (fun b hb => ?_)
  · rcases hb with hb | ⟨o', hb⟩
    · obtain ⟨o2, e2, c2⟩ := Iw.live _ _ c.st b hb
      rw [e] at e2; obtain rfl := Option.some.inj e2; exact x.keep ok c.ext.hp e c2
    · rw [c.ext.hp.keep b o' (c.le2 b o' hb)] at e
      exact e ▸ x.hp.keep b o' (x.le b o' (c.le2 b o' hb))
  · obtain ⟨o2, e2, c2⟩ := Iw.live _ _ c.st b hb
    rw [x.new b _ e2]; exact c.wrn b hb
theorem comp_core (ok : BaseOK B) (IH : ESpec B n ev) (IHb : BSpec B n ev) {cx cx' : Cx} (hc : cxOk B cx) {σ : Sig} {env : Env} (X : EnvB cx env) {A : Around} (hr : Room A n) {elt it t : Expr} {mt : Tgt} {k : Itk} {ms mcs : List ME} {cs : List Expr} {melt : ME} {scope : Scope} {pos : Pos}
    (hs : CompOk cx cx' scope t) (hk : tgtOk k t = true) (hi : TI cx it k ms) (ht : TT cx' t mt) (htc : TL cx' cs mcs) (he : T cx' elt melt) {vs l out : List V} (hv : evL ev σ ms = some vs) (hl : iterV k vs = some l) (ho : compV ev σ melt mt mcs l = some out)
    {G : GMap} {s : Shared} (H : Hp B G s) (R : Rd cx env σ G s.heap) (use : Option (Value → Sem Unit)) {Q : Value → Shared → Prop}
    (hp : ∀ G' s' us k D C, Ext B G s G' s' → s'.heap.get? D = some (listO us k) → G' D = none → s.heap.get? D = none → Reps G' us out → us.length ≤ sizeLine → s.heap.get? C = none → G' C = none → (∃ m, s'.heap.Ns C m) → D ≠ C →
      compPost (model B.prog B.w) A (fun _ _ => False) use Q (.ref D) C (.ok .next) s') :
    Wp B A (comprehension (.ListComp elt [⟨t, it, cs, 0⟩] scope pos) scope env (firstIterPos [⟨t, it, cs, 0⟩] pos) (newList []) (firstAsync [⟨t, it, cs, 0⟩]) (firstIter [⟨t, it, cs, 0⟩] env) use) Q s := by
  have hv' := hs.cv
  have hc' : cxOk B cx' := by rw [hs.eq]; exact hc
  obtain ⟨cl, hcl, hcl2⟩ := closure_spec (env := env) (scope := scope) fun p hp hf => X.cells p.1 (hv'.free p.1 (by obtain ⟨a, b⟩ := p; cases hf; exact hp))
  refine wpAny_comprehension_free (use := use) (g := ⟨t, it, cs, 0⟩) (gs := []) rfl (fun x => hi.notSet env x) hcl hs.kind (fun x hx hl => mem_lookup hv'.nd (by obtain ⟨a, b⟩ := x; cases hl; exact hx)) ?_
  show Wp B A (eval it env) _ s
  refine iter_spec ok IH hc X hr hi hv hl H R fun G2 s2 I wr St x2 Iw wr2 st2 hlen => ?_
  refine wpAny_newObj_type (newCompEnv ?_)
  generalize hcenv : ({ scope := relabel scope env, locals := (s2.heap.push { cls := .type "list", data := .seq ([] : List Value).toArray }).objs.size, globals := env.globals, cells := cellsFrom ((s2.heap.push { cls := .type "list", data := .seq ([] : List Value).toArray }).objs.size + 1) scope.names cl, qual := env.qual, func := none, code := env.code, frame := env.frame, builtins := env.builtins } : Env) = cenv
  generalize hh1 : s2.heap.push { cls := .type "list", data := .seq ([] : List Value).toArray } = h1 at hcenv
  have k1 : ∀ b o, s2.heap.get? b = some o → h1.get? b = some o := fun b o e => by rw [← hh1]; exact Heap.get?_push_of_some _ e
  have sz1 : h1.objs.size = s2.heap.objs.size + 1 := by rw [← hh1]; exact Heap.size_push ..
  have R2 := R.ext ok H x2
  obtain ⟨X', cnew, cfr⟩ := comp_env (cenv := cenv) X hs (h0 := s2.heap) (h1 := h1) R2.up k1 hcl2 (L := h1.objs.size) rfl (hp := h1.push { cls := .type "dict", data := .dict #[] }) rfl (by rw [← hcenv]) (by rw [← hcenv]) (by rw [← hcenv]) (by rw [← hcenv]) (by rw [← hcenv, Heap.size_push])
  have eloc : cenv.locals = h1.objs.size := by rw [← hcenv]
  generalize hh3 : pushCells (h1.push { cls := .type "dict", data := .dict #[] }) scope.names = h3 at cnew ⊢
  have k3 : ∀ b o, s2.heap.get? b = some o → h3.get? b = some o := fun b o e => by rw [← hh3]; exact pushCells_keeps _ _ _ _ (Heap.get?_push_of_some _ (k1 b o e))
  have wlt : ∀ b ∈ wr, @LT.lt Nat instLTNat b s2.heap.objs.size := fun b hb => by
    obtain ⟨o, e, _⟩ := Iw.live 0 _ st2 b hb
    exact Heap.lt_size e
  have cgt : ∀ x a, (x, NameKind.cell) ∈ scope.names → cenv.cells.lookup x = some a → @LT.lt Nat instLTNat h1.objs.size a := fun x a hx ha => by
    obtain ⟨a', q1, q2, _⟩ := cnew x hx
    rw [ha] at q1; cases q1; exact q2
  have fr2 : ∀ a : Addr, @LE.le Nat instLENat s2.heap.objs.size a → s.heap.get? a = none := fun a ha => fresh_of ok x2 ha
  have Z : CZ G s scope cenv wr s2.heap.objs.size := by
    refine ⟨fun q => ?_, fun q => ?_, fun x a hx ha q => ?_, ?_, fun x a hx ha => ?_, fun x a hx ha => ?_, fr2 _ (Nat.le_refl _), ?_, fun x a hx ha => ?_, Iw.fresh⟩
    · exact Nat.lt_irrefl _ (wlt _ q)
    · have := wlt _ q; rw [eloc] at this; lia
    · have := wlt _ q; have := cgt x a hx ha; lia
    · rw [eloc]; exact addr_ne (by lia)
    · have := cgt x a hx ha; exact addr_ne (by lia)
    · have := cgt x a hx ha; rw [eloc]; exact addr_ne (by lia)
    · rw [eloc]; exact fr2 _ (by show s2.heap.objs.size ≤ h1.objs.size; lia)
    · have := cgt x a hx ha; exact fr2 _ (by show s2.heap.objs.size ≤ a; lia)
  have gn : ∀ a : Addr, @LE.le Nat instLENat s2.heap.objs.size a → G2 a = none := fun a ha => x2.hp.noneG (none_of_size ha)
  have J0 : CI B G s G2 scope cenv wr St s2.heap.objs.size [] 0 G2 { s2 with heap := h3 } := by
    refine ⟨x2.trans (Ext.grown (tk := s2.toks) ok x2.hp k3), .refl _, wr2, Iw.frame 0 _ _ st2 fun b _ o e => k3 b o e, gn _ (Nat.le_refl _), ?_, fun x a hx ha => ?_, ⟨0, ?_⟩, ?_, fun x a hx ha => ?_⟩
    · rw [eloc]; exact gn _ (by show s2.heap.objs.size ≤ h1.objs.size; lia)
    · have := cgt x a hx ha; exact gn _ (by show s2.heap.objs.size ≤ a; lia)
    · rw [← hh3]; exact pushCells_keeps _ _ _ _ (Heap.get?_push_of_some _ (by rw [← hh1]; exact Heap.get?_push_size _ rfl))
    · rw [eloc, ← hh3]; exact ⟨_, (Heap.Ns.new h1 (.type "dict")).keeps (pushCells_keeps _ _)⟩
    · obtain ⟨a', q1, q2, q3⟩ := cnew x hx
      rw [ha] at q1; cases q1; exact ⟨_, q3⟩
  have loop : codeAny (model B.prog B.w) A (.compLoop (.ListComp elt [⟨t, it, cs, 0⟩] scope pos) 0 (.ref I) (.ref s2.heap.objs.size) cenv) (compPost (model B.prog B.w) A (fun _ _ => False) use Q (.ref s2.heap.objs.size) cenv.locals) { s2 with heap := h3 } := by
    refine codeAny_compLoop_go (fun k s' => ∃ i G' us done rest, CI B G s G2 scope cenv wr St s2.heap.objs.size us i G' s' ∧ Reps G' us done ∧ i ≤ l.length ∧ us.length ≤ i ∧ k = l.length - i ∧ compV ev σ melt mt mcs (l.drop i) = some rest ∧ done ++ rest = out) ?_ l.length
      ⟨0, G2, [], [], out, J0, .nil, Nat.zero_le _, Nat.le_refl _, by lia, ho, rfl⟩
    set_option smartUnfolding false in
    as_aux_lemma =>
    rintro kk s' ⟨i, G', us, done, rest, J, ru, hil, hul, rfl, hrest, hout⟩
    by_cases hlt : i < l.length
    · have hx : l[i]? = some l[i] := List.getElem?_eq_getElem hlt
      rw [List.drop_eq_getElem_cons hlt] at hrest
      unfold compV at hrest
      set_option smartUnfolding false in refine mE hrest fun σ' hput hrest => ?_
      refine Iw.turn hx J.ext.hp J.le2 J.wrn J.st hk ht.shape (fun v s1 h => h) fun G3 s3 u x3 st3 wr3 rx => ?_
      have J3 : CI B G s G2 scope cenv wr St s2.heap.objs.size us (i + 1) G3 s3 := J.step ok Z x3 (fun a ha => Iw.fresh a ha) Z.dw Z.lw Z.cw st3 wr3
      have lk : ∀ x ∈ namesOf t, (cx'.scope.names.lookup x = some .local ∨ (cx'.scope.names.lookup x = some .cell ∧ (x, NameKind.cell) ∈ scope.names)) := fun x hx => by
        obtain ⟨j, hj⟩ := ht.names x hx
        rcases hv'.vars x j hj with ⟨_, h1 | h1⟩ | ⟨h1, _⟩
        · left; rw [comp_look hs, h1]; rfl
        · right; exact ⟨by rw [comp_look hs, h1]; rfl, lookup_mem h1⟩
        · exact absurd hx h1
      have wz : ∀ a, wset cx' cenv (namesOf t) a → a = cenv.locals ∨ ∃ x, (x, NameKind.cell) ∈ scope.names ∧ cenv.cells.lookup x = some a := fun a ⟨x, hx, q⟩ => by
        rcases q with ⟨_, q⟩ | ⟨q1, q2⟩
        · exact .inl q
        · rcases lk x hx with q3 | ⟨_, q3⟩
          · rw [q3] at q1; cases q1
          · exact .inr ⟨x, q3, q2⟩
      have wgn : ∀ a, wset cx' cenv (namesOf t) a → G3 a = none := fun a ha => by
        rcases wz a ha with rfl | ⟨x, q1, q2⟩
        · exact J3.ln
        · exact J3.cn x a q1 q2
      have wso : ∀ a, wset cx' cenv (namesOf t) a → ∃ o, s3.heap.get? a = some o ∧ Std o := fun a ha => by
        rcases wz a ha with rfl | ⟨x, q1, q2⟩
        · obtain ⟨m, o, es, ep, e, r⟩ := J3.ns; exact ⟨o, e, .inr ⟨es, ep, r.1⟩⟩
        · obtain ⟨v, e⟩ := J3.cells x a q1 q2; exact ⟨_, e, .inl (by intro q; cases q)⟩
      have WL : (∃ x ∈ namesOf t, cx'.scope.names.lookup x = some .local) → ∃ x, WAt cx' cenv s3.heap x cenv.locals := fun ⟨x, hx, q⟩ => by
        obtain ⟨m, hm⟩ := J3.ns; exact ⟨x, .inl ⟨q, rfl, m, hm⟩⟩
      refine assign_spec ok X' hr.handled ht hput J3.ext.hp rx (fun x hx => ?_) (fun a ha => let ⟨o, e, _⟩ := wso a ha; ⟨o, e⟩) fun s4 hs4 kp4 ent4 oth4 wat4 slot4 => ?_
      · rcases lk x hx with q | ⟨q1, q2⟩
        · obtain ⟨m, hm⟩ := J3.ns; exact ⟨_, .inl ⟨q, rfl, m, hm⟩⟩
        · obtain ⟨a, e, _⟩ := cnew x q2
          obtain ⟨v, e2⟩ := J3.cells x a q2 e
          exact ⟨a, .inr ⟨q1, e, v, e2⟩⟩
      · obtain ⟨h4, tk4, rfl⟩ := hs4
        have x4 : SExt B (wset cx' cenv (namesOf t)) G3 s3 G3 { s3 with heap := h4, toks := tk4 } := SExt.kept ok J3.ext.hp wgn (fun a ha tb => by
          obtain ⟨o, e, so⟩ := wso a ha
          exact J3.ext.hp.nottabS ok e so tb) kp4
        have J4 : CI B G s G2 scope cenv wr St s2.heap.objs.size us (i + 1) G3 { s3 with heap := h4, toks := tk4 } := by
          refine ⟨((J3.ext.sx (fun _ => False)).trans x4 fun a ha => .inr ?_).ext (fun _ f => f.elim), J3.le2, J3.wrn, Iw.frame _ _ _ J3.st fun b hb o e => kp4 b o (fun q => ?_) e, J3.dn, J3.ln, J3.cn, ?_, ?_, fun x a hx ha => ?_⟩
          · rcases wz a ha with rfl | ⟨x, q1, q2⟩
            · exact Z.lf
            · exact Z.cf x a q1 q2
          · rcases hb with hb | ⟨o', hb⟩
            · rcases wz b q with rfl | ⟨x, q1, q2⟩
              · exact Z.lw hb
              · exact Z.cw x b q1 q2 hb
            · have := wgn b q
              rw [J3.le2 b o' hb] at this; cases this
          · obtain ⟨k, e⟩ := J3.acc
            refine ⟨k, kp4 _ _ (fun q => ?_) e⟩
            rcases wz _ q with q | ⟨x, q1, q2⟩
            · exact Z.dl q
            · exact Z.dc x _ q1 q2 rfl
          · obtain ⟨m, hm⟩ := J3.ns
            by_cases q : ∃ x ∈ namesOf t, cx'.scope.names.lookup x = some .local
            · obtain ⟨x, hw⟩ := WL q
              rcases wat4 x _ hw with ⟨_, _, m', h'⟩ | ⟨q1, q2, _⟩
              · exact ⟨m', h'⟩
              · exact absurd rfl (X'.fm.ne1 x _ (by rw [q1]; rfl) q2)
            · obtain ⟨o, es, ep, e, r⟩ := hm
              refine ⟨m, o, es, ep, kp4 _ _ (fun z => ?_) e, r⟩
              obtain ⟨x, hx, z⟩ := z
              rcases z with ⟨z, _⟩ | ⟨z1, z2⟩
              · exact q ⟨x, hx, z⟩
              · exact X'.fm.ne1 x _ (by rw [z1]; rfl) z2 rfl
          · have kc : cx'.scope.names.lookup x = some .cell := by rw [comp_look hs, mem_lookup hv'.nd hx]; rfl
            obtain ⟨v, e⟩ := J3.cells x a hx ha
            rcases wat4 x a (.inr ⟨kc, ha, v, e⟩) with ⟨q, _⟩ | ⟨_, _, q⟩
            · rw [kc] at q; cases q
            · exact q
        have R4 : Rd cx' cenv σ' G3 h4 := comp_rd hs ht cfr (R.ext ok H J4.ext) (fun x a hx ha => J4.cells x a hx ha) ent4 slot4
        set_option smartUnfolding false in refine mB hrest (fun hb hrest => ?_) (fun hb hrest => ?_)
        · refine conds_spec ok IHb hc' X' hr htc hb J4.ext.hp R4 fun G5 s5 x5 => ?_
          have J5 := J4.keep ok Z Iw x5
          set_option smartUnfolding false in refine mE hrest fun v hv5 hrest => ?_
          set_option smartUnfolding false in refine mE hrest fun vs' hvs hrest => ?_
          refine IH _ _ _ he hc' σ' v hv5 A cenv G5 s5 hr X' J5.ext.hp (R4.ext ok J4.ext.hp x5) _ fun G6 s6 u6 x6 r6 => ?_
          have J6 := J5.keep ok Z Iw x6
          obtain ⟨k6, e6⟩ := J6.acc
          refine append_exact e6 (by lia) fun h7 k7 kp7 e7 => ?_
          have x7 : SExt B (· = s2.heap.objs.size) G6 s6 G6 { s6 with heap := h7, toks := s6.toks } := SExt.kept ok J6.ext.hp (fun b (q : b = _) => by rw [q]; exact J6.dn) (fun b (q : b = s2.heap.objs.size) tb => J6.ext.hp.nottab ok e6 (by intro q; cases q) (q ▸ tb)) fun b o hb e => (kp7 b hb).trans e
          refine ⟨l.length - (i + 1), by lia, i + 1, G6, us ++ [u6], done ++ [v], vs', ⟨((J6.ext.sx (fun _ => False)).trans x7 fun a ha => .inr (ha ▸ Z.df)).ext (fun _ f => f.elim), J6.le2, J6.wrn, Iw.frame _ _ _ J6.st fun b hb o e => (kp7 b fun q => ?_).trans e, J6.dn, J6.ln, J6.cn, ⟨k7, e7⟩, ?_, fun x a hx ha => ?_⟩, ?_, by lia, by rw [List.length_append]; exact Nat.succ_le_succ hul, rfl, hvs, by rw [List.append_assoc, ← hout, ← Option.some.inj hrest]; rfl⟩
          · rcases hb with hb | ⟨o', hb⟩
            · exact Z.dw (q ▸ hb)
            · have := J6.dn; rw [← q, J6.le2 b o' hb] at this; cases this
          · obtain ⟨m, o, es, ep, e, r⟩ := J6.ns
            exact ⟨m, o, es, ep, (kp7 _ (Ne.symm Z.dl)).trans e, r⟩
          · obtain ⟨v, e⟩ := J6.cells x a hx ha
            exact ⟨v, (kp7 _ (Ne.symm (Z.dc x a hx ha))).trans e⟩
          · exact (ru.mono (x3.le.trans (x5.le.trans x6.le))).append (.cons r6 .nil)
        · refine conds_spec ok IHb hc' X' hr htc hb J4.ext.hp R4 fun G5 s5 x5 => ?_
          exact ⟨l.length - (i + 1), by lia, i + 1, G5, us, done, rest, J4.keep ok Z Iw x5, ru.mono (x3.le.trans x5.le), by lia, by lia, rfl, hrest, hout⟩
    · have hil' : i = l.length := by lia
      subst hil'
      refine Iw.done G' s' _ J.ext.hp J.le2 J.wrn J.st fun s3 x3 => ?_
      have J3 : Ext B G s G' s3 := ((J.ext.sx (fun _ => False)).trans x3 fun a ha => .inr (Z.wf a ha)).ext fun _ f => f.elim
      obtain ⟨k3', e3⟩ := J.acc
      obtain ⟨m, o, es, ep, e, r⟩ := J.ns
      have e3' := x3.keep ok J.ext.hp e3 (by intro q; cases q) Z.dw
      have ns' : s3.heap.Ns cenv.locals m := ⟨o, es, ep, x3.grow _ _ e (J.ext.hp.nottabS ok e (.inr ⟨es, ep, r.1⟩)) Z.lw, r⟩
      rw [List.drop_length] at hrest
      cases hrest
      rw [List.append_nil] at hout
      subst hout
      exact hp G' s3 us k3' _ _ J3 e3' J.dn Z.df ru (by lia) Z.lf J.ln ⟨m, ns'⟩ Z.dl
  rw [eloc] at loop
  refine codeAny_compStart_list loop (wpAny_mono (Iw.self 0 _ (fun v s' => v = .ref I ∧ s' = { s2 with heap := h3 }) J0.st ⟨rfl, rfl⟩) (fun v s' q => ?_) fun _ _ f => f.elim)
  obtain ⟨rfl, rfl⟩ := q
  exact loop
theorem comp_spec (ok : BaseOK B) (IH : ESpec B n ev) (IHb : BSpec B n ev) {cx cx' : Cx} (hc : cxOk B cx) {σ : Sig} {env : Env} (X : EnvB cx env) {A : Around} (hr : Room A n) {elt it t : Expr} {mt : Tgt} {k : Itk} {ms mcs : List ME} {cs : List Expr} {melt : ME} {scope : Scope} {pos : Pos}
    (hs : CompOk cx cx' scope t) (hk : tgtOk k t = true) (hi : TI cx it k ms) (ht : TT cx' t mt) (htc : TL cx' cs mcs) (he : T cx' elt melt) {vs l out : List V} (hv : evL ev σ ms = some vs) (hl : iterV k vs = some l) (ho : compV ev σ melt mt mcs l = some out)
    {G : GMap} {s : Shared} (H : Hp B G s) (R : Rd cx env σ G s.heap) {Q : Value → Shared → Prop} (h : ∀ G' s' u, Ext B G s G' s' → Rep G' u (.list out) → Q u s') :
    Wp B A (eval (.ListComp elt [⟨t, it, cs, 0⟩] scope pos) env) Q s := by
  rw [eval_ListComp]
  refine comp_core ok IH IHb hc X hr hs hk hi ht htc he hv hl ho H R none fun G' s' us k D C x eD gD nD ru hz nC gC ns hDC => ?_
  obtain ⟨m, ns⟩ := ns
  refine ⟨m, ns, fun h' hs' => ?_⟩
  have x4 : SExt B (· = C) G' s' G' { s' with heap := h', toks := s'.toks } := SExt.kept ok x.hp (fun b (q : b = C) => by rw [q]; exact gC) (fun b (q : b = C) tb => by
    obtain ⟨o, es, ep, e, r⟩ := ns
    exact x.hp.nottabS ok e (.inr ⟨es, ep, r.1⟩) (q ▸ tb)) fun b o hb e => (hs'.2 b hb).trans e
  have J4 : Ext B G s G' { s' with heap := h' } := ((x.sx (fun _ => False)).trans x4 fun a ha => .inr (ha ▸ nC)).ext fun _ f => f.elim
  have e4 : h'.get? D = some (listO us k) := (hs'.2 _ hDC).trans eD
  have x5 := Ext.add ok H J4 e4 (by intro q; cases q) nD
  refine h _ _ _ x5 (.list (GMap.add_at _ _ _) (ru.mono (GMap.le_add (.inl gD))) ?_)
  have := ru.length
  lia
theorem comp_use (ok : BaseOK B) (IH : ESpec B n ev) (IHb : BSpec B n ev) {cx cx' : Cx} (hc : cxOk B cx) {σ : Sig} {env : Env} (X : EnvB cx env) {A : Around} (hr : Room A n) {elt it t : Expr} {mt : Tgt} {k : Itk} {ms mcs : List ME} {cs : List Expr} {melt : ME} {scope : Scope} {pos : Pos}
    (hs : CompOk cx cx' scope t) (hk : tgtOk k t = true) (hi : TI cx it k ms) (ht : TT cx' t mt) (htc : TL cx' cs mcs) (he : T cx' elt melt) {vs l out : List V} (hv : evL ev σ ms = some vs) (hl : iterV k vs = some l) (ho : compV ev σ melt mt mcs l = some out)
    {G : GMap} {s : Shared} (H : Hp B G s) (R : Rd cx env σ G s.heap) (use : Value → Sem Unit) {Q : Unit → Shared → Prop}
    (h : ∀ G' s' u C, Ext B G s G' s' → Rep G' u (.list out) → s.heap.get? C = none → G' C = none → (∃ m, s'.heap.Ns C m) →
      Wp B A (use u) (fun _ s'' => ∃ m, s''.heap.Ns C m ∧ ∀ h', Heap.SameBut C s''.heap h' → Q () { s'' with heap := h' }) s') :
    Wp B A (evalThenUse (.ListComp elt [⟨t, it, cs, 0⟩] scope pos) env use) Q s := by
  show Wp B A (do let _ ← comprehension (.ListComp elt [⟨t, it, cs, 0⟩] scope pos) scope env (firstIterPos [⟨t, it, cs, 0⟩] pos) (newList []) (firstAsync [⟨t, it, cs, 0⟩]) (firstIter [⟨t, it, cs, 0⟩] env) (some use)) Q s
  refine wpAny_bind ?_
  refine comp_core ok IH IHb hc X hr hs hk hi ht htc he hv hl ho H R (some use) (Q := fun _ s' => Wp B A (pure ()) Q s') fun G' s' us k D C x eD gD nD ru hz nC gC ns hDC => ?_
  have x5 := Ext.add ok H x eD (by intro q; cases q) nD
  have gC' : G'.add D (listO us k) C = none := by rw [G'.add_ne _ (Ne.symm hDC)]; exact gC
  refine wpAny_mono (h _ _ (.ref D) C x5 (.list (GMap.add_at _ _ _) (ru.mono (GMap.le_add (.inl gD))) ?_) nC gC' ns) (fun _ s'' hq => ?_) fun _ _ f => f
  · have := ru.length
    lia
  · obtain ⟨m, hm, hq⟩ := hq
    exact ⟨m, hm, fun h' hs' => wpAny_pure (hq h' hs')⟩
end
end Mine
namespace Mine
open PySem PySem.Calls
noncomputable def CallSpec (B : Base) (n : Nat) (call : Nat → List V → Option V) : Prop :=
  ∀ x f vs v, B.fid x = some f → call f vs = some v → ∀ (A : Around) (G : GMap) (s : Shared) (us : List Value), Room A n → Hp B G s → Reps G us vs →
    ∀ Q : Value → Shared → Prop, (∀ G' s' u, Ext B G s G' s' → Rep G' u v → Q u s') → Wp B A (PySem.call (.ref (B.fa f)) us) Q s
section
variable {M : Model} {A : Around} {E : Value → Shared → Prop} {s : Shared} {env : Env}
theorem wpAny_Bin {l r : Expr} {op : Operator} {pos : Pos} {Q : Value → Shared → Prop} (h : wpAny M A (eval l env) (fun u s1 => wpAny M A (eval r env) (fun w s2 => wpAny M A (binaryOp op u w) Q E s2) E s1) E s) :
    wpAny M A (eval (.BinOp l op r pos) env) Q E s := by
  rw [arm_eval_BinOp]
  exact wpAny_bind (wpAny_mono h (fun u s1 h1 => wpAny_bind (wpAny_holding (wpAny_mono h1 (fun w s2 h2 => wpAny_bind (wpAny_standAt (wpAny_operating h2))) fun _ _ x => x))) fun _ _ x => x)
theorem wpAny_Un {e : Expr} {op : UnaryOp} {pos : Pos} {Q : Value → Shared → Prop} (h : wpAny M A (eval e env) (fun u s1 => wpAny M A (unaryOp op u) Q E s1) E s) : wpAny M A (eval (.UnaryOp op e pos) env) Q E s := by
  rw [arm_eval_UnaryOp]
  exact wpAny_bind (wpAny_mono h (fun u s1 h1 => wpAny_bind (wpAny_standAt (wpAny_holding h1))) fun _ _ x => x)
theorem wpAny_Cmp1 {a b : Expr} {op : CmpOp} {pos : Pos} {Q : Value → Shared → Prop} (hb : ∀ op, behindInMarks op b = false) (h : wpAny M A (eval a env) (fun u s1 => wpAny M A (eval b env) (fun w s2 => wpAny M A (compareOp op u w) Q E s2) E s1) E s) :
    wpAny M A (eval (.Compare a [op] [b] pos) env) Q E s := by
  show wpAny M A (do compareChain pos (← eval a env) [op] [markedBehindIn op b (eval b env)]) Q E s
  rw [markedBehindIn_of_false (hb op)]
  refine wpAny_bind (wpAny_mono h (fun u s1 h1 => ?_) fun _ _ x => x)
  show wpAny M A (do
    let rv ← holding [u] (eval b env)
    standAt pos
    operate [u, rv] (compareOp op u rv)) Q E s1
  exact wpAny_bind (wpAny_holding (wpAny_mono h1 (fun z s5 h5 => wpAny_bind (wpAny_standAt (wpAny_operating h5))) fun _ _ x => x))
theorem wpAny_isTrue_Cmp1 {a b : Expr} {op : CmpOp} {pos : Pos} {Q : Bool → Shared → Prop} {whole : Sem Value} (hb : ∀ op, behindInMarks op b = false) (h : wpAny M A (eval a env) (fun u s1 => wpAny M A (eval b env) (fun w s2 => wpAny M A (compareOp op u w) (fun c s3 => wpAny M A (truthy c) Q E s3) E s2) E s1) E s) :
    wpAny M A (isTrue (.Compare a [op] [b] pos) env whole) Q E s := by
  show wpAny M A (do testChain pos (← eval a env) [op] [markedBehindIn op b (eval b env)]) Q E s
  rw [markedBehindIn_of_false (hb op)]
  refine wpAny_bind (wpAny_mono h (fun u s1 h1 => ?_) fun _ _ x => x)
  show wpAny M A (do
    let rv ← holding [u] (eval b env)
    standAt pos
    let c' ← operate [u, rv] (compareOp op u rv)
    holding [c'] (truthy c')) Q E s1
  exact wpAny_bind (wpAny_holding (wpAny_mono h1 (fun z s5 h5 => wpAny_bind (wpAny_standAt (wpAny_bind (wpAny_operating (wpAny_mono h5 (fun t2 s6 h6 => wpAny_holding h6) fun _ _ x => x))))) fun _ _ x => x))
theorem wpAny_Ite {c a b : Expr} {pos : Pos} {Q : Value → Shared → Prop} (h : wpAny M A (isTrue c env (eval c env)) (fun t s1 => if t then wpAny M A (eval a env) Q E s1 else wpAny M A (eval b env) Q E s1) E s) : wpAny M A (eval (.IfExp c a b pos) env) Q E s := by
  rw [arm_eval_IfExp]
  refine wpAny_bind (wpAny_mono h (fun t s1 h1 => ?_) fun _ _ x => x)
  induction t using Bool.casesOn <;> exact h1
theorem wpAny_isTrue_Ite {c a b : Expr} {pos : Pos} {Q : Bool → Shared → Prop} {whole : Sem Value} (h : wpAny M A (isTrue c env (eval c env)) (fun t s1 => if t then wpAny M A (isTrue a env (eval a env)) Q E s1 else wpAny M A (isTrue b env (eval b env)) Q E s1) E s) : wpAny M A (isTrue (.IfExp c a b pos) env whole) Q E s := by
  show wpAny M A (do if ← isTrue c env (eval c env) then isTrue a env (eval a env) else isTrue b env (eval b env)) Q E s
  refine wpAny_bind (wpAny_mono h (fun t s1 h1 => ?_) fun _ _ x => x)
  induction t using Bool.casesOn <;> exact h1
theorem wpAny_isTrue_Not {e : Expr} {pos : Pos} {Q : Bool → Shared → Prop} {whole : Sem Value} (h : wpAny M A (isTrue e env (eval e env)) (fun t s1 => Q (!t) s1) E s) : wpAny M A (isTrue (.UnaryOp .Not e pos) env whole) Q E s := by
  show wpAny M A (do return !(← isTrue e env (eval e env))) Q E s
  exact wpAny_bind (wpAny_mono h (fun t s1 h1 => wpAny_pure h1) fun _ _ x => x)
end
section
variable {B : Base} {n : Nat} {r : Rn}
theorem allTrue_spec (ok : BaseOK B) (IHb : BSpec B n r.ev) {cx : Cx} (hc : cxOk B cx) {σ : Sig} {env : Env} (X : EnvB cx env) {A : Around} (hr : Room A n) (op : BoolOp) {es : List Expr} {ms : List ME} (t : TL cx es ms) {v : V} {b : Bool} (e : bopV r.ev σ (isAndOf op) ms = some v) (eb : v.truthy = some b)
    {G : GMap} {s : Shared} (H : Hp B G s) (R : Rd cx env σ G s.heap) {Q : Bool → Shared → Prop} (h : ∀ G' s', Ext B G s G' s' → Q b s') : Wp B A (allTrue op es env) Q s := by
  induction ms generalizing es G s with
  | nil => exact (noF e).elim
  | cons m ms ih =>
    obtain ⟨e1, l, rfl, t, rr⟩ := t
    show Wp B A (do
      match op, ← isTrue e1 env (eval e1 env) with
      | .And, false => pure false
      | .Or, true => pure true
      | _, _ => allTrue op l env) Q s
    induction ms using List.casesOn with
    | nil =>
      obtain rfl := rr
      refine wpAny_bind (IHb _ _ _ t hc σ v b e eb A env G s hr X H R _ fun G1 s1 x1 => ?_)
      have pu : Wp B A (pure b) Q s1 := wpAny_pure (h G1 s1 x1)
      induction op using PySem.BoolOp.casesOn <;> induction b using Bool.casesOn <;> exact pu
    | cons m2 ms =>
      unfold bopV at e
      set_option smartUnfolding false in refine mE (x := r.ev σ m) e fun x hx e => ?_
      set_option smartUnfolding false in refine mE e fun c hb e => ?_
      refine wpAny_bind (IHb _ _ _ t hc σ x c hx hb A env G s hr X H R _ fun G1 s1 x1 => ?_)
      have go : bopV r.ev σ (isAndOf op) (m2 :: ms) = some v → Wp B A (allTrue op l env) Q s1 := fun e => ih rr e x1.hp (R.ext ok H x1) fun G2 s2 x2 => h G2 s2 (x1.trans x2)
      have pu : some x = some v → Wp B A (pure c) Q s1 := fun e => by
        rw [← Option.some.inj e, hb] at eb
        exact wpAny_pure (Option.some.inj eb ▸ h G1 s1 x1)
      induction op using PySem.BoolOp.casesOn <;> induction c using Bool.casesOn
      · exact pu e
      · exact go e
      · exact go e
      · exact pu e
theorem call_spec (ok : BaseOK B) (IH : ESpec B n r.ev) (IC : CallSpec B n r.call) {cx : Cx} (hc : cxOk B cx) {σ : Sig} {env : Env} (X : EnvB cx env) {A : Around} (hr : Room A n) {x : Str} {f : Nat} {p1 pos : Pos} {es : List Expr} {ms : List ME} (hg : cx.glob x) (hf : cx.fid x = some f)
    (hd : (x == ("__debug__" : Str)) = false) (t : TL cx es ms) {vs : List V} {z : V} (e : evL r.ev σ ms = some vs) (ez : r.call f vs = some z) {G : GMap} {s : Shared} (H : Hp B G s) (R : Rd cx env σ G s.heap) {Q : Value → Shared → Prop} (h : ∀ G' s' u, Ext B G s G' s' → Rep G' u z → Q u s') :
    Wp B A (eval (.Call (.Name x p1) es [] pos) env) Q s := by
  have hf' : B.fid x = some f := by rw [← hc.1]; exact hf
  obtain ⟨hm, o, fd, ho, hdt⟩ := ok.fns x f hf'
  refine PyProof.Rows.Call_Name rfl (load_glob ok H X hg (.inl hm) ?_ hd)
  refine callWith_function (o := o) (fd := fd) (args_spec ok IH hc X hr pos t e H R fun G1 s1 us x1 rus => ⟨⟨x1.hp.keep _ _ (x1.hp.base _ _ ho), hdt⟩, ?_⟩)
  exact IC x f vs z hf' ez A G1 s1 us hr x1.hp rus Q fun G2 s2 u x2 ru => h G2 s2 u (x1.trans x2) ru
end
end Mine
namespace Mine
open PySem PySem.Calls
end Mine
namespace Mine
open PySem PySem.Calls
theorem run_stuck (g : Genv) (n : Nat) (σ : Sig) : (run g n).ev σ .stuck = none := by
  induction n using Nat.casesAuxOn <;> rfl
section
variable {B : Base} {n : Nat}
theorem un_truthy {op : UnaryOp} {o : Uop} (ho : uopOf op = some o) {x z : V} (e : unV o x = some z) (hn : op = .Not) : ∃ b, x.truthy = some b ∧ z = .bool (!b) := by
  subst hn
  cases ho
  set_option smartUnfolding false in refine mE e fun b hb e => ?_
  cases e; exact ⟨b, hb, rfl⟩
theorem kOf {G : GMap} {s : Shared} {v w : V} {Q : Value → Shared → Prop} (e : some w = some v) (h : ∀ G' s' u, Ext B G s G' s' → Rep G' u v → Q u s') : ∀ G' s' u, Ext B G s G' s' → Rep G' u w → Q u s' := Option.some.inj e ▸ h
theorem kOfB {G : GMap} {s : Shared} {c b : Bool} {Q : Bool → Shared → Prop} (e : V.truthy (.bool c) = some b) (h : ∀ G' s', Ext B G s G' s' → Q b s') : ∀ G' s', Ext B G s G' s' → Q c s' := Option.some.inj e ▸ h
theorem ev_step (ok : BaseOK B) (IH : ESpec B n (run B.g n).ev) (IHb : BSpec B n (run B.g n).ev) (IC : CallSpec B n (run B.g n).call) : ESpec B (n + 1) (run B.g (n + 1)).ev := by
  intro cx e me tt hc σ v he A env G s hr' X H R Q h
  have hr : Room A n := hr'.less (Nat.le_succ n)
  replace he : evStep B.g (run B.g n) σ me = some v := he
  refine T.cases (P := fun e me => evStep B.g (run B.g n) σ me = some v → Wp B A (eval e env) Q s) ?stuck ?cint ?cbool ?cstr ?var ?glob ?bin ?un ?bop ?cmp ?ite ?list ?tup ?call ?prim ?meth ?sub ?slice ?comp tt he
  case stuck =>
    intro _ _ he
    exact (noF he).elim
  case cint =>
    intro _ _ _ he
    exact fun _ _ _ => kOf he h G _ _ (Ext.toks (tk := s.toks + 1) ok H) (.int _ _)
  case cbool =>
    intro _ _ _ he
    exact PyProof.Rows.Constant_bool (kOf he h G s _ (.refl H) (.bool _))
  case cstr =>
    intro _ _ _ _ hx hz he
    exact Constant_str (kOf he h G _ _ (Ext.toks (tk := s.toks + 1) ok H) (.str _ _ hx (by have := szLine; lia)))
  case var =>
    intro _ _ _ hx hd he
    set_option smartUnfolding false in refine mFV he fun w hw he => ?_
    have z := R.ent _ _ hx
    rw [hw] at z
    obtain ⟨u, r, b⟩ := z
    exact wpAny_Name (load_var X r ((kOf he h) G s u (.refl H) b)) hd
  case glob =>
    intro _ _ _ hg hi hd he
    obtain ⟨u, hu, ru⟩ := ok.gl _ _ _ (by rw [← hc.2]; exact hi) he
    exact load_glob ok H X hg (.inl hu) (h G s u (.refl H) (ru.mono H.base)) hd
  case bin =>
    intro _ _ _ _ _ _ _ ho ta tb he
    set_option smartUnfolding false in refine mE he fun x hx he => ?_
    set_option smartUnfolding false in refine mE he fun y hy he => ?_
    refine wpAny_Bin (IH _ _ _ ta hc σ x hx A env G s hr X H R _ fun G1 s1 u x1 ru => ?_)
    refine IH _ _ _ tb hc σ y hy A env G1 s1 hr X x1.hp (R.ext ok H x1) _ fun G2 s2 w x2 rw' => ?_
    exact bin_op ok x2.hp ho (ru.mono x2.le) rw' he fun G3 s3 z x3 rz => h G3 s3 z ((x1.trans x2).trans x3) rz
  case un =>
    intro _ _ _ _ _ ho ta he
    set_option smartUnfolding false in refine mE he fun x hx he => ?_
    refine wpAny_Un (IH _ _ _ ta hc σ x hx A env G s hr X H R _ fun G1 s1 u x1 ru => ?_)
    exact un_op ok x1.hp ho ru he fun tk u' r => h G1 _ u' (x1.trans (Ext.toks ok x1.hp)) r
  case bop =>
    intro _ _ _ _ t he
    rw [arm_eval_BoolOp]
    exact boolOp_spec ok IH hc X hr _ _ t he H R h
  case cmp =>
    intro _ _ _ _ _ _ _ ho ta tb he
    set_option smartUnfolding false in refine mE he fun x hx he => ?_
    set_option smartUnfolding false in refine mE he fun c hcv he => ?_
    exact wpAny_Cmp1 tb.notSet.1 (cmp_spec ok IH hc X hr ho ta tb hx hcv H R fun G' s' x' => (kOf he h) G' s' _ x' (.bool c))
  case ite =>
    intro _ _ _ _ _ _ _ tc ta tb he
    set_option smartUnfolding false in refine mE he fun x hx he => ?_
    set_option smartUnfolding false in refine mB he (fun hb he => ?_) (fun hb he => ?_)
    · refine wpAny_Ite (IHb _ _ _ tc hc σ x true hx hb A env G s hr X H R _ fun G1 s1 x1 => ?_)
      exact IH _ _ _ ta hc σ v he A env G1 s1 hr X x1.hp (R.ext ok H x1) Q fun G2 s2 u x2 ru => h G2 s2 u (x1.trans x2) ru
    · refine wpAny_Ite (IHb _ _ _ tc hc σ x false hx hb A env G s hr X H R _ fun G1 s1 x1 => ?_)
      exact IH _ _ _ tb hc σ v he A env G1 s1 hr X x1.hp (R.ext ok H x1) Q fun G2 s2 u x2 ru => h G2 s2 u (x1.trans x2) ru
  case list =>
    intro _ _ _ hz t he
    set_option smartUnfolding false in refine mE he fun vs hvs he => ?_
    refine listD_spec ok IH hc X hr hz t hvs H R fun G1 s1 us x1 r hl => ?_
    have x2 := Ext.push (tk := s1.toks) ok x1.hp (o := listO us 0) rfl (by intro q; cases q)
    have := szLine
    have := r.length
    exact (kOf he h) _ _ _ (x1.trans x2) (.list (GMap.add_at _ _ _) (r.mono x2.le) (by lia))
  case tup =>
    intro _ _ _ _ hz t he
    set_option smartUnfolding false in refine mE he fun vs hvs he => ?_
    exact tupD_spec ok IH hc X hr hz t hvs H R (kOf he h)
  case call =>
    intro _ _ _ _ _ _ hg hf hd hl t he
    set_option smartUnfolding false in refine mE he fun vs hvs he => ?_
    exact call_spec ok IH IC hc X hr hg hf hd t hvs he H R h
  case prim =>
    intro _ _ _ _ _ _ hg hf t he
    set_option smartUnfolding false in refine mE he fun vs hvs he => ?_
    exact prim_spec ok IH hc X hr hg hf t hvs he H R h
  case meth =>
    intro _ _ _ _ _ _ _ _ hm hb hl hp ta t he
    set_option smartUnfolding false in refine mE he fun x hx he => ?_
    set_option smartUnfolding false in refine mE he fun vs hvs he => ?_
    exact meth_spec ok IH hc X hr hm hb hl hp ta t hx hvs he H R h
  case sub =>
    intro _ _ _ _ _ ta ti he
    set_option smartUnfolding false in refine mE he fun x hx he => ?_
    set_option smartUnfolding false in refine mE he fun y hy he => ?_
    exact sub_spec ok IH hc X hr ta ti (fun q => by rw [q, run_stuck] at hy; cases hy) hx hy he H R h
  case slice =>
    intro _ _ _ _ _ _ _ _ ta tl th he
    set_option smartUnfolding false in refine mL he fun l hl he => ?_
    set_option smartUnfolding false in refine mE he fun x hx he => ?_
    set_option smartUnfolding false in refine mE he fun y hy he => ?_
    exact slice_spec ok IH hc X hr ta tl th hl hx hy H R (kOf he h)
  case comp =>
    intro _ _ _ _ _ _ _ _ _ _ _ _ hs hk ti tt tcs tel he
    set_option smartUnfolding false in refine mE he fun vs hvs he => ?_
    set_option smartUnfolding false in refine mE he fun l hl he => ?_
    set_option smartUnfolding false in refine mE he fun out ho he => ?_
    exact comp_spec ok IH IHb hc X hr hs hk ti tt tcs tel hvs hl ho H R (kOf he h)
noncomputable def notTest : Expr → Bool
  | .UnaryOp .Not _ _ => false
  | .BoolOp .. => false
  | .IfExp .. => false
  | .Compare .. => false
  | _ => true
set_option tactic.hygienic true in
theorem isTrue_plain {M : Model} {A : Around} {E : Value → Shared → Prop} {s : Shared} {env : Env} {e : Expr} (hn : notTest e = true) {whole : Sem Value} {Q : Bool → Shared → Prop} (h : wpAny M A whole (fun v s1 => wpAny M A (truthy v) Q E s1) E s) : wpAny M A (isTrue e env whole) Q E s := by
  have key : wpAny M A (do
    let v ← whole
    standAt e.pos
    holding [v] (truthy v)) Q E s := wpAny_bind (wpAny_mono h (fun v s1 h1 => wpAny_bind (wpAny_standAt (wpAny_holding h1))) fun _ _ x => x)
  induction e using PySem.Expr.casesOn <;> first | exact key | cases hn | skip
  rename_i op x pos
  induction op using PySem.UnaryOp.casesOn <;> first | exact key | cases hn
noncomputable def testM (m : ME) : Bool := match m with
  | .stuck => true
  | .un _ _ => true
  | .bop _ _ => true
  | .cmp _ _ _ => true
  | .ite _ _ _ => true
  | _ => false
set_option tactic.hygienic true in
theorem T.noTest {cx : Cx} {e : Expr} {m : ME} (t : T cx e m) (h : testM m = false) : notTest e = true := by
  refine T.cases (P := fun e m => testM m = false → notTest e = true) ?stuck ?cint ?cbool ?cstr ?var ?glob ?bin ?un ?bop ?cmp ?ite ?list ?tup ?call ?prim ?meth ?sub ?slice ?comp t h
  all_goals (intros; first | rfl | (rename_i h; exact nomatch h))
theorem b_step (ok : BaseOK B) (IH : ESpec B n (run B.g n).ev) (IHb : BSpec B n (run B.g n).ev) (IC : CallSpec B n (run B.g n).call) : BSpec B (n + 1) (run B.g (n + 1)).ev := by
  intro cx e me tt hc σ v b he hb A env G s hr' X H R Q h
  have hr : Room A n := hr'.less (Nat.le_succ n)
  cases hm : testM me with
  | false => exact isTrue_plain (T.noTest tt hm) (ev_step ok IH IHb IC cx e me tt hc σ v he A env G s hr' X H R _ fun G1 s1 u x1 ru => truthy_rep ok x1.hp ru hb fun tk => h G1 _ (x1.trans (Ext.toks ok x1.hp)))
  | true =>
  replace he : evStep B.g (run B.g n) σ me = some v := he
  induction me using Mine.ME.casesOn with
  | stuck => exact (noF he).elim
  | un o ma =>
    obtain ⟨op, a, pos, rfl, ho, ta⟩ := tt
    have ev := ev_step ok IH IHb IC cx _ _ (.un (pos := pos) ho ta) hc σ v he A env G s hr' X H R _ fun G1 s1 u x1 ru => truthy_rep (A := A) (Q := Q) ok x1.hp ru hb fun tk => h G1 _ (x1.trans (Ext.toks ok x1.hp))
    induction op using PySem.UnaryOp.casesOn with
    | Not =>
      set_option smartUnfolding false in refine mE he fun x hx he => ?_
      obtain ⟨c, hc', rfl⟩ := un_truthy ho he rfl
      cases (hb)
      exact wpAny_isTrue_Not (IHb _ _ _ ta hc σ x c hx hc' A env G s hr X H R _ fun G1 s1 x1 => h G1 s1 x1)
    | _ => exact isTrue_plain rfl ev
  | bop k ms =>
    obtain ⟨op, _, _, rfl, rfl, t⟩ := tt
    exact allTrue_spec ok IHb hc X hr _ t he hb H R h
  | cmp ma o mb =>
    obtain ⟨_, _, _, _, rfl, ho, ta, tb⟩ := tt
    set_option smartUnfolding false in refine mE he fun x hx he => ?_
    set_option smartUnfolding false in refine mE he fun c hcv he => ?_
    cases he
    cases (hb)
    exact wpAny_isTrue_Cmp1 tb.notSet.1 (wpAny_mono (cmp_spec (Q := fun v s' => v = .bool b ∧ ∃ G', Ext B G s G' s') ok IH hc X hr ho ta tb hx hcv H R fun G' s' x' => ⟨rfl, G', x'⟩) (fun u s1 h1 => wpAny_mono h1 (fun w s2 h2 => wpAny_mono h2 (fun t s3 h3 => by
      obtain ⟨rfl, G', x'⟩ := h3
      exact wpAny_truthy_bool (h G' s3 x')) fun _ _ f => f) fun _ _ f => f) fun _ _ f => f)
  | ite mc ma mb =>
    obtain ⟨_, _, _, _, rfl, tc, ta, tb⟩ := tt
    set_option smartUnfolding false in refine mE he fun x hx he => ?_
    set_option smartUnfolding false in refine mB he (fun hb' he => ?_) (fun hb' he => ?_)
    · refine wpAny_isTrue_Ite (IHb _ _ _ tc hc σ x true hx hb' A env G s hr X H R _ fun G1 s1 x1 => ?_)
      exact IHb _ _ _ ta hc σ v b he hb A env G1 s1 hr X x1.hp (R.ext ok H x1) Q fun G2 s2 x2 => h G2 s2 (x1.trans x2)
    · refine wpAny_isTrue_Ite (IHb _ _ _ tc hc σ x false hx hb' A env G s hr X H R _ fun G1 s1 x1 => ?_)
      exact IHb _ _ _ tb hc σ v b he hb A env G1 s1 hr X x1.hp (R.ext ok H x1) Q fun G2 s2 x2 => h G2 s2 (x1.trans x2)
  | _ => exact nomatch hm
end
end Mine
namespace Mine
open PySem PySem.Calls
noncomputable def SAt (cx : Cx) (env : Env) (x : Str) (a : Addr) : Prop := (cx.scope.names.lookup x = some .local ∧ a = env.locals) ∨ (cx.scope.names.lookup x = some .cell ∧ env.cells.lookup x = some a)
theorem SAt.uniq {cx : Cx} {env : Env} {x : Str} {a b : Addr} (h : SAt cx env x a) (h' : SAt cx env x b) : a = b := by
  rcases h with ⟨h1, h2⟩ | ⟨h1, h2⟩ <;> rcases h' with ⟨k1, k2⟩ | ⟨k1, k2⟩
  · rw [h2, k2]
  · rw [h1] at k1; cases k1
  · rw [h1] at k1; cases k1
  · rw [h2] at k2; cases k2; rfl
theorem WAt.sat {cx : Cx} {env : Env} {h : Heap} {x : Str} {a : Addr} (w : WAt cx env h x a) : SAt cx env x a := by
  rcases w with ⟨h1, h2, _⟩ | ⟨h1, h2, _⟩
  · exact .inl ⟨h1, h2⟩
  · exact .inr ⟨h1, h2⟩
theorem WAt.std {cx : Cx} {env : Env} {h : Heap} {x : Str} {a : Addr} (w : WAt cx env h x a) : ∃ o, h.get? a = some o ∧ Std o := by
  rcases w with ⟨h1, h2, m, o, es, ep, e, r⟩ | ⟨h1, h2, v, e⟩
  · exact ⟨o, e, .inr ⟨es, ep, r.1⟩⟩
  · exact ⟨_, e, .inl (by intro q; cases q)⟩
noncomputable def EntO (cx : Cx) (env : Env) (G : GMap) (h : Heap) (x : Str) (a : Addr) : Ent → Prop
  | .un => True
  | .fz v => ∃ u, Reads1 cx env h x u ∧ Rep G u v
  | .own v => Reads1 cx env h x (.ref a) ∧ OwnAt G h a v
structure Fr (cx : Cx) (env : Env) (α : Addr → Prop) (oa : Nat → Addr) (ioa : Addr) (σ : Sig) (G : GMap) (h : Heap) : Prop where
  ent : ∀ x i, cx.vars.lookup x = some i → EntO cx env G h x (oa i) (σ.at i)
  up : ∀ y c, isCellish (cx.scope.names.lookup y) = true → env.cells.lookup y = some c → ∃ v, h.get? c = some (cellO v)
  wat : ∀ x i, cx.vars.lookup x = some i → ∃ a, WAt cx env h x a ∧ α a
  own : ∀ x i v, cx.vars.lookup x = some i → σ.at i = .own v → α (oa i) ∧ ∀ y j a, cx.vars.lookup y = some j → SAt cx env y a → a ≠ oa i
  inj : ∀ x y i j v w, cx.vars.lookup x = some i → cx.vars.lookup y = some j → σ.at i = .own v → σ.at j = .own w → oa i = oa j → i = j
  priv : ∀ a, α a → G a = none ∧ ∃ o, h.get? a = some o ∧ Std o
  io : ∀ x i v, cx.vars.lookup x = some i → cx.io = some i → σ.at i = .own v → oa i = ioa
noncomputable def CxF (cx : Cx) : Prop := ∀ x y i, cx.vars.lookup x = some i → cx.vars.lookup y = some i → x = y
section
variable {B : Base} {G G' : GMap} {s s' : Shared} {cx : Cx} {env : Env} {α : Addr → Prop} {oa : Nat → Addr} {ioa : Addr} {σ : Sig} {A : Around}
theorem Fr.rd (F : Fr cx env α oa ioa σ G s.heap) : Rd cx env σ G s.heap := by
  refine ⟨fun x i hx => ?_, F.up⟩
  have z := F.ent x i hx
  cases q : σ.at i with
  | un => trivial
  | fz v => rw [q] at z; exact z
  | own v => rw [q] at z; exact ⟨_, z.1, z.2⟩
theorem WAt.ext (ok : BaseOK B) (H : Hp B G s) (x : Ext B G s G' s') {y : Str} {a : Addr} (w : WAt cx env s.heap y a) : WAt cx env s'.heap y a := by
  rcases w with ⟨h1, h2, m, h3⟩ | ⟨h1, h2, v, h3⟩
  · exact .inl ⟨h1, h2, m, NsAt.ext ok H x h3⟩
  · exact .inr ⟨h1, h2, v, x.keep ok H h3 (by intro q; cases q)⟩
theorem Fr.ext (ok : BaseOK B) (H : Hp B G s) (F : Fr cx env α oa ioa σ G s.heap) (x : Ext B G s G' s') : Fr cx env α oa ioa σ G' s'.heap where
  ent := fun n i hx => by
    have z := F.ent n i hx
    cases q : σ.at i with
    | un => trivial
    | fz v => rw [q] at z; obtain ⟨u, a, b⟩ := z; exact ⟨u, a.ext ok H x, b.mono x.le⟩
    | own v => rw [q] at z; exact ⟨z.1.ext ok H x, z.2.ext ok H x⟩
  up := fun y c h1 h2 => let ⟨v, e⟩ := F.up y c h1 h2; ⟨v, x.keep ok H e (by intro z; cases z)⟩
  wat := fun n i hx => let ⟨a, w, ha⟩ := F.wat n i hx; ⟨a, w.ext ok H x, ha⟩
  own := F.own
  inj := F.inj
  priv := fun a ha => by
    obtain ⟨g, o, e, st⟩ := F.priv a ha
    exact ⟨(x.new a o e).trans g, o, x.grow a o e (H.nottabS ok e st), st⟩
  io := F.io
theorem Fr.store0 (ok : BaseOK B) (X : EnvB cx env) (CF : CxF cx) (H : Hp B G s) (F : Fr cx env α oa ioa σ G s.heap) {x : Str} {i : Nat} (hx : cx.vars.lookup x = some i) {u : Value} {v : V} (r : Rep G u v) {Q : Unit → Shared → Prop}
    (h : ∀ s', SExt B (SAt cx env x) G s G s' → Fr cx env α oa ioa (σ.set i (.fz v)) G s'.heap → Q () s') : Wp B A (storeName env x u) Q s := by
  obtain ⟨a, wa, ha⟩ := F.wat x i hx
  refine store_var X wa fun h' tk k rd o w st => ?_
  have tb : ∀ b, b = a → ¬ B.tab b := fun b q t => by
    obtain ⟨ob, e, st'⟩ := wa.std
    exact H.nottabS ok e st' (q ▸ t)
  have x1 : SExt B (SAt cx env x) G s G { s with heap := h', toks := tk } := (SExt.kept (α := (· = a)) ok H (fun b (q : b = a) => by rw [q]; exact (F.priv a ha).1) (fun b q => tb b q) fun b o hb e => (k b hb).trans e).weaken fun b (q : b = a) => .inl (q ▸ wa.sat)
  refine h _ x1 ⟨fun y j hy => ?_, fun y c h1 h2 => ?_, fun y j hy => ?_, fun y j w' hy hj => ?_, fun y z j l w1 w2 hy hz hj hl e => ?_, fun b hb => ?_, fun y j w' hy hio hj => ?_⟩
  · by_cases q : y = x
    · subst q
      rw [hx] at hy; cases hy
      rcases Sig.set_or σ i (.fz v) with q | q <;> rw [q]
      · exact ⟨u, rd, r⟩
      · trivial
    · have hji : j ≠ i := fun z => q (CF y x i (z ▸ hy) hx)
      rw [Sig.set_ne _ _ hji]
      have z := F.ent y j hy
      cases e : σ.at j with
      | un => trivial
      | fz w' => rw [e] at z; obtain ⟨u', a', b'⟩ := z; exact ⟨u', o y u' q a', b'⟩
      | own w' =>
        rw [e] at z
        refine ⟨o y _ q z.1, ?_⟩
        have ne : oa j ≠ a := Ne.symm ((F.own y j w' hy e).2 x i a hx wa.sat)
        exact z.2.at (k _ ne)
  · obtain ⟨v', e⟩ := F.up y c h1 h2
    by_cases q : c = a
    · subst q
      rcases w x c wa with ⟨_, z, _⟩ | ⟨_, _, z⟩
      · exact absurd z (X.fm.ne1 y _ h1 h2)
      · exact z
    · exact ⟨v', (k _ q).trans e⟩
  · obtain ⟨b, wb, hb⟩ := F.wat y j hy
    exact ⟨b, w y b wb, hb⟩
  · have hji : j ≠ i := fun z => by
      subst z
      rcases Sig.set_or σ j (.fz v) with q | q <;> rw [q] at hj <;> cases hj
    rw [Sig.set_ne _ _ hji] at hj
    exact F.own y j w' hy hj
  · have hji : j ≠ i := fun z => by
      subst z
      rcases Sig.set_or σ j (.fz v) with q | q <;> rw [q] at hj <;> cases hj
    have hli : l ≠ i := fun z => by
      subst z
      rcases Sig.set_or σ l (.fz v) with q | q <;> rw [q] at hl <;> cases hl
    rw [Sig.set_ne _ _ hji] at hj
    rw [Sig.set_ne _ _ hli] at hl
    exact F.inj y z j l w1 w2 hy hz hj hl e
  · obtain ⟨g, ob, e, st'⟩ := F.priv b hb
    refine ⟨g, ?_⟩
    by_cases q : b = a
    · subst q; exact st
    · exact ⟨ob, (k b q).trans e, st'⟩
  · have hji : j ≠ i := fun z => by
      subst z
      rcases Sig.set_or σ j (.fz v) with q | q <;> rw [q] at hj <;> cases hj
    rw [Sig.set_ne _ _ hji] at hj
    exact F.io y j w' hy hio hj
theorem Fr.sat (F : Fr cx env α oa ioa σ G s.heap) {x : Str} {i : Nat} (hx : cx.vars.lookup x = some i) {b : Addr} (h : SAt cx env x b) : α b := by
  obtain ⟨a, wa, ha⟩ := F.wat x i hx
  exact h.uniq wa.sat ▸ ha
theorem Fr.store (ok : BaseOK B) (X : EnvB cx env) (CF : CxF cx) (H : Hp B G s) (F : Fr cx env α oa ioa σ G s.heap) {x : Str} {i : Nat} (hx : cx.vars.lookup x = some i) {u : Value} {v : V} (r : Rep G u v) {Q : Unit → Shared → Prop}
    (h : ∀ s', SExt B α G s G s' → Fr cx env α oa ioa (σ.set i (.fz v)) G s'.heap → Q () s') : Wp B A (storeName env x u) Q s :=
  F.store0 ok X CF H hx r fun s' x1 F1 => h s' (x1.weaken fun _ hb => .inl (F.sat hx hb)) F1
theorem Fr.storeOwn0 (ok : BaseOK B) (X : EnvB cx env) (CF : CxF cx) (H : Hp B G s) (F : Fr cx env α oa ioa σ G s.heap) {x : Str} {i : Nat} (hx : cx.vars.lookup x = some i) {a0 : Addr} (hio : cx.io = some i → a0 = ioa) {v : V} (hv : OwnAt G s.heap a0 v) (g0 : G a0 = none) (n0 : ¬ α a0) {Q : Unit → Shared → Prop}
    (h : ∀ s', SExt B (SAt cx env x) G s G s' → Fr cx env (fun b => α b ∨ b = a0) (fun j => if j = i then a0 else oa j) ioa (σ.set i (.own v)) G s'.heap → Q () s') : Wp B A (storeName env x (.ref a0)) Q s := by
  obtain ⟨a, wa, ha⟩ := F.wat x i hx
  have na : a0 ≠ a := fun q => n0 (q ▸ ha)
  refine store_var X wa fun h' tk k rd o w st => ?_
  have tb : ∀ b, b = a → ¬ B.tab b := fun b q t => by
    obtain ⟨ob, e, st'⟩ := wa.std
    exact H.nottabS ok e st' (q ▸ t)
  have x1 : SExt B (SAt cx env x) G s G { s with heap := h', toks := tk } := (SExt.kept (α := (· = a)) ok H (fun b (q : b = a) => by rw [q]; exact (F.priv a ha).1) (fun b q => tb b q) fun b o hb e => (k b hb).trans e).weaken fun b (q : b = a) => .inl (q ▸ wa.sat)
  have own0 : OwnAt G h' a0 v := by
    exact hv.at (k _ na)
  have ne0 : ∀ y j b, cx.vars.lookup y = some j → SAt cx env y b → b ≠ a0 := fun y j b hy sb q => by
    obtain ⟨c, wc, hc⟩ := F.wat y j hy
    exact n0 (q ▸ sb.uniq wc.sat ▸ hc)
  refine h _ x1 ⟨fun y j hy => ?_, fun y c h1 h2 => ?_, fun y j hy => ?_, fun y j w' hy hj => ?_, fun y z j l w1 w2 hy hz hj hl e => ?_, fun b hb => ?_, fun y j w' hy hio' hj => ?_⟩
  · by_cases q : y = x
    · subst q
      rw [hx] at hy; cases hy
      dsimp only
      rw [if_pos rfl]
      rcases Sig.set_or σ i (.own v) with q | q <;> rw [q]
      · exact ⟨rd, own0⟩
      · trivial
    · have hji : j ≠ i := fun z => q (CF y x i (z ▸ hy) hx)
      dsimp only
      rw [Sig.set_ne _ _ hji, if_neg hji]
      have z := F.ent y j hy
      cases e : σ.at j with
      | un => trivial
      | fz w' => rw [e] at z; obtain ⟨u', a', b'⟩ := z; exact ⟨u', o y u' q a', b'⟩
      | own w' =>
        rw [e] at z
        refine ⟨o y _ q z.1, ?_⟩
        have ne : oa j ≠ a := Ne.symm ((F.own y j w' hy e).2 x i a hx wa.sat)
        exact z.2.at (k _ ne)
  · obtain ⟨v', e⟩ := F.up y c h1 h2
    by_cases q : c = a
    · subst q
      rcases w x c wa with ⟨_, z, _⟩ | ⟨_, _, z⟩
      · exact absurd z (X.fm.ne1 y _ h1 h2)
      · exact z
    · exact ⟨v', (k _ q).trans e⟩
  · obtain ⟨b, wb, hb⟩ := F.wat y j hy
    exact ⟨b, w y b wb, .inl hb⟩
  · skip
    by_cases q : j = i
    · subst q
      rw [if_pos rfl]
      exact ⟨.inr rfl, ne0⟩
    · rw [if_neg q]
      rw [Sig.set_ne _ _ q] at hj
      exact ⟨.inl (F.own y j w' hy hj).1, (F.own y j w' hy hj).2⟩
  · skip
    by_cases q1 : j = i <;> by_cases q2 : l = i
    · rw [q1, q2]
    · rw [if_pos q1, if_neg q2] at e
      rw [Sig.set_ne _ _ q2] at hl
      exact absurd (e ▸ (F.own z l w2 hz hl).1) n0
    · rw [if_neg q1, if_pos q2] at e
      rw [Sig.set_ne _ _ q1] at hj
      exact absurd (e ▸ (F.own y j w1 hy hj).1) n0
    · rw [if_neg q1, if_neg q2] at e
      rw [Sig.set_ne _ _ q1] at hj
      rw [Sig.set_ne _ _ q2] at hl
      exact F.inj y z j l w1 w2 hy hz hj hl e
  · rcases hb with hb | rfl
    · obtain ⟨g, ob, e, st'⟩ := F.priv b hb
      refine ⟨g, ?_⟩
      by_cases q : b = a
      · subst q; exact st
      · exact ⟨ob, (k b q).trans e, st'⟩
    · refine ⟨g0, ?_⟩
      obtain ⟨_, e1, c, _⟩ := own0.std; exact ⟨_, e1, .inl c⟩
  · by_cases q : j = i
    · subst q; rw [if_pos rfl]; exact hio hio'
    · rw [if_neg q]
      rw [Sig.set_ne _ _ q] at hj
      exact F.io y j w' hy hio' hj
theorem Fr.storeOwn (ok : BaseOK B) (X : EnvB cx env) (CF : CxF cx) (H : Hp B G s) (F : Fr cx env α oa ioa σ G s.heap) {x : Str} {i : Nat} (hx : cx.vars.lookup x = some i) (hio : cx.io ≠ some i) {a0 : Addr} {v : V} (hv : OwnAt G s.heap a0 v) (g0 : G a0 = none) (n0 : ¬ α a0) {Q : Unit → Shared → Prop}
    (h : ∀ s', SExt B α G s G s' → Fr cx env (fun b => α b ∨ b = a0) (fun j => if j = i then a0 else oa j) ioa (σ.set i (.own v)) G s'.heap → Q () s') : Wp B A (storeName env x (.ref a0)) Q s :=
  F.storeOwn0 ok X CF H hx (fun q => absurd q hio) hv g0 n0 fun s' x1 F1 => h s' (x1.weaken fun _ hb => .inl (F.sat hx hb)) F1
theorem Fr.change (ok : BaseOK B) (CF : CxF cx) (H : Hp B G s) (F : Fr cx env α oa ioa σ G s.heap) {x : Str} {i : Nat} (hx : cx.vars.lookup x = some i) {v v' : V} (hi : σ.at i = .own v) {h' : Heap} {tk : Nat} (hv : OwnAt G h' (oa i) v') (k : ∀ b, b ≠ oa i → h'.get? b = s.heap.get? b) :
    SExt B α G s G { s with heap := h', toks := tk } ∧ Fr cx env α oa ioa (σ.set i (.own v')) G h' := by
  obtain ⟨ha, hne⟩ := F.own x i v hx hi
  have st0 : ∃ o, h'.get? (oa i) = some o ∧ Std o := by
    obtain ⟨_, e1, c, _⟩ := hv.std; exact ⟨_, e1, .inl c⟩
  have x1 : SExt B α G s G { s with heap := h', toks := tk } := (SExt.kept (α := (· = oa i)) ok H (fun b (q : b = oa i) => by rw [q]; exact (F.priv _ ha).1) (fun b (q : b = oa i) t => by
    obtain ⟨_, o, e, st⟩ := F.priv _ ha
    exact H.nottabS ok e st (q ▸ t)) fun b o hb e => (k b hb).trans e).weaken fun b (q : b = oa i) => .inl (q ▸ ha)
  have rdk : ∀ y j w, cx.vars.lookup y = some j → Reads1 cx env s.heap y w → Reads1 cx env h' y w := fun y j w hy r => by
    rcases r with ⟨q1, m, q2, q3⟩ | ⟨q1, c, q2, q3⟩
    · refine .inl ⟨q1, m, ?_, q3⟩
      obtain ⟨o, es, ep, e, r⟩ := q2
      exact ⟨o, es, ep, (k _ (hne y j _ hy (.inl ⟨q1, rfl⟩))).trans e, r⟩
    · refine .inr ⟨q1, c, q2, (k _ ?_).trans q3⟩
      obtain ⟨a, wa, _⟩ := F.wat y j hy
      rcases wa with ⟨z, _⟩ | ⟨z1, z2, _⟩
      · rw [z] at q1; cases q1
      · exact hne y j _ hy (.inr ⟨z1, q2⟩)
  refine ⟨x1, ⟨fun y j hy => ?_, fun y c h1 h2 => ?_, fun y j hy => ?_, fun y j w' hy hj => ?_, fun y z j l w1 w2 hy hz hj hl e => ?_, fun b hb => ?_, fun y j w' hy hio' hj => ?_⟩⟩
  · by_cases q : y = x
    · subst q
      rw [hx] at hy; cases hy
      rcases Sig.set_or σ i (.own v') with q | q <;> rw [q]
      · have z := F.ent y i hx
        rw [hi] at z
        exact ⟨rdk y i _ hx z.1, hv⟩
      · trivial
    · have hji : j ≠ i := fun z => q (CF y x i (z ▸ hy) hx)
      rw [Sig.set_ne _ _ hji]
      have z := F.ent y j hy
      cases e : σ.at j with
      | un => trivial
      | fz w' => rw [e] at z; obtain ⟨u', a', b'⟩ := z; exact ⟨u', rdk y j u' hy a', b'⟩
      | own w' =>
        rw [e] at z
        refine ⟨rdk y j _ hy z.1, ?_⟩
        have ne : oa j ≠ oa i := fun q => hji (F.inj y x j i w' v hy hx e hi q)
        exact z.2.at (k _ ne)
  · obtain ⟨w, e⟩ := F.up y c h1 h2
    by_cases q : c = oa i
    · exfalso
      have z := F.ent x i hx
      rw [hi] at z
      obtain ⟨_, e1, _, nc⟩ := z.2.std; rw [← q, e] at e1; exact nc _ (Option.some.inj e1).symm
    · exact ⟨w, (k _ q).trans e⟩
  · obtain ⟨b, wb, hb⟩ := F.wat y j hy
    refine ⟨b, ?_, hb⟩
    have nb := hne y j b hy wb.sat
    rcases wb with ⟨h1, h2, m, o, es, ep, e, r⟩ | ⟨h1, h2, w, e⟩
    · exact .inl ⟨h1, h2, m, o, es, ep, (k _ nb).trans e, r⟩
    · exact .inr ⟨h1, h2, w, (k _ nb).trans e⟩
  · by_cases q : j = i
    · subst q; exact ⟨ha, hne⟩
    · rw [Sig.set_ne _ _ q] at hj
      exact F.own y j w' hy hj
  · by_cases q1 : j = i <;> by_cases q2 : l = i
    · rw [q1, q2]
    · rw [Sig.set_ne _ _ q2] at hl
      subst q1
      exact F.inj y z j l v w2 hy hz hi hl e
    · rw [Sig.set_ne _ _ q1] at hj
      subst q2
      exact F.inj y z j l w1 v hy hz hj hi e
    · rw [Sig.set_ne _ _ q1] at hj
      rw [Sig.set_ne _ _ q2] at hl
      exact F.inj y z j l w1 w2 hy hz hj hl e
  · obtain ⟨g, ob, e, st'⟩ := F.priv b hb
    refine ⟨g, ?_⟩
    by_cases q : b = oa i
    · rw [q]; exact st0
    · exact ⟨ob, (k b q).trans e, st'⟩
  · by_cases q : j = i
    · subst q; exact F.io y j v hy hio' hi
    · rw [Sig.set_ne _ _ q] at hj
      exact F.io y j w' hy hio' hj
end
end Mine
namespace Mine
open PySem PySem.Calls
noncomputable def FlOk (G : GMap) (f : Flow) (fl : Fl) : Prop := match fl with
  | .next => f = .next
  | .brk => f = .brk
  | .ret v => ∃ u, f = .ret u ∧ Rep G u v
theorem FlOk.next {G : GMap} : FlOk G .next .next := rfl
theorem FlOk.brk {G : GMap} : FlOk G .brk .brk := rfl
theorem FlOk.ret {G : GMap} {u : Value} {v : V} (r : Rep G u v) : FlOk G (.ret u) (.ret v) := ⟨u, rfl, r⟩
noncomputable def After (B : Base) (cx : Cx) (env : Env) (α : Addr → Prop) (ioa : Addr) (G : GMap) (s : Shared) (σ' : Sig) (fl : Fl) (Q : Flow → Shared → Prop) : Prop :=
  ∀ G' s' α' oa' f, SExt B α G s G' s' → (∀ a, α' a → α a ∨ s.heap.get? a = none) → Fr cx env α' oa' ioa σ' G' s'.heap → FlOk G' f fl → Q f s'
noncomputable def S1Spec (B : Base) (n : Nat) (r : Rn) : Prop :=
  ∀ cx st m, T1 cx st m → cxOk B cx → CxF cx → ∀ σ fl σ', exStep r σ m = some (fl, σ') → ∀ (A : Around) (env : Env) (G : GMap) (s : Shared) (α : Addr → Prop) (oa : Nat → Addr) (ioa : Addr), Room A n → EnvB cx env → Hp B G s → Fr cx env α oa ioa σ G s.heap →
    ∀ Q : Flow → Shared → Prop, After B cx env α ioa G s σ' fl Q → Wp B A (exec st env) Q s
noncomputable def SSpec (B : Base) (n : Nat) (ex : Sig → List MS → Option (Fl × Sig)) : Prop :=
  ∀ cx ss ms, TS cx ss ms → cxOk B cx → CxF cx → ∀ σ fl σ', ex σ ms = some (fl, σ') → ∀ (A : Around) (env : Env) (G : GMap) (s : Shared) (α : Addr → Prop) (oa : Nat → Addr) (ioa : Addr), Room A n → EnvB cx env → Hp B G s → Fr cx env α oa ioa σ G s.heap →
    ∀ Q : Flow → Shared → Prop, After B cx env α ioa G s σ' fl Q → Wp B A (execs ss env) Q s
section
variable {B : Base} {n : Nat} {G G1 : GMap} {s s1 : Shared} {cx : Cx} {env : Env} {α α1 : Addr → Prop} {oa : Nat → Addr} {ioa : Addr} {σ σ' : Sig} {A : Around} {fl : Fl} {Q : Flow → Shared → Prop} {r : Rn}
theorem none_or (ok : BaseOK B) (x : SExt B α G s G1 s1) {a : Addr} (h : s1.heap.get? a = none) : α a ∨ s.heap.get? a = none := by
  by_cases q : α a
  · exact .inl q
  · right
    cases e : s.heap.get? a with
    | none => rfl
    | some o =>
      by_cases t : B.tab a
      · obtain ⟨o', e', _⟩ := ok.tabF x.hp.tok t
        rw [h] at e'; cases e'
      · rw [x.grow a o e t q] at h; cases h
theorem After.step (ok : BaseOK B) (h : After B cx env α ioa G s σ' fl Q) (x : SExt B α G s G1 s1) (h1 : ∀ a, α1 a → α a ∨ s.heap.get? a = none) : After B cx env α1 ioa G1 s1 σ' fl Q :=
  fun G' s' α' oa' f y h2 F k => h G' s' α' oa' f (x.trans y h1) (fun a ha => (h2 a ha).elim (h1 a) (none_or ok x)) F k
theorem After.of2 {τ : Sig} {f : Fl} (e : some (f, τ) = some (fl, σ')) (h : After B cx env α ioa G s σ' fl Q) : After B cx env α ioa G s τ f Q := by
  obtain ⟨rfl, rfl⟩ := Prod.mk.inj (Option.some.inj e); exact h
theorem T.noSwap {e : Expr} {me : ME} (t : T cx e me) (hs : me ≠ .stuck) (hc : isComp e = false) (tg : Option Expr) (l : Nat) (env : Env) : swapsWith e tg l env = pure false := by
  have hd := t.hd.2 hs
  induction hd using Mine.Hd.casesOn <;> first | rfl | exact nomatch hc
theorem wpAny_Assign1 {t value : Expr} {pos : Pos} (hs : swapsWith value (some t) pos.line env = pure false) (hw : swappedStores [t] value env = pure none) (he : (assignEach [t] env).map (·.2) = [assign t env])
    (h : Wp B A (eval value env) (fun v s₁ => Wp B A (assign t env v) (fun _ => Q .next) s₁) s) : Wp B A (exec (.Assign [t] value pos) env) Q s := by
  refine wpAny_Assign_stores (wpAny_mono h (fun v s₁ h₁ => ?_) fun _ _ x => x) hs hw
  rw [he]
  exact h₁
theorem isTup_inv {e : Expr} (h : isTup e = true) : ∃ es k p, e = .Tuple es k p := by
  induction e using PySem.Expr.casesOn <;> first | exact ⟨_, _, _, rfl⟩ | exact nomatch h
theorem T.noPair {e : Expr} {me : ME} (t : T cx e me) (hs : me ≠ .stuck) {tt : Expr} (h : (isTup tt && isTup e) = false) (tn : isTup tt = true ∨ ∃ y p, tt = .Name y p) (env : Env) : swappedStores [tt] e env = pure none := by
  have hd := t.hd.2 hs
  rcases tn with q | ⟨y, p, rfl⟩
  · obtain ⟨es, k, p, rfl⟩ := isTup_inv q
    induction hd using Mine.Hd.casesOn <;> first | rfl | exact nomatch h
  · induction hd using Mine.Hd.casesOn <;> rfl
theorem TT.each {tt : Expr} {mt : Tgt} (T : TT cx tt mt) (env : Env) : (assignEach [tt] env).map (·.2) = [assign tt env] := by
  induction T using Mine.TT.casesOn <;> rfl
theorem sets_spec (ok : BaseOK B) (X : EnvB cx env) (CF : CxF cx) {xs : List (Str × Pos)} {is : List Nat} {vs : List V} {us : List Value} (hx : xs.map (fun x => cx.vars.lookup x.1) = is.map some) (e : sets σ is vs = some σ') (rr : Reps G us vs) (H : Hp B G s) (F : Fr cx env α oa ioa σ G s.heap)
    {Q : Unit → Shared → Prop} (h : ∀ s', SExt B α G s G s' → Fr cx env α oa ioa σ' G s'.heap → Q () s') : Wp B A (assignInOrder ((assignEach (xs.map fun x => .Name x.1 x.2) env).map (·.2)) us) Q s := by
  induction xs generalizing is vs us σ s with
  | nil =>
    induction is using List.casesOn with
    | cons => exact nomatch hx
    | nil =>
      induction vs using List.casesOn with
      | cons => exact (noF e).elim
      | nil => obtain rfl := rr; exact wpAny_pure (h s (.refl H α) (Option.some.inj e ▸ F))
  | cons x xs ih =>
    induction is using List.casesOn with
    | nil => exact nomatch hx
    | cons i is =>
      induction vs using List.casesOn with
      | nil => exact (noF e).elim
      | cons v vs =>
        obtain ⟨u, us, rfl, r0, rr⟩ := rr
        obtain ⟨h1, h2⟩ := List.cons.inj hx
        show Wp B A (do holding _ (assign (.Name x.1 x.2) env _); assignInOrder ((assignEach (xs.map fun x => .Name x.1 x.2) env).map (·.2)) _) Q s
        refine wpAny_bind (wpAny_holding (wpAny_assign_Name (F.store ok X CF H h1 r0 fun s2 x2 F2 => ?_)))
        exact ih h2 e rr x2.hp F2 fun s3 x3 F3 => h s3 (x2.trans x3 fun a ha => .inl ha) F3
theorem put_spec (ok : BaseOK B) (X : EnvB cx env) (CF : CxF cx) (hh : A.handled = none) {t : Expr} {mt : Tgt} (T : TT cx t mt) {v : V} (e : put σ mt v = some σ') (H : Hp B G s) (F : Fr cx env α oa ioa σ G s.heap) {u : Value} (ru : Rep G u v) {Q : Unit → Shared → Prop}
    (h : ∀ s', SExt B α G s G s' → Fr cx env α oa ioa σ' G s'.heap → Q () s') : Wp B A (assign t env u) Q s := by
  induction T using Mine.TT.casesOn with
  | @one x pos i hx => exact wpAny_assign_Name (F.store ok X CF H hx ru (Option.some.inj e ▸ h))
  | @many xs is k pos hx nd =>
    induction v using Mine.V.casesOn with
    | tup vs =>
      obtain ⟨a, ws, rfl, hT, rr, hz⟩ := ru
      have hlen := rr.length
      have hl2 := sets_len (show sets σ is vs = some σ' from e)
      have hl3 : xs.length = is.length := by have := congrArg List.length hx; rw [List.length_map, List.length_map] at this; exact this
      obtain ⟨n1, n2⟩ := assignEach_names xs env
      refine wpAny_assign_Tuple hh (isTup_of H.keep hT) (by rw [n1, List.size_toArray]; lia) n2 fun h1 hs1 => ?_
      have x1 : Ext B G s G { s with heap := h1, toks := s.toks } := Ext.grown ok H fun b o e => hs1 b o (Nat.ne_of_lt (Heap.lt_size e)) e
      exact sets_spec ok X CF hx e rr x1.hp (F.ext ok H x1) fun s' x' F' => h s' ((x1.sx α).trans x' fun a ha => .inl ha) F'
    | _ => exact (noF e).elim
theorem inplace_op (ok : BaseOK B) (H : Hp B G s) {x y : Int} {t t2 : Tok} {z : V} {op : Operator} {o : Bop} (ho : bopOf op = some o) (ha : augOk o = true) (e : binV o (.int x) (.int y) = some z) {Q : Value → Shared → Prop}
    (h : ∀ tk i t', z = .int i → Q (.int i t') { s with toks := tk }) : Wp B A (inplaceOp op (.int x t) (.int y t2)) Q s := by
  have sz := szLine
  have ln := lineN_eq
  induction op using PySem.Operator.casesOn with
  | Add => obtain rfl := Option.some.inj ho; obtain rfl := Option.some.inj e; exact P.iadd_int (h _ _ _ rfl)
  | Sub => obtain rfl := Option.some.inj ho; obtain rfl := Option.some.inj e; exact P.isub_int (h _ _ _ rfl)
  | Mult => obtain rfl := Option.some.inj ho; obtain ⟨hz, rfl⟩ := iteS e; exact P.imul_int (h _ _ _ rfl) (mulOk hz)
  | LShift =>
    obtain rfl := Option.some.inj ho; obtain ⟨hz, rfl⟩ := iteS e
    unfold bitsOf at hz
    exact PyProof.Rows.ilshift_int hz.1 (by lia) (h _ _ _ rfl)
  | RShift => obtain rfl := Option.some.inj ho; obtain ⟨hz, rfl⟩ := iteS e; exact PyProof.Rows.irshift_int hz (h _ _ _ rfl)
  | BitXor => obtain rfl := Option.some.inj ho; obtain rfl := Option.some.inj e; exact PyProof.Rows.ixor_int (h _ _ _ rfl)
  | Div => exfalso; exact noF ho
  | MatMult => exfalso; exact noF ho
  | _ => obtain rfl := Option.some.inj ho; exfalso; exact nomatch ha
end
end Mine
namespace Mine
open PySem PySem.Calls
theorem setItem_exact {prog : Program} {w : World} {A : Around} {E : Value → Shared → Prop} {s : Shared} {l : Addr} {us : List Value} {n : Nat} {k : Int} {t : Tok} {v : Value} {Q : Unit → Shared → Prop} (ho : s.heap.get? l = some (Mine.listO us n))
    (h0 : 0 ≤ k) (hfit : k < 2 ^ 63) (hn : k < us.length)
    (hQ : ∀ h' n', h'.get? l = some (Mine.listO (us.set k.toNat v) n') → (∀ b, b ≠ l → h'.get? b = s.heap.get? b) → Q () { s with heap := h' }) :
    wpAny (model prog w) A (setItem (.ref l) (.int k t) v) Q E s := by
  have hl : s.heap.IsList l us.toArray := ⟨_, ho, rfl, n, rfl⟩
  have hd : (Mine.listO us n).data = .seq us.toArray n := rfl
  unfold setItem
  try with_reducible refine wpAny_holding ?_
  first | refine wpAny_bind (wpAny_pure ?_) | skip
  refine wpAny_bind (wpAny_sequenceKey hl.typeIs (by decide) ?_)
  refine wpAny_bind (wpAny_callSpecial?_slot (name := Str.ofString "__setitem__") hl.typeIs slot_list_setitem
    (wpAny_call_entry slot_list_setitem hl.typeIs entry_list_setitem ?_ (args_list_setitem _ _ _)))
  show wpAny _ _ (Builtin.List.listSubscript? (.int k t) >>= _) _ _ s
  refine wpAny_bind (wpAny_listSubscript_int (fitsIndex_of h0 hfit) ?_)
  clear hfit
  obtain ⟨j, rfl⟩ := Int.eq_ofNat_of_zero_le h0
  have hj : j < us.toArray.size := by simp; lia
  have hx' : us.toArray[j]? = some us.toArray[j] := Array.getElem?_eq_getElem hj
  show wpAny _ _ ((seqItemAt l j >>= fun r => pure (r.map (j, ·))) >>= _) _ _ s
  refine wpAny_bind (wpAny_bind (wpAny_seqItemAt ho hd (wpAny_pure ?_)))
  rw [hx']
  show wpAny _ _ (setSeqItemAt l j v >>= _) _ _ s
  have e1 := PyProof.Rows.get?_update_seq (c := "list") (xs := us.toArray) (n := n) ho (fun xs => xs.setIfInBounds j v)
  have e2 : us.toArray.setIfInBounds j v = (us.set j v).toArray := by simp
  rw [e2] at e1
  have fin := hQ _ _ e1 (fun b hb => Heap.get?_update_ne _ _ _ _ hb)
  refine wpAny_bind (wpAny_setSeqItemAt ho hd ?_)
  first
    | exact wpAny_bind (wpAny_pure (wpAny_pure ⟨.none, rfl, wpAny_pure fin⟩))
    | exact wpAny_pure ⟨.none, rfl, wpAny_pure fin⟩
theorem mulList {vs : List V} {y v : V} (h : binV .mul (.list vs) y = some v) : ∃ i, y = .int i ∧ vs.length * i.toNat ≤ lineN ∧ i < lineN ∧ -lineN < i ∧ v = .list (rep vs i.toNat) := by
  induction y using Mine.V.casesOn with
  | int i =>
    obtain ⟨hz, rfl⟩ := iteS h
    simp only [Bool.and_eq_true, decide_eq_true_eq] at hz
    exact ⟨i, rfl, hz.1.1, hz.1.2, hz.2, rfl⟩
  | _ => exfalso; exact noF h
theorem listMul_inv {e b : Expr} {op : Operator} {p : Pos} (h : makesList (.BinOp e op b p) = true) : ∃ es q, e = .List es q ∧ op = .Mult := by
  induction e using PySem.Expr.casesOn with
  | List =>
    induction op using PySem.Operator.casesOn with
    | Mult => exact ⟨_, _, rfl, rfl⟩
    | _ => exact nomatch h
  | _ => exact nomatch h
theorem makesList_inv {e : Expr} (h : makesList e = true) : (∃ es pos, e = .List es pos) ∨ (∃ es p2 b pos, e = .BinOp (.List es p2) .Mult b pos) ∨ ∃ ks vs pos, e = .Dict ks vs pos := by
  induction e using PySem.Expr.casesOn with
  | List => exact .inl ⟨_, _, rfl⟩
  | Dict => exact .inr (.inr ⟨_, _, _, rfl⟩)
  | BinOp =>
    obtain ⟨es, q, rfl, rfl⟩ := listMul_inv h
    exact .inr (.inl ⟨_, _, _, _, rfl⟩)
  | _ => exact nomatch h
section
variable {B : Base} {n : Nat} {G G1 : GMap} {s s1 : Shared} {cx : Cx} {env : Env} {α α1 : Addr → Prop} {oa : Nat → Addr} {ioa : Addr} {σ σ' : Sig} {A : Around} {fl : Fl} {Q : Flow → Shared → Prop}
set_option tactic.hygienic true in
theorem fresh_spec (ok : BaseOK B) {n : Nat} (IHE : ∀ m, m ≤ n → ESpec B m (run B.g m).ev) (hc : cxOk B cx) {e : Expr} {me : ME} (t : FreshT cx e me) (hm : makesList e = true) {v : V} (he : (run B.g n).ev σ me = some v) (hr : Room A n) (X : EnvB cx env) (H : Hp B G s) (R : Rd cx env σ G s.heap)
    {Q : Value → Shared → Prop} (h : ∀ G' s' a, Ext B G s G' s' → OwnAt G' s'.heap a v → G' a = none → s.heap.get? a = none → Q (.ref a) s') : Wp B A (eval e env) Q s := by
  induction n using Nat.casesAuxOn with
  | zero => cases he
  | succ n =>
    have IH := IHE n (Nat.le_succ n)
    have hr' : Room A n := hr.less (Nat.le_succ n)
    replace he : evStep B.g (run B.g n) σ me = some v := he
    induction t using Mine.FreshT.casesOn with
    | dict =>
      cases he
      refine wpAny_Dict_empty ?_
      have x1 : Ext B G s G { s with heap := s.heap.push { cls := .type "dict", data := .dict #[] } } := Ext.grown (tk := s.toks) ok H fun _ _ e => Heap.get?_push_of_some _ e
      exact h G _ _ x1 ⟨[], 0, Heap.get?_push_size _ rfl, .nil, Nat.zero_le _, .nil⟩ (H.noneG (get_size_none _)) (get_size_none _)
    | val t hf hk =>
      have listCase : ∀ {es : List Expr} {pos : Pos} {m : ME} {n : Nat} {w : V}, ESpec B n (run B.g n).ev → Room A n → T cx (.List es pos) m → evStep B.g (run B.g n) σ m = some w → ∀ {Q : Value → Shared → Prop},
          (∀ G' s' us vs, Ext B G s G' s' → w = .list vs → Reps G' us vs → us.length ≤ 1000 → Q (.ref s'.heap.objs.size) { s' with heap := s'.heap.push (listO us 0) }) → Wp B A (eval (.List es pos) env) Q s := by
        intro es pos m n w IH hr' t he Q h
        rcases t.list_inv with rfl | ⟨ms, rfl, hz, tl⟩
        · exact nomatch he
        · unfold evStep at he
          dsimp only at he
          split at he
          · rename_i vs hvs
            obtain rfl := Option.some.inj he
            exact listD_spec ok IH hc X hr' hz tl hvs H R fun G1 s1 us x1 r hl => h G1 s1 us vs x1 rfl r hl
          · exfalso; exact noF he
      rcases makesList_inv hm with ⟨es, pos, rfl⟩ | ⟨es, p2, b, pos, rfl⟩ | ⟨ks, vs, pos, rfl⟩
      · refine listCase IH hr' t he fun G1 s1 us vs x1 e r hl => ?_
        subst e
        have x2 : Ext B G s G1 { s1 with heap := s1.heap.push (listO us 0) } := x1.trans (Ext.grown (tk := s1.toks) ok x1.hp fun _ _ e => Heap.get?_push_of_some _ e)
        have := szLine
        have := r.length
        exact h G1 _ _ x2 ⟨us, 0, Heap.get?_push_size _ rfl, r, by lia⟩ (x1.hp.noneG (get_size_none _)) (fresh_of ok x1 (Nat.le_refl _))
      · rcases t.bin_inv with rfl | ⟨o, ma, mb, rfl, ho, ta, tb⟩
        · exact nomatch he
        · obtain rfl := Option.some.inj ho
          unfold evStep at he
          dsimp only at he
          split at he
          · rename_i x hx
            split at he
            · rename_i y hy
              induction n using Nat.casesAuxOn with
              | zero => exact nomatch hx
              | succ n =>
                refine wpAny_Bin (listCase (IHE n (by lia)) (hr.less (by lia)) ta hx fun G1 s1 us vs x1 e r hl => ?_)
                subst e
                have hsz := szLine
                have hln := lineN_eq
                have hrl := r.length
                have x2 := x1.trans (Ext.push (tk := s1.toks) ok x1.hp (o := listO us 0) rfl (by intro q; cases q))
                refine IH _ _ _ tb hc σ y hy A env _ _ hr' X x2.hp (R.ext ok H x2) _ fun G3 s3 w x3 rw' => ?_
                obtain ⟨i, rfl, hz1, hz2, hz3, rfl⟩ := mulList he
                obtain ⟨t, rfl⟩ := rw'.int_inv
                have hg : s3.heap.get? s1.heap.objs.size = some (listO us 0) := x3.hp.keep _ _ (x3.le _ _ (GMap.add_at _ _ _))
                refine mul_listG hg (by lia) (by lia) (by rw [hrl]; lia) ?_
                have x4 : Ext B G s G3 { s3 with heap := s3.heap.push (listO (rep us i.toNat) 0) } := (x2.trans x3).trans (Ext.grown (tk := s3.toks) ok x3.hp fun _ _ e => Heap.get?_push_of_some _ e)
                exact h G3 _ _ x4 ⟨_, 0, Heap.get?_push_size _ rfl, ((r.mono (GMap.le_add (.inl (x1.hp.noneG (get_size_none _))))).mono x3.le).rep _, by rw [rep_len]; lia⟩ (x3.hp.noneG (get_size_none _)) (fresh_of ok (x2.trans x3) (Nat.le_refl _))
            · exfalso; exact noF he
          · exfalso; exact noF he
      · obtain rfl := t.dict_inv
        exact nomatch he
theorem OwnAt.ofDict {h : Heap} {a : Addr} {kvs : List (Int × Value)} {l : List (Int × V)} (hd : h.DictOf (intKind B.prog B.w) a kvs) (hk : KVs G kvs l) (hl : l.length ≤ sizeLine) : OwnAt G h a (.dict l) := by
  obtain ⟨o, es, ep, ho, ⟨h1, h2, h3⟩, hdt, hky, hp, hn⟩ := hd
  have e : o = dictO es.toList ep := by
    obtain ⟨c, d, dt, sl⟩ := o
    simp only at h1 h2 h3 hdt
    subst h1 h2 h3 hdt
    show _ = ({ cls := .type "dict", data := .dict es.toList.toArray ep } : Obj)
    rw [Array.toArray_toList]
  subst e
  exact ⟨es.toList, ep, ho, DReps.of hp (fun e he => hky e (by simpa using he)) hk, hl, by rw [← hk.keys]; exact hn⟩
end
end Mine
namespace Mine
open PySem PySem.Calls
section
variable {B : Base} {n : Nat} {G G1 : GMap} {s s1 : Shared} {cx : Cx} {env : Env} {α α1 : Addr → Prop} {oa : Nat → Addr} {ioa : Addr} {σ σ' : Sig} {A : Around} {fl : Fl} {Q : Flow → Shared → Prop}
theorem Fr.off {h h' : Heap} (F : Fr cx env α oa ioa σ G h) {C : Addr} (hC : ¬ α C) (ns : ∃ m, h.Ns C m) (hs : ∀ b, b ≠ C → h'.get? b = h.get? b) : Fr cx env α oa ioa σ G h' := by
  have nc : ∀ c v, h.get? c = some (cellO v) → c ≠ C := fun c v e q => by
    obtain ⟨m, o, es, ep, e', r⟩ := ns
    rw [q, e'] at e; cases e; cases r.1
  have ne : ∀ a, α a → a ≠ C := fun a ha q => hC (q ▸ ha)
  have rd : ∀ x i w, cx.vars.lookup x = some i → Reads1 cx env h x w → Reads1 cx env h' x w := fun x i w hx r => by
    rcases r with ⟨q1, m, q2, q3⟩ | ⟨q1, c, q2, q3⟩
    · obtain ⟨a, wa, ha⟩ := F.wat x i hx
      have e := wa.sat.uniq (.inl ⟨q1, rfl⟩)
      subst e
      obtain ⟨o, es, ep, e, r⟩ := q2
      exact .inl ⟨q1, m, ⟨o, es, ep, (hs _ (ne _ ha)).trans e, r⟩, q3⟩
    · exact .inr ⟨q1, c, q2, (hs _ (nc c _ q3)).trans q3⟩
  refine ⟨fun x i hx => ?_, fun y c h1 h2 => ?_, fun x i hx => ?_, F.own, F.inj, fun a ha => ?_, F.io⟩
  · have z := F.ent x i hx
    cases q : σ.at i with
    | un => trivial
    | fz v => rw [q] at z; obtain ⟨u, a, b⟩ := z; exact ⟨u, rd x i u hx a, b⟩
    | own v =>
      rw [q] at z
      refine ⟨rd x i _ hx z.1, ?_⟩
      have e := hs (oa i) (ne _ (F.own x i v hx q).1)
      exact z.2.at (e)
  · obtain ⟨v, e⟩ := F.up y c h1 h2
    exact ⟨v, (hs _ (nc c v e)).trans e⟩
  · obtain ⟨a, wa, ha⟩ := F.wat x i hx
    refine ⟨a, ?_, ha⟩
    rcases wa with ⟨q1, q2, m, o, es, ep, e, r⟩ | ⟨q1, q2, v, e⟩
    · exact .inl ⟨q1, q2, m, o, es, ep, (hs _ (ne _ ha)).trans e, r⟩
    · exact .inr ⟨q1, q2, v, (hs _ (ne _ ha)).trans e⟩
  · obtain ⟨g, o, e, st⟩ := F.priv a ha
    exact ⟨g, o, (hs _ (ne _ ha)).trans e, st⟩
theorem ev_stuck {m : ME} {v : V} (h : (run B.g n).ev σ m = some v) : m ≠ .stuck := fun q => by rw [q, run_stuck] at h; cases h
theorem isComp_inv {e : Expr} (h : ¬ isComp e = false) : ∃ a g sc p, e = .ListComp a g sc p := by
  induction e using PySem.Expr.casesOn with
  | ListComp => exact ⟨_, _, _, _, rfl⟩
  | _ => exact absurd rfl h
theorem After.of {τ : Sig} (e : some τ = some σ') (h : After B cx env α ioa G s σ' fl Q) : After B cx env α ioa G s τ fl Q := Option.some.inj e ▸ h
theorem assign_s (ok : BaseOK B) (IH : ESpec B n (run B.g n).ev) (IHl : ∀ m, m < n → ESpec B m (run B.g m).ev ∧ BSpec B m (run B.g m).ev) (hc : cxOk B cx) (CF : CxF cx) {t e : Expr} {mt : Tgt} {me : ME} {pos : Pos} (ht : TT cx t mt) (he : T cx e me) (hp : (isTup t && isTup e) = false) (hq : (isTup t && isComp e) = false)
    {v : V} (hv : (run B.g n).ev σ me = some v) (hput : put σ mt v = some σ') (hr : Room A n) (X : EnvB cx env) (H : Hp B G s) (F : Fr cx env α oa ioa σ G s.heap) (h : After B cx env α ioa G s σ' .next Q) : Wp B A (exec (.Assign [t] e pos) env) Q s := by
  have hst := ev_stuck hv
  have plain : swapsWith e (some t) pos.line env = pure false → Wp B A (exec (.Assign [t] e pos) env) Q s := fun hs => by
    refine wpAny_Assign1 hs (he.noPair hst hp ht.shape env) (ht.each env) (IH _ _ _ he hc σ v hv A env G s hr X H F.rd _ fun G1 s1 u x1 ru => ?_)
    exact put_spec ok X CF hr.handled ht hput x1.hp (F.ext ok H x1) ru fun s2 x2 F2 => h G1 s2 α oa .next ((x1.sx α).trans x2 fun a ha => .inl ha) (fun a ha => .inl ha) F2 .next
  by_cases hcp : isComp e = false
  · exact plain (he.noSwap hst hcp _ _ _)
  · obtain ⟨elt, gens, scope, cpos, rfl⟩ := isComp_inv hcp
    induction ht using Mine.TT.casesOn with
    | many hx nd => exact nomatch hq
    | @one x p i hx =>
      have hb : ∃ b, swapsWith (.ListComp elt gens scope cpos) (some (.Name x p)) pos.line env = pure b := ⟨_, rfl⟩
      obtain ⟨b, hb⟩ := hb
      induction b using Bool.casesOn with
      | false => exact plain hb
      | true =>
        rcases he.comp_inv with rfl | ⟨cx', it, t, mt, k, ms, mcs, cs, melt, rfl, rfl, hs, hk, ti, tt, tcs, tel⟩
        · exact absurd rfl hst
        · induction n using Nat.casesAuxOn with
          | zero => exact nomatch hv
          | succ n =>
            replace hv : evStep B.g (run B.g n) σ (.comp melt mt k ms mcs) = some v := hv
            set_option smartUnfolding false in refine mE hv fun vs hvs hv => ?_
            set_option smartUnfolding false in refine mE hv fun l hl hv => ?_
            set_option smartUnfolding false in refine mE hv fun out ho hv => ?_
            obtain rfl := Option.some.inj hv
            replace h := h.of hput
            rw [exec_Assign_Name_used _ _ _ _ hb]
            refine wpAny_bind (wpAny_standAt (wpAny_bind ?_))
            obtain ⟨I1, I2⟩ := IHl n (Nat.lt_succ_self n)
            refine comp_use ok I1 I2 hc X (hr.less (Nat.le_succ n)) hs hk ti tt tcs tel hvs hl ho H F.rd _ fun G1 s1 u C x1 ru nC gC ns => ?_
            refine wpAny_assign_Name ((F.ext ok H x1).store ok X CF x1.hp hx ru fun s2 x2 F2 => ?_)
            have hCα : ¬ α C := fun ha => by
              obtain ⟨_, o, e, _⟩ := F.priv C ha
              rw [nC] at e; cases e
            have ns2 : ∃ m, s2.heap.Ns C m := by
              obtain ⟨m, o, es, ep, e, r⟩ := ns
              exact ⟨m, o, es, ep, x2.grow _ _ e (x1.hp.nottabS ok e (.inr ⟨es, ep, r.1⟩)) hCα, r⟩
            obtain ⟨m, hm⟩ := ns2
            refine ⟨m, hm, fun h' hs' => ?_⟩
            have x3 : SExt B (· = C) G1 s2 G1 { s2 with heap := h', toks := s2.toks } := SExt.kept ok x2.hp (fun b (q : b = C) => by rw [q]; exact gC) (fun b (q : b = C) tb => by
              obtain ⟨o, es, ep, e, r⟩ := hm
              exact x2.hp.nottabS ok e (.inr ⟨es, ep, r.1⟩) (q ▸ tb)) fun b o hb e => (hs'.2 b hb).trans e
            refine wpAny_pure (h G1 _ α oa .next (((x1.sx α).trans x2 fun a ha => .inl ha).trans x3 fun a (ha : a = C) => .inr (ha ▸ nC)) (fun a ha => .inl ha) (F2.off hCα ⟨m, hm⟩ hs'.2) .next)
theorem fresh_s (ok : BaseOK B) (IHE : ∀ m, m ≤ n → ESpec B m (run B.g m).ev) (hc : cxOk B cx) (CF : CxF cx) {x : Str} {p1 pos : Pos} {i : Nat} {e : Expr} {me : ME} (hx : cx.vars.lookup x = some i) (he : FreshT cx e me) (hm : makesList e = true) (hio : cx.io ≠ some i)
    {v : V} (hv : (run B.g n).ev σ me = some v) (hr : Room A n) (X : EnvB cx env) (H : Hp B G s) (F : Fr cx env α oa ioa σ G s.heap) (h : After B cx env α ioa G s (σ.set i (.own v)) .next Q) : Wp B A (exec (.Assign [.Name x p1] e pos) env) Q s := by
  have hst := ev_stuck hv
  have hs : swapsWith e (some (.Name x p1)) pos.line env = pure false := by
    induction he using Mine.FreshT.casesOn with
    | dict => rfl
    | val t hf hk => exact t.noSwap hst hf _ _ _
  have hw : swappedStores [.Name x p1] e env = pure none := by
    induction he using Mine.FreshT.casesOn with
    | dict => rfl
    | val t hf hk => exact t.noPair hst (by rfl) (.inr ⟨_, _, rfl⟩) env
  refine wpAny_Assign1 hs hw rfl (fresh_spec ok IHE hc he hm hv hr X H F.rd fun G1 s1 a x1 hown ga na => ?_)
  have hna : ¬ α a := fun ha => by
    obtain ⟨_, o, e, _⟩ := F.priv a ha
    rw [na] at e; cases e
  refine wpAny_assign_Name ((F.ext ok H x1).storeOwn ok X CF x1.hp hx hio hown ga hna fun s2 x2 F2 => ?_)
  exact h G1 s2 _ _ .next ((x1.sx α).trans x2 fun a ha => .inl ha) (fun b hb => hb.elim .inl fun q => .inr (q ▸ na)) F2 .next
theorem aug_s (ok : BaseOK B) (IH : ESpec B n (run B.g n).ev) (hc : cxOk B cx) (CF : CxF cx) {x : Str} {p1 pos : Pos} {i : Nat} {op : Operator} {o : Bop} {e : Expr} {me : ME} (hx : cx.vars.lookup x = some i) (ho : bopOf op = some o) (ha : augOk o = true) (he : T cx e me)
    {a b : Int} {z : V} (hi : σ.at i = .fz (.int a)) (hv : (run B.g n).ev σ me = some (.int b)) (hz : binV o (.int a) (.int b) = some z) (hr : Room A n) (X : EnvB cx env) (H : Hp B G s) (F : Fr cx env α oa ioa σ G s.heap) (h : After B cx env α ioa G s (σ.set i (.fz z)) .next Q) :
    Wp B A (exec (.AugAssign (.Name x p1) op e pos) env) Q s := by
  have z0 := F.ent x i hx
  rw [hi] at z0
  obtain ⟨u, rd, t1, rfl⟩ := z0
  refine wpAny_AugAssign_Name (load_var X rd (IH _ _ _ he hc σ _ hv A env G s hr X H F.rd _ fun G1 s1 w x1 rw' => ?_))
  obtain ⟨t2, rfl⟩ := rw'
  refine inplace_op ok x1.hp ho ha hz fun tk k t' hk => ?_
  subst hk
  have x2 := x1.trans (Ext.toks (tk := tk) ok x1.hp)
  exact (F.ext ok H x2).store ok X CF x2.hp hx (.int _ _) fun s3 x3 F3 => h G1 s3 α oa .next ((x2.sx α).trans x3 fun a ha => .inl ha) (fun a ha => .inl ha) F3 .next
end
end Mine
namespace Mine
open PySem PySem.Calls
section
variable {B : Base} {n : Nat} {G G1 : GMap} {s s1 : Shared} {cx : Cx} {env : Env} {α α1 : Addr → Prop} {oa : Nat → Addr} {ioa : Addr} {σ σ' : Sig} {A : Around} {fl : Fl} {Q : Flow → Shared → Prop}
theorem EnvB.quiet (X : EnvB cx env) : interactive env = false := by
  unfold interactive
  rw [X.scope, X.kind]; rfl
theorem method_stmt (ok : BaseOK B) (X : EnvB cx env) (H : Hp B G s) (F : Fr cx env α oa ioa σ G s.heap) {x : Str} {i : Nat} (hx : cx.vars.lookup x = some i) (hd : (x == ("__debug__" : Str)) = false) {l : List V} (hi : σ.at i = .own (.list l)) {nm : Str} {id : String} {p1 p2 p3 pos : Pos} {es : List Expr}
    (hp : (p2.endLine == p3.line) = true) (hfew : ((backTo p3 (starEach es env)).all (fun x => !x.1) && (backToKw p3 (keywordEach [] env)).all (fun x => x.1.isSome) && decide (es.length + ([] : List Keyword).length + (if ([] : List Keyword).isEmpty then 0 else 1) < 30)) = true)
    (slot : Slot "list" nm id) (hty : typeOf (.builtin id) = pure (.type "method_descriptor"))
    (h : Wp B A (callWith p3 (.builtin id) [.ref (oa i)] (backTo p3 (starEach es env)) []) (fun v s1 => v = .none ∧ Q .next s1) s) :
    Wp B A (exec (.Expr (.Call (.Attribute (.Name x p1) nm p2) es [] p3) pos) env) Q s := by
  have z := F.ent x i hx
  rw [hi] at z
  obtain ⟨rd, us, k, e, rr, hz⟩ := z
  refine wpAny_Expr ?_ X.quiet rfl
  refine wpAny_Call_method (T := "list") (id := id) rfl hfew hp PySem.F.plainAttrs_list slot hty ?_
  refine wpAny_Name (load_var X rd ⟨⟨_, e, rfl⟩, fun a q => by cases q; exact ⟨_, e, rfl⟩, ?_⟩) hd
  exact wpAny_mono h (fun v s1 hq => by obtain ⟨rfl, hq⟩ := hq; exact hq) fun _ _ f => f
theorem append_s (ok : BaseOK B) (IH : ESpec B n (run B.g n).ev) (hc : cxOk B cx) (CF : CxF cx) {x : Str} {p1 p2 p3 pos : Pos} {i : Nat} {e : Expr} {me : ME} (hx : cx.vars.lookup x = some i) (hd : (x == ("__debug__" : Str)) = false) (he : T cx e me) (hp : (p2.endLine == p3.line) = true)
    {l : List V} {v : V} (hi : σ.at i = .own (.list l)) (hv : (run B.g n).ev σ me = some v) (hlen : l.length < lineN) (hr : Room A n) (X : EnvB cx env) (H : Hp B G s) (F : Fr cx env α oa ioa σ G s.heap) (h : After B cx env α ioa G s (σ.set i (.own (.list (l ++ [v])))) .next Q) :
    Wp B A (exec (.Expr (.Call (.Attribute (.Name x p1) "append" p2) [e] [] p3) pos) env) Q s := by
  have hsz := szLine
  have hln := lineN_eq
  refine method_stmt ok X H F hx hd hi hp ?_ PySem.F.slot_list_append PySem.F.type_list_append ?_
  · rw [(TL.plain (cx := cx) (ms := [me]) (.cons he .nil)).2]; rfl
  · rw [he.notStar]
    refine P.append_list (IH _ _ _ he hc σ v hv A env G s hr X H F.rd _ fun G1 s1 u x1 ru => ?_)
    have F1 := F.ext ok H x1
    have z := F1.ent x i hx
    rw [hi] at z
    obtain ⟨rd, us, k, e1, rr, hz⟩ := z
    have hl := rr.length
    refine ⟨us.toArray, k, by rw [List.size_toArray]; lia, e1, rfl, ?_⟩
    have e2 := PyProof.Rows.get?_update_seq (c := "list") (xs := us.toArray) (n := k) e1 (fun xs => xs.push u)
    rw [List.push_toArray] at e2
    obtain ⟨x2, F2⟩ := F1.change (tk := s1.toks) ok CF x1.hp hx hi (v' := .list (l ++ [v])) (h' := s1.heap.update (oa i) (Obj.mapSeq fun xs => xs.push u)) ⟨us ++ [u], _, e2, rr.append (.cons ru .nil), by simp; lia⟩ fun b hb => Heap.get?_update_ne _ _ _ _ hb
    exact h G1 _ α oa .next ((x1.sx α).trans x2 fun a ha => .inl ha) (fun a ha => .inl ha) F2 .next
theorem reverse_s (ok : BaseOK B) (CF : CxF cx) {x : Str} {p1 p2 p3 pos : Pos} {i : Nat} (hx : cx.vars.lookup x = some i) (hd : (x == ("__debug__" : Str)) = false) (hp : (p2.endLine == p3.line) = true)
    {l : List V} (hi : σ.at i = .own (.list l)) (X : EnvB cx env) (H : Hp B G s) (F : Fr cx env α oa ioa σ G s.heap) (h : After B cx env α ioa G s (σ.set i (.own (.list l.reverse))) .next Q) :
    Wp B A (exec (.Expr (.Call (.Attribute (.Name x p1) "reverse" p2) [] [] p3) pos) env) Q s := by
  refine method_stmt ok X H F hx hd hi hp rfl PySem.F.slot_list_reverse PySem.F.type_list_reverse ?_
  have z := F.ent x i hx
  rw [hi] at z
  obtain ⟨rd, us, k, e1, rr, hz⟩ := z
  have hl := rr.length
  refine P.reverse_list (items := us.toArray) (n := k) e1 ⟨rfl, ?_⟩ (by rw [List.size_toArray]; lia)
  have e2 := PyProof.Rows.get?_update_seq (c := "list") (xs := us.toArray) (n := k) e1 (fun xs => xs.reverse)
  rw [List.reverse_toArray] at e2
  obtain ⟨x2, F2⟩ := F.change (tk := s.toks) ok CF H hx hi (v' := .list l.reverse) (h' := s.heap.update (oa i) (Obj.mapSeq fun xs => xs.reverse)) ⟨us.reverse, _, e2, rr.reverse, by simp; lia⟩ fun b hb => Heap.get?_update_ne _ _ _ _ hb
  exact h G _ α oa .next x2 (fun a ha => .inl ha) F2 .next
theorem setItem_s (ok : BaseOK B) (IH : ESpec B n (run B.g n).ev) (hc : cxOk B cx) (CF : CxF cx) {x : Str} {p1 p2 pos : Pos} {i : Nat} {k e : Expr} {mk me : ME} (hx : cx.vars.lookup x = some i) (hd : (x == ("__debug__" : Str)) = false) (hk : T cx k mk) (he : T cx e me) (hcmp : isComp e = false)
    {l : List (Int × V)} {v : V} {y : Int} (hi : σ.at i = .own (.dict l)) (hv : (run B.g n).ev σ me = some v) (hy : (run B.g n).ev σ mk = some (.int y)) (hlen : l.length < lineN) (hr : Room A n) (X : EnvB cx env) (H : Hp B G s) (F : Fr cx env α oa ioa σ G s.heap)
    (h : After B cx env α ioa G s (σ.set i (.own (.dict (dput l y v)))) .next Q) : Wp B A (exec (.Assign [.Subscript (.Name x p1) k p2] e pos) env) Q s := by
  have hsz := szLine
  have hln := lineN_eq
  refine wpAny_Assign_Subscript (IH _ _ _ he hc σ v hv A env G s hr X H F.rd _ fun G1 s1 u x1 ru => ?_) (he.noSwap (ev_stuck hv) hcmp _ _ _)
  have F1 := F.ext ok H x1
  have z := F1.ent x i hx
  rw [hi] at z
  refine wpAny_Name (load_var X z.1 ?_) hd
  refine IH _ _ _ hk hc σ _ hy A env G1 s1 hr X x1.hp F1.rd _ fun G2 s2 w x2 rw' => ?_
  have F2 := F1.ext ok x1.hp x2
  have z2 := F2.ent x i hx
  rw [hi] at z2
  obtain ⟨a', kvs, e', hD, hkv⟩ := HeldD.dictOf (B := B) (OwnAt.held z2.2)
  cases e'
  have hkl := hkv.length
  obtain ⟨t, rfl⟩ := rw'.int_inv
  refine wpAny_setItem_pairs (intKind_is _ _ y t) hD (fun h' hD' hs' => ?_) (by lia)
  obtain ⟨nd1, nd2⟩ : (kvs.map (·.1)).Nodup ∧ True := ⟨by obtain ⟨o, es, ep, _, _, _, _, _, hn⟩ := hD; exact hn, trivial⟩
  have hkv' := dput_stored hkv nd1 (k := y) (ru.mono x2.le)
  have own' : OwnAt G2 h' (oa i) (.dict (dput l y v)) := OwnAt.ofDict (B := B) hD' hkv' (by have := dput_length l y v; lia)
  obtain ⟨x3, F3⟩ := F2.change (tk := s2.toks + 1) ok CF x2.hp hx hi own' hs'.2
  exact h G2 _ α oa .next ((((x1.trans x2).sx α)).trans x3 fun a ha => .inl ha) (fun a ha => .inl ha) F3 .next
theorem ret_s (ok : BaseOK B) (IH : ESpec B n (run B.g n).ev) (hc : cxOk B cx) {e : Expr} {me : ME} {pos : Pos} (he : T cx e me) {v : V} (hv : (run B.g n).ev σ me = some v) (hr : Room A n) (X : EnvB cx env) (H : Hp B G s) (F : Fr cx env α oa ioa σ G s.heap) (h : After B cx env α ioa G s σ (.ret v) Q) :
    Wp B A (exec (.Return (some e) pos) env) Q s := by
  show Wp B A (do standAt pos; return .ret (← eval e env)) Q s
  refine wpAny_bind (wpAny_standAt (wpAny_bind (IH _ _ _ he hc σ v hv A env G s hr X H F.rd _ fun G1 s1 u x1 ru => wpAny_pure ?_)))
  exact h G1 s1 α oa _ (x1.sx α) (fun a ha => .inl ha) (F.ext ok H x1) (.ret ru)
end
end Mine
namespace Mine
open PySem PySem.Calls
structure Item where
  x : Str
  p : Pos
  i : Nat
  own : Bool
  u : Value
  v : V
noncomputable def Item.ent (it : Item) : Ent := if it.own then .own it.v else .fz it.v
noncomputable def setItems (σ : Sig) (L : List Item) : Sig := L.foldl (fun σ it => σ.set it.i it.ent) σ
theorem setItems_len : ∀ (L : List Item) (σ : Sig), (setItems σ L).length = σ.length
  | [], _ => rfl
  | it :: L, σ => by
    show (setItems (σ.set it.i it.ent) L).length = _
    rw [setItems_len L, List.length_set]
theorem setItems_ne : ∀ (L : List Item) (σ : Sig) (j : Nat), (∀ it ∈ L, it.i ≠ j) → (setItems σ L)[j]? = σ[j]?
  | [], _, _, _ => rfl
  | it :: L, σ, j, h => by
    show (setItems (σ.set it.i it.ent) L)[j]? = _
    rw [setItems_ne L _ j fun q hq => h q (.tail _ hq), List.getElem?_set_ne (h it (.head _))]
theorem setItems_mem (L : List Item) (σ : Sig) (it : Item) (nd : (L.map (·.i)).Nodup) (h : it ∈ L) : (setItems σ L)[it.i]? = if it.i < σ.length then some it.ent else none := by
  induction L generalizing σ with
  | nil => exact nomatch h
  | cons it0 L ih =>
    obtain ⟨nd1, nd2⟩ := List.nodup_cons.mp nd
    show (setItems (σ.set it0.i it0.ent) L)[it.i]? = _
    rcases List.mem_cons.mp h with rfl | h
    · rw [setItems_ne L _ _ fun q hq (e : q.i = it.i) => nd1 (List.mem_map.2 ⟨q, hq, e⟩), List.getElem?_set, if_pos rfl]
    · rw [ih _ nd2 h, List.length_set]
theorem setItems_perm {L L' : List Item} (σ : Sig) (nd : (L.map (·.i)).Nodup) (nd' : (L'.map (·.i)).Nodup) (h : ∀ it, it ∈ L ↔ it ∈ L') : setItems σ L = setItems σ L' := by
  apply List.ext_getElem?
  intro j
  by_cases q : ∃ it ∈ L, it.i = j
  · obtain ⟨it, hit, rfl⟩ := q
    rw [setItems_mem L σ it nd hit, setItems_mem L' σ it nd' ((h it).mp hit)]
  · have q1 : ∀ it ∈ L, it.i ≠ j := fun it hit e => q ⟨it, hit, e⟩
    have q2 : ∀ it ∈ L', it.i ≠ j := fun it hit e => q ⟨it, (h it).mpr hit, e⟩
    rw [setItems_ne L σ j q1, setItems_ne L' σ j q2]
section
variable {B : Base} {n : Nat} {G G1 : GMap} {s s1 : Shared} {cx : Cx} {env : Env} {α α1 : Addr → Prop} {oa : Nat → Addr} {ioa : Addr} {σ σ' : Sig} {A : Around} {fl : Fl} {Q : Flow → Shared → Prop}
noncomputable def ItOK (G : GMap) (h : Heap) (P : Addr → Prop) (it : Item) : Prop := if it.own then ∃ a, it.u = .ref a ∧ OwnAt G h a it.v ∧ G a = none ∧ P a else Rep G it.u it.v
theorem storeItems (ok : BaseOK B) (X : EnvB cx env) (CF : CxF cx) (t : Item → Value → Sem Unit) {β : Addr → Prop} (hβ : ∀ x i a, cx.vars.lookup x = some i → SAt cx env x a → β a) : ∀ (L : List Item) (s : Shared) (α : Addr → Prop) (oa : Nat → Addr) (σ : Sig),
    (∀ it ∈ L, cx.vars.lookup it.x = some it.i ∧ (it.own = true → cx.io ≠ some it.i) ∧ ItOK G s.heap (fun a => ¬ α a) it) → (L.Pairwise fun p q => p.own = true → q.own = true → p.u ≠ q.u) →
    (∀ it ∈ L, ∀ (Q : Unit → Shared → Prop) (s : Shared), Wp B A (storeName env it.x it.u) Q s → Wp B A (t it it.u) Q s) → Hp B G s → Fr cx env α oa ioa σ G s.heap →
    ∀ Q : Unit → Shared → Prop, (∀ s' α' oa', SExt B β G s G s' → (∀ a, α' a → α a ∨ ∃ it ∈ L, it.own = true ∧ it.u = .ref a) → Fr cx env α' oa' ioa (setItems σ L) G s'.heap → Q () s') →
    Wp B A (assignInOrder (L.map t) (L.map (·.u))) Q s
  | [], s, α, oa, σ, _, _, _, H, F, Q, h => wpAny_pure (h s α oa (.refl H β) (fun a ha => .inl ha) F)
  | it :: L, s, α, oa, σ, hL, hp, ht, H, F, Q, h => by
    obtain ⟨hx, hio, hit⟩ := hL it (.head _)
    have hp' := List.pairwise_cons.mp hp
    show Wp B A (do holding (L.map (·.u)) (t it it.u); assignInOrder (L.map t) (L.map (·.u))) Q s
    refine wpAny_bind (wpAny_holding (ht it (.head _) _ _ ?_))
    by_cases ho : it.own = true
    · unfold ItOK at hit
      rw [if_pos ho] at hit
      obtain ⟨a, eu, hown, ga, na⟩ := hit
      rw [eu]
      refine F.storeOwn0 ok X CF H hx (fun q => absurd q (hio ho)) hown ga na fun s1 x1 F1 => ?_
      have e1 : setItems σ (it :: L) = setItems (σ.set it.i (.own it.v)) L := by
        show setItems (σ.set it.i it.ent) L = _
        unfold Item.ent; rw [if_pos ho]
      rw [e1] at h
      refine storeItems ok X CF t hβ L s1 _ _ _ (fun q hq => ?_) hp'.2 (fun q hq => ht q (.tail _ hq)) x1.hp F1 Q fun s2 α' oa' x2 h2 F2 => h s2 α' oa' ((x1.weaken fun b hb => .inl (hβ _ _ b hx hb)).trans x2 fun b hb => .inl hb) (fun b hb => ?_) F2
      · obtain ⟨k1, k2, k3⟩ := hL q (.tail _ hq)
        refine ⟨k1, k2, ?_⟩
        unfold ItOK at k3 ⊢
        by_cases qo : q.own = true
        · rw [if_pos qo] at k3 ⊢
          obtain ⟨b, eb, ob, gb, nb⟩ := k3
          have hne : b ≠ a := fun z => hp'.1 q hq ho qo (by rw [eu, eb, z])
          have kb : ∀ o, s.heap.get? b = some o → o.cls ≠ .none → s1.heap.get? b = some o := fun o e c => x1.keep ok H e c (fun z => nb (F.sat hx z))
          refine ⟨b, eb, ?_, gb, fun z => z.elim nb hne⟩
          obtain ⟨o1, e1, c1, _⟩ := ob.std; exact ob.at ((kb o1 e1 c1).trans e1.symm)
        · rw [if_neg qo] at k3 ⊢; exact k3
      · rcases h2 b hb with (hb | rfl) | ⟨q, hq, z⟩
        · exact .inl hb
        · exact .inr ⟨it, .head _, ho, eu⟩
        · exact .inr ⟨q, .tail _ hq, z⟩
    · unfold ItOK at hit
      rw [if_neg ho] at hit
      refine F.store0 ok X CF H hx hit fun s1 x1 F1 => ?_
      have e1 : setItems σ (it :: L) = setItems (σ.set it.i (.fz it.v)) L := by
        show setItems (σ.set it.i it.ent) L = _
        unfold Item.ent; rw [if_neg ho]
      rw [e1] at h
      refine storeItems ok X CF t hβ L s1 _ _ _ (fun q hq => ?_) hp'.2 (fun q hq => ht q (.tail _ hq)) x1.hp F1 Q fun s2 α' oa' x2 h2 F2 => h s2 α' oa' ((x1.weaken fun b hb => .inl (hβ _ _ b hx hb)).trans x2 fun b hb => .inl hb) (fun b hb => ?_) F2
      · obtain ⟨k1, k2, k3⟩ := hL q (.tail _ hq)
        refine ⟨k1, k2, ?_⟩
        unfold ItOK at k3 ⊢
        by_cases qo : q.own = true
        · rw [if_pos qo] at k3 ⊢
          obtain ⟨b, eb, ob, gb, nb⟩ := k3
          have kb : ∀ o, s.heap.get? b = some o → o.cls ≠ .none → s1.heap.get? b = some o := fun o e c => x1.keep ok H e c (fun z => nb (F.sat hx z))
          refine ⟨b, eb, ?_, gb, nb⟩
          obtain ⟨o1, e1, c1, _⟩ := ob.std; exact ob.at ((kb o1 e1 c1).trans e1.symm)
        · rw [if_neg qo] at k3 ⊢; exact k3
      · rcases h2 b hb with hb | ⟨q, hq, z⟩
        · exact .inl hb
        · exact .inr ⟨q, .tail _ hq, z⟩
end
end Mine
namespace Mine
open PySem PySem.Calls
section
variable {B : Base} {n : Nat} {G G1 : GMap} {s s1 : Shared} {cx : Cx} {env : Env} {α α1 : Addr → Prop} {oa : Nat → Addr} {ioa : Addr} {σ σ' : Sig} {A : Around} {fl : Fl} {Q : Flow → Shared → Prop}
theorem ItOK.ext (ok : BaseOK B) {G G' : GMap} {s s' : Shared} (H : Hp B G s) (x : Ext B G s G' s') {P P' : Addr → Prop} (hP : ∀ a, P a → P' a) {it : Item} (h : ItOK G s.heap P it) : ItOK G' s'.heap P' it := by
  unfold ItOK at h ⊢
  by_cases ho : it.own = true
  · rw [if_pos ho] at h ⊢
    obtain ⟨a, e, o, g, p⟩ := h
    obtain ⟨ob, eb, _⟩ := o.std
    exact ⟨a, e, o.ext ok H x, (x.new a ob eb).trans g, hP a p⟩
  · rw [if_neg ho] at h ⊢
    exact h.mono x.le
theorem ItOK.live {G : GMap} {h : Heap} {P : Addr → Prop} {it : Item} (hi : ItOK G h P it) (ho : it.own = true) : ∃ a o, it.u = .ref a ∧ h.get? a = some o := by
  unfold ItOK at hi
  rw [if_pos ho] at hi
  obtain ⟨a, e, o, g, p⟩ := hi
  obtain ⟨_, e2, _⟩ := o.std; exact ⟨a, _, e, e2⟩
noncomputable def ParK (B : Base) (cx : Cx) (G : GMap) (s : Shared) (ts : List Expr) (is : List (Nat × Bool)) (vs : List V) (Q : List Value → Shared → Prop) : Prop :=
  ∀ G' s' (L : List Item), Ext B G s G' s' → L.map (fun it => (it.i, it.own)) = is → L.map (·.v) = vs → ts = L.map (fun it => .Name it.x it.p) →
      (∀ it ∈ L, cx.vars.lookup it.x = some it.i ∧ (it.own = true → cx.io ≠ some it.i) ∧ ItOK G' s'.heap (fun a => s.heap.get? a = none) it) → (L.Pairwise fun p q => p.own = true → q.own = true → p.u ≠ q.u) → Q (L.map (·.u)) s'
theorem ItOK.back (ok : BaseOK B) {G G1 G2 : GMap} {s s1 s2 : Shared} (x1 : Ext B G s G1 s1) {it : Item} (k3 : ItOK G2 s2.heap (fun a => s1.heap.get? a = none) it) : ItOK G2 s2.heap (fun a => s.heap.get? a = none) it := by
  unfold ItOK at k3 ⊢
  by_cases qo : it.own = true
  · rw [if_pos qo] at k3 ⊢
    obtain ⟨a, e, o, g, p⟩ := k3
    exact ⟨a, e, o, g, (none_or ok (x1.sx fun _ => False) p).elim (fun f => f.elim) id⟩
  · rw [if_neg qo] at k3 ⊢; exact k3
theorem ItOK.apart {G1 G2 : GMap} {s s1 s2 : Shared} {P : Addr → Prop} {it q : Item} (hi : ItOK G1 s1.heap P it) (ho1 : it.own = true) (k3 : ItOK G2 s2.heap (fun a => s1.heap.get? a = none) q) (ho2 : q.own = true) : it.u ≠ q.u := fun z => by
  obtain ⟨a, ob, ea, eb⟩ := hi.live ho1
  unfold ItOK at k3
  rw [if_pos ho2] at k3
  obtain ⟨b, e, o, g, p⟩ := k3
  have z' := Value.ref.inj (ea.symm.trans (z.trans e))
  rw [z'] at eb
  exact nomatch (show none = some ob from p.symm.trans eb)
theorem par_list (ok : BaseOK B) (IHE : ∀ m, m ≤ n → ESpec B m (run B.g m).ev) (hc : cxOk B cx) (hr : Room A n) (X : EnvB cx env) (pos : Pos) {ts es : List Expr} {is : List (Nat × Bool)} {ms : List ME} (t : ParT cx ts es is ms) {vs : List V} (e : freshV σ (run B.g n).ev is ms = some vs)
    {G : GMap} {s : Shared} (H : Hp B G s) (R : Rd cx env σ G s.heap) {Q : List Value → Shared → Prop} (h : ParK B cx G s ts is vs Q) : Wp B A (spliced (backTo pos (starEach es env))) Q s := by
  induction is generalizing ts es ms vs G s Q with
  | nil =>
    obtain ⟨rfl, rfl, rfl⟩ := t
    exact wpAny_items_nil (h G s [] (.refl H) rfl (Option.some.inj e) rfl (fun _ h => (nomatch h)) .nil)
  | cons b is ih =>
    obtain ⟨x, p, e1, m, ts, es, ms, rfl, rfl, rfl, hx, he, ho, r⟩ := t
    unfold freshV at e
    set_option smartUnfolding false in refine mE e fun v hv e => ?_
    set_option smartUnfolding false in refine mE e fun vs' hvs e => ?_
    have cont : ∀ G1 s1 u, Ext B G s G1 s1 → ItOK G1 s1.heap (fun a => s.heap.get? a = none) ⟨x, p, b.1, b.2, u, v⟩ → Wp B A (spliced (backTo pos (starEach es env))) (fun us s2 => Q (u :: us) s2) s1 := fun G1 s1 u x1 hi => by
      refine ih r hvs x1.hp (R.ext ok H x1) fun G2 s2 L x2 e1 e2 e3 hL hp => ?_
      refine h G2 s2 (⟨x, p, b.1, b.2, u, v⟩ :: L) (x1.trans x2) (by rw [List.map_cons, e1]) (by rw [List.map_cons, e2]; exact Option.some.inj e) (by rw [List.map_cons, e3]) (fun it hit => ?_) (List.pairwise_cons.mpr ⟨fun q hq ho1 ho2 => hi.apart (s := s) ho1 (hL q hq).2.2 ho2, hp⟩)
      rcases List.mem_cons.mp hit with rfl | hit
      · exact ⟨hx, fun z => (ho z).2, hi.ext ok x1.hp x2 fun a ha => ha⟩
      · obtain ⟨k1, k2, k3⟩ := hL it hit
        exact ⟨k1, k2, k3.back ok x1⟩
    obtain ⟨i, own⟩ := b
    induction own using Bool.casesOn with
    | true =>
      obtain ⟨hm, hio⟩ := ho rfl
      have hcc : isComp e1 = false ∧ isTup e1 = false := by induction e1 using PySem.Expr.casesOn <;> first | exact ⟨rfl, rfl⟩ | exact nomatch hm
      exact wpAny_items_cons (fresh_spec ok IHE hc (.val he hcc.1 hcc.2) hm hv hr X H R fun G1 s1 a x1 ho1 ga na => cont G1 s1 (.ref a) x1 ⟨a, rfl, ho1, ga, na⟩) (he.notStar _ _)
    | false =>
      exact wpAny_items_cons (IHE n (Nat.le_refl n) _ _ _ he hc σ v hv A env G s hr X H R _ fun G1 s1 u x1 ru => cont G1 s1 u x1 ru) (he.notStar _ _)
theorem ParT.len {ts es : List Expr} {is : List (Nat × Bool)} {ms : List ME} (t : ParT cx ts es is ms) : ts.length = es.length := by
  induction is generalizing ts es ms with
  | nil => obtain ⟨rfl, rfl, _⟩ := t; rfl
  | cons b is ih => obtain ⟨_, _, _, _, _, _, _, rfl, rfl, _, _, _, _, r⟩ := t; exact congrArg (· + 1) (ih r)
theorem setsB_items : ∀ (L : List Item) (σ : Sig), setsB σ (L.map fun it => (it.i, it.own)) (L.map (·.v)) = some (setItems σ L)
  | [], _ => rfl
  | it :: L, σ => by
    show setsB (σ.set it.i (if it.own then .own it.v else .fz it.v)) (L.map fun it => (it.i, it.own)) (L.map (·.v)) = _
    rw [setsB_items L]; rfl
theorem filterMap_names (f : Expr → Option Str) (hf : ∀ x p, f (.Name x p) = some x ∨ f (.Name x p) = none) (nm : List (Str × Pos)) :
    ((nm.map fun x => Expr.Name x.1 x.2).filterMap f).length ≤ nm.length ∧ (((nm.map fun x => Expr.Name x.1 x.2).filterMap f).length = nm.length → (nm.map fun x => Expr.Name x.1 x.2).filterMap f = nm.map (·.1)) := by
  induction nm with
  | nil => exact ⟨Nat.le_refl _, fun _ => rfl⟩
  | cons x nm ih =>
    rw [List.map_cons, List.filterMap_cons]
    rcases hf x.1 x.2 with q | q <;> rw [q] <;> dsimp only
    · refine ⟨by simpa using ih.1, fun h => ?_⟩
      rw [ih.2 (by simpa using h), List.map_cons]
    · refine ⟨Nat.le_succ_of_le ih.1, fun h => ?_⟩
      have := ih.1
      rw [List.length_cons] at h
      lia
set_option tactic.hygienic true in
theorem swapped_cases {ts es : List Expr} {k1 k2 : Nat} {p1 p2 : Pos} {nm : List (Str × Pos)} (hts : ts = nm.map (fun x => .Name x.1 x.2)) (hsw : (es.all (foldedForSure 8) || !es.all (constantsAlone 8)) = true) :
    swappedStores [.Tuple ts k1 p1] (.Tuple es k2 p2) env = pure none ∨ swappedStores [.Tuple ts k1 p1] (.Tuple es k2 p2) env = pure (some (nm.map (·.1))) := by
  have lt : ts.length = nm.length := by rw [hts, List.length_map]
  unfold swappedStores
  simp only [pure_bind]
  split
  · exact .inl rfl
  · split
    · exact .inl rfl
    · split
      · exact .inl rfl
      · rename_i h3
        simp only [Bool.or_eq_true, bne_iff_ne, ne_eq, not_or, Decidable.not_not] at h3
        split
        · exact .inl rfl
        · rename_i h5
          have h6 : es.all (constantsAlone 8) = false := by
            cases q : es.all (constantsAlone 8) with
            | false => rfl
            | true =>
              rw [q] at hsw
              simp only [Bool.not_true, Bool.or_false] at hsw
              exact absurd hsw h5
          rw [h6]
          right
          have h4 := h3.1
          rw [hts] at h4 ⊢
          rw [List.length_map] at h4
          simp only [Bool.false_eq_true, if_false]
          rw [(filterMap_names _ (fun x p => ?_) nm).2 h4]
          dsimp only
          split
          · exact .inl rfl
          · exact .inr rfl
theorem each_items (L : List Item) (env : Env) : (assignEach (L.map fun it => .Name it.x it.p) env).map (·.2) = L.map fun it => assign (.Name it.x it.p) env := by
  induction L with
  | nil => rfl
  | cons it L ih =>
    show assign (.Name it.x it.p) env :: (assignEach (L.map fun it => .Name it.x it.p) env).map (·.2) = _
    rw [ih]; rfl
theorem par_s (ok : BaseOK B) (IHE : ∀ m, m ≤ n → ESpec B m (run B.g m).ev) (hc : cxOk B cx) (CF : CxF cx) {ts es : List Expr} {k1 k2 : Nat} {p1 p2 pos : Pos} {is : List (Nat × Bool)} {ms : List ME} (hp : ParT cx ts es is ms) (hn : (is.map (·.1)).Nodup) (hz : es.length ≤ 1000)
    (hsw : (es.all (foldedForSure 8) || !es.all (constantsAlone 8)) = true) {vs : List V} (hv : freshV σ (run B.g n).ev is ms = some vs) (hs : setsB σ is vs = some σ') (hr : Room A n) (X : EnvB cx env) (H : Hp B G s) (F : Fr cx env α oa ioa σ G s.heap)
    (h : After B cx env α ioa G s σ' .next Q) : Wp B A (exec (.Assign [.Tuple ts k1 p1] (.Tuple es k2 p2) pos) env) Q s := by
  have hsz := szLine
  rw [exec_Assign_arm]
  refine wpAny_bind (wpAny_standAt ?_)
  have e0 : swapsWithSole [.Tuple ts k1 p1] (.Tuple es k2 p2) pos.line env = pure false := rfl
  rw [e0]
  refine wpAny_bind (wpAny_pure ?_)
  rw [if_neg (by decide)]
  refine wpAny_bind (wpAny_Tuple (par_list ok IHE hc hr X p2 hp hv H F.rd fun G1 s1 L x1 e1 e2 e3 hL hpw => ?_))
  have hlen : L.length = es.length := by rw [← hp.len, e3, List.length_map]
  have hlu : (L.map (·.u)).length = L.length := List.length_map ..
  refine ⟨by lia, ?_⟩
  generalize hs2 : ({ s1 with heap := s1.heap.push { cls := .type "tuple", data := .seq (L.map (·.u)).toArray } } : Shared) = s2
  have x2 : Ext B G s G1 s2 := by rw [← hs2]; exact x1.trans (Ext.grown (tk := s1.toks) ok x1.hp fun _ _ e => Heap.get?_push_of_some _ e)
  have hT : s2.heap.IsTuple s1.heap.objs.size (L.map (·.u)).toArray := by rw [← hs2]; exact ⟨_, Heap.get?_push_size _ rfl, rfl, 0, rfl⟩
  have nd : (L.map (·.i)).Nodup := by
    have : L.map (·.i) = is.map (·.1) := by rw [← e1, List.map_map]; rfl
    rw [this]; exact hn
  have hσ : σ' = setItems σ L := by
    rw [← e1, ← e2, setsB_items] at hs
    exact (Option.some.inj hs).symm
  have hx12 : Ext B G1 s1 G1 s2 := by rw [← hs2]; exact Ext.grown (tk := s1.toks) ok x1.hp fun _ _ e => Heap.get?_push_of_some _ e
  have nα : ∀ a, s.heap.get? a = none → ¬ α a := fun a ha q => by
    obtain ⟨_, o, e, _⟩ := F.priv a q
    rw [ha] at e; cases e
  have fin : ∀ (L' : List Item) (s3 : Shared) (t : Item → Value → Sem Unit), Ext B G1 s2 G1 s3 → (∀ it, it ∈ L ↔ it ∈ L') → (L'.map (·.i)).Nodup → (L'.Pairwise fun p q => p.own = true → q.own = true → p.u ≠ q.u) →
      (∀ it ∈ L', ∀ (Q : Unit → Shared → Prop) (s : Shared), Wp B A (storeName env it.x it.u) Q s → Wp B A (t it it.u) Q s) → Wp B A (assignInOrder (L'.map t) (L'.map (·.u))) (fun _ => Q .next) s3 := fun L' s3 t x3 hm nd' hpw' ht => by
    have x23 := x2.trans x3
    refine storeItems ok X CF t (β := α) (fun x i a hx ha => F.sat hx ha) L' s3 α oa σ (fun it hit => ?_) hpw' ht x23.hp (F.ext ok H x23) _ fun s4 α' oa' x4 h4 F4 => ?_
    · obtain ⟨k1, k2, k3⟩ := hL it ((hm it).mpr hit)
      exact ⟨k1, k2, (k3.ext ok x1.hp (hx12.trans x3) fun a ha => nα a ha)⟩
    · refine h G1 s4 α' oa' .next ((x23.sx α).trans x4 fun a ha => .inl ha) (fun a ha => ?_) ?_ .next
      · rcases h4 a ha with q | ⟨it, hit, ho, e⟩
        · exact .inl q
        · obtain ⟨_, _, k3⟩ := hL it ((hm it).mpr hit)
          unfold ItOK at k3
          rw [if_pos ho] at k3
          obtain ⟨b, eb, _, _, nb⟩ := k3
          rw [e] at eb; cases eb
          exact .inr nb
      · rw [hσ, setItems_perm σ nd nd' hm]; exact F4
  have hnm : L.map (fun it => Expr.Name it.x it.p) = (L.map fun it => (it.x, it.p)).map fun x => .Name x.1 x.2 := by rw [List.map_map]; rfl
  rcases swapped_cases (env := env) (k1 := k1) (k2 := k2) (p1 := p1) (p2 := p2) (e3.trans hnm) hsw with q | q <;> rw [q] <;> refine wpAny_bind (wpAny_pure ?_)
  · show Wp B A (do assign (.Tuple ts k1 p1) env (.ref s1.heap.objs.size); pure .next) Q s2
    refine wpAny_bind ?_
    rw [e3, hnm]
    obtain ⟨n1, n2⟩ := assignEach_names (L.map fun it => (it.x, it.p)) env
    refine wpAny_assign_Tuple hr.handled hT (by rw [n1]; simp) n2 fun h3 hs3 => ?_
    have x3 : Ext B G1 s2 G1 { s2 with heap := h3, toks := s2.toks } := Ext.grown ok x2.hp fun b o e => hs3 b o (Nat.ne_of_lt (Heap.lt_size e)) e
    rw [← hnm, each_items]
    refine wpAny_mono (fin L { s2 with heap := h3 } (fun it => assign (.Name it.x it.p) env) x3 (fun it => Iff.rfl) nd hpw fun it hit Q s hq => wpAny_assign_Name hq) (fun _ s4 hq => wpAny_pure hq) fun _ _ f => f
  · unfold assignStores
    dsimp only
    refine wpAny_bind (wpAny_rule (wpAny_bind ?_))
    have en : ((L.map fun it => (it.x, it.p)).map (·.1)).length = (L.map (·.u)).toArray.size := by simp
    rw [en]
    refine wpAny_unpackItems_tuple hr.handled hT fun h3 hs3 => ?_
    have x3 : Ext B G1 s2 G1 { s2 with heap := h3, toks := s2.toks } := Ext.grown ok x2.hp fun b o e => hs3 b o (Nat.ne_of_lt (Heap.lt_size e)) e
    have e5 : (((L.map fun it => (it.x, it.p)).map (·.1)).reverse.map fun n => bindName env n) = L.reverse.map fun it => bindName env it.x := by
      rw [List.map_map, ← List.map_reverse, List.map_map]; rfl
    have e6 : (L.map (·.u)).toArray.toList.reverse = L.reverse.map (·.u) := by simp
    rw [e5, e6]
    refine wpAny_bind (wpAny_mono (fin L.reverse { s2 with heap := h3 } (fun it => bindName env it.x) x3 (fun it => List.mem_reverse.symm) (by rw [List.map_reverse]; exact List.pairwise_reverse.mpr (List.Pairwise.imp (fun h => Ne.symm h) nd)) (List.pairwise_reverse.mpr (hpw.imp fun {a b} hab h1 h2 q => hab h2 h1 q.symm)) fun it hit Q s hq => wpAny_bindName hq) (fun _ s4 hq => wpAny_pure hq) fun _ _ f => f)
end
end Mine
namespace Mine
open PySem PySem.Calls
section
variable {B : Base} {n : Nat} {G G1 : GMap} {s s1 : Shared} {cx : Cx} {env : Env} {α α1 : Addr → Prop} {oa : Nat → Addr} {ioa : Addr} {σ σ' : Sig} {A : Around} {fl : Fl} {Q : Flow → Shared → Prop}
theorem Fr.congr {h : Heap} (F : Fr cx env α oa ioa σ G h) (e : ∀ i, σ'.at i = σ.at i) : Fr cx env α oa ioa σ' G h where
  ent := fun x i hx => by rw [e]; exact F.ent x i hx
  up := F.up
  wat := F.wat
  own := fun x i v hx hi => F.own x i v hx (by rw [← e]; exact hi)
  inj := fun x y i j v w hx hy hi hj => F.inj x y i j v w hx hy (by rw [← e]; exact hi) (by rw [← e]; exact hj)
  priv := F.priv
  io := fun x i v hx hio hi => F.io x i v hx hio (by rw [← e]; exact hi)
theorem OwnAt.obj {h : Heap} {a : Addr} {v : V} (o : OwnAt G h a v) : ∃ ob, h.get? a = some ob ∧ ob.cls ≠ .none ∧ ∀ G', G.le G' → G' a = some ob → Rep G' (.ref a) v := by
  induction v using Mine.V.casesOn <;> first | exact o.elim | skip
  · obtain ⟨vs, m, e, r, z⟩ := o
    exact ⟨_, e, (by intro q; cases q), fun G' k g => .list g (r.mono k) z⟩
  · obtain ⟨vs, m, e, r, z⟩ := o
    exact ⟨_, e, (by intro q; cases q), fun G' k g => .dict g (r.mono k) z⟩
theorem freeze_s (ok : BaseOK B) (CF : CxF cx) (H : Hp B G s) (F : Fr cx env α oa ioa σ G s.heap) {x : Str} {i : Nat} (hx : cx.vars.lookup x = some i) {v : V} (hi : σ.at i = .own v) :
    ∃ G', SExt B α G s G' s ∧ Fr cx env (fun a => α a ∧ a ≠ oa i) oa ioa (σ.set i (.fz v)) G' s.heap := by
  have z := F.ent x i hx
  rw [hi] at z
  obtain ⟨rd, hown⟩ := z
  obtain ⟨ob, eo, hc, hrep⟩ := hown.obj
  obtain ⟨ha, hne⟩ := F.own x i v hx hi
  have g0 := (F.priv _ ha).1
  have le : G.le (G.add (oa i) ob) := GMap.le_add (.inl g0)
  refine ⟨G.add (oa i) ob, SExt.add ok H (.refl H α) eo hc (.inr ha), ⟨fun y j hy => ?_, F.up, fun y j hy => ?_, fun y j w hy hj => ?_, fun y z j l w1 w2 hy hz hj hl e => ?_, fun a haa => ?_, fun y j w hy hio hj => ?_⟩⟩
  · by_cases q : y = x
    · subst q
      rw [hx] at hy; cases hy
      rcases Sig.set_or σ i (.fz v) with q | q <;> rw [q]
      · exact ⟨_, rd, hrep _ le (GMap.add_at _ _ _)⟩
      · trivial
    · have hji : j ≠ i := fun z => q (CF y x i (z ▸ hy) hx)
      rw [Sig.set_ne _ _ hji]
      have z := F.ent y j hy
      cases e : σ.at j with
      | un => trivial
      | fz w => rw [e] at z; obtain ⟨u, a, b⟩ := z; exact ⟨u, a, b.mono le⟩
      | own w => rw [e] at z; exact ⟨z.1, z.2.mono le⟩
  · obtain ⟨b, wb, hb⟩ := F.wat y j hy
    exact ⟨b, wb, hb, hne y j b hy wb.sat⟩
  · have hji : j ≠ i := fun z => by
      subst z
      rcases Sig.set_or σ j (.fz v) with q | q <;> rw [q] at hj <;> cases hj
    rw [Sig.set_ne _ _ hji] at hj
    exact ⟨⟨(F.own y j w hy hj).1, fun q => hji (F.inj y x j i w v hy hx hj hi q)⟩, (F.own y j w hy hj).2⟩
  · have hji : j ≠ i := fun z => by
      subst z
      rcases Sig.set_or σ j (.fz v) with q | q <;> rw [q] at hj <;> cases hj
    have hli : l ≠ i := fun z => by
      subst z
      rcases Sig.set_or σ l (.fz v) with q | q <;> rw [q] at hl <;> cases hl
    rw [Sig.set_ne _ _ hji] at hj
    rw [Sig.set_ne _ _ hli] at hl
    exact F.inj y z j l w1 w2 hy hz hj hl e
  · obtain ⟨g, o, e, st⟩ := F.priv a haa.1
    exact ⟨by rw [G.add_ne _ haa.2]; exact g, o, e, st⟩
  · have hji : j ≠ i := fun z => by
      subst z
      rcases Sig.set_or σ j (.fz v) with q | q <;> rw [q] at hj <;> cases hj
    rw [Sig.set_ne _ _ hji] at hj
    exact F.io y j w hy hio hj
end
end Mine
namespace Mine
open PySem PySem.Calls
noncomputable def IOSpec (B : Base) (n : Nat) (callIO : Nat → List V → Nat → Option (V × V)) : Prop :=
  ∀ x f vs io v b, B.fid x = some f → callIO f vs io = some (v, b) → ∀ (A : Around) (G : GMap) (s : Shared) (us : List Value) (a : Addr), Room A n → Hp B G s → G a = none → us.length = vs.length →
    (∀ k u w, us[k]? = some u → vs[k]? = some w → (k ≠ io → Rep G u w) ∧ (k = io → u = .ref a ∧ OwnAt G s.heap a w)) →
    ∀ Q : Value → Shared → Prop, (∀ G' s' u, SExt B (· = a) G s G' s' → OwnAt G' s'.heap a b → G' a = none → Rep G' u v → Q u s') → Wp B A (PySem.call (.ref (B.fa f)) us) Q s
structure All (B : Base) (n : Nat) : Prop where
  ev : ESpec B n (run B.g n).ev
  bs : BSpec B n (run B.g n).ev
  ex : SSpec B n (run B.g n).ex
  call : CallSpec B n (run B.g n).call
  io : IOSpec B n (run B.g n).callIO
section
variable {B : Base} {n : Nat} {G G1 : GMap} {s s1 : Shared} {cx : Cx} {env : Env} {α α1 : Addr → Prop} {oa : Nat → Addr} {ioa : Addr} {σ σ' : Sig} {A : Around} {fl : Fl} {Q : Flow → Shared → Prop}
theorem ifs_s (ok : BaseOK B) (I : All B n) (hc : cxOk B cx) (CF : CxF cx) {c : Expr} {mc : ME} {a b : List Stmt} {ma mb : List MS} {pos : Pos} (tc : T cx c mc) (ta : TS cx a ma) (tb : TS cx b mb)
    {x : V} {t : Bool} (hx : (run B.g n).ev σ mc = some x) (ht : x.truthy = some t) (he : (run B.g n).ex σ (if t then ma else mb) = some (fl, σ')) (hr : Room A n) (X : EnvB cx env) (H : Hp B G s) (F : Fr cx env α oa ioa σ G s.heap)
    (h : After B cx env α ioa G s σ' fl Q) : Wp B A (exec (.If c a b pos) env) Q s := by
  refine wpAny_If (I.bs _ _ _ tc hc σ x t hx ht A env G s hr X H F.rd _ fun G1 s1 x1 => ?_)
  have F1 := F.ext ok H x1
  have h1 := h.step ok (x1.sx α) (α1 := α) fun a ha => .inl ha
  induction t using Bool.casesOn with
  | true =>
    rw [if_pos rfl] at he ⊢
    exact I.ex _ _ _ ta hc CF σ fl σ' he A env G1 s1 α oa ioa hr X x1.hp F1 Q h1
  | false =>
    rw [if_neg (by decide)] at he ⊢
    exact I.ex _ _ _ tb hc CF σ fl σ' he A env G1 s1 α oa ioa hr X x1.hp F1 Q h1
theorem Fr.draw (ok : BaseOK B) {s' : Shared} {G' : GMap} (H : Hp B G s) (F : Fr cx env α oa ioa σ G s.heap) {β : Addr → Prop} (x : SExt B β G s G' s') (nw : ∀ a, α a → ¬ β a) (hup : ∀ y c, isCellish (cx.scope.names.lookup y) = true → env.cells.lookup y = some c → ¬ β c) :
    Fr cx env α oa ioa σ G' s'.heap := by
  have kb : ∀ a, α a → s'.heap.get? a = s.heap.get? a ∧ G' a = none := fun a ha => by
    obtain ⟨g, ob, e, so⟩ := F.priv a ha
    exact ⟨(x.grow a ob e (H.nottabS ok e so) (nw a ha)).trans e.symm, (x.new a ob e (nw a ha)).trans g⟩
  have rdk : ∀ y j w, cx.vars.lookup y = some j → Reads1 cx env s.heap y w → Reads1 cx env s'.heap y w := fun y j w hy r => by
    obtain ⟨a, wa, ha⟩ := F.wat y j hy
    rcases r with ⟨q1, m, q2, q3⟩ | ⟨q1, c, q2, q3⟩
    · have e := wa.sat.uniq (.inl ⟨q1, rfl⟩)
      subst e
      obtain ⟨o, es, ep, e, r⟩ := q2
      exact .inl ⟨q1, m, ⟨o, es, ep, (kb _ ha).1.trans e, r⟩, q3⟩
    · exact .inr ⟨q1, c, q2, x.keep ok H q3 (by intro q; cases q) (hup y c q1 q2)⟩
  refine ⟨fun y j hy => ?_, fun y c h1 h2 => ?_, fun y j hy => ?_, F.own, F.inj, fun a ha => ?_, F.io⟩
  · have z := F.ent y j hy
    cases q : σ.at j with
    | un => trivial
    | fz w => rw [q] at z; obtain ⟨u, a, b⟩ := z; exact ⟨u, rdk y j u hy a, b.mono x.le⟩
    | own w =>
      rw [q] at z
      refine ⟨rdk y j _ hy z.1, ?_⟩
      have e := (kb _ (F.own y j w hy q).1).1
      have o := z.2.mono x.le
      exact o.at (e)
  · obtain ⟨v, e⟩ := F.up y c h1 h2
    exact ⟨v, x.keep ok H e (by intro q; cases q) (hup y c h1 h2)⟩
  · obtain ⟨a, wa, ha⟩ := F.wat y j hy
    refine ⟨a, ?_, ha⟩
    rcases wa with ⟨q1, q2, m, o, es, ep, e, r⟩ | ⟨q1, q2, v, e⟩
    · exact .inl ⟨q1, q2, m, o, es, ep, (kb _ ha).1.trans e, r⟩
    · exact .inr ⟨q1, q2, v, (kb _ ha).1.trans e⟩
  · obtain ⟨g, ob, e, so⟩ := F.priv a ha
    exact ⟨(kb a ha).2, ob, (kb a ha).1.trans e, so⟩
theorem while_code (ok : BaseOK B) (hc : cxOk B cx) (CF : CxF cx) {c : Expr} {mc : ME} {b : List Stmt} {mb : List MS} (tc : T cx c mc) (tb : TS cx b mb) (X : EnvB cx env) : ∀ (n : Nat), (∀ m, m ≤ n → All B m) → ∀ {σ σ' : Sig} {fl : Fl}, exStep (run B.g n) σ (.while' mc mb) = some (fl, σ') →
    ∀ {A : Around} {G : GMap} {s : Shared} {α : Addr → Prop} {oa : Nat → Addr}, Room A n → Hp B G s → Fr cx env α oa ioa σ G s.heap → ∀ {Q : Flow → Shared → Prop}, After B cx env α ioa G s σ' fl Q →
    codeAny (model B.prog B.w) A (.whileLoop c b [] env) (fun r s' => match r with | .ok f => Q f s' | .error _ => False) s := by
  intro n
  induction n with
  | zero => intro _ σ σ' fl e; cases e
  | succ n ih =>
    intro IA σ σ' fl e A G s α oa hr H F Q h
    have I := IA (n + 1) (Nat.le_refl _)
    refine codeAny_of_tree ?_
    show wpAny _ A ((whileTurn c b [] env).onRaise (fun x => do noteFrame x env; theTreesLotGoes x)) _ _ s
    refine wpAny_noted ?_
    unfold whileTurn
    set_option smartUnfolding false in refine mE e fun x hx e => ?_
    set_option smartUnfolding false in refine mB e (fun ht e => ?_) (fun ht e => ?_)
    · refine wpAny_bind (wpAny_mono (I.bs _ _ _ tc hc σ x true hx ht A env G s hr X H F.rd _ fun G1 s1 x1 => ?_) (fun t s1 q => q) fun _ _ f => f.elim)
      have F1 := F.ext ok H x1
      refine mF3 e (fun σ1 hb e => ?_) (fun σ1 hb e => ?_) (fun v σ1 hb e => ?_)
      · refine wpAny_bind (wpAny_mono (I.ex _ _ _ tb hc CF σ .next σ1 hb A env G1 s1 α oa ioa hr X x1.hp F1 _ fun G2 s2 α2 oa2 f x2 h2 F2 k => ?_) (fun f s2 q => q) fun _ _ f => f.elim)
        obtain rfl := k
        refine wpAny_pure ⟨rfl, ?_⟩
        have h3 : After B cx env α2 ioa G2 s2 σ' fl Q := h.step ok ((x1.sx α).trans x2 fun a ha => .inl ha) fun a ha => (h2 a ha).elim .inl fun q => (none_or ok (x1.sx α) q)
        have e' : exStep (run B.g n) σ1 (.while' mc mb) = some (fl, σ') := by
          replace e : exsStep (run B.g n) σ1 [.while' mc mb] = some (fl, σ') := e
          unfold exsStep at e
          exact mFl e (fun _ q e => Option.some.inj e ▸ q) (fun _ _ q e => e ▸ q)
        exact ih (fun m hm => IA m (Nat.le_succ_of_le hm)) e' (hr.less (Nat.le_succ n)) x2.hp F2 h3
      · refine wpAny_bind (wpAny_mono (I.ex _ _ _ tb hc CF σ .brk _ hb A env G1 s1 α oa ioa hr X x1.hp F1 _ fun G2 s2 α2 oa2 f x2 h2 F2 k => ?_) (fun f s2 q => q) fun _ _ f => f.elim)
        obtain rfl := k
        exact wpAny_pure (((h.of2 e).step ok (x1.sx α) (α1 := α) fun a ha => .inl ha) G2 s2 α2 oa2 .next x2 h2 F2 .next)
      · refine wpAny_bind (wpAny_mono (I.ex _ _ _ tb hc CF σ (.ret v) _ hb A env G1 s1 α oa ioa hr X x1.hp F1 _ fun G2 s2 α2 oa2 f x2 h2 F2 k => ?_) (fun f s2 q => q) fun _ _ f => f.elim)
        obtain ⟨u, rfl, rv⟩ := k
        exact wpAny_pure (((h.of2 e).step ok (x1.sx α) (α1 := α) fun a ha => .inl ha) G2 s2 α2 oa2 _ x2 h2 F2 (.ret rv))
    · refine wpAny_bind (wpAny_mono (I.bs _ _ _ tc hc σ x false hx ht A env G s hr X H F.rd _ fun G1 s1 x1 => ?_) (fun t s1 q => q) fun _ _ f => f.elim)
      exact wpAny_bind (wpAny_execs_nil (wpAny_pure ((h.of2 e) G1 s1 α oa .next (x1.sx α) (fun a ha => .inl ha) (F.ext ok H x1) .next)))
theorem while_s (ok : BaseOK B) (IA : ∀ m, m ≤ n → All B m) (hc : cxOk B cx) (CF : CxF cx) {c : Expr} {mc : ME} {b : List Stmt} {mb : List MS} {pos : Pos} (tc : T cx c mc) (tb : TS cx b mb) (he : exStep (run B.g n) σ (.while' mc mb) = some (fl, σ'))
    (hr : Room A n) (X : EnvB cx env) (H : Hp B G s) (F : Fr cx env α oa ioa σ G s.heap) (h : After B cx env α ioa G s σ' fl Q) : Wp B A (exec (.While c b [] pos) env) Q s :=
  wpAny_While (codeAny_mono (while_code ok hc CF tc tb X n IA he hr H F h) fun r s' q => by induction r using Except.casesOn <;> first | exact q | exact q.elim)
theorem for_s (ok : BaseOK B) (I : All B n) (hc : cxOk B cx) (CF : CxF cx) {t it : Expr} {mt : Tgt} {k : Itk} {ms : List ME} {b o : List Stmt} {mb mo : List MS} {pos : Pos} (ht : TT cx t mt) (hk : tgtOk k t = true) (hi : TI cx it k ms) (tb : TS cx b mb) (to : TS cx o mo)
    {vs l : List V} (hv : evL (run B.g n).ev σ ms = some vs) (hl : iterV k vs = some l) (he : forV (run B.g n).ex mt mb mo l σ = some (fl, σ'))
    (hr : Room A n) (X : EnvB cx env) (H : Hp B G s) (F : Fr cx env α oa ioa σ G s.heap) (h : After B cx env α ioa G s σ' fl Q) : Wp B A (exec (.For t it b o pos) env) Q s := by
  refine wpAny_For (iter_spec ok I.ev hc X hr hi hv hl H F.rd fun G2 s2 Ia wr St x2 Iw wr2 st2 hlen => ?_) (fun x => hi.notSet env x)
  refine codeAny_mono (R := fun r s' => match r with | .ok f => Q f s' | .error _ => False) ?_ fun r s' q => by induction r using Except.casesOn <;> first | exact q | exact q.elim
  refine codeAny_forLoop_any (fun kk s' => ∃ i G' σi αi oai, SExt B α G s G' s' ∧ (∀ a, αi a → α a ∨ s.heap.get? a = none) ∧ (∀ b ∈ wr, ¬ αi b ∧ G' b = none) ∧ G2.le G' ∧ St i s'.heap ∧ Fr cx env αi oai ioa σi G' s'.heap ∧ i ≤ l.length ∧ kk = l.length - i ∧
    forV (run B.g n).ex mt mb mo (l.drop i) σi = some (fl, σ')) ?_ l.length
    ⟨0, G2, σ, α, oa, x2.sx α, fun a ha => .inl ha, fun b hb => ⟨(fun ha => by
      obtain ⟨_, o, e, _⟩ := F.priv b ha
      rw [Iw.fresh b hb] at e
      cases e), wr2 b hb⟩, .refl _, st2, F.ext ok H x2, Nat.zero_le _, by omega, he⟩
  rintro kk s' ⟨i, G', σi, αi, oai, x', hα, hwr, hle, st, Fi, hil, rfl, hfor⟩
  by_cases hlt : i < l.length
  · have hx : l[i]? = some l[i] := List.getElem?_eq_getElem hlt
    rw [List.drop_eq_getElem_cons hlt] at hfor
    unfold forV at hfor
    set_option smartUnfolding false in refine mE hfor fun σ2 hput hfor => ?_
    refine wpAny_mono (Q := fun r s1 => ∃ v, r = some v ∧ Wp B A (letOwnedTupleGo t (.ref Ia) v) (fun _ s2 => ∃ G3, SExt B (· ∈ wr) G' s' G3 s2 ∧ St (i + 1) s2.heap ∧ (∀ b ∈ wr, G3 b = none) ∧ Rep G3 v l[i]) s1) (wpAny_mono (Iw.next i G' s' l[i] t (fun v s2 => ∃ G3, SExt B (· ∈ wr) G' s' G3 s2 ∧ St (i + 1) s2.heap ∧ (∀ b ∈ wr, G3 b = none) ∧ Rep G3 v l[i]) hx x'.hp hle (fun b hb => (hwr b hb).2) st hk ht.shape fun G3 s3 u x3 st3 wr3 ru => ⟨G3, x3, st3, wr3, ru⟩) (fun r s1 q => q) fun _ _ f => f) (fun r s1 q => ?_) fun _ _ f => f.elim
    obtain ⟨v, rfl, hgo⟩ := q
    refine wpAny_mono hgo (fun _ s3 q => ?_) fun _ _ f => f.elim
    obtain ⟨G3, x3, st3, wr3, ru⟩ := q
    have wfr : ∀ b, b ∈ wr → s.heap.get? b = none := Iw.fresh
    have x03 : SExt B α G s G3 s3 := x'.trans x3 fun a ha => .inr (wfr a ha)
    have hupw : ∀ y c, isCellish (cx.scope.names.lookup y) = true → env.cells.lookup y = some c → c ∉ wr := fun y c h1 h2 q => by
      obtain ⟨v0, e0⟩ := F.up y c h1 h2
      rw [wfr c q] at e0; cases e0
    have F3 : Fr cx env αi oai ioa σi G3 s3.heap := Fi.draw ok x'.hp x3 (fun a ha q => (hwr a q).1 ha) hupw
    refine wpAny_mono (put_spec (Q := fun _ s4 => SExt B αi G3 s3 G3 s4 ∧ Fr cx env αi oai ioa σ2 G3 s4.heap) ok X CF hr.handled ht hput x3.hp F3 ru fun s4 x4 F4 => ⟨x4, F4⟩) (fun _ s4 q => ?_) fun _ _ f => f.elim
    obtain ⟨x4, F4⟩ := q
    have x04 : SExt B α G s G3 s4 := x03.trans x4 hα
    have live : ∀ b, b ∈ wr → ∃ o, s4.heap.get? b = some o ∧ o.cls ≠ .none := fun b hb => by
      obtain ⟨o, e, c⟩ := Iw.live _ _ st3 b hb
      exact ⟨o, x4.keep ok x3.hp e c (hwr b hb).1, c⟩
    have keepSt : ∀ G5 s5 (β : Addr → Prop), SExt B β G3 s4 G5 s5 → (∀ b ∈ wr, ¬ β b) → St (i + 1) s5.heap ∧ ∀ b ∈ wr, G5 b = none := fun G5 s5 β x5 nb => by
      refine ⟨Iw.frame _ _ _ st3 fun b hb o e => ?_, fun b hb => ?_⟩
      · rcases hb with hb | ⟨o', hb⟩
        · obtain ⟨o2, e2, c2⟩ := Iw.live _ _ st3 b hb
          rw [e] at e2; cases e2
          have e4 := x4.keep ok x3.hp e c2 (hwr b hb).1
          exact x5.keep ok x4.hp e4 c2 (nb b hb)
        · have g3 := x3.le b o' (hle b o' hb)
          have q := x3.hp.keep b o' g3
          rw [e] at q; cases q
          exact x5.hp.keep b _ (x5.le b _ g3)
      · obtain ⟨o, e, c⟩ := live b hb
        rw [x5.new b o e (nb b hb)]; exact wr3 b hb
    refine mF3 hfor (fun σ5 hb5 hfor => ?_) (fun σ5 hb5 hfor => ?_) (fun v5 σ5 hb5 hfor => ?_)
    · refine wpAny_mono (I.ex _ _ _ tb hc CF σ2 .next σ5 hb5 A env G3 s4 αi oai ioa hr X x4.hp F4 _ fun G5 s5 α5 oa5 f x5 h5 F5 kf => ?_) (fun f s5 q => q) fun _ _ f => f.elim
      obtain rfl := kf
      obtain ⟨st5, w5⟩ := keepSt G5 s5 αi x5 fun b hb => (hwr b hb).1
      refine ⟨l.length - (i + 1), by omega, i + 1, G5, σ5, α5, oa5, x04.trans x5 hα, fun a ha => (h5 a ha).elim (hα a) (none_or ok x04), fun b hb => ⟨fun ha => ?_, w5 b hb⟩, (hle.trans x3.le).trans x5.le, st5, F5, by omega, rfl, hfor⟩
      rcases h5 b ha with q | q
      · exact (hwr b hb).1 q
      · obtain ⟨o, e, _⟩ := live b hb
        rw [q] at e; exact nomatch e
    · refine wpAny_mono (I.ex _ _ _ tb hc CF σ2 .brk _ hb5 A env G3 s4 αi oai ioa hr X x4.hp F4 _ fun G5 s5 α5 oa5 f x5 h5 F5 kf => ?_) (fun f s5 q => q) fun _ _ f => f.elim
      obtain rfl := kf
      exact ((h.of2 hfor).step ok x04 hα) G5 s5 α5 oa5 .next x5 h5 F5 .next
    · refine wpAny_mono (I.ex _ _ _ tb hc CF σ2 (.ret v5) _ hb5 A env G3 s4 αi oai ioa hr X x4.hp F4 _ fun G5 s5 α5 oa5 f x5 h5 F5 kf => ?_) (fun f s5 q => q) fun _ _ f => f.elim
      obtain ⟨u, rfl, rv⟩ := kf
      exact ((h.of2 hfor).step ok x04 hα) G5 s5 α5 oa5 _ x5 h5 F5 (.ret rv)
  · have hil' : i = l.length := by omega
    subst hil'
    rw [List.drop_length] at hfor
    unfold forV at hfor
    refine wpAny_mono (Iw.done G' s' (fun r s3 => r = none ∧ SExt B (· ∈ wr) G' s' G' s3) x'.hp hle (fun b hb => (hwr b hb).2) st fun s3 x3 => ⟨rfl, x3⟩) (fun r s3 q => ?_) fun _ _ f => f.elim
    obtain ⟨rfl, x3⟩ := q
    have x03 : SExt B α G s G' s3 := x'.trans x3 fun a ha => .inr (Iw.fresh a ha)
    have hupw : ∀ y c, isCellish (cx.scope.names.lookup y) = true → env.cells.lookup y = some c → c ∉ wr := fun y c h1 h2 q => by
      obtain ⟨v0, e0⟩ := F.up y c h1 h2
      rw [Iw.fresh c q] at e0; cases e0
    have F3 : Fr cx env αi oai ioa σi G' s3.heap := Fi.draw ok x'.hp x3 (fun a ha q => (hwr a q).1 ha) hupw
    refine wpAny_mono (I.ex _ _ _ to hc CF σi fl σ' hfor A env G' s3 αi oai ioa hr X x3.hp F3 Q (h.step ok x03 hα)) (fun f s4 q => q) fun _ _ f => f.elim
end
end Mine
namespace Mine
open PySem PySem.Calls
section
variable {B : Base} {n : Nat} {G G1 : GMap} {s s1 : Shared} {cx : Cx} {env : Env} {α α1 : Addr → Prop} {oa : Nat → Addr} {ioa : Addr} {σ σ' : Sig} {A : Around} {fl : Fl} {Q : Flow → Shared → Prop}
end
end Mine
namespace Mine
open PySem PySem.Calls
section
variable {B : Base} {n : Nat}
theorem s1_step (ok : BaseOK B) (IA : ∀ m, m ≤ n → All B m) : S1Spec B n (run B.g n) := by
  intro cx st m tt hc CF σ fl σ' he A env G s α oa ioa hr X H F Q h
  have I := IA n (Nat.le_refl n)
  have IHE : ∀ m, m ≤ n → ESpec B m (run B.g m).ev := fun m hm => (IA m hm).ev
  induction tt using Mine.T1.casesOn with
  | stuck => exact (noF he).elim
  | assign ht hee hp hq =>
    set_option smartUnfolding false in refine mE he fun v hv he => ?_
    set_option smartUnfolding false in refine mE he fun σ1 hput he => ?_
    exact assign_s ok I.ev (fun m hm => ⟨(IA m (Nat.le_of_lt hm)).ev, (IA m (Nat.le_of_lt hm)).bs⟩) hc CF ht hee hp hq hv hput hr X H F (h.of2 he)
  | fresh hx hee hm hio =>
    set_option smartUnfolding false in refine mE he fun v hv he => ?_
    exact fresh_s ok IHE hc CF hx hee hm hio hv hr X H F (h.of2 he)
  | par hp hn hz hsw =>
    set_option smartUnfolding false in refine mE he fun vs hv he => ?_
    set_option smartUnfolding false in refine mE he fun σ1 hs he => ?_
    exact par_s ok IHE hc CF hp hn hz hsw hv hs hr X H F (h.of2 he)
  | aug hx ho ha hee =>
    set_option smartUnfolding false in refine mFI he fun a hi he => ?_
    set_option smartUnfolding false in refine mI he fun b hv he => ?_
    set_option smartUnfolding false in refine mE he fun z hz he => ?_
    exact aug_s ok I.ev hc CF hx ho ha hee hi hv hz hr X H F (h.of2 he)
  | append hx hd hee hp =>
    set_option smartUnfolding false in refine mOL he fun l hi he => ?_
    set_option smartUnfolding false in refine mE he fun v hv he => ?_
    set_option smartUnfolding false in refine mIf he fun hl he => ?_
    exact append_s ok I.ev hc CF hx hd hee hp hi hv hl hr X H F (h.of2 he)
  | reverse hx hd hp =>
    set_option smartUnfolding false in refine mOL he fun l hi he => ?_
    exact reverse_s ok CF hx hd hp hi X H F (h.of2 he)
  | setItem hx hd hk hee hcm hu =>
    set_option smartUnfolding false in refine mOD he fun l hi he => ?_
    set_option smartUnfolding false in refine mE he fun v hv he => ?_
    set_option smartUnfolding false in refine mI he fun y hy he => ?_
    set_option smartUnfolding false in refine mIf he fun hl he => ?_
    exact setItem_s ok I.ev hc CF hx hd hk hee hcm hi hv hy hl hr X H F (h.of2 he)
  | ret hee =>
    set_option smartUnfolding false in refine mE he fun v hv he => ?_
    exact ret_s ok I.ev hc hee hv hr X H F (h.of2 he)
  | ifs tc ta tb =>
    set_option smartUnfolding false in refine mE he fun x hx he => ?_
    set_option smartUnfolding false in refine mB he (fun ht he => ?_) (fun ht he => ?_)
    · exact ifs_s ok I hc CF tc ta tb (t := true) hx ht he hr X H F h
    · exact ifs_s ok I hc CF tc ta tb (t := false) hx ht he hr X H F h
  | while' tc tb => exact while_s ok IA hc CF tc tb he hr X H F h
  | for' ht hk hi tb to =>
    set_option smartUnfolding false in refine mE he fun vs hv he => ?_
    set_option smartUnfolding false in refine mE he fun l hl he => ?_
    exact for_s ok I hc CF ht hk hi tb to hv hl he hr X H F h
  | brk =>
    exact wpAny_pure_brk ((h.of2 he) G s α oa .brk (.refl H α) (fun a ha => .inl ha) F .brk)
where
  wpAny_pure_brk {M : Model} {A : Around} {E : Value → Shared → Prop} {s : Shared} {env : Env} {pos : Pos} {Q : Flow → Shared → Prop} (h : Q .brk s) : wpAny M A (exec (.Break pos) env) Q E s := wpAny_bind (wpAny_standAt (wpAny_pure h))
theorem TS.inv {cx : Cx} {ss : List Stmt} {m : MS} {ms : List MS} (t : TS cx ss (m :: ms)) : (∃ x i, m = .freeze i ∧ cx.vars.lookup x = some i ∧ cx.io ≠ some i ∧ TS cx ss ms) ∨ ∃ s l, ss = s :: l ∧ T1 cx s m ∧ TS cx l ms := by
  cases t with
  | ghost hx hio r => exact .inl ⟨_, _, rfl, hx, hio, r⟩
  | cons t r => exact .inr ⟨_, _, rfl, t, r⟩
set_option tactic.hygienic true in
theorem ex_step (ok : BaseOK B) (IA : ∀ m, m ≤ n → All B m) : SSpec B (n + 1) (run B.g (n + 1)).ex := by
  have S1 := s1_step ok IA
  suffices key : ∀ ms cx ss, TS cx ss ms → cxOk B cx → CxF cx → ∀ σ fl σ', exsStep (run B.g n) σ ms = some (fl, σ') → ∀ (A : Around) (env : Env) (G : GMap) (s : Shared) (α : Addr → Prop) (oa : Nat → Addr) (ioa : Addr), Room A n → EnvB cx env → Hp B G s → Fr cx env α oa ioa σ G s.heap →
      ∀ Q : Flow → Shared → Prop, After B cx env α ioa G s σ' fl Q → Wp B A (execs ss env) Q s from
    fun cx ss ms t hc CF σ fl σ' e A env G s α oa ioa hr X H F Q h => key ms cx ss t hc CF σ fl σ' e A env G s α oa ioa (hr.less (Nat.le_succ n)) X H F Q h
  intro ms
  induction ms with
  | nil =>
    intro cx ss t hc CF σ fl σ' e A env G s α oa ioa hr X H F Q h
    cases t
    exact wpAny_execs_nil ((h.of2 e) G s α oa .next (.refl H α) (fun a ha => .inl ha) F .next)
  | cons m ms ih =>
    intro cx ss t hc CF σ fl σ' e A env G s α oa ioa hr X H F Q h
    unfold exsStep at e
    rcases t.inv with ⟨x, i, rfl, hx, hio, r⟩ | ⟨st, ss, rfl, t1, r⟩
    · refine mFl e (fun σ1 he e => ?_) (fun y hne he e => ?_)
      · refine mOF he (fun v hi he => ?_) (fun v hi he => ?_)
        · obtain ⟨_, rfl⟩ := Prod.mk.inj (Option.some.inj he)
          obtain ⟨G', x1, F1⟩ := freeze_s ok CF H F hx hi
          exact ih cx ss r hc CF _ fl σ' e A env G' s _ oa ioa hr X x1.hp F1 Q (h.step ok x1 fun a ha => .inl ha.1)
        · obtain ⟨_, rfl⟩ := Prod.mk.inj (Option.some.inj he)
          refine ih cx ss r hc CF _ fl σ' e A env G s α oa ioa hr X H (F.congr fun j => ?_) Q h
          rw [Sig.set_at]
          split
          · rename_i q; rw [q.1, hi]
          · rfl
      · exact mOF he (fun v _ he => absurd (Option.some.inj he).symm (hne _)) (fun v _ he => absurd (Option.some.inj he).symm (hne _))
    · refine wpAny_execs_cons ?_
      refine mFl e (fun σ1 he e => ?_) (fun y hne he e => ?_)
      · refine S1 cx _ m t1 hc CF σ .next σ1 he A env G s α oa ioa hr X H F _ fun G1 s1 α1 oa1 f x1 h1 F1 k => ?_
        obtain rfl := k
        exact ih cx _ r hc CF σ1 fl σ' e A env G1 s1 α1 oa1 ioa hr X x1.hp F1 Q (h.step ok x1 h1)
      · subst e
        refine S1 cx _ m t1 hc CF σ fl σ' he A env G s α oa ioa hr X H F _ fun G1 s1 α1 oa1 f x1 h1 F1 k => ?_
        have hq := h G1 s1 α1 oa1 f x1 h1 F1 k
        induction fl using Mine.Fl.casesOn with
        | next => exact absurd rfl (hne _)
        | brk => obtain rfl := k; exact hq
        | ret v => obtain ⟨u, rfl, _⟩ := k; exact hq
end
end Mine
namespace Mine
open PySem PySem.Calls
structure FnOK (B : Base) (f p n : Nat) (ioo : Option Nat) (ms : List MS) (o : Obj) (fd : FuncData) (ss : List Stmt) (cx : Cx) (params : List Str) : Prop where
  obj : B.G0 (B.fa f) = some o
  data : o.data = .func fd
  body : fd.body = .stmts ss
  t : TS cx ss ms
  cxf : CxF cx
  scope : cx.scope = fd.scope
  kind : fd.scope.kind = .function
  cok : cxOk B cx
  io : cx.io = ioo
  clo : fd.closure = []
  co : fd.scope.isCoroutine = false
  gen : fd.scope.isGenerator = false
  globals : fd.globals = mainGlobals
  builtins : fd.builtins = builtinsNs
  bind : ∀ vals : List Value, vals.length = p → bindArgs fd ⟨vals, []⟩ = pure (params.zip vals)
  plen : params.length = p
  slots : ∀ (k : Nat) (x : Str), params[k]? = some x → cx.vars.lookup x = some k
  vars : ∀ x i, cx.vars.lookup x = some i → fd.scope.names.lookup x = some .local ∨ fd.scope.names.lookup x = some .cell
  nofree : ∀ x, fd.scope.names.lookup x ≠ some .free
  nd : (fd.scope.names.map (·.1)).Nodup
  nocd : isCellish (fd.scope.names.lookup (Str.ofString "__classdict__")) = false
  code : ∀ h : Heap, (∀ b o, B.G0 b = some o → h.get? b = some o) → h.CodeRec fd.code fd.qualname
  pn : p ≤ n
  iop : ∀ i, ioo = some i → i < p
noncomputable def bindσ (io : Option Nat) : Nat → Sig → List V → Sig
  | _, σ, [] => σ
  | k, σ, v :: vs => bindσ io (k + 1) (σ.set k (if io = some k then .own v else .fz v)) vs
theorem bindσ_get (io : Option Nat) : ∀ (vs : List V) (k : Nat) (σ : Sig) (j : Nat), (bindσ io k σ vs)[j]? = if k ≤ j ∧ j < k + vs.length ∧ j < σ.length then (vs[j - k]?).map (fun v => if io = some j then Ent.own v else .fz v) else σ[j]?
  | [], k, σ, j => by
    unfold bindσ
    rw [if_neg (by simp; lia)]
  | v :: vs, k, σ, j => by
    unfold bindσ
    rw [bindσ_get io vs (k + 1) _ j, List.length_set]
    by_cases h1 : k + 1 ≤ j ∧ j < k + 1 + vs.length ∧ j < σ.length
    · rw [if_pos h1, if_pos (by simp; lia)]
      have : j - k = (j - (k + 1)) + 1 := by lia
      rw [this, List.getElem?_cons_succ]
    · rw [if_neg h1]
      rw [List.getElem?_set]
      by_cases h2 : k = j
      · subst h2
        by_cases h3 : k < List.length σ
        · simp [h3]
        · simp [h3, List.getElem?_eq_none (Nat.le_of_not_lt h3)]
      · rw [if_neg h2, if_neg fun z => h1 ⟨by lia, by have := z.2.1; simp at this; lia, z.2.2⟩]
set_option tactic.hygienic true in
theorem frame_at {p n : Nat} {io : Option Nat} {vs : List V} {σ : Sig} (h : frame p n io vs = some σ) (hpn : p ≤ n) (j : Nat) : Sig.at (bindσ io 0 (List.replicate n .un) vs) j = Sig.at σ j := by
  unfold frame at h
  split at h
  · rename_i hl
    cases h
    unfold Sig.at
    rw [List.getD_eq_getElem?_getD, List.getD_eq_getElem?_getD, bindσ_get, List.length_replicate]
    by_cases q : j < p
    · rw [if_pos (by lia), List.getElem?_append_left (by simp; lia), List.getElem?_map, List.getElem?_zipIdx]
      simp
      cases vs[j]? <;> simp
    · rw [if_neg (by lia), List.getElem?_append_right (by simp; lia)]
      simp only [List.getElem?_replicate]
      split <;> split <;> rfl
  · cases h
section
variable {B : Base} {n : Nat} {G G1 : GMap} {s s1 : Shared} {cx : Cx} {env : Env} {α α1 : Addr → Prop} {oa : Nat → Addr} {ioa : Addr} {σ σ' : Sig} {A : Around} {fl : Fl} {Q : Flow → Shared → Prop}
theorem bind_spec (ok : BaseOK B) (X : EnvB cx env) (CF : CxF cx) (f : Str × Value → PUnit → Sem (ForInStep PUnit)) (hf : ∀ n v u, f (n, v) u = (do storeName env n v; pure (.yield ⟨⟩))) : ∀ (ps : List Str) (us : List Value) (vs : List V) (k : Nat) (σ : Sig) (s : Shared) (α : Addr → Prop) (oa : Nat → Addr),
    us.length = vs.length → ps.length = us.length → (∀ (j : Nat) (x : Str), ps[j]? = some x → cx.vars.lookup x = some (k + j)) →
    (∀ j u w, us[j]? = some u → vs[j]? = some w → (cx.io ≠ some (k + j) → Rep G u w) ∧ (cx.io = some (k + j) → u = .ref ioa ∧ OwnAt G s.heap ioa w ∧ G ioa = none ∧ ¬ α ioa)) →
    Hp B G s → Fr cx env α oa ioa σ G s.heap → ∀ {β : Addr → Prop}, (∀ x i a, cx.vars.lookup x = some i → SAt cx env x a → β a) → ∀ {Q : PUnit → Shared → Prop},
    (∀ s' α' oa', SExt B β G s G s' → (∀ a, α' a → α a ∨ ((∃ j, cx.io = some (k + j) ∧ j < vs.length) ∧ a = ioa)) → Fr cx env α' oa' ioa (bindσ cx.io k σ vs) G s'.heap → Q ⟨⟩ s') → Wp B A (forIn (ps.zip us) ⟨⟩ f) Q s
  | [], us, vs, k, σ, s, α, oa, h1, h2, h3, h4, H, F, β, hβ, Q, h => by
    induction us using List.casesOn with
    | cons => cases h2
    | nil =>
      induction vs using List.casesOn with
      | cons => cases h1
      | nil =>
        show Wp B A (forIn ([] : List (Str × Value)) ⟨⟩ f) Q s
        rw [List.forIn_nil]
        exact wpAny_pure (h s α oa (.refl H β) (fun a ha => .inl ha) F)
  | x :: ps, us, vs, k, σ, s, α, oa, h1, h2, h3, h4, H, F, β, hβ, Q, h => by
    induction us using List.casesOn with
    | nil => cases h2
    | cons u us =>
      induction vs using List.casesOn with
      | nil => cases h1
      | cons v vs =>
        show Wp B A (forIn ((x, u) :: ps.zip us) ⟨⟩ f) Q s
        rw [List.forIn_cons, hf]
        have hx : cx.vars.lookup x = some k := h3 0 x rfl
        obtain ⟨q1, q2⟩ := h4 0 u v rfl rfl
        rw [Nat.add_zero] at q1 q2
        have h3' : ∀ (j : Nat) (y : Str), ps[j]? = some y → cx.vars.lookup y = some (k + 1 + j) := fun j y hy => by
          have := h3 (j + 1) y (by simpa using hy)
          rw [this]; congr 1; lia
        by_cases hio : cx.io = some k
        · obtain ⟨eu, ho, g0, n0⟩ := q2 hio
          rw [eu]
          refine wpAny_bind (wpAny_bind (F.storeOwn0 ok X CF H hx (fun _ => rfl) ho g0 n0 fun s2 x2 F2 => wpAny_pure ?_))
          refine bind_spec ok X CF f hf ps us vs (k + 1) _ s2 _ _ (by simpa using h1) (by simpa using h2) h3' (fun j u' w hu hw => ?_) x2.hp F2 hβ fun s3 α' oa' x3 h5 F3 => ?_
          · have e := h4 (j + 1) u' w (by simpa using hu) (by simpa using hw)
            have e1 : k + (j + 1) = k + 1 + j := by lia
            rw [e1] at e
            refine ⟨e.1, fun q => ?_⟩
            rw [hio] at q
            have := Option.some.inj q
            lia
          · refine h s3 α' oa' ((x2.weaken fun b hb => .inl (hβ _ _ b hx hb)).trans x3 fun a ha => .inl ha) (fun a ha => ?_) ?_
            · rcases h5 a ha with (q | q) | ⟨⟨j, q, _⟩, _⟩
              · exact .inl q
              · exact .inr ⟨⟨0, by simpa using hio, by simp⟩, q⟩
              · rw [hio] at q
                have := Option.some.inj q
                lia
            · show Fr cx env α' oa' ioa (bindσ cx.io (k + 1) (σ.set k (if cx.io = some k then .own v else .fz v)) vs) G s3.heap
              rw [if_pos hio]; exact F3
        · refine wpAny_bind (wpAny_bind (F.store0 ok X CF H hx (q1 hio) fun s2 x2 F2 => wpAny_pure ?_))
          refine bind_spec ok X CF f hf ps us vs (k + 1) _ s2 _ _ (by simpa using h1) (by simpa using h2) h3' (fun j u' w hu hw => ?_) x2.hp F2 hβ fun s3 α' oa' x3 h5 F3 => ?_
          · have e := h4 (j + 1) u' w (by simpa using hu) (by simpa using hw)
            have e1 : k + (j + 1) = k + 1 + j := by lia
            rw [e1] at e
            refine ⟨e.1, fun q => ?_⟩
            obtain ⟨a1, a2, a3, a4⟩ := e.2 q
            refine ⟨a1, ?_, a3, a4⟩
            obtain ⟨ob, eo, c, _⟩ := a2.obj
            have kb := x2.keep ok H eo c (fun z => a4 (F.sat hx z))
            exact a2.at (kb.trans eo.symm)
          · refine h s3 α' oa' ((x2.weaken fun b hb => .inl (hβ _ _ b hx hb)).trans x3 fun a ha => .inl ha) (fun a ha => ?_) ?_
            · rcases h5 a ha with q | ⟨⟨j, q, hj⟩, z⟩
              · exact .inl q
              · exact .inr ⟨⟨j + 1, by rw [q]; congr 1; lia, by simp; exact hj⟩, z⟩
            · show Fr cx env α' oa' ioa (bindσ cx.io (k + 1) (σ.set k (if cx.io = some k then .own v else .fz v)) vs) G s3.heap
              rw [if_neg hio]; exact F3
end
end Mine
namespace Mine
open PySem PySem.Calls
structure FnsOK (B : Base) : Prop where
  code : ∀ x f p n io ms, B.fid x = some f → B.g.fn f = some (.code p n io ms) → ∃ o fd ss cx params, FnOK B f p n io ms o fd ss cx params
  ext : ∀ x f h, B.fid x = some f → B.g.fn f = some (.ext h) → ∀ vs v, h vs = some v → ∀ (A : Around) (G : GMap) (s : Shared) (us : List Value), Room A 40 → Hp B G s → Reps G us vs →
    ∀ Q : Value → Shared → Prop, (∀ G' s' u, Ext B G s G' s' → Rep G' u v → Q u s') → Wp B A (PySem.call (.ref (B.fa f)) us) Q s
section
variable {B : Base} {n : Nat} {G G1 : GMap} {s s1 : Shared} {A : Around}
theorem Room.deeper (r : Room A (n + 1)) (env : Env) : Room (A.deeper env) n :=
  ⟨by have := r.depth; show A.depth + 1 + n + 50 < _; lia, by have := r.units; show A.units + 3 + 8 * n + 200 < _; lia, r.handled⟩
set_option tactic.hygienic true in
theorem enter (ok : BaseOK B) {f p sl : Nat} {io : Option Nat} {ms : List MS} {o : Obj} {fd : FuncData} {ss : List Stmt} {cx : Cx} {params : List Str} (K : FnOK B f p sl io ms o fd ss cx params) (S : SSpec B n (run B.g n).ex) {vs : List V} {σ σ' : Sig} {fl : Fl} (hfr : frame p sl io vs = some σ)
    (he : (run B.g n).ex σ ms = some (fl, σ')) (hr : Room A (n + 1)) (H : Hp B G s) {us : List Value} {ioa : Addr} (hlen : us.length = vs.length)
    (hu : ∀ (j : Nat) u w, us[j]? = some u → vs[j]? = some w → (io ≠ some j → Rep G u w) ∧ (io = some j → u = .ref ioa ∧ OwnAt G s.heap ioa w ∧ G ioa = none)) {Q : Value → Shared → Prop}
    (h : ∀ G' s' oa' env α', SExt B (fun a => io ≠ none ∧ a = ioa) G s G' s' → Fr cx env α' oa' ioa σ' G' s'.heap → ∀ u f, FlOk G' f fl → (u = match f with | .ret v => v | _ => .none) → Q u s') : Wp B A (PySem.call (.ref (B.fa f)) us) Q s := by
  have hvp : vs.length = p := by
    unfold frame at hfr
    split at hfr
    · rename_i q; exact q
    · cases hfr
  have kp : ∀ b ob, B.G0 b = some ob → s.heap.get? b = some ob := fun b ob e => H.keep b ob (H.base b ob e)
  refine wpAny_call ?_
  refine codeAny_call_function (by have := hr.depth; lia) (kp _ _ K.obj) K.data K.co K.gen K.body (K.code s.heap kp) ?_
  rw [K.bind us (by lia), K.clo]
  refine wpAny_pure ?_
  simp only [newFunctionEnv, Option.isSome_none, Bool.false_eq_true, if_false]
  refine wpAny_bind (wpAny_alloc ?_)
  refine wpAny_bind (wpAny_layCells _ (fun name kind cells => by cases hkc : kind == NameKind.cell <;> simp) _ _ _ _ ?_)
  have szp : (s.heap.push { cls := .type "frame", data := .dict #[] }).objs.size = s.heap.objs.size + 1 := Heap.size_push ..
  generalize hhp : s.heap.push { cls := .type "frame", data := .dict #[] } = hp at szp
  have kpp : ∀ b ob, s.heap.get? b = some ob → hp.get? b = some ob := fun b ob e => by rw [← hhp]; exact Heap.get?_push_of_some _ e
  obtain ⟨c1, c2, c3⟩ := cells_new fd.scope.names hp [] K.nd
  show Wp B A.in1 _ _ { s with heap := pushCells hp fd.scope.names }
  generalize hcl : cellsFrom ({ s with heap := hp } : Shared).heap.objs.size fd.scope.names [] = cl
  have hcl' : cellsFrom hp.objs.size fd.scope.names [] = cl := hcl
  rw [hcl'] at c1 c2 c3
  generalize hh3 : pushCells hp fd.scope.names = h3 at c1
  have k3 : ∀ b ob, s.heap.get? b = some ob → h3.get? b = some ob := fun b ob e => by rw [← hh3]; exact pushCells_keeps _ _ _ _ (kpp b ob e)
  generalize henv : ({ scope := fd.scope, locals := s.heap.objs.size, globals := fd.globals, cells := cl, qual := fd.qualname ++ ".<locals>.", func := some (B.fa f), code := fd.code, frame := some s.heap.objs.size, builtins := fd.builtins } : Env) = env
  have cellish : ∀ x, isCellish (cx.scope.names.lookup x) = true → (x, NameKind.cell) ∈ fd.scope.names := fun x hx => by
    rw [K.scope] at hx
    cases q : fd.scope.names.lookup x with
    | none => rw [q] at hx; cases hx
    | some k =>
      rw [q] at hx
      induction k using PySem.NameKind.casesOn <;> first | exact lookup_mem q | exact absurd q (K.nofree x) | cases hx
  have ecell : env.cells = cl := by rw [← henv]
  have eloc : env.locals = s.heap.objs.size := by rw [← henv]
  have cgt : ∀ x a, (x, NameKind.cell) ∈ fd.scope.names → cl.lookup x = some a → @LT.lt Nat instLTNat s.heap.objs.size a := fun x a hx ha => by
    obtain ⟨a', q1, q2, _⟩ := c1 x hx
    rw [ha] at q1; cases q1
    have q2' : @LE.le Nat instLENat hp.objs.size a := q2
    lia
  have X : EnvB cx env := by
    refine ⟨by rw [← henv]; exact K.scope.symm, by rw [K.scope]; exact K.kind, by rw [← henv]; exact K.globals, by rw [← henv]; exact K.builtins, fun x hx => ?_, by rw [K.scope]; exact K.nocd, ⟨fun y c hy hc => ?_, fun x y c hx hy ex ey => ?_⟩⟩
    · obtain ⟨a, q1, _⟩ := c1 x (cellish x hx)
      rw [ecell]; exact ⟨a, q1⟩
    · rw [ecell] at hc
      rw [eloc]
      exact addr_ne (.inr (cgt y c (cellish y hy) hc))
    · rw [ecell] at ex ey
      exact c3 x y c (cellish x hx) (cellish y hy) ex ey
  have hns : h3.Ns env.locals (fun _ => none) := by
    rw [eloc, ← hh3]
    exact (Heap.Ns.new s.heap (.type "frame")).keeps fun b ob e => pushCells_keeps _ _ b ob (by rw [← hhp]; exact e)
  have x3 : Ext B G s G { s with heap := h3 } := Ext.grown (tk := s.toks) ok H k3
  have fr : ∀ a : Addr, @LE.le Nat instLENat s.heap.objs.size a → s.heap.get? a = none := fun a ha => none_of_size ha
  have hloc : ∀ x i, cx.vars.lookup x = some i → ∃ a, WAt cx env h3 x a ∧ (a = env.locals ∨ ∃ x, (x, NameKind.cell) ∈ fd.scope.names ∧ cl.lookup x = some a) := fun x i hx => by
    rcases K.vars x i hx with q | q
    · exact ⟨_, .inl ⟨by rw [K.scope]; exact q, rfl, _, hns⟩, .inl rfl⟩
    · obtain ⟨a, q1, q2, q3⟩ := c1 x (lookup_mem q)
      exact ⟨a, .inr ⟨by rw [K.scope]; exact q, by rw [ecell]; exact q1, none, q3⟩, .inr ⟨x, lookup_mem q, q1⟩⟩
  have F0 : Fr cx env (fun a => a = env.locals ∨ ∃ x, (x, NameKind.cell) ∈ fd.scope.names ∧ cl.lookup x = some a) (fun _ => ioa) ioa (List.replicate sl .un) G h3 := by
    have un : ∀ i, Sig.at (List.replicate sl .un) i = .un := fun i => by
      unfold Sig.at
      rw [List.getD_eq_getElem?_getD, List.getElem?_replicate]
      split <;> rfl
    refine ⟨(fun x i hx => by rw [un]; trivial), fun y c h1 h2 => ?_, hloc, (fun x i v hx hi => absurd ((un _).symm.trans hi) (by intro q; cases q)), (fun x y i j v w hx hy hi hj e => absurd ((un _).symm.trans hi) (by intro q; cases q)), fun a ha => ?_, (fun x i v hx hio hi => absurd ((un _).symm.trans hi) (by intro q; cases q))⟩
    · obtain ⟨a, q1, _, q3⟩ := c1 y (cellish y h1)
      rw [ecell] at h2
      rw [h2] at q1; cases q1
      exact ⟨none, q3⟩
    · rcases ha with rfl | ⟨x, hx, hl⟩
      · obtain ⟨ob, es, ep, e, r⟩ := hns
        refine ⟨H.noneG (by rw [eloc]; exact fr _ (Nat.le_refl _)), ob, e, .inr ⟨es, ep, r.1⟩⟩
      · obtain ⟨a', q1, q2, q3⟩ := c1 x hx
        rw [hl] at q1; cases q1
        refine ⟨H.noneG (fr _ ?_), _, q3, .inl (by intro q; cases q)⟩
        have := cgt x a hx hl
        lia
  have αfr : ∀ a, (a = env.locals ∨ ∃ x, (x, NameKind.cell) ∈ fd.scope.names ∧ cl.lookup x = some a) → s.heap.get? a = none := fun a ha => by
    rcases ha with rfl | ⟨x, hx, hl⟩
    · rw [eloc]; exact fr _ (Nat.le_refl _)
    · have := cgt x a hx hl; exact fr _ (by lia)
  refine wpAny_bind (bind_spec (ioa := ioa) ok X K.cxf _ (fun _ _ _ => rfl) params us vs 0 (List.replicate sl .un) { s with heap := h3 } _ (fun _ => ioa) hlen (by rw [K.plen]; lia) (fun j x hx => by rw [Nat.zero_add]; exact K.slots j x hx) (fun j u w hu' hw' => ?_) x3.hp F0
    (β := fun a => a = env.locals ∨ ∃ x, (x, NameKind.cell) ∈ fd.scope.names ∧ cl.lookup x = some a) (fun x i a hx ha => ?_) fun s4 α4 oa4 x4 h4 F4 => wpAny_pure ?_)
  · obtain ⟨q1, q2⟩ := hu j u w hu' hw'
    rw [Nat.zero_add, K.io]
    refine ⟨q1, fun q => ?_⟩
    obtain ⟨a1, a2, a3⟩ := q2 q
    refine ⟨a1, a2.ext ok H x3, a3, fun z => ?_⟩
    obtain ⟨ob, eo, _⟩ := a2.obj
    rw [αfr _ z] at eo; cases eo
  · exact Fr.sat (s := { s with heap := h3 }) F0 hx ha
  · have x04 : Ext B G s G s4 := ((x3.sx (fun _ => False)).trans x4 fun a ha => .inr (αfr a ha)).ext fun _ f => f.elim
    refine ⟨ok.nolim _ fun b ob e => x04.hp.keep b ob (H.base b ob e), codeAny_func ?_⟩
    have F5 : Fr cx env α4 oa4 ioa σ G s4.heap := F4.congr fun i => by
      rw [K.io]; exact (frame_at hfr K.pn i).symm
    refine wpAny_mono (S cx ss ms K.t K.cok K.cxf σ fl σ' he (A.deeper env) env G s4 α4 oa4 ioa (hr.deeper env) X x04.hp F5 (fun f s' => Q (match f with | .ret v => v | _ => .none) s') fun G' s' α' oa' f x5 h5 F6 kf => ?_) (fun f s' q => q) fun _ _ f => f.elim
    refine h G' s' oa' env α' ((x04.sx _).trans x5 fun a ha => ?_) F6 _ f kf rfl
    rcases h4 a ha with q | ⟨⟨j, q, _⟩, z⟩
    · exact .inr (αfr a q)
    · exact .inl ⟨(by rw [← K.io, q]; intro z; cases z), z⟩
theorem call_step (ok : BaseOK B) (fo : FnsOK B) (S : SSpec B n (run B.g n).ex) : CallSpec B (n + 1) (run B.g (n + 1)).call := by
  intro x f vs v hf hc A G s us hr H rr Q h
  replace hc : callStep (Nat.ble 40 n) B.g (run B.g n) f vs = some v := hc
  refine mFn hc (fun p sl b hfn hc => ?_) (fun hx hfn hc => ?_)
  · obtain ⟨o, fd, ss, cx, params, K⟩ := fo.code x f p sl none b hf hfn
    set_option smartUnfolding false in refine mE hc fun σ hfr hc => ?_
    have go : ∀ fl σ', (run B.g n).ex σ b = some (fl, σ') → (∀ G' u f, FlOk G' f fl → (u = match f with | .ret v => v | _ => .none) → Rep G' u v) → Wp B A (PySem.call (.ref (B.fa f)) us) Q s := fun fl σ' he hv => by
      refine enter (ioa := 0) ok K S hfr he hr H rr.length (fun j u w hu hw => ⟨fun _ => rr.at hu hw, fun q => (noF q).elim⟩) fun G' s' oa' env α' x' F' u f kf e => ?_
      exact h G' s' u (x'.ext fun a ha => absurd rfl ha.1) (hv G' u f kf e)
    refine mRet hc (fun w σ' he hc => ?_) (fun σ' he hc => ?_)
    · refine go _ σ' he fun G' u f kf e => ?_
      obtain ⟨w, rfl, r⟩ := kf
      rw [e]; exact Option.some.inj hc ▸ r
    · refine go _ σ' he fun G' u f kf e => ?_
      obtain rfl := kf
      rw [e]; exact Option.some.inj hc ▸ .non
  · set_option smartUnfolding false in refine mIf hc fun hbig hc => ?_
    exact fo.ext x f hx hf hfn vs v hc A G s us (hr.less (Nat.le_succ_of_le (Nat.le_of_ble_eq_true hbig))) H rr Q h
theorem io_step (ok : BaseOK B) (fo : FnsOK B) (S : SSpec B n (run B.g n).ex) : IOSpec B (n + 1) (run B.g (n + 1)).callIO := by
  intro x f vs io v b hf hc
  exact (noF (show none = some (v, b) from hc)).elim
theorem all (ok : BaseOK B) (fo : FnsOK B) : ∀ n, All B n := by
  intro n
  induction n using Nat.strongRecOn with
  | ind n ih =>
    induction n using Nat.casesAuxOn with
    | zero =>
      exact ⟨(fun cx e me t hc σ v he => (noF he).elim), (fun cx e me t hc σ v b he => (noF he).elim), (fun cx ss ms t hc CF σ fl σ' he => (noF he).elim), (fun x f vs v hf he => (noF he).elim), (fun x f vs io v b hf he => (noF he).elim)⟩
    | succ n =>
      have I := ih n (Nat.lt_succ_self n)
      have IA : ∀ m, m ≤ n → All B m := fun m hm => ih m (Nat.lt_succ_of_le hm)
      exact ⟨ev_step ok I.ev I.bs I.call, b_step ok I.ev I.bs I.call, ex_step ok IA, call_step ok fo I.ex, io_step ok fo I.ex⟩
end
end Mine
namespace Mine
open PySem PySem.Calls
noncomputable def Base.free (B : Base) : Base := { B with g := ⟨fun _ => none, B.g.gl⟩ }
section
variable {B : Base} {n : Nat} {G G' G1 : GMap} {s s' s1 : Shared} {A : Around}
theorem Hp.free (H : Hp B G s) : Hp B.free G s := ⟨H.base, H.keep, H.tabG, H.tok, H.os, H.gens⟩
theorem Hp.unfree (H : Hp B.free G s) : Hp B G s := ⟨H.base, H.keep, H.tabG, H.tok, H.os, H.gens⟩
theorem Ext.unfree (x : Ext B.free G s G' s') : Ext B G s G' s' := ⟨x.le, x.hp.unfree, x.grow, x.new⟩
theorem BaseOK.free (ok : BaseOK B) : BaseOK B.free where
  tabF := ok.tabF
  tokM := ok.tokM
  nsg := ok.nsg
  nsb := ok.nsb
  nolim := ok.nolim
  gl := ok.gl
  fns := ok.fns
  sysm := ok.sysm
  prim := ok.prim
  pint := ok.pint
  plen := ok.plen
  pmax := ok.pmax
  pmin := ok.pmin
  psum := ok.psum
  psorted := ok.psorted
  phex := ok.phex
  pdivmod := ok.pdivmod
  prange := ok.prange
  plist := ok.plist
  preversed := ok.preversed
  penumerate := ok.penumerate
  pzip := ok.pzip
theorem all_free (ok : BaseOK B) (n : Nat) : All B.free n := all ok.free ⟨(fun x f p n io ms _ h => by cases h), (fun x f h _ e => by cases e)⟩ n
theorem ev_free (ok : BaseOK B) (n : Nat) : ESpec B n (run B.free.g n).ev := fun cx e me t hc σ v he A env G s hr X H R Q h =>
  (all_free ok n).ev cx e me t hc σ v he A env G s hr X H.free R Q fun G' s' u x r => h G' s' u x.unfree r
theorem bs_free (ok : BaseOK B) (n : Nat) : BSpec B n (run B.free.g n).ev := fun cx e me t hc σ v b he hb A env G s hr X H R Q h =>
  (all_free ok n).bs cx e me t hc σ v b he hb A env G s hr X H.free R Q fun G' s' x => h G' s' x.unfree
variable {cx : Cx} {env : Env} {σ : Sig}
structure Leaf (cx : Cx) (env : Env) (σ : Sig) (G : GMap) (h : Heap) : Prop where
  rd : Rd cx env σ G h
  ns : ∃ m, h.Ns env.locals m
  ln : G env.locals = none
  inj : CxF cx
  unown : ∀ i v, σ.at i ≠ .own v
theorem Leaf.ext (ok : BaseOK B) (H : Hp B G s) (l : Leaf cx env σ G s.heap) (x : Ext B G s G' s') : Leaf cx env σ G' s'.heap := by
  obtain ⟨m, hm⟩ := l.ns
  refine ⟨l.rd.ext ok H x, ⟨m, NsAt.ext ok H x hm⟩, ?_, l.inj, l.unown⟩
  obtain ⟨o, es, ep, e, _⟩ := hm
  rw [x.new _ _ e]; exact l.ln
theorem Leaf.store (ok : BaseOK B) (X : EnvB cx env) (H : Hp B G s) (l : Leaf cx env σ G s.heap) {x : Str} {i : Nat} (hx : cx.vars.lookup x = some i) (hl : cx.scope.names.lookup x = some .local) {u : Value} {v : V} (r : Rep G u v) {Q : Unit → Shared → Prop}
    (h : ∀ s', SExt B (· = env.locals) G s G s' → Leaf cx env (σ.set i (.fz v)) G s'.heap → Q () s') : Wp B A (storeName env x u) Q s := by
  obtain ⟨m, hm⟩ := l.ns
  refine store_var X (x := x) (a := env.locals) (.inl ⟨hl, rfl, m, hm⟩) fun h' tk k rd o w st => ?_
  have x1 : SExt B (· = env.locals) G s G { s with heap := h', toks := tk } := SExt.kept ok H (fun b (q : b = env.locals) => by rw [q]; exact l.ln) (fun b (q : b = env.locals) t => by
    obtain ⟨ob, es, ep, e, r⟩ := hm
    exact H.nottabS ok e (.inr ⟨es, ep, r.1⟩) (q ▸ t)) fun b ob hb e => (k b hb).trans e
  refine h _ x1 ⟨⟨fun y j hy => ?_, fun y c h1 h2 => ?_⟩, ?_, l.ln, l.inj, fun j w => ?_⟩
  · by_cases q : y = x
    · subst q
      rw [hx] at hy; cases hy
      rcases Sig.set_or σ i (.fz v) with q | q <;> rw [q]
      · exact ⟨u, rd, r⟩
      · trivial
    · have hji : j ≠ i := fun z => q (l.inj y x i (z ▸ hy) hx)
      rw [Sig.set_ne _ _ hji]
      have z := l.rd.ent y j hy
      cases e : σ.at j with
      | un => trivial
      | fz w' => rw [e] at z; obtain ⟨u', a', b'⟩ := z; exact ⟨u', o y u' q a', b'⟩
      | own w' => exact absurd e (l.unown j w')
  · obtain ⟨v', e⟩ := l.rd.up y c h1 h2
    exact ⟨v', (k c (X.fm.ne1 y c h1 h2)).trans e⟩
  · rcases w x env.locals (.inl ⟨hl, rfl, m, hm⟩) with ⟨_, _, m', hm'⟩ | ⟨q, _⟩
    · exact ⟨m', hm'⟩
    · rw [hl] at q; cases q
  · rw [Sig.set_at]
    split
    · intro q; cases q
    · exact l.unown j w
theorem leaf_assign (ok : BaseOK B) (hc : cxOk B cx) (X : EnvB cx env) (hr : Room A n) (H : Hp B G s) (l : Leaf cx env σ G s.heap) {x : Str} {p pos : Pos} {i : Nat} {e : Expr} {me : ME} (hx : cx.vars.lookup x = some i) (hl : cx.scope.names.lookup x = some .local) (t : T cx e me) (hcomp : isComp e = false)
    {v : V} (hv : (run B.free.g n).ev σ me = some v) {Q : Flow → Shared → Prop} (h : ∀ G' s', SExt B (· = env.locals) G s G' s' → Leaf cx env (σ.set i (.fz v)) G' s'.heap → Q .next s') : Wp B A (exec (.Assign [.Name x p] e pos) env) Q s := by
  have hst : me ≠ .stuck := fun q => by rw [q, run_stuck] at hv; cases hv
  refine wpAny_Assign1 (t.noSwap hst hcomp _ _ _) (t.noPair hst (by rfl) (.inr ⟨_, _, rfl⟩) env) rfl (ev_free ok n cx e me t hc σ v hv A env G s hr X H l.rd _ fun G1 s1 u x1 ru => ?_)
  refine wpAny_assign_Name ((l.ext ok H x1).store ok X x1.hp hx hl ru fun s2 x2 l2 => ?_)
  exact h G1 s2 ((x1.sx _).trans x2 fun a ha => .inl ha) l2
end
end Mine
namespace Mine
open PySem PySem.Calls
theorem lookup_memN {α : Type} {x : Str} : ∀ {l : List (Str × α)} {i : α}, l.lookup x = some i → (x, i) ∈ l
  | [], _, h => by cases h
  | (y, j) :: l, i, h => by
    rw [List.lookup_cons] at h
    cases q : x == y with
    | true => rw [q] at h; cases h; rw [eq_of_beq q]; exact .head _
    | false => rw [q] at h; exact .tail _ (lookup_memN h)
theorem nodup_snd : ∀ {l : List (Str × Nat)}, (l.map (·.2)).Nodup → ∀ x y i, (x, i) ∈ l → (y, i) ∈ l → x = y
  | [], _, _, _, _, h, _ => by cases h
  | (z, j) :: l, n, x, y, i, h1, h2 => by
    rw [List.map_cons, List.nodup_cons] at n
    rcases List.mem_cons.1 h1 with q1 | q1 <;> rcases List.mem_cons.1 h2 with q2 | q2
    · cases q1; cases q2; rfl
    · cases q1; exact absurd (List.mem_map.2 ⟨_, q2, rfl⟩) n.1
    · cases q2; exact absurd (List.mem_map.2 ⟨_, q1, rfl⟩) n.1
    · exact nodup_snd n.2 x y i q1 q2
theorem cxf_of {cx : Cx} (h : (cx.vars.map (·.2)).Nodup) : CxF cx := fun x y i hx hy => nodup_snd h x y i (lookup_memN hx) (lookup_memN hy)
section
variable {B : Base} {n : Nat} {G G' G1 : GMap} {s s' s1 : Shared} {A : Around}
theorem enter_nested (ok : BaseOK B) (hr : Room A (n + 1)) (H : Hp B G s) {fi c' : Addr} {o oc : Obj} {fd : FuncData} {body : List Stmt} {binds : List (Str × Value)} {us : List Value} {vs : Array Value} {t : Tok} (ho : G fi = some o) (hd : o.data = .func fd) (hbody : fd.body = .stmts body)
    (hco : fd.scope.isCoroutine = false) (hgen : fd.scope.isGenerator = false) (hk : fd.scope.kind = .function) (hcell : ∀ x ∈ fd.scope.names, x.2 ≠ .cell) (hcode : fd.code = .ref c') (hoc : G c' = some oc) (hdc : oc.data = .fields vs) (hq : vs[1]? = some (.str fd.qualname t))
    (hbind : bindArgs fd ⟨us, []⟩ = pure binds) (hl : ∀ x ∈ binds, fd.scope.names.lookup x.1 = some .local) {Q : Value → Shared → Prop}
    (h : ∀ (env : Env) (s1 : Shared), env = { scope := fd.scope, locals := s.heap.objs.size, globals := fd.globals, cells := fd.closure, qual := fd.qualname ++ ".<locals>.", func := some fi, code := fd.code, frame := some s.heap.objs.size, builtins := fd.builtins } →
      Ext B G s G s1 → s1.heap.Ns env.locals (fun x => binds.reverse.lookup x) → Wp B (A.deeper env) (execs body env) (fun f s' => Q (match f with | .ret v => v | _ => .none) s') s1) : Wp B A (PySem.call (.ref fi) us) Q s := by
  refine wpAny_call (codeAny_call_function (by have := hr.depth; omega) (H.keep _ _ ho) hd hco hgen hbody ⟨c', oc, vs, t, hcode, H.keep _ _ hoc, hdc, hq⟩ ?_)
  rw [hbind]
  refine wpAny_pure (wpAny_newFunctionEnv hcell hl (fun h' hn hs => ?_) hk)
  have x1 : Ext B G s G { s with heap := h', toks := s.toks + binds.length } := Ext.grown ok H fun b ob e => hs.extBut b ob (Nat.ne_of_lt (Heap.lt_size e)) (Heap.get?_push_of_some _ e)
  refine ⟨ok.nolim _ fun b ob e => x1.hp.keep b ob (H.base b ob e), codeAny_func ?_⟩
  exact wpAny_mono (h _ _ rfl x1 hn) (fun f s' q => q) fun _ _ f => f.elim
noncomputable def digs (n : Int) : Nat → Int → Nat → Nat → List V → Option (List V)
  | 0, _, _, _, _ => none
  | d + 1, x, L, R, l => if L + 1 = R then (if L < l.length then some (l.set L (.int x)) else none) else
      match binV .mul (.int (((L + R) / 2 : Nat) - (L : Int))) (.int n) with
      | some (.int sh) => match binV .shr (.int x) (.int sh) with
        | some (.int up) => match binV .shl (.int up) (.int sh) with
          | some (.int t) => match digs n d (Builtin.bitXor x t) L ((L + R) / 2) l with
            | some l' => digs n d up ((L + R) / 2) R l'
            | none => none
          | _ => none
        | _ => none
      | _ => none
set_option tactic.hygienic true in
theorem digs_len (n : Int) : ∀ (d : Nat) (x : Int) (L R : Nat) (l l' : List V), digs n d x L R l = some l' → l'.length = l.length
  | 0, _, _, _, _, _, e => by cases e
  | d + 1, x, L, R, l, l', e => by
    unfold digs at e
    split at e
    · split at e
      · cases e; exact List.length_set ..
      · cases e
    · split at e
      · split at e
        · split at e
          · split at e
            · rename_i h1; rw [digs_len n d _ _ _ _ _ e, digs_len n d _ _ _ _ _ h1]
            · cases e
          · cases e
        · cases e
      · cases e
structure I2In (cx : Cx) (na nL nx nI nn nm ns nu nl : Str) (ib : List Stmt) : Prop where
  text : ∃ c e1 e2 e3 e4 a1 a2 a3 b1 b2 b3 p1 p2 p3 p4 p5 p6 p7 p8 p9 p10 p11 p12 p13 p14 p15 p16 p17 p18 p19 p20 p21,
    ib = [.If c [.Assign [.Subscript (.Name na p1) (.Name nL p2) p3] (.Name nx p4) p5, .Return none p6] [] p7, .Assign [.Name nm p8] e1 p9, .Assign [.Name ns p10] e2 p11, .Assign [.Name nu p12] e3 p13, .Assign [.Name nl p14] e4 p15,
      .Expr (.Call (.Name nI p16) [a1, a2, a3] [] p17) p18, .Expr (.Call (.Name nI p19) [b1, b2, b3] [] p20) p21] ∧
    T cx c (.cmp (.bin .add (.var 1) (.lit (.int 1))) .eq (.var 2)) ∧ T cx e1 (.bin .shr (.bin .add (.var 1) (.var 2)) (.lit (.int 1))) ∧ T cx e2 (.bin .mul (.bin .sub (.var 4) (.var 1)) (.var 3)) ∧ T cx e3 (.bin .shr (.var 0) (.var 5)) ∧
    T cx e4 (.bin .bxor (.var 0) (.bin .shl (.var 6) (.var 5))) ∧ TL cx [a1, a2, a3] [.var 7, .var 1, .var 4] ∧ TL cx [b1, b2, b3] [.var 6, .var 4, .var 2] ∧ isComp e1 = false ∧ isComp e2 = false ∧ isComp e3 = false ∧ isComp e4 = false
  vx : cx.vars.lookup nx = some 0
  vL : cx.vars.lookup nL = some 1
  vm : cx.vars.lookup nm = some 4
  vs : cx.vars.lookup ns = some 5
  vu : cx.vars.lookup nu = some 6
  vl : cx.vars.lookup nl = some 7
  lx : cx.scope.names.lookup nx = some .local
  lm : cx.scope.names.lookup nm = some .local
  ls : cx.scope.names.lookup ns = some .local
  lu : cx.scope.names.lookup nu = some .local
  ll : cx.scope.names.lookup nl = some .local
  fa : cx.scope.names.lookup na = some .free
  fI : cx.scope.names.lookup nI = some .free
  da : (na == ("__debug__" : Str)) = false
  dL : (nL == ("__debug__" : Str)) = false
  dx : (nx == ("__debug__" : Str)) = false
  dI : (nI == ("__debug__" : Str)) = false
  inj : CxF cx
  cok : cx.scope.kind = .function
end
end Mine
namespace Mine
open PySem PySem.Calls
section
variable {B : Base} {n : Nat} {G G' G1 : GMap} {s s' s1 : Shared} {A : Around} {cx : Cx} {env : Env} {σ : Sig}
theorem call_cell (ok : BaseOK B) (hc : cxOk B cx) (X : EnvB cx env) (hr : Room A n) (H : Hp B G s) (R : Rd cx env σ G s.heap) {nI : Str} {p pos : Pos} {fi : Addr} {o : Obj} {fd : FuncData} (rd : Reads1 cx env s.heap nI (.ref fi)) (hd : (nI == ("__debug__" : Str)) = false)
    (ho : G fi = some o) (hf : o.data = .func fd) {es : List Expr} {ms : List ME} (t : TL cx es ms) {vs : List V} (e : evL (run B.free.g n).ev σ ms = some vs) {Q : Value → Shared → Prop}
    (h : ∀ G' s' us, Ext B G s G' s' → Reps G' us vs → Wp B A (PySem.call (.ref fi) us) Q s') : Wp B A (eval (.Call (.Name nI p) es [] pos) env) Q s := by
  refine PyProof.Rows.Call_Name rfl (wpAny_Name (load_var X rd ?_) hd)
  refine callWith_function (o := o) (fd := fd) (args_spec ok (ev_free ok n) hc X hr pos t e H R fun G2 s2 us x2 r => ⟨⟨x2.hp.keep _ _ (x2.le _ _ ho), hf⟩, ?_⟩)
  exact h G2 s2 us x2 r
noncomputable def i2sc : Scope := ⟨.function, [(Str.ofString "x", .local), (Str.ofString "L", .local), (Str.ofString "R", .local), (Str.ofString "mid", .local), (Str.ofString "shift", .local), (Str.ofString "upper", .local), (Str.ofString "lower", .local),
  (Str.ofString "a_digits", .free), (Str.ofString "inner", .free), (Str.ofString "n", .free)], false, false, []⟩
noncomputable def i2cx (fid gid : Str → Option Nat) : Cx := ⟨i2sc, [("x", 0), ("L", 1), ("R", 2), ("n", 3), ("mid", 4), ("shift", 5), ("upper", 6), ("lower", 7)], fid, gid, none⟩
noncomputable def i2b (p : Nat → Pos) : List Stmt :=
  [.If (.Compare (.BinOp (.Name "L" (p 0)) .Add (.Constant (.int 1) 0 (p 1)) (p 2)) [.Eq] [.Name "R" (p 3)] (p 4)) [.Assign [.Subscript (.Name "a_digits" (p 5)) (.Name "L" (p 6)) (p 7)] (.Name "x" (p 8)) (p 9), .Return none (p 10)] [] (p 11),
   .Assign [.Name "mid" (p 12)] (.BinOp (.BinOp (.Name "L" (p 13)) .Add (.Name "R" (p 14)) (p 15)) .RShift (.Constant (.int 1) 0 (p 16)) (p 17)) (p 18),
   .Assign [.Name "shift" (p 19)] (.BinOp (.BinOp (.Name "mid" (p 20)) .Sub (.Name "L" (p 21)) (p 22)) .Mult (.Name "n" (p 23)) (p 24)) (p 25),
   .Assign [.Name "upper" (p 26)] (.BinOp (.Name "x" (p 27)) .RShift (.Name "shift" (p 28)) (p 29)) (p 30),
   .Assign [.Name "lower" (p 31)] (.BinOp (.Name "x" (p 32)) .BitXor (.BinOp (.Name "upper" (p 33)) .LShift (.Name "shift" (p 34)) (p 35)) (p 36)) (p 37),
   .Expr (.Call (.Name "inner" (p 38)) [.Name "lower" (p 39), .Name "L" (p 40), .Name "mid" (p 41)] [] (p 42)) (p 43),
   .Expr (.Call (.Name "inner" (p 44)) [.Name "upper" (p 45), .Name "mid" (p 46), .Name "R" (p 47)] [] (p 48)) (p 49)]
structure I2At (G : GMap) (fi ad ca ci cn : Addr) (N : Int) (o : Obj) (fd : FuncData) (p : Nat → Pos) : Prop where
  obj : G fi = some o
  data : o.data = .func fd
  body : fd.body = .stmts (i2b p)
  scope : fd.scope = i2sc
  code : ∃ c' oc vs t, fd.code = .ref c' ∧ G c' = some oc ∧ oc.data = .fields vs ∧ vs[1]? = some (.str fd.qualname t)
  clo1 : fd.closure.lookup ("a_digits" : Str) = some ca
  clo2 : fd.closure.lookup ("inner" : Str) = some ci
  clo3 : fd.closure.lookup ("n" : Str) = some cn
  ne : ca ≠ ci ∧ ca ≠ cn ∧ ci ≠ cn
  globals : fd.globals = mainGlobals
  builtins : fd.builtins = builtinsNs
  cell1 : G ca = some (cellO (some (.ref ad)))
  cell2 : G ci = some (cellO (some (.ref fi)))
  cell3 : ∃ t, G cn = some (cellO (some (.int N t)))
  bind : ∀ u1 u2 u3, bindArgs fd ⟨[u1, u2, u3], []⟩ = pure [(("x" : Str), u1), (("L" : Str), u2), (("R" : Str), u3)]
theorem I2At.mono {fi ad ca ci cn : Addr} {N : Int} {o : Obj} {fd : FuncData} {p : Nat → Pos} (I : I2At G fi ad ca ci cn N o fd p) (k : G.le G') : I2At G' fi ad ca ci cn N o fd p := by
  obtain ⟨c', oc, vs, t, h1, h2, h3, h4⟩ := I.code
  obtain ⟨t', h5⟩ := I.cell3
  exact ⟨k _ _ I.obj, I.data, I.body, I.scope, ⟨c', oc, vs, t, h1, k _ _ h2, h3, h4⟩, I.clo1, I.clo2, I.clo3, I.ne, I.globals, I.builtins, k _ _ I.cell1, k _ _ I.cell2, ⟨t', k _ _ h5⟩, I.bind⟩
theorem i2_cellish : ∀ y : Str, isCellish (i2sc.names.lookup y) = true → y = "a_digits" ∨ y = "inner" ∨ y = "n" := by
  intro y h
  by_cases h1 : y = "a_digits"
  · exact .inl h1
  by_cases h2 : y = "inner"
  · exact .inr (.inl h2)
  by_cases h3 : y = "n"
  · exact .inr (.inr h3)
  exfalso
  have b1 : (y == Str.ofString "a_digits") = false := beq_eq_false_iff_ne.2 h1
  have b2 : (y == Str.ofString "inner") = false := beq_eq_false_iff_ne.2 h2
  have b3 : (y == Str.ofString "n") = false := beq_eq_false_iff_ne.2 h3
  revert h
  simp only [i2sc, List.lookup, b1, b2, b3]
  repeat' split
  all_goals simp [isCellish]
theorem i2_vars (fid gid : Str → Option Nat) : ∀ x i, (i2cx fid gid).vars.lookup x = some i → (x = "x" ∧ i = 0) ∨ (x = "L" ∧ i = 1) ∨ (x = "R" ∧ i = 2) ∨ (x = "n" ∧ i = 3) ∨ (x = "mid" ∧ i = 4) ∨ (x = "shift" ∧ i = 5) ∨ (x = "upper" ∧ i = 6) ∨ (x = "lower" ∧ i = 7) := by
  intro x i h
  have m := lookup_memN h
  simpa only [i2cx, List.mem_cons, Prod.mk.injEq, List.not_mem_nil, or_false] using m
theorem i2_inj (fid gid : Str → Option Nat) : CxF (i2cx fid gid) := cxf_of (show ([0, 1, 2, 3, 4, 5, 6, 7] : List Nat).Nodup by decide)
theorem i2_env {fi ad ca ci cn : Addr} {N : Int} {o : Obj} {fd : FuncData} {p : Nat → Pos} (H : Hp B G s) (I : I2At G fi ad ca ci cn N o fd p) {env : Env} (he : env = { scope := fd.scope, locals := s.heap.objs.size, globals := fd.globals, cells := fd.closure, qual := fd.qualname ++ ".<locals>.", func := some fi, code := fd.code, frame := some s.heap.objs.size, builtins := fd.builtins }) :
    EnvB (i2cx B.fid B.gid) env := by
  obtain ⟨t, c3⟩ := I.cell3
  have lt : ∀ c o, G c = some o → c ≠ s.heap.objs.size := fun c o e q => by
    have := H.keep c o e
    rw [q, get_size_none] at this; cases this
  subst he
  refine ⟨I.scope, rfl, I.globals, I.builtins, fun y hy => ?_, by rfl, ⟨fun y c hy hc => ?_, fun x y c hx hy h1 h2 => ?_⟩⟩
  · rcases i2_cellish y hy with rfl | rfl | rfl
    · exact ⟨_, I.clo1⟩
    · exact ⟨_, I.clo2⟩
    · exact ⟨_, I.clo3⟩
  · replace hc : fd.closure.lookup y = some c := hc
    rcases i2_cellish y hy with rfl | rfl | rfl
    · rw [I.clo1] at hc; cases hc; exact lt _ _ I.cell1
    · rw [I.clo2] at hc; cases hc; exact lt _ _ I.cell2
    · rw [I.clo3] at hc; cases hc; exact lt _ _ c3
  · replace h1 : fd.closure.lookup x = some c := h1
    replace h2 : fd.closure.lookup y = some c := h2
    have e1 := I.clo1
    have e2 := I.clo2
    have e3 := I.clo3
    obtain ⟨n1, n2, n3⟩ := I.ne
    rcases i2_cellish x hx with rfl | rfl | rfl <;> rcases i2_cellish y hy with rfl | rfl | rfl <;> first | rfl | (exfalso; simp_all)
end
end Mine
namespace Mine
open PySem PySem.Calls
section
variable {B : Base} {n : Nat} {G G' G1 : GMap} {s s' s1 : Shared} {A : Around} {cx : Cx} {env : Env} {σ : Sig}
theorem i2_text (fid gid : Str → Option Nat) (p : Nat → Pos) : (T (i2cx fid gid) (.Compare (.BinOp (.Name "L" (p 0)) .Add (.Constant (.int 1) 0 (p 1)) (p 2)) [.Eq] [.Name "R" (p 3)] (p 4)) (.cmp (.bin .add (.var 1) (.lit (.int 1))) .eq (.var 2))) ∧
    T (i2cx fid gid) (.BinOp (.BinOp (.Name "L" (p 13)) .Add (.Name "R" (p 14)) (p 15)) .RShift (.Constant (.int 1) 0 (p 16)) (p 17)) (.bin .shr (.bin .add (.var 1) (.var 2)) (.lit (.int 1))) ∧
    T (i2cx fid gid) (.BinOp (.BinOp (.Name "mid" (p 20)) .Sub (.Name "L" (p 21)) (p 22)) .Mult (.Name "n" (p 23)) (p 24)) (.bin .mul (.bin .sub (.var 4) (.var 1)) (.var 3)) ∧
    T (i2cx fid gid) (.BinOp (.Name "x" (p 27)) .RShift (.Name "shift" (p 28)) (p 29)) (.bin .shr (.var 0) (.var 5)) ∧
    T (i2cx fid gid) (.BinOp (.Name "x" (p 32)) .BitXor (.BinOp (.Name "upper" (p 33)) .LShift (.Name "shift" (p 34)) (p 35)) (p 36)) (.bin .bxor (.var 0) (.bin .shl (.var 6) (.var 5))) ∧
    TL (i2cx fid gid) [.Name "lower" (p 39), .Name "L" (p 40), .Name "mid" (p 41)] [.var 7, .var 1, .var 4] ∧ TL (i2cx fid gid) [.Name "upper" (p 45), .Name "mid" (p 46), .Name "R" (p 47)] [.var 6, .var 4, .var 2] := by
  have vL : ∀ q, T (i2cx fid gid) (.Name "L" q) (.var 1) := fun q => .var rfl rfl
  have vR : ∀ q, T (i2cx fid gid) (.Name "R" q) (.var 2) := fun q => .var rfl rfl
  have vx : ∀ q, T (i2cx fid gid) (.Name "x" q) (.var 0) := fun q => .var rfl rfl
  have vn : ∀ q, T (i2cx fid gid) (.Name "n" q) (.var 3) := fun q => .var rfl rfl
  have vm : ∀ q, T (i2cx fid gid) (.Name "mid" q) (.var 4) := fun q => .var rfl rfl
  have vs : ∀ q, T (i2cx fid gid) (.Name "shift" q) (.var 5) := fun q => .var rfl rfl
  have vu : ∀ q, T (i2cx fid gid) (.Name "upper" q) (.var 6) := fun q => .var rfl rfl
  have vl : ∀ q, T (i2cx fid gid) (.Name "lower" q) (.var 7) := fun q => .var rfl rfl
  have one : ∀ k q, T (i2cx fid gid) (.Constant (.int 1) k q) (.lit (.int 1)) := fun k q => .cint
  exact ⟨.cmp rfl (.bin rfl (vL _) (one _ _)) (vR _), .bin rfl (.bin rfl (vL _) (vR _)) (one _ _), .bin rfl (.bin rfl (vm _) (vL _)) (vn _), .bin rfl (vx _) (vs _), .bin rfl (vx _) (.bin rfl (vu _) (vs _)),
    .cons (vl _) (.cons (vL _) (.cons (vm _) .nil)), .cons (vu _) (.cons (vm _) (.cons (vR _) .nil))⟩
theorem Leaf.keep (ok : BaseOK B) {α : Addr → Prop} (H : Hp B G s) (l : Leaf cx env σ G s.heap) (x : SExt B α G s G' s') (h1 : ¬ α env.locals) (h2 : ∀ y c, isCellish (cx.scope.names.lookup y) = true → env.cells.lookup y = some c → ¬ α c) : Leaf cx env σ G' s'.heap := by
  obtain ⟨m, hm⟩ := l.ns
  have ns' : ∀ m, s.heap.Ns env.locals m → s'.heap.Ns env.locals m := fun m hm => by
    obtain ⟨o, es, ep, e, r⟩ := hm
    exact ⟨o, es, ep, x.grow _ _ e (H.nottabS ok e (.inr ⟨es, ep, r.1⟩)) h1, r⟩
  have rdk : ∀ y w, Reads1 cx env s.heap y w → Reads1 cx env s'.heap y w := fun y w r => by
    rcases r with ⟨q1, m, q2, q3⟩ | ⟨q1, c, q2, q3⟩
    · exact .inl ⟨q1, m, ns' m q2, q3⟩
    · exact .inr ⟨q1, c, q2, x.keep ok H q3 (by intro q; cases q) (h2 y c q1 q2)⟩
  refine ⟨⟨fun y i hy => ?_, fun y c q1 q2 => ?_⟩, ⟨m, ns' m hm⟩, ?_, l.inj, l.unown⟩
  · have z := l.rd.ent y i hy
    cases e : σ.at i with
    | un => trivial
    | fz w => rw [e] at z; obtain ⟨u, a, b⟩ := z; exact ⟨u, rdk y u a, b.mono x.le⟩
    | own w => exact absurd e (l.unown i w)
  · obtain ⟨v, e⟩ := l.rd.up y c q1 q2
    exact ⟨v, x.keep ok H e (by intro q; cases q) (h2 y c q1 q2)⟩
  · obtain ⟨o, es, ep, e, _⟩ := hm
    rw [x.new _ _ e h1]; exact l.ln
theorem fdiv2 (a b : Nat) : ((a : Int) + (b : Int)).fdiv (2 ^ (1 : Int).toNat) = (((a + b) / 2 : Nat) : Int) := by
  rw [Int.fdiv_eq_ediv_of_nonneg _ (by decide)]
  show ((a : Int) + (b : Int)) / 2 = _
  lia
set_option tactic.hygienic true in
theorem i2_run (ok : BaseOK B) {fi ad ca ci cn : Addr} {N : Int} {o : Obj} {fd : FuncData} {p : Nat → Pos} : ∀ (d : Nat) (x : Int) (L R : Nat) (l l' : List V), digs N d x L R l = some l' →
    ∀ (G : GMap) (s : Shared) (A : Around) (us : List Value) (k : Nat) (v1 v2 v3 : Value), I2At G fi ad ca ci cn N o fd p → Room A (d + 8) → Hp B G s → s.heap.get? ad = some (listO us k) → Reps G us l → G ad = none → l.length ≤ sizeLine →
      Rep G v1 (.int x) → Rep G v2 (.int L) → Rep G v3 (.int R) → ∀ Q : Value → Shared → Prop, (∀ G' s' us' k', SExt B (· = ad) G s G' s' → s'.heap.get? ad = some (listO us' k') → Reps G' us' l' → G' ad = none → Q .none s') → Wp B A (PySem.call (.ref fi) [v1, v2, v3]) Q s
  | 0, _, _, _, _, _, e => by cases e
  | d + 1, x, L, R, l, l', e => by
    intro G s A us k v1 v2 v3 I hr H ha rr ga hz r1 r2 r3 Q h
    have hsz := szLine
    obtain ⟨c', oc, vs, t, k1, k2, k3, k4⟩ := I.code
    obtain ⟨tn, c3⟩ := I.cell3
    have hr8 : Room A (d + 8 + 1) := by
      have e : d + 1 + 8 = d + 8 + 1 := by lia
      rw [← e]; exact hr
    refine enter_nested ok hr8 H I.obj I.data I.body (by rw [I.scope]; rfl) (by rw [I.scope]; rfl) (by rw [I.scope]; rfl) (by
      rw [I.scope]; intro y hy
      simp only [i2sc, List.mem_cons, List.not_mem_nil, or_false] at hy
      rcases hy with rfl | rfl | rfl | rfl | rfl | rfl | rfl | rfl | rfl | rfl <;> (intro q; cases q)) k1 k2 k3 k4 (I.bind v1 v2 v3) (by
      rw [I.scope]; intro y hy
      simp only [List.mem_cons, List.not_mem_nil, or_false] at hy
      rcases hy with rfl | rfl | rfl <;> rfl) fun env s1 henv x1 hns => ?_
    have X : EnvB (i2cx B.fid B.gid) env := i2_env H I henv
    have hcx : cxOk B (i2cx B.fid B.gid) := ⟨rfl, rfl⟩
    have I1 := I.mono x1.le
    have ecl : env.cells = fd.closure := by rw [henv]
    have lnew : ∀ o, s.heap.get? env.locals ≠ some o := fun o q => by
      rw [henv] at q
      replace q : s.heap.get? s.heap.objs.size = some o := q
      rw [get_size_none] at q; cases q
    have ln : G env.locals = none := by
      cases q : G env.locals with
      | none => rfl
      | some o => exact absurd (H.keep _ _ q) (lnew o)
    have la : env.locals ≠ ad := fun q => lnew _ (q ▸ ha)
    have hr' : Room (A.deeper env) (d + 8) := hr8.deeper env
    have hr5 : Room (A.deeper env) 5 := hr'.less (by lia)
    have l0 : Leaf (i2cx B.fid B.gid) env [.fz (.int x), .fz (.int L), .fz (.int R), .fz (.int N), .un, .un, .un, .un] G s1.heap := by
      refine ⟨⟨fun y i hy => ?_, fun y c hy hc => ?_⟩, ⟨_, hns⟩, ln, i2_inj _ _, fun i v q => ?_⟩
      · rcases i2_vars _ _ y i hy with ⟨rfl, rfl⟩ | ⟨rfl, rfl⟩ | ⟨rfl, rfl⟩ | ⟨rfl, rfl⟩ | ⟨rfl, rfl⟩ | ⟨rfl, rfl⟩ | ⟨rfl, rfl⟩ | ⟨rfl, rfl⟩
        · exact ⟨v1, .inl ⟨rfl, _, hns, rfl⟩, r1⟩
        · exact ⟨v2, .inl ⟨rfl, _, hns, rfl⟩, r2⟩
        · exact ⟨v3, .inl ⟨rfl, _, hns, rfl⟩, r3⟩
        · exact ⟨.int N tn, .inr ⟨rfl, cn, by rw [ecl]; exact I.clo3, x1.hp.keep _ _ c3⟩, .int _ _⟩
        all_goals trivial
      · rw [ecl] at hc
        rcases i2_cellish y hy with rfl | rfl | rfl
        · rw [I.clo1] at hc; cases hc; exact ⟨_, x1.hp.keep _ _ I.cell1⟩
        · rw [I.clo2] at hc; cases hc; exact ⟨_, x1.hp.keep _ _ I.cell2⟩
        · rw [I.clo3] at hc; cases hc; exact ⟨_, x1.hp.keep _ _ c3⟩
      · rcases i with _ | _ | _ | _ | _ | _ | _ | _ | i <;> cases q
    have rdA : ∀ {G2 : GMap} {s2 : Shared}, Hp B G2 s2 → G.le G2 → Reads1 (i2cx B.fid B.gid) env s2.heap "a_digits" (.ref ad) := fun H2 le => .inr ⟨rfl, ca, by rw [ecl]; exact I.clo1, H2.keep _ _ (le _ _ I.cell1)⟩
    have rdI : ∀ {G2 : GMap} {s2 : Shared}, Hp B G2 s2 → G.le G2 → Reads1 (i2cx B.fid B.gid) env s2.heap "inner" (.ref fi) := fun H2 le => .inr ⟨rfl, ci, by rw [ecl]; exact I.clo2, H2.keep _ _ (le _ _ I.cell2)⟩
    obtain ⟨t0, t1, t2, t3, t4, t5, t6⟩ := i2_text B.fid B.gid p
    have ha1 : s1.heap.get? ad = some (listO us k) := x1.keep ok H ha (by intro q; cases q)
    -- the whole
    have ev0 : (run B.free.g 5).ev [.fz (.int x), .fz (.int L), .fz (.int R), .fz (.int N), .un, .un, .un, .un] (.cmp (.bin .add (.var 1) (.lit (.int 1))) .eq (.var 2)) = some (.bool ((L : Int) + 1 == (R : Int))) := rfl
    unfold digs at e
    refine wpAny_execs_cons (wpAny_If (bs_free ok 5 _ _ _ t0 hcx _ _ _ ev0 rfl (A.deeper env) env G s1 hr5 X x1.hp l0.rd _ fun G2 s2 x2 => ?_))
    have l2 := l0.ext ok x1.hp x2
    have x02 := x1.trans x2
    have ha2 : s2.heap.get? ad = some (listO us k) := x2.keep ok x1.hp ha1 (by intro q; cases q)
    have rr2 := rr.mono x2.le
    have ga2 : G2 ad = none := (x2.new _ _ ha1).trans ga
    by_cases hLR : L + 1 = R
    · rw [if_pos hLR] at e
      have eb : ((L : Int) + 1 == (R : Int)) = true := by rw [beq_iff_eq]; lia
      rw [eb]
      refine wpAny_execs_cons (wpAny_Assign_Subscript ?_ rfl)
      refine ev_free ok 5 _ _ (.var 0) (.var rfl rfl) hcx _ (.int x) rfl (A.deeper env) env G2 s2 hr5 X x2.hp l2.rd _ fun G3 s3 u3 x3 ru3 => ?_
      have l3 := l2.ext ok x2.hp x3
      refine wpAny_Name (load_var X (rdA x3.hp (x02.le.trans x3.le)) ?_) rfl
      refine ev_free ok 5 _ _ (.var 1) (.var rfl rfl) hcx _ (.int L) rfl (A.deeper env) env G3 s3 hr5 X x3.hp l3.rd _ fun G4 s4 u4 x4 ru4 => ?_
      have x04 := x02.trans (x3.trans x4)
      have ha4 : s4.heap.get? ad = some (listO us k) := x4.keep ok x3.hp (x3.keep ok x2.hp ha2 (by intro q; cases q)) (by intro q; cases q)
      have ga4 : G4 ad = none := (x4.new _ _ (x3.keep ok x2.hp ha2 (by intro q; cases q))).trans ((x3.new _ _ ha2).trans ga2)
      have hlen := rr.length
      split at e
      · rename_i hL
        cases e
        obtain ⟨t, rfl⟩ := ru4.int_inv
        refine setItem_exact ha4 (by lia) (by lia) (by lia) fun h' n' e2 kp => ?_
        refine wpAny_execs_cons (wpAny_Return_none ?_)
        have x5 : SExt B (· = ad) G4 s4 G4 { s4 with heap := h' } := SExt.kept (tk := s4.toks) ok x4.hp (fun b q => by rw [q]; exact ga4) (fun b q => by
          rw [q]; exact x4.hp.nottab ok ha4 (by intro q; cases q)) fun b ob q eb => (kp b q).trans eb
        refine h G4 _ (us.set L u3) n' ((x04.sx _).trans x5 fun a q => .inl q) ?_ ((rr.mono x04.le).set (ru3.mono x4.le)) ga4
        have e3 : ((L : Int)).toNat = L := by lia
        rw [e3] at e2
        exact e2
      · cases e
    · rw [if_neg hLR] at e
      have eb : ((L : Int) + 1 == (R : Int)) = false := by rw [beq_eq_false_iff_ne]; lia
      rw [eb]
      refine wpAny_execs_nil ?_
      have ev1 : (run B.free.g 5).ev [.fz (.int x), .fz (.int L), .fz (.int R), .fz (.int N), .un, .un, .un, .un] (.bin .shr (.bin .add (.var 1) (.var 2)) (.lit (.int 1))) = some (.int (((L + R) / 2 : Nat) : Int)) := by
        show some (V.int (((L : Int) + (R : Int)).fdiv (2 ^ (1 : Int).toNat))) = _
        rw [fdiv2]
      refine wpAny_execs_cons (leaf_assign (i := 4) ok hcx X hr5 x2.hp l2 rfl rfl t1 rfl ev1 fun G3 s3 x3 l3 => ?_)
      generalize hm : (L + R) / 2 = m at e l3
      split at e
      · rename_i sh hsh
        refine wpAny_execs_cons (leaf_assign (i := 5) ok hcx X hr5 x3.hp l3 rfl rfl t2 rfl (v := .int sh) hsh fun G4 s4 x4 l4 => ?_)
        split at e
        · rename_i up hup
          refine wpAny_execs_cons (leaf_assign (i := 6) ok hcx X hr5 x4.hp l4 rfl rfl t3 rfl (v := .int up) hup fun G5 s5 x5 l5 => ?_)
          split at e
          · rename_i tt htt
            have ev4 : (run B.free.g 5).ev [.fz (.int x), .fz (.int L), .fz (.int R), .fz (.int N), .fz (.int m), .fz (.int sh), .fz (.int up), .un] (.bin .bxor (.var 0) (.bin .shl (.var 6) (.var 5))) = some (.int (Builtin.bitXor x tt)) := by
              show (match binV .shl (.int up) (.int sh) with | some y => binV .bxor (.int x) y | none => none) = _
              rw [htt]; rfl
            refine wpAny_execs_cons (leaf_assign (i := 7) ok hcx X hr5 x5.hp l5 rfl rfl t4 rfl ev4 fun G6 s6 x6 l6 => ?_)
            split at e
            · rename_i l1 he1
              have x06 : SExt B (· = env.locals) G s G6 s6 := (((x02.sx _).trans x3 fun a q => .inl q).trans (x4.trans x5 fun a q => .inl q) fun a q => .inl q).trans x6 fun a q => .inl q
              have ha6 : s6.heap.get? ad = some (listO us k) := x06.keep ok H ha (by intro q; cases q) fun q => la q.symm
              have ga6 : G6 ad = none := (x06.new _ _ ha fun q => la q.symm).trans ga
              refine wpAny_execs_cons (wpAny_Expr ?_ X.quiet rfl)
              refine call_cell ok hcx X hr5 x6.hp l6.rd (rdI x6.hp x06.le) rfl (x06.le _ _ I.obj) I.data t5 (vs := [.int (Builtin.bitXor x tt), .int L, .int m]) rfl fun G7 s7 us7 x7 r7 => ?_
              have l7 := l6.ext ok x6.hp x7
              have ha7 : s7.heap.get? ad = some (listO us k) := x7.keep ok x6.hp ha6 (by intro q; cases q)
              have ga7 : G7 ad = none := (x7.new _ _ ha6).trans ga6
              have x07 := x06.trans (x7.sx (· = env.locals)) fun a q => .inl q
              obtain ⟨w1, w2, w3, rfl, q1, q2, q3⟩ := r7.three_inv
              refine i2_run ok d _ L m l l1 he1 G7 s7 (A.deeper env) us k w1 w2 w3 (I.mono x07.le) hr' x7.hp ha7 (rr.mono x07.le) ga7 hz q1 q2 q3 _ fun G8 s8 us8 k8 x8 a8 rr8 ga8 => ?_
              have cad : ∀ y c, isCellish ((i2cx B.fid B.gid).scope.names.lookup y) = true → env.cells.lookup y = some c → ¬ c = ad := fun y c q1 q2 q3 => by
                obtain ⟨v, ev⟩ := l7.rd.up y c q1 q2
                rw [q3, ha7] at ev
                exact absurd (congrArg Obj.data (Option.some.inj ev)) (by intro q; cases q)
              have l8 := l7.keep ok x7.hp x8 la cad
              have x08 : SExt B (fun a => a = env.locals ∨ a = ad) G s G8 s8 := (x07.weaken fun a q => .inl (.inl q)).trans x8 fun a q => .inl (.inr q)
              have hl1 : l1.length ≤ sizeLine := by rw [digs_len N d _ _ _ _ _ he1]; exact hz
              refine wpAny_execs_cons (wpAny_Expr ?_ X.quiet rfl)
              refine call_cell ok hcx X hr5 x8.hp l8.rd (rdI x8.hp x08.le) rfl (x08.le _ _ I.obj) I.data t6 (vs := [.int up, .int m, .int R]) rfl fun G9 s9 us9 x9 r9 => ?_
              have ha9 : s9.heap.get? ad = some (listO us8 k8) := x9.keep ok x8.hp a8 (by intro q; cases q)
              have ga9 : G9 ad = none := (x9.new _ _ a8).trans ga8
              have x09 := x08.trans (x9.sx (fun a => a = env.locals ∨ a = ad)) fun a q => .inl q
              obtain ⟨w1, w2, w3, rfl, q1, q2, q3⟩ := r9.three_inv
              refine i2_run ok d _ m R l1 l' e G9 s9 (A.deeper env) us8 k8 w1 w2 w3 (I.mono x09.le) hr' x9.hp ha9 (rr8.mono x9.le) ga9 hl1 q1 q2 q3 _ fun G10 s10 us10 k10 x10 a10 rr10 ga10 => ?_
              refine wpAny_execs_nil ?_
              refine h G10 s10 us10 k10 ((x09.trans x10 fun a q => .inl (.inr q)).weaken fun a q => ?_) a10 rr10 ga10
              rcases q with q | q
              · right
                cases z : s.heap.get? a with
                | none => rfl
                | some ob => exact absurd (q ▸ z) (lnew ob)
              · exact .inl q
            · cases e
          · cases e
        · cases e
      · cases e
end
end Mine
namespace Mine
open PySem PySem.Calls PySem.W
structure TabP where
  c : Addr
  P : Addr
  pos : Pos
  qual : Str
noncomputable def tok1 (T : TabP) (G : GMap) (h : Heap) : Prop := h.get? T.P = some (tabObj #[]) ∨
  ∃ c' oc vs t, h.get? T.P = some (tabObj #[rawInt T.pos.line, rawInt T.pos.col, .ref c']) ∧ G c' = some oc ∧ oc.data = .fields vs ∧ vs[1]? = some (.str T.qual t)
structure TabsB (B : Base) (tabs : List TabP) : Prop where
  tok : ∀ G h, B.tok G h ↔ ∀ T ∈ tabs, tok1 T G h
  tab : ∀ b, B.tab b ↔ ∃ T ∈ tabs, b = T.P
  ne : ∀ T ∈ tabs, ∀ T' ∈ tabs, T.P = T'.P → T = T'
  code : ∀ T ∈ tabs, ∀ h : Heap, (∀ b o, B.G0 b = some o → h.get? b = some o) → CodeHd h T.c T.P
  blt : ∀ T ∈ tabs, ∀ h : Heap, (∀ b o, B.G0 b = some o → h.get? b = some o) → h.BuiltinsAt B.mg T.P
theorem tok1.mono {T : TabP} {G G' : GMap} {h h' : Heap} (x : tok1 T G h) (k : G.le G') (e : h'.get? T.P = h.get? T.P) : tok1 T G' h' := by
  rcases x with x | ⟨c', oc, vs, t, x, y, z⟩
  · exact .inl (e.trans x)
  · exact .inr ⟨c', oc, vs, t, e.trans x, k _ _ y, z⟩
theorem TabsB.tokM {B : Base} {tabs : List TabP} (TB : TabsB B tabs) : ∀ {G G' h h'}, B.tok G h → G.le G' → (∀ b, B.tab b → h'.get? b = h.get? b) → B.tok G' h' := fun x k e =>
  (TB.tok _ _).2 fun T hT => ((TB.tok _ _).1 x T hT).mono k (e _ ((TB.tab _).2 ⟨T, hT, rfl⟩))
theorem TabsB.tabF {B : Base} {tabs : List TabP} (TB : TabsB B tabs) : ∀ {G h b}, B.tok G h → B.tab b → ∃ o, h.get? b = some o ∧ o.cls = .none ∧ ∃ ps, o.data = .fields ps := fun x y => by
  obtain ⟨T, hT, rfl⟩ := (TB.tab _).1 y
  rcases (TB.tok _ _).1 x T hT with e | ⟨c', oc, vs, t, e, _⟩
  · exact ⟨_, e, rfl, _, rfl⟩
  · exact ⟨_, e, rfl, _, rfl⟩
section
variable {B : Base} {n : Nat} {G G' G1 : GMap} {s s' s1 : Shared} {A : Around} {env : Env}
theorem size_le_none {h : Heap} {a : Addr} (q : @LE.le Nat instLENat h.objs.size a) : h.get? a = none := by
  cases e : h.get? a with
  | none => rfl
  | some o => exact absurd (Heap.lt_size e) (Nat.not_lt.mpr q)
theorem fn_made (ok : BaseOK B) {tabs : List TabP} (TB : TabsB B tabs) {T : TabP} (hT : T ∈ tabs) (H : Hp B G s) {name : Str} {params : Arguments} {body : List Stmt} {scope : Scope} {clos : List (Str × Addr)} {firstLine : Nat}
    (hcl : closureFor scope env = pure clos) (hg : env.globals = mainGlobals) (hcode : env.code = .ref T.c) {Q : Value → Shared → Prop}
    (h : ∀ G' s' f c' ctv doc oc vs t, Ext B G s G' s' → s.heap.get? f = none → G' f = some (fnMade name T.qual params body scope clos doc ((B.mg "__name__").getD .none) c' ctv) → G' c' = some oc → oc.data = .fields vs → vs[1]? = some (.str T.qual t) → Q (.ref f) s') :
    Wp B A (makeFunction name T.qual params (.stmts body) scope env [] [] [] T.pos firstLine) Q s := by
  have k0 : ∀ b o, B.G0 b = some o → s.heap.get? b = some o := fun b o e => H.keep b o (H.base b o e)
  have tT : B.tab T.P := (TB.tab _).2 ⟨T, hT, rfl⟩
  have hgN := ok.nsg s.heap k0
  rcases (TB.tok _ _).1 H.tok T hT with e | ⟨c', oc, vs, t, e, h1, h2, h3⟩
  · have hgP : mainGlobals ≠ T.P := fun q => by
      obtain ⟨o, es, ep, e', hd, _⟩ := hgN
      rw [q, e] at e'; cases e'; cases hd
    refine makeFunction_K (ps := #[]) hcl hg hgN hcode (TB.code T hT _ k0) e trivial rfl hgP (TB.blt T hT _ k0) fun c' ctv doc h' tk hx hge hlt hrec htb => ?_
    obtain ⟨c2, oc, vs, t, e2, hoc, hd, hv⟩ := hrec
    cases e2
    have nc : s.heap.get? c' = none := size_le_none hge
    have nf : s.heap.get? h'.objs.size = none := size_le_none (Nat.le_trans hge (Nat.le_of_lt hlt))
    generalize hob : fnMade name T.qual params body scope clos doc ((B.mg "__name__").getD .none) c' ctv = ob
    have hof : ob.isFreed = false := by rw [← hob]; rfl
    have gl : G.le ((G.add c' oc).add h'.objs.size ob) := (GMap.le_add (.inl (H.noneG nc))).trans (GMap.le_add (.inl (by
      rw [G.add_ne _ (Nat.ne_of_gt hlt)]; exact H.noneG nf)))
    have atc : ((G.add c' oc).add h'.objs.size ob) c' = some oc := by rw [GMap.add_ne _ _ (Nat.ne_of_lt hlt), GMap.add_at]
    have tabold : ∀ b, B.tab b → ∃ o, s.heap.get? b = some o := fun b hb => let ⟨o, e, _⟩ := ok.tabF H.tok hb; ⟨o, e⟩
    have x1 : Ext B G s ((G.add c' oc).add h'.objs.size ob) { s with heap := h'.push ob, toks := tk } := by
      refine ⟨gl, ⟨H.base.trans gl, fun b o eb => ?_, fun b hb => ?_, ?_, H.os, H.gens⟩, fun b o eb nb => ?_, fun b o eb => ?_⟩
      · by_cases q1 : b = h'.objs.size
        · subst q1; rw [GMap.add_at] at eb; cases eb
          exact Heap.get?_push_size _ hof
        · rw [GMap.add_ne _ _ q1] at eb
          by_cases q2 : b = c'
          · subst q2; rw [GMap.add_at] at eb; cases eb
            exact Heap.get?_push_of_some _ hoc
          · rw [GMap.add_ne _ _ q2] at eb
            refine Heap.get?_push_of_some _ (hx b o (fun q => ?_) (H.keep b o eb))
            rw [q, H.tabG _ tT] at eb; cases eb
      · obtain ⟨o, eo⟩ := tabold b hb
        rw [GMap.add_ne _ _ (fun q => by rw [q, nf] at eo; cases eo), GMap.add_ne _ _ (fun q => by rw [q, nc] at eo; cases eo)]
        exact H.tabG b hb
      · refine (TB.tok _ _).2 fun T' hT' => ?_
        by_cases q : T'.P = T.P
        · have := TB.ne T' hT' T hT q
          subst this
          exact .inr ⟨c', oc, vs, t, Heap.get?_push_of_some _ (by simpa using htb), atc, hd, hv⟩
        · have z := (TB.tok _ _).1 H.tok T' hT'
          obtain ⟨o, eo⟩ := tabold T'.P ((TB.tab _).2 ⟨T', hT', rfl⟩)
          exact z.mono gl ((Heap.get?_push_of_some _ (hx _ _ q eo)).trans eo.symm)
      · exact Heap.get?_push_of_some _ (hx b o (fun q => nb (q ▸ tT)) eb)
      · rw [GMap.add_ne _ _ (fun q => by rw [q, nf] at eb; cases eb), GMap.add_ne _ _ (fun q => by rw [q, nc] at eb; cases eb)]
    exact h _ _ _ c' ctv doc oc vs t x1 nf (by rw [GMap.add_at, hob]) atc hd hv
  · refine makeFunction_hit hcl hg hgN hcode (TB.code T hT _ k0) e trivial (cv := .ref c') (by simp [codeAmong, rawInt]) (TB.blt T hT _ k0) fun ctv doc h' tk hk hsz => ?_
    have x1 : Ext B G s G { s with heap := h', toks := tk } := Ext.grown ok H hk
    have nf : s.heap.get? h'.objs.size = none := size_le_none hsz
    have x2 := x1.trans (Ext.push (o := fnMade name T.qual params body scope clos doc ((B.mg "__name__").getD .none) c' ctv) (tk := tk) ok x1.hp rfl (by intro q; cases q))
    exact h _ _ _ c' ctv doc oc vs t x2 nf (GMap.add_at _ _ _) (x2.le _ _ h1) h2 h3
end
end Mine
namespace Mine
open PySem PySem.Calls PySem.W
section
variable {B : Base} {n : Nat} {G G' G1 : GMap} {s s' s1 : Shared} {A : Around}
set_option tactic.hygienic true in
theorem enter0 (ok : BaseOK B) {f p sl : Nat} {ms : List MS} {o : Obj} {fd : FuncData} {ss : List Stmt} {cx : Cx} {params : List Str} (K : FnOK B f p sl none ms o fd ss cx params) {vs : List V} {σ : Sig} (hfr : frame p sl none vs = some σ)
    (hr : Room A (n + 1)) (H : Hp B G s) {us : List Value} (hu : Reps G us vs) {Q : Value → Shared → Prop}
    (h : ∀ env s4 α4 oa4, EnvB cx env → env.code = fd.code → env.qual = fd.qualname ++ ".<locals>." → Ext B G s G s4 → (∀ a, α4 a → s.heap.get? a = none) → Fr cx env α4 oa4 (0 : Addr) σ G s4.heap →
      Wp B (A.deeper env) (execs ss env) (fun f s' => Q (match f with | .ret v => v | _ => .none) s') s4) : Wp B A (PySem.call (.ref (B.fa f)) us) Q s := by
  have hvp : vs.length = p := by
    unfold frame at hfr
    split at hfr
    · rename_i q; exact q
    · cases hfr
  have kp : ∀ b ob, B.G0 b = some ob → s.heap.get? b = some ob := fun b ob e => H.keep b ob (H.base b ob e)
  refine wpAny_call ?_
  refine codeAny_call_function (by have := hr.depth; omega) (kp _ _ K.obj) K.data K.co K.gen K.body (K.code s.heap kp) ?_
  rw [K.bind us (by rw [hu.length]; exact hvp), K.clo]
  refine wpAny_pure ?_
  simp only [newFunctionEnv, Option.isSome_none, Bool.false_eq_true, if_false]
  refine wpAny_bind (wpAny_alloc ?_)
  refine wpAny_bind (wpAny_layCells _ (fun name kind cells => by cases hkc : kind == NameKind.cell <;> simp) _ _ _ _ ?_)
  have szp : (s.heap.push { cls := .type "frame", data := .dict #[] }).objs.size = s.heap.objs.size + 1 := Heap.size_push ..
  generalize hhp : s.heap.push { cls := .type "frame", data := .dict #[] } = hp at szp
  have kpp : ∀ b ob, s.heap.get? b = some ob → hp.get? b = some ob := fun b ob e => by rw [← hhp]; exact Heap.get?_push_of_some _ e
  obtain ⟨c1, c2, c3⟩ := cells_new fd.scope.names hp [] K.nd
  show Wp B A.in1 _ _ { s with heap := pushCells hp fd.scope.names }
  generalize hcl : cellsFrom ({ s with heap := hp } : Shared).heap.objs.size fd.scope.names [] = cl
  have hcl' : cellsFrom hp.objs.size fd.scope.names [] = cl := hcl
  rw [hcl'] at c1 c2 c3
  generalize hh3 : pushCells hp fd.scope.names = h3 at c1
  have k3 : ∀ b ob, s.heap.get? b = some ob → h3.get? b = some ob := fun b ob e => by rw [← hh3]; exact pushCells_keeps _ _ _ _ (kpp b ob e)
  generalize henv : ({ scope := fd.scope, locals := s.heap.objs.size, globals := fd.globals, cells := cl, qual := fd.qualname ++ ".<locals>.", func := some (B.fa f), code := fd.code, frame := some s.heap.objs.size, builtins := fd.builtins } : Env) = env
  have cellish : ∀ x, isCellish (cx.scope.names.lookup x) = true → (x, NameKind.cell) ∈ fd.scope.names := fun x hx => by
    rw [K.scope] at hx
    cases q : fd.scope.names.lookup x with
    | none => rw [q] at hx; cases hx
    | some k =>
      rw [q] at hx
      induction k using PySem.NameKind.casesOn <;> first | exact lookup_mem q | exact absurd q (K.nofree x) | cases hx
  have ecell : env.cells = cl := by rw [← henv]
  have eloc : env.locals = s.heap.objs.size := by rw [← henv]
  have cgt : ∀ x a, (x, NameKind.cell) ∈ fd.scope.names → cl.lookup x = some a → @LT.lt Nat instLTNat s.heap.objs.size a := fun x a hx ha => by
    obtain ⟨a', q1, q2, _⟩ := c1 x hx
    rw [ha] at q1; cases q1
    have q2' : @LE.le Nat instLENat hp.objs.size a := q2
    omega
  have X : EnvB cx env := by
    refine ⟨by rw [← henv]; exact K.scope.symm, by rw [K.scope]; exact K.kind, by rw [← henv]; exact K.globals, by rw [← henv]; exact K.builtins, fun x hx => ?_, by rw [K.scope]; exact K.nocd, ⟨fun y c hy hc => ?_, fun x y c hx hy ex ey => ?_⟩⟩
    · obtain ⟨a, q1, _⟩ := c1 x (cellish x hx)
      rw [ecell]; exact ⟨a, q1⟩
    · rw [ecell] at hc
      rw [eloc]
      exact addr_ne (.inr (cgt y c (cellish y hy) hc))
    · rw [ecell] at ex ey
      exact c3 x y c (cellish x hx) (cellish y hy) ex ey
  have hns : h3.Ns env.locals (fun _ => none) := by
    rw [eloc, ← hh3]
    exact (Heap.Ns.new s.heap (.type "frame")).keeps fun b ob e => pushCells_keeps _ _ b ob (by rw [← hhp]; exact e)
  have x3 : Ext B G s G { s with heap := h3 } := Ext.grown (tk := s.toks) ok H k3
  have fr : ∀ a : Addr, @LE.le Nat instLENat s.heap.objs.size a → s.heap.get? a = none := fun a ha => none_of_size ha
  have hloc : ∀ x i, cx.vars.lookup x = some i → ∃ a, WAt cx env h3 x a ∧ (a = env.locals ∨ ∃ x, (x, NameKind.cell) ∈ fd.scope.names ∧ cl.lookup x = some a) := fun x i hx => by
    rcases K.vars x i hx with q | q
    · exact ⟨_, .inl ⟨by rw [K.scope]; exact q, rfl, _, hns⟩, .inl rfl⟩
    · obtain ⟨a, q1, q2, q3⟩ := c1 x (lookup_mem q)
      exact ⟨a, .inr ⟨by rw [K.scope]; exact q, by rw [ecell]; exact q1, none, q3⟩, .inr ⟨x, lookup_mem q, q1⟩⟩
  have F0 : Fr cx env (fun a => a = env.locals ∨ ∃ x, (x, NameKind.cell) ∈ fd.scope.names ∧ cl.lookup x = some a) (fun _ => (0 : Addr)) (0 : Addr) (List.replicate sl .un) G h3 := by
    have un : ∀ i, Sig.at (List.replicate sl .un) i = .un := fun i => by
      unfold Sig.at
      rw [List.getD_eq_getElem?_getD, List.getElem?_replicate]
      split <;> rfl
    refine ⟨(fun x i hx => by rw [un]; trivial), fun y c h1 h2 => ?_, hloc, (fun x i v hx hi => absurd ((un _).symm.trans hi) (by intro q; cases q)), (fun x y i j v w hx hy hi hj e => absurd ((un _).symm.trans hi) (by intro q; cases q)), fun a ha => ?_, (fun x i v hx hio hi => absurd ((un _).symm.trans hi) (by intro q; cases q))⟩
    · obtain ⟨a, q1, _, q3⟩ := c1 y (cellish y h1)
      rw [ecell] at h2
      rw [h2] at q1; cases q1
      exact ⟨none, q3⟩
    · rcases ha with rfl | ⟨x, hx, hl⟩
      · obtain ⟨ob, es, ep, e, r⟩ := hns
        refine ⟨H.noneG (by rw [eloc]; exact fr _ (Nat.le_refl _)), ob, e, .inr ⟨es, ep, r.1⟩⟩
      · obtain ⟨a', q1, q2, q3⟩ := c1 x hx
        rw [hl] at q1; cases q1
        refine ⟨H.noneG (fr _ ?_), _, q3, .inl (by intro q; cases q)⟩
        have := cgt x a hx hl
        omega
  have αfr : ∀ a, (a = env.locals ∨ ∃ x, (x, NameKind.cell) ∈ fd.scope.names ∧ cl.lookup x = some a) → s.heap.get? a = none := fun a ha => by
    rcases ha with rfl | ⟨x, hx, hl⟩
    · rw [eloc]; exact fr _ (Nat.le_refl _)
    · have := cgt x a hx hl; exact fr _ (by omega)
  refine wpAny_bind (bind_spec (ioa := (0 : Addr)) ok X K.cxf _ (fun _ _ _ => rfl) params us vs 0 (List.replicate sl .un) { s with heap := h3 } _ (fun _ => (0 : Addr)) hu.length (by rw [K.plen, hu.length]; exact hvp.symm) (fun j x hx => by rw [Nat.zero_add]; exact K.slots j x hx) (fun j u w hu' hw' => ?_) x3.hp F0
    (β := fun a => a = env.locals ∨ ∃ x, (x, NameKind.cell) ∈ fd.scope.names ∧ cl.lookup x = some a) (fun x i a hx ha => ?_) fun s4 α4 oa4 x4 h4 F4 => wpAny_pure ?_)
  · rw [Nat.zero_add, K.io]
    exact ⟨fun _ => hu.at hu' hw', fun q => by cases q⟩
  · exact Fr.sat (s := { s with heap := h3 }) F0 hx ha
  · have x04 : Ext B G s G s4 := ((x3.sx (fun _ => False)).trans x4 fun a ha => .inr (αfr a ha)).ext fun _ f => f.elim
    refine ⟨ok.nolim _ fun b ob e => x04.hp.keep b ob (H.base b ob e), codeAny_func ?_⟩
    have F5 : Fr cx env α4 oa4 (0 : Addr) σ G s4.heap := F4.congr fun i => by
      rw [K.io]; exact (frame_at hfr K.pn i).symm
    refine wpAny_mono (h env s4 α4 oa4 X (by rw [← henv]) (by rw [← henv]) x04 (fun a ha => by
      rcases h4 a ha with q | ⟨⟨j, q, _⟩, z⟩
      · exact αfr a q
      · rw [K.io] at q; cases q) F5) (fun f s' q => q) fun _ _ f => f.elim
end
end Mine
namespace Mine
open PySem PySem.Calls PySem.W
section
variable {B : Base} {n : Nat} {G G' G1 : GMap} {s s' s1 : Shared} {A : Around} {cx : Cx} {env : Env} {σ : Sig}
theorem Ext.none (ok : BaseOK B) (H : Hp B G s) (x : Ext B G s G' s') {a : Addr} (e : s'.heap.get? a = none) : s.heap.get? a = none := by
  cases q : s.heap.get? a with
  | none => rfl
  | some o =>
    by_cases t : B.tab a
    · obtain ⟨o', e', _⟩ := ok.tabF x.hp.tok t
      rw [e] at e'; cases e'
    · rw [x.grow a o q t] at e; cases e
noncomputable def i2osc : Scope := ⟨.function, [(Str.ofString "a", .local), (Str.ofString "n", .cell), (Str.ofString "a_digits", .cell), (Str.ofString "inner", .cell), (Str.ofString "len", .globalImplicit)], false, false, []⟩
noncomputable def i2ocx (fid gid : Str → Option Nat) : Cx := ⟨i2osc, [("a", 0), ("n", 1), ("a_digits", 2), ("inner", 3)], fid, gid, none⟩
noncomputable def args3 (x y z : Str) (p : Nat → Pos) : Arguments := { posonlyargs := [], args := [{ arg := x, annotation := none, pos := p 0 }, { arg := y, annotation := none, pos := p 1 }, { arg := z, annotation := none, pos := p 2 }], vararg := none, kwonlyargs := [], kw_defaults := [], kwarg := none, defaults := [] }
noncomputable def i2z (p : Nat → Pos) : Expr := .BinOp (.List [.Constant (.int 0) 0 (p 1)] (p 2)) .Mult (.BinOp (.BinOp (.BinOp (.Call (.Attribute (.Name "a" (p 3)) "bit_length" (p 4)) [] [] (p 5)) .Add (.Name "n" (p 6)) (p 7)) .Sub (.Constant (.int 1) 0 (p 8)) (p 9)) .FloorDiv (.Name "n" (p 10)) (p 11)) (p 12)
noncomputable def i2o (p pa pi : Nat → Pos) : List Stmt :=
  [.Assign [.Name "a_digits" (p 0)] (i2z p) (p 13),
   .FunctionDef "inner" (args3 "x" "L" "R" pa) (i2b pi) [] none [] i2sc none "inner" (p 17),
   .If (.Name "a" (p 18)) [.Expr (.Call (.Name "inner" (p 19)) [.Name "a" (p 20), .Constant (.int 0) 0 (p 21), .Call (.Name "len" (p 22)) [.Name "a_digits" (p 23)] [] (p 24)] [] (p 25)) (p 26)] [] (p 27),
   .Return (some (.Name "a_digits" (p 28))) (p 29)]
noncomputable def i2zm : ME := .bin .mul (.list [.lit (.int 0)]) (.bin .fdiv (.bin .sub (.bin .add (.meth .bitlen (.var 0) []) (.var 1)) (.lit (.int 1))) (.var 1))
theorem i2z_t (fid gid : Str → Option Nat) (p : Nat → Pos) (hp : ((p 4).endLine == (p 5).line) = true) : T (i2ocx fid gid) (i2z p) i2zm := by
  have va : ∀ q, T (i2ocx fid gid) (.Name "a" q) (.var 0) := fun q => .var rfl rfl
  have vn : ∀ q, T (i2ocx fid gid) (.Name "n" q) (.var 1) := fun q => .var rfl rfl
  exact .bin rfl (.list (by simp) (.cons .cint .nil)) (.bin rfl (.bin rfl (.bin rfl (.meth rfl rfl (by decide) hp (va _) .nil) (vn _)) .cint) (vn _))
noncomputable def i2V (vs : List V) : Option V := match vs with
  | [.int a, .int n] => match binV .fdiv (.int ((bitsOf a : Int) + n - 1)) (.int n) with
    | some m => match binV .mul (.list [.int 0]) m with
      | some (.list z) => if a = 0 then some (.list z) else match digs n 24 a 0 z.length z with
        | some l => some (.list l)
        | none => none
      | _ => none
    | none => none
  | _ => none
theorem i2o_vars (fid gid : Str → Option Nat) : ∀ x i, (i2ocx fid gid).vars.lookup x = some i → (x = "a" ∧ i = 0) ∨ (x = "n" ∧ i = 1) ∨ (x = "a_digits" ∧ i = 2) ∨ (x = "inner" ∧ i = 3) := by
  intro x i h
  have m := lookup_memN h
  simpa only [i2ocx, List.mem_cons, Prod.mk.injEq, List.not_mem_nil, or_false] using m
theorem i2o_closure {ca ci cn : Addr} (h1 : env.cells.lookup ("a_digits" : Str) = some ca) (h2 : env.cells.lookup ("inner" : Str) = some ci) (h3 : env.cells.lookup ("n" : Str) = some cn) : closureFor i2sc env = pure [(Str.ofString "n", cn), (Str.ofString "inner", ci), (Str.ofString "a_digits", ca)] := by
  have e1 : cellOf env (Str.ofString "a_digits") = pure ca := by unfold cellOf; rw [h1]
  have e2 : cellOf env (Str.ofString "inner") = pure ci := by unfold cellOf; rw [h2]
  have e3 : cellOf env (Str.ofString "n") = pure cn := by unfold cellOf; rw [h3]
  unfold closureFor i2sc
  simp only [List.forIn_cons, List.forIn_nil, e1, e2, e3, beq_self_eq_true, if_true, pure_bind]
  rfl
end
end Mine
namespace Mine
open PySem PySem.Calls PySem.W
section
variable {B : Base} {n : Nat} {G G' G1 : GMap} {s s' s1 : Shared} {A : Around} {cx : Cx} {env : Env} {σ : Sig}
theorem len_own (ok : BaseOK B) (hc : cxOk B cx) (X : EnvB cx env) (H : Hp B G s) (hg : cx.glob "len") {x : Str} {ad : Addr} {us : List Value} {k : Nat} (rd : Reads1 cx env s.heap x (.ref ad)) (hd : (x == ("__debug__" : Str)) = false) (ha : s.heap.get? ad = some (listO us k)) (hz : us.length ≤ sizeLine) {p1 p2 p3 : Pos}
    {Q : Value → Shared → Prop} (h : ∀ tk t, Q (.int us.length t) { s with toks := tk }) : Wp B A (eval (.Call (.Name "len" p1) [.Name x p2] [] p3) env) Q s := by
  have hsz := szLine
  refine PyProof.Rows.Call_Name rfl (load_glob ok H X hg (.inr ⟨ok.prim "len" .len rfl, ok.plen⟩) ?_ rfl)
  refine prim_callWith (p := .len) rfl (evalArgs_plain (wpAny_items_cons (wpAny_Name (load_var X rd (wpAny_items_nil ?_)) hd)))
  refine call_len_list (isList_of ha) (by rw [List.size_toArray]; omega) ?_
  rw [List.size_toArray]
  exact h _ _
theorem evalArgs_of {pos : Pos} {es : List Expr} {ms : List ME} (t : TL cx es ms) (hne : es ≠ []) {f : Value} {Q : Args → Shared → Prop} (key : Wp B A (spliced (backTo pos (starEach es env))) (fun us s' => Q ⟨us, []⟩ s') s) : Wp B A (evalArgs f true (backTo pos (starEach es env)) []) Q s := by
  induction ms using List.casesOn with
  | nil => obtain rfl := t; exact absurd rfl hne
  | cons m ms =>
    obtain ⟨e, l, rfl, t, r⟩ := t
    rw [t.notStar] at key ⊢
    exact evalArgs_plain key
set_option tactic.hygienic true in
theorem i2_out (ok : BaseOK B) {tabs : List TabP} (TB : TabsB B tabs) {T : TabP} (hT : T ∈ tabs) {f : Nat} {o : Obj} {fd : FuncData} {p pa pi : Nat → Pos} (K : FnOK B f 2 4 none [.stuck, .stuck, .stuck, .stuck] o fd (i2o p pa pi) (i2ocx B.fid B.gid) ["a", "n"])
    (hsc : fd.scope = i2osc) (hcode : fd.code = .ref T.c) (hpos : T.pos = p 17) (hq : ∀ env : Env, env.scope = i2osc → env.qual = fd.qualname ++ ".<locals>." → qualnameIn env "inner" "inner" = T.qual) (hp : ((p 4).endLine == (p 5).line) = true) {vs : List V} {v : V} (e : i2V vs = some v)
    (hr : Room A 40) (H : Hp B G s) {us : List Value} (ru : Reps G us vs) {Q : Value → Shared → Prop} (h : ∀ G' s' u, Ext B G s G' s' → Rep G' u v → Q u s') : Wp B A (PySem.call (.ref (B.fa f)) us) Q s := by
  have hsz := szLine
  have hln := lineN_eq
  unfold i2V at e
  split at e
  case h_2 => cases e
  rename_i a n
  split at e
  case h_2 => cases e
  rename_i m hm
  split at e
  case h_2 => cases e
  rename_i z hz
  have hzl : z.length ≤ lineN := by
    induction m using Mine.V.casesOn <;> first | (cases hz; done) | skip
    rename_i y
    simp only [binV] at hz
    split at hz
    · rename_i c
      cases hz
      simp only [Bool.and_eq_true, decide_eq_true_eq] at c
      have : ∀ k : Nat, (rep [V.int 0] k).length = k := fun k => by
        induction k with
        | zero => rfl
        | succ k ih => unfold rep; rw [List.length_append, ih]; simp; omega
      rw [this]; have := c.1.1; simp at this; omega
    · cases hz
  have hfr : frame 2 4 none [.int a, .int n] = some [.fz (.int a), .fz (.int n), .un, .un] := rfl
  refine enter0 (n := 39) ok K hfr hr H ru fun env s4 α4 oa4 X hec heq x4 hα F4 => ?_
  have hcx : cxOk B (i2ocx B.fid B.gid) := ⟨rfl, rfl⟩
  have CF := K.cxf
  have hrd : Room (A.deeper env) 39 := Room.deeper (n := 39) hr env
  have AF : ∀ n, All B.free n := all_free ok
  have ezm : (run B.free.g 8).ev [.fz (.int a), .fz (.int n), .un, .un] i2zm = some (.list z) := by
    show (match binV .fdiv (.int ((bitsOf a : Int) + n - 1)) (.int n) with | some y => binV .mul (.list [.int 0]) y | none => none) = _
    rw [hm]; exact hz
  refine wpAny_execs_cons (fresh_s (B := B.free) (n := 8) (i := 2) ok.free (fun m _ => (AF m).ev) hcx CF rfl (.val (i2z_t _ _ p hp) rfl rfl) rfl (by intro q; cases q) ezm (hrd.less (by omega)) X x4.hp.free F4 fun G5 s5 α5 oa5 f5 x5 h5 F5 kf => ?_)
  cases kf
  have x5' : SExt B α4 G s4 G5 s5 := ⟨x5.le, x5.hp.unfree, x5.grow, x5.new⟩
  have H5 : Hp B G5 s5 := x5'.hp
  have X5 : Ext B G s G5 s5 := ((x4.sx α4).trans x5' fun a ha => .inl ha).ext hα
  have αn : ∀ a, α5 a → s.heap.get? a = none := fun a ha => by
    rcases h5 a ha with q | q
    · exact hα a q
    · exact x4.none ok H q
  have z2 : EntO (i2ocx B.fid B.gid) env G5 s5.heap "a_digits" (oa5 2) (.own (.list z)) := F5.ent "a_digits" 2 rfl
  have z1 : EntO (i2ocx B.fid B.gid) env G5 s5.heap "n" (oa5 1) (.fz (.int n)) := F5.ent "n" 1 rfl
  have z0 : EntO (i2ocx B.fid B.gid) env G5 s5.heap "a" (oa5 0) (.fz (.int a)) := F5.ent "a" 0 rfl
  obtain ⟨rd2, us2, k2, ha5, rr2, hz2⟩ := z2
  obtain ⟨un, rd1, rn⟩ := z1
  obtain ⟨ua, rd0, ra⟩ := z0
  obtain ⟨ci, wci, αi⟩ := F5.wat "inner" 3 rfl
  obtain ⟨ca', wca, αa⟩ := F5.wat "a_digits" 2 rfl
  obtain ⟨cn', wcn, αc⟩ := F5.wat "n" 1 rfl
  have αd := (F5.own "a_digits" 2 _ rfl rfl).1
  generalize oa5 2 = ad at rd2 ha5 αd
  rcases rd2 with ⟨q, _⟩ | ⟨_, ca, hca, oca⟩
  · exact absurd (show some NameKind.cell = some NameKind.local from q) (by decide)
  rcases rd1 with ⟨q, _⟩ | ⟨_, cn, hcn, ocn⟩
  · exact absurd (show some NameKind.cell = some NameKind.local from q) (by decide)
  rcases wci with ⟨q, _⟩ | ⟨_, hci, w, oci⟩
  · exact absurd (show some NameKind.cell = some NameKind.local from q) (by decide)
  rcases wca with ⟨q, _⟩ | ⟨_, hca', _⟩
  · exact absurd (show some NameKind.cell = some NameKind.local from q) (by decide)
  rcases wcn with ⟨q, _⟩ | ⟨_, hcn', _⟩
  · exact absurd (show some NameKind.cell = some NameKind.local from q) (by decide)
  replace αa : α5 ca := by rw [hca] at hca'; rw [Option.some.inj hca']; exact αa
  replace αc : α5 cn := by rw [hcn] at hcn'; rw [Option.some.inj hcn']; exact αc
  have n1 : ca ≠ ci := fun q => absurd (X.fm.ne2 "a_digits" "inner" ca rfl rfl hca (q ▸ hci)) (by decide)
  have n2 : ca ≠ cn := fun q => absurd (X.fm.ne2 "a_digits" "n" ca rfl rfl hca (q ▸ hcn)) (by decide)
  have n3 : ci ≠ cn := fun q => absurd (X.fm.ne2 "inner" "n" ci rfl rfl hci (q ▸ hcn)) (by decide)
  have dne : ∀ (us : List Value) (k : Nat) (w : Option Value), listO us k ≠ cellO w := fun us k w q => absurd (congrArg Obj.data q) (by intro q; cases q)
  have na : ad ≠ ca := fun q => by rw [q, oca] at ha5; exact dne _ _ _ (Option.some.inj ha5).symm
  have ni : ad ≠ ci := fun q => by rw [q, oci] at ha5; exact dne _ _ _ (Option.some.inj ha5).symm
  have nn : ad ≠ cn := fun q => by rw [q, ocn] at ha5; exact dne _ _ _ (Option.some.inj ha5).symm
  refine wpAny_execs_cons (W.nestDef_K rfl rfl rfl ?_)
  rw [hq env X.scope heq, ← hpos]
  refine fn_made ok TB hT H5 (i2o_closure hca hci hcn) X.globals (hec.trans hcode) fun G6 s6 fi c' ctv doc oc vs t x6 nf hfo hc hd hv => ?_
  have cc : ∀ w, (cellO w).cls ≠ .none := fun w q => by cases q
  have cl : ∀ us k, (listO us k).cls ≠ .none := fun us k q => by cases q
  have oci6 := x6.keep ok H5 oci (cc _)
  have g6i : G6 ci = none := (x6.new _ _ oci).trans (F5.priv ci αi).1
  have g6a : G6 ca = none := (x6.new _ _ oca).trans (F5.priv ca αa).1
  have g6n : G6 cn = none := (x6.new _ _ ocn).trans (F5.priv cn αc).1
  have g6d : G6 ad = none := (x6.new _ _ ha5).trans (F5.priv ad αd).1
  refine store_var X (x := "inner") (a := ci) (.inr ⟨rfl, hci, w, oci6⟩) fun h' tk kb rdi other _ _ => ?_
  have x7 : SExt B (· = ci) G6 s6 G6 { s6 with heap := h', toks := tk } := SExt.kept ok x6.hp (fun b (q : b = ci) => q ▸ g6i) (fun b (q : b = ci) => q ▸ x6.hp.nottab ok oci6 (cc _)) fun b ob hb e => (kb b hb).trans e
  have X7 : Ext B G s G6 { s6 with heap := h', toks := tk } := (((X5.trans x6).sx (· = ci)).trans x7 fun a ha => .inl ha).ext fun a (q : a = ci) => q ▸ αn ci αi
  generalize hs7 : ({ s6 with heap := h', toks := tk } : Shared) = s7 at x7 X7
  have e7 : s7.heap = h' := by rw [← hs7]
  have k7 : ∀ b ob, b ≠ ci → s5.heap.get? b = some ob → ob.cls ≠ .none → s7.heap.get? b = some ob := fun b ob hb e hc => by
    rw [e7]; exact (kb b hb).trans (x6.keep ok H5 e hc)
  have oca7 := k7 ca _ n1 oca (cc _)
  have ocn7 := k7 cn _ (fun q => n3 q.symm) ocn (cc _)
  have ha7 := k7 ad _ ni ha5 (cl _ _)
  have oci7 : s7.heap.get? ci = some (cellO (some (.ref fi))) := by
    rw [e7]
    rcases rdi with ⟨q, _⟩ | ⟨_, c2, h2, o2⟩
    · exact absurd (show some NameKind.cell = some NameKind.local from q) (by decide)
    · rw [hci] at h2; cases h2; exact o2
  have X8 := Ext.add ok H (Ext.add ok H (Ext.add ok H X7 oca7 (cc _) (αn ca αa)) oci7 (cc _) (αn ci αi)) ocn7 (cc _) (αn cn αc)
  have le8 : G6.le (((G6.add ca (cellO (some (.ref ad)))).add ci (cellO (some (.ref fi)))).add cn (cellO (some un))) :=
    ((GMap.le_add (.inl g6a)).trans (GMap.le_add (.inl (by rw [GMap.add_ne _ _ (fun q => n1 q.symm)]; exact g6i)))).trans (GMap.le_add (.inl (by rw [GMap.add_ne _ _ (fun q => n3 q.symm), GMap.add_ne _ _ (fun q => n2 q.symm)]; exact g6n)))
  have g8a : (((G6.add ca (cellO (some (.ref ad)))).add ci (cellO (some (.ref fi)))).add cn (cellO (some un))) ca = some (cellO (some (.ref ad))) := by rw [GMap.add_ne _ _ n2, GMap.add_ne _ _ n1, GMap.add_at]
  have g8i : (((G6.add ca (cellO (some (.ref ad)))).add ci (cellO (some (.ref fi)))).add cn (cellO (some un))) ci = some (cellO (some (.ref fi))) := by rw [GMap.add_ne _ _ n3, GMap.add_at]
  have g8n : (((G6.add ca (cellO (some (.ref ad)))).add ci (cellO (some (.ref fi)))).add cn (cellO (some un))) cn = some (cellO (some un)) := GMap.add_at _ _ _
  have g8d : (((G6.add ca (cellO (some (.ref ad)))).add ci (cellO (some (.ref fi)))).add cn (cellO (some un))) ad = none := by rw [GMap.add_ne _ _ nn, GMap.add_ne _ _ ni, GMap.add_ne _ _ na]; exact g6d
  generalize (((G6.add ca (cellO (some (.ref ad)))).add ci (cellO (some (.ref fi)))).add cn (cellO (some un))) = G8 at X8 le8 g8a g8i g8n g8d
  have le58 := x6.le.trans le8
  obtain ⟨oi, fdi, I8⟩ : ∃ oi fdi, I2At G8 fi ad ca ci cn n oi fdi pi := by
    obtain ⟨tn, rfl⟩ := rn
    exact ⟨_, _, le8 _ _ hfo, rfl, rfl, rfl, ⟨c', oc, vs, t, rfl, le8 _ _ hc, hd, hv⟩, rfl, rfl, rfl, ⟨n1, n2, n3⟩, rfl, rfl, g8a, g8i, ⟨tn, g8n⟩, fun u1 u2 u3 => rfl⟩
  have R8 : Rd (i2ocx B.fid B.gid) env [.fz (.int a), .fz (.int n), .un, .un] G8 s7.heap := by
    refine ⟨fun y i hy => ?_, fun y c h1 h2 => ?_⟩
    · rcases i2o_vars _ _ y i hy with ⟨rfl, rfl⟩ | ⟨rfl, rfl⟩ | ⟨rfl, rfl⟩ | ⟨rfl, rfl⟩
      · exact ⟨ua, by rw [e7]; exact other _ _ (by decide) (rd0.ext ok H5 x6), ra.mono le58⟩
      · exact ⟨un, .inr ⟨rfl, cn, hcn, ocn7⟩, rn.mono le58⟩
      · trivial
      · trivial
    · by_cases q : c = ci
      · rw [q]; exact ⟨_, oci7⟩
      · obtain ⟨v, ev⟩ := F5.up y c h1 h2
        exact ⟨v, k7 c _ q ev (cc _)⟩
  -- the end
  have fin : ∀ (G9 : GMap) (s9 : Shared) (us9 : List Value) (k9 : Nat) (l9 : List V), SExt B (· = ad) G8 s7 G9 s9 → s9.heap.get? ad = some (listO us9 k9) → Reps G9 us9 l9 → G9 ad = none → l9.length ≤ sizeLine → v = .list l9 →
      Wp B (A.deeper env) (execs [.Return (some (.Name "a_digits" (p 28))) (p 29)] env) (fun f s' => Q (match f with | .ret v => v | _ => .none) s') s9 := fun G9 s9 us9 k9 l9 x9 e9 r9 g9 z9 ev => by
    refine wpAny_execs_cons (wpAny_Return_some (wpAny_Name (load_var X (.inr ⟨rfl, ca, hca, x9.hp.keep _ _ (x9.le _ _ g8a)⟩) ?_) rfl))
    have X9 : Ext B G s G9 s9 := ((X8.sx (· = ad)).trans x9 fun a ha => .inl ha).ext fun a (q : a = ad) => q ▸ αn ad αd
    refine h (G9.add ad (listO us9 k9)) s9 (.ref ad) (Ext.add ok H X9 e9 (cl _ _) (αn ad αd)) ?_
    rw [ev]
    exact .list (GMap.add_at _ _ _) (r9.mono (GMap.le_add (.inl g9))) z9
  have hzs : z.length ≤ sizeLine := by omega
  refine wpAny_execs_cons (wpAny_If (bs_free ok 3 _ _ (.var 0) (.var rfl rfl) hcx _ (.int a) (a != 0) rfl rfl (A.deeper env) env G8 s7 (hrd.less (by omega)) X X8.hp R8 _ fun G9 s9 x9 => ?_))
  have ha9 := x9.keep ok X8.hp ha7 (cl _ _)
  have g9d := (x9.new _ _ ha7).trans g8d
  by_cases h0 : a = 0
  · rw [if_pos h0] at e
    cases e
    rw [show (a != 0) = false from by rw [h0]; rfl]
    exact wpAny_execs_nil (fin G9 s9 us2 k2 z (x9.sx _) ha9 (rr2.mono (le58.trans x9.le)) g9d hzs rfl)
  · rw [if_neg h0] at e
    rw [show (a != 0) = true from by rw [bne_iff_ne]; exact h0]
    split at e
    case h_2 => cases e
    rename_i l' hl'
    cases e
    refine wpAny_execs_cons (wpAny_Expr ?_ X.quiet rfl)
    have R9 := R8.ext ok X8.hp x9
    refine PyProof.Rows.Call_Name rfl (wpAny_Name (load_var X (.inr ⟨rfl, ci, hci, x9.hp.keep _ _ (x9.le _ _ g8i)⟩) ?_) rfl)
    refine callWith_function (o := oi) (fd := fdi) (evalArgs_of (.cons (.var (cx := i2ocx B.fid B.gid) rfl rfl) (.cons .cint (.cons (.stuck rfl) .nil))) (by simp) ?_)
    refine wpAny_items_cons ?_ (by rfl)
    refine ev_free ok 3 _ _ (.var 0) (.var rfl rfl) hcx _ (.int a) rfl (A.deeper env) env G9 s9 (hrd.less (by omega)) X x9.hp R9 _ fun G10 s10 u1 x10 r1 => ?_
    refine wpAny_items_cons ?_ (by rfl)
    refine ev_free ok 3 _ _ (.lit (.int 0)) .cint hcx _ (.int 0) rfl (A.deeper env) env G10 s10 (hrd.less (by omega)) X x10.hp (R9.ext ok x9.hp x10) _ fun G11 s11 u2 x11 r2 => ?_
    refine wpAny_items_cons ?_ (by rfl)
    have ha11 := x11.keep ok x10.hp (x10.keep ok x9.hp ha9 (cl _ _)) (cl _ _)
    have g11d := (x11.new _ _ (x10.keep ok x9.hp ha9 (cl _ _))).trans ((x10.new _ _ ha9).trans g9d)
    have x811 := x9.trans (x10.trans x11)
    refine len_own ok hcx X x11.hp rfl (x := "a_digits") (.inr ⟨rfl, ca, hca, x811.hp.keep _ _ (x811.le _ _ g8a)⟩) rfl ha11 (by rw [rr2.length]; exact hzs) fun tk2 t2 => wpAny_items_nil ?_
    have x812 := x811.trans (Ext.toks (tk := tk2) ok x11.hp)
    refine ⟨⟨x812.hp.keep _ _ (x812.le _ _ I8.obj), I8.data⟩, ?_⟩
    have rl : Rep G11 (.int us2.length t2) (.int z.length) := by rw [rr2.length]; exact .int _ _
    refine i2_run ok 24 a 0 z.length z l' hl' G11 _ (A.deeper env) us2 k2 u1 u2 _ (I8.mono x812.le) (hrd.less (by omega)) x812.hp ha11 (rr2.mono (le58.trans x812.le)) g11d hzs (r1.mono x11.le) r2 rl _ fun G13 s13 us13 k13 x13 a13 rr13 g13 => ?_
    refine wpAny_execs_nil ?_
    exact fin G13 s13 us13 k13 l' ((x812.sx _).trans x13 fun a ha => .inl ha) a13 rr13 g13 (by rw [digs_len _ _ _ _ _ _ _ hl']; exact hzs) rfl
end
end Mine
namespace Mine
open PySem PySem.Calls PySem.W
section
variable {B : Base} {n : Nat} {G G' G1 : GMap} {s s' s1 : Shared} {A : Around} {cx : Cx} {env : Env} {σ : Sig}
noncomputable def d2sc : Scope := ⟨.function, [(Str.ofString "L", .local), (Str.ofString "R", .local), (Str.ofString "mid", .local), (Str.ofString "shift", .local), (Str.ofString "digits", .free), (Str.ofString "inner", .free), (Str.ofString "n", .free)], false, false, []⟩
noncomputable def d2cx (fid gid : Str → Option Nat) : Cx := ⟨d2sc, [("L", 0), ("R", 1), ("digits", 2), ("n", 3), ("mid", 4), ("shift", 5)], fid, gid, none⟩
noncomputable def d2b (p : Nat → Pos) : List Stmt :=
  [.If (.Compare (.BinOp (.Name "L" (p 0)) .Add (.Constant (.int 1) 0 (p 1)) (p 2)) [.Eq] [.Name "R" (p 3)] (p 4)) [.Return (some (.Subscript (.Name "digits" (p 5)) (.Name "L" (p 6)) (p 7))) (p 8)] [] (p 9),
   .Assign [.Name "mid" (p 10)] (.BinOp (.BinOp (.Name "L" (p 11)) .Add (.Name "R" (p 12)) (p 13)) .RShift (.Constant (.int 1) 0 (p 14)) (p 15)) (p 16),
   .Assign [.Name "shift" (p 17)] (.BinOp (.BinOp (.Name "mid" (p 18)) .Sub (.Name "L" (p 19)) (p 20)) .Mult (.Name "n" (p 21)) (p 22)) (p 23),
   .Return (some (.BinOp (.BinOp (.Call (.Name "inner" (p 24)) [.Name "mid" (p 25), .Name "R" (p 26)] [] (p 27)) .LShift (.Name "shift" (p 28)) (p 29)) .Add (.Call (.Name "inner" (p 30)) [.Name "L" (p 31), .Name "mid" (p 32)] [] (p 33)) (p 34))) (p 35)]
noncomputable def undig (n : Int) (l : List V) : Nat → Nat → Nat → Option Int
  | 0, _, _ => none
  | d + 1, L, R => if L + 1 = R then (match getV (.list l) (.int L) with
      | some (.int x) => some x
      | _ => none) else
      match binV .mul (.int (((L + R) / 2 : Nat) - (L : Int))) (.int n) with
      | some (.int sh) => match undig n l d ((L + R) / 2) R with
        | some hi => match binV .shl (.int hi) (.int sh) with
          | some (.int t) => match undig n l d L ((L + R) / 2) with
            | some lo => some (t + lo)
            | none => none
          | _ => none
        | none => none
      | _ => none
structure D2At (G : GMap) (fi ca ci cn : Addr) (N : Int) (l : List V) (o : Obj) (fd : FuncData) (p : Nat → Pos) : Prop where
  obj : G fi = some o
  data : o.data = .func fd
  body : fd.body = .stmts (d2b p)
  scope : fd.scope = d2sc
  code : ∃ c' oc vs t, fd.code = .ref c' ∧ G c' = some oc ∧ oc.data = .fields vs ∧ vs[1]? = some (.str fd.qualname t)
  clo1 : fd.closure.lookup ("digits" : Str) = some ca
  clo2 : fd.closure.lookup ("inner" : Str) = some ci
  clo3 : fd.closure.lookup ("n" : Str) = some cn
  ne : ca ≠ ci ∧ ca ≠ cn ∧ ci ≠ cn
  globals : fd.globals = mainGlobals
  builtins : fd.builtins = builtinsNs
  cell1 : ∃ u, G ca = some (cellO (some u)) ∧ Rep G u (.list l)
  cell2 : G ci = some (cellO (some (.ref fi)))
  cell3 : ∃ t, G cn = some (cellO (some (.int N t)))
  bind : ∀ u1 u2, bindArgs fd ⟨[u1, u2], []⟩ = pure [(("L" : Str), u1), (("R" : Str), u2)]
theorem D2At.mono {fi ca ci cn : Addr} {N : Int} {l : List V} {o : Obj} {fd : FuncData} {p : Nat → Pos} (I : D2At G fi ca ci cn N l o fd p) (k : G.le G') : D2At G' fi ca ci cn N l o fd p := by
  obtain ⟨c', oc, vs, t, h1, h2, h3, h4⟩ := I.code
  obtain ⟨t', h5⟩ := I.cell3
  obtain ⟨u, h6, h7⟩ := I.cell1
  exact ⟨k _ _ I.obj, I.data, I.body, I.scope, ⟨c', oc, vs, t, h1, k _ _ h2, h3, h4⟩, I.clo1, I.clo2, I.clo3, I.ne, I.globals, I.builtins, ⟨u, k _ _ h6, h7.mono k⟩, k _ _ I.cell2, ⟨t', k _ _ h5⟩, I.bind⟩
theorem d2_cellish : ∀ y : Str, isCellish (d2sc.names.lookup y) = true → y = "digits" ∨ y = "inner" ∨ y = "n" := by
  intro y h
  by_cases h1 : y = "digits"
  · exact .inl h1
  by_cases h2 : y = "inner"
  · exact .inr (.inl h2)
  by_cases h3 : y = "n"
  · exact .inr (.inr h3)
  exfalso
  have b1 : (y == Str.ofString "digits") = false := beq_eq_false_iff_ne.2 h1
  have b2 : (y == Str.ofString "inner") = false := beq_eq_false_iff_ne.2 h2
  have b3 : (y == Str.ofString "n") = false := beq_eq_false_iff_ne.2 h3
  revert h
  simp only [d2sc, List.lookup, b1, b2, b3]
  repeat' split
  all_goals simp [isCellish]
theorem d2_vars (fid gid : Str → Option Nat) : ∀ x i, (d2cx fid gid).vars.lookup x = some i → (x = "L" ∧ i = 0) ∨ (x = "R" ∧ i = 1) ∨ (x = "digits" ∧ i = 2) ∨ (x = "n" ∧ i = 3) ∨ (x = "mid" ∧ i = 4) ∨ (x = "shift" ∧ i = 5) := by
  intro x i h
  have m := lookup_memN h
  simpa only [d2cx, List.mem_cons, Prod.mk.injEq, List.not_mem_nil, or_false] using m
theorem d2_inj (fid gid : Str → Option Nat) : CxF (d2cx fid gid) := cxf_of (show ([0, 1, 2, 3, 4, 5] : List Nat).Nodup by decide)
theorem d2_env {fi ca ci cn : Addr} {N : Int} {l : List V} {o : Obj} {fd : FuncData} {p : Nat → Pos} (H : Hp B G s) (I : D2At G fi ca ci cn N l o fd p) {env : Env} (he : env = { scope := fd.scope, locals := s.heap.objs.size, globals := fd.globals, cells := fd.closure, qual := fd.qualname ++ ".<locals>.", func := some fi, code := fd.code, frame := some s.heap.objs.size, builtins := fd.builtins }) :
    EnvB (d2cx B.fid B.gid) env := by
  obtain ⟨t, c3⟩ := I.cell3
  obtain ⟨u, c1, _⟩ := I.cell1
  have lt : ∀ c o, G c = some o → c ≠ s.heap.objs.size := fun c o e q => by
    have := H.keep c o e
    rw [q, get_size_none] at this; cases this
  subst he
  refine ⟨I.scope, rfl, I.globals, I.builtins, fun y hy => ?_, by rfl, ⟨fun y c hy hc => ?_, fun x y c hx hy h1 h2 => ?_⟩⟩
  · rcases d2_cellish y hy with rfl | rfl | rfl
    · exact ⟨_, I.clo1⟩
    · exact ⟨_, I.clo2⟩
    · exact ⟨_, I.clo3⟩
  · replace hc : fd.closure.lookup y = some c := hc
    rcases d2_cellish y hy with rfl | rfl | rfl
    · rw [I.clo1] at hc; cases hc; exact lt _ _ c1
    · rw [I.clo2] at hc; cases hc; exact lt _ _ I.cell2
    · rw [I.clo3] at hc; cases hc; exact lt _ _ c3
  · replace h1 : fd.closure.lookup x = some c := h1
    replace h2 : fd.closure.lookup y = some c := h2
    have e1 := I.clo1
    have e2 := I.clo2
    have e3 := I.clo3
    obtain ⟨n1, n2, n3⟩ := I.ne
    rcases d2_cellish x hx with rfl | rfl | rfl <;> rcases d2_cellish y hy with rfl | rfl | rfl <;> first | rfl | (exfalso; simp_all)
theorem d2_text (fid gid : Str → Option Nat) (p : Nat → Pos) : (T (d2cx fid gid) (.Compare (.BinOp (.Name "L" (p 0)) .Add (.Constant (.int 1) 0 (p 1)) (p 2)) [.Eq] [.Name "R" (p 3)] (p 4)) (.cmp (.bin .add (.var 0) (.lit (.int 1))) .eq (.var 1))) ∧
    T (d2cx fid gid) (.Subscript (.Name "digits" (p 5)) (.Name "L" (p 6)) (p 7)) (.sub (.var 2) (.var 0)) ∧
    T (d2cx fid gid) (.BinOp (.BinOp (.Name "L" (p 11)) .Add (.Name "R" (p 12)) (p 13)) .RShift (.Constant (.int 1) 0 (p 14)) (p 15)) (.bin .shr (.bin .add (.var 0) (.var 1)) (.lit (.int 1))) ∧
    T (d2cx fid gid) (.BinOp (.BinOp (.Name "mid" (p 18)) .Sub (.Name "L" (p 19)) (p 20)) .Mult (.Name "n" (p 21)) (p 22)) (.bin .mul (.bin .sub (.var 4) (.var 0)) (.var 3)) ∧
    TL (d2cx fid gid) [.Name "mid" (p 25), .Name "R" (p 26)] [.var 4, .var 1] ∧ TL (d2cx fid gid) [.Name "L" (p 31), .Name "mid" (p 32)] [.var 0, .var 4] ∧ T (d2cx fid gid) (.Name "shift" (p 28)) (.var 5) := by
  have vL : ∀ q, T (d2cx fid gid) (.Name "L" q) (.var 0) := fun q => .var rfl rfl
  have vR : ∀ q, T (d2cx fid gid) (.Name "R" q) (.var 1) := fun q => .var rfl rfl
  have vd : ∀ q, T (d2cx fid gid) (.Name "digits" q) (.var 2) := fun q => .var rfl rfl
  have vn : ∀ q, T (d2cx fid gid) (.Name "n" q) (.var 3) := fun q => .var rfl rfl
  have vm : ∀ q, T (d2cx fid gid) (.Name "mid" q) (.var 4) := fun q => .var rfl rfl
  have one : ∀ k q, T (d2cx fid gid) (.Constant (.int 1) k q) (.lit (.int 1)) := fun k q => .cint
  exact ⟨.cmp rfl (.bin rfl (vL _) (one _ _)) (vR _), .sub (vd _) (vL _), .bin rfl (.bin rfl (vL _) (vR _)) (one _ _), .bin rfl (.bin rfl (vm _) (vL _)) (vn _),
    .cons (vm _) (.cons (vR _) .nil), .cons (vL _) (.cons (vm _) .nil), .var rfl rfl⟩
set_option tactic.hygienic true in
theorem d2_run (ok : BaseOK B) {fi ca ci cn : Addr} {N : Int} {l : List V} {o : Obj} {fd : FuncData} {p : Nat → Pos} : ∀ (d : Nat) (L R : Nat) (z : Int), undig N l d L R = some z →
    ∀ (G : GMap) (s : Shared) (A : Around) (v2 v3 : Value), D2At G fi ca ci cn N l o fd p → Room A (d + 8) → Hp B G s → Rep G v2 (.int L) → Rep G v3 (.int R) → ∀ Q : Value → Shared → Prop, (∀ G' s' u, Ext B G s G' s' → Rep G' u (.int z) → Q u s') →
      Wp B A (PySem.call (.ref fi) [v2, v3]) Q s
  | 0, _, _, _, e => by cases e
  | d + 1, L, R, z, e => by
    intro G s A v2 v3 I hr H r2 r3 Q h
    obtain ⟨c', oc, vs, t, k1, k2, k3, k4⟩ := I.code
    obtain ⟨tn, c3⟩ := I.cell3
    obtain ⟨ul, c1, rl⟩ := I.cell1
    have hr8 : Room A (d + 8 + 1) := by
      have e : d + 1 + 8 = d + 8 + 1 := by lia
      rw [← e]; exact hr
    refine enter_nested ok hr8 H I.obj I.data I.body (by rw [I.scope]; rfl) (by rw [I.scope]; rfl) (by rw [I.scope]; rfl) (by
      rw [I.scope]; intro y hy
      simp only [d2sc, List.mem_cons, List.not_mem_nil, or_false] at hy
      rcases hy with rfl | rfl | rfl | rfl | rfl | rfl | rfl <;> (intro q; cases q)) k1 k2 k3 k4 (I.bind v2 v3) (by
      rw [I.scope]; intro y hy
      simp only [List.mem_cons, List.not_mem_nil, or_false] at hy
      rcases hy with rfl | rfl <;> rfl) fun env s1 henv x1 hns => ?_
    have X : EnvB (d2cx B.fid B.gid) env := d2_env H I henv
    have hcx : cxOk B (d2cx B.fid B.gid) := ⟨rfl, rfl⟩
    have I1 := I.mono x1.le
    have ecl : env.cells = fd.closure := by rw [henv]
    have lnew : s.heap.get? env.locals = none := by rw [henv]; exact get_size_none _
    have ln : G env.locals = none := H.noneG lnew
    have hr' : Room (A.deeper env) (d + 8) := hr8.deeper env
    have hr5 : Room (A.deeper env) 5 := hr'.less (by lia)
    have l0 : Leaf (d2cx B.fid B.gid) env [.fz (.int L), .fz (.int R), .fz (.list l), .fz (.int N), .un, .un] G s1.heap := by
      refine ⟨⟨fun y i hy => ?_, fun y c hy hc => ?_⟩, ⟨_, hns⟩, ln, d2_inj _ _, fun i v q => ?_⟩
      · rcases d2_vars _ _ y i hy with ⟨rfl, rfl⟩ | ⟨rfl, rfl⟩ | ⟨rfl, rfl⟩ | ⟨rfl, rfl⟩ | ⟨rfl, rfl⟩ | ⟨rfl, rfl⟩
        · exact ⟨v2, .inl ⟨rfl, _, hns, rfl⟩, r2⟩
        · exact ⟨v3, .inl ⟨rfl, _, hns, rfl⟩, r3⟩
        · exact ⟨ul, .inr ⟨rfl, ca, by rw [ecl]; exact I.clo1, x1.hp.keep _ _ c1⟩, rl⟩
        · exact ⟨.int N tn, .inr ⟨rfl, cn, by rw [ecl]; exact I.clo3, x1.hp.keep _ _ c3⟩, .int _ _⟩
        all_goals trivial
      · rw [ecl] at hc
        rcases d2_cellish y hy with rfl | rfl | rfl
        · rw [I.clo1] at hc; cases hc; exact ⟨_, x1.hp.keep _ _ c1⟩
        · rw [I.clo2] at hc; cases hc; exact ⟨_, x1.hp.keep _ _ I.cell2⟩
        · rw [I.clo3] at hc; cases hc; exact ⟨_, x1.hp.keep _ _ c3⟩
      · rcases i with _ | _ | _ | _ | _ | _ | i <;> cases q
    have rdI : ∀ {G2 : GMap} {s2 : Shared}, Hp B G2 s2 → G.le G2 → Reads1 (d2cx B.fid B.gid) env s2.heap "inner" (.ref fi) := fun H2 le => .inr ⟨rfl, ci, by rw [ecl]; exact I.clo2, H2.keep _ _ (le _ _ I.cell2)⟩
    obtain ⟨t0, t1, t2, t3, t5, t6, ts⟩ := d2_text B.fid B.gid p
    have ev0 : (run B.free.g 5).ev [.fz (.int L), .fz (.int R), .fz (.list l), .fz (.int N), .un, .un] (.cmp (.bin .add (.var 0) (.lit (.int 1))) .eq (.var 1)) = some (.bool ((L : Int) + 1 == (R : Int))) := rfl
    unfold undig at e
    refine wpAny_execs_cons (wpAny_If (bs_free ok 5 _ _ _ t0 hcx _ _ _ ev0 rfl (A.deeper env) env G s1 hr5 X x1.hp l0.rd _ fun G2 s2 x2 => ?_))
    have l2 := l0.ext ok x1.hp x2
    have x02 := x1.trans x2
    by_cases hLR : L + 1 = R
    · rw [if_pos hLR] at e
      have eb : ((L : Int) + 1 == (R : Int)) = true := by rw [beq_iff_eq]; lia
      rw [eb]
      split at e
      · rename_i w hw
        cases (e)
        have ev1 : (run B.free.g 5).ev [.fz (.int L), .fz (.int R), .fz (.list l), .fz (.int N), .un, .un] (.sub (.var 2) (.var 0)) = some (.int z) := hw
        refine wpAny_execs_cons (wpAny_Return_some (ev_free ok 5 _ _ _ t1 hcx _ _ ev1 (A.deeper env) env G2 s2 hr5 X x2.hp l2.rd _ fun G3 s3 u3 x3 ru3 => ?_))
        exact h G3 s3 u3 (x02.trans x3) ru3
      · cases e
    · rw [if_neg hLR] at e
      have eb : ((L : Int) + 1 == (R : Int)) = false := by rw [beq_eq_false_iff_ne]; lia
      rw [eb]
      refine wpAny_execs_nil ?_
      have ev1 : (run B.free.g 5).ev [.fz (.int L), .fz (.int R), .fz (.list l), .fz (.int N), .un, .un] (.bin .shr (.bin .add (.var 0) (.var 1)) (.lit (.int 1))) = some (.int (((L + R) / 2 : Nat) : Int)) := by
        show some (V.int (((L : Int) + (R : Int)).fdiv (2 ^ (1 : Int).toNat))) = _
        rw [fdiv2]
      refine wpAny_execs_cons (leaf_assign (i := 4) ok hcx X hr5 x2.hp l2 rfl rfl t2 rfl ev1 fun G3 s3 x3 l3 => ?_)
      generalize hm : (L + R) / 2 = m at e l3
      split at e
      · rename_i sh hsh
        refine wpAny_execs_cons (leaf_assign (i := 5) ok hcx X hr5 x3.hp l3 rfl rfl t3 rfl (v := .int sh) hsh fun G4 s4 x4 l4 => ?_)
        split at e
        · rename_i hi hhi
          split at e
          · rename_i tt htt
            split at e
            · rename_i lo hlo
              cases e
              have x04 : Ext B G s G4 s4 := (((x02.sx (· = env.locals)).trans x3 fun a q => .inl q).trans x4 fun a q => .inl q).ext fun a (q : a = env.locals) => q ▸ lnew
              refine wpAny_execs_cons (wpAny_Return_some (wpAny_Bin (wpAny_Bin ?_)))
              refine call_cell ok hcx X hr5 x4.hp l4.rd (rdI x4.hp x04.le) rfl (x04.le _ _ I.obj) I.data t5 (vs := [.int m, .int R]) rfl fun G7 s7 us7 x7 r7 => ?_
              have l7 := l4.ext ok x4.hp x7
              have x07 := x04.trans x7
              obtain ⟨w1, w2, rfl, q1, q2⟩ := r7.two_inv
              refine d2_run ok d m R hi hhi G7 s7 (A.deeper env) w1 w2 (I.mono x07.le) hr' x7.hp q1 q2 _ fun G8 s8 u8 x8 r8 => ?_
              have l8 := l7.ext ok x7.hp x8
              have x08 := x07.trans x8
              refine ev_free ok 5 _ _ _ ts hcx _ (.int sh) rfl (A.deeper env) env G8 s8 hr5 X x8.hp l8.rd _ fun G9 s9 u9 x9 r9 => ?_
              refine bin_op ok x9.hp (op := .LShift) rfl (r8.mono x9.le) r9 htt fun G10 s10 u10 x10 r10 => ?_
              have l10 := (l8.ext ok x8.hp x9).ext ok x9.hp x10
              have x010 := (x08.trans x9).trans x10
              refine call_cell ok hcx X hr5 x10.hp l10.rd (rdI x10.hp x010.le) rfl (x010.le _ _ I.obj) I.data t6 (vs := [.int L, .int m]) rfl fun G11 s11 us11 x11 r11 => ?_
              obtain ⟨w1, w2, rfl, q1, q2⟩ := r11.two_inv
              have x011 := x010.trans x11
              refine d2_run ok d L m lo hlo G11 s11 (A.deeper env) w1 w2 (I.mono x011.le) hr' x11.hp q1 q2 _ fun G12 s12 u12 x12 r12 => ?_
              refine bin_op ok x12.hp (op := .Add) rfl (r10.mono (x11.le.trans x12.le)) r12 (z := .int (tt + lo)) rfl fun G13 s13 u13 x13 r13 => ?_
              exact h G13 s13 u13 ((x011.trans x12).trans x13) r13
            · cases e
          · cases e
        · cases e
      · cases e
end
end Mine
namespace Mine
open PySem PySem.Calls PySem.W
section
variable {B : Base} {n : Nat} {G G' G1 : GMap} {s s' s1 : Shared} {A : Around} {cx : Cx} {env : Env} {σ : Sig}
noncomputable def d2osc : Scope := ⟨.function, [(Str.ofString "digits", .cell), (Str.ofString "n", .cell), (Str.ofString "inner", .cell), (Str.ofString "len", .globalImplicit)], false, false, []⟩
noncomputable def d2ocx (fid gid : Str → Option Nat) : Cx := ⟨d2osc, [("digits", 0), ("n", 1), ("inner", 2)], fid, gid, none⟩
noncomputable def args2 (x y : Str) (p : Nat → Pos) : Arguments := { posonlyargs := [], args := [{ arg := x, annotation := none, pos := p 0 }, { arg := y, annotation := none, pos := p 1 }], vararg := none, kwonlyargs := [], kw_defaults := [], kwarg := none, defaults := [] }
noncomputable def d2o (p pa pi : Nat → Pos) : List Stmt :=
  [.FunctionDef "inner" (args2 "L" "R" pa) (d2b pi) [] none [] d2sc none "inner" (p 0),
   .Return (some (.IfExp (.Name "digits" (p 1)) (.Call (.Name "inner" (p 2)) [.Constant (.int 0) 0 (p 3), .Call (.Name "len" (p 4)) [.Name "digits" (p 5)] [] (p 6)] [] (p 7)) (.Constant (.int 0) 0 (p 8)) (p 9))) (p 10)]
noncomputable def d2V (vs : List V) : Option V := match vs with
  | [.list l, .int n] => if l.isEmpty then some (.int 0) else match undig n l 24 0 l.length with
    | some z => some (.int z)
    | none => none
  | _ => none
theorem d2o_vars (fid gid : Str → Option Nat) : ∀ x i, (d2ocx fid gid).vars.lookup x = some i → (x = "digits" ∧ i = 0) ∨ (x = "n" ∧ i = 1) ∨ (x = "inner" ∧ i = 2) := by
  intro x i h
  have m := lookup_memN h
  simpa only [d2ocx, List.mem_cons, Prod.mk.injEq, List.not_mem_nil, or_false] using m
theorem d2o_closure {ca ci cn : Addr} (h1 : env.cells.lookup ("digits" : Str) = some ca) (h2 : env.cells.lookup ("inner" : Str) = some ci) (h3 : env.cells.lookup ("n" : Str) = some cn) : closureFor d2sc env = pure [(Str.ofString "n", cn), (Str.ofString "inner", ci), (Str.ofString "digits", ca)] := by
  have e1 : cellOf env (Str.ofString "digits") = pure ca := by unfold cellOf; rw [h1]
  have e2 : cellOf env (Str.ofString "inner") = pure ci := by unfold cellOf; rw [h2]
  have e3 : cellOf env (Str.ofString "n") = pure cn := by unfold cellOf; rw [h3]
  unfold closureFor d2sc
  simp only [List.forIn_cons, List.forIn_nil, e1, e2, e3, beq_self_eq_true, if_true, pure_bind]
  rfl
set_option tactic.hygienic true in
theorem d2_out (ok : BaseOK B) {tabs : List TabP} (TB : TabsB B tabs) {T : TabP} (hT : T ∈ tabs) {f : Nat} {o : Obj} {fd : FuncData} {p pa pi : Nat → Pos} (K : FnOK B f 2 3 none [.stuck, .stuck] o fd (d2o p pa pi) (d2ocx B.fid B.gid) ["digits", "n"])
    (hcode : fd.code = .ref T.c) (hpos : T.pos = p 0) (hq : ∀ env : Env, env.scope = d2osc → env.qual = fd.qualname ++ ".<locals>." → qualnameIn env "inner" "inner" = T.qual) {vs : List V} {v : V} (e : d2V vs = some v)
    (hr : Room A 40) (H : Hp B G s) {us : List Value} (ru : Reps G us vs) {Q : Value → Shared → Prop} (h : ∀ G' s' u, Ext B G s G' s' → Rep G' u v → Q u s') : Wp B A (PySem.call (.ref (B.fa f)) us) Q s := by
  unfold d2V at e
  split at e
  case h_2 => cases e
  rename_i l n
  have hfr : frame 2 3 none [.list l, .int n] = some [.fz (.list l), .fz (.int n), .un] := rfl
  refine enter0 (n := 39) ok K hfr hr H ru fun env s5 α5 oa5 X hec heq X5 αn F5 => ?_
  have hcx : cxOk B (d2ocx B.fid B.gid) := ⟨rfl, rfl⟩
  have hrd : Room (A.deeper env) 39 := Room.deeper (n := 39) hr env
  have H5 : Hp B G s5 := X5.hp
  have z0 : EntO (d2ocx B.fid B.gid) env G s5.heap "digits" (oa5 0) (.fz (.list l)) := F5.ent "digits" 0 rfl
  have z1 : EntO (d2ocx B.fid B.gid) env G s5.heap "n" (oa5 1) (.fz (.int n)) := F5.ent "n" 1 rfl
  obtain ⟨ua, rd0, ra⟩ := z0
  obtain ⟨un, rd1, rn⟩ := z1
  obtain ⟨ci, wci, αi⟩ := F5.wat "inner" 2 rfl
  obtain ⟨ca', wca, αa⟩ := F5.wat "digits" 0 rfl
  obtain ⟨cn', wcn, αc⟩ := F5.wat "n" 1 rfl
  rcases rd0 with ⟨q, _⟩ | ⟨_, ca, hca, oca⟩
  · exact absurd (show some NameKind.cell = some NameKind.local from q) (by decide)
  rcases rd1 with ⟨q, _⟩ | ⟨_, cn, hcn, ocn⟩
  · exact absurd (show some NameKind.cell = some NameKind.local from q) (by decide)
  rcases wci with ⟨q, _⟩ | ⟨_, hci, w, oci⟩
  · exact absurd (show some NameKind.cell = some NameKind.local from q) (by decide)
  rcases wca with ⟨q, _⟩ | ⟨_, hca', _⟩
  · exact absurd (show some NameKind.cell = some NameKind.local from q) (by decide)
  rcases wcn with ⟨q, _⟩ | ⟨_, hcn', _⟩
  · exact absurd (show some NameKind.cell = some NameKind.local from q) (by decide)
  replace αa : α5 ca := by rw [hca] at hca'; rw [Option.some.inj hca']; exact αa
  replace αc : α5 cn := by rw [hcn] at hcn'; rw [Option.some.inj hcn']; exact αc
  have n1 : ca ≠ ci := fun q => absurd (X.fm.ne2 "digits" "inner" ca rfl rfl hca (q ▸ hci)) (by decide)
  have n2 : ca ≠ cn := fun q => absurd (X.fm.ne2 "digits" "n" ca rfl rfl hca (q ▸ hcn)) (by decide)
  have n3 : ci ≠ cn := fun q => absurd (X.fm.ne2 "inner" "n" ci rfl rfl hci (q ▸ hcn)) (by decide)
  refine wpAny_execs_cons (W.nestDef_K rfl rfl rfl ?_)
  rw [hq env X.scope heq, ← hpos]
  refine fn_made ok TB hT H5 (d2o_closure hca hci hcn) X.globals (hec.trans hcode) fun G6 s6 fi c' ctv doc oc vs t x6 nf hfo hc hd hv => ?_
  have cc : ∀ w, (cellO w).cls ≠ .none := fun w q => by cases q
  have oci6 := x6.keep ok H5 oci (cc _)
  have g6i : G6 ci = none := (x6.new _ _ oci).trans (F5.priv ci αi).1
  have g6a : G6 ca = none := (x6.new _ _ oca).trans (F5.priv ca αa).1
  have g6n : G6 cn = none := (x6.new _ _ ocn).trans (F5.priv cn αc).1
  refine store_var X (x := "inner") (a := ci) (.inr ⟨rfl, hci, w, oci6⟩) fun h' tk kb rdi other _ _ => ?_
  have x7 : SExt B (· = ci) G6 s6 G6 { s6 with heap := h', toks := tk } := SExt.kept ok x6.hp (fun b (q : b = ci) => q ▸ g6i) (fun b (q : b = ci) => q ▸ x6.hp.nottab ok oci6 (cc _)) fun b ob hb e => (kb b hb).trans e
  have X7 : Ext B G s G6 { s6 with heap := h', toks := tk } := (((X5.trans x6).sx (· = ci)).trans x7 fun a ha => .inl ha).ext fun a (q : a = ci) => q ▸ αn ci αi
  generalize hs7 : ({ s6 with heap := h', toks := tk } : Shared) = s7 at x7 X7
  have e7 : s7.heap = h' := by rw [← hs7]
  have k7 : ∀ b ob, b ≠ ci → s5.heap.get? b = some ob → ob.cls ≠ .none → s7.heap.get? b = some ob := fun b ob hb e hc => by
    rw [e7]; exact (kb b hb).trans (x6.keep ok H5 e hc)
  have oca7 := k7 ca _ n1 oca (cc _)
  have ocn7 := k7 cn _ (fun q => n3 q.symm) ocn (cc _)
  have oci7 : s7.heap.get? ci = some (cellO (some (.ref fi))) := by
    rw [e7]
    rcases rdi with ⟨q, _⟩ | ⟨_, c2, h2, o2⟩
    · exact absurd (show some NameKind.cell = some NameKind.local from q) (by decide)
    · rw [hci] at h2; cases h2; exact o2
  have X8 := Ext.add ok H (Ext.add ok H (Ext.add ok H X7 oca7 (cc _) (αn ca αa)) oci7 (cc _) (αn ci αi)) ocn7 (cc _) (αn cn αc)
  have le8 : G6.le (((G6.add ca (cellO (some ua))).add ci (cellO (some (.ref fi)))).add cn (cellO (some un))) :=
    ((GMap.le_add (.inl g6a)).trans (GMap.le_add (.inl (by rw [GMap.add_ne _ _ (fun q => n1 q.symm)]; exact g6i)))).trans (GMap.le_add (.inl (by rw [GMap.add_ne _ _ (fun q => n3 q.symm), GMap.add_ne _ _ (fun q => n2 q.symm)]; exact g6n)))
  have g8a : (((G6.add ca (cellO (some ua))).add ci (cellO (some (.ref fi)))).add cn (cellO (some un))) ca = some (cellO (some ua)) := by rw [GMap.add_ne _ _ n2, GMap.add_ne _ _ n1, GMap.add_at]
  have g8i : (((G6.add ca (cellO (some ua))).add ci (cellO (some (.ref fi)))).add cn (cellO (some un))) ci = some (cellO (some (.ref fi))) := by rw [GMap.add_ne _ _ n3, GMap.add_at]
  have g8n : (((G6.add ca (cellO (some ua))).add ci (cellO (some (.ref fi)))).add cn (cellO (some un))) cn = some (cellO (some un)) := GMap.add_at _ _ _
  generalize (((G6.add ca (cellO (some ua))).add ci (cellO (some (.ref fi)))).add cn (cellO (some un))) = G8 at X8 le8 g8a g8i g8n
  have le58 := x6.le.trans le8
  obtain ⟨oi, fdi, I8⟩ : ∃ oi fdi, D2At G8 fi ca ci cn n l oi fdi pi := by
    obtain ⟨tn, rfl⟩ := rn
    exact ⟨_, _, le8 _ _ hfo, rfl, rfl, rfl, ⟨c', oc, vs, t, rfl, le8 _ _ hc, hd, hv⟩, rfl, rfl, rfl, ⟨n1, n2, n3⟩, rfl, rfl, ⟨ua, g8a, ra.mono le58⟩, g8i, ⟨tn, g8n⟩, fun u1 u2 => rfl⟩
  have R8 : Rd (d2ocx B.fid B.gid) env [.fz (.list l), .fz (.int n), .un] G8 s7.heap := by
    refine ⟨fun y i hy => ?_, fun y c h1 h2 => ?_⟩
    · rcases d2o_vars _ _ y i hy with ⟨rfl, rfl⟩ | ⟨rfl, rfl⟩ | ⟨rfl, rfl⟩
      · exact ⟨ua, .inr ⟨rfl, ca, hca, oca7⟩, ra.mono le58⟩
      · exact ⟨un, .inr ⟨rfl, cn, hcn, ocn7⟩, rn.mono le58⟩
      · trivial
    · by_cases q : c = ci
      · rw [q]; exact ⟨_, oci7⟩
      · obtain ⟨v, ev⟩ := F5.up y c h1 h2
        exact ⟨v, k7 c _ q ev (cc _)⟩
  refine wpAny_execs_cons (wpAny_Return_some ?_)
  have vd : ∀ q, Mine.T (d2ocx B.fid B.gid) (.Name "digits" q) (.var 0) := fun q => .var rfl rfl
  have tl : Mine.T (d2ocx B.fid B.gid) (.Call (.Name "len" (p 4)) [.Name "digits" (p 5)] [] (p 6)) (.prim .len [.var 0]) := .prim rfl rfl (.cons (vd _) .nil)
  by_cases hl : l.isEmpty = true
  · rw [if_pos hl] at e
    cases e
    refine wpAny_Ite (bs_free ok 3 _ _ (.var 0) (vd _) hcx _ (.list l) (!l.isEmpty) rfl rfl (A.deeper env) env G8 s7 (hrd.less (by lia)) X X8.hp R8 _ fun G9 s9 x9 => ?_)
    rw [hl]
    refine ev_free ok 3 _ _ (.lit (.int 0)) .cint hcx _ (.int 0) rfl (A.deeper env) env G9 s9 (hrd.less (by lia)) X x9.hp (R8.ext ok X8.hp x9) _ fun G10 s10 u1 x10 r1 => ?_
    exact h G10 s10 u1 ((X8.trans x9).trans x10) r1
  · rw [if_neg hl] at e
    split at e
    case h_2 => cases e
    rename_i z hz
    cases e
    refine wpAny_Ite (bs_free ok 3 _ _ (.var 0) (vd _) hcx _ (.list l) (!l.isEmpty) rfl rfl (A.deeper env) env G8 s7 (hrd.less (by lia)) X X8.hp R8 _ fun G9 s9 x9 => ?_)
    rw [show l.isEmpty = false from by simpa using hl]
    have R9 := R8.ext ok X8.hp x9
    refine call_cell ok hcx X (n := 5) (hrd.less (by lia)) x9.hp R9 (.inr ⟨rfl, ci, hci, x9.hp.keep _ _ (x9.le _ _ g8i)⟩) rfl (x9.le _ _ I8.obj) I8.data (.cons .cint (.cons tl .nil)) (vs := [.int 0, .int l.length]) rfl fun G10 s10 us10 x10 r10 => ?_
    obtain ⟨w1, w2, rfl, q1, q2⟩ := r10.two_inv
    refine d2_run ok 24 0 l.length z hz G10 s10 (A.deeper env) w1 w2 (I8.mono (x9.le.trans x10.le)) (hrd.less (by lia)) x10.hp q1 q2 _ fun G11 s11 u11 x11 r11 => ?_
    exact h G11 s11 u11 (((X8.trans x9).trans x10).trans x11) r11
end
end Mine
namespace Mine
open PySem PySem.Calls
theorem plainAttrs_pat : PlainAttrs "re.Pattern" :=
  ⟨⟨"object.__getattribute__", by rw [typeLookup_type, builtinLookup_eq_fast]; kernel_rfl, by decide +kernel⟩, by rw [typeLookup_type, builtinLookup_eq_fast]; kernel_rfl⟩
theorem slot_pat_sub : Slot "re.Pattern" "sub" "re.Pattern.sub" :=
  .of (owner := "re.Pattern") (n := "sub") (by rw [typeLookup_type, builtinLookup_eq_fast]; kernel_rfl) (by decide +kernel) (by decide +kernel) (by decide +kernel)
    (by first | exact .inl (by decide +kernel) | exact .inr (by decide +kernel)) (by rw [isSubtype_type]; kernel_rfl)
theorem type_pat_sub : typeOf (.builtin "re.Pattern.sub") = pure (.type "method_descriptor") := by show builtinType _ = _; rw [builtinType_eq_fast]; kernel_rfl
theorem entry_pat_sub : entryFor table "re.Pattern.sub" = some Builtin.«re.Pattern.sub» := entryFor_of_tree (by kernel_rfl)
theorem entry_pat_loop : entryFor table "re.Pattern.sub.loop" = some Builtin.«re.Pattern.sub.loop» := entryFor_of_tree (by kernel_rfl)
end Mine
namespace Mine
open PySem PySem.Calls PySem.Builtin PySem.Builtin.Re
theorem runFor_done {m : Sre.M} (h : m.outcome.isSome = true) : ∀ n, Sre.M.runFor n m = m
  | 0 => rfl
  | n + 1 => by unfold Sre.M.runFor; rw [if_pos h]
theorem runFor_add (b : Nat) : ∀ (a : Nat) (m : Sre.M), Sre.M.runFor (a + b) m = Sre.M.runFor b (Sre.M.runFor a m)
  | 0, m => by rw [Nat.zero_add]; rfl
  | a + 1, m => by
    rw [Nat.succ_add]
    show (if m.outcome.isSome then m else Sre.M.runFor (a + b) m.step) = Sre.M.runFor b (if m.outcome.isSome then m else Sre.M.runFor a m.step)
    by_cases h : m.outcome.isSome = true
    · rw [if_pos h, if_pos h, runFor_done h]
    · rw [if_neg h, if_neg h, runFor_add b a]
section
variable {M : Model} {A : Around} {E : Value → Shared → Prop} {s : Shared}
theorem drive_spec {Q : Sre.M → Shared → Prop} : ∀ (turns : Nat) (k : Nat) (m : Sre.M), k ≤ turns → 1 ≤ k → (Sre.M.runFor (4 * k) m).outcome.isSome = true → Q (Sre.M.runFor (4 * k) m) s → wpAny M A (reDrive turns m) Q E s
  | 0, k, m, h1, h2, _, _ => by lia
  | turns + 1, k, m, h1, h2, h3, h4 => by
    have e : Sre.M.runFor (4 * k) m = Sre.M.runFor (4 * (k - 1)) (Sre.M.runFor 4 m) := by
      rw [← runFor_add]; congr 1; lia
    unfold reDrive
    show wpAny M A (if (Sre.M.runFor 4 m).outcome.isSome then pure (Sre.M.runFor 4 m) else do rule "sre.turn"; reDrive turns (Sre.M.runFor 4 m)) Q E s
    by_cases h : (Sre.M.runFor 4 m).outcome.isSome = true
    · rw [if_pos h]
      rw [e, runFor_done h] at h4
      exact wpAny_pure h4
    · rw [if_neg h]
      have hk : 1 ≤ k - 1 := by
        rcases Nat.lt_or_ge 1 k with q | q
        · lia
        · have : k = 1 := by lia
          subst this
          rw [e] at h3
          exact absurd h3 h
      rw [e] at h3 h4
      exact wpAny_bind (wpAny_rule (drive_spec turns (k - 1) _ (by lia) hk h3 h4))
theorem rules_spec {c : Nat → Bool} {t : Nat → String} {Q : PUnit → Shared → Prop} (h : Q ⟨⟩ s) : ∀ l : List Nat, wpAny M A (forIn l PUnit.unit (fun i _ => if c i = true then (do rule (t i); pure (ForInStep.yield PUnit.unit)) else pure (ForInStep.yield PUnit.unit))) Q E s
  | [] => by rw [List.forIn_nil]; exact wpAny_pure h
  | i :: l => by
    rw [List.forIn_cons]
    refine wpAny_bind ?_
    split
    · exact wpAny_bind (wpAny_rule (wpAny_pure (rules_spec h l)))
    · exact wpAny_pure (rules_spec h l)
noncomputable def fuelN : Nat := 1048576
theorem end_spec {m : Sre.M} {Q : Option Sre.M → Shared → Prop} (h : (∃ o, (Sre.M.runFor (4 * fuelN) m).outcome = some o ∧ ((o = .matched ∧ Q (some (Sre.M.runFor (4 * fuelN) m)) s) ∨ (o = .failed ∧ Q none s)))) : wpAny M A (reRunToEnd m) Q E s := by
  obtain ⟨o, ho, hq⟩ := h
  unfold reRunToEnd
  refine wpAny_bind (drive_spec (2 ^ 64) fuelN m (by decide) (by decide) (by rw [ho]; rfl) ?_)
  refine wpAny_bind (rules_spec (c := fun i => (Sre.M.runFor (4 * fuelN) m).seen.has i) (t := fun i => Sre.names.getD i "") ?_ _)
  rw [ho]
  rcases hq with ⟨rfl, hq⟩ | ⟨rfl, hq⟩
  · exact wpAny_pure hq
  · exact wpAny_pure hq
end
noncomputable def nextV (code text : Array Nat) (start : Nat) (must : Bool) : Option (Option (Nat × Nat)) :=
  let m := Sre.M.runFor (4 * fuelN) (Sre.forSearch code text 0 start text.size must)
  match m.outcome with
  | some .matched => some (some (m.start, m.handed))
  | some .failed => some none
  | _ => none
noncomputable def piecesV (code text : Array Nat) (repl : Str) : Nat → Nat → Bool → Option (List Str)
  | 0, _, _ => none
  | f + 1, done, must => match nextV code text done must with
    | some (some (b, e)) => match piecesV code text repl f e (e == b) with
      | some l => some ((if done < b then [⟨text.extract done b⟩] else []) ++ repl :: l)
      | none => none
    | some none => some (if done < text.size then [⟨text.extract done text.size⟩] else [])
    | none => none
end Mine
namespace Mine
open PySem PySem.Calls PySem.Builtin PySem.Builtin.Re
noncomputable def PatAt (h : Heap) (a : Addr) (code : Array Nat) : Prop :=
  ∃ (fs : Array Value) (T : Addr) (ws : Array Value) (n : Nat), h.get? a = some { cls := .type "re.Pattern", data := .fields fs } ∧ fs.getD 5 .none = .ref T ∧ reRawNat (fs.getD 2 .none) = 0 ∧ reRawNat (fs.getD 6 .none) = 0 ∧
    h.get? T = some { cls := .type "tuple", data := .seq ws n } ∧ (ws.map reRawOf).map (·.toNat) = code
section
variable {M : Model} {A : Around} {E : Value → Shared → Prop} {s : Shared}
theorem target_spec {pa : Addr} {code : Array Nat} (P : PatAt s.heap pa code) {x : Str} {t : Tok} {Q : ReTarget → Shared → Prop} (h : Q { pattern := .ref pa, string := .str x t, code := code, text := x.cps, kind := 0, groups := 0, pos := 0, lim := x.cps.size } s) :
    wpAny M A (reWholeTarget (.ref pa) (.str x t)) Q E s := by
  obtain ⟨fs, T, ws, n, h1, h2, h3, h4, h5, h6⟩ := P
  unfold reWholeTarget
  refine wpAny_bind (wpAny_fieldsOf h1 rfl ?_)
  refine wpAny_bind (m := reTextOf (.str x t)) (wpAny_pure (a := (x.cps, 0)) ?_)
  rw [h4]
  refine wpAny_bind (m := reNoCollectionInside (.str x t) 0) (wpAny_pure (a := ()) ?_)
  rw [h2]
  refine wpAny_bind (m := reRawItems (.ref T)) ?_
  unfold reRawItems
  refine wpAny_bind (wpAny_seqItems h5 rfl (wpAny_pure (wpAny_pure ?_)))
  rw [h3]
  rw [← h6] at h
  exact h
end
section
variable {prog : Program} {w : World} {A : Around} {s : Shared} {R : Result → Shared → Prop}
set_option tactic.hygienic true in
theorem next_spec {A : Around} {E : Value → Shared → Prop} {s : Shared} {M : Model} {t : ReTarget} {start : Nat} {must : Bool} (hg : t.groups = 0) (hl : t.lim = t.text.size) {r : Option (Nat × Nat)} (e : nextV t.code t.text start must = some r) {Q : Option Sre.M → Shared → Prop}
    (h : ∀ o : Option Sre.M, o.map (fun m => (m.start, m.handed)) = r → Q o s) : wpAny M A (reNextFound t start must) Q E s := by
  unfold reNextFound
  rw [hg, hl]
  unfold nextV at e
  dsimp only at e
  split at e
  · rename_i ho
    cases e
    exact end_spec ⟨_, ho, .inl ⟨rfl, h _ rfl⟩⟩
  · rename_i ho
    cases e
    exact end_spec ⟨_, ho, .inr ⟨rfl, h _ rfl⟩⟩
  · cases e
set_option tactic.hygienic true in
theorem subLoop_spec {pa L : Addr} {code : Array Nat} {x repl : Str} {t1 t2 : Tok} (hx : x.cps.size ≤ lineN) (P0 : PatAt s.heap pa code) : ∀ (f done n : Nat) (must : Bool) (l : List Str), piecesV code x.cps repl f done must = some l →
    ∀ (h : Heap) (tk : Tok) (acc : List (Str × Tok)) (k : Nat), (∀ b o, b ≠ L → s.heap.get? b = some o → h.get? b = some o) → h.get? L = some (listO (strValues acc) k) → s.heap.get? L = none → acc.length + 2 * f + 4 ≤ sizeLine →
    ((acc.map (fun p => p.1.length)).sum + (l.map (fun y => y.length)).sum ≤ lineN) →
    (∀ h' tk' t', (∀ b o, b ≠ L → s.heap.get? b = some o → h'.get? b = some o) → R (.ok (.ret (.str (strL (joinS [] ((acc.map (·.1) ++ l).map fun y => y.cps.toList))) t'))) { s with heap := h', toks := tk' }) →
    codeAny (model prog w) A (.builtin "re.Pattern.sub.loop" ⟨[.ref pa, .str x t1, .str repl t2, rawInt 0, rawInt 0, rawInt n, rawInt done, rawInt done, .bool must, .ref L, .bool false], []⟩) R { s with heap := h, toks := tk }
  | 0, _, _, _, _, e => by cases e
  | f + 1, done, n, must, l, e => by
    intro h tk acc k keep hL hn hsz hsum hR
    have hss := szLine
    have hln := lineN_eq
    have P : PatAt h pa code := by
      obtain ⟨fs, T, ws, n, h1, h2, h3, h4, h5, h6⟩ := P0
      exact ⟨fs, T, ws, n, keep _ _ (fun q => by rw [q, hn] at h1; cases h1) h1, h2, h3, h4, keep _ _ (fun q => by rw [q, hn] at h5; cases h5) h5, h6⟩
    refine codeAny_builtin entry_pat_loop ?_
    unfold Builtin.«re.Pattern.sub.loop»
    refine wpAny_bind (target_spec P ?_)
    simp only [rawInt]
    rw [if_pos (by rfl)]
    refine wpAny_bind (m := reLiteralCannotBeTurned (.str repl t2)) (wpAny_pure (a := ()) ?_)
    unfold piecesV at e
    have z0 : ∀ b, ((0 : Int) != 0 && b) = false := fun _ => rfl
    have zi : ((Value.str repl t2) != Value.none) = true := by rfl
    simp only [z0, Bool.false_eq_true, if_false, Int.toNat_natCast, beq_self_eq_true, if_true, pure_bind, zi]
    have upd : ∀ (h1 : Heap) (acc1 : List (Str × Tok)) (k1 : Nat) (y : Str) (ty : Tok), h1.get? L = some (listO (strValues acc1) k1) → ∃ k2, (h1.update L (Obj.mapSeq fun xs => xs.push (.str y ty))).get? L = some (listO (strValues (acc1 ++ [(y, ty)])) k2) := fun h1 acc1 k1 y ty e1 => by
      have e2 := PyProof.Rows.get?_update_seq (c := "list") (xs := (strValues acc1).toArray) (n := k1) e1 (fun xs => xs.push (.str y ty))
      rw [List.push_toArray] at e2
      have : strValues (acc1 ++ [(y, ty)]) = strValues acc1 ++ [.str y ty] := by simp [strValues]
      rw [this]
      exact ⟨_, e2⟩
    have updK : ∀ (h1 : Heap) (y : Str) (ty : Tok), (∀ b o, b ≠ L → s.heap.get? b = some o → h1.get? b = some o) → (∀ b o, b ≠ L → s.heap.get? b = some o → (h1.update L (Obj.mapSeq fun xs => xs.push (.str y ty))).get? b = some o) := fun h1 y ty kk b o hb eb => by
      rw [Heap.get?_update_ne _ _ _ _ hb]; exact kk b o hb eb
    have svl : ∀ acc1 : List (Str × Tok), (strValues acc1).toArray.size = acc1.length := fun acc1 => by simp [strValues]
    split at e
    · rename_i b e' hnext
      split at e
      · rename_i l' hl'
        cases e
        refine wpAny_bind (next_spec rfl rfl hnext fun o ho => ?_)
        obtain ⟨m, rfl, hm⟩ := Option.map_eq_some_iff.1 ho
        obtain ⟨hm1, hm2⟩ := Prod.mk.inj hm
        dsimp only
        rw [hm1, hm2]
        -- the end of a turn
        have tail : ∀ (h1 : Heap) (tk1 : Tok) (acc1 : List (Str × Tok)) (k1 : Nat), (∀ b o, b ≠ L → s.heap.get? b = some o → h1.get? b = some o) → h1.get? L = some (listO (strValues acc1) k1) → acc1.length ≤ acc.length + 1 →
            acc1.map (·.1) = acc.map (·.1) ++ (if done < b then [⟨x.cps.extract done b⟩] else []) → wpAny (model prog w) (A.under (.builtin "re.Pattern.sub.loop" ⟨[.ref pa, .str x t1, .str repl t2, .int 0 0, .int 0 0, .int n 0, .int done 0, .int done 0, .bool must, .ref L, .bool false], []⟩)) (do
              updateSeq L fun x => x.push (Value.str repl t2)
              again (Code.builtin "re.Pattern.sub.loop" { pos := [.ref pa, .str x t1, .str repl t2, .int 0 0, .int 0 0, .int (↑n + 1) 0, .int ↑e' 0, .int ↑e' 0, .bool (e' == b), .ref L, .bool false] }))
              (fun fin s' => match fin with | .done f => R (.ok f) s' | .again c' => c'.quiet = true ∧ codeAny (model prog w) A c' R s') (fun e s' => R (.error e) s') { s with heap := h1, toks := tk1 } := fun h1 tk1 acc1 k1 kk e1 hla hma => by
          refine wpAny_bind (wpAny_updateSeq e1 rfl ?_ (by rw [svl]; lia) (by rw [Array.size_push, svl]; lia))
          obtain ⟨k2, e2⟩ := upd h1 acc1 k1 repl t2 e1
          refine wpAny_pure ⟨Code.quiet_builtin _ (by decide +kernel), ?_⟩
          refine subLoop_spec (t1 := t1) (t2 := t2) hx P0 f e' (n + 1) (e' == b) l' hl' _ tk1 (acc1 ++ [(repl, t2)]) k2 (updK h1 repl t2 kk) e2 hn (by simp; lia) ?_ ?_
          · have q1 : (acc1.map (fun p => p.1.length)).sum = ((acc1.map (·.1)).map (fun y => y.length)).sum := by rw [List.map_map]; rfl
            have q2 : (acc.map (fun p => p.1.length)).sum = ((acc.map (·.1)).map (fun y => y.length)).sum := by rw [List.map_map]; rfl
            rw [List.map_append, List.sum_append, q1, hma]
            rw [q2] at hsum
            simp only [List.map_append, List.sum_append, List.map_cons, List.sum_cons, List.map_nil, List.sum_nil] at hsum ⊢
            lia
          · intro h' tk' t' kk'
            have := hR h' tk' t' kk'
            have q3 : (acc1 ++ [(repl, t2)]).map (·.1) ++ l' = acc.map (·.1) ++ ((if done < b then [⟨x.cps.extract done b⟩] else []) ++ repl :: l') := by
              rw [List.map_append, hma]; simp [List.append_assoc]
            rw [q3]
            exact this
        split
        · rename_i hdb
          refine wpAny_bind (m := reSlice x.cps 0 done b) ?_
          show wpAny _ _ (mkStr ⟨x.cps.extract done b⟩) _ _ _
          refine wpAny_mkStr ?_ (by show (x.cps.extract done b).size ≤ _; rw [Array.size_extract]; lia)
          obtain ⟨k2, e2⟩ := upd h acc k ⟨x.cps.extract done b⟩ tk hL
          refine wpAny_bind (wpAny_updateSeq hL rfl ?_ (by rw [svl]; lia) (by rw [Array.size_push, svl]; lia))
          exact tail _ _ (acc ++ [(⟨x.cps.extract done b⟩, tk)]) k2 (updK h _ _ keep) e2 (by simp) (by rw [if_pos hdb]; simp)
        · rename_i hdb
          exact tail h tk acc k keep hL (by lia) (by rw [if_neg hdb]; simp)
      · cases e
    · rename_i hnext
      cases e
      refine wpAny_bind (next_spec rfl rfl hnext fun o ho => ?_)
      have : o = none := by induction o using Option.casesOn <;> first | rfl | cases ho
      subst this
      dsimp only
      have fin : ∀ (h1 : Heap) (tk1 : Tok) (acc1 : List (Str × Tok)) (k1 : Nat), (∀ b o, b ≠ L → s.heap.get? b = some o → h1.get? b = some o) → h1.get? L = some (listO (strValues acc1) k1) →
          acc1.map (·.1) = acc.map (·.1) ++ (if done < x.cps.size then [⟨x.cps.extract done⟩] else []) → wpAny (model prog w) (A.under (.builtin "re.Pattern.sub.loop" ⟨[.ref pa, .str x t1, .str repl t2, .int 0 0, .int 0 0, .int n 0, .int done 0, .int done 0, .bool must, .ref L, .bool false], []⟩)) (do
            let joiner ← reSlice x.cps 0 0 0
            let __do_lift ← seqItems? (.ref L)
            if (__do_lift.getD #[]).isEmpty = true then ret joiner else do
              let text ← call (.builtin "str.join") [joiner, .ref L]
              ret text)
            (fun fin s' => match fin with | .done f => R (.ok f) s' | .again c' => c'.quiet = true ∧ codeAny (model prog w) A c' R s') (fun e s' => R (.error e) s') { s with heap := h1, toks := tk1 } := fun h1 tk1 acc1 k1 kk e1 hma => by
        refine wpAny_bind (m := reSlice x.cps 0 0 0) ?_
        show wpAny _ _ (mkStr ⟨x.cps.extract 0 0⟩) _ _ _
        refine wpAny_mkStr ?_ (by show (x.cps.extract 0 0).size ≤ _; rw [Array.size_extract]; lia)
        refine wpAny_bind (wpAny_seqItems e1 rfl ?_)
        have q1 : (acc1.map (fun p => p.1.length)).sum = ((acc1.map (·.1)).map (fun y => y.length)).sum := by rw [List.map_map]; rfl
        have q2 : (acc.map (fun p => p.1.length)).sum = ((acc.map (·.1)).map (fun y => y.length)).sum := by rw [List.map_map]; rfl
        have hem : (⟨x.cps.extract 0 0⟩ : Str) = strL [] := by show (⟨x.cps.extract 0 0⟩ : Str) = ⟨#[]⟩; congr 1; simp
        have hjs : ∀ l : List Str, (l.map fun y => y.cps.toList).map strL = l := fun l => by
          induction l with
          | nil => rfl
          | cons a l ih => rw [List.map_cons, List.map_cons, ih]; rfl
        have hla : ∀ l : List Str, (l.map fun y => y.cps.toList).map (fun y => y.length + ([] : List Nat).length) = l.map fun y => y.length := fun l => by
          induction l with
          | nil => rfl
          | cons a l ih => rw [List.map_cons, List.map_cons, List.map_cons, ih]; rfl
        by_cases hnil : acc1 = []
        · subst hnil
          rw [if_pos (by rfl)]
          have := hR h1 (tk1 + 1) tk1 kk
          rw [← hma] at this
          rw [hem]
          exact wpAny_pure this
        · have hne : ((some (strValues acc1).toArray).getD #[]).isEmpty = false := by
            induction acc1 using List.casesOn with
            | nil => exact absurd rfl hnil
            | cons a l => rfl
          rw [if_neg (by rw [hne]; decide)]
          have hJ : JoinOk ⟨x.cps.extract 0 0⟩ (acc1.map (·.1)) = true := by
            rw [hem, ← hjs (acc1.map (·.1))]
            refine join_ok ?_
            rw [hla, hma, List.map_append, List.sum_append]
            rw [q2] at hsum
            exact hsum
          refine wpAny_bind (SC.join (isList_of e1) rfl hJ fun t' k => wpAny_pure ?_)
          have := hR h1 k t' kk
          rw [← hma] at this
          have hT : Txt.join ⟨x.cps.extract 0 0⟩ (acc1.map (·.1)) = strL (joinS [] ((acc1.map (·.1)).map fun y => y.cps.toList)) := by
            refine strL_of ?_
            rw [hem]
            conv => lhs; rw [← hjs (acc1.map (·.1))]
            exact join_text [] _
          rw [hT]
          exact this
      split
      · rename_i hdb
        refine wpAny_bind (m := reSlice x.cps 0 done x.cps.size) ?_
        show wpAny _ _ (mkStr ⟨x.cps.extract done x.cps.size⟩) _ _ _
        refine wpAny_mkStr ?_ (by show (x.cps.extract done x.cps.size).size ≤ _; rw [Array.size_extract]; lia)
        obtain ⟨k2, e2⟩ := upd h acc k ⟨x.cps.extract done x.cps.size⟩ tk hL
        refine wpAny_bind (wpAny_updateSeq hL rfl ?_ (by rw [svl]; lia) (by rw [Array.size_push, svl]; lia))
        exact fin _ _ (acc ++ [(⟨x.cps.extract done x.cps.size⟩, tk)]) k2 (updK h _ _ keep) e2 (by rw [if_pos hdb]; simp)
      · rename_i hdb
        exact fin h tk acc k keep hL (by rw [if_neg hdb]; simp)
    · cases e
end
end Mine
namespace Mine
open PySem PySem.Calls PySem.Builtin PySem.Builtin.Re
theorem nocall_str : typeLookup (.type "str") (Str.ofString "__call__") = pure none := by rw [typeLookup_type, builtinLookup_eq_fast]; kernel_rfl
theorem owner_pat : Manifest.owners.lookup (String.ofList ['n', 'r', 'e', 't', 't', 'a', 'P', '.', 'e', 'r'].reverse) = some Manifest.sig_re_Pattern := by kernel_rfl
theorem args_pat_sub (a b c : Value) : argsOk "re.Pattern.sub" ⟨[a, b, c], []⟩ := by
  unfold argsOk; rw [signature?_of (id := "re.Pattern.sub") (n := ['b', 'u', 's']) (o := ['n', 'r', 'e', 't', 't', 'a', 'P', '.', 'e', 'r']) (by kernel_rfl) owner_pat]; kernel_rfl
theorem named_pat (a b : Value) : reNamed "re.Pattern.sub" "sub" ["repl", "string", "count"] 2 [a, b] [] = pure [some a, some b, none] := rfl
section
variable {prog : Program} {w : World} {A : Around} {s : Shared}
theorem sub_call {pa : Addr} {code : Array Nat} {x repl : Str} {t1 t2 : Tok} (P : PatAt s.heap pa code) (hx : x.cps.size ≤ lineN) (hr : repl.cps.contains 92 = false) {l : List Str} (e : piecesV code x.cps repl 4096 0 false = some l) (hsum : (l.map (fun y => y.length)).sum ≤ lineN)
    {E : Value → Shared → Prop} {Q : Value → Shared → Prop} (h : ∀ h' tk' t', (∀ b o, s.heap.get? b = some o → h'.get? b = some o) → Q (.str (strL (joinS [] (l.map fun y => y.cps.toList))) t') { s with heap := h', toks := tk' }) :
    wpAny (model prog w) A (call (.builtin "re.Pattern.sub") [.ref pa, .str repl t2, .str x t1]) Q E s := by
  have hss := szLine
  have hln := lineN_eq
  have hT : s.TypeIs (.ref pa) "re.Pattern" := by
    obtain ⟨fs, T, ws, n, h1, _⟩ := P
    exact ⟨_, h1, rfl⟩
  refine wpAny_call (codeAny_call_builtin slot_pat_sub.plain entry_pat_sub (slot_pat_sub.check _ _ _ _ _ _ _ _ hT (args_pat_sub _ _ _) ?_))
  unfold Builtin.«re.Pattern.sub» reSubstitute
  dsimp only
  rw [named_pat]
  simp only [pure_bind]
  refine wpAny_bind (wpAny_specialOf (typeIs_str _ _ _) nocall_str ?_)
  simp only [Option.isSome_none, Bool.false_eq_true, if_false]
  refine wpAny_bind (m := asStr? (.str repl t2)) (wpAny_pure (a := some repl) ?_)
  dsimp only
  rw [if_pos (by rw [hr]; rfl)]
  refine wpAny_bind (wpAny_holding (target_spec P ?_))
  rw [if_neg (by decide)]
  refine wpAny_bind (wpAny_newList ?_)
  refine wpAny_pure ⟨Code.quiet_builtin _ (by decide +kernel), ?_⟩
  refine subLoop_spec (s := s) (t1 := t1) (t2 := t2) (repl := repl) hx P 4096 0 0 false l e _ s.toks [] 0 (fun b o _ eb => Heap.get?_push_of_some _ eb) (Heap.get?_push_size _ rfl) (get_size_none _) (by simp; omega) (by simpa using hsum) fun h' tk' t' kk => ?_
  exact h h' tk' t' fun b o eb => kk b o (fun q => by rw [q, get_size_none] at eb; cases eb) eb
end
end Mine
namespace Mine
open PySem PySem.Calls
noncomputable def code1 : Array Nat := #[14, 4, 0, 1, 1, 6, 1, 16, 46, 1]
noncomputable def code2 : Array Nat := #[14, 9, 4, 1, 2, 16, 10, 16, 13, 0, 7, 7, 16, 13, 16, 10, 15, 18, 5, 16, 10, 15, 13, 11, 16, 13, 5, 5, 0, 16, 10, 1, 15, 2, 0, 1]
noncomputable def subV (code : Array Nat) (repl text : List Nat) : Option (List Nat) := match piecesV code text.toArray (strL repl) 4096 0 false with
  | some l => if (l.map fun y => y.length).sum ≤ lineN ∧ text.length ≤ lineN then some (joinS [] (l.map fun y => y.cps.toList)) else none
  | none => none
noncomputable def quoteV (vs : List V) : Option V := match vs with
  | [.str d] => match subV code2 [13, 10] d with
    | some y => match subV code1 [46, 46] y with
      | some z => some (.str z)
      | none => none
    | none => none
  | _ => none
noncomputable def qsc : Scope := ⟨.function, [(Str.ofString "data", .local), (Str.ofString "_twin_re_1", .globalImplicit), (Str.ofString "_twin_re_2", .globalImplicit), (Str.ofString "CRLF", .globalImplicit)], false, false, []⟩
noncomputable def qcx (fid gid : Str → Option Nat) : Cx := ⟨qsc, [("data", 0)], fid, gid, none⟩
noncomputable def qinner (p : Nat → Pos) : Expr := .Call (.Attribute (.Name "_twin_re_2" (p 3)) "sub" (p 4)) [.Name "CRLF" (p 5), .Name "data" (p 6)] [] (p 7)
noncomputable def qb (p : Nat → Pos) : List Stmt := [.Return (some (.Call (.Attribute (.Name "_twin_re_1" (p 0)) "sub" (p 1)) [.Constant (.str "..") 0 (p 2), qinner p] [] (p 8))) (p 9)]
section
variable {B : Base} {n : Nat} {G G' G1 : GMap} {s s' s1 : Shared} {A : Around} {cx : Cx} {env : Env} {σ : Sig}
theorem joinS_len : ∀ l : List Str, (joinS [] (l.map fun y => y.cps.toList)).length = (l.map fun y => y.length).sum
  | [] => rfl
  | [a] => by show a.cps.toList.length = a.length + 0; rw [Array.length_toList]; rfl
  | a :: b :: l => by
    show (a.cps.toList ++ [] ++ joinS [] ((b :: l).map fun y : Str => y.cps.toList)).length = a.length + ((b :: l).map fun y : Str => y.length).sum
    rw [List.length_append, joinS_len (b :: l), List.append_nil, Array.length_toList]; rfl
set_option tactic.hygienic true in
theorem sub_expr (ok : BaseOK B) (X : EnvB cx env) (H : Hp B G s) {nm : Str} {pa : Addr} {code : Array Nat} (hg : cx.glob nm) (hm : B.mg nm = some (.ref pa)) (hd : (nm == ("__debug__" : Str)) = false) (P : ∀ h : Heap, (∀ b o, B.G0 b = some o → h.get? b = some o) → PatAt h pa code)
    {p1 p2 p3 : Pos} (hp : (p2.endLine == p3.line) = true) {e1 e2 : Expr} {m1 m2 : ME} (t : TL cx [e1, e2] [m1, m2]) {repl d y : List Nat} (hr : repl.contains 92 = false) (hv : subV code repl d = some y)
    {Q : Value → Shared → Prop} (hA : ∀ Q' : List Value → Shared → Prop, (∀ G2 s2 u1 u2, Ext B G s G2 s2 → Rep G2 u1 (.str repl) → Rep G2 u2 (.str d) → Q' [u1, u2] s2) → Wp B A (spliced (backTo p3 (starEach [e1, e2] env))) Q' s)
    (h : ∀ G' s' u, Ext B G s G' s' → Rep G' u (.str y) → Q u s') : Wp B A (eval (.Call (.Attribute (.Name nm p1) "sub" p2) [e1, e2] [] p3) env) Q s := by
  have hss := szLine
  have hln := lineN_eq
  have P0 := P s.heap fun b o eb => H.keep b o (H.base b o eb)
  obtain ⟨fs, T, ws, n, h1, _⟩ := id P0
  refine wpAny_Call_method (T := "re.Pattern") (id := "re.Pattern.sub") rfl ?_ hp plainAttrs_pat slot_pat_sub type_pat_sub ?_
  · rw [(t.plain (env := env) (pos := p3)).2]; rfl
  refine load_glob ok H X hg (.inl hm) ⟨⟨_, h1, rfl⟩, fun a q => by cases q; exact ⟨_, h1, rfl⟩, ?_⟩ hd
  refine callWith_builtin (t.plain (env := env) (pos := p3)).1 (evalArgs_of t (by simp) (hA _ fun G2 s2 u1 u2 x2 r1 r2 => ?_))
  obtain ⟨x1, t1, rfl, hx1, hz1⟩ := r1.str_inv
  obtain ⟨x2', t2, rfl, hx2, hz2⟩ := r2.str_inv
  unfold subV at hv
  split at hv
  · rename_i l hl
    split at hv
    · rename_i hc
      cases hv
      have e1 := strL_of hx1
      have e2 := strL_of hx2
      subst e1 e2
      refine sub_call (P s2.heap fun b o eb => x2.hp.keep b o (x2.hp.base b o eb)) (by show d.toArray.size ≤ _; rw [List.size_toArray]; exact hc.2) (by show repl.toArray.contains 92 = false; rw [List.contains_toArray]; exact hr) hl hc.1 fun h' tk' t' kk => ?_
      refine h G2 _ _ (x2.trans (Ext.grown (tk := tk') ok x2.hp kk)) (.str _ _ (by rfl) ?_)
      rw [joinS_len]
      lia
    · cases hv
  · cases hv
set_option tactic.hygienic true in
theorem quote_out (ok : BaseOK B) {f : Nat} {o : Obj} {fd : FuncData} {p : Nat → Pos} (K : FnOK B f 1 1 none [.stuck] o fd (qb p) (qcx B.fid B.gid) ["data"]) {a1 a2 : Addr} {tc : Tok}
    (hm1 : B.mg "_twin_re_1" = some (.ref a1)) (hm2 : B.mg "_twin_re_2" = some (.ref a2)) (hmc : B.mg "CRLF" = some (.str (strL [13, 10]) tc)) (P1 : ∀ h : Heap, (∀ b o, B.G0 b = some o → h.get? b = some o) → PatAt h a1 code1) (P2 : ∀ h : Heap, (∀ b o, B.G0 b = some o → h.get? b = some o) → PatAt h a2 code2)
    (hp1 : ((p 1).endLine == (p 8).line) = true) (hp2 : ((p 4).endLine == (p 7).line) = true) {vs : List V} {v : V} (e : quoteV vs = some v)
    (hr : Room A 40) (H : Hp B G s) {us : List Value} (ru : Reps G us vs) {Q : Value → Shared → Prop} (h : ∀ G' s' u, Ext B G s G' s' → Rep G' u v → Q u s') : Wp B A (PySem.call (.ref (B.fa f)) us) Q s := by
  unfold quoteV at e
  split at e
  case h_2 => cases e
  rename_i d
  split at e
  case h_2 => cases e
  rename_i y hy
  split at e
  case h_2 => cases e
  rename_i z hz
  cases e
  have hfr : frame 1 1 none [.str d] = some [.fz (.str d)] := rfl
  refine enter0 (n := 39) ok K hfr hr H ru fun env s5 α5 oa5 X hec heq X5 αn F5 => ?_
  have hcx : cxOk B (qcx B.fid B.gid) := ⟨rfl, rfl⟩
  have hrd : Room (A.deeper env) 39 := Room.deeper (n := 39) hr env
  have td : ∀ q, T (qcx B.fid B.gid) (.Name "data" q) (.var 0) := fun q => .var rfl rfl
  have tdd : ∀ q, T (qcx B.fid B.gid) (.Constant (.str "..") 0 q) (.lit (.str [46, 46])) := fun q => .cstr rfl (by decide)
  have g1 : (qcx B.fid B.gid).glob "_twin_re_1" := rfl
  have g2 : (qcx B.fid B.gid).glob "_twin_re_2" := rfl
  have g3 : (qcx B.fid B.gid).glob "CRLF" := rfl
  refine wpAny_execs_cons (wpAny_Return_some ?_)
  refine sub_expr ok X X5.hp (code := code1) g1 hm1 rfl P1 hp1 (.cons (tdd _) (.cons (.stuck rfl) .nil)) (repl := [46, 46]) (by decide) hz (fun Q' k => ?_) fun G9 s9 u9 x9 r9 => h G9 s9 u9 (X5.trans x9) r9
  refine wpAny_items_cons ?_ (by rfl)
  refine ev_free ok 3 _ _ _ (tdd _) hcx _ (.str [46, 46]) rfl (A.deeper env) env G s5 (hrd.less (by lia)) X X5.hp F5.rd _ fun G6 s6 u6 x6 r6 => ?_
  refine wpAny_items_cons ?_ (by rfl)
  refine sub_expr ok X x6.hp (code := code2) g2 hm2 rfl P2 hp2 (.cons (.stuck rfl) (.cons (td _) .nil)) (repl := [13, 10]) (by decide) hy (fun Q'' k2 => ?_) fun G9 s9 u9 x9 r9 => wpAny_items_nil (k G9 s9 u6 u9 (x6.trans x9) (r6.mono x9.le) r9)
  refine wpAny_items_cons ?_ (by rfl)
  refine load_glob ok x6.hp X g3 (.inl hmc) ?_ rfl
  refine wpAny_items_cons ?_ (by rfl)
  refine ev_free ok 3 _ _ _ (td _) hcx _ (.str d) rfl (A.deeper env) env G6 s6 (hrd.less (by lia)) X x6.hp (F5.rd.ext ok X5.hp x6) _ fun G7 s7 u7 x7 r7 => ?_
  exact wpAny_items_nil (k2 G7 s7 _ u7 x7 (.str _ _ (by rfl) (by decide)) r7)
end
end Mine
namespace Mine
open PySem PySem.Sre PySem.Calls
noncomputable def Mq (code text : Array Nat) (start pc pos handed : Nat) (om : Bool) (fr : List Sre.Frame) (wt : Nat) (ans : Option Bool) (seen : Seen) : M :=
  { code, text, lim := text.size, start, lastStart := text.size, pc, pos, handed, outermost := om, marks := #[], frames := fr, weight := wt, answer := ans, seen }
noncomputable def f0 (pc s : Nat) (om : Bool) : Sre.Frame := { wait := .nextStart, pc, pos := s, outermost := om }
noncomputable def Ends (m : M) (k : Nat) (r : Option (Nat × Nat)) : Prop := match r with
  | some (b, e) => (M.runFor k m).outcome = some .matched ∧ (M.runFor k m).start = b ∧ (M.runFor k m).handed = e
  | none => (M.runFor k m).outcome = some .failed
theorem Ends.step {m : M} {k : Nat} {r : Option (Nat × Nat)} (h : m.outcome = none) (e : Ends m.step k r) : Ends m (k + 1) r := by
  have q : M.runFor (k + 1) m = M.runFor k m.step := by
    show (if m.outcome.isSome then m else M.runFor k m.step) = _
    rw [h]; rfl
  unfold Ends
  rw [q]; exact e
theorem Ends.more {m : M} {k n : Nat} {r : Option (Nat × Nat)} (e : Ends m k r) (h : k ≤ n) : Ends m n r := by
  obtain ⟨j, rfl⟩ := Nat.le.dest h
  have q : (M.runFor k m).outcome.isSome = true := by
    induction r using Option.casesOn with
    | none => rw [show _ = some _ from e]; rfl
    | some p => rw [(show _ ∧ _ from e).1]; rfl
  unfold Ends
  rw [runFor_add, runFor_done q]; exact e
theorem Ends.next {code text : Array Nat} {start k : Nat} {must : Bool} {r : Option (Nat × Nat)} (e : Ends (Sre.forSearch code text 0 start text.size must) k r) (h : k ≤ 4 * fuelN) : nextV code text start must = some r := by
  have e' := e.more h
  unfold nextV
  dsimp only
  induction r using Option.casesOn with
  | none => rw [show _ = some _ from e']
  | some p => obtain ⟨a, b, c⟩ := e'; rw [a]; dsimp only; rw [b, c]
theorem m_fail {m : M} (h1 : m.answer = some false) (h2 : m.frames = []) (h3 : m.outcome = none) : Ends m 1 none := by
  refine Ends.step h3 (show m.step.outcome = some .failed from ?_)
  unfold M.step
  rw [h1, h2, h3]; rfl
section
variable {text : Array Nat} {s : Nat} {om : Bool} {seen : Seen} {r : Option (Nat × Nat)} {k : Nat}
/-! the dots at the beginnings of the rows -/
theorem d_at : (Mq code1 text s 5 s s om [f0 5 s om] 1 none seen).step = if (s == 0 || text.getD (s - 1) 0 == 10) = true then Mq code1 text s 7 s s om [f0 5 s om] 1 none ((seen.add 6).add 44) else Mq code1 text s 5 s s om [f0 5 s om] 1 (some false) ((seen.add 6).add 44) := rfl
theorem d_lit : (Mq code1 text s 7 s s om [f0 5 s om] 1 none seen).step = if s ≥ text.size then Mq code1 text s 7 s s om [f0 5 s om] 1 (some false) (seen.add 16) else bif text.getD s 0 == 46 then Mq code1 text s 9 (s + 1) s om [f0 5 s om] 1 none (seen.add 16) else Mq code1 text s 7 s s om [f0 5 s om] 1 (some false) (seen.add 16) := by kernel_rfl
theorem d_suc : (Mq code1 text s 9 (s + 1) s om [f0 5 s om] 1 none seen).step = Mq code1 text s 9 (s + 1) (s + 1) om [f0 5 s om] 1 (some true) (seen.add 1) := by induction om using Bool.casesOn <;> kernel_rfl
theorem d_yes {p q : Nat} : (Mq code1 text s p q (s + 1) om [f0 5 s om] 1 (some true) seen).step = Mq code1 text s 5 s (s + 1) om [] 0 (some true) seen := by kernel_rfl
theorem d_no {p : Nat} : (Mq code1 text s p s s om [f0 5 s om] 1 (some false) seen).step = if s < text.size then Mq code1 text (s + 1) 5 (s + 1) (s + 1) false [f0 5 (s + 1) false] 1 none seen else Mq code1 text s 5 s s om [] 0 (some false) seen := by kernel_rfl
theorem m_yes {code : Array Nat} {p q e : Nat} : Ends (Mq code text s p q e om [] 0 (some true) seen) 1 (some (s, e)) := ⟨by kernel_rfl, by kernel_rfl, by kernel_rfl⟩
theorem m_no {code : Array Nat} {p q e : Nat} : Ends (Mq code text s p q e om [] 0 (some false) seen) 1 none := show _ = _ by kernel_rfl
noncomputable def hit (text : Array Nat) (s : Nat) : Bool := (s == 0 || text.getD (s - 1) 0 == 10) && (decide (s < text.size) && text.getD s 0 == 46)
noncomputable def find1 (text : Array Nat) : Nat → Nat → Option (Nat × Nat)
  | 0, _ => none
  | k + 1, s => bif hit text s then some (s, s + 1) else find1 text k (s + 1)
theorem d_step {k s : Nat} {om : Bool} {seen : Seen} (hk : s + k = text.size) (no : ∀ (p : Nat) (seen : Seen), hit text s = false → Ends (Mq code1 text s p s s om [f0 5 s om] 1 (some false) seen) (3 * k + 4) (find1 text k s)) : Ends (Mq code1 text s 5 s s om [f0 5 s om] 1 none seen) (3 * k + 6) (find1 text k s) := by
  refine Ends.step (k := 3 * k + 5) rfl ?_
  rw [d_at]
  cases q1 : (s == 0 || text.getD (s - 1) 0 == 10) with
  | false =>
    rw [if_neg (by decide)]
    exact (no 5 _ (by unfold hit; rw [q1]; rfl)).more (Nat.le_succ _)
  | true =>
    rw [if_pos rfl]
    refine Ends.step (k := 3 * k + 4) rfl ?_
    rw [d_lit]
    by_cases q2 : s ≥ text.size
    · rw [if_pos q2]
      exact no 7 _ (by unfold hit; rw [decide_eq_false (Nat.not_lt.2 q2), q1]; rfl)
    · rw [if_neg q2]
      cases q3 : text.getD s 0 == 46 with
      | false => exact no 7 _ (by unfold hit; rw [q3, Bool.and_false, Bool.and_false])
      | true =>
        obtain ⟨k, rfl⟩ : ∃ j, k = j + 1 := ⟨k - 1, by lia⟩
        have hh : hit text s = true := by unfold hit; rw [q1, q3, decide_eq_true (Nat.lt_of_not_le q2)]; rfl
        unfold find1
        rw [hh]
        show Ends (Mq code1 text s 9 (s + 1) s om [f0 5 s om] 1 none _) (3 * k + 7) (some (s, s + 1))
        refine Ends.step (k := 3 * k + 6) rfl ?_
        rw [d_suc]
        refine Ends.step (k := 3 * k + 5) rfl ?_
        rw [d_yes]
        exact m_yes.more (by lia)
theorem d_find (k : Nat) : ∀ (s : Nat) (om : Bool) (seen : Seen), s + k = text.size → Ends (Mq code1 text s 5 s s om [f0 5 s om] 1 none seen) (3 * k + 6) (find1 text k s) := by
  induction k with
  | zero =>
    intro s om seen hk
    refine d_step hk fun p seen _ => Ends.step (k := 3) rfl ?_
    rw [d_no, if_neg (by lia)]
    exact m_no.more (by decide)
  | succ k ih =>
    intro s om seen hk
    refine d_step hk fun p seen hh => Ends.step (k := 3 * k + 6) rfl ?_
    rw [d_no, if_pos (by lia)]
    unfold find1
    rw [hh]
    exact ih (s + 1) false seen (by lia)
theorem search_fail {code : Array Nat} {must : Bool} (hc : (Sre.header code).1 = 1) (q : ¬ s < text.size) : Ends (Sre.forSearch code text 0 s text.size must) 1 none := by
  unfold Sre.forSearch
  dsimp only
  rw [hc, decide_eq_true (show text.size - s < 1 by lia), Bool.or_true, if_pos rfl]
  exact m_fail rfl rfl rfl
theorem d_next (hs : s ≤ text.size) (hz : text.size ≤ 1000000) : nextV code1 text s false = some (find1 text (text.size - s) s) := by
  refine Ends.next (k := 3 * text.size + 7) ?_ (by unfold fuelN; lia)
  by_cases q : s < text.size
  · have e : Sre.forSearch code1 text 0 s text.size false = Mq code1 text s 5 s s true [f0 5 s true] 1 none (({} : Seen).add 14) := by
      show (if (decide (s > text.size) || decide (text.size - s < 1)) = true then _ else _) = _
      rw [decide_eq_false (by lia), decide_eq_false (by lia), if_neg (by decide)]
      kernel_rfl
    rw [e]
    exact (d_find (text.size - s) s true _ (by lia)).more (by lia)
  · have e : text.size - s = 0 := by lia
    rw [e]
    exact (search_fail rfl q).more (by lia)
end
/-! ### the text that comes of it -/
theorem joinS_cons (a : List Nat) (l : List (List Nat)) : joinS [] (a :: l) = a ++ joinS [] l := by
  induction l using List.casesOn with
  | nil => exact (List.append_nil a).symm
  | cons b l => exact congrArg (· ++ joinS [] (b :: l)) (List.append_nil a)
theorem pieces_ok {code : Array Nat} {x repl : List Nat} {F : Nat → List Nat} (H : ∀ s, s ≤ x.length → (nextV code x.toArray s false = some none ∧ F s = x.drop s) ∨ ∃ b e, nextV code x.toArray s false = some (some (b, e)) ∧ s ≤ b ∧ b < e ∧ e ≤ x.length ∧ F s = (x.drop s).take (b - s) ++ (repl ++ F e)) :
    ∀ (f s : Nat), s ≤ x.length → x.length - s < f → ∃ l, piecesV code x.toArray (strL repl) f s false = some l ∧ joinS [] (l.map fun y => y.cps.toList) = F s
  | 0, _, _, h => absurd h (Nat.not_lt_zero _)
  | f + 1, s, hs, hf => by
    rcases H s hs with ⟨e, hF⟩ | ⟨b, e, e1, h1, h2, h3, hF⟩
    · unfold piecesV
      rw [e]
      refine ⟨_, rfl, ?_⟩
      rw [hF]
      by_cases q : s < x.toArray.size
      · rw [if_pos q]
        show (x.toArray.extract s x.toArray.size).toList = _
        rw [Array.toList_extract]
        show (x.drop s).take (x.length - s) = _
        rw [← List.length_drop, List.take_length]
      · rw [if_neg q, List.drop_eq_nil_of_le (Nat.le_of_not_lt q)]; rfl
    · obtain ⟨l, hl, hj⟩ := pieces_ok H f e h3 (by lia)
      unfold piecesV
      rw [e1]
      dsimp only
      rw [beq_eq_false_iff_ne.2 (Nat.ne_of_gt h2), hl]
      refine ⟨_, rfl, ?_⟩
      rw [hF]
      by_cases q : s < b
      · rw [if_pos q]
        show joinS [] ((x.toArray.extract s b).toList :: repl :: l.map fun y => y.cps.toList) = _
        rw [joinS_cons, joinS_cons, hj, Array.toList_extract]
      · rw [if_neg q, Nat.sub_eq_zero_of_le (Nat.le_of_not_lt q)]
        show joinS [] (repl :: l.map fun y => y.cps.toList) = _
        rw [joinS_cons, hj, List.take_zero, List.nil_append]
theorem sub_ok {code : Array Nat} {x repl : List Nat} {F : Nat → List Nat} (H : ∀ s, s ≤ x.length → (nextV code x.toArray s false = some none ∧ F s = x.drop s) ∨ ∃ b e, nextV code x.toArray s false = some (some (b, e)) ∧ s ≤ b ∧ b < e ∧ e ≤ x.length ∧ F s = (x.drop s).take (b - s) ++ (repl ++ F e))
    (hx : x.length < 4096) (hz : (F 0).length ≤ lineN) : subV code repl x = some (F 0) := by
  obtain ⟨l, hl, hj⟩ := pieces_ok H 4096 0 (Nat.zero_le _) hx
  unfold subV
  rw [hl]
  dsimp only
  have hln := lineN_eq
  rw [← joinS_len, hj, if_pos ⟨hz, by lia⟩]
noncomputable def dotF : Bool → List Nat → List Nat
  | _, [] => []
  | b, c :: l => bif b && c == 46 then 46 :: 46 :: dotF false l else c :: dotF (c == 10) l
noncomputable def bol (x : List Nat) (s : Nat) : Bool := s == 0 || x.toArray.getD (s - 1) 0 == 10
theorem find1_spec (x : List Nat) : ∀ (k s : Nat), s + k = x.length → (find1 x.toArray k s = none ∧ dotF (bol x s) (x.drop s) = x.drop s) ∨
    ∃ b e, find1 x.toArray k s = some (b, e) ∧ s ≤ b ∧ b < e ∧ e ≤ x.length ∧ dotF (bol x s) (x.drop s) = (x.drop s).take (b - s) ++ ([46, 46] ++ dotF (bol x e) (x.drop e))
  | 0, s, h => .inl ⟨rfl, by rw [List.drop_eq_nil_of_le (show x.length ≤ s from Nat.le_of_eq h.symm)]; cases bol x s <;> rfl⟩
  | k + 1, s, h => by
    have hs : s < x.length := by lia
    have ed := List.drop_eq_getElem_cons hs
    have eg : x.toArray.getD s 0 = x[s] := by
      unfold Array.getD
      rw [dif_pos (show s < x.toArray.size from hs)]; rfl
    have eb : bol x (s + 1) = (x[s] == 10) := by
      unfold bol
      rw [Nat.add_sub_cancel, eg]; rfl
    have eh : hit x.toArray s = (bol x s && x[s] == 46) := by
      unfold hit bol
      rw [eg, decide_eq_true (show s < x.toArray.size from hs), Bool.true_and]
    unfold find1
    rw [eh, ed]
    cases q : bol x s && x[s] == 46 with
    | true =>
      obtain ⟨q1, q2⟩ := Bool.and_eq_true_iff.1 q
      refine .inr ⟨s, s + 1, rfl, Nat.le_refl _, Nat.lt_succ_self _, hs, ?_⟩
      rw [q1, eb, eq_of_beq q2, Nat.sub_self]; rfl
    | false =>
      have e1 : dotF (bol x s) (x[s] :: x.drop (s + 1)) = x[s] :: dotF (bol x (s + 1)) (x.drop (s + 1)) := by
        rw [eb]
        conv => lhs; unfold dotF
        rw [q]; rfl
      rw [e1]
      rcases find1_spec x k (s + 1) (by lia) with ⟨h1, h2⟩ | ⟨b, e, h1, h2, h3, h4, h5⟩
      · exact .inl ⟨h1, by rw [h2]⟩
      · refine .inr ⟨b, e, h1, Nat.le_of_succ_le h2, h3, h4, ?_⟩
        have : b - s = (b - (s + 1)) + 1 := by lia
        rw [h5, this, List.take_succ_cons]; rfl
theorem dotF_len : ∀ (b : Bool) (x : List Nat), (dotF b x).length ≤ 2 * x.length
  | _, [] => Nat.zero_le _
  | b, c :: l => by
    unfold dotF
    cases b && c == 46 with
    | true => exact Nat.succ_le_succ (Nat.succ_le_succ (dotF_len false l))
    | false => exact Nat.le_trans (Nat.succ_le_succ (dotF_len (c == 10) l)) (Nat.le_succ _)
theorem sub1_ok {x : List Nat} (hx : x.length < 4096) : subV code1 [46, 46] x = some (dotF true x) := by
  have hln := lineN_eq
  refine sub_ok (F := fun s => dotF (bol x s) (x.drop s)) (fun s hs => ?_) hx (by have := dotF_len true x; show (dotF true x).length ≤ _; lia)
  rw [d_next (text := x.toArray) hs (by show x.length ≤ _; lia)]
  rcases find1_spec x (x.toArray.size - s) s (by show s + (x.length - s) = _; lia) with ⟨h1, h2⟩ | ⟨b, e, h1, h2⟩
  · exact .inl ⟨by rw [h1], h2⟩
  · exact .inr ⟨b, e, by rw [h1], h2⟩
end Mine
namespace Mine
open PySem PySem.Sre PySem.Calls
section
variable {text : Array Nat} {s : Nat} {om : Bool} {seen : Seen} {fr : List Sre.Frame} {w : Nat} {ans : Option Bool}
/-! the ends of the rows -/
noncomputable def fb (alt s : Nat) (om : Bool) : Sre.Frame := { wait := .nextBranch, pc := alt, pos := s, outermost := om }
noncomputable def fl (s : Nat) (om : Bool) : Sre.Frame := { wait := .lookNot, pc := 26, pos := s, outermost := om }
theorem b_br : (Mq code2 text s 10 s s om [f0 10 s om] 1 none seen).step = Mq code2 text s 12 s s om [fb 11 s om, f0 10 s om] 2 none (seen.add 7) := by kernel_rfl
noncomputable def Lit (p c : Nat) : Prop := ∀ (text : Array Nat) (s q h : Nat) (om : Bool) (fr : List Sre.Frame) (w : Nat) (seen : Seen), (Mq code2 text s p q h om fr w none seen).step = if q ≥ text.size then Mq code2 text s p q h om fr w (some false) (seen.add 16) else bif text.getD q 0 == c then Mq code2 text s (p + 2) (q + 1) h om fr w none (seen.add 16) else Mq code2 text s p q h om fr w (some false) (seen.add 16)
theorem l12 : Lit 12 13 := fun _ _ _ _ _ _ _ _ => by kernel_rfl
theorem l14 : Lit 14 10 := fun _ _ _ _ _ _ _ _ => by kernel_rfl
theorem l19 : Lit 19 10 := fun _ _ _ _ _ _ _ _ => by kernel_rfl
theorem l24 : Lit 24 13 := fun _ _ _ _ _ _ _ _ => by kernel_rfl
theorem l29 : Lit 29 10 := fun _ _ _ _ _ _ _ _ => by kernel_rfl
section
variable {p c q h : Nat} {k : Nat} {r : Option (Nat × Nat)}
theorem Lit.yes (L : Lit p c) (e : text.getD q 0 = c) (hq : q < text.size) (g : ∀ seen, Ends (Mq code2 text s (p + 2) (q + 1) h om fr w none seen) k r) : Ends (Mq code2 text s p q h om fr w none seen) (k + 1) r := by
  refine Ends.step rfl ?_
  rw [L, if_neg (Nat.not_le.2 hq), e, beq_self_eq_true]
  exact g _
theorem Lit.no (L : Lit p c) (e : q < text.size → text.getD q 0 ≠ c) (g : ∀ seen, Ends (Mq code2 text s p q h om fr w (some false) seen) k r) : Ends (Mq code2 text s p q h om fr w none seen) (k + 1) r := by
  refine Ends.step rfl ?_
  rw [L]
  by_cases hq : q ≥ text.size
  · rw [if_pos hq]; exact g _
  · rw [if_neg hq, beq_eq_false_iff_ne.2 (e (Nat.lt_of_not_le hq))]
    exact g _
theorem b_alt1 : (Mq code2 text s p q h om [fb 11 s om, f0 10 s om] 2 (some false) seen).step = Mq code2 text s 19 s s om [fb 18 s om, f0 10 s om] 2 none seen := by kernel_rfl
theorem b_alt2 : (Mq code2 text s p q h om [fb 18 s om, f0 10 s om] 2 (some false) seen).step = Mq code2 text s 24 s s om [fb 23 s om, f0 10 s om] 2 none seen := by kernel_rfl
theorem b_j16 : (Mq code2 text s 16 q h om fr w none seen).step = Mq code2 text s 35 q h om fr w none (seen.add 15) := by kernel_rfl
theorem b_j21 : (Mq code2 text s 21 q h om fr w none seen).step = Mq code2 text s 35 q h om fr w none (seen.add 15) := by kernel_rfl
theorem b_j32 : (Mq code2 text s 32 q h om fr w none seen).step = Mq code2 text s 35 q h om fr w none (seen.add 15) := by kernel_rfl
theorem b_not {a : Sre.Frame} : (Mq code2 text s 26 q h om [a, f0 10 s om] 2 none seen).step = Mq code2 text s 29 q q false [fl q om, a, f0 10 s om] 3 none (seen.add 5) := by kernel_rfl
theorem b_look {a : Sre.Frame} {q' : Nat} : (Mq code2 text s p q' h false [fl q om, a, f0 10 s om] 3 (some false) seen).step = Mq code2 text s 32 q h om [a, f0 10 s om] 2 none seen := by kernel_rfl
theorem b_end {alt : Nat} : Ends (Mq code2 text s 35 q h om [fb alt s om, f0 10 s om] 2 none seen) 4 (some (s, q)) := by
  induction om using Bool.casesOn <;> exact ⟨by kernel_rfl, by kernel_rfl, by kernel_rfl⟩
end
noncomputable def rowE (text : Array Nat) (s : Nat) : Nat := bif text.getD s 0 == 13 && (decide (s + 1 < text.size) && text.getD (s + 1) 0 == 10) then s + 2 else s + 1
theorem b_match (hs : s < text.size) (hc : text.getD s 0 = 10 ∨ text.getD s 0 = 13) : Ends (Mq code2 text s 10 s s om [f0 10 s om] 1 none seen) 20 (some (s, rowE text s)) := by
  refine Ends.step (k := 19) rfl ?_
  rw [b_br]
  rcases hc with hc | hc
  · have e : rowE text s = s + 1 := by unfold rowE; rw [hc]; rfl
    rw [e]
    refine l12.no (k := 18) (fun _ => by rw [hc]; decide) fun seen => ?_
    refine Ends.step (k := 17) rfl ?_
    rw [b_alt1]
    refine l19.yes (k := 16) hc hs fun seen => ?_
    refine Ends.step (k := 15) rfl ?_
    rw [b_j21]
    exact b_end.more (by decide)
  · refine l12.yes (k := 18) hc hs fun seen => ?_
    by_cases q : s + 1 < text.size ∧ text.getD (s + 1) 0 = 10
    · have e : rowE text s = s + 2 := by unfold rowE; rw [hc, q.2, decide_eq_true q.1]; rfl
      rw [e]
      refine l14.yes (k := 17) q.2 q.1 fun seen => ?_
      refine Ends.step (k := 16) rfl ?_
      rw [b_j16]
      exact b_end.more (by decide)
    · have q' : s + 1 < text.size → text.getD (s + 1) 0 ≠ 10 := fun a b => q ⟨a, b⟩
      have e : rowE text s = s + 1 := by
        unfold rowE
        by_cases z : s + 1 < text.size
        · rw [beq_eq_false_iff_ne.2 (q' z), Bool.and_false, Bool.and_false]; rfl
        · rw [decide_eq_false z, Bool.false_and, Bool.and_false]; rfl
      rw [e]
      refine l14.no (k := 17) q' fun seen => ?_
      refine Ends.step (k := 16) rfl ?_
      rw [b_alt1]
      refine l19.no (k := 15) (fun _ => by rw [hc]; decide) fun seen => ?_
      refine Ends.step (k := 14) rfl ?_
      rw [b_alt2]
      refine l24.yes (k := 13) hc hs fun seen => ?_
      refine Ends.step (k := 12) rfl ?_
      rw [b_not]
      refine l29.no (k := 11) q' fun seen => ?_
      refine Ends.step (k := 10) rfl ?_
      rw [b_look]
      refine Ends.step (k := 9) rfl ?_
      rw [b_j32]
      exact b_end.more (by decide)
noncomputable def first2 (text : Array Nat) : Nat → Nat → Option Nat
  | 0, _ => none
  | k + 1, s => bif text.getD s 0 == 10 || text.getD s 0 == 13 then some s else first2 text k (s + 1)
theorem in2 (c : Nat) (seen : Seen) : ∃ seen', inSet code2 c code2.size 5 true seen = .ok (c == 10 || c == 13, seen') := by
  have e : inSet code2 c code2.size 5 true seen = if (c == 10) = true then .ok (true, seen.add 16) else if (c == 13) = true then .ok (true, (seen.add 16).add 16) else .ok (false, ((seen.add 16).add 16).add 0) := by kernel_rfl
  rw [e]
  cases c == 10 with
  | true => exact ⟨_, rfl⟩
  | false => cases c == 13 <;> exact ⟨_, rfl⟩
theorem adm (m : M) (h1 : m.code = code2) (h2 : m.text = text) (h3 : m.lim = text.size) : ∀ (k f s : Nat) (seen : Seen), s + k = text.size → k < f → ∃ seen', M.admitted m f s seen = .ok (first2 text k s, seen')
  | _, 0, _, _, _, h => absurd h (Nat.not_lt_zero _)
  | 0, f + 1, s, seen, hs, _ => by
    unfold M.admitted
    rw [h3, if_pos (show text.size ≤ s from Nat.le_of_eq hs.symm)]
    exact ⟨_, rfl⟩
  | k + 1, f + 1, s, seen, hs, hk => by
    obtain ⟨seen1, e⟩ := in2 (text.getD s 0) seen
    unfold M.admitted first2
    rw [h3, if_neg (by lia), h1, h2, e]
    cases text.getD s 0 == 10 || text.getD s 0 == 13 with
    | true => exact ⟨_, rfl⟩
    | false => exact adm m h1 h2 h3 k f (s + 1) seen1 (by lia) (Nat.lt_of_succ_lt_succ hk)
theorem first2_some : ∀ {k s b : Nat}, first2 text k s = some b → s ≤ b ∧ b < s + k ∧ (text.getD b 0 = 10 ∨ text.getD b 0 = 13)
  | k + 1, s, b, h => by
    unfold first2 at h
    cases q : text.getD s 0 == 10 || text.getD s 0 == 13 with
    | true =>
      rw [q] at h
      obtain rfl := Option.some.inj h
      exact ⟨Nat.le_refl _, by lia, (Bool.or_eq_true_iff.1 q).imp eq_of_beq eq_of_beq⟩
    | false =>
      rw [q] at h
      obtain ⟨h1, h2, h3⟩ := first2_some h
      exact ⟨by lia, by lia, h3⟩
theorem atf_some {m : M} {b : Nat} {seen : Seen} (h4 : M.hasFirstSet m = true) (ea : M.admitted m (m.lim + 1 - s) s m.seen = .ok (some b, seen)) : M.attemptFrom m s true = M.attemptAt { m with mustAdvance := false, seen } b true := by
  unfold M.attemptFrom
  rw [h4, if_neg (by decide), ea]
theorem atf_none {m : M} {seen : Seen} (h4 : M.hasFirstSet m = true) (ea : M.admitted m (m.lim + 1 - s) s m.seen = .ok (none, seen)) : M.attemptFrom m s true = M.say { m with seen } false := by
  unfold M.attemptFrom
  rw [h4, if_neg (by decide), ea]
theorem q_next (hs : s ≤ text.size) : nextV code2 text s false = some ((first2 text (text.size - s) s).map fun b => (b, rowE text b)) := by
  refine Ends.next (k := 20) ?_ (by decide)
  by_cases q : s < text.size
  · have e : Sre.forSearch code2 text 0 s text.size false = M.attemptFrom (Mq code2 text s 10 s s true [] 0 none (({} : Seen).add 14)) s true := by
      unfold Sre.forSearch
      dsimp only
      rw [decide_eq_false (by lia), show (Sre.header code2).1 = 1 from rfl, decide_eq_false (by lia), if_neg (by decide)]
      kernel_rfl
    obtain ⟨seen, ea⟩ := adm (text := text) (Mq code2 text s 10 s s true [] 0 none (({} : Seen).add 14)) rfl rfl rfl (text.size - s) (text.size + 1 - s) s _ (by lia) (by lia)
    rw [e]
    cases z : first2 text (text.size - s) s with
    | none =>
      rw [z] at ea
      rw [atf_none rfl ea]
      exact Ends.more (k := 1) (m_fail rfl rfl rfl) (by decide)
    | some b =>
      obtain ⟨_, h8, h9⟩ := first2_some z
      rw [z] at ea
      rw [atf_some rfl ea]
      have e2 : M.attemptAt { Mq code2 text s 10 s s true [] 0 none (({} : Seen).add 14) with mustAdvance := false, seen } b true = Mq code2 text b 10 b b true [f0 10 b true] 1 none seen := by kernel_rfl
      show Ends (M.attemptAt { Mq code2 text s 10 s s true [] 0 none (({} : Seen).add 14) with mustAdvance := false, seen } b true) 20 (some (b, rowE text b))
      rw [e2]
      exact b_match (by lia) h9
  · rw [show text.size - s = 0 by lia]
    exact (search_fail rfl q).more (by decide)
end
noncomputable def rowF : Bool → List Nat → List Nat
  | _, [] => []
  | b, c :: l => bif c == 13 then 13 :: 10 :: rowF true l else bif c == 10 then (bif b then rowF false l else 13 :: 10 :: rowF false l) else c :: rowF false l
theorem getD_at {x : List Nat} {s : Nat} (hs : s < x.length) : x.toArray.getD s 0 = x[s] := by
  unfold Array.getD
  rw [dif_pos (show s < x.toArray.size from hs)]; rfl
theorem row_cr {x : List Nat} {s : Nat} (e : x.toArray.getD s 0 = 13) : rowF true (x.drop (s + 1)) = rowF false (x.drop (rowE x.toArray s)) := by
  unfold rowE
  rw [e]
  by_cases h : s + 1 < x.length
  · have ed := List.drop_eq_getElem_cons h
    rw [decide_eq_true (show s + 1 < x.toArray.size from h), getD_at h]
    cases q : x[s + 1] == 10 with
    | true =>
      rw [ed, eq_of_beq q]; rfl
    | false =>
      show _ = rowF false (x.drop (s + 1))
      rw [ed]
      conv => lhs; unfold rowF
      conv => rhs; unfold rowF
      rw [q]
      rfl
  · rw [decide_eq_false (show ¬ s + 1 < x.toArray.size from h)]
    show _ = rowF false (x.drop (s + 1))
    rw [List.drop_eq_nil_of_le (Nat.le_of_not_lt h)]; rfl
theorem rowE_le {text : Array Nat} {s : Nat} (hs : s < text.size) : s < rowE text s ∧ rowE text s ≤ text.size := by
  unfold rowE
  cases q : text.getD s 0 == 13 && (decide (s + 1 < text.size) && text.getD (s + 1) 0 == 10) with
  | true =>
    have := of_decide_eq_true (Bool.and_eq_true_iff.1 (Bool.and_eq_true_iff.1 q).2).1
    exact ⟨Nat.lt_succ_of_lt (Nat.lt_succ_self _), this⟩
  | false => exact ⟨Nat.lt_succ_self _, hs⟩
theorem first2_spec (x : List Nat) : ∀ (k s : Nat), s + k = x.length → (first2 x.toArray k s = none ∧ rowF false (x.drop s) = x.drop s) ∨
    ∃ b, first2 x.toArray k s = some b ∧ s ≤ b ∧ b < x.length ∧ rowF false (x.drop s) = (x.drop s).take (b - s) ++ ([13, 10] ++ rowF false (x.drop (rowE x.toArray b)))
  | 0, s, h => .inl ⟨rfl, by rw [List.drop_eq_nil_of_le (show x.length ≤ s from Nat.le_of_eq h.symm)]; rfl⟩
  | k + 1, s, h => by
    have hs : s < x.length := by lia
    have ed := List.drop_eq_getElem_cons hs
    have eg := getD_at hs
    unfold first2
    cases q : x.toArray.getD s 0 == 10 || x.toArray.getD s 0 == 13 with
    | true =>
      refine .inr ⟨s, rfl, Nat.le_refl _, hs, ?_⟩
      rw [Nat.sub_self, List.take_zero, List.nil_append]
      rcases Bool.or_eq_true_iff.1 q with q | q
      · have e : rowE x.toArray s = s + 1 := by unfold rowE; rw [eq_of_beq q]; rfl
        rw [e, ed, ← eg, eq_of_beq q]; rfl
      · rw [← row_cr (eq_of_beq q), ed, ← eg, eq_of_beq q]; rfl
    | false =>
      obtain ⟨q1, q2⟩ := Bool.or_eq_false_iff.1 q
      have e1 : rowF false (x.drop s) = x[s] :: rowF false (x.drop (s + 1)) := by
        rw [ed]
        conv => lhs; unfold rowF
        rw [← eg, q1, q2]; rfl
      rw [e1]
      rcases first2_spec x k (s + 1) (by lia) with ⟨h1, h2⟩ | ⟨b, h1, h2, h3, h4⟩
      · exact .inl ⟨h1, by rw [h2, ed]⟩
      · refine .inr ⟨b, h1, Nat.le_of_succ_le h2, h3, ?_⟩
        have : b - s = (b - (s + 1)) + 1 := by lia
        rw [h4, this, ed, List.take_succ_cons]; rfl
theorem rowF_len : ∀ (b : Bool) (x : List Nat), (rowF b x).length ≤ 2 * x.length
  | _, [] => Nat.zero_le _
  | b, c :: l => by
    unfold rowF
    cases c == 13 with
    | true => exact Nat.succ_le_succ (Nat.succ_le_succ (rowF_len true l))
    | false =>
      cases c == 10 with
      | true =>
        cases b with
        | true => exact Nat.le_trans (rowF_len false l) (Nat.le_succ_of_le (Nat.le_succ _))
        | false => exact Nat.succ_le_succ (Nat.succ_le_succ (rowF_len false l))
      | false => exact Nat.le_trans (Nat.succ_le_succ (rowF_len false l)) (Nat.le_succ _)
theorem sub2_ok {x : List Nat} (hx : x.length < 4096) : subV code2 [13, 10] x = some (rowF false x) := by
  have hln := lineN_eq
  refine sub_ok (F := fun s => rowF false (x.drop s)) (fun s hs => ?_) hx (by have := rowF_len false x; show (rowF false x).length ≤ _; lia)
  rw [q_next (text := x.toArray) hs]
  rcases first2_spec x (x.toArray.size - s) s (by show s + (x.length - s) = _; lia) with ⟨h1, h2⟩ | ⟨b, h1, h2, h3, h4⟩
  · exact .inl ⟨by rw [h1]; rfl, h2⟩
  · obtain ⟨h5, h6⟩ := rowE_le (text := x.toArray) (s := b) h3
    exact .inr ⟨b, _, by rw [h1]; rfl, h2, h5, h6, h4⟩
noncomputable def quoteF (vs : List V) : Option V := match vs with
  | [] => none
  | v :: vs => (match v with
    | .str d => (match vs with
      | [] => bif Nat.ble d.length 2000 then some (.str (dotF true (rowF false d))) else none
      | _ :: _ => none)
    | _ => none)
set_option tactic.hygienic true in
theorem quoteF_ok {vs : List V} {v : V} (h : quoteF vs = some v) : quoteV vs = some v := by
  induction vs using List.casesOn with
  | nil => exact (noF h).elim
  | cons x vs =>
  induction x using Mine.V.casesOn <;> first | exact (noF h).elim | skip
  rename_i d
  induction vs using List.casesOn with
  | cons => exact (noF h).elim
  | nil =>
  replace h : (bif Nat.ble d.length 2000 then some (V.str (dotF true (rowF false d))) else none) = some v := h
  cases q : Nat.ble d.length 2000 with
  | false => rw [q] at h; exact (noF h).elim
  | true =>
    rw [q] at h
    have hd := Nat.le_of_ble_eq_true q
    have := rowF_len false d
    unfold quoteV
    dsimp only
    rw [sub2_ok (by lia)]
    dsimp only
    rw [sub1_ok (by lia)]
    exact h
end Mine
namespace Mine
open PySem PySem.Builtin PySem.Builtin.Str PySem.StrLaws
/-! a text split at two letters -/
noncomputable def nxt (b : Nat) : List Nat → Bool
  | [] => false
  | d :: _ => d == b
noncomputable def cutF (a b : Nat) : Bool → List Nat → Nat → List Nat
  | _, [], _ => []
  | true, _ :: l, i => cutF a b false l (i + 1)
  | false, c :: l, i => bif c == a && nxt b l then i :: cutF a b true l (i + 1) else cutF a b false l (i + 1)
noncomputable def splF (a b : Nat) : Bool → List Nat → List Nat → List (List Nat)
  | _, cur, [] => [cur]
  | true, cur, _ :: l => splF a b false cur l
  | false, cur, c :: l => bif c == a && nxt b l then cur :: splF a b true [] l else splF a b false (cur ++ [c]) l
theorem sub_at {x : List Nat} {a b i : Nat} (h : i < x.length) : (i + 2 ≤ x.length ∧ subAt (strL x) (strL [a, b]) i = true) ↔ (x[i] == a && nxt b (x.drop (i + 1))) = true := by
  have e : subAt (strL x) (strL [a, b]) i = true ↔ (x.drop i).take 2 = [a, b] := by
    show (x.toArray.extract i (i + 2) == #[a, b]) = true ↔ _
    rw [beq_iff_eq]
    constructor
    · intro q
      have := congrArg Array.toList q
      rw [Array.toList_extract] at this
      rw [show (2 : Nat) = i + 2 - i by lia]; exact this
    · intro q
      apply Array.ext'
      rw [Array.toList_extract]
      show (x.drop i).take (i + 2 - i) = _
      rw [show i + 2 - i = 2 by lia, q]
  rw [e, List.drop_eq_getElem_cons h]
  by_cases q : i + 1 < x.length
  · rw [List.drop_eq_getElem_cons q]
    show (_ ∧ [x[i], x[i + 1]] = [a, b]) ↔ (x[i] == a && x[i + 1] == b) = true
    rw [Bool.and_eq_true, beq_iff_eq, beq_iff_eq]
    constructor
    · rintro ⟨_, z⟩
      injection z with z1 z; injection z with z2 _
      exact ⟨z1, z2⟩
    · rintro ⟨z1, z2⟩
      exact ⟨q, by rw [z1, z2]⟩
  · rw [List.drop_eq_nil_of_le (Nat.le_of_not_lt q)]
    exact ⟨fun z => absurd z.1 (by lia), fun z => by rw [show nxt b [] = false from rfl, Bool.and_false] at z; cases z⟩
theorem occ_cut (x : List Nat) (a b : Nat) : ∀ (k i : Nat) (found : Array Nat) (free : Nat) (skip : Bool), i + k = x.length + 1 → found.size ≤ i → (if skip = true then free = i + 1 else free ≤ i) →
    (forIn (List.range' i k) (found, free) (occBody (strL x) (strL [a, b]) x.length (x.length + 1))).run.fst.toList = found.toList ++ cutF a b skip (x.drop i) i
  | 0, i, found, free, skip, h, _, _ => by
    rw [List.drop_eq_nil_of_le (by lia)]
    cases skip <;> exact (List.append_nil _).symm
  | k + 1, i, found, free, skip, h, hs, hf => by
    rw [List.range'_succ, List.forIn_cons]
    unfold occBody
    by_cases hi : i < x.length
    · have sa := sub_at (a := a) (b := b) hi
      rw [List.drop_eq_getElem_cons hi]
      cases skip with
      | true =>
        have hf : free = i + 1 := hf
        rw [if_neg (fun q => by have := q.1.1.2; simp only at this; lia)]
        exact occ_cut x a b k (i + 1) found free false (by lia) (by lia) (Nat.le_of_eq hf)
      | false =>
        have hf : free ≤ i := hf
        unfold cutF
        cases q : x[i] == a && nxt b (x.drop (i + 1)) with
        | true =>
          have q2 := sa.2 q
          rw [if_pos ⟨⟨⟨by show found.size < _; lia, hf⟩, q2.1⟩, q2.2⟩]
          refine (occ_cut x a b k (i + 1) (found.push i) (i + 2) true (by lia) (by rw [Array.size_push]; lia) rfl).trans ?_
          rw [Array.toList_push, List.append_assoc]; rfl
        | false =>
          rw [if_neg (fun z => by have := sa.1 ⟨z.1.2, z.2⟩; rw [q] at this; cases this)]
          exact occ_cut x a b k (i + 1) found free false (by lia) (by lia) (Nat.le_succ_of_le hf)
    · rw [if_neg (fun q => by have := q.1.2; simp only [show (strL [a, b]).length = 2 from rfl] at this; lia), List.drop_eq_nil_of_le (Nat.le_of_not_lt hi)]
      have hk : k = 0 := by lia
      subst hk
      cases skip <;> exact (List.append_nil _).symm
noncomputable def partF (x : List Nat) : Nat → List Nat → List (List Nat)
  | start, [] => [(x.drop start).take (x.length - start)]
  | start, p :: ps => (x.drop start).take (p - start) :: partF x (p + 2) ps
theorem cut_spl (x : List Nat) (a b : Nat) : ∀ (k i : Nat), i + k = x.length → (∀ start, start ≤ i → partF x start (cutF a b false (x.drop i) i) = splF a b false ((x.drop start).take (i - start)) (x.drop i)) ∧
    (i < x.length → partF x (i + 1) (cutF a b true (x.drop i) i) = splF a b true [] (x.drop i))
  | 0, i, h => by
    refine ⟨fun start hs => ?_, fun q => absurd q (by lia)⟩
    rw [List.drop_eq_nil_of_le (show x.length ≤ i by lia)]
    show [(x.drop start).take (x.length - start)] = [(x.drop start).take (i - start)]
    rw [show i = x.length by lia]
  | k + 1, i, h => by
    have hi : i < x.length := by lia
    obtain ⟨ih1, ih2⟩ := cut_spl x a b k (i + 1) (by lia)
    rw [List.drop_eq_getElem_cons hi]
    refine ⟨fun start hs => ?_, fun _ => ?_⟩
    · unfold cutF splF
      cases q : x[i] == a && nxt b (x.drop (i + 1)) with
      | true =>
        have hi1 : i + 1 < x.length := by
          rcases Nat.lt_or_ge (i + 1) x.length with z | z
          · exact z
          · rw [List.drop_eq_nil_of_le z, show nxt b [] = false from rfl, Bool.and_false] at q; cases q
        exact congrArg ((x.drop start).take (i - start) :: ·) (ih2 hi1)
      | false =>
        refine (ih1 start (by lia)).trans ?_
        congr 1
        rw [Nat.succ_sub hs, List.take_add_one, List.getElem?_drop, Nat.add_sub_cancel' hs, List.getElem?_eq_getElem hi]; rfl
    · refine (ih1 (i + 1) (Nat.le_refl _)).trans ?_
      rw [Nat.sub_self]; rfl
theorem part_eq (x : List Nat) : ∀ (cuts : List Nat) (start : Nat), (((start :: cuts.map (· + 2)).zip (cuts ++ [x.length])).map fun (p : Nat × Nat) => (strSub (strL x) p.1 p.2).cps.toList) = partF x start cuts
  | [], start => by
    show [(x.toArray.extract start x.length).toList] = _
    rw [Array.toList_extract]; rfl
  | p :: ps, start => by
    show (x.toArray.extract start p).toList :: _ = _
    rw [Array.toList_extract]
    exact congrArg (_ :: ·) (part_eq x ps (p + 2))
theorem split_eq {x : List Nat} {a b : Nat} (ha : a < 256) (hb : b < 256) : ((Txt.split (strL x) (strL [a, b])).map fun y => y.cps.toList) = splF a b false [] x := by
  have ho : occurrences (strL x) (strL [a, b]) 0 (strL x).length ((strL x).length + 1) = cutF a b false x 0 := by
    rw [occ_eq]
    exact occ_cut x a b (x.length + 1) 0 #[] 0 false (Nat.zero_add _) (Nat.le_refl _) (Nat.le_refl _)
  have hs := (cut_spl x a b x.length 0 (Nat.zero_add _)).1 0 (Nat.le_refl _)
  have hk : Builtin.Str.strKind (strL [a, b]) = 1 := by
    unfold Builtin.Str.strKind
    rw [if_pos]
    show (#[a, b] : Array Nat).all (· < 256) = true
    simp [ha, hb]
  have hk2 : 1 ≤ Builtin.Str.strKind (strL x) := by
    unfold Builtin.Str.strKind
    split
    · exact Nat.le_refl _
    · split <;> decide
  unfold Txt.split
  rw [hk, decide_eq_false (Nat.not_lt.2 hk2), Bool.or_false, ho]
  by_cases h2 : x.length < 2
  · rw [if_pos (show decide ((strL x).length < (strL [a, b]).length) = true from decide_eq_true h2)]
    rcases x with _ | ⟨c, _ | ⟨d, l⟩⟩
    · rfl
    · show [[c]] = splF a b false [] [c]
      unfold splF
      rw [show nxt b [] = false from rfl, Bool.and_false]; rfl
    · exact absurd h2 (by simp)
  · rw [if_neg (show ¬ decide ((strL x).length < (strL [a, b]).length) = true from fun z => h2 (of_decide_eq_true z))]
    cases q : cutF a b false x 0 with
    | nil =>
      rw [if_pos (show ([] : List Nat).isEmpty = true from rfl)]
      rw [show x.drop 0 = x from rfl, q] at hs
      refine Eq.trans ?_ hs
      show [x] = [x.take (x.length - 0)]
      rw [Nat.sub_zero, List.take_length]
    | cons p ps =>
      rw [if_neg (show ¬ (p :: ps).isEmpty = true from fun z => nomatch z), ← q]
      unfold partsBetween
      rw [List.map_map]
      exact (part_eq x (cutF a b false x 0) 0).trans hs
theorem split_run {x : List Nat} {a b : Nat} (ha : a < 256) (hb : b < 256) (hx : x.length < lineN) (hn : (splF a b false [] x).length < lineN) (hl : ∀ p ∈ splF a b false [] x, p.length ≤ lineN) : methV .split (.str x) [.str [a, b]] = some (.list ((splF a b false [] x).map V.str)) := by
  have e := split_eq (x := x) ha hb
  rw [← e] at hn hl ⊢
  rw [List.length_map] at hn
  have hall : (Txt.split (strL x) (strL [a, b])).all (fun x => decide (x.length ≤ lineN)) = true := List.all_eq_true.2 fun y hy => decide_eq_true (by have := hl _ (List.mem_map_of_mem hy); rwa [Array.length_toList] at this)
  show (if _ then none else some (V.list _)) = _
  rw [decide_eq_false (Nat.not_le.2 hx), decide_eq_false (Nat.not_le.2 hn), hall, if_neg (by simp), List.map_map]
  rfl
theorem spl_join {a b : Nat} (ws : List (List Nat)) : ∀ (w : List Nat) (cur : List Nat), (∀ v ∈ w :: ws, ∀ c ∈ v, (c == a) = false) → splF a b false cur (joinS [a, b] (w :: ws)) = (cur ++ w) :: ws := by
  induction ws with
  | nil =>
    intro w
    induction w with
    | nil => intro cur _; show [cur] = [cur ++ []]; rw [List.append_nil]
    | cons c w ih =>
      intro cur h
      show (bif c == a && nxt b w then _ else splF a b false (cur ++ [c]) w) = _
      rw [h _ (.head _) c (.head _)]
      refine (ih (cur ++ [c]) fun v hv d hd => ?_).trans (by rw [List.append_assoc]; rfl)
      rw [List.mem_singleton.1 hv] at hd
      exact h _ (.head _) d (.tail _ hd)
  | cons v ws ihw =>
    intro w
    induction w with
    | nil =>
      intro cur h
      show (bif a == a && nxt b (b :: joinS [a, b] (v :: ws)) then _ else _) = _
      rw [show nxt b (b :: joinS [a, b] (v :: ws)) = true from beq_self_eq_true b, beq_self_eq_true]
      show cur :: splF a b false [] (joinS [a, b] (v :: ws)) = _
      rw [ihw v [] fun u hu => h u (.tail _ hu), List.append_nil]; rfl
    | cons c w ih =>
      intro cur h
      show (bif c == a && nxt b (joinS [a, b] (w :: v :: ws)) then _ else splF a b false (cur ++ [c]) (joinS [a, b] (w :: v :: ws))) = _
      rw [h _ (.head _) c (.head _)]
      refine (ih (cur ++ [c]) fun u hu d hd => ?_).trans (by rw [List.append_assoc]; rfl)
      rcases List.mem_cons.1 hu with rfl | hu
      · exact h _ (.head _) d (.tail _ hd)
      · exact h u (.tail _ hu) d hd
end Mine
namespace Mine
open PySem PySem.Calls
noncomputable def namesOk (sc : Scope) (vs : List (Str × Nat)) (params : List Str) : Bool :=
  decide (vs.map (·.2)).Nodup && vs.all (fun p => sc.names.lookup p.1 == some .local || sc.names.lookup p.1 == some .cell) && sc.names.all (fun p => p.2 != .free) && decide (sc.names.map (·.1)).Nodup &&
  !isCellish (sc.names.lookup (Str.ofString "__classdict__")) && (params.zipIdx.all fun p => vs.lookup p.1 == some p.2) && sc.kind == .function && !sc.isCoroutine && !sc.isGenerator
theorem fnOK_of {B : Base} {f p n : Nat} {ioo : Option Nat} {ms : List MS} {o : Obj} {fd : FuncData} {ss : List Stmt} {vs : List (Str × Nat)} {params : List Str} {cx : Cx} (hcx : cx = ⟨fd.scope, vs, B.fid, B.gid, ioo⟩) (obj : B.G0 (B.fa f) = some o) (data : o.data = .func fd) (body : fd.body = .stmts ss) (t : TS cx ss ms)
    (hn : namesOk fd.scope vs params = true) (clo : fd.closure = []) (globals : fd.globals = mainGlobals) (builtins : fd.builtins = builtinsNs) (bind : ∀ vals : List Value, vals.length = p → bindArgs fd ⟨vals, []⟩ = pure (params.zip vals)) (plen : params.length = p)
    (code : ∀ h : Heap, (∀ b o, B.G0 b = some o → h.get? b = some o) → h.CodeRec fd.code fd.qualname) (pn : p ≤ n) (iop : ∀ i, ioo = some i → i < p) : FnOK B f p n ioo ms o fd ss cx params := by
  subst hcx
  unfold namesOk at hn
  simp only [Bool.and_eq_true, decide_eq_true_eq, List.all_eq_true, Bool.or_eq_true, beq_iff_eq, bne_iff_ne, Bool.not_eq_true'] at hn
  obtain ⟨⟨⟨⟨⟨⟨⟨⟨h1, h2⟩, h3⟩, h4⟩, h5⟩, h6⟩, h7⟩, h8⟩, h9⟩ := hn
  refine ⟨obj, data, body, t, cxf_of h1, rfl, h7, ⟨rfl, rfl⟩, rfl, clo, h8, h9, globals, builtins, bind, plen, fun k x hk => ?_, fun x i hx => h2 _ (lookup_memN hx), fun x hx => h3 _ (lookup_memN hx) rfl, h4, h5, code, pn, iop⟩
  refine h6 (x, k) ?_
  rw [List.mem_zipIdx_iff_getElem?]
  exact hk
end Mine
namespace Mine
open PySem PySem.Calls
theorem len_cons {α : Type} {n : Nat} : ∀ {l : List α}, l.length = n + 1 → ∃ a r, l = a :: r ∧ r.length = n := by
  intro l h
  induction l using List.casesOn with
  | nil => exact nomatch h
  | cons a r => exact ⟨a, r, rfl, Nat.succ.inj h⟩
theorem len_nil {α : Type} {l : List α} (h : l.length = 0) : l = [] := List.eq_nil_of_length_eq_zero h
theorem bind1 {fd : FuncData} {x : Str} (h : ∀ a, bindArgs fd ⟨[a], []⟩ = pure [(x, a)]) : ∀ vals : List Value, vals.length = 1 → bindArgs fd ⟨vals, []⟩ = pure ([x].zip vals) := by
  intro l0 h0
  obtain ⟨a, l1, rfl, h1⟩ := len_cons h0
  obtain rfl := len_nil h1
  exact h a
theorem bind2 {fd : FuncData} {x y : Str} (h : ∀ a b, bindArgs fd ⟨[a, b], []⟩ = pure [(x, a), (y, b)]) : ∀ vals : List Value, vals.length = 2 → bindArgs fd ⟨vals, []⟩ = pure ([x, y].zip vals) := by
  intro l0 h0
  obtain ⟨a, l1, rfl, h1⟩ := len_cons h0
  obtain ⟨b, l2, rfl, h2⟩ := len_cons h1
  obtain rfl := len_nil h2
  exact h a b
theorem bind3 {fd : FuncData} {x y z : Str} (h : ∀ a b c, bindArgs fd ⟨[a, b, c], []⟩ = pure [(x, a), (y, b), (z, c)]) : ∀ vals : List Value, vals.length = 3 → bindArgs fd ⟨vals, []⟩ = pure ([x, y, z].zip vals) := by
  intro l0 h0
  obtain ⟨a, l1, rfl, h1⟩ := len_cons h0
  obtain ⟨b, l2, rfl, h2⟩ := len_cons h1
  obtain ⟨c, l3, rfl, h3⟩ := len_cons h2
  obtain rfl := len_nil h3
  exact h a b c
theorem bind4 {fd : FuncData} {x y z u : Str} (h : ∀ a b c d, bindArgs fd ⟨[a, b, c, d], []⟩ = pure [(x, a), (y, b), (z, c), (u, d)]) : ∀ vals : List Value, vals.length = 4 → bindArgs fd ⟨vals, []⟩ = pure ([x, y, z, u].zip vals) := by
  intro l0 h0
  obtain ⟨a, l1, rfl, h1⟩ := len_cons h0
  obtain ⟨b, l2, rfl, h2⟩ := len_cons h1
  obtain ⟨c, l3, rfl, h3⟩ := len_cons h2
  obtain ⟨d, l4, rfl, h4⟩ := len_cons h3
  obtain rfl := len_nil h4
  exact h a b c d
theorem bind5 {fd : FuncData} {x y z u v : Str} (h : ∀ a b c d e, bindArgs fd ⟨[a, b, c, d, e], []⟩ = pure [(x, a), (y, b), (z, c), (u, d), (v, e)]) : ∀ vals : List Value, vals.length = 5 → bindArgs fd ⟨vals, []⟩ = pure ([x, y, z, u, v].zip vals) := by
  intro l0 h0
  obtain ⟨a, l1, rfl, h1⟩ := len_cons h0
  obtain ⟨b, l2, rfl, h2⟩ := len_cons h1
  obtain ⟨c, l3, rfl, h3⟩ := len_cons h2
  obtain ⟨d, l4, rfl, h4⟩ := len_cons h3
  obtain ⟨e, l5, rfl, h5⟩ := len_cons h4
  obtain rfl := len_nil h5
  exact h a b c d e
theorem bind6 {fd : FuncData} {x y z u v w : Str} (h : ∀ a b c d e f, bindArgs fd ⟨[a, b, c, d, e, f], []⟩ = pure [(x, a), (y, b), (z, c), (u, d), (v, e), (w, f)]) : ∀ vals : List Value, vals.length = 6 → bindArgs fd ⟨vals, []⟩ = pure ([x, y, z, u, v, w].zip vals) := by
  intro l0 h0
  obtain ⟨a, l1, rfl, h1⟩ := len_cons h0
  obtain ⟨b, l2, rfl, h2⟩ := len_cons h1
  obtain ⟨c, l3, rfl, h3⟩ := len_cons h2
  obtain ⟨d, l4, rfl, h4⟩ := len_cons h3
  obtain ⟨e, l5, rfl, h5⟩ := len_cons h4
  obtain ⟨f, l6, rfl, h6⟩ := len_cons h5
  obtain rfl := len_nil h6
  exact h a b c d e f
end Mine
namespace Mine
open PySem PySem.Calls PySem.W PyProof.Rows
noncomputable def ob (K : Frag) (a : Addr) : Obj := (K.lookup a).getD default
noncomputable def fdOf (o : Obj) : FuncData := match o.data with | .func fd => fd | _ => default
noncomputable def ssOf (o : Obj) : List Stmt := match (fdOf o).body with | .stmts ss => ss | _ => []
noncomputable def cxOf (o : Obj) (fidL gidL vs : List (Str × Nat)) (io : Option Nat) : Cx := ⟨(fdOf o).scope, vs, fun x => fidL.lookup x, fun x => gidL.lookup x, io⟩
noncomputable def mkB (prog : Program) (w : World) (s : Shared) (mg mb : Str → Option Value) (g : Genv) (fidL gidL : List (Str × Nat)) (fa : Nat → Addr) (tabs : List TabP) : Base where
  prog := prog
  w := w
  g := g
  fid := fun x => fidL.lookup x
  gid := fun x => gidL.lookup x
  G0 := fun b => if b ∈ tabs.map (·.P) then none else s.heap.get? b
  tab := fun b => ∃ T ∈ tabs, b = T.P
  tok := fun G h => ∀ T ∈ tabs, tok1 T G h
  os := s.os
  gens := s.gens
  mg := mg
  mb := mb
  fa := fa
structure Gnd (K : Frag) (mg mb : Str → Option Value) (tabs : List TabP) (h : Heap) : Prop where
  X : K.In h
  g : h.Ns mainGlobals mg
  b : h.Ns builtinsNs mb
  nolim : h.NoLimit
  bi : ∀ x : Str, x ≠ "__name__" → mb x = bootBuiltins x
  tabE : ∀ T ∈ tabs, h.get? T.P = some (tabObj #[])
  ne : ∀ T ∈ tabs, ∀ T' ∈ tabs, T.P = T'.P → T = T'
noncomputable def isFn (K : Frag) (a : Addr) : Bool := match K.lookup a with
  | some o => (match o.data with | .func _ => true | _ => false)
  | none => false
noncomputable def fnsIn (K : Frag) (fidL : List (Str × Nat)) (fa : Nat → Addr) : Bool := fidL.all fun p => (match nsIn K mainGlobals p.1 with
  | some (some (.ref a)) => a == fa p.2 && isFn K a
  | _ => false)
noncomputable def noneIn (K : Frag) (l : List Str) : Bool := l.all fun x => match nsIn K mainGlobals x with | some none => true | _ => false
noncomputable def sysIn (K : Frag) : Bool := match K.lookup sysModules with
  | some o => (match o.data with
    | .dict es _ => (match es.toList.head? with
      | some e => (match e.key with | .str _ _ => true | _ => false)
      | none => false)
    | _ => false)
  | none => false
noncomputable def codeIn (K : Frag) (o : Obj) : Bool := match (fdOf o).code with
  | .ref c => (match K.lookup c with
    | some oc => (match oc.data with
      | .fields vs => (match (vs[1]? : Option Value) with
        | some (.str q _) => q == (fdOf o).qualname
        | _ => false)
      | _ => false) && (match oc.cls with | .none => false | _ => true)
    | none => false)
  | _ => false
noncomputable def bmIn (K : Frag) (tabs : List TabP) : Bool := match nsIn K mainGlobals "__builtins__" with
  | some (some (.ref bm)) => bm != builtinsNs && bm != mainGlobals && tabs.all (fun T => bm != T.P) && (match K.lookup bm with
    | some ⟨.type t, some d, .plain, _⟩ => t == "module" && d == builtinsNs
    | _ => false)
  | _ => false
noncomputable def builtL : List Str := ["int", "len", "max", "min", "sum", "sorted", "hex", "divmod", "range", "list", "reversed", "enumerate", "zip"]
section
variable {K : Frag} {prog : Program} {w : World} {s : Shared} {mg mb : Str → Option Value} {g : Genv} {fidL gidL : List (Str × Nat)} {fa : Nat → Addr} {tabs : List TabP}
theorem g0_get (N : Gnd K mg mb tabs s.heap) {a : Addr} {o : Obj} (e : s.heap.get? a = some o) (hn : o ≠ tabObj #[]) : (mkB prog w s mg mb g fidL gidL fa tabs).G0 a = some o := by
  refine (if_neg fun q => ?_).trans e
  obtain ⟨T, hT, rfl⟩ := List.mem_map.1 q
  rw [N.tabE T hT] at e
  cases e; exact hn rfl
theorem g0_K (N : Gnd K mg mb tabs s.heap) {a : Addr} {o : Obj} (e : K.lookup a = some o) (hn : o ≠ tabObj #[]) : (mkB prog w s mg mb g fidL gidL fa tabs).G0 a = some o := g0_get N (N.X _ _ e) hn
theorem g0_tab {T : TabP} (hT : T ∈ tabs) : (mkB prog w s mg mb g fidL gidL fa tabs).G0 T.P = none := if_pos (List.mem_map.2 ⟨T, hT, rfl⟩)
theorem g0_sub {a : Addr} {o : Obj} (e : (mkB prog w s mg mb g fidL gidL fa tabs).G0 a = some o) : s.heap.get? a = some o := by
  have e' : (if a ∈ tabs.map (·.P) then none else s.heap.get? a) = some o := e
  split at e'
  · cases e'
  · exact e'
theorem ns_lift (N : Gnd K mg mb tabs s.heap) {a : Addr} {m : Str → Option Value} (n : s.heap.Ns a m) {h : Heap} (k : ∀ b o, (mkB prog w s mg mb g fidL gidL fa tabs).G0 b = some o → h.get? b = some o) : h.Ns a m := by
  obtain ⟨o, es, ep, e, d, r⟩ := n
  exact ⟨o, es, ep, k _ _ (g0_get N e fun q => by rw [q] at d; cases d), d, r⟩
set_option tactic.hygienic true in
theorem mkB_tabs (N : Gnd K mg mb tabs s.heap) (hc : tabs.all (fun T => codeHdIn K T.c T.P) = true) (hb : bmIn K tabs = true) : TabsB (mkB prog w s mg mb g fidL gidL fa tabs) tabs := by
  refine ⟨fun _ _ => .rfl, fun _ => .rfl, N.ne, fun T hT h k => ?_, fun T hT h k => ?_⟩
  · obtain ⟨o, vs, file, tf, flags, tg, inF, text, tt, e1, e2, r⟩ := codeHd_of_K N.X (List.all_eq_true.1 hc T hT)
    exact ⟨o, vs, file, tf, flags, tg, inF, text, tt, k _ _ (g0_get N e1 fun q => by rw [q] at e2; cases e2), e2, r⟩
  · unfold bmIn at hb
    split at hb
    · rename_i bm hm
      simp only [Bool.and_eq_true, bne_iff_ne, List.all_eq_true] at hb
      obtain ⟨⟨⟨h1, h2⟩, h3⟩, h4⟩ := hb
      split at h4
      · rename_i t d sl hl
        simp only [Bool.and_eq_true, beq_iff_eq] at h4
        obtain ⟨rfl, rfl⟩ := h4
        exact ⟨bm, _, mg_of N.X N.g hm, h1, h2, h3 T hT, k _ _ (g0_K N hl (by intro q; cases q)), rfl, rfl, rfl⟩
      · cases h4
    · cases hb
theorem mem_lookupS {α : Type} {x : Str} : ∀ {l : List (Str × α)} {i : α}, l.lookup x = some i → (x, i) ∈ l := lookup_memN
theorem primOf_mem {x : Str} {p : Prim} (h : primOf x = some p) : x ∈ builtL := by
  have k : ∀ y : Str, y ∈ builtL → (x == y) = true → x ∈ builtL := fun y hy q => eq_of_beq q ▸ hy
  exact ifE h (fun q _ => k _ (by decide) q) fun h => ifE h (fun q _ => k _ (by decide) q) fun h => ifE h (fun q _ => k _ (by decide) q) fun h => ifE h (fun q _ => k _ (by decide) q) fun h =>
    ifE h (fun q _ => k _ (by decide) q) fun h => ifE h (fun q _ => k _ (by decide) q) fun h => ifE h (fun q _ => k _ (by decide) q) fun h => ifE h (fun q _ => k _ (by decide) q) fun h => (noF h).elim
set_option tactic.hygienic true in
theorem mkB_ok (N : Gnd K mg mb tabs s.heap) (hf : fnsIn K fidL fa = true) (hn : noneIn K builtL = true) (hs : sysIn K = true)
    (gl : ∀ x i v, gidL.lookup x = some i → g.gl i = some v → ∃ u, mg x = some u ∧ Rep (mkB prog w s mg mb g fidL gidL fa tabs).G0 u v) : BaseOK (mkB prog w s mg mb g fidL gidL fa tabs) := by
  have TT : ∀ {G h b}, (∀ T ∈ tabs, tok1 T G h) → (∃ T ∈ tabs, b = T.P) → ∃ o, h.get? b = some o ∧ o.cls = .none ∧ ∃ ps, o.data = .fields ps := fun x ⟨T, hT, e⟩ => by
    subst e
    rcases x T hT with e | ⟨c', oc, vs, t, e, _⟩
    · exact ⟨_, e, rfl, _, rfl⟩
    · exact ⟨_, e, rfl, _, rfl⟩
  have none_at : ∀ x ∈ builtL, mg x = none := fun x hx => by
    have := List.all_eq_true.1 hn x hx
    split at this
    · rename_i q; exact mg_none_of N.X N.g q
    · cases this
  have bb : ∀ (x : Str) v, x ≠ "__name__" → bootBuiltins x = some v → mb x = some v := fun x v h e => (N.bi x h).trans e
  refine { tabF := TT, tokM := fun x k e T hT => (x T hT).mono k (e _ ⟨T, hT, rfl⟩), nsg := fun h k => ns_lift N N.g k, nsb := fun h k => ns_lift N N.b k, nolim := fun h k => Exists.elim N.nolim fun mc a => ⟨mc, ns_lift N a.1 k, a.2⟩, gl := gl, fns := fun x f hx => ?_, sysm := ?_, prim := fun x p hp => none_at x (primOf_mem hp), pint := bb _ _ (by decide) (by kernel_rfl), plen := bb _ _ (by decide) (by kernel_rfl), pmax := bb _ _ (by decide) (by kernel_rfl), pmin := bb _ _ (by decide) (by kernel_rfl), psum := bb _ _ (by decide) (by kernel_rfl), psorted := bb _ _ (by decide) (by kernel_rfl), phex := bb _ _ (by decide) (by kernel_rfl), pdivmod := bb _ _ (by decide) (by kernel_rfl), prange := ⟨none_at _ (by decide), bb _ _ (by decide) (by kernel_rfl)⟩, plist := ⟨none_at _ (by decide), bb _ _ (by decide) (by kernel_rfl)⟩, preversed := ⟨none_at _ (by decide), bb _ _ (by decide) (by kernel_rfl)⟩, penumerate := ⟨none_at _ (by decide), bb _ _ (by decide) (by kernel_rfl)⟩, pzip := ⟨none_at _ (by decide), bb _ _ (by decide) (by kernel_rfl)⟩ }
  · have q := List.all_eq_true.1 hf (x, f) (mem_lookupS hx)
    dsimp only at q
    split at q
    · rename_i a ha
      rw [Bool.and_eq_true] at q
      obtain ⟨q1, q2⟩ := q
      have q1 := eq_of_beq q1
      subst q1
      refine ⟨mg_of N.X N.g ha, ?_⟩
      unfold isFn at q2
      split at q2
      · rename_i o ho
        split at q2
        · rename_i fd hd
          exact ⟨o, fd, g0_K N ho (fun z => by rw [z] at hd; cases hd), hd⟩
        · cases q2
      · cases q2
    · cases q
  · unfold sysIn at hs
    split at hs
    · rename_i o ho
      split at hs
      · rename_i es n hd
        split at hs
        · rename_i e he
          split at hs
          · rename_i x t hk
            exact ⟨o, e, es, n, g0_K N ho (fun z => by rw [z] at hd; cases hd), hd, he, x, t, hk⟩
          · cases hs
        · cases hs
      · cases hs
    · cases hs
theorem mkB_hp (N : Gnd K mg mb tabs s.heap) : Hp (mkB prog w s mg mb g fidL gidL fa tabs) (mkB prog w s mg mb g fidL gidL fa tabs).G0 s :=
  ⟨.refl _, fun _ _ => g0_sub, fun _ ⟨_, hT, e⟩ => e ▸ g0_tab hT, fun T hT => .inl (N.tabE T hT), rfl, rfl⟩
set_option tactic.hygienic true in
theorem mkB_code (N : Gnd K mg mb tabs s.heap) {o : Obj} (e : codeIn K o = true) : ∀ h : Heap, (∀ b o, (mkB prog w s mg mb g fidL gidL fa tabs).G0 b = some o → h.get? b = some o) → h.CodeRec (fdOf o).code (fdOf o).qualname := fun h k => by
  unfold codeIn at e
  split at e
  · rename_i c hc
    split at e
    · rename_i oc ho
      rw [Bool.and_eq_true] at e
      obtain ⟨e1, e2⟩ := e
      split at e1
      · rename_i vs hd
        split at e1
        · rename_i q t hv
          have e1 := eq_of_beq e1
          refine ⟨c, oc, vs, t, hc, k _ _ (g0_K N ho fun z => ?_), hd, by rw [hv, e1]⟩
          rw [z] at e2; cases e2
        · cases e1
      · cases e1
    · cases e
  · cases e
end
end Mine
namespace Mine
open PySem PySem.Calls PySem.W PySem.W.X PyProof.Rows
structure FnT (K : Frag) (fidL gidL : List (Str × Nat)) (a : Addr) (p n : Nat) (ioo : Option Nat) (ms : List MS) (vs : List (Str × Nat)) (params : List Str) : Prop where
  here : K.lookup a = some (ob K a)
  isf : (ob K a).data = .func (fdOf (ob K a))
  body : (fdOf (ob K a)).body = .stmts (ssOf (ob K a))
  t : TS (cxOf (ob K a) fidL gidL vs ioo) (ssOf (ob K a)) ms
  names : namesOk (fdOf (ob K a)).scope vs params = true
  clo : (fdOf (ob K a)).closure = []
  globals : (fdOf (ob K a)).globals = mainGlobals
  builtins : (fdOf (ob K a)).builtins = builtinsNs
  bind : ∀ vals : List Value, vals.length = p → bindArgs (fdOf (ob K a)) ⟨vals, []⟩ = pure (params.zip vals)
  plen : params.length = p
  code : codeIn K (ob K a) = true
  pn : p ≤ n
  iop : ∀ i, ioo = some i → i < p
section
variable {K : Frag} {prog : Program} {w : World} {s : Shared} {mg mb : Str → Option Value} {g : Genv} {fidL gidL : List (Str × Nat)} {fa : Nat → Addr} {tabs : List TabP}
theorem FnT.ok {f p n : Nat} {ioo : Option Nat} {ms : List MS} {vs : List (Str × Nat)} {params : List Str} (F : FnT K fidL gidL (fa f) p n ioo ms vs params) (N : Gnd K mg mb tabs s.heap) :
    FnOK (mkB prog w s mg mb g fidL gidL fa tabs) f p n ioo ms (ob K (fa f)) (fdOf (ob K (fa f))) (ssOf (ob K (fa f))) (cxOf (ob K (fa f)) fidL gidL vs ioo) params :=
  fnOK_of (vs := vs) rfl (g0_K N F.here fun q => by have := F.isf; rw [q] at this; cases this) F.isf F.body F.t F.names F.clo F.globals F.builtins F.bind F.plen (mkB_code N F.code) F.pn F.iop
theorem ints_reps {G : GMap} : ∀ {vs : List Value} {ns : List Int}, IntsAre vs ns → Reps G vs (ns.map V.int)
  | _, _, .nil => .nil
  | _, _, .cons _ _ h => .cons (.int _ _) (ints_reps h)
theorem law_end {c : ClaimW} {cl : Str → Option Addr} {mean : ExcName → Option Value} {args : List WData} (hr : ∀ cls, c.raises args cls = false) (hp : c.post args (.bool true) args = true) (N : Gnd K mg mb tabs s.heap) (ok : BaseOK (mkB prog w s mg mb g fidL gidL fa tabs)) (hc : tabs.all (fun T => codeHdIn K T.c T.P) = true) (fo : FnsOK (mkB prog w s mg mb g fidL gidL fa tabs))
    (hg : s.gens = #[]) {f : Nat} (hf : fidL.lookup ("law" : Str) = some f) {fa' : Addr} (hm : mg "law" = some (.ref fa')) {a : Addr} {vs : List Value} {ns : List Int} (hs : s.heap.get? a = some { cls := .type "list", data := .seq vs.toArray }) (hi : IntsAre vs ns) (hz : ns.length ≤ 63)
    (e : (run g 600).call f [.list (ns.map .int)] = some (.bool true)) :
    wpAny (model prog w) callerA (call (.ref fa') [.ref a]) (fun v s' => GoodWG c cl mean args s (.ok (.ret v)) s') (fun e s' => GoodWG c cl mean args s (.error e) s') s := by
  have e1 := (ok.fns "law" f hf).1
  have e2 : fa' = fa f := by
    have e1' : mg "law" = some (.ref (fa f)) := e1
    rw [hm] at e1'; cases e1'; rfl
  subst e2
  have H := mkB_hp (prog := prog) (w := w) (s := s) (g := g) (fidL := fidL) (gidL := gidL) (fa := fa) N
  have hss : (63 : Nat) ≤ sizeLine := by decide
  refine wpAny_mono ((all ok fo 600).call "law" f _ _ hf e callerA _ s [.ref a] ⟨by decide, by decide, rfl⟩ H (.cons (.list (n := 0) (g0_get N hs (by intro q; cases q)) (ints_reps hi) (by rw [List.length_map]; lia)) .nil)
    (fun u s' => u = .bool true ∧ OldK s.heap s'.heap ∧ s'.os = s.os ∧ s'.gens = s.gens) fun G' s' u x r => ?_) (fun u s' h => ?_) (fun _ _ h => h.elim)
  · cases r
    have kept : ∀ b o, s.heap.get? b = some o → ¬ (∃ T ∈ tabs, b = T.P) → s'.heap.get? b = some o := fun b o e h => x.grow b o e h
    have grown : ∀ T ∈ tabs, s'.heap.get? T.P = some (tabObj #[]) ∨ ∃ c', s'.heap.get? T.P = some (tabObj #[rawInt T.pos.line, rawInt T.pos.col, .ref c']) := fun T hT => by
      rcases x.hp.tok T hT with q | ⟨c', _, _, _, q, _⟩
      · exact .inl q
      · exact .inr ⟨c', q⟩
    refine ⟨rfl, ⟨fun b o eb => ?_, fun b o eb => ?_⟩, x.hp.os, x.hp.gens⟩
    · by_cases hb : ∃ T ∈ tabs, b = T.P
      · obtain ⟨T, hT, rfl⟩ := hb
        have e0 := N.tabE T hT
        rw [eb] at e0; cases e0
        have ht : isCodeTable s.heap T.P := ((codeHd_of_K N.X (List.all_eq_true.1 hc T hT)).tab eb).isCodeTable
        rcases grown T hT with q | ⟨c', q⟩
        · exact .inl q
        · exact .inr (.inl ⟨ht, rfl, #[], _, rfl, by rw [Array.empty_append]; exact q⟩)
      · exact .inl (kept b o eb hb)
    · by_cases hb : ∃ T ∈ tabs, b = T.P
      · obtain ⟨T, hT, rfl⟩ := hb
        rcases grown T hT with q | ⟨c', q⟩
        · exact ⟨_, q⟩
        · exact ⟨_, q⟩
      · exact ⟨o, kept b o eb hb⟩
  · obtain ⟨rfl, h1, h2, h3⟩ := h
    exact ⟨.inl ⟨_, _, [], rfl, hr, ReadsW.bool true, hp, fun _ => ⟨List.nodup_nil, fun _ hm => (nomatch hm)⟩⟩, h1, h2, .of_eq (h3.trans hg)⟩
end
end Mine
namespace Mine
open PySem PySem.Calls PySem.Builtin PySem.Builtin.Re PySem.W PySem.W.X PyProof.Rows
noncomputable def ExtSpec (B : Base) (f : Nat) (h : List V → Option V) : Prop :=
  ∀ vs v, h vs = some v → ∀ (A : Around) (G : GMap) (s : Shared) (us : List Value), Room A 40 → Hp B G s → Reps G us vs → ∀ Q : Value → Shared → Prop, (∀ G' s' u, Ext B G s G' s' → Rep G' u v → Q u s') → Wp B A (PySem.call (.ref (B.fa f)) us) Q s
noncomputable def i2vars : List (Str × Nat) := [("a", 0), ("n", 1), ("a_digits", 2), ("inner", 3)]
noncomputable def d2vars : List (Str × Nat) := [("digits", 0), ("n", 1), ("inner", 2)]
noncomputable def qvars : List (Str × Nat) := [("data", 0)]
structure I2T (K : Frag) (fidL gidL : List (Str × Nat)) (a : Addr) (T : TabP) (p pa pi : Nat → Pos) : Prop where
  fn : FnT K fidL gidL a 2 4 none [.stuck, .stuck, .stuck, .stuck] i2vars ["a", "n"]
  ss : ssOf (ob K a) = i2o p pa pi
  sc : (fdOf (ob K a)).scope = i2osc
  code : (fdOf (ob K a)).code = .ref T.c
  qn : (fdOf (ob K a)).qualname ++ ".<locals>." ++ "inner" = T.qual
  pos : T.pos = p 17
  line : ((p 4).endLine == (p 5).line) = true
structure D2T (K : Frag) (fidL gidL : List (Str × Nat)) (a : Addr) (T : TabP) (p pa pi : Nat → Pos) : Prop where
  fn : FnT K fidL gidL a 2 3 none [.stuck, .stuck] d2vars ["digits", "n"]
  ss : ssOf (ob K a) = d2o p pa pi
  sc : (fdOf (ob K a)).scope = d2osc
  code : (fdOf (ob K a)).code = .ref T.c
  qn : (fdOf (ob K a)).qualname ++ ".<locals>." ++ "inner" = T.qual
  pos : T.pos = p 0
noncomputable def PatK (K : Frag) (a : Addr) (code : Array Nat) : Prop :=
  ∃ (fs : Array Value) (T : Addr) (ws : Array Value) (n : Nat), K.lookup a = some { cls := .type "re.Pattern", data := .fields fs } ∧ fs.getD 5 .none = .ref T ∧ reRawNat (fs.getD 2 .none) = 0 ∧ reRawNat (fs.getD 6 .none) = 0 ∧
    K.lookup T = some { cls := .type "tuple", data := .seq ws n } ∧ (ws.map reRawOf).map (·.toNat) = code
structure QT (K : Frag) (fidL gidL : List (Str × Nat)) (a a1 a2 : Addr) (tc : Tok) (p : Nat → Pos) : Prop where
  fn : FnT K fidL gidL a 1 1 none [.stuck] qvars ["data"]
  ss : ssOf (ob K a) = qb p
  sc : (fdOf (ob K a)).scope = qsc
  m1 : nsIn K mainGlobals "_twin_re_1" = some (some (.ref a1))
  m2 : nsIn K mainGlobals "_twin_re_2" = some (some (.ref a2))
  mc : nsIn K mainGlobals "CRLF" = some (some (.str (strL [13, 10]) tc))
  p1 : PatK K a1 code1
  p2 : PatK K a2 code2
  l1 : ((p 1).endLine == (p 8).line) = true
  l2 : ((p 4).endLine == (p 7).line) = true
section
variable {K : Frag} {prog : Program} {w : World} {s : Shared} {mg mb : Str → Option Value} {g : Genv} {fidL gidL : List (Str × Nat)} {fa : Nat → Addr} {tabs : List TabP} {T : TabP} {f : Nat} {p pa pi : Nat → Pos}
theorem qual_inner {q : Str} {sc : Scope} (hs : sc.names.lookup ("inner" : Str) = some .cell) {t : Str} (e : q ++ ".<locals>." ++ "inner" = t) : ∀ env : Env, env.scope = sc → env.qual = q ++ ".<locals>." → qualnameIn env "inner" "inner" = t := fun env h1 h2 => by
  have hk : env.kindOf "inner" = some .cell := by
    unfold Env.kindOf
    rw [h1]; exact hs
  unfold qualnameIn
  rw [hk, h2, ← e]
  rfl
theorem I2T.spec (I : I2T K fidL gidL (fa f) T p pa pi) (N : Gnd K mg mb tabs s.heap) (ok : BaseOK (mkB prog w s mg mb g fidL gidL fa tabs)) (TB : TabsB (mkB prog w s mg mb g fidL gidL fa tabs) tabs) (hT : T ∈ tabs) : ExtSpec (mkB prog w s mg mb g fidL gidL fa tabs) f i2V := by
  intro vs v e A G s1 us hr H ru Q h
  have K0 := I.fn.ok (prog := prog) (w := w) (g := g) N
  have hcx : cxOf (ob K (fa f)) fidL gidL i2vars none = i2ocx (mkB prog w s mg mb g fidL gidL fa tabs).fid (mkB prog w s mg mb g fidL gidL fa tabs).gid := by
    unfold cxOf
    rw [I.sc]; rfl
  rw [hcx, I.ss] at K0
  exact i2_out ok TB hT K0 I.sc I.code I.pos (qual_inner rfl I.qn) I.line e hr H ru h
theorem D2T.spec (I : D2T K fidL gidL (fa f) T p pa pi) (N : Gnd K mg mb tabs s.heap) (ok : BaseOK (mkB prog w s mg mb g fidL gidL fa tabs)) (TB : TabsB (mkB prog w s mg mb g fidL gidL fa tabs) tabs) (hT : T ∈ tabs) : ExtSpec (mkB prog w s mg mb g fidL gidL fa tabs) f d2V := by
  intro vs v e A G s1 us hr H ru Q h
  have K0 := I.fn.ok (prog := prog) (w := w) (g := g) N
  have hcx : cxOf (ob K (fa f)) fidL gidL d2vars none = d2ocx (mkB prog w s mg mb g fidL gidL fa tabs).fid (mkB prog w s mg mb g fidL gidL fa tabs).gid := by
    unfold cxOf
    rw [I.sc]; rfl
  rw [hcx, I.ss] at K0
  exact d2_out ok TB hT K0 I.code I.pos (qual_inner rfl I.qn) e hr H ru h
theorem patK_at (N : Gnd K mg mb tabs s.heap) {a : Addr} {code : Array Nat} (P : PatK K a code) : ∀ h : Heap, (∀ b o, (mkB prog w s mg mb g fidL gidL fa tabs).G0 b = some o → h.get? b = some o) → PatAt h a code := fun h k => by
  obtain ⟨fs, T, ws, n, h1, h2, h3, h4, h5, h6⟩ := P
  exact ⟨fs, T, ws, n, k _ _ (g0_K N h1 (by intro q; cases q)), h2, h3, h4, k _ _ (g0_K N h5 (by intro q; cases q)), h6⟩
theorem QT.spec {a1 a2 : Addr} {tc : Tok} (I : QT K fidL gidL (fa f) a1 a2 tc p) (N : Gnd K mg mb tabs s.heap) (ok : BaseOK (mkB prog w s mg mb g fidL gidL fa tabs)) : ExtSpec (mkB prog w s mg mb g fidL gidL fa tabs) f quoteV := by
  intro vs v e A G s1 us hr H ru Q h
  have K0 := I.fn.ok (prog := prog) (w := w) (g := g) N
  have hcx : cxOf (ob K (fa f)) fidL gidL qvars none = qcx (mkB prog w s mg mb g fidL gidL fa tabs).fid (mkB prog w s mg mb g fidL gidL fa tabs).gid := by
    unfold cxOf
    rw [I.sc]; rfl
  rw [hcx, I.ss] at K0
  exact quote_out ok K0 (mg_of N.X N.g I.m1) (mg_of N.X N.g I.m2) (mg_of N.X N.g I.mc) (patK_at N I.p1) (patK_at N I.p2) I.l1 I.l2 e hr H ru h
theorem QT.specF {a1 a2 : Addr} {tc : Tok} (I : QT K fidL gidL (fa f) a1 a2 tc p) (N : Gnd K mg mb tabs s.heap) (ok : BaseOK (mkB prog w s mg mb g fidL gidL fa tabs)) : ExtSpec (mkB prog w s mg mb g fidL gidL fa tabs) f quoteF := fun vs v e => QT.spec I N ok vs v (quoteF_ok e)
end
noncomputable def at0 (l : List Pos) (k : Nat) : Pos := l.getD k default
end Mine
end
namespace Mine
open PySem
noncomputable def vars_pretty_flags : List (Str × Nat) := [("flags", 0), ("names", 1), ("i", 2), ("flag", 3)]
noncomputable def ms_pretty_flags : List MS := [(.fresh 1 (.list [])), (.for' (.one 2) .range1 [(.lit (.int 32))] [(.assign (.one 3) (.bin .shl (.lit (.int 1)) (.var 2))), (.ifs (.bin .band (.var 0) (.var 3)) [(.append 1 (.meth .get2 (.glob 0) [(.var 3), (.prim .hex [(.var 3)])])), (.aug 0 .bxor (.var 3)), (.ifs (.un .not (.var 0)) [.brk] [])] [])] [(.append 1 (.prim .hex [(.var 0)]))]), .freeze 1, (.ret (.meth .join (.lit (.str [44, 32])) [(.var 1)]))]
noncomputable def vars_div2n1n : List (Str × Nat) := [("a", 0), ("b", 1), ("n", 2), ("pad", 3), ("half_n", 4), ("mask", 5), ("b1", 6), ("b2", 7), ("q1", 8), ("r", 9), ("q2", 10)]
noncomputable def ms_div2n1n : List MS := [(.ifs (.cmp (.bin .sub (.meth .bitlen (.var 0) []) (.var 2)) .le (.glob 1)) [(.ret (.prim .divmod [(.var 0), (.var 1)]))] []), (.assign (.one 3) (.bin .band (.var 2) (.lit (.int 1)))), (.ifs (.var 3) [(.aug 0 .shl (.lit (.int 1))), (.aug 1 .shl (.lit (.int 1))), (.aug 2 .add (.lit (.int 1)))] []), (.assign (.one 4) (.bin .shr (.var 2) (.lit (.int 1)))), (.assign (.one 5) (.bin .sub (.bin .shl (.lit (.int 1)) (.var 4)) (.lit (.int 1)))), (.par [(6, false), (7, false)] [(.bin .shr (.var 1) (.var 4)), (.bin .band (.var 1) (.var 5))]), (.assign (.many [8, 9]) (.call 2 [(.bin .shr (.var 0) (.var 2)), (.bin .band (.bin .shr (.var 0) (.var 4)) (.var 5)), (.var 1), (.var 6), (.var 7), (.var 4)])), (.assign (.many [10, 9]) (.call 2 [(.var 9), (.bin .band (.var 0) (.var 5)), (.var 1), (.var 6), (.var 7), (.var 4)])), (.ifs (.var 3) [(.aug 9 .shr (.lit (.int 1)))] []), (.ret (.tup [(.bin .bor (.bin .shl (.var 8) (.var 4)) (.var 10)), (.var 9)]))]
noncomputable def vars_div3n2n : List (Str × Nat) := [("a12", 0), ("a3", 1), ("b", 2), ("b1", 3), ("b2", 4), ("n", 5), ("q", 6), ("r", 7)]
noncomputable def ms_div3n2n : List MS := [(.ifs (.cmp (.bin .shr (.var 0) (.var 5)) .eq (.var 3)) [(.par [(6, false), (7, false)] [(.bin .sub (.bin .shl (.lit (.int 1)) (.var 5)) (.lit (.int 1))), (.bin .add (.bin .sub (.var 0) (.bin .shl (.var 3) (.var 5))) (.var 3))])] [(.assign (.many [6, 7]) (.call 1 [(.var 0), (.var 3), (.var 5)]))]), (.assign (.one 7) (.bin .sub (.bin .bor (.bin .shl (.var 7) (.var 5)) (.var 1)) (.bin .mul (.var 6) (.var 4)))), (.while' (.cmp (.var 7) .lt (.lit (.int 0))) [(.aug 6 .sub (.lit (.int 1))), (.aug 7 .add (.var 2))]), (.ret (.tup [(.var 6), (.var 7)]))]
noncomputable def vars_divmod_pos : List (Str × Nat) := [("a", 0), ("b", 1), ("n", 2), ("a_digits", 3), ("r", 4), ("q_digits", 5), ("a_digit", 6), ("q_digit", 7), ("q", 8)]
noncomputable def ms_divmod_pos : List MS := [(.assign (.one 2) (.meth .bitlen (.var 1) [])), (.assign (.one 3) (.call 3 [(.var 0), (.var 2)])), (.assign (.one 4) (.lit (.int 0))), (.fresh 5 (.list [])), (.for' (.one 6) .reversed [(.var 3)] [(.assign (.many [7, 4]) (.call 1 [(.bin .add (.bin .shl (.var 4) (.var 2)) (.var 6)), (.var 1), (.var 2)])), (.append 5 (.var 7))] []), (.reverse 5), .freeze 5, (.assign (.one 8) (.call 4 [(.var 5), (.var 2)])), (.ret (.tup [(.var 8), (.var 4)]))]
noncomputable def vars_int_divmod : List (Str × Nat) := [("a", 0), ("b", 1), ("q", 2), ("r", 3)]
noncomputable def ms_int_divmod : List MS := [(.ifs (.cmp (.var 1) .eq (.lit (.int 0))) [.stuck] [(.ifs (.cmp (.var 1) .lt (.lit (.int 0))) [(.assign (.many [2, 3]) (.call 6 [(.un .neg (.var 0)), (.un .neg (.var 1))])), (.ret (.tup [(.var 2), (.un .neg (.var 3))]))] [(.ifs (.cmp (.var 0) .lt (.lit (.int 0))) [(.assign (.many [2, 3]) (.call 6 [(.un .inv (.var 0)), (.var 1)])), (.ret (.tup [(.un .inv (.var 2)), (.bin .add (.var 1) (.un .inv (.var 3)))]))] [(.ret (.call 5 [(.var 0), (.var 1)]))])])])]
noncomputable def flagL : List (Int × V) := [(1, .str [79, 80, 84, 73, 77, 73, 90, 69, 68]), (2, .str [78, 69, 87, 76, 79, 67, 65, 76, 83]), (4, .str [86, 65, 82, 65, 82, 71, 83]), (8, .str [86, 65, 82, 75, 69, 89, 87, 79, 82, 68, 83]), (16, .str [78, 69, 83, 84, 69, 68]), (32, .str [71, 69, 78, 69, 82, 65, 84, 79, 82]), (64, .str [78, 79, 70, 82, 69, 69]), (128, .str [67, 79, 82, 79, 85, 84, 73, 78, 69]), (256, .str [73, 84, 69, 82, 65, 66, 76, 69, 95, 67, 79, 82, 79, 85, 84, 73, 78, 69]), (512, .str [65, 83, 89, 78, 67, 95, 71, 69, 78, 69, 82, 65, 84, 79, 82])]
noncomputable def glL : List V := [.dict flagL, .int 4000]
noncomputable def gidL : List (Str × Nat) := [("COMPILER_FLAG_NAMES", 0), ("_DIV_LIMIT", 1)]
end Mine
namespace Mine
open PySem
noncomputable def vars_law_hours : List (Str × Nat) := [("numbers", 0), ("names", 1), ("rested", 2), ("hours", 3), ("name", 4), ("number", 5)]
noncomputable def ms_law_hours : List MS := [(.assign (.one 1) (.list [(.lit (.str [79, 80, 84, 73, 77, 73, 90, 69, 68])), (.lit (.str [78, 69, 87, 76, 79, 67, 65, 76, 83])), (.lit (.str [86, 65, 82, 65, 82, 71, 83])), (.lit (.str [86, 65, 82, 75, 69, 89, 87, 79, 82, 68, 83])), (.lit (.str [78, 69, 83, 84, 69, 68])), (.lit (.str [71, 69, 78, 69, 82, 65, 84, 79, 82])), (.lit (.str [78, 79, 70, 82, 69, 69])), (.lit (.str [67, 79, 82, 79, 85, 84, 73, 78, 69])), (.lit (.str [73, 84, 69, 82, 65, 66, 76, 69, 95, 67, 79, 82, 79, 85, 84, 73, 78, 69]))])), (.assign (.one 2) (.meth .split (.call 0 [(.bin .fmod (.sub (.var 0) (.lit (.int 1))) (.lit (.int 512)))]) [(.lit (.str [44, 32]))])), (.fresh 3 (.list [])), (.for' (.many [4, 5]) .zip [(.var 1), (.slice (.var 0) (some (.lit (.int 3))) none)] [(.append 3 (.tup [(.bin .fmod (.var 5) (.lit (.int 8))), (.ite (.cmp (.var 4) .mem (.var 2)) (.bin .fmod (.bin .fdiv (.var 5) (.lit (.int 8))) (.lit (.int 8))) (.lit (.int 0)))]))] []), .freeze 3, (.ret (.var 3))]
noncomputable def vars_law_people : List (Str × Nat) := [("number", 0), ("most", 1), ("people", 2), ("height", 3)]
noncomputable def ms_law_people : List MS := [(.fresh 2 (.lit (.dict []))), (.for' (.one 3) .range2 [(.lit (.int 1)), (.var 1)] [(.setItem 2 (.var 3) (.bin .fmod (.bin .fdiv (.var 0) (.bin .pow (.lit (.int 10)) (.bin .sub (.var 3) (.lit (.int 1))))) (.lit (.int 10))))] []), .freeze 2, (.ret (.var 2))]
noncomputable def vars_law_hour : List (Str × Nat) := [("crowd", 0), ("gone", 1), ("stay", 2), ("most", 3), ("end", 4), ("heights", 5), ("sent", 6), ("above", 7), ("good", 8), ("after", 9), ("height", 10), ("up", 11), ("other", 12), ("ways", 13)]
noncomputable def ms_law_hour : List MS := [(.assign (.one 5) (.prim .sorted [(.var 0)])), (.assign (.one 6) (.call 7 [(.meth .join (.lit (.str [])) [(.comp (.bin .add (.bin .add (.bin .mul (.lit (.str [46])) (.var 14)) (.lit (.str [97]))) (.var 4)) (.one 14) .plain [(.var 5)] [])])])), (.assign (.one 7) (.comp (.meth .index (.var 15) [(.lit (.str [97]))]) (.one 15) .plain [(.slice (.meth .split (.var 6) [(.lit (.str [13, 10]))]) none (some (.un .neg (.lit (.int 1)))))] [])), (.assign (.one 8) (.cmp (.prim .len [(.var 7)]) .eq (.prim .len [(.var 5)]))), (.assign (.one 8) (.bop true [(.var 8), (.cmp (.var 6) .eq (.meth .join (.lit (.str [])) [(.comp (.bin .add (.bin .mul (.lit (.str [46])) (.var 16)) (.lit (.str [97, 13, 10]))) (.one 16) .plain [(.var 7)] [])]))])), (.fresh 9 (.lit (.dict []))), (.for' (.many [10, 11]) .zip [(.var 5), (.var 7)] [(.for' (.many [12, 13]) .plain [(.list [(.tup [(.bin .fmod (.var 11) (.var 3)), (.var 1)]), (.tup [(.prim .max2 [(.bin .sub (.var 10) (.lit (.int 1))), (.lit (.int 0))]), (.var 1)]), (.tup [(.var 10), (.var 2)])])] [(.setItem 9 (.var 12) (.bin .add (.meth .get2 (.var 9) [(.var 12), (.lit (.int 0))]) (.bin .mul (.var 13) (.sub (.var 0) (.var 10)))))] [])] []), .freeze 9, (.ret (.tup [(.var 9), (.var 8)]))]
noncomputable def vars_law_walked : List (Str × Nat) := [("crowd", 0), ("hours", 1), ("most", 2), ("end", 3), ("good", 4), ("gone", 5), ("stay", 6), ("right", 7)]
noncomputable def ms_law_walked : List MS := [(.assign (.one 4) (.lit (.bool true))), (.for' (.many [5, 6]) .plain [(.var 1)] [(.assign (.many [0, 7]) (.call 10 [(.var 0), (.var 5), (.var 6), (.var 2), (.var 3)])), (.assign (.one 4) (.bop true [(.var 4), (.var 7)]))] []), (.ret (.tup [(.var 0), (.var 4)]))]
noncomputable def vars_law_told : List (Str × Nat) := [("people", 0), ("hours", 1), ("most", 2), ("width", 3), ("side", 4), ("base", 5), ("full", 6), ("number", 7), ("height", 8), ("gone", 9), ("stay", 10), ("rest", 11)]
noncomputable def ms_law_told : List MS := [(.par [(5, false), (6, false)] [(.bin .pow (.lit (.int 2)) (.var 3)), (.bin .sub (.bin .pow (.lit (.int 2)) (.bin .mul (.bin .mul (.lit (.int 2)) (.var 2)) (.var 3))) (.lit (.int 1)))]), (.assign (.one 7) (.lit (.int 0))), (.for' (.one 8) .plain [(.prim .sorted [(.var 0)])] [(.aug 7 .add (.bin .mul (.sub (.var 0) (.var 8)) (.bin .sub (.bin .pow (.var 5) (.var 8)) (.bin .pow (.var 5) (.bin .sub (.bin .mul (.lit (.int 2)) (.var 2)) (.var 8))))))] []), (.for' (.many [9, 10]) .plain [(.var 1)] [(.aug 7 .mul (.bin .add (.bin .mul (.var 9) (.bin .add (.var 5) (.bin .pow (.var 5) (.bin .sub (.bin .mul (.lit (.int 2)) (.var 2)) (.lit (.int 1)))))) (.var 10)))] []), (.aug 7 .add (.bin .mul (.bin .fdiv (.var 5) (.lit (.int 2))) (.bin .fdiv (.var 6) (.bin .sub (.var 5) (.lit (.int 1)))))), (.assign (.one 11) (.sub (.call 6 [(.bin .mul (.var 4) (.var 7)), (.bin .mul (.var 4) (.var 6))]) (.lit (.int 1)))), (.ret (.comp (.bin .sub (.var 12) (.bin .fdiv (.var 5) (.lit (.int 2)))) (.one 12) .plain [(.call 3 [(.bin .mul (.var 4) (.var 11)), (.var 3)])] []))]
noncomputable def vars_law : List (Str × Nat) := [("script", 0), ("drawn", 1), ("numbers", 2), ("shape", 3), ("most", 4), ("plain", 5), ("place", 6), ("number", 7), ("people", 8), ("crowd", 9), ("good", 10), ("figures", 11), ("total", 12), ("gone", 13), ("stay", 14), ("ends", 15)]
noncomputable def ms_law : List MS := [(.assign (.one 1) (.comp (.bin .fmod (.prim .int1 [(.var 16)]) (.bin .pow (.lit (.int 10)) (.lit (.int 6)))) (.one 16) .plain [(.slice (.var 0) none (some (.lit (.int 12))))] [])), (.assign (.one 2) (.bin .add (.var 1) (.slice (.list [(.lit (.int 27)), (.lit (.int 5)), (.lit (.int 4021)), (.lit (.int 9)), (.lit (.int 17)), (.lit (.int 10))]) (some (.prim .len [(.var 1)])) none))), (.par [(3, false), (4, false)] [(.sub (.var 2) (.lit (.int 0))), (.bin .add (.lit (.int 2)) (.bin .fmod (.sub (.var 2) (.lit (.int 0))) (.lit (.int 5))))]), (.fresh 5 (.list [])), (.for' (.many [6, 7]) .enumerate [(.slice (.var 2) (some (.lit (.int 3))) none)] [(.append 5 (.tup [(.bin .fmod (.var 7) (.lit (.int 8))), (.bin .mul (.bin .fmod (.bin .fdiv (.var 7) (.lit (.int 8))) (.lit (.int 8))) (.bin .fmod (.bin .fdiv (.sub (.var 2) (.lit (.int 1))) (.bin .pow (.lit (.int 2)) (.var 6))) (.lit (.int 2))))]))] []), (.assign (.one 8) (.call 9 [(.sub (.var 2) (.lit (.int 2))), (.var 4)])), (.assign (.many [9, 10]) (.call 11 [(.var 8), (.call 8 [(.var 2)]), (.var 4), (.sub (.list [(.lit (.str [10])), (.lit (.str [13])), (.lit (.str [13, 10]))]) (.bin .fmod (.bin .fdiv (.var 3) (.lit (.int 5))) (.lit (.int 3))))])), .freeze 5, (.assign (.one 11) (.call 12 [(.var 8), (.var 5), (.var 4), (.bin .add (.lit (.int 48)) (.bin .fmod (.bin .fdiv (.var 3) (.lit (.int 15))) (.lit (.int 30)))), (.bin .sub (.lit (.int 1)) (.bin .mul (.lit (.int 2)) (.bin .fmod (.bin .fdiv (.var 3) (.lit (.int 450))) (.lit (.int 2)))))])), (.assign (.one 12) (.prim .sum [(.comp (.sub (.var 8) (.var 17)) (.one 17) .plain [(.var 8)] [])])), (.for' (.many [13, 14]) .plain [(.var 5)] [(.aug 12 .mul (.bin .add (.bin .mul (.lit (.int 2)) (.var 13)) (.var 14)))] []), (.ifs (.bop false [(.un .not (.var 10)), (.cmp (.meth .get2 (.var 9) [(.lit (.int 0)), (.lit (.int 0))]) .ne (.bin .sub (.var 12) (.prim .sum [(.slice (.var 11) (some (.lit (.int 1))) (some (.var 4)))])))]) [(.ret (.lit (.bool false)))] []), (.assign (.one 15) (.comp (.meth .get2 (.var 9) [(.var 18), (.lit (.int 0))]) (.one 18) .range2 [(.lit (.int 1)), (.var 4)] [])), (.ret (.cmp (.var 11) .eq (.bin .add (.bin .add (.bin .add (.list [(.lit (.int 0))]) (.var 15)) (.list [(.lit (.int 0))])) (.comp (.un .neg (.var 19)) (.one 19) .reversed [(.var 15)] []))))]
noncomputable def fidL : List (Str × Nat) := [("pretty_flags", 0), ("_div2n1n", 1), ("_div3n2n", 2), ("_int2digits", 3), ("_digits2int", 4), ("_divmod_pos", 5), ("int_divmod", 6), ("quotedata", 7), ("_law_hours", 8), ("_law_people", 9), ("_law_hour", 10), ("_law_walked", 11), ("_law_told", 12), ("law", 13)]
noncomputable def fnL : List FnDef := [(.code 1 4 none ms_pretty_flags), (.code 3 11 none ms_div2n1n), (.code 6 8 none ms_div3n2n), (.ext i2V), (.ext d2V), (.code 2 9 none ms_divmod_pos), (.code 2 4 none ms_int_divmod), (.ext quoteF), (.code 1 6 none ms_law_hours), (.code 2 4 none ms_law_people), (.code 5 17 none ms_law_hour), (.code 4 8 none ms_law_walked), (.code 5 13 none ms_law_told), (.code 1 20 none ms_law)]
noncomputable def gL : Genv := ⟨fun f => fnL[f]?, fun i => glL[i]?⟩
end Mine
namespace Mine
open PySem
structure Com (g : Genv) : Prop where
  fn0 : g.fn 0 = some (.code 1 4 none ms_pretty_flags)
  fn1 : g.fn 1 = some (.code 3 11 none ms_div2n1n)
  fn3 : g.fn 3 = some (.ext i2V)
  fn4 : g.fn 4 = some (.ext d2V)
  fn5 : g.fn 5 = some (.code 2 9 none ms_divmod_pos)
  fn6 : g.fn 6 = some (.code 2 4 none ms_int_divmod)
  gl0 : g.gl 0 = some (.dict flagL)
  gl1 : g.gl 1 = some (.int 4000)
section
variable {g : Genv} {n : Nat} {σ σ' : Sig} {f : Nat} {vs : List V} {v : V} {ss : List MS}
theorem run_ev (e : ME) : (run g (n + 1)).ev σ e = evStep g (run g n) σ e := rfl
theorem run_ex (ss : List MS) : (run g (n + 1)).ex σ ss = exsStep (run g n) σ ss := rfl
theorem run_call : (run g (n + 1)).call f vs = callStep (Nat.ble 40 n) g (run g n) f vs := rfl
theorem run_io {io : Nat} : (run g (n + 1)).callIO f vs io = callIOStep g (run g n) f vs io := rfl
noncomputable def Wx (r : Option (Fl × Sig)) (Q : Fl → Sig → Prop) : Prop := ∃ fl σ', r = some (fl, σ') ∧ Q fl σ'
noncomputable def Rt (v : V) : Fl → Sig → Prop := fun fl _ => fl = .ret v
noncomputable def Aft (r : Sig → Option (Fl × Sig)) (Q : Fl → Sig → Prop) : Fl → Sig → Prop := fun fl σ' => match fl with
  | .next => Wx (r σ') Q
  | .brk => Q .brk σ'
  | .ret v => Q (.ret v) σ'
theorem Wx.mono {r : Option (Fl × Sig)} {Q Q' : Fl → Sig → Prop} (h : Wx r Q) (k : ∀ fl σ', Q fl σ' → Q' fl σ') : Wx r Q' := let ⟨fl, σ', e, q⟩ := h; ⟨fl, σ', e, k _ _ q⟩
theorem call_of {p sl : Nat} {b : List MS} (hf : g.fn f = some (.code p sl none b)) (hfr : frame p sl none vs = some σ) (h : Wx ((run g n).ex σ b) (Rt v)) : (run g (n + 1)).call f vs = some v := by
  obtain ⟨fl, σ', e, rfl⟩ := h
  rw [run_call]; unfold callStep; rw [hf]; dsimp only; rw [hfr]; dsimp only; rw [e]
theorem call_ext {h : List V → Option V} (hf : g.fn f = some (.ext h)) (hn : 40 ≤ n) : (run g (n + 1)).call f vs = h vs := by
  rw [run_call]; unfold callStep; rw [hf]; dsimp only; rw [if_pos (Nat.ble_eq_true_of_le hn)]
variable {Q : Fl → Sig → Prop}
theorem exs_cons {r : Rn} {s : MS} (h : Wx (exStep r σ s) (Aft (fun σ' => exsStep r σ' ss) Q)) : Wx (exsStep r σ (s :: ss)) Q := by
  obtain ⟨fl, σ', e, q⟩ := h
  unfold exsStep
  rw [e]
  induction fl using Mine.Fl.casesOn with
  | next => exact q
  | brk => exact ⟨_, _, rfl, q⟩
  | ret v => exact ⟨_, _, rfl, q⟩
theorem wx_one {r : Rn} {s : MS} (h : exStep r σ s = some (.next, σ')) (k : Wx (exsStep r σ' ss) Q) : Wx (exsStep r σ (s :: ss)) Q := exs_cons ⟨_, _, h, k⟩
theorem wx_nil (h : Q .next σ) : Wx ((run g (n + 1)).ex σ []) Q := ⟨_, _, rfl, h⟩
theorem wx_brk (h : Q .brk σ) : Wx ((run g (n + 1)).ex σ (.brk :: ss)) Q := ⟨_, _, rfl, h⟩
theorem wx_ret {e : ME} (he : (run g n).ev σ e = some v) (h : Q (.ret v) σ) : Wx ((run g (n + 1)).ex σ (.ret e :: ss)) Q :=
  exs_cons ⟨.ret v, σ, by simp only [exStep, he], h⟩
theorem wx_assign {t : Tgt} {e : ME} (he : (run g n).ev σ e = some v) (hp : put σ t v = some σ') (h : Wx ((run g (n + 1)).ex σ' ss) Q) : Wx ((run g (n + 1)).ex σ (.assign t e :: ss)) Q :=
  wx_one (by simp only [exStep, he, hp]) h
theorem wx_fresh {i : Nat} {e : ME} (he : (run g n).ev σ e = some v) (h : Wx ((run g (n + 1)).ex (σ.set i (.own v)) ss) Q) : Wx ((run g (n + 1)).ex σ (.fresh i e :: ss)) Q :=
  wx_one (by simp only [exStep, he]) h
theorem wx_freeze {i : Nat} (he : σ.at i = .own v) (h : Wx ((run g (n + 1)).ex (σ.set i (.fz v)) ss) Q) : Wx ((run g (n + 1)).ex σ (.freeze i :: ss)) Q :=
  wx_one (by simp only [exStep, he]) h
theorem wx_freeze' {i : Nat} (he : σ.at i = .fz v) (h : Wx ((run g (n + 1)).ex (σ.set i (.fz v)) ss) Q) : Wx ((run g (n + 1)).ex σ (.freeze i :: ss)) Q :=
  wx_one (by simp only [exStep, he]) h
theorem wx_par {is : List (Nat × Bool)} {es : List ME} (he : freshV σ (run g n).ev is es = some vs) (hs : setsB σ is vs = some σ') (h : Wx ((run g (n + 1)).ex σ' ss) Q) : Wx ((run g (n + 1)).ex σ (.par is es :: ss)) Q :=
  wx_one (by simp only [exStep, he, hs]) h
theorem wx_aug {i : Nat} {op : Bop} {e : ME} {x y : Int} {z : V} (hi : σ.at i = .fz (.int x)) (he : (run g n).ev σ e = some (.int y)) (hb : binV op (.int x) (.int y) = some z) (h : Wx ((run g (n + 1)).ex (σ.set i (.fz z)) ss) Q) : Wx ((run g (n + 1)).ex σ (.aug i op e :: ss)) Q :=
  wx_one (by simp only [exStep, hi, he, hb]) h
theorem wx_append {i : Nat} {e : ME} {l : List V} (hi : σ.at i = .own (.list l)) (he : (run g n).ev σ e = some v) (hz : l.length < lineN) (h : Wx ((run g (n + 1)).ex (σ.set i (.own (.list (l ++ [v])))) ss) Q) : Wx ((run g (n + 1)).ex σ (.append i e :: ss)) Q :=
  wx_one (by simp only [exStep, hi, he, hz, if_true]) h
theorem wx_reverse {i : Nat} {l : List V} (hi : σ.at i = .own (.list l)) (h : Wx ((run g (n + 1)).ex (σ.set i (.own (.list l.reverse))) ss) Q) : Wx ((run g (n + 1)).ex σ (.reverse i :: ss)) Q :=
  wx_one (by simp only [exStep, hi]) h
theorem wx_setItem {i : Nat} {k e : ME} {l : List (Int × V)} {x : Int} (hi : σ.at i = .own (.dict l)) (he : (run g n).ev σ e = some v) (hk : (run g n).ev σ k = some (.int x)) (hz : l.length < lineN) (h : Wx ((run g (n + 1)).ex (σ.set i (.own (.dict (dput l x v)))) ss) Q) : Wx ((run g (n + 1)).ex σ (.setItem i k e :: ss)) Q :=
  wx_one (by simp only [exStep, hi, he, hk, hz, if_true]) h
theorem wx_if {c : ME} {a b : List MS} {x : V} {t : Bool} (hc : (run g n).ev σ c = some x) (ht : x.truthy = some t) (h : Wx ((run g n).ex σ (match t with | true => a | false => b)) (Aft (fun σ' => (run g (n + 1)).ex σ' ss) Q)) : Wx ((run g (n + 1)).ex σ (.ifs c a b :: ss)) Q := by
  refine exs_cons ?_
  simp only [exStep, hc, ht]
  induction t using Bool.casesOn <;> exact h
theorem wx_then {c : ME} {a b : List MS} {x : V} (hc : (run g n).ev σ c = some x) (ht : x.truthy = some true) (h : Wx ((run g n).ex σ a) (Aft (fun σ' => (run g (n + 1)).ex σ' ss) Q)) : Wx ((run g (n + 1)).ex σ (.ifs c a b :: ss)) Q := wx_if hc ht h
theorem wx_else {c : ME} {a b : List MS} {x : V} (hc : (run g n).ev σ c = some x) (ht : x.truthy = some false) (h : Wx ((run g n).ex σ b) (Aft (fun σ' => (run g (n + 1)).ex σ' ss) Q)) : Wx ((run g (n + 1)).ex σ (.ifs c a b :: ss)) Q := wx_if hc ht h
theorem wx_skip {c : ME} {a : List MS} {x : V} {m : Nat} (hc : (run g (m + 1)).ev σ c = some x) (ht : x.truthy = some false) (h : Wx ((run g (m + 2)).ex σ ss) Q) : Wx ((run g (m + 2)).ex σ (.ifs c a [] :: ss)) Q := wx_if hc ht (wx_nil h)
noncomputable def Lp (r : Sig → Option (Fl × Sig)) (Q : Fl → Sig → Prop) : Fl → Sig → Prop := fun fl σ' => match fl with
  | .next => Wx (r σ') Q
  | .brk => Q .next σ'
  | .ret v => Q (.ret v) σ'
theorem wx_for {t : Tgt} {k : Itk} {es : List ME} {b o : List MS} {l : List V} (he : evL (run g n).ev σ es = some vs) (hi : iterV k vs = some l) (h : Wx (forV (run g n).ex t b o l σ) (Aft (fun σ' => (run g (n + 1)).ex σ' ss) Q)) : Wx ((run g (n + 1)).ex σ (.for' t k es b o :: ss)) Q := by
  refine exs_cons ?_
  simp only [exStep, he, hi]
  exact h
theorem forV_nil {ex : Sig → List MS → Option (Fl × Sig)} {t : Tgt} {b o : List MS} (h : Wx (ex σ o) Q) : Wx (forV ex t b o [] σ) Q := h
theorem forV_cons {ex : Sig → List MS → Option (Fl × Sig)} {t : Tgt} {b o : List MS} {x : V} {xs : List V} (hp : put σ t x = some σ') (h : Wx (ex σ' b) (Lp (fun σ2 => forV ex t b o xs σ2) Q)) : Wx (forV ex t b o (x :: xs) σ) Q := by
  obtain ⟨fl, σ2, e, q⟩ := h
  unfold forV
  rw [hp]; dsimp only; rw [e]
  induction fl using Mine.Fl.casesOn with
  | next => exact q
  | brk => exact ⟨_, _, rfl, q⟩
  | ret v => exact ⟨_, _, rfl, q⟩
theorem wx_while_done {c : ME} {b : List MS} {x : V} (hc : (run g n).ev σ c = some x) (ht : x.truthy = some false) (h : Wx ((run g (n + 1)).ex σ ss) Q) : Wx ((run g (n + 1)).ex σ (.while' c b :: ss)) Q :=
  wx_one (by simp only [exStep, hc, ht]) h
theorem wx_while_turn {c : ME} {b : List MS} {x : V} {σ2 : Sig} (hc : (run g n).ev σ c = some x) (ht : x.truthy = some true) (hb : (run g n).ex σ b = some (.next, σ')) (hw : (run g n).ex σ' [.while' c b] = some (.next, σ2)) (h : Wx ((run g (n + 1)).ex σ2 ss) Q) : Wx ((run g (n + 1)).ex σ (.while' c b :: ss)) Q :=
  wx_one (by simp only [exStep, hc, ht, hb, hw]) h
theorem Wx.to {r : Option (Fl × Sig)} (h : Wx r (fun fl s => fl = .next ∧ s = σ')) : r = some (.next, σ') := by
  obtain ⟨fl, s, e, rfl, rfl⟩ := h; exact e
/-! expressions -/
theorem ev_bin {op : Bop} {a b : ME} {x y z : V} (ha : (run g n).ev σ a = some x) (hb : (run g n).ev σ b = some y) (h : binV op x y = some z) : (run g (n + 1)).ev σ (.bin op a b) = some z := by
  simp only [run_ev, evStep, ha, hb, h]
theorem ev_call {es : List ME} (he : evL (run g n).ev σ es = some vs) (h : (run g n).call f vs = some v) : (run g (n + 1)).ev σ (.call f es) = some v := by
  simp only [run_ev, evStep, he, h]
theorem ev_prim {p : Prim} {es : List ME} (he : evL (run g n).ev σ es = some vs) (h : primV p vs = some v) : (run g (n + 1)).ev σ (.prim p es) = some v := by
  simp only [run_ev, evStep, he, h]
theorem ev_meth {m : Meth} {a : ME} {es : List ME} {x : V} (ha : refV (run g n).ev σ a = some x) (he : evL (run g n).ev σ es = some vs) (h : methV m x vs = some v) : (run g (n + 1)).ev σ (.meth m a es) = some v := by
  simp only [run_ev, evStep, ha, he, h]
theorem ev_sub {a i : ME} {x y : V} (ha : refV (run g n).ev σ a = some x) (hi : (run g n).ev σ i = some y) (h : getV x y = some v) : (run g (n + 1)).ev σ (.sub a i) = some v := by
  simp only [run_ev, evStep, ha, hi, h]
theorem ev_cmp {a b : ME} {o : Cop} {x : V} {t : Bool} (ha : (run g n).ev σ a = some x) (h : cmp1V (run g n).ev σ x o b = some t) : (run g (n + 1)).ev σ (.cmp a o b) = some (.bool t) := by
  simp only [run_ev, evStep, ha, h]
theorem ev_comp {elt : ME} {t : Tgt} {k : Itk} {es conds : List ME} {l out : List V} (he : evL (run g n).ev σ es = some vs) (hi : iterV k vs = some l) (h : compV (run g n).ev σ elt t conds l = some out) : (run g (n + 1)).ev σ (.comp elt t k es conds) = some (.list out) := by
  simp only [run_ev, evStep, he, hi, h]
theorem evL_cons {ev : Sig → ME → Option V} {e : ME} {es : List ME} (h : ev σ e = some v) (r : evL ev σ es = some vs) : evL ev σ (e :: es) = some (v :: vs) := by
  unfold evL; rw [h]; dsimp only; rw [r]
theorem evL_one {ev : Sig → ME → Option V} {e : ME} (h : ev σ e = some v) : evL ev σ [e] = some [v] := evL_cons h rfl
theorem evL_two {ev : Sig → ME → Option V} {e e2 : ME} {w : V} (h : ev σ e = some v) (h2 : ev σ e2 = some w) : evL ev σ [e, e2] = some [v, w] := evL_cons h (evL_one h2)
theorem evL_three {ev : Sig → ME → Option V} {e e2 e3 : ME} {w u : V} (h : ev σ e = some v) (h2 : ev σ e2 = some w) (h3 : ev σ e3 = some u) : evL ev σ [e, e2, e3] = some [v, w, u] := evL_cons h (evL_two h2 h3)
/-! arithmetic -/
theorem bin_mul {x y : Int} (h : bitsOf x + bitsOf y ≤ lineN) : binV .mul (.int x) (.int y) = some (.int (x * y)) := if_pos h
theorem bin_fdiv {x y : Int} (h : y ≠ 0) (h2 : bitsOf y ≤ 8000) : binV .fdiv (.int x) (.int y) = some (.int (x.fdiv y)) := if_neg (by omega)
theorem bin_fmod {x y : Int} (h : y ≠ 0) : binV .fmod (.int x) (.int y) = some (.int (x.fmod y)) := if_neg h
theorem bin_pow {x y : Int} (h : 0 ≤ y) (h2 : (bitsOf x : Int) * y ≤ lineN) : binV .pow (.int x) (.int y) = some (.int (x ^ y.toNat)) := if_pos ⟨h, h2⟩
theorem bin_shl {x y : Int} (h : 0 ≤ y) (h2 : (bitsOf x : Int) + y ≤ lineN) : binV .shl (.int x) (.int y) = some (.int (x * 2 ^ y.toNat)) := if_pos ⟨h, h2⟩
theorem bin_shr {x y : Int} (h : 0 ≤ y) : binV .shr (.int x) (.int y) = some (.int (x.fdiv (2 ^ y.toNat))) := if_pos h
theorem bin_addS {x y : List Nat} (h : x.length + y.length ≤ lineN) : binV .add (.str x) (.str y) = some (.str (x ++ y)) := if_pos h
theorem bin_addL {x y : List V} (h : x.length + y.length ≤ lineN) : binV .add (.list x) (.list y) = some (.list (x ++ y)) := if_pos h
theorem prim_divmod {a b : Int} (hb : b ≠ 0) (hb2 : bitsOf b ≤ 8000) : primV .divmod [.int a, .int b] = some (.tup [.int (a.fdiv b), .int (a.fmod b)]) := if_neg (by omega)
theorem div2n1n_run (C : Com g) {a b k : Int} (h1 : (bitsOf a : Int) - k ≤ 4000) (hb : b ≠ 0) (hb2 : bitsOf b ≤ 8000) : (run g (n + 8)).call 1 [.int a, .int b, .int k] = some (.tup [.int (a.fdiv b), .int (a.fmod b)]) := by
  refine call_of C.fn1 rfl ?_
  refine wx_then (ev_cmp (t := true) rfl ?_) rfl ?_
  · show (match g.gl 1 with | some b => cmpV .le (.int (bitsOf a - k)) b | none => none) = _
    rw [C.gl1]
    exact congrArg some (decide_eq_true h1)
  · exact wx_ret (ev_prim (evL_two rfl rfl) (prim_divmod hb hb2)) rfl
end
end Mine
namespace Mine
open PySem PyProof.Rows
theorem bits_le {m : Nat} {x : Nat} (h : x < 2 ^ m) : bitsOf (x : Int) ≤ m := intBits_le_iff.2 (by simpa using h)
theorem bits_lt {x : Nat} : x < 2 ^ bitsOf (x : Int) := by
  have := (intBits_le_iff (m := bitsOf (x : Int)) (x := (x : Int))).1 (Nat.le_refl _)
  simpa using this
theorem bits_self (k : Nat) : bitsOf (k : Int) ≤ k := bits_le Nat.lt_two_pow_self
theorem bits_pos {x : Nat} (h : 0 < x) : 2 ^ (bitsOf (x : Int) - 1) ≤ x := by
  rcases Nat.lt_or_ge x (2 ^ (bitsOf (x : Int) - 1)) with q | q
  · have h1 := bits_le q
    have h2 : 0 < bitsOf (x : Int) := by
      rcases Nat.eq_zero_or_pos (bitsOf (x : Int)) with z | z
      · have := @bits_lt x; rw [z] at this; simp at this; lia
      · exact z
    lia
  · exact q
noncomputable def dgs (n : Nat) : Nat → Nat → List Nat
  | 0, _ => []
  | k + 1, x => x % 2 ^ n :: dgs n k (x / 2 ^ n)
theorem dgs_len (n : Nat) : ∀ k x, (dgs n k x).length = k
  | 0, _ => rfl
  | k + 1, _ => congrArg (· + 1) (dgs_len n k _)
theorem dgs_add (n : Nat) (j : Nat) : ∀ k x, dgs n (k + j) x = dgs n k (x % 2 ^ (k * n)) ++ dgs n j (x / 2 ^ (k * n))
  | 0, x => by simp [dgs]
  | k + 1, x => by
    rw [Nat.succ_add]
    show x % 2 ^ n :: dgs n (k + j) (x / 2 ^ n) = x % 2 ^ ((k + 1) * n) % 2 ^ n :: dgs n k (x % 2 ^ ((k + 1) * n) / 2 ^ n) ++ dgs n j (x / 2 ^ ((k + 1) * n))
    rw [dgs_add n j k]
    have e1 : (k + 1) * n = n + k * n := by rw [Nat.succ_mul]; lia
    have e2 : x % 2 ^ ((k + 1) * n) % 2 ^ n = x % 2 ^ n := Nat.mod_mod_of_dvd _ (by rw [e1, Nat.pow_add]; exact ⟨_, rfl⟩)
    have e3 : x % 2 ^ ((k + 1) * n) / 2 ^ n = x / 2 ^ n % 2 ^ (k * n) := by rw [e1, Nat.pow_add, Nat.mod_mul_right_div_self]
    have e4 : x / 2 ^ n / 2 ^ (k * n) = x / 2 ^ ((k + 1) * n) := by rw [Nat.div_div_eq_div_mul, ← Nat.pow_add, e1]
    rw [e2, e3, e4]
    rfl
theorem dgs_lt (n : Nat) : ∀ k x, ∀ d ∈ dgs n k x, d < 2 ^ n
  | 0, _, _, h => by cases h
  | k + 1, x, d, h => by
    rcases List.mem_cons.1 h with rfl | h
    · exact Nat.mod_lt _ (Nat.two_pow_pos n)
    · exact dgs_lt n k _ d h
noncomputable def val (n : Nat) : List Nat → Nat
  | [] => 0
  | d :: l => d + 2 ^ n * val n l
theorem val_dgs (n : Nat) : ∀ k x, val n (dgs n k x) = x % 2 ^ (k * n)
  | 0, x => by simp [dgs, val, Nat.mod_one]
  | k + 1, x => by
    unfold dgs val
    rw [val_dgs n k]
    have e1 : (k + 1) * n = n + k * n := by rw [Nat.succ_mul]; lia
    rw [e1, Nat.pow_add, Nat.mod_mul]
theorem val_append (n : Nat) : ∀ l r, val n (l ++ r) = val n l + 2 ^ (l.length * n) * val n r
  | [], r => by simp [val]
  | d :: l, r => by
    show d + 2 ^ n * val n (l ++ r) = d + 2 ^ n * val n l + 2 ^ ((l.length + 1) * n) * val n r
    rw [val_append n l r, Nat.mul_add, ← Nat.mul_assoc, ← Nat.pow_add]
    have e1 : (l.length + 1) * n = n + l.length * n := by rw [Nat.succ_mul]; lia
    rw [e1]; lia
theorem val_lt (n : Nat) : ∀ l : List Nat, (∀ d ∈ l, d < 2 ^ n) → val n l < 2 ^ (l.length * n)
  | [], _ => by simp [val]
  | d :: l, h => by
    have h1 := h d (.head _)
    have h2 := val_lt n l fun d hd => h d (.tail _ hd)
    show d + 2 ^ n * val n l < 2 ^ ((l.length + 1) * n)
    have e1 : (l.length + 1) * n = n + l.length * n := by rw [Nat.succ_mul]; lia
    rw [e1, Nat.pow_add]
    have : 2 ^ n * (val n l + 1) ≤ 2 ^ n * 2 ^ (l.length * n) := Nat.mul_le_mul_left _ h2
    rw [Nat.mul_add] at this
    lia
theorem dgs_val (n : Nat) : ∀ l : List Nat, (∀ d ∈ l, d < 2 ^ n) → dgs n l.length (val n l) = l
  | [], _ => rfl
  | d :: l, h => by
    have h1 := h d (.head _)
    have h2 := dgs_val n l fun d hd => h d (.tail _ hd)
    show (d + 2 ^ n * val n l) % 2 ^ n :: dgs n l.length ((d + 2 ^ n * val n l) / 2 ^ n) = d :: l
    rw [Nat.add_mul_mod_self_left, Nat.mod_eq_of_lt h1, Nat.add_mul_div_left _ _ (Nat.two_pow_pos n), Nat.div_eq_of_lt h1, Nat.zero_add, h2]
abbrev nI (l : List Nat) : List V := l.map fun d : Nat => V.int (d : Int)
theorem xor_low (x m : Nat) : Builtin.bitXor (x : Int) ((x / 2 ^ m : Nat) * 2 ^ m : Int) = ((x % 2 ^ m : Nat) : Int) := by
  have e1 : ((x / 2 ^ m : Nat) * 2 ^ m : Int) = ((x / 2 ^ m * 2 ^ m : Nat) : Int) := by simp
  rw [e1]
  unfold Builtin.bitXor
  rw [bitOr_and, bitAnd_pp (by lia) (by lia)]
  simp only [Int.toNat_natCast]
  have e2 : x &&& x / 2 ^ m * 2 ^ m = x / 2 ^ m * 2 ^ m := by
    apply Nat.eq_of_testBit_eq
    intro i
    rw [Nat.testBit_and, ← Nat.shiftRight_eq_div_pow, ← Nat.shiftLeft_eq, Nat.testBit_shiftLeft, Nat.testBit_shiftRight]
    by_cases h : m ≤ i
    · have : m + (i - m) = i := by lia
      rw [this]; simp [h]
    · simp [h]
  rw [e2]
  have := Nat.div_add_mod x (2 ^ m)
  rw [Nat.mul_comm] at this
  lia
theorem digs_one {n x : Int} {d : Nat} {A C : List V} {v : V} : digs n (d + 1) x A.length (A.length + 1) (A ++ v :: C) = some (A ++ V.int x :: C) := by
  refine ((if_pos rfl).trans (if_pos ?_)).trans (congrArg some ?_)
  · rw [List.length_append]; exact Nat.lt_add_of_pos_right (Nat.succ_pos _)
  · rw [List.set_append_right _ _ (Nat.le_refl _), Nat.sub_self]; rfl
theorem digs_two {n x sh up t : Int} {d L M R : Nat} {l l' : List V} (hM : (L + R) / 2 = M) (hne : L + 1 ≠ R) (h1 : binV .mul (.int (M - (L : Int))) (.int n) = some (.int sh)) (h2 : binV .shr (.int x) (.int sh) = some (.int up)) (h3 : binV .shl (.int up) (.int sh) = some (.int t)) (h4 : digs n d (Builtin.bitXor x t) L M l = some l') : digs n (d + 1) x L R l = digs n d up M R l' := by
  refine (if_neg hne).trans ?_
  rw [hM]
  simp only [h1, h2, h3, h4]
theorem halves {d k : Nat} (h1 : 1 ≤ k) (hk : k ≠ 1) (h2 : k ≤ 2 ^ (d + 1)) : ∃ j i, k = j + i ∧ 1 ≤ j ∧ 1 ≤ i ∧ j ≤ 2 ^ d ∧ i ≤ 2 ^ d ∧ ∀ L, (L + (L + (j + i))) / 2 = L + j := by
  rw [Nat.pow_succ] at h2
  exact ⟨k / 2, k - k / 2, by lia, by lia, by lia, by lia, by lia, fun L => by rw [Nat.add_sub_cancel' (Nat.div_le_self k 2)]; lia⟩
theorem cut_list {α : Type} {l : List α} {j i : Nat} (h : l.length = j + i) : ∃ a b, l = a ++ b ∧ a.length = j ∧ b.length = i := by
  refine ⟨l.take j, l.drop j, (List.take_append_drop ..).symm, ?_, ?_⟩
  · rw [List.length_take]; lia
  · rw [List.length_drop]; lia
theorem sh_mul {n j i L : Nat} (hn : 1 ≤ n) (hj : 1 ≤ j) (h5 : (j + i) * n ≤ 500000) : binV .mul (.int (((L + j : Nat) : Int) - (L : Int))) (.int n) = some (.int ((j * n : Nat) : Int)) := by
  have hk1 : j ≤ j * n := Nat.le_mul_of_pos_right _ hn
  have hk2 : n ≤ j * n := Nat.le_mul_of_pos_left _ hj
  have hln : lineN = 1048576 := rfl
  have h6 := bits_self j
  have h7 := bits_self n
  rw [Nat.add_mul] at h5
  rw [Int.natCast_add, Int.add_comm, Int.add_sub_cancel, bin_mul (by lia), Int.natCast_mul]
theorem sh_shr {x s : Nat} : binV .shr (.int x) (.int (s : Int)) = some (.int ((x / 2 ^ s : Nat) : Int)) := by
  rw [bin_shr (Int.natCast_nonneg _), Int.toNat_natCast, Int.fdiv_eq_ediv_of_nonneg _ (Int.pow_nonneg (by decide)), Int.natCast_ediv, Int.natCast_pow]; rfl
theorem sh_shl {x s t : Nat} (h : x < 2 ^ t) (h5 : s + t ≤ 500000) : binV .shl (.int x) (.int (s : Int)) = some (.int ((x : Int) * 2 ^ s)) := by
  have hln : lineN = 1048576 := rfl
  have := bits_le h
  rw [bin_shl (Int.natCast_nonneg _) (by lia), Int.toNat_natCast]
theorem up_lt {x n j i : Nat} (h : x < 2 ^ ((j + i) * n)) : x / 2 ^ (j * n) < 2 ^ (i * n) := by
  rw [Nat.div_lt_iff_lt_mul (Nat.two_pow_pos _), ← Nat.pow_add, Nat.add_comm, ← Nat.add_mul]; exact h
theorem digs_spec {n : Nat} (hn : 1 ≤ n) (d : Nat) : ∀ (x k L : Nat) (A M C : List V), A.length = L → M.length = k → 1 ≤ k → k ≤ 2 ^ d → x < 2 ^ (k * n) → k * n ≤ 500000 →
    digs n (d + 1) x L (L + k) (A ++ (M ++ C)) = some (A ++ (nI (dgs n k x) ++ C)) := by
  have one : ∀ (d x L : Nat) (A M C : List V), A.length = L → M.length = 1 → x < 2 ^ (1 * n) → digs n (d + 1) x L (L + 1) (A ++ (M ++ C)) = some (A ++ (nI (dgs n 1 x) ++ C)) := fun d x L A M C hA hM h => by
    obtain ⟨v, rfl⟩ := List.length_eq_one_iff.1 hM
    subst hA
    rw [Nat.one_mul] at h
    refine digs_one.trans ?_
    unfold dgs dgs
    rw [Nat.mod_eq_of_lt h]; rfl
  induction d with
  | zero =>
    intro x k L A M C hA hM h1 h2 h4 _
    obtain rfl : k = 1 := Nat.le_antisymm h2 h1
    exact one _ _ _ _ _ _ hA hM h4
  | succ d ih =>
    intro x k L A M C hA hM h1 h2 h4 h5
    by_cases hk : k = 1
    · subst hk
      exact one _ _ _ _ _ _ hA hM h4
    · obtain ⟨j, i, rfl, hj, hi, hj2, hi2, hm⟩ := halves h1 hk h2
      obtain ⟨M1, M2, rfl, l1, l2⟩ := cut_list hM
      have hup := up_lt h4
      have hb := h5
      rw [Nat.add_mul] at hb
      have q1 := ih (x % 2 ^ (j * n)) j L A M1 (M2 ++ C) hA l1 hj hj2 (Nat.mod_lt _ (Nat.two_pow_pos _)) (Nat.le_trans (Nat.le_add_right _ _) hb)
      have q2 := ih _ i (L + j) (A ++ nI (dgs n j (x % 2 ^ (j * n)))) M2 C (by rw [List.length_append, hA, List.length_map, dgs_len]) l2 hi hi2 hup (Nat.le_trans (Nat.le_add_left _ _) hb)
      rw [← xor_low x (j * n), Int.natCast_ediv, Int.natCast_pow] at q1
      rw [List.append_assoc, List.append_assoc, Nat.add_assoc] at q2
      rw [List.append_assoc, dgs_add, nI, List.map_append, List.append_assoc]
      exact (digs_two (hm L) (by lia) (sh_mul hn hj h5) sh_shr (sh_shl hup hb) q1).trans q2
theorem rep_one {α : Type} {x : α} : ∀ k, (rep [x] k).length = k
  | 0 => rfl
  | k + 1 => by unfold rep; rw [List.length_append, rep_one k]; simp; lia
theorem i2V_spec {n a : Nat} (hn : 1 ≤ n) (hb : bitsOf (a : Int) + n ≤ 400000) : i2V [.int a, .int n] = some (.list (nI (dgs n ((bitsOf (a : Int) + n - 1) / n) a))) := by
  have hln : lineN = 1048576 := rfl
  generalize hB : bitsOf (a : Int) = B at hb
  have hbn : bitsOf (n : Int) ≤ 64 := intBits_cast_le (by have : sizeLine = 16777216 := rfl; lia)
  unfold i2V
  dsimp only
  rw [hB, bin_fdiv (by lia) (by lia)]
  dsimp only
  have e : (((B : Nat) : Int) + (n : Int) - 1).fdiv (n : Int) = (((B + n - 1) / n : Nat) : Int) := by
    rw [Int.fdiv_eq_ediv_of_nonneg _ (by lia)]
    have : ((B : Nat) : Int) + (n : Int) - 1 = ((B + n - 1 : Nat) : Int) := by lia
    rw [this]; simp
  rw [e]
  generalize hm : (B + n - 1) / n = m
  have hmB : m ≤ B := by
    rw [← hm]
    have : (B + n - 1) / n < B + 1 := by
      rw [Nat.div_lt_iff_lt_mul (by lia)]
      have : B * 1 ≤ B * n := Nat.mul_le_mul_left _ hn
      rw [Nat.add_mul]; lia
    lia
  have ez : binV .mul (.list [.int 0]) (.int (m : Int)) = some (.list (rep [.int 0] m)) := by
    show (if _ then _ else _) = _
    rw [if_pos]
    · rw [Int.toNat_natCast]
    · simp only [Bool.and_eq_true, decide_eq_true_eq, List.length_singleton, Int.toNat_natCast]
      exact ⟨⟨by lia, by lia⟩, by lia⟩
  rw [ez]
  dsimp only
  by_cases ha : a = 0
  · subst ha
    have hB0 : B = 0 := by rw [← hB]; rfl
    have hm0 : m = 0 := by rw [← hm, hB0]; exact Nat.div_eq_of_lt (by lia)
    subst hm0
    rw [if_pos (by simp)]
    rfl
  · rw [if_neg (by lia)]
    have hBp : 1 ≤ B := by
      rcases Nat.eq_zero_or_pos B with z | z
      · have := @bits_lt a; rw [hB, z] at this; simp at this; lia
      · exact z
    have hmp : 1 ≤ m := by
      rw [← hm]; exact (Nat.le_div_iff_mul_le (by lia)).2 (by lia)
    have hmn : B ≤ m * n := by
      rw [← hm]
      have := Nat.div_add_mod (B + n - 1) n
      have h3 := Nat.mod_lt (B + n - 1) (show 0 < n by lia)
      rw [Nat.mul_comm] at this
      lia
    have hmn2 : m * n ≤ B + n := by
      rw [← hm]
      have := Nat.div_mul_le_self (B + n - 1) n
      lia
    have hlt : a < 2 ^ (m * n) := by
      have := @bits_lt a
      rw [hB] at this
      exact Nat.lt_of_lt_of_le this (Nat.pow_le_pow_right (by lia) hmn)
    have e := digs_spec hn 23 a m 0 [] (rep [.int 0] m) [] rfl (rep_one m) hmp (by lia) hlt (by lia)
    rw [Nat.zero_add, List.append_nil, List.append_nil, List.nil_append, List.nil_append] at e
    rw [rep_one, e]
theorem undig_two {n sh hi t lo : Int} {d L M R : Nat} {l : List V} (hM : (L + R) / 2 = M) (hne : L + 1 ≠ R) (h1 : binV .mul (.int (M - (L : Int))) (.int n) = some (.int sh)) (h2 : undig n l d M R = some hi) (h3 : binV .shl (.int hi) (.int sh) = some (.int t)) (h4 : undig n l d L M = some lo) : undig n l (d + 1) L R = some (t + lo) := by
  refine (if_neg hne).trans ?_
  rw [hM]
  simp only [h1, h2, h3, h4]
theorem undig_one {n d x : Nat} {A C : List Nat} : undig n (nI (A ++ x :: C)) (d + 1) A.length (A.length + 1) = some (x : Int) := by
  refine (if_pos rfl).trans ?_
  have hl : A.length < (nI (A ++ x :: C)).length := by rw [List.length_map, List.length_append]; exact Nat.lt_add_of_pos_right (Nat.succ_pos _)
  have e : getV (.list (nI (A ++ x :: C))) (.int (A.length : Int)) = some (.int (x : Int)) := by
    have e1 : idx (nI (A ++ x :: C)).length (A.length : Int) = some A.length := by
      unfold idx
      rw [if_pos ⟨Int.natCast_nonneg _, Int.ofNat_lt.2 hl⟩, Int.toNat_natCast]
    show (match idx (nI (A ++ x :: C)).length (A.length : Int) with | some j => (nI (A ++ x :: C))[j]? | none => none) = _
    rw [e1]
    show (nI (A ++ x :: C))[A.length]? = _
    rw [nI, List.getElem?_map, List.getElem?_append_right (Nat.le_refl _), Nat.sub_self]; rfl
  rw [e]
theorem undig_spec {n : Nat} (hn : 1 ≤ n) (d : Nat) : ∀ (k L : Nat) (A M C : List Nat), A.length = L → M.length = k → 1 ≤ k → k ≤ 2 ^ d → k * n ≤ 500000 → (∀ x ∈ M, x < 2 ^ n) →
    undig n (nI (A ++ (M ++ C))) (d + 1) L (L + k) = some ((val n M : Nat) : Int) := by
  have one : ∀ (d L : Nat) (A M C : List Nat), A.length = L → M.length = 1 → undig n (nI (A ++ (M ++ C))) (d + 1) L (L + 1) = some ((val n M : Nat) : Int) := fun d L A M C hA hM => by
    obtain ⟨v, rfl⟩ := List.length_eq_one_iff.1 hM
    subst hA
    exact undig_one
  induction d with
  | zero =>
    intro k L A M C hA hM h1 h2 _ _
    obtain rfl : k = 1 := Nat.le_antisymm h2 h1
    exact one _ _ _ _ _ hA hM
  | succ d ih =>
    intro k L A M C hA hM h1 h2 h5 hl
    by_cases hk : k = 1
    · subst hk
      exact one _ _ _ _ _ hA hM
    · obtain ⟨j, i, rfl, hj, hi, hj2, hi2, hm⟩ := halves h1 hk h2
      obtain ⟨M1, M2, rfl, l1, l2⟩ := cut_list hM
      have hb := h5
      rw [Nat.add_mul] at hb
      have hv := val_lt n M2 fun x hx => hl x (List.mem_append.2 (.inr hx))
      rw [l2] at hv
      have q2 := ih i (L + j) (A ++ M1) M2 C (by rw [List.length_append, hA, l1]) l2 hi hi2 (by lia) fun x hx => hl x (List.mem_append.2 (.inr hx))
      rw [List.append_assoc, Nat.add_assoc] at q2
      rw [List.append_assoc]
      refine (undig_two (hm L) (by lia) (sh_mul hn hj h5) q2 (sh_shl hv hb) (ih j L A M1 (M2 ++ C) hA l1 hj hj2 (by lia) fun x hx => hl x (List.mem_append.2 (.inl hx)))).trans ?_
      rw [val_append, l1, Int.natCast_add, Int.natCast_mul, Int.natCast_pow, Int.mul_comm, Int.add_comm]; rfl
theorem d2V_spec {n : Nat} (hn : 1 ≤ n) (l : List Nat) (hl : ∀ d ∈ l, d < 2 ^ n) (h5 : l.length * n ≤ 500000) : d2V [.list (nI l), .int n] = some (.int (val n l : Nat)) := by
  unfold d2V
  dsimp only
  by_cases h : l = []
  · subst h; rfl
  · have hp : 1 ≤ l.length := List.length_pos_iff.2 h
    have h2 : l.length ≤ l.length * n := Nat.le_mul_of_pos_right _ hn
    have e := undig_spec hn 23 l.length 0 [] l [] rfl rfl hp (by lia) h5 hl
    rw [Nat.zero_add, List.append_nil, List.nil_append] at e
    rw [if_neg (by simpa using h), List.length_map, e]
end Mine
namespace Mine
open PySem PyProof.Rows
theorem nat_fdiv (a b : Nat) : (a : Int).fdiv (b : Int) = ((a / b : Nat) : Int) := by
  rw [Int.fdiv_eq_ediv_of_nonneg _ (by lia)]; simp
theorem nat_fmod (a b : Nat) : (a : Int).fmod (b : Int) = ((a % b : Nat) : Int) := by
  rw [Int.fmod_eq_emod_of_nonneg _ (by lia)]; simp
noncomputable def ldiv (b n : Nat) : Nat → List Nat → Nat × List Nat
  | r, [] => (r, [])
  | r, d :: ds => ((ldiv b n ((r * 2 ^ n + d) % b) ds).1, (r * 2 ^ n + d) / b :: (ldiv b n ((r * 2 ^ n + d) % b) ds).2)
theorem ldiv_ok {b n : Nat} (hb : 0 < b) : ∀ (ds : List Nat) (r : Nat), r < b → (∀ d ∈ ds, d < 2 ^ n) → (ldiv b n r ds).1 < b ∧ (ldiv b n r ds).2.length = ds.length ∧ (∀ d ∈ (ldiv b n r ds).2, d < 2 ^ n) ∧
    val n (ldiv b n r ds).2.reverse * b + (ldiv b n r ds).1 = r * 2 ^ (ds.length * n) + val n ds.reverse
  | [], r, h, _ => ⟨h, rfl, (fun d hd => by cases hd), by simp [ldiv, val]⟩
  | d :: ds, r, h, hd => by
    have hx : (r * 2 ^ n + d) / b < 2 ^ n := by
      rw [Nat.div_lt_iff_lt_mul hb]
      have h1 := hd d (.head _)
      have h2 : (r + 1) * 2 ^ n ≤ b * 2 ^ n := Nat.mul_le_mul_right _ h
      rw [Nat.add_mul] at h2
      rw [Nat.mul_comm (2 ^ n) b]; lia
    obtain ⟨i1, i2, i3, i4⟩ := ldiv_ok (n := n) hb ds _ (Nat.mod_lt (r * 2 ^ n + d) hb) fun e he => hd e (.tail _ he)
    refine ⟨i1, congrArg (· + 1) i2, fun e he => ?_, ?_⟩
    · rcases List.mem_cons.1 he with rfl | he
      · exact hx
      · exact i3 e he
    · show val n ((r * 2 ^ n + d) / b :: (ldiv b n ((r * 2 ^ n + d) % b) ds).2).reverse * b + (ldiv b n ((r * 2 ^ n + d) % b) ds).1 = r * 2 ^ ((ds.length + 1) * n) + val n (d :: ds).reverse
      rw [List.reverse_cons, List.reverse_cons, val_append, val_append, List.length_reverse, List.length_reverse, i2]
      show (_ + _ * ((r * 2 ^ n + d) / b + 2 ^ n * 0)) * b + _ = _ + (_ + _ * (d + 2 ^ n * 0))
      have e := Nat.div_add_mod (r * 2 ^ n + d) b
      generalize hq : (r * 2 ^ n + d) / b = q at *
      generalize hm : (r * 2 ^ n + d) % b = m at *
      have e1 : (ds.length + 1) * n = n + ds.length * n := by rw [Nat.succ_mul]; lia
      rw [e1, Nat.pow_add]
      generalize 2 ^ (ds.length * n) = P at *
      generalize 2 ^ n = N at *
      generalize val n (ldiv b n m ds).2.reverse = A at *
      generalize (ldiv b n m ds).1 = R at *
      generalize val n ds.reverse = D at *
      simp only [Nat.mul_zero, Nat.add_zero]
      have e3 : P * (b * q + m) = P * (r * N + d) := by rw [e]
      grind
section
variable {g : Genv} {n : Nat}
noncomputable def dpBody : List MS := [(.assign (.many [7, 4]) (.call 1 [(.bin .add (.bin .shl (.var 4) (.var 2)) (.var 6)), (.var 1), (.var 2)])), (.append 5 (.var 7))]
theorem dp_loop (C : Com g) {a b k : Nat} (hb : 0 < b) (hk : b < 2 ^ k) (hk2 : k ≤ 4000) (l3 : V) (N : Nat) : ∀ (ds : List Nat) (r : Nat) (qs : List Nat) (e6 e7 : Ent), r < b → (∀ d ∈ ds, d < 2 ^ k) → qs.length + ds.length < lineN →
    Wx (forV (run g (N + 20)).ex (.one 6) dpBody [] (nI ds) [.fz (.int a), .fz (.int b), .fz (.int k), .fz l3, .fz (.int r), .own (.list (nI qs)), e6, e7, .un])
      (fun fl σ' => fl = .next ∧ ∃ e6 e7, σ' = [.fz (.int a), .fz (.int b), .fz (.int k), .fz l3, .fz (.int (ldiv b k r ds).1), .own (.list (nI (qs ++ (ldiv b k r ds).2))), e6, e7, .un])
  | [], r, qs, e6, e7, h, hd, hz => forV_nil (wx_nil ⟨rfl, e6, e7, by simp [ldiv]⟩)
  | d :: ds, r, qs, e6, e7, h, hd, hz => by
    have hln : lineN = 1048576 := rfl
    have h1 := hd d (.head _)
    have hrk : r < 2 ^ k := Nat.lt_trans h hk
    have hx : r * 2 ^ k + d < 2 ^ (2 * k) := by
      have h2 : (r + 1) * 2 ^ k ≤ 2 ^ k * 2 ^ k := Nat.mul_le_mul_right _ hrk
      rw [Nat.add_mul] at h2
      have : 2 * k = k + k := by lia
      rw [this, Nat.pow_add]; lia
    have ex : ((r : Int) * 2 ^ ((k : Int)).toNat + (d : Int)) = ((r * 2 ^ k + d : Nat) : Int) := by rw [Int.toNat_natCast]; simp
    refine forV_cons (σ' := [.fz (.int a), .fz (.int b), .fz (.int k), .fz l3, .fz (.int r), .own (.list (nI qs)), .fz (.int d), e7, .un]) rfl ?_
    refine wx_assign (v := .tup [.int ((r * 2 ^ k + d) / b : Nat), .int ((r * 2 ^ k + d) % b : Nat)]) (σ' := [.fz (.int a), .fz (.int b), .fz (.int k), .fz l3, .fz (.int ((r * 2 ^ k + d) % b : Nat)), .own (.list (nI qs)), .fz (.int d), .fz (.int ((r * 2 ^ k + d) / b : Nat)), .un]) (ev_call (evL_three (ev_bin (ev_bin rfl rfl (bin_shl (by lia) (by have := bits_le hrk; lia))) rfl rfl) rfl rfl) ?_) rfl ?_
    · rw [ex, div2n1n_run C (by have := bits_le hx; lia) (by lia) (by have := bits_le hk; lia), nat_fdiv, nat_fmod]
    · refine wx_append (l := nI qs) rfl rfl (by simp at hz ⊢; lia) (wx_nil ?_)
      show Wx (forV (run g (N + 20)).ex (.one 6) dpBody [] (nI ds) [.fz (.int a), .fz (.int b), .fz (.int k), .fz l3, .fz (.int ((r * 2 ^ k + d) % b : Nat)), .own (.list (nI qs ++ [V.int ((r * 2 ^ k + d) / b : Nat)])), .fz (.int d), .fz (.int ((r * 2 ^ k + d) / b : Nat)), .un]) _
      have e2 : nI qs ++ [V.int ((r * 2 ^ k + d) / b : Nat)] = nI (qs ++ [(r * 2 ^ k + d) / b]) := by simp [nI]
      rw [e2]
      refine (dp_loop C hb hk hk2 l3 N ds _ _ _ _ (Nat.mod_lt _ hb) (fun e he => hd e (.tail _ he)) (by simp at hz ⊢; lia)).mono fun fl σ' ⟨q1, e6, e7, q2⟩ => ⟨q1, e6, e7, ?_⟩
      rw [q2]
      simp [ldiv]
theorem divmod_pos_run (C : Com g) {a b : Nat} (hb : 0 < b) (h1 : bitsOf (b : Int) ≤ 4000) (h2 : bitsOf (a : Int) ≤ 300000) {m : Nat} (hm : 70 ≤ m) : (run g m).call 5 [.int a, .int b] = some (.tup [.int (a / b : Nat), .int (a % b : Nat)]) := by
  obtain ⟨N, rfl⟩ : ∃ N, m = N + 70 := ⟨m - 70, by lia⟩
  have hln : lineN = 1048576 := rfl
  generalize hk : bitsOf (b : Int) = k at h1
  have hbk : b < 2 ^ k := by rw [← hk]; exact bits_lt
  have hk1 : 1 ≤ k := by
    rcases Nat.eq_zero_or_pos k with z | z
    · rw [z] at hbk; simp at hbk; lia
    · exact z
  generalize hB : bitsOf (a : Int) = B at h2
  have hi := i2V_spec (n := k) (a := a) hk1 (by lia)
  rw [hB] at hi
  generalize hM : (B + k - 1) / k = M at hi
  have hMk : B ≤ M * k := by
    rw [← hM]
    have := Nat.div_add_mod (B + k - 1) k
    have h3 := Nat.mod_lt (B + k - 1) (show 0 < k by lia)
    rw [Nat.mul_comm] at this
    lia
  have hMk2 : M * k ≤ B + k := by
    rw [← hM]
    have := Nat.div_mul_le_self (B + k - 1) k
    lia
  have hMM : M ≤ M * k := Nat.le_mul_of_pos_right _ hk1
  have haM : a < 2 ^ (M * k) := by
    have := @bits_lt a
    rw [hB] at this
    exact Nat.lt_of_lt_of_le this (Nat.pow_le_pow_right (by lia) hMk)
  have hval : val k (dgs k M a) = a := by rw [val_dgs, Nat.mod_eq_of_lt haM]
  have hds : ∀ d ∈ (dgs k M a).reverse, d < 2 ^ k := fun d hd => dgs_lt k M a d (List.mem_reverse.1 hd)
  obtain ⟨o1, o2, o3, o4⟩ := ldiv_ok (n := k) hb (dgs k M a).reverse 0 hb hds
  rw [List.reverse_reverse, hval, Nat.zero_mul, Nat.zero_add] at o4
  rw [List.length_reverse, dgs_len] at o2
  generalize hqs : (ldiv b k 0 (dgs k M a).reverse).2 = qs at o2 o3 o4
  generalize hr : (ldiv b k 0 (dgs k M a).reverse).1 = r at o1 o4
  have hq : val k qs.reverse = a / b ∧ r = a % b := by
    have := (Nat.div_mod_unique (a := a) (b := b) (c := r) (d := val k qs.reverse) hb).2 ⟨by rw [Nat.mul_comm]; lia, o1⟩
    exact ⟨this.1.symm, this.2.symm⟩
  refine call_of C.fn5 rfl ?_
  refine wx_assign (v := .int (k : Int)) (σ' := [.fz (.int a), .fz (.int b), .fz (.int k), .un, .un, .un, .un, .un, .un]) (by rw [← hk]; rfl) rfl ?_
  refine wx_assign (σ' := [.fz (.int a), .fz (.int b), .fz (.int k), .fz (.list (nI (dgs k M a))), .un, .un, .un, .un, .un]) (ev_call (evL_two rfl rfl) ((call_ext C.fn3 (by lia)).trans hi)) rfl ?_
  refine wx_assign (σ' := [.fz (.int a), .fz (.int b), .fz (.int k), .fz (.list (nI (dgs k M a))), .fz (.int 0), .un, .un, .un, .un]) rfl rfl ?_
  refine wx_fresh (v := .list []) rfl ?_
  refine wx_for (l := (nI (dgs k M a)).reverse) (evL_one rfl) rfl ?_
  have er : (nI (dgs k M a)).reverse = nI (dgs k M a).reverse := by simp [nI]
  rw [er]
  refine (dp_loop C (a := a) hb hbk h1 (.list (nI (dgs k M a))) (N + 48) (dgs k M a).reverse 0 [] .un .un hb hds (by simp [dgs_len]; lia)).mono ?_
  rintro fl σ' ⟨rfl, e6, e7, rfl⟩
  rw [hr, hqs, List.nil_append]
  refine wx_reverse (l := nI qs) rfl ?_
  have er2 : (nI qs).reverse = nI qs.reverse := by simp [nI]
  rw [er2]
  refine wx_freeze (v := .list (nI qs.reverse)) rfl ?_
  refine wx_assign (v := .int (val k qs.reverse : Nat)) (σ' := [.fz (.int a), .fz (.int b), .fz (.int k), .fz (.list (nI (dgs k M a))), .fz (.int r), .fz (.list (nI qs.reverse)), e6, e7, .fz (.int (val k qs.reverse : Nat))]) (ev_call (evL_two rfl rfl) ((call_ext C.fn4 (by lia)).trans (d2V_spec hk1 _ (fun d hd => o3 d (List.mem_reverse.1 hd)) (by rw [List.length_reverse, o2]; lia)))) rfl ?_
  refine wx_ret (v := .tup [.int (val k qs.reverse : Nat), .int r]) rfl ?_
  rw [hq.1, hq.2]
  rfl
theorem bitNot_cast (a : Int) (h : a < 0) : Builtin.bitNot a = ((-a - 1).toNat : Int) := by
  unfold Builtin.bitNot; lia
theorem fdivmod_unique {a b q r : Int} (hb : 0 < b) (e : q * b + r = a) (h1 : 0 ≤ r) (h2 : r < b) : a.fdiv b = q ∧ a.fmod b = r := by
  rw [Int.fdiv_eq_ediv_of_nonneg _ (by lia), Int.fmod_eq_emod_of_nonneg _ (by lia)]
  exact (Int.ediv_emod_unique hb).2 ⟨by rw [Int.mul_comm b q]; lia, h1, h2⟩
theorem int_divmod_pos (C : Com g) {a b : Int} (hb : 0 < b) (h1 : bitsOf b ≤ 4000) (h2 : bitsOf a ≤ 200000) {m : Nat} (hm : 90 ≤ m) : (run g m).call 6 [.int a, .int b] = some (.tup [.int (a.fdiv b), .int (a.fmod b)]) := by
  obtain ⟨b, rfl⟩ := Int.eq_ofNat_of_zero_le (Int.le_of_lt hb)
  have pos : ∀ (a : Nat), bitsOf (a : Int) ≤ 300000 → ∀ m, 80 ≤ m → (run g m).call 6 [.int a, .int b] = some (.tup [.int (a / b : Nat), .int (a % b : Nat)]) := fun a h2 m hm => by
    obtain ⟨N, rfl⟩ : ∃ N, m = N + 80 := ⟨m - 80, by lia⟩
    refine call_of C.fn6 rfl ?_
    refine wx_else (x := .bool false) (ev_cmp rfl ?_) rfl ?_
    · exact congrArg some (beq_eq_false_iff_ne.2 (by lia))
    refine wx_else (x := .bool false) (ev_cmp rfl ?_) rfl ?_
    · exact congrArg some (decide_eq_false (by lia))
    refine wx_else (x := .bool false) (ev_cmp rfl ?_) rfl ?_
    · exact congrArg some (decide_eq_false (by lia))
    exact wx_ret (ev_call (evL_two rfl rfl) (divmod_pos_run C (by lia) h1 h2 (by lia))) rfl
  by_cases ha : 0 ≤ a
  · obtain ⟨a, rfl⟩ := Int.eq_ofNat_of_zero_le ha
    rw [pos a (by lia) m (by lia), nat_fdiv, nat_fmod]
  · obtain ⟨N, rfl⟩ : ∃ N, m = N + 90 := ⟨m - 90, by lia⟩
    obtain ⟨c, hc⟩ := Int.eq_ofNat_of_zero_le (show 0 ≤ -a - 1 by lia)
    have ea : Builtin.bitNot a = (c : Int) := by unfold Builtin.bitNot; lia
    have hcb : bitsOf (c : Int) ≤ 200001 := by
      rw [← hc]
      have h3 := intBits_sub_le (intBits_neg_le h2) (show Builtin.Int.intBits 1 ≤ 200000 by decide)
      exact h3
    refine call_of C.fn6 rfl ?_
    refine wx_else (x := .bool false) (ev_cmp rfl ?_) rfl ?_
    · exact congrArg some (beq_eq_false_iff_ne.2 (by lia))
    refine wx_else (x := .bool false) (ev_cmp rfl ?_) rfl ?_
    · exact congrArg some (decide_eq_false (by lia))
    refine wx_then (x := .bool true) (ev_cmp rfl ?_) rfl ?_
    · exact congrArg some (decide_eq_true (by lia))
    refine wx_assign (v := .tup [.int (c / b : Nat), .int (c % b : Nat)]) (σ' := [.fz (.int a), .fz (.int b), .fz (.int (c / b : Nat)), .fz (.int (c % b : Nat))]) (ev_call (vs := [.int c, .int b]) ?_ (pos c (by lia) _ (by lia))) rfl ?_
    · rw [← ea]; rfl
    refine wx_ret (v := .tup [.int (Builtin.bitNot (c / b : Nat)), .int (b + Builtin.bitNot (c % b : Nat))]) rfl ?_
    have e := Nat.div_add_mod c b
    have hm' := Nat.mod_lt c (show 0 < b by lia)
    generalize c / b = q at *
    generalize c % b = r at *
    have := fdivmod_unique (a := a) (b := b) (q := Builtin.bitNot q) (r := b + Builtin.bitNot r) hb (by
      unfold Builtin.bitNot
      have e' : (b : Int) * q + r = c := by exact_mod_cast e
      have e2 : (-(q : Int) - 1) * b = -(b * q) - b := by rw [Int.sub_mul, Int.neg_mul, Int.mul_comm]; lia
      rw [e2]; lia) (by unfold Builtin.bitNot; lia) (by unfold Builtin.bitNot; lia)
    rw [this.1, this.2]
    rfl
theorem int_divmod_neg (C : Com g) {a b : Int} (hb : b < 0) (h1 : bitsOf b ≤ 4000) (h2 : bitsOf a ≤ 200000) {m : Nat} (hm : 100 ≤ m) : (run g m).call 6 [.int a, .int b] = some (.tup [.int ((-a).fdiv (-b)), .int (-((-a).fmod (-b)))]) := by
  obtain ⟨N, rfl⟩ : ∃ N, m = N + 100 := ⟨m - 100, by lia⟩
  refine call_of C.fn6 rfl ?_
  refine wx_else (x := .bool false) (ev_cmp rfl ?_) rfl ?_
  · exact congrArg some (beq_eq_false_iff_ne.2 (by lia))
  refine wx_then (x := .bool true) (ev_cmp rfl ?_) rfl ?_
  · exact congrArg some (decide_eq_true hb)
  refine wx_assign (σ' := [.fz (.int a), .fz (.int b), .fz (.int ((-a).fdiv (-b))), .fz (.int ((-a).fmod (-b)))]) (ev_call (vs := [.int (-a), .int (-b)]) rfl (int_divmod_pos C (by lia) (intBits_neg_le h1) (intBits_neg_le h2) (by lia))) rfl ?_
  exact wx_ret rfl rfl
end
end Mine
namespace Mine
open PySem PyProof.Rows
section
variable {g : Genv} {n : Nat} {σ σ' : Sig} {f : Nat} {vs : List V} {v : V} {ss : List MS}
theorem compV_map {ev : Sig → ME → Option V} {elt : ME} {t : Tgt} {α : Type} (F : α → V) (E : α → V) : ∀ l : List α, (∀ x ∈ l, ∃ σ', put σ t (F x) = some σ' ∧ ev σ' elt = some (E x)) → compV ev σ elt t [] (l.map F) = some (l.map E)
  | [], _ => rfl
  | x :: l, h => by
    obtain ⟨σ', h1, h2⟩ := h x (.head _)
    have h3 := compV_map F E l fun y hy => h y (.tail _ hy)
    show compV ev σ elt t [] (F x :: l.map F) = _
    simp only [compV, h1, allV, h2, h3]
    rfl
theorem compV_filter {ev : Sig → ME → Option V} {elt c : ME} {t : Tgt} {α : Type} (F : α → V) (E : α → V) (p : α → Bool) : ∀ l : List α, (∀ x ∈ l, ∃ σ', put σ t (F x) = some σ' ∧ (∃ v, ev σ' c = some v ∧ v.truthy = some (p x)) ∧ (p x = true → ev σ' elt = some (E x))) → compV ev σ elt t [c] (l.map F) = some ((l.filter p).map E)
  | [], _ => rfl
  | x :: l, h => by
    obtain ⟨σ', h1, ⟨v, h2, h3⟩, h4⟩ := h x (.head _)
    have h5 := compV_filter F E p l fun y hy => h y (.tail _ hy)
    show compV ev σ elt t [c] (F x :: l.map F) = _
    cases q : p x with
    | true =>
      rw [q] at h3
      simp only [compV, h1, allV, h2, h3, h4 q, h5, List.filter_cons, q, if_true, List.map_cons]
    | false =>
      rw [q] at h3
      simp only [compV, h1, allV, h2, h3, h5, List.filter_cons, q, Bool.false_eq_true, if_false]
theorem ev_and2 {a b : ME} {x y : Bool} (ha : (run g n).ev σ a = some (.bool x)) (hb : x = true → (run g n).ev σ b = some (.bool y)) : (run g (n + 1)).ev σ (.bop true [a, b]) = some (.bool (x && y)) := by
  induction x using Bool.casesOn with
  | true =>
    have h2 := hb rfl
    simp only [run_ev, evStep, bopV, ha, V.truthy, h2]
    rfl
  | false =>
    simp only [run_ev, evStep, bopV, ha, V.truthy]
    rfl
theorem ev_or2 {a b : ME} {x y : Bool} (ha : (run g n).ev σ a = some (.bool x)) (hb : x = false → (run g n).ev σ b = some (.bool y)) : (run g (n + 1)).ev σ (.bop false [a, b]) = some (.bool (x || y)) := by
  induction x using Bool.casesOn with
  | false =>
    have h2 := hb rfl
    simp only [run_ev, evStep, bopV, ha, V.truthy, h2]
    rfl
  | true =>
    simp only [run_ev, evStep, bopV, ha, V.truthy]
    rfl
theorem ev_not {a : ME} {v : V} {x : Bool} (ha : (run g n).ev σ a = some v) (hv : v.truthy = some x) : (run g (n + 1)).ev σ (.un .not a) = some (.bool (!x)) := by
  simp only [run_ev, evStep, ha, unV, hv]
theorem cmp_eqI {ev : Sig → ME → Option V} {x y : Int} {e : ME} (h : ev σ e = some (.int y)) : cmp1V ev σ (.int x) .eq e = some (x == y) := by
  unfold cmp1V; rw [if_neg (by decide), h]; rfl
theorem cmp_neI {ev : Sig → ME → Option V} {x y : Int} {e : ME} (h : ev σ e = some (.int y)) : cmp1V ev σ (.int x) .ne e = some (!(x == y)) := by
  unfold cmp1V; rw [if_neg (by decide), h]; rfl
theorem cmp_gtI {ev : Sig → ME → Option V} {x y : Int} {e : ME} (h : ev σ e = some (.int y)) : cmp1V ev σ (.int x) .gt e = some (decide (y < x)) := by
  unfold cmp1V; rw [if_neg (by decide), h]; rfl
theorem cmp_ltI {ev : Sig → ME → Option V} {x y : Int} {e : ME} (h : ev σ e = some (.int y)) : cmp1V ev σ (.int x) .lt e = some (decide (x < y)) := by
  unfold cmp1V; rw [if_neg (by decide), h]; rfl
theorem cmp_mem {ev : Sig → ME → Option V} {x : V} {l : List V} {e : ME} {b : Bool} (h : refV ev σ e = some (.list l)) (hm : memV x l = some b) : cmp1V ev σ x .mem e = some b := by
  unfold cmp1V; rw [if_pos (.inl rfl), h]; exact hm
end
end Mine
namespace Mine
open PySem PyProof.Rows
theorem and_nat (a b : Nat) : Builtin.bitAnd (a : Int) (b : Int) = ((a &&& b : Nat) : Int) := by
  rw [bitAnd_pp (by lia) (by lia)]
  simp only [Int.toNat_natCast]
theorem plL_nI (d : Nat) : ∀ l : List Nat, V.plL d (nI l) = true
  | [] => by simp [nI, V.plL]
  | x :: l => by
    have := plL_nI d l
    simp only [nI, List.map_cons, V.plL, V.pl, Bool.true_and]
    exact this
noncomputable def eqN : List Nat → List Nat → Bool
  | [], [] => true
  | x :: l, y :: r => Nat.beq x y && eqN l r
  | _, _ => false
theorem eqN_iff : ∀ l r : List Nat, eqN l r = true ↔ l = r
  | [], [] => by simp [eqN]
  | [], _ :: _ => by simp [eqN]
  | _ :: _, [] => by simp [eqN]
  | x :: l, y :: r => by simp [eqN, eqN_iff l r, Nat.beq_eq]
theorem eqbL_nI : ∀ l r : List Nat, V.eqbL (nI l) (nI r) = eqN l r
  | [], [] => by simp [nI, V.eqbL, eqN]
  | [], _ :: _ => by simp [nI, V.eqbL, eqN]
  | _ :: _, [] => by simp [nI, V.eqbL, eqN]
  | x :: l, y :: r => by
    have ih := eqbL_nI l r
    simp only [nI, List.map_cons, V.eqbL, eqN] at *
    rw [ih]
    congr 1
    rw [Bool.eq_iff_iff, Nat.beq_eq]
    simp [V.eqb]
    lia
theorem eqs_nI (l r : List Nat) : V.eqs (.list (nI l)) (.list (nI r)) = some (eqN l r) := by
  unfold V.eqs
  simp only [V.pl, plL_nI, Bool.and_self, if_true, V.eqb, eqbL_nI]
theorem get_nI {l : List Nat} {k : Nat} (h : k < l.length) : getV (.list (nI l)) (.int (k : Int)) = some (.int (l.getD k 0 : Nat)) := by
  show (match idx (nI l).length (k : Int) with | some j => (nI l)[j]? | none => none) = _
  have : idx (nI l).length (k : Int) = some k := by
    unfold idx
    rw [if_pos (by simp; lia)]; simp
  rw [this]
  simp [nI, List.getElem?_eq_getElem h]
theorem slice_nat {α : Type} (l : List α) (a b : Nat) : sliceL l (some (a : Int)) (some (b : Int)) = (l.take b).drop a := by
  unfold sliceL bound
  dsimp only
  rw [if_neg (by lia), if_neg (by lia), Int.toNat_natCast, Int.toNat_natCast]
  rcases Nat.le_total b l.length with h | h
  · rw [Nat.min_eq_left h]
    rcases Nat.le_total a l.length with h2 | h2
    · rw [Nat.min_eq_left h2]
    · rw [Nat.min_eq_right h2, List.drop_eq_nil_of_le (by rw [List.length_take]; lia), List.drop_eq_nil_of_le (by rw [List.length_take]; lia)]
  · rw [Nat.min_eq_right h, List.take_of_length_le (Nat.le_refl _), List.take_of_length_le h]
    rcases Nat.le_total a l.length with h2 | h2
    · rw [Nat.min_eq_left h2]
    · rw [Nat.min_eq_right h2, List.drop_eq_nil_of_le (Nat.le_refl _), List.drop_eq_nil_of_le h2]
theorem range_nat {a b : Nat} (ha : a < 1000000) (h : b < 1000000) : iterV .range2 [.int (a : Int), .int (b : Int)] = some ((List.range (b - a)).map fun k => V.int ((a + k : Nat) : Int)) := by
  have hln : lineN = 1048576 := rfl
  show (if _ then _ else _) = _
  rw [if_pos (by lia)]
  unfold rangeL
  have : ((b : Int) - (a : Int)).toNat = b - a := by lia
  rw [this, List.map_map]
  congr 1
end Mine
namespace Mine
open PySem PyProof.Rows
noncomputable def drw (k : Nat) (ns : List Int) : List Nat := (ns.take k).map fun x => (x.fmod 1000000).toNat
noncomputable def nums (k : Nat) (dflt : List Nat) (ns : List Int) : List Nat := drw k ns ++ dflt.drop (drw k ns).length
theorem drw_lt {k : Nat} {ns : List Int} : ∀ x ∈ drw k ns, x < 1000000 := fun x hx => by
  unfold drw at hx
  obtain ⟨y, _, rfl⟩ := List.mem_map.1 hx
  have h1 : 0 ≤ y.fmod 1000000 := by rw [Int.fmod_eq_emod_of_nonneg _ (by decide)]; exact Int.emod_nonneg _ (by decide)
  have h2 : y.fmod 1000000 < 1000000 := Int.fmod_lt_of_pos _ (by decide)
  lia
theorem drw_len {k : Nat} {ns : List Int} : (drw k ns).length = min k ns.length := by simp [drw]
theorem nums_lt {k : Nat} {dflt : List Nat} {ns : List Int} (hd : ∀ x ∈ dflt, x < 1000000) : ∀ x ∈ nums k dflt ns, x < 1000000 := fun x hx => by
  rcases List.mem_append.1 hx with h | h
  · exact drw_lt x h
  · exact hd x (List.mem_of_mem_drop h)
theorem nums_len {k : Nat} {dflt : List Nat} {ns : List Int} : (nums k dflt ns).length = max (min k ns.length) dflt.length := by
  unfold nums
  rw [List.length_append, List.length_drop, drw_len]; lia
section
variable {g : Genv} {N : Nat} {σ : Sig}
theorem drawn_ev {ns : List Int} {i k : Nat} {kk : Int} (hk : kk = (k : Int)) (h0 : σ.at 0 = .fz (.list (ns.map V.int))) (hi : i < σ.length) :
    (run g (N + 6)).ev σ (.comp (.bin .fmod (.prim .int1 [.var i]) (.bin .pow (.lit (.int 10)) (.lit (.int 6)))) (.one i) .plain [.slice (.var 0) none (some (.lit (.int kk)))] []) = some (.list (nI (drw k ns))) := by
  subst hk
  refine ev_comp (vs := [.list ((ns.take k).map V.int)]) (l := (ns.take k).map V.int) (evL_one ?_) rfl ?_
  · simp only [run_ev, evStep, refV, h0, optV]
    have e0 : sliceL (ns.map V.int) none (some (k : Int)) = sliceL (ns.map V.int) (some ((0 : Nat) : Int)) (some (k : Int)) := by
      unfold sliceL bound
      simp
    rw [e0, slice_nat, List.map_take]; rfl
  · rw [show nI (drw k ns) = (ns.take k).map (fun x => V.int (x.fmod 1000000)) from by
      unfold nI drw
      rw [List.map_map]
      apply List.map_congr_left
      intro x _
      have h1 : 0 ≤ x.fmod 1000000 := by rw [Int.fmod_eq_emod_of_nonneg _ (by decide)]; exact Int.emod_nonneg _ (by decide)
      show V.int (((x.fmod 1000000).toNat : Nat) : Int) = _
      rw [Int.toNat_of_nonneg h1]]
    refine compV_map V.int (fun x => V.int (x.fmod 1000000)) _ fun x _ => ?_
    refine ⟨σ.set i (.fz (.int x)), rfl, ?_⟩
    have hv : (run g (N + 2)).ev (σ.set i (.fz (.int x))) (.var i) = some (.int x) := by
      have e : Sig.at (σ.set i (.fz (.int x))) i = .fz (.int x) := by
        unfold Sig.at
        rw [List.getD_eq_getElem?_getD, List.getElem?_set_self hi]; rfl
      simp only [run_ev, evStep, e]
    refine ev_bin (ev_prim (evL_one hv) rfl) (ev_bin rfl rfl (bin_pow (by decide) (by decide))) ?_
    exact bin_fmod (by decide)
theorem numbers_ev {dr dflt : List Nat} {dm : List ME} (h1 : σ.at 1 = .fz (.list (nI dr))) (hd : ∀ M, evL (run g (M + 1)).ev σ dm = some (nI dflt)) (hz : dr.length + dflt.length < 1000) :
    (run g (N + 6)).ev σ (.bin .add (.var 1) (.slice (.list dm) (some (.prim .len [.var 1])) none)) = some (.list (nI (dr ++ dflt.drop dr.length))) := by
  have hln : lineN = 1048576 := rfl
  have hv : ∀ M, (run g (M + 1)).ev σ (.var 1) = some (.list (nI dr)) := fun M => by simp only [run_ev, evStep, h1]
  refine ev_bin (hv _) (y := .list (nI (dflt.drop dr.length))) ?_ ?_
  · have hl : (run g (N + 4)).ev σ (.list dm) = some (.list (nI dflt)) := by simp only [run_ev, evStep, hd]
    have hp : (run g (N + 4)).ev σ (.prim .len [.var 1]) = some (.int (dr.length : Nat)) := ev_prim (evL_one (hv _)) (by show some (V.int ((nI dr).length : Nat)) = _; rw [List.length_map])
    rw [run_ev (n := N + 4)]
    simp only [evStep, refV, hl, optV, hp]
    unfold sliceL bound
    simp only [List.length_map]
    rw [if_neg (by lia), Int.toNat_natCast]
    congr 2
    rcases Nat.le_total dr.length dflt.length with q | q
    · rw [Nat.min_eq_left q, List.take_of_length_le (by simp)]
      simp [nI, List.map_drop]
    · rw [Nat.min_eq_right q, List.take_of_length_le (by simp), List.drop_eq_nil_of_le (by simp), List.drop_eq_nil_of_le q]
      rfl
  · rw [bin_addL (by simp only [List.length_map, List.length_drop]; lia)]
    simp [nI]
end
theorem cmp_leI {ev : Sig → ME → Option V} {σ : Sig} {x y : Int} {e : ME} (h : ev σ e = some (.int y)) : cmp1V ev σ (.int x) .le e = some (decide (x ≤ y)) := by
  unfold cmp1V; rw [if_neg (by decide), h]; rfl
/-! mails -/
noncomputable def strEq (v : Option V) (l : List Nat) : Bool := match v with | some (.str s) => s == l | _ => false
theorem strEq_of {v : Option V} {l : List Nat} (h : strEq v l = true) : v = some (.str l) := by
  unfold strEq at h
  split at h
  · rw [eq_of_beq h]
  · cases h
noncomputable def intEq (v : Option V) (k : Nat) : Bool := match v with | some (.int (.ofNat i)) => Nat.beq i k | _ => false
theorem intEq_of {v : Option V} {k : Nat} (h : intEq v k = true) : v = some (.int k) := by
  unfold intEq at h
  split at h
  · rw [Nat.beq_eq] at h; rw [h]; rfl
  · cases h
noncomputable def endsL : List (List Nat) := [[10], [13], [13, 10]]
theorem eqs_str {s t : List Nat} (h : chOk s = true) (h2 : chOk t = true) : V.eqs (.str s) (.str t) = some (s == t) := by
  unfold V.eqs
  simp only [V.pl, h, h2, Bool.and_self, if_true, V.eqb]
theorem cmp_neS {ev : Sig → ME → Option V} {σ : Sig} {s t : List Nat} {e : ME} (h : ev σ e = some (.str t)) (h1 : chOk s = true) (h2 : chOk t = true) : cmp1V ev σ (.str s) .ne e = some (!(s == t)) := by
  unfold cmp1V; rw [if_neg (by decide), h]
  show (match V.eqs (.str s) (.str t) with | some x => some (!x) | none => none) = _
  rw [eqs_str h1 h2]
theorem mul_str {s : List Nat} {k : Nat} (h : s.length * k ≤ 1000) (hk : k ≤ 1000) : binV .mul (.str s) (.int (k : Int)) = some (.str (rep s k)) := by
  have hln : lineN = 1048576 := rfl
  show (if _ then _ else _) = _
  rw [if_pos]
  · rw [Int.toNat_natCast]
  · simp only [Bool.and_eq_true, decide_eq_true_eq, Int.toNat_natCast]
    exact ⟨⟨by lia, by lia⟩, by lia⟩
noncomputable def allN (f : Nat → Bool) : Nat → Nat → Bool
  | _, 0 => true
  | c, k + 1 => f c && allN f (c + 1) k
theorem allN_get {f : Nat → Bool} : ∀ {k c : Nat}, allN f c k = true → ∀ i, c ≤ i → i < c + k → f i = true
  | 0, c, _, i, h1, h2 => by lia
  | k + 1, c, h, i, h1, h2 => by
    unfold allN at h
    rw [Bool.and_eq_true] at h
    rcases Nat.lt_or_ge c i with q | q
    · exact allN_get h.2 i q (by lia)
    · have : c = i := by lia
      rw [← this]; exact h.1
end Mine
namespace Mine
open PySem PyProof.Rows
noncomputable def sumN : List Nat → Nat
  | [] => 0
  | x :: l => x + sumN l
theorem sum_nI (l : List Nat) : primV .sum [.list (nI l)] = some (.int (sumN l : Nat)) := by
  have h : ∀ l : List Nat, ints? (nI l) = some (l.map fun d : Nat => (d : Int)) := fun l => by
    induction l with
    | nil => rfl
    | cons x l ih =>
      show (ints? (nI l)).map _ = _
      rw [ih]; rfl
  have h2 : (l.map fun d : Nat => (d : Int)).sum = (sumN l : Nat) := by
    induction l with
    | nil => rfl
    | cons x l ih => rw [List.map_cons, List.sum_cons, ih]; rfl
  show (ints? (nI l)).map _ = _
  rw [h l, ← h2]; rfl
theorem rep_nI : ∀ k, rep [V.int 0] k = nI (List.replicate k 0)
  | 0 => rfl
  | k + 1 => congrArg (V.int 0 :: ·) (rep_nI k)
theorem bits_s {x : Int} (h1 : -1000000 < x) (h2 : x < 1000000) : bitsOf x ≤ 20 := intBits_le_iff.2 (by show x.natAbs < 1048576; omega)
noncomputable def mulI (x y : Int) : Option Int := if bitsOf x + bitsOf y ≤ lineN then some (x * y) else none
noncomputable def powI (y : Int) : Option Int := if 0 ≤ y ∧ (bitsOf 2 : Int) * y ≤ lineN then some (2 ^ y.toNat) else none
theorem mulI_mul {x y z : Int} (h : mulI x y = some z) : binV .mul (.int x) (.int y) = some (.int z) := by
  obtain ⟨q, rfl⟩ := iteS h
  exact bin_mul q
theorem powI_pow {y z : Int} (h : powI y = some z) : binV .pow (.int 2) (.int y) = some (.int z) := by
  obtain ⟨q, rfl⟩ := iteS h
  exact bin_pow q.1 q.2
theorem and3 {g : Genv} {n : Nat} {σ : Sig} {a b c : ME} {x y z : Bool} (ha : (run g n).ev σ a = some (.bool x)) (hb : (run g n).ev σ b = some (.bool y)) (hc : (run g n).ev σ c = some (.bool z)) : (run g (n + 1)).ev σ (.bop true [a, b, c]) = some (.bool (x && (y && z))) := by
  induction x using Bool.casesOn <;> induction y using Bool.casesOn <;> (simp only [run_ev, evStep, bopV, ha, hb, hc, V.truthy]; rfl)
theorem freshV_two {ev : Sig → ME → Option V} {σ : Sig} {i j : Nat × Bool} {a b : ME} {v w : V} (h1 : ev σ a = some v) (h2 : ev σ b = some w) : freshV σ ev [i, j] [a, b] = some [v, w] := by simp only [freshV, h1, h2]
theorem max_0 (a b : Nat) : primV .max2 [.int ((a : Int) - b), .int 0] = some (.int ((a - b : Nat) : Int)) := by
  show some (V.int (if (0 : Int) > (a : Int) - b then 0 else (a : Int) - b)) = _
  refine congrArg some (congrArg V.int ?_)
  split <;> omega
theorem or3 {g : Genv} {n : Nat} {σ : Sig} {a b c : ME} {x y z : Bool} (ha : (run g n).ev σ a = some (.bool x)) (hb : (run g n).ev σ b = some (.bool y)) (hc : (run g n).ev σ c = some (.bool z)) : (run g (n + 1)).ev σ (.bop false [a, b, c]) = some (.bool (x || (y || z))) := by
  induction x using Bool.casesOn <;> induction y using Bool.casesOn <;> (simp only [run_ev, evStep, bopV, ha, hb, hc, V.truthy]; rfl)
section
variable {g : Genv} {n : Nat} {σ : Sig} {e : ME}
theorem mod_ev {x k : Nat} (he : (run g n).ev σ e = some (.int x)) (hk : 0 < k) (hn : ∃ m, n = m + 1) : (run g (n + 1)).ev σ (.bin .fmod e (.lit (.int k))) = some (.int (x % k : Nat)) := by
  obtain ⟨m, rfl⟩ := hn
  exact ev_bin he rfl (by rw [bin_fmod (by omega), nat_fmod])
theorem div_ev {x k : Nat} (he : (run g n).ev σ e = some (.int x)) (hk : 0 < k) (hk2 : k < 1000000) (hn : ∃ m, n = m + 1) : (run g (n + 1)).ev σ (.bin .fdiv e (.lit (.int k))) = some (.int (x / k : Nat)) := by
  obtain ⟨m, rfl⟩ := hn
  exact ev_bin he rfl (by rw [bin_fdiv (by omega) (Nat.le_trans (bits_s (by omega) (by omega)) (by decide)), nat_fdiv])
end
theorem dgs_zero (w : Nat) : ∀ j, dgs w j 0 = List.replicate j 0
  | 0 => rfl
  | j + 1 => by
    show 0 % 2 ^ w :: dgs w j (0 / 2 ^ w) = _
    rw [Nat.zero_mod, Nat.zero_div, dgs_zero w j]; rfl
theorem pad_ok {w : Nat} (hw : 1 ≤ w) {l : List Nat} (hl : ∀ d ∈ l, d < 2 ^ w) : dgs w ((bitsOf ((val w l : Nat) : Int) + w - 1) / w) (val w l) ++ List.replicate (l.length - (bitsOf ((val w l : Nat) : Int) + w - 1) / w) 0 = l := by
  have h1 := bits_le (val_lt w l hl)
  have h2 := @bits_lt (val w l)
  generalize bitsOf ((val w l : Nat) : Int) = B at h1 h2 ⊢
  have hm : (B + w - 1) / w ≤ l.length := by
    refine Nat.le_of_lt_succ ((Nat.div_lt_iff_lt_mul hw).2 ?_)
    rw [Nat.succ_mul]; omega
  have hB : B ≤ (B + w - 1) / w * w := by
    have := Nat.div_add_mod (B + w - 1) w
    have h3 := Nat.mod_lt (B + w - 1) (show 0 < w from hw)
    rw [Nat.mul_comm] at this
    omega
  generalize (B + w - 1) / w = m at hm hB ⊢
  have hlt : val w l < 2 ^ (m * w) := Nat.lt_of_lt_of_le h2 (Nat.pow_le_pow_right (by decide) hB)
  obtain ⟨j, hj⟩ := Nat.le.dest hm
  have e := dgs_val w l hl
  rw [← hj, dgs_add, Nat.mod_eq_of_lt hlt, Nat.div_eq_of_lt hlt, dgs_zero] at e
  rw [← hj, Nat.add_sub_cancel_left]
  exact e
theorem pow_s {k : Nat} (h : k ≤ 10000) : powI (k : Int) = some ((2 ^ k : Nat) : Int) := by
  have hln : lineN = 1048576 := rfl
  have h2 : bitsOf 2 = 2 := by decide
  unfold powI
  rw [if_pos ⟨Int.natCast_nonneg _, by rw [h2]; omega⟩, Int.toNat_natCast, Int.natCast_pow]; rfl
end Mine
namespace Mine
open PySem PyProof.Rows
/-! ### the hours -/
noncomputable def names9 : List (List Nat) := [[79, 80, 84, 73, 77, 73, 90, 69, 68], [78, 69, 87, 76, 79, 67, 65, 76, 83], [86, 65, 82, 65, 82, 71, 83], [86, 65, 82, 75, 69, 89, 87, 79, 82, 68, 83], [78, 69, 83, 84, 69, 68], [71, 69, 78, 69, 82, 65, 84, 79, 82], [78, 79, 70, 82, 69, 69], [67, 79, 82, 79, 85, 84, 73, 78, 69], [73, 84, 69, 82, 65, 66, 76, 69, 95, 67, 79, 82, 79, 85, 84, 73, 78, 69]]
noncomputable def selW : List (List Nat) → Nat → List (List Nat)
  | [], _ => []
  | w :: ws, f => bif Nat.beq (f % 2) 1 then w :: selW ws (f / 2) else selW ws (f / 2)
noncomputable def wordsS (f : Nat) : List (List Nat) := bif Nat.beq f 0 then [[48, 120, 48]] else selW names9 f
noncomputable def prettyB (N f : Nat) : Bool := strEq ((run gL (N + 60)).call 0 [.int f]) (joinS [44, 32] (wordsS f))
set_option maxRecDepth 100000 in
theorem pretty0 (N : Nat) : allN (prettyB N) 0 128 = true := by kernel_rfl
set_option maxRecDepth 100000 in
theorem pretty1 (N : Nat) : allN (prettyB N) 128 128 = true := by kernel_rfl
set_option maxRecDepth 100000 in
theorem pretty2 (N : Nat) : allN (prettyB N) 256 128 = true := by kernel_rfl
set_option maxRecDepth 100000 in
theorem pretty3 (N : Nat) : allN (prettyB N) 384 128 = true := by kernel_rfl
theorem pretty_run {f : Nat} (h : f < 512) {M : Nat} (hM : 60 ≤ M) : (run gL M).call 0 [.int f] = some (.str (joinS [44, 32] (wordsS f))) := by
  have key : prettyB (M - 60) f = true := by
    rcases Nat.lt_or_ge f 128 with q | q
    · exact allN_get (pretty0 _) f (Nat.zero_le _) (by omega)
    rcases Nat.lt_or_ge f 256 with q1 | q1
    · exact allN_get (pretty1 _) f q (by omega)
    rcases Nat.lt_or_ge f 384 with q2 | q2
    · exact allN_get (pretty2 _) f q1 (by omega)
    · exact allN_get (pretty3 _) f q2 (by omega)
  have := strEq_of key
  rw [Nat.sub_add_cancel hM] at this
  exact this
noncomputable def wordsV (f : Nat) : List V := (wordsS f).map V.str
noncomputable def tame (w : List Nat) : Bool := w.all (fun c => !(c == 44)) && Nat.ble w.length 30 && chOk w
theorem sel_tame : ∀ (ws : List (List Nat)) (f : Nat), ws.all tame = true → (selW ws f).all tame = true ∧ (selW ws f).length ≤ ws.length
  | [], _, _ => ⟨rfl, Nat.le_refl _⟩
  | w :: ws, f, h => by
    obtain ⟨h1, h2⟩ := Bool.and_eq_true_iff.1 h
    obtain ⟨i1, i2⟩ := sel_tame ws (f / 2) h2
    unfold selW
    cases Nat.beq (f % 2) 1 with
    | true => exact ⟨Bool.and_eq_true_iff.2 ⟨h1, i1⟩, Nat.succ_le_succ i2⟩
    | false => exact ⟨i1, Nat.le_succ_of_le i2⟩
theorem words_tame (f : Nat) : (wordsS f).all tame = true ∧ (wordsS f).length ≤ 9 := by
  unfold wordsS
  cases Nat.beq f 0 with
  | true => exact ⟨rfl, show 1 ≤ 9 by decide⟩
  | false => exact sel_tame names9 f (by decide)
theorem joinS_len2 (sep : List Nat) : ∀ l : List (List Nat), (∀ w ∈ l, w.length ≤ 30) → (joinS sep l).length ≤ l.length * (30 + sep.length)
  | [], _ => Nat.zero_le _
  | [a], h => by have := h a (.head _); show a.length ≤ _; simp; omega
  | a :: b :: l, h => by
    have := h a (.head _)
    have ih := joinS_len2 sep (b :: l) fun w hw => h w (.tail _ hw)
    show (a ++ sep ++ joinS sep (b :: l)).length ≤ _
    rw [List.length_append, List.length_append, List.length_cons, Nat.succ_mul]
    omega
noncomputable def memEq (o : Option Bool) (b : Bool) : Bool := match o with
  | some c => c == b
  | none => false
noncomputable def wordsB (f : Nat) : Bool := !(wordsS f).isEmpty && allN (fun i => memEq (memV (.str (names9.getD i [])) (wordsV f)) (Nat.beq (f / 2 ^ i % 2) 1)) 0 9
set_option maxRecDepth 100000 in
theorem words0 : allN wordsB 0 128 = true := by decide +kernel
set_option maxRecDepth 100000 in
theorem words1 : allN wordsB 128 128 = true := by decide +kernel
set_option maxRecDepth 100000 in
theorem words2 : allN wordsB 256 128 = true := by decide +kernel
set_option maxRecDepth 100000 in
theorem words3 : allN wordsB 384 128 = true := by decide +kernel
theorem words_at {f : Nat} (h : f < 512) : wordsB f = true := by
  rcases Nat.lt_or_ge f 128 with q | q
  · exact allN_get words0 f (Nat.zero_le _) (by omega)
  rcases Nat.lt_or_ge f 256 with q1 | q1
  · exact allN_get words1 f q (by omega)
  rcases Nat.lt_or_ge f 384 with q2 | q2
  · exact allN_get words2 f q1 (by omega)
  · exact allN_get words3 f q2 (by omega)
theorem words_mem {f i : Nat} (h : f < 512) (hi : i < 9) : memV (.str (names9.getD i [])) (wordsV f) = some (Nat.beq (f / 2 ^ i % 2) 1) := by
  have := allN_get (Bool.and_eq_true_iff.1 (words_at h)).2 i (Nat.zero_le _) (by omega)
  unfold memEq at this
  generalize memV (.str (names9.getD i [])) (wordsV f) = o at this ⊢
  induction o using Option.casesOn with
  | none => exact Bool.noConfusion this
  | some c => rw [eq_of_beq this]
theorem words_split {f : Nat} (hf : f < 512) : methV .split (.str (joinS [44, 32] (wordsS f))) [.str [44, 32]] = some (.list (wordsV f)) := by
  obtain ⟨h1, h2⟩ := words_tame f
  have hln : lineN = 1048576 := rfl
  have h3 : ∀ w ∈ wordsS f, (w.all (fun c => !(c == 44)) = true ∧ w.length ≤ 30) ∧ chOk w = true := fun w hw => by
    obtain ⟨q1, q2⟩ := Bool.and_eq_true_iff.1 (List.all_eq_true.1 h1 w hw)
    obtain ⟨q3, q4⟩ := Bool.and_eq_true_iff.1 q1
    exact ⟨⟨q3, Nat.le_of_ble_eq_true q4⟩, q2⟩
  have hl := joinS_len2 [44, 32] (wordsS f) fun w hw => (h3 w hw).1.2
  have e : splF 44 32 false [] (joinS [44, 32] (wordsS f)) = wordsS f := by
    cases q : wordsS f with
    | nil =>
      have := (Bool.and_eq_true_iff.1 (words_at hf)).1
      rw [q] at this
      exact Bool.noConfusion this
    | cons w ws =>
      refine spl_join ws w [] fun v hv c hc => ?_
      rw [← q] at hv
      have := List.all_eq_true.1 (h3 v hv).1.1 c hc
      cases z : c == 44 with
      | true => rw [z] at this; cases this
      | false => rfl
  rw [split_run (by decide) (by decide) (by simp at hl; omega) (by rw [e]; omega) (fun p hp => by rw [e] at hp; have := (h3 p hp).1.2; omega), e]
  rfl
end Mine
namespace Mine
open PySem PyProof.Rows
noncomputable def prN (p : Nat × Nat) : V := .tup [.int p.1, .int p.2]
noncomputable def hoursS (n1 : Nat) : Nat → List Nat → List (Nat × Nat)
  | _, [] => []
  | i, x :: xs => (x % 8, x / 8 % 8 * (n1 / 2 ^ i % 2)) :: hoursS n1 (i + 1) xs
theorem hoursS_len {n1 : Nat} : ∀ {xs : List Nat} {i : Nat}, (hoursS n1 i xs).length = xs.length
  | [], _ => rfl
  | _ :: xs, _ => congrArg (· + 1) (hoursS_len (xs := xs))
section
variable {N : Nat}
theorem ev_ite {g : Genv} {n : Nat} {σ : Sig} {c a b : ME} {x v : V} {t : Bool} (hc : (run g n).ev σ c = some x) (ht : x.truthy = some t) (h : (run g n).ev σ (match t with | true => a | false => b) = some v) : (run g (n + 1)).ev σ (.ite c a b) = some v := by
  induction t using Bool.casesOn <;> (simp only [run_ev, evStep, hc, ht]; exact h)
noncomputable def hoursB : List MS := [(.append 3 (.tup [(.bin .fmod (.var 5) (.lit (.int 8))), (.ite (.cmp (.var 4) .mem (.var 2)) (.bin .fmod (.bin .fdiv (.var 5) (.lit (.int 8))) (.lit (.int 8))) (.lit (.int 0)))]))]
theorem tup2_ev {g : Genv} {n : Nat} {σ : Sig} {a b : ME} {x y : V} (ha : (run g n).ev σ a = some x) (hb : (run g n).ev σ b = some y) : (run g (n + 1)).ev σ (.tup [a, b]) = some (.tup [x, y]) := by
  simp only [run_ev, evStep, evL_two ha hb]
theorem hours_loop {n1 : Nat} (v0 v1 : V) : ∀ (xs : List Nat) (i : Nat) (acc : List (Nat × Nat)) (e4 e5 : Ent), i + xs.length ≤ 9 → acc.length + xs.length ≤ 9 →
    Wx (forV (run gL (N + 20)).ex (.many [4, 5]) hoursB [] (zipV ((names9.drop i).map V.str) (nI xs)) [.fz v0, .fz v1, .fz (.list (wordsV (n1 % 512))), .own (.list (acc.map prN)), e4, e5])
      (fun fl σ' => fl = .next ∧ ∃ e4 e5, σ' = [.fz v0, .fz v1, .fz (.list (wordsV (n1 % 512))), .own (.list ((acc ++ hoursS n1 i xs).map prN)), e4, e5])
  | [], i, acc, e4, e5, _, _ => by
    have e : zipV ((names9.drop i).map V.str) (nI []) = [] := by cases (names9.drop i).map V.str <;> rfl
    rw [e]
    exact forV_nil (wx_nil ⟨rfl, e4, e5, by rw [show hoursS n1 i [] = [] from rfl, List.append_nil]⟩)
  | x :: xs, i, acc, e4, e5, hi, ha => by
    have hln : lineN = 1048576 := rfl
    have hi9 : i < 9 := by simp only [List.length_cons] at hi; lia
    have hd : names9.drop i = names9.getD i [] :: names9.drop (i + 1) := by
      rw [List.drop_eq_getElem_cons (show i < names9.length from hi9), List.getD_eq_getElem?_getD, List.getElem?_eq_getElem (show i < names9.length from hi9)]; rfl
    rw [hd]
    refine forV_cons (σ' := [.fz v0, .fz v1, .fz (.list (wordsV (n1 % 512))), .own (.list (acc.map prN)), .fz (.str (names9.getD i [])), .fz (.int x)]) rfl ?_
    have hm := words_mem (f := n1 % 512) (Nat.mod_lt _ (by decide)) hi9
    have hb : n1 % 512 / 2 ^ i % 2 = n1 / 2 ^ i % 2 := by
      have h1 := Nat.testBit_mod_two_pow n1 9 i
      rw [Nat.testBit_eq_decide_div_mod_eq, Nat.testBit_eq_decide_div_mod_eq, decide_eq_true hi9, Bool.true_and, decide_eq_decide] at h1
      have h2 := Nat.mod_two_eq_zero_or_one (n1 % 2 ^ 9 / 2 ^ i)
      have h3 := Nat.mod_two_eq_zero_or_one (n1 / 2 ^ i)
      show n1 % 2 ^ 9 / 2 ^ i % 2 = _
      lia
    rw [hb] at hm
    have key : (run gL (N + 18)).ev [.fz v0, .fz v1, .fz (.list (wordsV (n1 % 512))), .own (.list (acc.map prN)), .fz (.str (names9.getD i [])), .fz (.int x)] (.ite (.cmp (.var 4) .mem (.var 2)) (.bin .fmod (.bin .fdiv (.var 5) (.lit (.int 8))) (.lit (.int 8))) (.lit (.int 0))) = some (.int (x / 8 % 8 * (n1 / 2 ^ i % 2) : Nat)) := by
      refine ev_ite (ev_cmp rfl (cmp_mem rfl hm)) rfl ?_
      rcases Nat.mod_two_eq_zero_or_one (n1 / 2 ^ i) with q | q <;> rw [q]
      · rfl
      · rw [Nat.mul_one]
        exact mod_ev (k := 8) (div_ev (k := 8) rfl (by decide) (by decide) ⟨_, rfl⟩) (by decide) ⟨_, rfl⟩
    refine wx_append (l := acc.map prN) rfl (tup2_ev (mod_ev (k := 8) (x := x) rfl (by decide) ⟨_, rfl⟩) key) (by rw [List.length_map]; simp only [List.length_cons] at ha; lia) (wx_nil ?_)
    have e1 : acc.map prN ++ [V.tup [.int (x % 8 : Nat), .int (x / 8 % 8 * (n1 / 2 ^ i % 2) : Nat)]] = (acc ++ [(x % 8, x / 8 % 8 * (n1 / 2 ^ i % 2))]).map prN := by
      rw [List.map_append]; rfl
    show Wx (forV (run gL (N + 20)).ex (.many [4, 5]) hoursB [] (zipV ((names9.drop (i + 1)).map V.str) (nI xs)) [_, _, _, .own (.list (acc.map prN ++ _)), _, _]) _
    rw [e1]
    refine (hours_loop v0 v1 xs (i + 1) _ _ _ (by simp only [List.length_cons] at hi; lia) (by rw [List.length_append]; simp only [List.length_cons, List.length_nil] at ha ⊢; lia)).mono ?_
    rintro fl σ' ⟨h1, e4, e5, h2⟩
    exact ⟨h1, e4, e5, by rw [h2, List.append_assoc]; rfl⟩
theorem slice_3 {α : Type} (a b c : α) (l : List α) : sliceL (a :: b :: c :: l) (some 3) none = l := by
  have e : bound (a :: b :: c :: l).length 3 = 3 := by
    unfold bound
    rw [if_neg (by decide)]
    exact Nat.min_eq_left (by simp)
  unfold sliceL
  dsimp only
  rw [e, List.take_length]; rfl
theorem slice3_ev {σ : Sig} {i n0 n1 n2 : Nat} {xs : List Nat} (h : σ.at i = .fz (.list (nI (n0 :: n1 :: n2 :: xs)))) (n : Nat) : (run gL (n + 2)).ev σ (.slice (.var i) (some (.lit (.int 3))) none) = some (.list (nI xs)) := by
  have e : (run gL (n + 1)).ev σ (.lit (.int 3)) = some (.int 3) := rfl
  simp only [run_ev (n := n + 1), evStep, refV, h, optV, e]
  exact congrArg (fun l => some (V.list l)) (slice_3 _ _ _ (nI xs))
theorem hours_run {n0 n1 n2 : Nat} {xs : List Nat} (hx : xs.length ≤ 9) {M : Nat} (hM : 100 ≤ M) : (run gL M).call 8 [.list (nI (n0 :: n1 :: n2 :: xs))] = some (.list ((hoursS n1 0 xs).map prN)) := by
  obtain ⟨N, rfl⟩ : ∃ N, M = N + 100 := ⟨M - 100, (Nat.sub_add_cancel hM).symm⟩
  refine call_of (σ := [.fz (.list (nI (n0 :: n1 :: n2 :: xs))), .un, .un, .un, .un, .un]) rfl rfl ?_
  refine wx_assign (v := .list (names9.map V.str)) (σ' := [.fz (.list (nI (n0 :: n1 :: n2 :: xs))), .fz (.list (names9.map V.str)), .un, .un, .un, .un]) rfl rfl ?_
  refine wx_assign (v := .list (wordsV (n1 % 512))) (σ' := [.fz (.list (nI (n0 :: n1 :: n2 :: xs))), .fz (.list (names9.map V.str)), .fz (.list (wordsV (n1 % 512))), .un, .un, .un]) (ev_meth (x := .str (joinS [44, 32] (wordsS (n1 % 512)))) (ev_call (evL_one (mod_ev (k := 512) (x := n1) (ev_sub rfl rfl (get_nI (k := 1) (by simp))) (by decide) ⟨_, rfl⟩)) (pretty_run (Nat.mod_lt _ (by decide)) (by lia))) rfl (words_split (Nat.mod_lt _ (by decide)))) rfl ?_
  refine wx_fresh (v := .list []) rfl ?_
  refine wx_for (vs := [.list (names9.map V.str), .list (nI xs)]) (evL_two rfl (slice3_ev (i := 0) rfl _)) rfl ?_
  refine (hours_loop (N := N + 78) (n1 := n1) _ _ xs 0 [] .un .un (by lia) (by simp only [List.length_nil]; lia)).mono ?_
  rintro fl σ' ⟨rfl, e4, e5, rfl⟩
  refine wx_freeze (v := .list ((hoursS n1 0 xs).map prN)) rfl ?_
  exact wx_ret rfl rfl
end
end Mine
namespace Mine
open PySem PyProof.Rows
/-! ### dicts of numbers -/
noncomputable def dI (l : List (Nat × Nat)) : List (Int × V) := l.map fun p => ((p.1 : Int), V.int p.2)
noncomputable def putN : List (Nat × Nat) → Nat → Nat → List (Nat × Nat)
  | [], k, v => [(k, v)]
  | p :: l, k, v => if p.1 = k then (p.1, v) :: l else p :: putN l k v
noncomputable def getN : List (Nat × Nat) → Nat → Nat
  | [], _ => 0
  | p :: l, k => if p.1 = k then p.2 else getN l k
noncomputable def keysN (l : List (Nat × Nat)) : List Nat := l.map (·.1)
noncomputable def insK : List Nat → Nat → List Nat
  | [], k => [k]
  | x :: l, k => bif Nat.beq x k then x :: l else x :: insK l k
theorem dput_dI (k v : Nat) : ∀ l, dput (dI l) k (.int v) = dI (putN l k v)
  | [] => rfl
  | p :: l => by
    show (if (p.1 : Int) = k then ((p.1 : Int), V.int v) :: dI l else ((p.1 : Int), V.int p.2) :: dput (dI l) k (.int v)) = dI (if p.1 = k then (p.1, v) :: l else p :: putN l k v)
    by_cases h : p.1 = k
    · rw [if_pos h, if_pos (show (p.1 : Int) = (k : Int) from congrArg Int.ofNat h)]; rfl
    · rw [if_neg h, if_neg (show ¬ (p.1 : Int) = (k : Int) from fun q => h (Int.ofNat.inj q)), dput_dI k v l]; rfl
theorem dlook_dI (k : Nat) : ∀ l : List (Nat × Nat), (k ∈ keysN l → dlook (dI l) k = some (.int (getN l k : Nat))) ∧ (k ∉ keysN l → dlook (dI l) k = none ∧ getN l k = 0)
  | [] => ⟨(fun h => nomatch h), fun _ => ⟨rfl, rfl⟩⟩
  | p :: l => by
    obtain ⟨i1, i2⟩ := dlook_dI k l
    show (_ → (if (p.1 : Int) = k then some (V.int p.2) else dlook (dI l) k) = some (V.int ((if p.1 = k then p.2 else getN l k : Nat) : Int))) ∧ (_ → (if (p.1 : Int) = k then some (V.int p.2) else dlook (dI l) k) = none ∧ (if p.1 = k then p.2 else getN l k) = 0)
    by_cases h : p.1 = k
    · rw [if_pos h, if_pos (show (p.1 : Int) = k from congrArg Int.ofNat h)]
      exact ⟨fun _ => rfl, fun q => absurd (List.mem_cons.2 (.inl h.symm)) q⟩
    · rw [if_neg h, if_neg (show ¬ (p.1 : Int) = k from fun q => h (Int.ofNat.inj q))]
      refine ⟨fun q => i1 ?_, fun q => i2 fun z => q (List.mem_cons.2 (.inr z))⟩
      rcases List.mem_cons.1 q with q | q
      · exact absurd q.symm h
      · exact q
theorem get_dI (l : List (Nat × Nat)) (k : Nat) : methV .get2 (.dict (dI l)) [.int k, .int 0] = some (.int (getN l k : Nat)) := by
  obtain ⟨i1, i2⟩ := dlook_dI k l
  show (match dlook (dI l) k with | some v => some v | none => some (V.int 0)) = _
  by_cases h : k ∈ keysN l
  · rw [i1 h]
  · rw [(i2 h).1, (i2 h).2]; rfl
theorem keys_put (k v : Nat) : ∀ l, keysN (putN l k v) = insK (keysN l) k
  | [] => rfl
  | p :: l => by
    show keysN (if p.1 = k then (p.1, v) :: l else p :: putN l k v) = bif Nat.beq p.1 k then p.1 :: keysN l else p.1 :: insK (keysN l) k
    by_cases h : p.1 = k
    · rw [if_pos h, h, Nat.beq_refl]; rfl
    · rw [if_neg h, Bool.eq_false_iff.2 fun q => h (Nat.eq_of_beq_eq_true q)]
      exact congrArg (p.1 :: ·) (keys_put k v l)
noncomputable def wt (W : Nat → Int) : List (Nat × Nat) → Int
  | [] => 0
  | p :: l => p.2 * W p.1 + wt W l
noncomputable def addN (l : List (Nat × Nat)) (k v : Nat) : List (Nat × Nat) := putN l k (getN l k + v)
theorem wt_add (W : Nat → Int) (k v : Nat) : ∀ l, wt W (addN l k v) = wt W l + v * W k
  | [] => by
    show ((0 + v : Nat) : Int) * W k + 0 = 0 + _
    rw [Nat.zero_add, Int.add_zero, Int.zero_add]
  | p :: l => by
    by_cases h : p.1 = k
    · have e : addN (p :: l) k v = (p.1, p.2 + v) :: l := by
        show (if p.1 = k then (p.1, (if p.1 = k then p.2 else getN l k) + v) :: l else _) = _
        rw [if_pos h, if_pos h]
      rw [e]
      show ((p.2 + v : Nat) : Int) * W p.1 + wt W l = p.2 * W p.1 + wt W l + _
      rw [h, Int.natCast_add, Int.add_mul]; lia
    · have e : addN (p :: l) k v = p :: addN l k v := by
        show (if p.1 = k then _ else p :: putN l k ((if p.1 = k then p.2 else getN l k) + v)) = _
        rw [if_neg h, if_neg h]; rfl
      rw [e]
      show (p.2 : Int) * W p.1 + wt W (addN l k v) = p.2 * W p.1 + wt W l + _
      rw [wt_add W k v l]; lia
theorem keys_add (l : List (Nat × Nat)) (k v : Nat) : keysN (addN l k v) = insK (keysN l) k := keys_put ..
/-! ### the people -/
noncomputable def peopleS (n : Nat) : Nat → Nat → List (Nat × Nat)
  | 0, _ => []
  | k + 1, h => (h, n / 10 ^ (h - 1) % 10) :: peopleS n k (h + 1)
section
variable {N : Nat}
noncomputable def peopleB : List MS := [(.setItem 2 (.var 3) (.bin .fmod (.bin .fdiv (.var 0) (.bin .pow (.lit (.int 10)) (.bin .sub (.var 3) (.lit (.int 1))))) (.lit (.int 10))))]
theorem put_new {k v : Nat} : ∀ {l : List (Nat × Nat)}, k ∉ keysN l → putN l k v = l ++ [(k, v)]
  | [], _ => rfl
  | p :: l, h => by
    show (if p.1 = k then _ else p :: putN l k v) = _
    rw [if_neg (fun q => h (List.mem_cons.2 (.inl q.symm))), put_new fun q => h (List.mem_cons.2 (.inr q))]; rfl
theorem people_loop {n m : Nat} (hn : n < 1000000) : ∀ (k h : Nat) (acc : List (Nat × Nat)) (e3 : Ent), 1 ≤ h → h + k ≤ 10 → acc.length + k ≤ 10 → (∀ x ∈ keysN acc, x < h) →
    Wx (forV (run gL (N + 20)).ex (.one 3) peopleB [] ((List.range k).map fun i => V.int ((h + i : Nat) : Int)) [.fz (.int n), .fz (.int m), .own (.dict (dI acc)), e3])
      (fun fl σ' => fl = .next ∧ ∃ e3, σ' = [.fz (.int n), .fz (.int m), .own (.dict (dI (acc ++ peopleS n k h))), e3])
  | 0, h, acc, e3, _, _, _, _ => forV_nil (wx_nil ⟨rfl, e3, by rw [show peopleS n 0 h = [] from rfl, List.append_nil]⟩)
  | k + 1, h, acc, e3, h1, h2, h3, h4 => by
    have hln : lineN = 1048576 := rfl
    rw [List.range_succ_eq_map, List.map_cons, List.map_map]
    refine forV_cons (σ' := [.fz (.int n), .fz (.int m), .own (.dict (dI acc)), .fz (.int h)]) rfl ?_
    have e1 : (h : Int) - 1 = ((h - 1 : Nat) : Int) := by lia
    have hp : binV .pow (.int 10) (.int ((h : Int) - 1)) = some (.int ((10 ^ (h - 1) : Nat) : Int)) := by
      have h10 : bitsOf 10 = 4 := by decide
      rw [e1, bin_pow (Int.natCast_nonneg _) (by rw [h10]; lia), Int.toNat_natCast, Int.natCast_pow]; rfl
    have h0 : (10 ^ (h - 1) : Nat) ≠ 0 := Nat.pos_iff_ne_zero.1 (Nat.pow_pos (by decide))
    have hb : bitsOf ((10 ^ (h - 1) : Nat) : Int) ≤ 8000 := Nat.le_trans (bits_le (m := 40) (Nat.lt_of_le_of_lt (Nat.pow_le_pow_right (by decide) (show h - 1 ≤ 9 by lia)) (by decide))) (by decide)
    have hk : h ∉ keysN acc := fun q => Nat.lt_irrefl _ (h4 h q)
    refine wx_setItem (l := dI acc) (x := h) (v := .int (n / 10 ^ (h - 1) % 10 : Nat)) rfl (mod_ev (k := 10) (ev_bin (y := .int ((10 ^ (h - 1) : Nat) : Int)) rfl (ev_bin rfl rfl hp) ?_) (by decide) ⟨_, rfl⟩) rfl (by rw [dI, List.length_map]; lia) (wx_nil ?_)
    · rw [bin_fdiv (y := ((10 ^ (h - 1) : Nat) : Int)) (fun q => h0 (Int.ofNat.inj q)) hb, nat_fdiv]
    · have e2 : (List.range k).map ((fun i => V.int ((h + i : Nat) : Int)) ∘ Nat.succ) = (List.range k).map fun i => V.int ((h + 1 + i : Nat) : Int) := by
        apply List.map_congr_left
        intro i _
        show V.int ((h + (i + 1) : Nat) : Int) = _
        rw [Nat.add_right_comm]; rfl
      show Wx (forV (run gL (N + 20)).ex (.one 3) peopleB [] _ [_, _, .own (.dict (dput (dI acc) h (.int (n / 10 ^ (h - 1) % 10 : Nat)))), _]) _
      rw [e2, dput_dI, put_new hk]
      refine (people_loop hn k (h + 1) (acc ++ [(h, n / 10 ^ (h - 1) % 10)]) _ (by lia) (by lia) (by rw [List.length_append]; simp only [List.length_cons, List.length_nil]; lia) fun x hx => ?_).mono ?_
      · rw [keysN, List.map_append] at hx
        rcases List.mem_append.1 hx with hx | hx
        · exact Nat.lt_succ_of_lt (h4 x hx)
        · rw [List.mem_singleton.1 hx]; exact Nat.lt_succ_self _
      · rintro fl σ' ⟨q1, e3, q2⟩
        exact ⟨q1, e3, by rw [q2, List.append_assoc]; rfl⟩
theorem people_run {n m : Nat} (hn : n < 1000000) (h1 : 1 ≤ m) (h6 : m ≤ 6) {M : Nat} (hM : 50 ≤ M) : (run gL M).call 9 [.int n, .int m] = some (.dict (dI (peopleS n (m - 1) 1))) := by
  obtain ⟨N, rfl⟩ : ∃ N, M = N + 50 := ⟨M - 50, (Nat.sub_add_cancel hM).symm⟩
  refine call_of (σ := [.fz (.int n), .fz (.int m), .un, .un]) rfl rfl ?_
  refine wx_fresh (v := .dict []) rfl ?_
  refine wx_for (vs := [.int ((1 : Nat) : Int), .int m]) (evL_two rfl rfl) (range_nat (by decide) (by lia)) ?_
  refine (people_loop (N := N + 28) hn (m - 1) 1 [] .un (Nat.le_refl _) (by lia) (by simp only [List.length_nil]; lia) (fun x hx => nomatch hx)).mono ?_
  rintro fl σ' ⟨rfl, e3, rfl⟩
  refine wx_freeze (v := .dict (dI (peopleS n (m - 1) 1))) rfl ?_
  exact wx_ret rfl rfl
end
end Mine
namespace Mine
open PySem PyProof.Rows
/-! ### an hour -/
noncomputable def upF (h : Nat) : Nat := bif Nat.beq h 0 then 0 else h + 1
noncomputable def rowS (u : Nat) : List Nat := rep [46] u ++ [97]
noncomputable def lineS (e : List Nat) (h : Nat) : List Nat := rep [46] h ++ [97] ++ e
noncomputable def textS (hs e : List Nat) : List Nat := joinS [] (hs.map (lineS e))
noncomputable def sentS (hs : List Nat) : List Nat := joinS [] ((hs.map upF).map fun u => rep [46] u ++ [97, 13, 10])
noncomputable def hsL (m t : Nat) : List Nat := bif Nat.beq t 0 then (List.range (m - 1)).map (· + 1) else List.range m
noncomputable def keysH (m : Nat) : List Nat → List Nat → List Nat
  | [], ks => ks
  | h :: hs, ks => keysH m hs (insK (insK (insK ks (upF h % m)) (h - 1)) h)
noncomputable def kF (m : Nat) : Nat → List Nat
  | 0 => (List.range (m - 1)).map (· + 1)
  | 1 => keysH m (hsL m 0) []
  | _ => keysH m (hsL m 1) []
noncomputable def eqLL : List (List Nat) → List (List Nat) → Bool
  | [], r => r.isEmpty
  | x :: l, r => (match r with
    | [] => false
    | y :: r => eqN x y && eqLL l r)
theorem eqLL_of : ∀ {l r : List (List Nat)}, eqLL l r = true → l = r
  | [], r, h => (List.isEmpty_iff.1 h).symm
  | x :: l, [], h => Bool.noConfusion h
  | x :: l, y :: r, h => by
    obtain ⟨h1, h2⟩ := Bool.and_eq_true_iff.1 h
    rw [(eqN_iff x y).1 h1, eqLL_of h2]
noncomputable def castI (l : List Nat) : List Int := l.map fun d : Nat => (d : Int)
noncomputable def hourB (m t : Nat) : Bool := (endsL.all fun e => strEq (quoteF [.str (textS (hsL m t) e)]) (sentS (hsL m t))) && eqLL (splF 13 10 false [] (sentS (hsL m t))) ((hsL m t).map (fun h => rowS (upF h)) ++ [[]]) &&
  ((hsL m t).all fun h => intEq (methV .index (.str (rowS (upF h))) [.str [97]]) (upF h) && Nat.ble h 10) && chOk (sentS (hsL m t)) && Nat.ble (sentS (hsL m t)).length 500 && Nat.ble (hsL m t).length 6 && decide (sortI (castI (kF m t)) = castI (hsL m t)) && (hsL m t).isPerm (kF m t) && decide (kF m t).Nodup && (kF m t).all fun k => Nat.blt k m
set_option maxRecDepth 100000 in
theorem hours_all : allN (fun m => allN (hourB m) 0 3) 2 5 = true := by decide +kernel
structure HourF (m t : Nat) : Prop where
  quote : ∀ e ∈ endsL, quoteF [.str (textS (hsL m t) e)] = some (.str (sentS (hsL m t)))
  split : splF 13 10 false [] (sentS (hsL m t)) = (hsL m t).map (fun h => rowS (upF h)) ++ [[]]
  index : ∀ h ∈ hsL m t, methV .index (.str (rowS (upF h))) [.str [97]] = some (.int (upF h : Nat)) ∧ h ≤ 10
  ch : chOk (sentS (hsL m t)) = true
  len : (sentS (hsL m t)).length ≤ 500
  len6 : (hsL m t).length ≤ 6
  sort : sortI (castI (kF m t)) = castI (hsL m t)
  perm : (hsL m t).Perm (kF m t)
  nodup : (kF m t).Nodup
  lt : ∀ k ∈ kF m t, k < m
theorem hour_facts {m t : Nat} (h2 : 2 ≤ m) (h6 : m ≤ 6) (ht : t < 3) : HourF m t := by
  have h := allN_get (allN_get hours_all m h2 (by lia)) t (Nat.zero_le _) (by lia)
  unfold hourB at h
  simp only [Bool.and_eq_true] at h
  obtain ⟨⟨⟨⟨⟨⟨⟨⟨⟨a1, a2⟩, a3⟩, a4⟩, a5⟩, a6⟩, a7⟩, a8⟩, a9⟩, a10⟩ := h
  refine ⟨fun e he => strEq_of (List.all_eq_true.1 a1 e he), eqLL_of a2, fun h hh => ?_, a4, Nat.le_of_ble_eq_true a5, Nat.le_of_ble_eq_true a6, of_decide_eq_true a7, List.isPerm_iff.1 a8, of_decide_eq_true a9, fun k hk => Nat.blt_eq.mp (List.all_eq_true.1 a10 k hk)⟩
  obtain ⟨q1, q2⟩ := Bool.and_eq_true_iff.1 (List.all_eq_true.1 a3 h hh)
  exact ⟨intEq_of q1, Nat.le_of_ble_eq_true q2⟩
noncomputable def hourD (m g s : Nat) (crowd : List (Nat × Nat)) : List Nat → List (Nat × Nat) → List (Nat × Nat)
  | [], acc => acc
  | h :: hs, acc => hourD m g s crowd hs (addN (addN (addN acc (upF h % m) (g * getN crowd h)) (h - 1) (g * getN crowd h)) h (s * getN crowd h))
theorem hourD_keys {m g s : Nat} {crowd : List (Nat × Nat)} : ∀ (hs : List Nat) (acc : List (Nat × Nat)), keysN (hourD m g s crowd hs acc) = keysH m hs (keysN acc)
  | [], _ => rfl
  | h :: hs, acc => by
    refine (hourD_keys hs _).trans ?_
    rw [keys_add, keys_add, keys_add]; rfl
theorem insK_len (k : Nat) : ∀ l, (insK l k).length ≤ l.length + 1
  | [] => Nat.le_refl _
  | x :: l => by
    show (bif Nat.beq x k then x :: l else x :: insK l k).length ≤ _
    cases Nat.beq x k with
    | true => exact Nat.le_succ _
    | false => exact Nat.succ_le_succ (insK_len k l)
theorem addN_len (l : List (Nat × Nat)) (k v : Nat) : (addN l k v).length ≤ l.length + 1 := by
  have := insK_len k (keysN l)
  rw [← keys_add l k v] at this
  unfold keysN at this
  rwa [List.length_map, List.length_map] at this
section
variable {N : Nat}
noncomputable def addB : List MS := [(.setItem 9 (.var 12) (.bin .add (.meth .get2 (.var 9) [(.var 12), (.lit (.int 0))]) (.bin .mul (.var 13) (.sub (.var 0) (.var 10)))))]
noncomputable def hourL : List MS := [(.for' (.many [12, 13]) .plain [(.list [(.tup [(.bin .fmod (.var 11) (.var 3)), (.var 1)]), (.tup [(.prim .max2 [(.bin .sub (.var 10) (.lit (.int 1))), (.lit (.int 0))]), (.var 1)]), (.tup [(.var 10), (.var 2)])])] addB [])]
noncomputable def hrσ (crowd : List (Nat × Nat)) (g s m : Nat) (e4 e5 e6 e7 e8 : Ent) (acc : List (Nat × Nat)) (e10 e11 e12 e13 : Ent) : Sig := [.fz (.dict (dI crowd)), .fz (.int g), .fz (.int s), .fz (.int m), e4, e5, e6, e7, e8, .own (.dict (dI acc)), e10, e11, e12, e13, .un, .un, .un]
theorem add_run {crowd acc : List (Nat × Nat)} {g s m h k v : Nat} {e4 e5 e6 e7 e8 e11 : Ent} (hk : h ∈ keysN crowd) (hB : bitsOf (getN crowd h : Int) ≤ 100000) (hv : v < 1000000) (ha : acc.length ≤ 1000) {Q : Fl → Sig → Prop}
    (hq : Q .next (hrσ crowd g s m e4 e5 e6 e7 e8 (addN acc k (v * getN crowd h)) (.fz (.int h)) e11 (.fz (.int k)) (.fz (.int v)))) : Wx ((run gL (N + 10)).ex (hrσ crowd g s m e4 e5 e6 e7 e8 acc (.fz (.int h)) e11 (.fz (.int k)) (.fz (.int v))) addB) Q := by
  have hln : lineN = 1048576 := rfl
  have hv' := bits_s (x := (v : Int)) (by lia) (by lia)
  refine wx_setItem (l := dI acc) (x := k) (v := .int ((getN acc k + v * getN crowd h : Nat) : Int)) rfl (ev_bin (ev_meth (x := .dict (dI acc)) rfl (evL_two rfl rfl) (get_dI acc k)) (ev_bin rfl (ev_sub rfl rfl ((dlook_dI _ crowd).1 hk)) (bin_mul (x := (v : Int)) (y := (getN crowd h : Int)) (by lia))) ?_) rfl (by rw [dI, List.length_map]; lia) (wx_nil ?_)
  · show some (V.int _) = _
    rw [Int.natCast_add, Int.natCast_mul]
  · have e : dput (dI acc) k (.int ((getN acc k + v * getN crowd h : Nat) : Int)) = dI (addN acc k (v * getN crowd h)) := dput_dI ..
    show Q .next [_, _, _, _, _, _, _, _, _, .own (.dict (dput (dI acc) k _)), _, _, _, _, _, _, _]
    rw [e]; exact hq
theorem hour_loop {crowd : List (Nat × Nat)} {g s m : Nat} (hg : g < 1000000) (hs' : s < 1000000) (hm : 1 ≤ m) (hB : ∀ h, bitsOf (getN crowd h : Int) ≤ 100000) (e4 e5 e6 e7 e8 : Ent) : ∀ (hs : List Nat) (acc : List (Nat × Nat)) (e10 e11 e12 e13 : Ent), (∀ h ∈ hs, h ∈ keysN crowd) → acc.length + 3 * hs.length ≤ 900 →
    Wx (forV (run gL (N + 30)).ex (.many [10, 11]) hourL [] (zipV (nI hs) (nI (hs.map upF))) (hrσ crowd g s m e4 e5 e6 e7 e8 acc e10 e11 e12 e13))
      (fun fl σ' => fl = .next ∧ ∃ e10 e11 e12 e13, σ' = hrσ crowd g s m e4 e5 e6 e7 e8 (hourD m g s crowd hs acc) e10 e11 e12 e13)
  | [], acc, e10, e11, e12, e13, _, _ => forV_nil (wx_nil ⟨rfl, e10, e11, e12, e13, rfl⟩)
  | h :: hs, acc, e10, e11, e12, e13, hk, ha => by
    simp only [List.length_cons] at ha
    have hk1 := hk h (.head _)
    have l1 := addN_len acc (upF h % m) (g * getN crowd h)
    have l2 := addN_len (addN acc (upF h % m) (g * getN crowd h)) (h - 1) (g * getN crowd h)
    have l3 := addN_len (addN (addN acc (upF h % m) (g * getN crowd h)) (h - 1) (g * getN crowd h)) h (s * getN crowd h)
    refine forV_cons (σ' := hrσ crowd g s m e4 e5 e6 e7 e8 acc (.fz (.int h)) (.fz (.int (upF h : Nat))) e12 e13) rfl ?_
    have hlist : (run gL (N + 29)).ev (hrσ crowd g s m e4 e5 e6 e7 e8 acc (.fz (.int h)) (.fz (.int (upF h : Nat))) e12 e13) (.list [(.tup [(.bin .fmod (.var 11) (.var 3)), (.var 1)]), (.tup [(.prim .max2 [(.bin .sub (.var 10) (.lit (.int 1))), (.lit (.int 0))]), (.var 1)]), (.tup [(.var 10), (.var 2)])]) = some (.list [prN (upF h % m, g), prN (h - 1, g), prN (h, s)]) := by
      have e1 : (run gL (N + 28)).ev (hrσ crowd g s m e4 e5 e6 e7 e8 acc (.fz (.int h)) (.fz (.int (upF h : Nat))) e12 e13) (.tup [(.bin .fmod (.var 11) (.var 3)), (.var 1)]) = some (prN (upF h % m, g)) :=
        tup2_ev (ev_bin rfl rfl (by rw [bin_fmod (by lia), nat_fmod])) rfl
      have e2 : (run gL (N + 28)).ev (hrσ crowd g s m e4 e5 e6 e7 e8 acc (.fz (.int h)) (.fz (.int (upF h : Nat))) e12 e13) (.tup [(.prim .max2 [(.bin .sub (.var 10) (.lit (.int 1))), (.lit (.int 0))]), (.var 1)]) = some (prN (h - 1, g)) :=
        tup2_ev (ev_prim (evL_two (ev_bin rfl rfl rfl) rfl) (max_0 h 1)) rfl
      have e3 : (run gL (N + 28)).ev (hrσ crowd g s m e4 e5 e6 e7 e8 acc (.fz (.int h)) (.fz (.int (upF h : Nat))) e12 e13) (.tup [(.var 10), (.var 2)]) = some (prN (h, s)) := tup2_ev rfl rfl
      rw [run_ev (n := N + 28)]
      simp only [evStep, evL_three e1 e2 e3]
    refine wx_for (evL_one hlist) rfl ?_
    refine forV_cons (σ' := hrσ crowd g s m e4 e5 e6 e7 e8 acc (.fz (.int h)) (.fz (.int (upF h : Nat))) (.fz (.int (upF h % m : Nat))) (.fz (.int g))) rfl (add_run (N := N + 19) hk1 (hB h) hg (by lia) ?_)
    refine forV_cons (σ' := hrσ crowd g s m e4 e5 e6 e7 e8 (addN acc (upF h % m) (g * getN crowd h)) (.fz (.int h)) (.fz (.int (upF h : Nat))) (.fz (.int (h - 1 : Nat))) (.fz (.int g))) rfl (add_run (N := N + 19) hk1 (hB h) hg (by lia) ?_)
    refine forV_cons (σ' := hrσ crowd g s m e4 e5 e6 e7 e8 (addN (addN acc (upF h % m) (g * getN crowd h)) (h - 1) (g * getN crowd h)) (.fz (.int h)) (.fz (.int (upF h : Nat))) (.fz (.int h)) (.fz (.int s))) rfl (add_run (N := N + 19) hk1 (hB h) hs' (by lia) ?_)
    refine forV_nil (wx_nil (wx_nil ?_))
    exact hour_loop hg hs' hm hB e4 e5 e6 e7 e8 hs _ _ _ _ _ (fun x hx => hk x (.tail _ hx)) (by lia)
end
end Mine
namespace Mine
open PySem PyProof.Rows
theorem strs_map : ∀ l : List (List Nat), strs? (l.map V.str) = some l
  | [] => rfl
  | x :: l => by
    show (strs? (l.map V.str)).map (x :: ·) = _
    rw [strs_map l]; rfl
theorem join_run {l : List (List Nat)} (h : (joinS [] l).length ≤ 1000) (h2 : l.length ≤ 6) (h3 : ∀ x ∈ l, x.length ≤ 1000) : methV .join (.str []) [.list (l.map V.str)] = some (.str (joinS [] l)) := by
  have hln : lineN = 1048576 := rfl
  have key : ∀ l : List (List Nat), (∀ x ∈ l, x.length ≤ 1000) → (l.map fun x => x.length + ([] : List Nat).length).sum ≤ l.length * 1000 := fun l => by
    induction l with
    | nil => exact fun _ => Nat.le_refl _
    | cons x l ih =>
      intro h
      have h1 := h x (.head _)
      have h4 := ih fun y hy => h y (.tail _ hy)
      rw [List.map_cons, List.sum_cons, List.length_cons, Nat.succ_mul]
      show x.length + 0 + _ ≤ _
      lia
  have hs := key l h3
  show (match strs? (l.map V.str) with | some ss => if (ss.map fun x : List Nat => x.length + ([] : List Nat).length).sum ≤ lineN then some (V.str (joinS [] ss)) else none | none => none) = _
  rw [strs_map]
  exact if_pos (by lia)
theorem sliceL_last {α : Type} (l : List α) (x : α) : sliceL (l ++ [x]) none (some (-1)) = l := by
  have e : bound (l ++ [x]).length (-1) = l.length := by
    unfold bound
    rw [if_pos (by decide), List.length_append]
    show ((-1 : Int) + ((l.length + 1 : Nat) : Int)).toNat = _
    lia
  unfold sliceL
  dsimp only
  rw [e, List.take_left]; rfl
theorem lineS_len {e : List Nat} (he : e ∈ endsL) {h : Nat} (hh : h ≤ 10) : (lineS e h).length ≤ 13 := by
  have h2 : ∀ x ∈ endsL, x.length ≤ 2 := by decide
  have := h2 e he
  have hr : (rep [46] h).length = h := rep_one h
  unfold lineS
  rw [List.length_append, List.length_append, hr]
  show h + 1 + _ ≤ _
  lia
theorem joinS_len1 {k : Nat} : ∀ l : List (List Nat), (∀ w ∈ l, w.length ≤ k) → (joinS [] l).length ≤ l.length * k
  | [], _ => Nat.zero_le _
  | x :: l, h => by
    rw [joinS_cons, List.length_append, List.length_cons, Nat.succ_mul]
    have := h x (.head _)
    have := joinS_len1 l fun w hw => h w (.tail _ hw)
    lia
section
variable {N : Nat}
theorem sort_dI {crowd : List (Nat × Nat)} {ks hs : List Nat} (h : keysN crowd = ks) (hz : ks.length ≤ 6) (hs' : sortI (castI ks) = castI hs) : primV .sorted [.dict (dI crowd)] = some (.list (nI hs)) := by
  have e : (dI crowd).map (·.1) = castI ks := by
    rw [← h]
    show (crowd.map _).map _ = (crowd.map _).map _
    rw [List.map_map, List.map_map]; rfl
  have hl : (dI crowd).length = ks.length := by rw [← h, keysN, List.length_map, dI, List.length_map]
  show (if (dI crowd).length < 64 then some (V.list ((sortI ((dI crowd).map (·.1))).map .int)) else none) = _
  rw [if_pos (by lia), e, hs']
  show some (V.list (List.map V.int (List.map _ hs))) = _
  rw [List.map_map]; rfl
set_option maxHeartbeats 600000 in
theorem hour_run {m t g s : Nat} (h2 : 2 ≤ m) (h6 : m ≤ 6) (ht : t < 3) (hg : g < 1000000) (hs : s < 1000000) {crowd : List (Nat × Nat)} (hk : keysN crowd = kF m t) (hB : ∀ h, bitsOf (getN crowd h : Int) ≤ 100000) {e : List Nat} (he : e ∈ endsL) {M : Nat} (hM : 100 ≤ M) :
    (run gL M).call 10 [.dict (dI crowd), .int g, .int s, .int m, .str e] = some (.tup [.dict (dI (hourD m g s crowd (hsL m t) [])), .bool true]) := by
  obtain ⟨N, rfl⟩ : ∃ N, M = N + 100 := ⟨M - 100, (Nat.sub_add_cancel hM).symm⟩
  have K := hour_facts h2 h6 ht
  have hln : lineN = 1048576 := rfl
  have hkl : (kF m t).length ≤ 6 := by rw [← K.perm.length_eq]; exact K.len6
  have hmem : ∀ h ∈ hsL m t, h ∈ keysN crowd := fun h hh => by rw [hk]; exact K.perm.mem_iff.1 hh
  have q1 := K.quote e he
  have q2 := K.split
  have q3 := K.index
  have q4 := K.ch
  have q5 := K.len
  have q6 := K.len6
  have hsort := sort_dI hk hkl K.sort
  generalize hsL m t = H at q1 q2 q3 q4 q5 q6 hsort hmem ⊢
  have l1 : ∀ x ∈ H.map (lineS e), x.length ≤ 13 := fun x hx => by
    obtain ⟨h, hh, rfl⟩ := List.mem_map.1 hx
    exact lineS_len he (q3 h hh).2
  have hup : ∀ h ∈ H, upF h ≤ 11 := fun h hh => by
    have := (q3 h hh).2
    unfold upF
    cases Nat.beq h 0 with
    | true => exact Nat.zero_le _
    | false => exact Nat.succ_le_succ this
  refine call_of (σ := [.fz (.dict (dI crowd)), .fz (.int g), .fz (.int s), .fz (.int m), .fz (.str e), .un, .un, .un, .un, .un, .un, .un, .un, .un, .un, .un, .un]) rfl rfl ?_
  refine wx_assign (v := .list (nI H)) (σ' := [.fz (.dict (dI crowd)), .fz (.int g), .fz (.int s), .fz (.int m), .fz (.str e), .fz (.list (nI H)), .un, .un, .un, .un, .un, .un, .un, .un, .un, .un, .un]) (ev_prim (evL_one rfl) hsort) rfl ?_
  have c1 : compV (run gL (N + 95)).ev [.fz (.dict (dI crowd)), .fz (.int g), .fz (.int s), .fz (.int m), .fz (.str e), .fz (.list (nI H)), .un, .un, .un, .un, .un, .un, .un, .un, .un, .un, .un] (.bin .add (.bin .add (.bin .mul (.lit (.str [46])) (.var 14)) (.lit (.str [97]))) (.var 4)) (.one 14) [] (nI H) = some ((H.map (lineS e)).map V.str) := by
    rw [List.map_map]
    refine compV_map (fun d : Nat => V.int (d : Int)) (V.str ∘ lineS e) H fun h hh => ⟨_, rfl, ?_⟩
    have hh10 := (q3 h hh).2
    have := lineS_len he hh10
    refine ev_bin (x := .str (rep [46] h ++ [97])) (ev_bin (ev_bin rfl rfl (mul_str (k := h) (by simp only [List.length_singleton]; lia) (by lia))) rfl (bin_addS ?_)) rfl (bin_addS ?_)
    · have hr : (rep [46] h).length = h := rep_one h
      rw [hr]; show h + 1 ≤ _; lia
    · have h3 : (rep [46] h ++ [97]).length + e.length = (lineS e h).length := (List.length_append ..).symm
      lia
  have j1 : methV .join (.str []) [.list ((H.map (lineS e)).map V.str)] = some (.str (textS H e)) := join_run (Nat.le_trans (joinS_len1 _ l1) (by rw [List.length_map]; lia)) (by rw [List.length_map]; exact q6) fun x hx => Nat.le_trans (l1 x hx) (by decide)
  refine wx_assign (v := .str (sentS H)) (σ' := [.fz (.dict (dI crowd)), .fz (.int g), .fz (.int s), .fz (.int m), .fz (.str e), .fz (.list (nI H)), .fz (.str (sentS H)), .un, .un, .un, .un, .un, .un, .un, .un, .un, .un]) (ev_call (evL_one (ev_meth (x := .str []) rfl (evL_one (ev_comp (evL_one rfl) rfl c1)) j1)) ((call_ext rfl (by lia)).trans q1)) rfl ?_
  have hsp : methV .split (.str (sentS H)) [.str [13, 10]] = some (.list (H.map (fun h => V.str (rowS (upF h))) ++ [V.str []])) := by
    rw [split_run (by decide) (by decide) (by lia) (by rw [q2, List.length_append, List.length_map]; show _ + 1 < _; lia) (fun p hp => ?_), q2, List.map_append, List.map_map]
    · rfl
    · rw [q2] at hp
      rcases List.mem_append.1 hp with hp | hp
      · obtain ⟨h, hh, rfl⟩ := List.mem_map.1 hp
        have := hup h hh
        have hr : (rep [46] (upF h)).length = upF h := rep_one _
        unfold rowS
        rw [List.length_append, hr]
        show _ + 1 ≤ _
        lia
      · rw [List.mem_singleton.1 hp]; exact Nat.zero_le _
  have hsl : (run gL (N + 97)).ev [.fz (.dict (dI crowd)), .fz (.int g), .fz (.int s), .fz (.int m), .fz (.str e), .fz (.list (nI H)), .fz (.str (sentS H)), .un, .un, .un, .un, .un, .un, .un, .un, .un, .un] (.slice (.meth .split (.var 6) [.lit (.str [13, 10])]) none (some (.un .neg (.lit (.int 1))))) = some (.list (H.map fun h => V.str (rowS (upF h)))) := by
    have e1 : (run gL (N + 96)).ev [.fz (.dict (dI crowd)), .fz (.int g), .fz (.int s), .fz (.int m), .fz (.str e), .fz (.list (nI H)), .fz (.str (sentS H)), .un, .un, .un, .un, .un, .un, .un, .un, .un, .un] (.meth .split (.var 6) [.lit (.str [13, 10])]) = some (.list (H.map (fun h => V.str (rowS (upF h))) ++ [V.str []])) := ev_meth rfl (evL_one rfl) hsp
    have e2 : (run gL (N + 96)).ev [.fz (.dict (dI crowd)), .fz (.int g), .fz (.int s), .fz (.int m), .fz (.str e), .fz (.list (nI H)), .fz (.str (sentS H)), .un, .un, .un, .un, .un, .un, .un, .un, .un, .un] (.un .neg (.lit (.int 1))) = some (.int (-1)) := rfl
    rw [run_ev (n := N + 96)]
    simp only [evStep, refV, optV, e1, e2]
    rw [sliceL_last]
  have c2 : compV (run gL (N + 97)).ev [.fz (.dict (dI crowd)), .fz (.int g), .fz (.int s), .fz (.int m), .fz (.str e), .fz (.list (nI H)), .fz (.str (sentS H)), .un, .un, .un, .un, .un, .un, .un, .un, .un, .un] (.meth .index (.var 15) [.lit (.str [97])]) (.one 15) [] (H.map fun h => V.str (rowS (upF h))) = some (H.map fun h => V.int (upF h : Nat)) :=
    compV_map (fun h => V.str (rowS (upF h))) (fun h => V.int (upF h : Nat)) H fun h hh => ⟨_, rfl, ev_meth rfl (evL_one rfl) (q3 h hh).1⟩
  have hn : (H.map fun h => V.int (upF h : Nat)) = nI (H.map upF) := by rw [nI, List.map_map]; rfl
  rw [hn] at c2
  refine wx_assign (v := .list (nI (H.map upF))) (σ' := [.fz (.dict (dI crowd)), .fz (.int g), .fz (.int s), .fz (.int m), .fz (.str e), .fz (.list (nI H)), .fz (.str (sentS H)), .fz (.list (nI (H.map upF))), .un, .un, .un, .un, .un, .un, .un, .un, .un]) (ev_comp (evL_one hsl) rfl c2) rfl ?_
  refine wx_assign (v := .bool true) (σ' := [.fz (.dict (dI crowd)), .fz (.int g), .fz (.int s), .fz (.int m), .fz (.str e), .fz (.list (nI H)), .fz (.str (sentS H)), .fz (.list (nI (H.map upF))), .fz (.bool true), .un, .un, .un, .un, .un, .un, .un, .un]) (ev_cmp (x := .int H.length) (ev_prim (evL_one rfl) ?_) ?_) rfl ?_
  · show some (V.int ((nI (H.map upF)).length : Nat)) = _
    rw [List.length_map, List.length_map]
  · rw [cmp_eqI (y := (H.length : Int)) (ev_prim (evL_one rfl) ?_), beq_self_eq_true]
    show some (V.int ((nI H).length : Nat)) = _
    rw [List.length_map]
  have c3 : compV (run gL (N + 94)).ev [.fz (.dict (dI crowd)), .fz (.int g), .fz (.int s), .fz (.int m), .fz (.str e), .fz (.list (nI H)), .fz (.str (sentS H)), .fz (.list (nI (H.map upF))), .fz (.bool true), .un, .un, .un, .un, .un, .un, .un, .un] (.bin .add (.bin .mul (.lit (.str [46])) (.var 16)) (.lit (.str [97, 13, 10]))) (.one 16) [] (nI (H.map upF)) = some (((H.map upF).map fun u => rep [46] u ++ [97, 13, 10]).map V.str) := by
    rw [List.map_map (l := H.map upF)]
    refine compV_map (fun d : Nat => V.int (d : Int)) (V.str ∘ fun u => rep [46] u ++ [97, 13, 10]) (H.map upF) fun u hu => ⟨_, rfl, ?_⟩
    obtain ⟨h, hh, rfl⟩ := List.mem_map.1 hu
    have := hup h hh
    refine ev_bin (ev_bin rfl rfl (mul_str (k := upF h) (by simp only [List.length_singleton]; lia) (by lia))) rfl (bin_addS ?_)
    have hr : (rep [46] (upF h)).length = upF h := rep_one _
    rw [hr]; show _ + 3 ≤ _; lia
  have j2 : methV .join (.str []) [.list (((H.map upF).map fun u => rep [46] u ++ [97, 13, 10]).map V.str)] = some (.str (sentS H)) := by
    refine join_run (Nat.le_trans q5 (by decide)) (by rw [List.length_map, List.length_map]; exact q6) fun x hx => ?_
    obtain ⟨u, hu, rfl⟩ := List.mem_map.1 hx
    obtain ⟨h, hh, rfl⟩ := List.mem_map.1 hu
    have := hup h hh
    have hr : (rep [46] (upF h)).length = upF h := rep_one _
    show (rep [46] (upF h) ++ [97, 13, 10]).length ≤ _
    rw [List.length_append, hr]; show _ + 3 ≤ _; lia
  refine wx_assign (v := .bool true) (σ' := [.fz (.dict (dI crowd)), .fz (.int g), .fz (.int s), .fz (.int m), .fz (.str e), .fz (.list (nI H)), .fz (.str (sentS H)), .fz (.list (nI (H.map upF))), .fz (.bool true), .un, .un, .un, .un, .un, .un, .un, .un]) (ev_and2 (x := true) (y := true) rfl fun _ => ev_cmp (x := .str (sentS H)) (t := true) rfl ?_) rfl ?_
  · unfold cmp1V
    rw [if_neg (by decide), ev_meth (x := .str []) rfl (evL_one (ev_comp (evL_one rfl) rfl c3)) j2]
    show V.eqs (.str (sentS H)) (.str (sentS H)) = _
    rw [eqs_str q4 q4, beq_self_eq_true]
  refine wx_fresh (v := .dict []) rfl ?_
  refine wx_for (vs := [.list (nI H), .list (nI (H.map upF))]) (evL_two rfl rfl) rfl ?_
  refine (hour_loop (N := N + 68) hg hs (by lia) hB _ _ _ _ _ H [] .un .un .un .un hmem (by simp only [List.length_nil]; lia)).mono ?_
  rintro fl σ' ⟨rfl, e10, e11, e12, e13, rfl⟩
  refine wx_freeze (v := .dict (dI (hourD m g s crowd H []))) rfl ?_
  exact wx_ret rfl rfl
end
end Mine
namespace Mine
open PySem PyProof.Rows
/-! ### what an hour does to a weighted crowd -/
noncomputable def sI (f : Nat → Int) : List Nat → Int
  | [] => 0
  | x :: l => f x + sI f l
theorem sI_perm {f : Nat → Int} {l r : List Nat} (h : l.Perm r) : sI f l = sI f r := by
  induction h with
  | nil => rfl
  | cons x _ ih => exact congrArg (f x + ·) ih
  | swap x y l =>
    show f y + (f x + sI f l) = f x + (f y + sI f l)
    lia
  | trans _ _ h1 h2 => exact h1.trans h2
theorem sI_congr {f g : Nat → Int} : ∀ {l : List Nat}, (∀ x ∈ l, f x = g x) → sI f l = sI g l
  | [], _ => rfl
  | x :: l, h => by
    show f x + sI f l = g x + sI g l
    rw [h x (.head _), sI_congr fun y hy => h y (.tail _ hy)]
theorem wt_keys {X : Nat → Int} : ∀ {l : List (Nat × Nat)}, (keysN l).Nodup → sI (fun k => getN l k * X k) (keysN l) = wt X l
  | [], _ => rfl
  | p :: l, h => by
    obtain ⟨h1, h2⟩ := List.nodup_cons.1 h
    show ((if p.1 = p.1 then p.2 else getN l p.1 : Nat) : Int) * X p.1 + sI (fun k => getN (p :: l) k * X k) (keysN l) = p.2 * X p.1 + wt X l
    rw [if_pos rfl, ← wt_keys h2]
    refine congrArg ((p.2 : Int) * X p.1 + ·) (sI_congr fun k hk => ?_)
    show ((if p.1 = k then p.2 else getN l k : Nat) : Int) * X k = _
    rw [if_neg (show ¬ p.1 = k from fun q => h1 (by show p.1 ∈ keysN l; rw [q]; exact hk))]
noncomputable def stepW (m g s : Nat) (W : Nat → Int) (h : Nat) : Int := g * (W (upF h % m) + W (h - 1)) + s * W h
theorem wt_hour (m g s : Nat) (crowd : List (Nat × Nat)) (W : Nat → Int) : ∀ (hs : List Nat) (acc : List (Nat × Nat)), wt W (hourD m g s crowd hs acc) = wt W acc + sI (fun h => getN crowd h * stepW m g s W h) hs
  | [], acc => (Int.add_zero _).symm
  | h :: hs, acc => by
    refine (wt_hour m g s crowd W hs _).trans ?_
    rw [wt_add, wt_add, wt_add]
    show _ = wt W acc + (getN crowd h * (g * (W (upF h % m) + W (h - 1)) + s * W h) + sI _ hs)
    rw [Int.natCast_mul, Int.natCast_mul]
    generalize sI (fun h => (getN crowd h : Int) * stepW m g s W h) hs = S
    generalize W (upF h % m) = a
    generalize W (h - 1) = b
    generalize W h = c
    grind
theorem wt_next {m t g s : Nat} (h2 : 2 ≤ m) (h6 : m ≤ 6) (ht : t < 3) {crowd : List (Nat × Nat)} (hk : keysN crowd = kF m t) (W : Nat → Int) : wt W (hourD m g s crowd (hsL m t) []) = wt (stepW m g s W) crowd := by
  have K := hour_facts h2 h6 ht
  rw [wt_hour, sI_perm K.perm, ← hk, wt_keys (by rw [hk]; exact K.nodup)]
  exact Int.zero_add _
noncomputable def oneW : Nat → Int := fun _ => 1
theorem wt_step_one (m g s : Nat) : ∀ l, wt (stepW m g s oneW) l = (2 * g + s : Nat) * wt oneW l
  | [] => (Int.mul_zero _).symm
  | p :: l => by
    show p.2 * ((g : Int) * (1 + 1) + s * 1) + wt (stepW m g s oneW) l = (2 * g + s : Nat) * (p.2 * 1 + wt oneW l)
    rw [wt_step_one m g s l, Int.natCast_add, Int.natCast_mul]
    grind
theorem wt_nonneg : ∀ l, 0 ≤ wt oneW l
  | [] => Int.le_refl _
  | p :: l => by
    have := wt_nonneg l
    show 0 ≤ (p.2 : Int) * 1 + wt oneW l
    lia
theorem get_le (k : Nat) : ∀ l, (getN l k : Int) ≤ wt oneW l
  | [] => Int.le_refl _
  | p :: l => by
    have h1 := get_le k l
    have h2 := wt_nonneg l
    show ((if p.1 = k then p.2 else getN l k : Nat) : Int) ≤ (p.2 : Int) * 1 + wt oneW l
    split <;> lia
/-! ### the walk -/
noncomputable def nxtT (t : Nat) : Nat := bif Nat.beq t 0 then 1 else 2
noncomputable def walkD (m : Nat) : Nat → List (Nat × Nat) → List (Nat × Nat) → List (Nat × Nat)
  | _, crowd, [] => crowd
  | t, crowd, p :: hs => walkD m (nxtT t) (hourD m p.1 p.2 crowd (hsL m t) []) hs
theorem next_keys {m t g s : Nat} (ht : t < 3) {crowd : List (Nat × Nat)} : keysN (hourD m g s crowd (hsL m t) []) = kF m (nxtT t) := by
  rw [hourD_keys]
  match t, ht with
  | 0, _ => rfl
  | 1, _ => rfl
  | 2, _ => rfl
theorem nxtT_lt (t : Nat) : nxtT t < 3 := by
  unfold nxtT
  cases Nat.beq t 0 <;> decide
section
variable {N : Nat}
noncomputable def walkB : List MS := [(.assign (.many [0, 7]) (.call 10 [(.var 0), (.var 5), (.var 6), (.var 2), (.var 3)])), (.assign (.one 4) (.bop true [(.var 4), (.var 7)]))]
theorem bits_wt {crowd : List (Nat × Nat)} {T : Nat} (h : wt oneW crowd ≤ T) (hT : T ≤ 2 ^ 60) (k : Nat) : bitsOf (getN crowd k : Int) ≤ 100000 := by
  have := get_le k crowd
  exact Nat.le_trans (bits_le (m := 61) (Nat.lt_of_le_of_lt (show getN crowd k ≤ 2 ^ 60 by lia) (by decide))) (by decide)
theorem walk_loop {m : Nat} (h2 : 2 ≤ m) (h6 : m ≤ 6) {e : List Nat} (he : e ∈ endsL) (v1 : V) : ∀ (hs : List (Nat × Nat)) (t T : Nat) (crowd : List (Nat × Nat)) (e5 e6 e7 : Ent), t < 3 → (∀ p ∈ hs, p.1 ≤ 7 ∧ p.2 ≤ 7) → keysN crowd = kF m t → wt oneW crowd ≤ T → T * 21 ^ hs.length ≤ 2 ^ 60 →
    Wx (forV (run gL (N + 120)).ex (.many [5, 6]) walkB [] (hs.map prN) [.fz (.dict (dI crowd)), .fz v1, .fz (.int m), .fz (.str e), .fz (.bool true), e5, e6, e7])
      (fun fl σ' => fl = .next ∧ ∃ e5 e6 e7, σ' = [.fz (.dict (dI (walkD m t crowd hs))), .fz v1, .fz (.int m), .fz (.str e), .fz (.bool true), e5, e6, e7])
  | [], t, T, crowd, e5, e6, e7, _, _, _, _, _ => forV_nil (wx_nil ⟨rfl, e5, e6, e7, rfl⟩)
  | p :: hs, t, T, crowd, e5, e6, e7, ht, hp, hk, hw, hT => by
    obtain ⟨p1, p2⟩ := hp p (.head _)
    have hT0 : T ≤ 2 ^ 60 := Nat.le_trans (Nat.le_mul_of_pos_right _ (Nat.pow_pos (by decide))) hT
    refine forV_cons (σ' := [.fz (.dict (dI crowd)), .fz v1, .fz (.int m), .fz (.str e), .fz (.bool true), .fz (.int p.1), .fz (.int p.2), e7]) rfl ?_
    refine wx_assign (v := .tup [.dict (dI (hourD m p.1 p.2 crowd (hsL m t) [])), .bool true]) (σ' := [.fz (.dict (dI (hourD m p.1 p.2 crowd (hsL m t) []))), .fz v1, .fz (.int m), .fz (.str e), .fz (.bool true), .fz (.int p.1), .fz (.int p.2), .fz (.bool true)]) (ev_call (evL_cons rfl (evL_cons rfl (evL_three rfl rfl rfl))) (hour_run h2 h6 ht (by lia) (by lia) hk (bits_wt hw hT0) he (by lia))) rfl ?_
    refine wx_assign (v := .bool true) (σ' := [.fz (.dict (dI (hourD m p.1 p.2 crowd (hsL m t) []))), .fz v1, .fz (.int m), .fz (.str e), .fz (.bool true), .fz (.int p.1), .fz (.int p.2), .fz (.bool true)]) (ev_and2 (x := true) (y := true) rfl fun _ => rfl) rfl (wx_nil ?_)
    refine walk_loop h2 h6 he v1 hs (nxtT t) (T * 21) (hourD m p.1 p.2 crowd (hsL m t) []) _ _ _ (nxtT_lt t) (fun q hq => hp q (.tail _ hq)) (next_keys ht) ?_ ?_
    · rw [wt_next h2 h6 ht hk, wt_step_one]
      have h1 := wt_nonneg crowd
      have h3 : ((2 * p.1 + p.2 : Nat) : Int) ≤ 21 := by lia
      have h4 := Int.mul_le_mul_of_nonneg_right h3 h1
      rw [Int.natCast_mul]
      show _ ≤ (T : Int) * 21
      lia
    · rw [Nat.mul_assoc, ← Nat.pow_succ']; exact hT
theorem walked_run {m : Nat} (h2 : 2 ≤ m) (h6 : m ≤ 6) {e : List Nat} (he : e ∈ endsL) {hs : List (Nat × Nat)} {T : Nat} {crowd : List (Nat × Nat)} (hp : ∀ p ∈ hs, p.1 ≤ 7 ∧ p.2 ≤ 7) (hk : keysN crowd = kF m 0) (hw : wt oneW crowd ≤ T) (hT : T * 21 ^ hs.length ≤ 2 ^ 60) {M : Nat} (hM : 200 ≤ M) :
    (run gL M).call 11 [.dict (dI crowd), .list (hs.map prN), .int m, .str e] = some (.tup [.dict (dI (walkD m 0 crowd hs)), .bool true]) := by
  obtain ⟨N, rfl⟩ : ∃ N, M = N + 200 := ⟨M - 200, (Nat.sub_add_cancel hM).symm⟩
  refine call_of (σ := [.fz (.dict (dI crowd)), .fz (.list (hs.map prN)), .fz (.int m), .fz (.str e), .un, .un, .un, .un]) rfl rfl ?_
  refine wx_assign (v := .bool true) (σ' := [.fz (.dict (dI crowd)), .fz (.list (hs.map prN)), .fz (.int m), .fz (.str e), .fz (.bool true), .un, .un, .un]) rfl rfl ?_
  refine wx_for (evL_one rfl) rfl ?_
  refine (walk_loop (N := N + 78) h2 h6 he (.list (hs.map prN)) hs 0 T crowd .un .un .un (by decide) hp hk hw hT).mono ?_
  rintro fl σ' ⟨rfl, e5, e6, e7, rfl⟩
  exact wx_ret rfl rfl
end
end Mine
namespace Mine
open PySem PyProof.Rows
/-! ### the tale in one number -/
noncomputable def eW (B : Int) (m h : Nat) : Int := B ^ h - B ^ (2 * m - h)
noncomputable def cW (B : Int) (m : Nat) (p : Nat × Nat) : Int := p.1 * (B + B ^ (2 * m - 1)) + p.2
noncomputable def prodW (B : Int) (m : Nat) : Int → List (Nat × Nat) → Int
  | n, [] => n
  | n, p :: hs => prodW B m (n * cW B m p) hs
noncomputable def fullW (B : Int) (m : Nat) : Int := B ^ (2 * m) - 1
noncomputable def numW (B : Int) (m : Nat) (people hours : List (Nat × Nat)) : Int := prodW B m (sI (fun h => getN people h * eW B m h) (hsL m 0)) hours + B.fdiv 2 * (fullW B m).fdiv (B - 1)
section
variable {N : Nat}
theorem bits_pow {B : Int} (hB : bitsOf B ≤ 78) {k : Nat} (hk : k ≤ 12) : bitsOf (B ^ k) ≤ 937 := Nat.le_trans (intBits_pow_le hB k) (Nat.succ_le_succ (Nat.mul_le_mul_left 78 hk))
theorem bits_eW {B : Int} (hB : bitsOf B ≤ 78) {m h : Nat} (hm : m ≤ 6) (hh : h ≤ 12) : bitsOf (eW B m h) ≤ 938 := intBits_sub_le (bits_pow hB hh) (bits_pow hB (by lia))
theorem bits_cW {B : Int} (hB : bitsOf B ≤ 78) {m : Nat} (hm : m ≤ 6) {p : Nat × Nat} (hp : p.1 ≤ 7 ∧ p.2 ≤ 7) : bitsOf (cW B m p) ≤ 942 :=
  intBits_add_le (m := 941) (n := 941) (intBits_mul_le (m := 3) (n := 938) (bits_le (x := p.1) (by show _ < 8; lia)) (intBits_add_le (m := 937) (n := 937) (Nat.le_trans hB (by decide)) (bits_pow hB (by lia)))) (Nat.le_trans (bits_le (m := 3) (x := p.2) (by show _ < 8; lia)) (by decide))
theorem powB_ev {B : Int} (hB : bitsOf B ≤ 78) {k : Nat} (hk : k ≤ 12) : binV .pow (.int B) (.int (k : Int)) = some (.int (B ^ k)) := by
  have hln : lineN = 1048576 := rfl
  have h1 : bitsOf B * k ≤ 78 * 12 := Nat.mul_le_mul hB hk
  refine bin_pow (x := B) (y := (k : Int)) (Int.natCast_nonneg k) ?_
  rw [← Int.natCast_mul]
  lia
theorem sub_cast {m h : Nat} (hh : h ≤ 2 * m) : 2 * (m : Int) - (h : Int) = ((2 * m - h : Nat) : Int) := by lia
theorem mul2_ev {m : Nat} (hm : m ≤ 6) : binV .mul (.int 2) (.int (m : Int)) = some (.int (2 * (m : Int))) := by
  have hln : lineN = 1048576 := rfl
  have h1 := bits_self m
  have h2 : bitsOf 2 = 2 := by decide
  exact bin_mul (by lia)
noncomputable def told1 : List MS := [(.aug 7 .add (.bin .mul (.sub (.var 0) (.var 8)) (.bin .sub (.bin .pow (.var 5) (.var 8)) (.bin .pow (.var 5) (.bin .sub (.bin .mul (.lit (.int 2)) (.var 2)) (.var 8))))))]
theorem told_loop1 {B : Int} (hB : bitsOf B ≤ 78) {m : Nat} (hm : m ≤ 6) {people : List (Nat × Nat)} (hd : ∀ k, getN people k ≤ 9) (e1 e3 e4 e6 : Ent) : ∀ (hs : List Nat) (n : Int) (b : Nat) (e8 : Ent), (∀ h ∈ hs, h ∈ keysN people ∧ h ≤ m) → bitsOf n ≤ b → 942 ≤ b →
    Wx (forV (run gL (N + 20)).ex (.one 8) told1 [] (nI hs) [.fz (.dict (dI people)), e1, .fz (.int m), e3, e4, .fz (.int B), e6, .fz (.int n), e8, .un, .un, .un, .un])
      (fun fl σ' => fl = .next ∧ bitsOf (n + sI (fun h => getN people h * eW B m h) hs) ≤ b + hs.length ∧ ∃ e8, σ' = [.fz (.dict (dI people)), e1, .fz (.int m), e3, e4, .fz (.int B), e6, .fz (.int (n + sI (fun h => getN people h * eW B m h) hs)), e8, .un, .un, .un, .un])
  | [], n, b, e8, _, hn, _ => forV_nil (wx_nil ⟨rfl, by rw [show sI _ [] = 0 from rfl, Int.add_zero]; exact hn, e8, by rw [show sI _ [] = 0 from rfl, Int.add_zero]⟩)
  | h :: hs, n, b, e8, hk, hn, hb => by
    have hln : lineN = 1048576 := rfl
    obtain ⟨k1, k2⟩ := hk h (.head _)
    have b1 : bitsOf (getN people h : Int) ≤ 4 := bits_le (by have := hd h; show _ < 16; lia)
    have b2 := bits_eW hB hm (show h ≤ 12 by lia)
    have b3 : bitsOf ((getN people h : Int) * eW B m h) ≤ 942 := intBits_mul_le b1 b2
    refine forV_cons (σ' := [.fz (.dict (dI people)), e1, .fz (.int m), e3, e4, .fz (.int B), e6, .fz (.int n), .fz (.int h), .un, .un, .un, .un]) rfl ?_
    have m2 : binV .mul (.int 2) (.int (m : Int)) = some (.int (2 * (m : Int))) := mul2_ev hm
    refine wx_aug (y := (getN people h : Int) * eW B m h) rfl (ev_bin (ev_sub (x := .dict (dI people)) (y := .int h) rfl rfl ((dlook_dI h people).1 k1)) (y := .int (eW B m h)) (ev_bin (ev_bin rfl rfl (powB_ev (k := h) hB (by lia))) (ev_bin (y := .int ((2 * m - h : Nat) : Int)) rfl (ev_bin (x := .int (2 * (m : Int))) (ev_bin (x := .int 2) rfl rfl m2) rfl ?_) (powB_ev (k := 2 * m - h) hB (by lia))) rfl) (bin_mul (by lia))) rfl (wx_nil ?_)
    · show some (V.int (2 * (m : Int) - h)) = _
      rw [sub_cast (by lia)]
    · refine (told_loop1 hB hm hd e1 e3 e4 e6 hs (n + getN people h * eW B m h) (b + 1) (.fz (.int h)) (fun x hx => hk x (.tail _ hx)) (Nat.le_trans (intBits_add_le hn b3) (by lia)) (by lia)).mono ?_
      rintro fl σ' ⟨q1, q2, e8, q3⟩
      have e : n + getN people h * eW B m h + sI (fun h => getN people h * eW B m h) hs = n + sI (fun h => getN people h * eW B m h) (h :: hs) := Int.add_assoc ..
      rw [e] at q2 q3
      exact ⟨q1, by rw [List.length_cons]; lia, e8, q3⟩
noncomputable def told2 : List MS := [(.aug 7 .mul (.bin .add (.bin .mul (.var 9) (.bin .add (.var 5) (.bin .pow (.var 5) (.bin .sub (.bin .mul (.lit (.int 2)) (.var 2)) (.lit (.int 1)))))) (.var 10)))]
theorem told_loop2 {B : Int} (hB : bitsOf B ≤ 78) {m : Nat} (h1 : 1 ≤ m) (hm : m ≤ 6) (e0 e1 e3 e4 e6 e8 : Ent) : ∀ (hs : List (Nat × Nat)) (n : Int) (b : Nat) (e9 e10 : Ent), (∀ p ∈ hs, p.1 ≤ 7 ∧ p.2 ≤ 7) → bitsOf n ≤ b → b + 942 * hs.length ≤ 100000 →
    Wx (forV (run gL (N + 20)).ex (.many [9, 10]) told2 [] (hs.map prN) [e0, e1, .fz (.int m), e3, e4, .fz (.int B), e6, .fz (.int n), e8, e9, e10, .un, .un])
      (fun fl σ' => fl = .next ∧ bitsOf (prodW B m n hs) ≤ b + 942 * hs.length ∧ ∃ e9 e10, σ' = [e0, e1, .fz (.int m), e3, e4, .fz (.int B), e6, .fz (.int (prodW B m n hs)), e8, e9, e10, .un, .un])
  | [], n, b, e9, e10, _, hn, _ => forV_nil (wx_nil ⟨rfl, hn, e9, e10, rfl⟩)
  | p :: hs, n, b, e9, e10, hp, hn, hb => by
    have hln : lineN = 1048576 := rfl
    rw [List.length_cons, Nat.mul_succ] at hb
    have p12 := hp p (.head _)
    have b1 := bits_cW hB hm p12
    have b2 : bitsOf (B + B ^ (2 * m - 1)) ≤ 938 := intBits_add_le (m := 937) (n := 937) (Nat.le_trans hB (by decide)) (bits_pow hB (by lia))
    have b3 := bits_self p.1
    refine forV_cons (σ' := [e0, e1, .fz (.int m), e3, e4, .fz (.int B), e6, .fz (.int n), e8, .fz (.int p.1), .fz (.int p.2), .un, .un]) rfl ?_
    have m2 : binV .mul (.int 2) (.int (m : Int)) = some (.int (2 * (m : Int))) := mul2_ev hm
    refine wx_aug (y := cW B m p) rfl (ev_bin (x := .int (p.1 * (B + B ^ (2 * m - 1)))) (ev_bin rfl (y := .int (B + B ^ (2 * m - 1))) (ev_bin rfl (ev_bin (y := .int ((2 * m - 1 : Nat) : Int)) rfl (ev_bin (x := .int (2 * (m : Int))) (ev_bin (x := .int 2) rfl rfl m2) rfl ?_) (powB_ev (k := 2 * m - 1) hB (by lia))) rfl) (bin_mul (by lia))) rfl rfl) (bin_mul (by lia)) (wx_nil ?_)
    · show some (V.int (2 * (m : Int) - ((1 : Nat) : Int))) = _
      rw [sub_cast (by lia)]
    · refine (told_loop2 hB h1 hm e0 e1 e3 e4 e6 e8 hs (n * cW B m p) (b + 942) _ _ (fun q hq => hp q (.tail _ hq)) (intBits_mul_le hn b1) (by lia)).mono ?_
      rintro fl σ' ⟨q1, q2, q3⟩
      exact ⟨q1, by rw [List.length_cons, Nat.mul_succ, Nat.add_comm (942 * hs.length), ← Nat.add_assoc]; exact q2, q3⟩
end
end Mine
namespace Mine
open PySem PyProof.Rows
section
variable {N : Nat}
theorem divmod_side {side a b : Int} (hs : side = 1 ∨ side = -1) (hb : 0 < b) (h1 : bitsOf b ≤ 4000) (h2 : bitsOf a ≤ 200000) {m : Nat} (hm : 100 ≤ m) : ∃ q, (run gL m).call 6 [.int (side * a), .int (side * b)] = some (.tup [.int q, .int (side * a.fmod b)]) := by
  rcases hs with rfl | rfl
  · rw [Int.one_mul, Int.one_mul, Int.one_mul]
    exact ⟨_, int_divmod_pos ⟨rfl, rfl, rfl, rfl, rfl, rfl, rfl, rfl⟩ hb h1 h2 (by lia)⟩
  · have e : ∀ x : Int, -1 * x = -x := fun x => by lia
    rw [e, e, e]
    refine ⟨a.fdiv b, ?_⟩
    rw [int_divmod_neg ⟨rfl, rfl, rfl, rfl, rfl, rfl, rfl, rfl⟩ (by lia) (intBits_neg_le h1) (intBits_neg_le h2) hm, Int.neg_neg, Int.neg_neg]
theorem bits_side {side a : Int} (hs : side = 1 ∨ side = -1) {b : Nat} (h : bitsOf a ≤ b) (hb : b ≤ 500000) : binV .mul (.int side) (.int a) = some (.int (side * a)) := by
  have hln : lineN = 1048576 := rfl
  have h1 : bitsOf side ≤ 1 := by rcases hs with rfl | rfl <;> decide
  exact bin_mul (by lia)
theorem told_run {m w : Nat} (h2 : 2 ≤ m) (h6 : m ≤ 6) (w1 : 1 ≤ w) (w77 : w ≤ 77) {side : Int} (hs : side = 1 ∨ side = -1) {people hours : List (Nat × Nat)} (hk : keysN people = kF m 0) (hd : ∀ k, getN people k ≤ 9) (hp : ∀ p ∈ hours, p.1 ≤ 7 ∧ p.2 ≤ 7) (hl : hours.length ≤ 9)
    {v : Nat} {D : List Nat} (hv : (numW ((2 ^ w : Nat) : Int) m people hours).fmod (fullW ((2 ^ w : Nat) : Int) m) = (v : Int)) (hvb : v < 2 ^ (2 * m * w)) (hD : i2V [.int v, .int w] = some (.list (nI D))) {M : Nat} (hM : 200 ≤ M) :
    (run gL M).call 12 [.dict (dI people), .list (hours.map prN), .int m, .int w, .int side] = some (.list (D.map fun d : Nat => V.int ((d : Int) - ((2 ^ w : Nat) : Int).fdiv 2))) := by
  obtain ⟨N, rfl⟩ : ∃ N, M = N + 200 := ⟨M - 200, (Nat.sub_add_cancel hM).symm⟩
  have hln : lineN = 1048576 := rfl
  have K := hour_facts h2 h6 (show 0 < 3 by decide)
  have hmw : 2 * m * w ≤ 12 * 77 := Nat.mul_le_mul (by lia) w77
  have hB : bitsOf ((2 ^ w : Nat) : Int) ≤ 78 := Nat.le_trans (bits_le (m := w + 1) (Nat.pow_lt_pow_right (by decide) (Nat.lt_succ_self _))) (by lia)
  have hF : fullW ((2 ^ w : Nat) : Int) m = ((2 ^ (2 * m * w) : Nat) : Int) - 1 := by
    unfold fullW
    rw [← Int.natCast_pow, ← Nat.pow_mul, Nat.mul_comm w]
  have hFb : bitsOf (fullW ((2 ^ w : Nat) : Int) m) ≤ 2000 := by
    rw [hF]
    exact Nat.le_trans (intBits_sub_le (m := 2 * m * w + 1) (n := 1) (bits_le (Nat.pow_lt_pow_right (by decide) (Nat.lt_succ_self _))) (by decide)) (by lia)
  have hF0 : 0 < fullW ((2 ^ w : Nat) : Int) m := by
    rw [hF]
    have : 2 ^ 1 ≤ 2 ^ (2 * m * w) := Nat.pow_le_pow_right (by decide) (Nat.le_trans w1 (Nat.le_mul_of_pos_left _ (by lia)))
    lia
  have hp1 : binV .pow (.int 2) (.int (w : Int)) = some (.int ((2 ^ w : Nat) : Int)) := powI_pow (pow_s (by lia))
  have m2 := mul2_ev h6
  have hm2 : binV .mul (.int (2 * (m : Int))) (.int (w : Int)) = some (.int ((2 * m * w : Nat) : Int)) := by
    have e : (2 * (m : Int)) * (w : Int) = ((2 * m * w : Nat) : Int) := by rw [Int.natCast_mul, Int.natCast_mul]; rfl
    rw [bin_mul (Nat.le_trans (Nat.add_le_add (bits_s (by lia) (by lia)) (bits_s (by lia) (by lia))) (by decide)), e]
  have hp2 : binV .pow (.int 2) (.int ((2 * m * w : Nat) : Int)) = some (.int ((2 ^ (2 * m * w) : Nat) : Int)) := powI_pow (pow_s (by lia))
  generalize hBe : ((2 ^ w : Nat) : Int) = B at hv hB hF hFb hF0 hp1
  have hB2 : 2 ≤ B := by
    rw [← hBe]
    have : 2 ^ 1 ≤ 2 ^ w := Nat.pow_le_pow_right (by decide) w1
    lia
  refine call_of (σ := [.fz (.dict (dI people)), .fz (.list (hours.map prN)), .fz (.int m), .fz (.int w), .fz (.int side), .un, .un, .un, .un, .un, .un, .un, .un]) rfl rfl ?_
  refine wx_par (vs := [.int B, .int (fullW B m)]) (σ' := [.fz (.dict (dI people)), .fz (.list (hours.map prN)), .fz (.int m), .fz (.int w), .fz (.int side), .fz (.int B), .fz (.int (fullW B m)), .un, .un, .un, .un, .un, .un]) (freshV_two (ev_bin (x := .int 2) rfl rfl hp1) (ev_bin (ev_bin (x := .int 2) rfl (ev_bin (ev_bin (x := .int 2) rfl rfl m2) rfl hm2) hp2) (y := .int 1) rfl ?_)) rfl ?_
  · show some (V.int _) = _
    rw [hF]
  refine wx_assign (v := .int 0) (σ' := [.fz (.dict (dI people)), .fz (.list (hours.map prN)), .fz (.int m), .fz (.int w), .fz (.int side), .fz (.int B), .fz (.int (fullW B m)), .fz (.int 0), .un, .un, .un, .un, .un]) rfl rfl ?_
  have hkl : (kF m 0).length ≤ 6 := by rw [← K.perm.length_eq]; exact K.len6
  refine wx_for (evL_one (ev_prim (evL_one rfl) (sort_dI hk hkl K.sort))) rfl ?_
  refine (told_loop1 (N := N + 178) hB h6 hd (.fz (.list (hours.map prN))) (.fz (.int w)) (.fz (.int side)) (.fz (.int (fullW B m))) (hsL m 0) 0 942 .un (fun h hh => ?_) (by decide) (Nat.le_refl _)).mono ?_
  · have := K.perm.mem_iff.1 hh
    exact ⟨hk ▸ this, Nat.le_of_lt (K.lt h this)⟩
  rintro fl σ' ⟨rfl, b1, e8, rfl⟩
  rw [Int.zero_add] at b1 ⊢
  have hl6 := K.len6
  refine wx_for (evL_one rfl) rfl ?_
  refine (told_loop2 (N := N + 178) hB (by lia) h6 _ _ _ _ _ _ hours _ 948 .un .un hp (Nat.le_trans b1 (by lia)) (by lia)).mono ?_
  rintro fl σ' ⟨rfl, b2, e9, e10, rfl⟩
  have b3 : bitsOf (B.fdiv 2 * (fullW B m).fdiv (B - 1)) ≤ 2078 := intBits_mul_le (m := 78) (n := 2000) (intBits_fdiv_le hB) (intBits_fdiv_le hFb)
  have b4 : bitsOf (numW B m people hours) ≤ 10000 := Nat.le_trans (intBits_add_le b2 b3) (by lia)
  have b5 : bitsOf (B - 1) ≤ 8000 := Nat.le_trans (intBits_sub_le (n := 1) hB (by decide)) (by decide)
  refine wx_aug (y := B.fdiv 2 * (fullW B m).fdiv (B - 1)) (z := .int (numW B m people hours)) rfl (ev_bin (ev_bin (y := .int 2) rfl rfl (bin_fdiv (by decide) (by decide))) (ev_bin (y := .int (B - 1)) rfl (ev_bin (y := .int 1) rfl rfl rfl) (bin_fdiv (by lia) b5)) (bin_mul (Nat.le_trans (Nat.add_le_add (intBits_fdiv_le hB) (intBits_fdiv_le hFb)) (by decide)))) rfl ?_
  obtain ⟨q, hq⟩ := divmod_side (a := numW B m people hours) (b := fullW B m) hs hF0 (Nat.le_trans hFb (by decide)) (Nat.le_trans b4 (by decide)) (m := N + 196) (by lia)
  rw [hv] at hq
  refine wx_assign (v := .int (side * v)) (σ' := [.fz (.dict (dI people)), .fz (.list (hours.map prN)), .fz (.int m), .fz (.int w), .fz (.int side), .fz (.int B), .fz (.int (fullW B m)), .fz (.int (numW B m people hours)), e8, e9, e10, .fz (.int (side * v)), .un]) (ev_sub (x := .tup [.int q, .int (side * v)]) (y := .int 1) (ev_call (evL_two (ev_bin rfl rfl (bits_side hs b4 (by decide))) (ev_bin rfl rfl (bits_side hs hFb (by decide)))) hq) rfl rfl) rfl ?_
  have hvb' : bitsOf (v : Int) ≤ 1000 := Nat.le_trans (bits_le hvb) (by lia)
  have hsv : binV .mul (.int side) (.int (side * v)) = some (.int v) := by
    have hb1 : bitsOf side ≤ 1 := by rcases hs with rfl | rfl <;> decide
    have := intBits_mul_le hb1 hvb'
    rw [bits_side hs this (by decide)]
    rcases hs with rfl | rfl
    · rw [Int.one_mul, Int.one_mul]
    · rw [← Int.mul_assoc]; exact congrArg (fun z => some (V.int z)) (Int.one_mul _)
  refine wx_ret (v := .list (D.map fun d : Nat => V.int ((d : Int) - B.fdiv 2))) (ev_comp (vs := [.list (nI D)]) (l := nI D) (evL_one (ev_call (evL_two (ev_bin rfl rfl hsv) rfl) ((call_ext rfl (by lia)).trans hD))) rfl ?_) rfl
  exact compV_map (fun d : Nat => V.int (d : Int)) (fun d : Nat => V.int ((d : Int) - B.fdiv 2)) D fun d _ => ⟨_, rfl, ev_bin rfl (ev_bin (y := .int 2) rfl rfl (bin_fdiv (by decide) (by decide))) rfl⟩
end
end Mine
namespace Mine
open PySem PyProof.Rows
/-! ### the mirrored crowd -/
noncomputable def mirW (B : Int) (m h : Nat) : Int := bif Nat.beq h 0 then 0 else eW B m h
theorem mir_step {B : Int} {m h : Nat} (h2 : 2 ≤ m) (hh : h < m) (p : Nat × Nat) : ∃ R, stepW m p.1 p.2 (mirW B m) h = cW B m p * mirW B m h + fullW B m * R := by
  obtain ⟨g, s⟩ := p
  have key : 1 ≤ h → ∃ R, mirW B m (upF h % m) + mirW B m (h - 1) = (B + B ^ (2 * m - 1)) * eW B m h + fullW B m * R := fun h1 => by
    obtain ⟨j, rfl⟩ : ∃ j, h = j + 1 := ⟨h - 1, by lia⟩
    obtain ⟨d, hd⟩ : ∃ d, 2 * m = j + 2 + d := ⟨2 * m - (j + 2), by lia⟩
    have e1 : mirW B m (upF (j + 1) % m) = eW B m (j + 2) := by
      show mirW B m ((j + 1 + 1) % m) = _
      rcases Nat.lt_or_ge (j + 2) m with q | q
      · rw [Nat.mod_eq_of_lt q]; rfl
      · have : j + 1 + 1 = m := by lia
        rw [this, Nat.mod_self]
        unfold eW
        rw [show 2 * m - m = m by lia, Int.sub_self]; rfl
    have e2 : mirW B m (j + 1 - 1) = eW B m j + bif Nat.beq j 0 then fullW B m else 0 := by
      rw [Nat.add_sub_cancel]
      unfold mirW
      cases q : Nat.beq j 0 with
      | true =>
        rw [Nat.eq_of_beq_eq_true q]
        unfold eW fullW
        rw [Nat.sub_zero]
        show (0 : Int) = B ^ 0 - B ^ (2 * m) + (B ^ (2 * m) - 1)
        rw [Int.pow_zero]; lia
      | false => exact (Int.add_zero _).symm
    refine ⟨(bif Nat.beq j 0 then 1 else 0) - (B ^ j - B ^ d), ?_⟩
    rw [e1, e2]
    have e3 : (bif Nat.beq j 0 then fullW B m else 0) = fullW B m * (bif Nat.beq j 0 then 1 else 0) := by
      cases Nat.beq j 0 with
      | true => exact (Int.mul_one _).symm
      | false => exact (Int.mul_zero _).symm
    rw [e3]
    unfold eW fullW
    have p1 : 2 * m - (j + 2) = d := by lia
    have p2 : 2 * m - j = d + 2 := by lia
    have p3 : 2 * m - (j + 1) = d + 1 := by lia
    have p4 : 2 * m - 1 = j + d + 1 := by lia
    have p5 : B ^ (2 * m) = B ^ j * B ^ d * B * B := by rw [hd, Int.pow_add, Int.pow_add, Int.pow_succ, Int.pow_succ, Int.pow_zero]; grind
    have p6 : B ^ (j + d + 1) = B ^ j * B ^ d * B := by rw [Int.pow_succ, Int.pow_add]
    rw [p1, p2, p3, p4, p5, p6, Int.pow_succ B j, Int.pow_succ B (j + 1), Int.pow_succ B j, Int.pow_succ B (d + 1), Int.pow_succ B d]
    generalize B ^ j = x
    generalize B ^ d = y
    generalize (bif Nat.beq j 0 then (1 : Int) else 0) = z
    grind
  unfold stepW cW
  rcases Nat.eq_zero_or_pos h with q | q
  · subst q
    refine ⟨0, ?_⟩
    show (g : Int) * (mirW B m (0 % m) + mirW B m 0) + s * mirW B m 0 = _ * mirW B m 0 + _
    rw [Nat.zero_mod, show mirW B m 0 = 0 from rfl]
    simp
  · obtain ⟨R, hR⟩ := key q
    refine ⟨g * R, ?_⟩
    have e : mirW B m h = eW B m h := by
      unfold mirW
      rw [Bool.eq_false_iff.2 fun z => absurd (Nat.eq_of_beq_eq_true z) (Nat.pos_iff_ne_zero.1 q)]; rfl
    dsimp only
    rw [hR, e]
    generalize eW B m h = x
    generalize B ^ (2 * m - 1) = y
    grind
theorem wt_mir {B : Int} {m : Nat} (h2 : 2 ≤ m) (p : Nat × Nat) : ∀ l : List (Nat × Nat), (∀ k ∈ keysN l, k < m) → ∃ R, wt (stepW m p.1 p.2 (mirW B m)) l = cW B m p * wt (mirW B m) l + fullW B m * R
  | [], _ => ⟨0, by show (0 : Int) = _ * 0 + _ * 0; simp⟩
  | q :: l, h => by
    obtain ⟨R, hR⟩ := mir_step (B := B) h2 (h q.1 (.head _)) p
    obtain ⟨S, hS⟩ := wt_mir h2 p l fun k hk => h k (.tail _ hk)
    refine ⟨q.2 * R + S, ?_⟩
    show (q.2 : Int) * stepW m p.1 p.2 (mirW B m) q.1 + wt _ l = cW B m p * ((q.2 : Int) * mirW B m q.1 + wt (mirW B m) l) + _
    rw [hR, hS]
    generalize mirW B m q.1 = x
    generalize wt (mirW B m) l = y
    generalize cW B m p = c
    generalize fullW B m = F
    grind
theorem walk_mir {B : Int} {m : Nat} (h2 : 2 ≤ m) (h6 : m ≤ 6) : ∀ (hs : List (Nat × Nat)) (t : Nat) (crowd : List (Nat × Nat)) (n : Int), t < 3 → keysN crowd = kF m t → (∃ R, n = wt (mirW B m) crowd + fullW B m * R) → ∃ R, prodW B m n hs = wt (mirW B m) (walkD m t crowd hs) + fullW B m * R
  | [], _, _, _, _, _, h => h
  | p :: hs, t, crowd, n, ht, hk, ⟨R, hR⟩ => by
    refine walk_mir h2 h6 hs (nxtT t) _ _ (nxtT_lt t) (next_keys (g := p.1) (s := p.2) ht) ?_
    obtain ⟨S, hS⟩ := wt_mir (B := B) h2 p crowd fun k hk' => (hour_facts h2 h6 ht).lt k (hk ▸ hk')
    refine ⟨cW B m p * R - S, ?_⟩
    rw [wt_next h2 h6 ht hk, hS, hR]
    generalize wt (mirW B m) crowd = y
    generalize cW B m p = c
    generalize fullW B m = F
    grind
theorem sI_append (f : Nat → Int) (r : List Nat) : ∀ l, sI f (l ++ r) = sI f l + sI f r
  | [] => (Int.zero_add _).symm
  | x :: l => by
    show f x + sI f (l ++ r) = f x + sI f l + sI f r
    rw [sI_append f r l, Int.add_assoc]
theorem sI_map (f : Nat → Int) (g : Nat → Nat) : ∀ l, sI f (l.map g) = sI (fun x => f (g x)) l
  | [] => rfl
  | x :: l => congrArg (f (g x) + ·) (sI_map f g l)
theorem wt_sorted {m t : Nat} (h2 : 2 ≤ m) (h6 : m ≤ 6) (ht : t < 3) {crowd : List (Nat × Nat)} (hk : keysN crowd = kF m t) {X : Nat → Int} : wt X crowd = sI (fun k => getN crowd k * X k) (hsL m t) := by
  have K := hour_facts h2 h6 ht
  rw [sI_perm K.perm, ← hk, wt_keys (by rw [hk]; exact K.nodup)]
theorem hsL_cases {m t : Nat} (h2 : 2 ≤ m) : hsL m t = (List.range (m - 1)).map (· + 1) ∨ hsL m t = 0 :: (List.range (m - 1)).map (· + 1) := by
  unfold hsL
  cases Nat.beq t 0 with
  | true => exact .inl rfl
  | false =>
    right
    obtain ⟨j, rfl⟩ : ∃ j, m = j + 1 := ⟨m - 1, by lia⟩
    exact List.range_succ_eq_map
theorem wt_mir_sum {B : Int} {m t : Nat} (h2 : 2 ≤ m) (h6 : m ≤ 6) (ht : t < 3) {crowd : List (Nat × Nat)} (hk : keysN crowd = kF m t) : wt (mirW B m) crowd = sI (fun i => getN crowd (i + 1) * eW B m (i + 1)) (List.range (m - 1)) := by
  have e : sI (fun k => getN crowd k * mirW B m k) ((List.range (m - 1)).map (· + 1)) = sI (fun i => getN crowd (i + 1) * eW B m (i + 1)) (List.range (m - 1)) := sI_map ..
  rw [wt_sorted h2 h6 ht hk]
  rcases hsL_cases (t := t) h2 with q | q <;> rw [q]
  · exact e
  · show (getN crowd 0 : Int) * 0 + sI _ _ = _
    rw [Int.mul_zero, Int.zero_add]; exact e
end Mine
namespace Mine
open PySem PyProof.Rows
/-! ### the figures -/
noncomputable def vI (B : Int) : List Int → Int
  | [] => 0
  | x :: l => x + B * vI B l
theorem val_vI (w : Nat) : ∀ l : List Nat, ((val w l : Nat) : Int) = vI ((2 ^ w : Nat) : Int) (castI l)
  | [] => rfl
  | x :: l => by
    show ((x + 2 ^ w * val w l : Nat) : Int) = (x : Int) + ((2 ^ w : Nat) : Int) * vI _ (castI l)
    rw [← val_vI w l, Int.natCast_add, Int.natCast_mul]
section
variable {B : Int}
theorem vI_append (r : List Int) : ∀ l, vI B (l ++ r) = vI B l + B ^ l.length * vI B r
  | [] => by show vI B r = 0 + B ^ 0 * vI B r; rw [Int.pow_zero, Int.one_mul, Int.zero_add]
  | x :: l => by
    show x + B * vI B (l ++ r) = x + B * vI B l + B ^ (l.length + 1) * vI B r
    rw [vI_append r l, Int.pow_succ]
    generalize vI B l = a
    generalize vI B r = b
    generalize B ^ l.length = c
    grind
theorem vI_neg : ∀ l, vI B (l.map fun x => -x) = -vI B l
  | [] => rfl
  | x :: l => by
    show -x + B * vI B (l.map fun x => -x) = -(x + B * vI B l)
    rw [vI_neg l]
    generalize vI B l = a
    grind
noncomputable def gS (B : Int) : Nat → Int
  | 0 => 0
  | n + 1 => 1 + B * gS B n
theorem gS_eq : ∀ n, (B - 1) * gS B n = B ^ n - 1
  | 0 => by show (B - 1) * 0 = B ^ 0 - 1; rw [Int.pow_zero, Int.mul_zero]; rfl
  | n + 1 => by
    have ih := gS_eq n
    show (B - 1) * (1 + B * gS B n) = B ^ (n + 1) - 1
    rw [Int.pow_succ]
    generalize gS B n = a at ih ⊢
    generalize B ^ n = c at ih ⊢
    grind
theorem vI_shift (H : Int) : ∀ l, vI B (l.map fun x => H + x) = H * gS B l.length + vI B l
  | [] => by show (0 : Int) = H * 0 + 0; simp
  | x :: l => by
    show H + x + B * vI B (l.map fun x => H + x) = H * (1 + B * gS B l.length) + (x + B * vI B l)
    rw [vI_shift H l]
    generalize gS B l.length = a
    generalize vI B l = b
    grind
noncomputable def mirL (A : List Int) : List Int := 0 :: (A ++ (0 :: A.reverse.map fun x => -x))
theorem mir_sum (f : Nat → Int) (K : Nat) : ∀ k, k + 1 ≤ K → sI (fun i => f i * (B ^ (i + 1) - B ^ (K - (i + 1)))) (List.range k) = B * vI B ((List.range k).map f) - B ^ (K - k) * vI B ((List.range k).map f).reverse
  | 0, _ => by show (0 : Int) = B * 0 - B ^ K * 0; simp
  | k + 1, h => by
    have ih := mir_sum f K k (by lia)
    obtain ⟨d, hd⟩ : ∃ d, K - k = d + 1 := ⟨K - k - 1, by lia⟩
    have e1 : K - (k + 1) = d := by lia
    rw [List.range_succ, sI_append, ih, List.map_append, vI_append, List.reverse_append, List.length_map, List.length_range, e1, hd, Int.pow_succ B d]
    show _ + (f k * (B ^ (k + 1) - B ^ (K - (k + 1))) + 0) = B * (_ + B ^ k * (f k + B * 0)) - B ^ d * (f k + B * vI B ((List.range k).map f).reverse)
    rw [e1, Int.pow_succ]
    generalize vI B ((List.range k).map f) = a
    generalize vI B ((List.range k).map f).reverse = b
    generalize B ^ k = x
    generalize B ^ d = y
    generalize f k = z
    grind
theorem vI_mir (A : List Int) : vI B (mirL A) = B * vI B A - B ^ (A.length + 2) * vI B A.reverse := by
  unfold mirL
  show 0 + B * vI B (A ++ (0 :: A.reverse.map fun x => -x)) = _
  rw [vI_append]
  show 0 + B * (vI B A + B ^ A.length * (0 + B * vI B (A.reverse.map fun x => -x))) = _
  rw [vI_neg, Int.pow_succ, Int.pow_succ]
  generalize vI B A = a
  generalize vI B A.reverse = b
  generalize B ^ A.length = c
  grind
end
noncomputable def figL (H : Nat) (A : List Nat) : List Nat := H :: (A.map (H + ·) ++ (H :: A.reverse.map (H - ·)))
theorem figL_cast {H : Nat} {A : List Nat} (hA : ∀ a ∈ A, a < H) : castI (figL H A) = (mirL (castI A)).map fun x => (H : Int) + x := by
  have h1 : castI (A.map (H + ·)) = (castI A).map fun x => (H : Int) + x := by
    unfold castI
    rw [List.map_map, List.map_map]; rfl
  have h2 : castI (A.reverse.map (H - ·)) = ((castI A).reverse.map fun x => -x).map fun x => (H : Int) + x := by
    unfold castI
    rw [← List.map_reverse, List.map_map, List.map_map, List.map_map]
    apply List.map_congr_left
    intro a ha
    have := hA a (List.mem_reverse.1 ha)
    show ((H - a : Nat) : Int) = (H : Int) + -(a : Int)
    lia
  show (H : Int) :: castI (A.map (H + ·) ++ (H :: A.reverse.map (H - ·))) = ((H : Int) + 0) :: ((castI A ++ (0 :: (castI A).reverse.map fun x => -x)).map fun x => (H : Int) + x)
  rw [Int.add_zero, List.map_append, ← h1]
  show _ :: castI (_ ++ _) = _ :: (_ ++ (((H : Int) + 0) :: List.map _ (List.map _ _)))
  rw [← h2, Int.add_zero]
  exact congrArg ((H : Int) :: ·) (List.map_append ..)
theorem figL_len {H : Nat} {A : List Nat} : (figL H A).length = 2 * (A.length + 1) := by
  show (A.map (H + ·) ++ (H :: A.reverse.map (H - ·))).length + 1 = _
  rw [List.length_append, List.length_cons, List.length_map, List.length_map, List.length_reverse]; lia
theorem figL_lt {H w : Nat} (hw : 2 ^ w = 2 * H) {A : List Nat} (hA : ∀ a ∈ A, a < H) (h0 : 1 ≤ H) : ∀ d ∈ figL H A, d < 2 ^ w := fun d hd => by
  rcases List.mem_cons.1 hd with rfl | hd
  · lia
  · rcases List.mem_append.1 hd with hd | hd
    · obtain ⟨a, ha, rfl⟩ := List.mem_map.1 hd
      have := hA a ha
      lia
    · rcases List.mem_cons.1 hd with rfl | hd
      · lia
      · obtain ⟨a, ha, rfl⟩ := List.mem_map.1 hd
        lia
theorem num_figs {m w H : Nat} (h2 : 2 ≤ m) (h6 : m ≤ 6) (hw : 2 ^ w = 2 * H) (h1 : 2 ≤ H) {people hours : List (Nat × Nat)} (hk : keysN people = kF m 0) {t : Nat} (ht : t < 3) {cw : List (Nat × Nat)} (hcw : walkD m 0 people hours = cw) (hk' : keysN cw = kF m t) {A : List Nat} (hAe : (List.range (m - 1)).map (fun i => getN cw (i + 1)) = A) (hA : ∀ a ∈ A, a < H) :
    (numW ((2 ^ w : Nat) : Int) m people hours).fmod (fullW ((2 ^ w : Nat) : Int) m) = ((val w (figL H A) : Nat) : Int) ∧
    val w (figL H A) < 2 ^ (2 * m * w) := by
  have hAl : A.length = m - 1 := by rw [← hAe, List.length_map, List.length_range]
  have hlen : (figL H A).length = 2 * m := by
    rw [figL_len, hAl]; lia
  have hlt := figL_lt hw hA (by lia)
  have hv := val_lt w _ hlt
  rw [hlen] at hv
  refine ⟨?_, hv⟩
  have hF : fullW ((2 ^ w : Nat) : Int) m = ((2 ^ (2 * m * w) : Nat) : Int) - 1 := by
    unfold fullW
    rw [← Int.natCast_pow, ← Nat.pow_mul, Nat.mul_comm w]
  -- below the whole
  have hv2 : val w (figL H A) + 1 < 2 ^ (2 * m * w) := by
    have ht := val_lt w (A.map (H + ·) ++ (H :: A.reverse.map (H - ·))) fun d hd => hlt d (.tail _ hd)
    have hl : (A.map (H + ·) ++ (H :: A.reverse.map (H - ·))).length = 2 * m - 1 := by
      have := hlen
      unfold figL at this
      rw [List.length_cons] at this
      lia
    rw [hl] at ht
    have e : 2 ^ (2 * m * w) = 2 ^ w * 2 ^ ((2 * m - 1) * w) := by
      rw [← Nat.pow_add]
      congr 1
      obtain ⟨k, hk⟩ : ∃ k, 2 * m = k + 1 := ⟨2 * m - 1, by lia⟩
      rw [hk, Nat.add_sub_cancel, Nat.succ_mul, Nat.add_comm]
    show H + 2 ^ w * val w _ + 1 < _
    have h3 := Nat.mul_le_mul_left (2 ^ w) (Nat.succ_le_of_lt ht)
    rw [e]
    rw [Nat.mul_succ] at h3
    lia
  have hW : ∃ R, prodW ((2 ^ w : Nat) : Int) m (sI (fun h => getN people h * eW ((2 ^ w : Nat) : Int) m h) (hsL m 0)) hours = wt (mirW ((2 ^ w : Nat) : Int) m) cw + fullW ((2 ^ w : Nat) : Int) m * R := by
    rw [← hcw]
    refine walk_mir h2 h6 hours 0 people _ (by decide) hk ⟨0, ?_⟩
    rw [wt_sorted h2 h6 (by decide) hk, Int.mul_zero, Int.add_zero]
    refine sI_congr fun h hh => ?_
    have hh' : h ∈ (List.range (m - 1)).map (· + 1) := hh
    obtain ⟨i, _, rfl⟩ := List.mem_map.1 hh'
    rfl
  obtain ⟨R, hR⟩ := hW
  rw [wt_mir_sum h2 h6 ht hk'] at hR
  have hms := mir_sum (B := ((2 ^ w : Nat) : Int)) (fun i => (getN cw (i + 1) : Int)) (2 * m) (m - 1) (by lia)
  have hmap : (List.range (m - 1)).map (fun i => (getN cw (i + 1) : Int)) = castI A := by rw [← hAe]; exact (List.map_map ..).symm
  rw [hmap] at hms
  replace hms : sI (fun i => (getN cw (i + 1) : Int) * eW ((2 ^ w : Nat) : Int) m (i + 1)) (List.range (m - 1)) = _ := hms
  have hvm := vI_mir (B := ((2 ^ w : Nat) : Int)) (castI A)
  have hcl : (castI A).length + 2 = 2 * m - (m - 1) := by
    unfold castI
    rw [List.length_map, hAl]; lia
  rw [hcl] at hvm
  have hval := val_vI w (figL H A)
  rw [figL_cast hA, vI_shift] at hval
  have hml : (mirL (castI A)).length = 2 * m := by
    have := congrArg List.length (figL_cast hA)
    rw [List.length_map] at this
    rw [← this, castI, List.length_map, hlen]
  rw [hml] at hval
  have hg := gS_eq (B := ((2 ^ w : Nat) : Int)) (2 * m)
  have hB2 : ((2 ^ w : Nat) : Int) = 2 * (H : Int) := by rw [hw]; rfl
  have hfd : (((2 ^ w : Nat) : Int)).fdiv 2 = H := by
    rw [hB2, Int.fdiv_eq_ediv_of_nonneg _ (by decide)]; lia
  have hgd : (fullW ((2 ^ w : Nat) : Int) m).fdiv (((2 ^ w : Nat) : Int) - 1) = gS ((2 ^ w : Nat) : Int) (2 * m) := by
    have : fullW ((2 ^ w : Nat) : Int) m = (((2 ^ w : Nat) : Int) - 1) * gS ((2 ^ w : Nat) : Int) (2 * m) := hg.symm
    rw [this, Int.mul_comm]
    exact Int.mul_fdiv_cancel _ (by lia)
  refine (fdivmod_unique (q := R) (by rw [hF]; lia) ?_ (Int.natCast_nonneg _) (by rw [hF]; lia)).2
  unfold numW
  rw [hR, hfd, hgd, hval, hvm, hms, Int.mul_comm R]
  lia
end Mine
namespace Mine
open PySem PyProof.Rows
theorem figs_i2V {w H : Nat} (hw : 2 ^ w = 2 * H) (h1 : 1 ≤ w) (w77 : w ≤ 77) {A : List Nat} (hA : ∀ a ∈ A, a < H) (hl : A.length ≤ 5) (h0 : 1 ≤ A.length) : i2V [.int (val w (figL H A) : Nat), .int w] = some (.list (nI (figL H A))) := by
  have hH : 1 ≤ H := by
    have := Nat.two_pow_pos w
    lia
  have hlt := figL_lt hw hA hH
  have hv := bits_le (val_lt w _ hlt)
  have hlw : (figL H A).length * w ≤ 12 * 77 := Nat.mul_le_mul (by rw [figL_len]; lia) w77
  have hp := pad_ok h1 hlt
  rw [i2V_spec h1 (by lia)]
  generalize (bitsOf ((val w (figL H A) : Nat) : Int) + w - 1) / w = M at hp ⊢
  obtain ⟨D0, x, hx, hD⟩ : ∃ D0 x, 0 < x ∧ figL H A = D0 ++ [x] := by
    induction A using List.casesOn with
    | nil => exact absurd h0 (by decide)
    | cons a A =>
      refine ⟨H :: ((a :: A).map (H + ·) ++ (H :: A.reverse.map (H - ·))), H - a, by have := hA a (.head _); lia, ?_⟩
      unfold figL
      rw [List.reverse_cons, List.map_append, List.cons_append, List.append_assoc, List.cons_append]; rfl
  cases hk : (figL H A).length - M with
  | zero =>
    rw [hk, List.replicate_zero, List.append_nil] at hp
    rw [hp]
  | succ j =>
    rw [hk, List.replicate_succ', ← List.append_assoc, hD] at hp
    have := congrArg List.getLast? hp
    rw [List.getLast?_concat, List.getLast?_concat] at this
    have := Option.some.inj this
    lia
/-! ### the totals -/
noncomputable def totP : Nat → List (Nat × Nat) → Nat
  | n, [] => n
  | n, p :: hs => totP (n * (2 * p.1 + p.2)) hs
theorem walk_tot {m : Nat} (h2 : 2 ≤ m) (h6 : m ≤ 6) : ∀ (hs : List (Nat × Nat)) (t : Nat) (crowd : List (Nat × Nat)) (n : Nat), t < 3 → keysN crowd = kF m t → wt oneW crowd = n → wt oneW (walkD m t crowd hs) = totP n hs
  | [], _, _, _, _, _, h => h
  | p :: hs, t, crowd, n, ht, hk, h => by
    refine walk_tot h2 h6 hs (nxtT t) _ _ (nxtT_lt t) (next_keys ht) ?_
    rw [wt_next h2 h6 ht hk, wt_step_one, h, Int.natCast_mul, Int.mul_comm]
theorem totP_le : ∀ (hs : List (Nat × Nat)) (n : Nat), (∀ p ∈ hs, p.1 ≤ 7 ∧ p.2 ≤ 7) → totP n hs ≤ n * 21 ^ hs.length
  | [], n, _ => Nat.le_of_eq (Nat.mul_one n).symm
  | p :: hs, n, h => by
    have := h p (.head _)
    refine Nat.le_trans (totP_le hs _ fun q hq => h q (.tail _ hq)) ?_
    rw [List.length_cons, Nat.pow_succ', ← Nat.mul_assoc]
    exact Nat.mul_le_mul_right _ (Nat.mul_le_mul_left _ (by lia))
theorem walk_keys {m : Nat} : ∀ (hs : List (Nat × Nat)) (t : Nat) (crowd : List (Nat × Nat)), t < 3 → hs ≠ [] → ∃ t', t' < 3 ∧ hsL m t' = List.range m ∧ keysN (walkD m t crowd hs) = kF m t'
  | [], _, _, _, h => absurd rfl h
  | [p], t, crowd, ht, _ => ⟨nxtT t, nxtT_lt t, by unfold nxtT; cases Nat.beq t 0 <;> rfl, next_keys ht⟩
  | p :: q :: hs, t, crowd, _, _ => walk_keys (q :: hs) (nxtT t) _ (nxtT_lt t) (List.cons_ne_nil _ _)
theorem hoursS_le {n1 : Nat} : ∀ {xs : List Nat} {i : Nat}, ∀ p ∈ hoursS n1 i xs, p.1 ≤ 7 ∧ p.2 ≤ 7
  | x :: xs, i, p, hp => by
    rcases List.mem_cons.1 hp with rfl | hp
    · have h1 := Nat.mod_lt x (show 0 < 8 by decide)
      have h2 := Nat.mod_lt (x / 8) (show 0 < 8 by decide)
      have h3 := Nat.mod_two_eq_zero_or_one (n1 / 2 ^ i)
      refine ⟨by show x % 8 ≤ 7; lia, ?_⟩
      show x / 8 % 8 * (n1 / 2 ^ i % 2) ≤ 7
      rcases h3 with h3 | h3 <;> rw [h3] <;> lia
    · exact hoursS_le p hp
theorem people_facts {n : Nat} : ∀ (k h : Nat), (∀ j, getN (peopleS n k h) j ≤ 9) ∧ wt oneW (peopleS n k h) ≤ 9 * k ∧ keysN (peopleS n k h) = (List.range k).map (· + h)
  | 0, _ => ⟨fun _ => Nat.zero_le _, Int.le_refl _, rfl⟩
  | k + 1, h => by
    obtain ⟨i1, i2, i3⟩ := people_facts (n := n) k (h + 1)
    have h9 := Nat.mod_lt (n / 10 ^ (h - 1)) (show 0 < 10 by decide)
    refine ⟨fun j => ?_, ?_, ?_⟩
    · show (if h = j then n / 10 ^ (h - 1) % 10 else getN (peopleS n k (h + 1)) j) ≤ 9
      have := i1 j
      split <;> lia
    · show ((n / 10 ^ (h - 1) % 10 : Nat) : Int) * 1 + wt oneW (peopleS n k (h + 1)) ≤ _
      lia
    · show h :: keysN (peopleS n k (h + 1)) = _
      rw [i3, List.range_succ_eq_map, List.map_cons, List.map_map, Nat.zero_add]
      refine congrArg (h :: ·) (List.map_congr_left fun i _ => ?_)
      show i + (h + 1) = i + 1 + h
      lia
/-! ### the plain hours, the total -/
section
variable {N : Nat}
noncomputable def plainB : List MS := [(.append 5 (.tup [(.bin .fmod (.var 7) (.lit (.int 8))), (.bin .mul (.bin .fmod (.bin .fdiv (.var 7) (.lit (.int 8))) (.lit (.int 8))) (.bin .fmod (.bin .fdiv (.sub (.var 2) (.lit (.int 1))) (.bin .pow (.lit (.int 2)) (.var 6))) (.lit (.int 2))))]))]
theorem plain_loop {n0 n1 n2 : Nat} {ys : List Nat} (e0 e1 e3 e4 : Ent) (rest : Sig) : ∀ (xs : List Nat) (i : Nat) (acc : List (Nat × Nat)) (e6 e7 : Ent), i + xs.length ≤ 9 → acc.length + xs.length ≤ 9 →
    Wx (forV (run gL (N + 30)).ex (.many [6, 7]) plainB [] (enumV i (nI xs)) (e0 :: e1 :: .fz (.list (nI (n0 :: n1 :: n2 :: ys))) :: e3 :: e4 :: .own (.list (acc.map prN)) :: e6 :: e7 :: rest))
      (fun fl σ' => fl = .next ∧ ∃ e6 e7, σ' = e0 :: e1 :: .fz (.list (nI (n0 :: n1 :: n2 :: ys))) :: e3 :: e4 :: .own (.list ((acc ++ hoursS n1 i xs).map prN)) :: e6 :: e7 :: rest)
  | [], i, acc, e6, e7, _, _ => forV_nil (wx_nil ⟨rfl, e6, e7, by rw [show hoursS n1 i [] = [] from rfl, List.append_nil]⟩)
  | x :: xs, i, acc, e6, e7, hi, ha => by
    have hln : lineN = 1048576 := rfl
    simp only [List.length_cons] at hi ha
    refine forV_cons (σ' := e0 :: e1 :: .fz (.list (nI (n0 :: n1 :: n2 :: ys))) :: e3 :: e4 :: .own (.list (acc.map prN)) :: .fz (.int i) :: .fz (.int x) :: rest) rfl ?_
    have hb : bitsOf ((2 ^ i : Nat) : Int) ≤ 8000 := Nat.le_trans (bits_le (m := i + 1) (Nat.pow_lt_pow_right (by decide) (Nat.lt_succ_self _))) (by lia)
    have h0 : (2 ^ i : Nat) ≠ 0 := Nat.pos_iff_ne_zero.1 (Nat.two_pow_pos i)
    have hq : (run gL (N + 26)).ev (e0 :: e1 :: .fz (.list (nI (n0 :: n1 :: n2 :: ys))) :: e3 :: e4 :: .own (.list (acc.map prN)) :: .fz (.int i) :: .fz (.int x) :: rest) (.bin .fdiv (.sub (.var 2) (.lit (.int 1))) (.bin .pow (.lit (.int 2)) (.var 6))) = some (.int (n1 / 2 ^ i : Nat)) := by
      refine ev_bin (x := .int n1) (y := .int ((2 ^ i : Nat) : Int)) (ev_sub (x := .list (nI (n0 :: n1 :: n2 :: ys))) rfl rfl (get_nI (k := 1) (by simp))) (ev_bin (x := .int 2) rfl rfl (powI_pow (pow_s (by lia)))) ?_
      rw [bin_fdiv (y := ((2 ^ i : Nat) : Int)) (fun q => h0 (Int.ofNat.inj q)) hb, nat_fdiv]
    have h7 := Nat.mod_lt (x / 8) (show 0 < 8 by decide)
    have h2 := Nat.mod_lt (n1 / 2 ^ i) (show 0 < 2 by decide)
    refine wx_append (l := acc.map prN) rfl (tup2_ev (mod_ev (k := 8) (x := x) rfl (by decide) ⟨_, rfl⟩) (ev_bin (mod_ev (k := 8) (div_ev (k := 8) (x := x) rfl (by decide) (by decide) ⟨_, rfl⟩) (by decide) ⟨_, rfl⟩) (mod_ev (k := 2) hq (by decide) ⟨_, rfl⟩) (bin_mul (Nat.le_trans (Nat.add_le_add (bits_s (by lia) (by lia)) (bits_s (by lia) (by lia))) (by decide))))) (by rw [List.length_map]; lia) (wx_nil ?_)
    have e1' : acc.map prN ++ [V.tup [.int (x % 8 : Nat), .int (((x / 8 % 8 : Nat) : Int) * ((n1 / 2 ^ i % 2 : Nat) : Int))]] = (acc ++ [(x % 8, x / 8 % 8 * (n1 / 2 ^ i % 2))]).map prN := by
      rw [List.map_append, ← Int.natCast_mul]; rfl
    show Wx (forV (run gL (N + 30)).ex (.many [6, 7]) plainB [] (enumV (i + 1) (nI xs)) (_ :: _ :: _ :: _ :: _ :: .own (.list (acc.map prN ++ _)) :: _)) _
    rw [e1']
    refine (plain_loop e0 e1 e3 e4 rest xs (i + 1) _ _ _ (by lia) (by rw [List.length_append]; simp only [List.length_cons, List.length_nil]; lia)).mono ?_
    rintro fl σ' ⟨h1, e6, e7, h2⟩
    exact ⟨h1, e6, e7, by rw [h2, List.append_assoc]; rfl⟩
noncomputable def totB : List MS := [(.aug 12 .mul (.bin .add (.bin .mul (.lit (.int 2)) (.var 13)) (.var 14)))]
noncomputable def lwσ (a0 a1 a2 a3 a4 a5 a6 a7 a8 a9 a10 a11 a12 a13 a14 a15 : Ent) : Sig := [a0, a1, a2, a3, a4, a5, a6, a7, a8, a9, a10, a11, a12, a13, a14, a15, .un, .un, .un, .un]
theorem tot_loop (a0 a1 a2 a3 a4 a5 a6 a7 a8 a9 a10 a11 a15 : Ent) : ∀ (hs : List (Nat × Nat)) (n : Nat) (a13 a14 : Ent), (∀ p ∈ hs, p.1 ≤ 7 ∧ p.2 ≤ 7) → n * 21 ^ hs.length ≤ 2 ^ 60 →
    Wx (forV (run gL (N + 20)).ex (.many [13, 14]) totB [] (hs.map prN) (lwσ a0 a1 a2 a3 a4 a5 a6 a7 a8 a9 a10 a11 (.fz (.int n)) a13 a14 a15))
      (fun fl σ' => fl = .next ∧ ∃ a13 a14, σ' = lwσ a0 a1 a2 a3 a4 a5 a6 a7 a8 a9 a10 a11 (.fz (.int (totP n hs : Nat))) a13 a14 a15)
  | [], n, a13, a14, _, _ => forV_nil (wx_nil ⟨rfl, a13, a14, rfl⟩)
  | p :: hs, n, a13, a14, hp, hn => by
    have p12 := hp p (.head _)
    have hn0 : n ≤ 2 ^ 60 := Nat.le_trans (Nat.le_mul_of_pos_right _ (Nat.pow_pos (by decide))) hn
    have hnb : bitsOf (n : Int) ≤ 61 := bits_le (Nat.lt_of_le_of_lt hn0 (by decide))
    refine forV_cons (σ' := lwσ a0 a1 a2 a3 a4 a5 a6 a7 a8 a9 a10 a11 (.fz (.int n)) (.fz (.int p.1)) (.fz (.int p.2)) a15) rfl ?_
    refine wx_aug (y := 2 * (p.1 : Int) + p.2) rfl (ev_bin (ev_bin (x := .int 2) rfl rfl (bin_mul (Nat.le_trans (Nat.add_le_add (bits_s (by lia) (by lia)) (bits_s (by lia) (by lia))) (by decide)))) rfl rfl) (bin_mul (Nat.le_trans (Nat.add_le_add hnb (bits_s (by lia) (by lia))) (by decide))) (wx_nil ?_)
    have e : (n : Int) * (2 * (p.1 : Int) + p.2) = ((n * (2 * p.1 + p.2) : Nat) : Int) := by
      rw [Int.natCast_mul, Int.natCast_add, Int.natCast_mul]; rfl
    show Wx (forV (run gL (N + 20)).ex (.many [13, 14]) totB [] (hs.map prN) (lwσ a0 a1 a2 a3 a4 a5 a6 a7 a8 a9 a10 a11 (.fz (.int ((n : Int) * (2 * (p.1 : Int) + p.2)))) (.fz (.int p.1)) (.fz (.int p.2)) a15)) _
    rw [e]
    refine tot_loop a0 a1 a2 a3 a4 a5 a6 a7 a8 a9 a10 a11 a15 hs (n * (2 * p.1 + p.2)) _ _ (fun q hq => hp q (.tail _ hq)) ?_
    refine Nat.le_trans ?_ hn
    rw [List.length_cons, Nat.pow_succ', ← Nat.mul_assoc]
    exact Nat.mul_le_mul_right _ (Nat.mul_le_mul_left _ (by lia))
end
end Mine
namespace Mine
open PySem PyProof.Rows
theorem nums_many {ns : List Int} : ∃ n0 n1 n2 xs, nums 12 [27, 5, 4021, 9, 17, 10] ns = n0 :: n1 :: n2 :: xs ∧ n0 < 1000000 ∧ n1 < 1000000 ∧ n2 < 1000000 ∧ xs.length ≤ 9 ∧ xs ≠ [] := by
  have h1 := nums_len (k := 12) (dflt := [27, 5, 4021, 9, 17, 10]) (ns := ns)
  have h2 := nums_lt (k := 12) (dflt := [27, 5, 4021, 9, 17, 10]) (ns := ns) (by decide)
  have h3 : 6 ≤ (nums 12 [27, 5, 4021, 9, 17, 10] ns).length := by rw [h1]; exact Nat.le_max_right _ _
  have h4 : (nums 12 [27, 5, 4021, 9, 17, 10] ns).length ≤ 12 := by rw [h1]; exact Nat.max_le.2 ⟨Nat.min_le_left _ _, by decide⟩
  generalize nums 12 [27, 5, 4021, 9, 17, 10] ns = l at h2 h3 h4
  match l, h2, h3, h4 with
  | n0 :: n1 :: n2 :: n3 :: xs, h2, _, h4 => exact ⟨n0, n1, n2, n3 :: xs, rfl, h2 _ (.head _), h2 _ (.tail _ (.head _)), h2 _ (.tail _ (.tail _ (.head _))), by simp only [List.length_cons] at h4 ⊢; lia, List.cons_ne_nil _ _⟩
theorem sum_get (f : Nat → Nat) : ∀ l : List Nat, ((sumN (l.map f) : Nat) : Int) = sI (fun k => (f k : Int) * 1) l
  | [] => rfl
  | x :: l => by
    show ((f x + sumN (l.map f) : Nat) : Int) = (f x : Int) * 1 + sI _ l
    rw [← sum_get f l, Int.natCast_add, Int.mul_one]
theorem take_mir (A : List Int) (r : List Int) : (((0 :: (A ++ r)).map V.int).take (A.length + 1)).drop 1 = A.map V.int := by
  rw [List.map_cons, List.map_append, List.take_succ_cons, List.drop_succ_cons, List.drop_zero]
  exact List.take_left' (List.length_map ..)
theorem eqs_ints (l : List Int) : V.eqs (.list (l.map V.int)) (.list (l.map V.int)) = some true := by
  have h1 : ∀ l : List Int, V.plL 7 (l.map V.int) = true := fun l => by
    induction l with
    | nil => rfl
    | cons x l ih => exact ih
  have h2 : V.eqbL (l.map V.int) (l.map V.int) = true := by
    induction l with
    | nil => rfl
    | cons x l ih =>
      show ((x == x) && V.eqbL (l.map V.int) (l.map V.int)) = true
      rw [beq_self_eq_true, ih]; rfl
  have e : V.eqs (.list (l.map V.int)) (.list (l.map V.int)) = if (V.plL 7 (l.map V.int) && V.plL 7 (l.map V.int)) = true then some (V.eqbL (l.map V.int) (l.map V.int)) else none := rfl
  rw [e, h1, h2]; rfl
theorem law_pure (ns : List Int) : (run gL 600).call 13 [.list (ns.map V.int)] = some (.bool true) := by
  have hln : lineN = 1048576 := rfl
  obtain ⟨n0, n1, n2, xs, hn, h0, h1, h2, hx, hx0⟩ := nums_many (ns := ns)
  generalize hmd : 2 + n0 % 5 = m
  generalize hwd : 48 + n0 / 15 % 30 = w
  have m2 : 2 ≤ m := by lia
  have m6 : m ≤ 6 := by have := Nat.mod_lt n0 (show 0 < 5 by decide); lia
  have w48 : 48 ≤ w := by lia
  have w77 : w ≤ 77 := by have := Nat.mod_lt (n0 / 15) (show 0 < 30 by decide); lia
  generalize hsd : (1 : Int) - 2 * ((n0 / 450 % 2 : Nat) : Int) = side
  have hside : side = 1 ∨ side = -1 := by have := Nat.mod_lt (n0 / 450) (show 0 < 2 by decide); lia
  generalize he : endsL.getD (n0 / 5 % 3) [10] = e
  have hee : e ∈ endsL ∧ getV (.list [.str [10], .str [13], .str [13, 10]]) (.int (n0 / 5 % 3 : Nat)) = some (.str e) := by
    rw [← he]
    have : n0 / 5 % 3 = 0 ∨ n0 / 5 % 3 = 1 ∨ n0 / 5 % 3 = 2 := by lia
    rcases this with q | q | q <;> rw [q]
    · exact ⟨.head _, rfl⟩
    · exact ⟨.tail _ (.head _), rfl⟩
    · exact ⟨.tail _ (.tail _ (.head _)), rfl⟩
  -- the people and the hours
  have hpeople := people_run (n := n2) (m := m) h2 (by lia) m6 (M := 597) (by decide)
  obtain ⟨hd9, hw9, hk⟩ := people_facts (n := n2) (m - 1) 1
  generalize hP : peopleS n2 (m - 1) 1 = P at hpeople hd9 hw9 hk
  have hk0 : keysN P = kF m 0 := hk
  have hhl : (hoursS n1 0 xs).length = xs.length := hoursS_len
  have hhp : ∀ p ∈ hoursS n1 0 xs, p.1 ≤ 7 ∧ p.2 ≤ 7 := hoursS_le
  have hhours := hours_run (n0 := n0) (n1 := n1) (n2 := n2) hx (M := 596) (by decide)
  generalize hhs : hoursS n1 0 xs = hs at hhl hhp hhours
  have hne : hs ≠ [] := fun q => hx0 (List.length_eq_zero_iff.1 (by rw [← hhl, q]; rfl))
  obtain ⟨T0, hT0⟩ := Int.eq_ofNat_of_zero_le (wt_nonneg P)
  have hT0' : T0 ≤ 45 := by lia
  have h21 : T0 * 21 ^ hs.length ≤ 45 * 21 ^ 9 := Nat.mul_le_mul hT0' (Nat.pow_le_pow_right (by decide) (by lia))
  have h2160 : T0 * 21 ^ hs.length ≤ 2 ^ 60 := Nat.le_trans h21 (by decide)
  have hwalk := walked_run m2 m6 hee.1 hhp hk0 (by rw [hT0]; exact Int.le_refl _) h2160 (M := 597) (by decide)
  have htot := walk_tot m2 m6 hs 0 P T0 (by decide) hk0 hT0
  have htb := Nat.le_trans (totP_le hs T0 hhp) h21
  obtain ⟨t, ht, hsl, hkt⟩ := walk_keys (m := m) hs 0 P (by decide) hne
  generalize hcw : walkD m 0 P hs = cw at hwalk htot hkt
  -- the figures
  obtain ⟨H, hH⟩ : ∃ H, 2 ^ w = 2 * H := ⟨2 ^ (w - 1), by rw [← Nat.pow_succ']; congr 1; lia⟩
  have hH47 : 2 ^ 47 ≤ H := by
    have : 2 ^ 48 ≤ 2 ^ w := Nat.pow_le_pow_right (by decide) w48
    lia
  have hAlt : ∀ k, getN cw k < H := fun k => by
    have h3 := get_le k cw
    rw [htot] at h3
    have h4 : (45 * 21 ^ 9 : Nat) < 2 ^ 47 := by decide
    lia
  generalize hA : (List.range (m - 1)).map (fun i => getN cw (i + 1)) = A
  have hAl : A.length = m - 1 := by rw [← hA, List.length_map, List.length_range]
  have hA' : ∀ a ∈ A, a < H := fun a ha => by
    rw [← hA] at ha
    obtain ⟨i, _, rfl⟩ := List.mem_map.1 ha
    exact hAlt _
  obtain ⟨hnum, hvb⟩ := num_figs m2 m6 hH (by lia) hk0 ht hcw hkt hA hA'
  have hi2 := figs_i2V hH (by lia) w77 hA' (by lia) (by lia)
  have htold := told_run m2 m6 (by lia) w77 hside hk0 hd9 hhp (by lia) hnum hvb hi2 (M := 597) (by decide)
  have hfd : ((2 ^ w : Nat) : Int).fdiv 2 = H := by
    rw [hH, Int.natCast_mul, Int.fdiv_eq_ediv_of_nonneg _ (by decide)]
    show (2 : Int) * H / 2 = H
    lia
  have hF : ((figL H A).map fun d : Nat => V.int ((d : Int) - ((2 ^ w : Nat) : Int).fdiv 2)) = (mirL (castI A)).map V.int := by
    have e1 : (figL H A).map (fun d : Nat => V.int ((d : Int) - ((2 ^ w : Nat) : Int).fdiv 2)) = (castI (figL H A)).map fun x => V.int (x - H) := by
      rw [hfd, castI, List.map_map]; rfl
    rw [e1, figL_cast hA', List.map_map]
    apply List.map_congr_left
    intro x _
    show V.int ((H : Int) + x - H) = V.int x
    rw [Int.add_comm, Int.add_sub_cancel]
  rw [hF] at htold
  have hsumT : (totP T0 hs : Nat) = getN cw 0 + sumN A := by
    have h3 := wt_sorted (X := oneW) m2 m6 ht hkt
    rw [htot, hsl] at h3
    have h4 : List.range m = 0 :: (List.range (m - 1)).map (· + 1) := by
      obtain ⟨j, rfl⟩ : ∃ j, m = j + 1 := ⟨m - 1, by lia⟩
      exact List.range_succ_eq_map
    have h5 := sum_get (fun i => getN cw (i + 1)) (List.range (m - 1))
    rw [hA] at h5
    rw [h4] at h3
    have h6 : sI (fun k => (getN cw k : Int) * oneW k) ((List.range (m - 1)).map (· + 1)) = sI (fun i => (getN cw (i + 1) : Int) * 1) (List.range (m - 1)) := sI_map ..
    have h7 : (totP T0 hs : Int) = (getN cw 0 : Int) * 1 + sI (fun k => (getN cw k : Int) * oneW k) ((List.range (m - 1)).map (· + 1)) := h3
    rw [h6, ← h5] at h7
    lia
  -- the run
  refine call_of (f := 13) (n := 599) (σ := [.fz (.list (ns.map V.int)), .un, .un, .un, .un, .un, .un, .un, .un, .un, .un, .un, .un, .un, .un, .un, .un, .un, .un, .un]) rfl rfl ?_
  refine wx_assign (v := .list (nI (drw 12 ns))) (σ' := [.fz (.list (ns.map V.int)), .fz (.list (nI (drw 12 ns))), .un, .un, .un, .un, .un, .un, .un, .un, .un, .un, .un, .un, .un, .un, .un, .un, .un, .un]) (drawn_ev (N := 592) (k := 12) rfl rfl (Nat.le_of_ble_eq_true rfl)) rfl ?_
  generalize V.list (ns.map V.int) = v0
  refine wx_assign (v := .list (nI (n0 :: n1 :: n2 :: xs))) (σ' := [.fz v0, .fz (.list (nI (drw 12 ns))), .fz (.list (nI (n0 :: n1 :: n2 :: xs))), .un, .un, .un, .un, .un, .un, .un, .un, .un, .un, .un, .un, .un, .un, .un, .un, .un]) ?_ rfl ?_
  · rw [← hn]
    exact numbers_ev (N := 592) (dr := drw 12 ns) (dflt := [27, 5, 4021, 9, 17, 10]) rfl (fun M => rfl) (by rw [drw_len]; simp; lia)
  generalize V.list (nI (drw 12 ns)) = v1
  have hg0 : ∀ (n : Nat) (σ : Sig), σ.at 2 = .fz (.list (nI (n0 :: n1 :: n2 :: xs))) → (run gL (n + 2)).ev σ (.sub (.var 2) (.lit (.int 0))) = some (.int n0) := fun n σ hσ => ev_sub (x := .list (nI (n0 :: n1 :: n2 :: xs))) (by simp only [refV, hσ]) rfl (get_nI (k := 0) (by simp))
  refine wx_par (vs := [.int n0, .int m]) (σ' := [.fz v0, .fz v1, .fz (.list (nI (n0 :: n1 :: n2 :: xs))), .fz (.int n0), .fz (.int m), .un, .un, .un, .un, .un, .un, .un, .un, .un, .un, .un, .un, .un, .un, .un]) (freshV_two (hg0 _ _ rfl) (by rw [← hmd]; exact ev_bin rfl (mod_ev (k := 5) (hg0 _ _ rfl) (by decide) ⟨_, rfl⟩) rfl)) rfl ?_
  refine wx_fresh (v := .list []) rfl ?_
  refine wx_for (evL_one (slice3_ev (i := 2) rfl _)) rfl ?_
  refine (plain_loop (N := 568) (n0 := n0) (n1 := n1) (n2 := n2) (ys := xs) _ _ _ _ _ xs 0 [] .un .un (by lia) (by simp only [List.length_nil]; lia)).mono ?_
  rintro fl σ' ⟨rfl, e6, e7, rfl⟩
  rw [List.nil_append, hhs]
  refine wx_assign (v := .dict (dI P)) (σ' := [.fz v0, .fz v1, .fz (.list (nI (n0 :: n1 :: n2 :: xs))), .fz (.int n0), .fz (.int m), .own (.list (hs.map prN)), e6, e7, .fz (.dict (dI P)), .un, .un, .un, .un, .un, .un, .un, .un, .un, .un, .un]) (ev_call (vs := [.int n2, .int m]) (evL_two (ev_sub (x := .list (nI (n0 :: n1 :: n2 :: xs))) rfl rfl (get_nI (k := 2) (by simp))) rfl) hpeople) rfl ?_
  refine wx_assign (v := .tup [.dict (dI cw), .bool true]) (σ' := [.fz v0, .fz v1, .fz (.list (nI (n0 :: n1 :: n2 :: xs))), .fz (.int n0), .fz (.int m), .own (.list (hs.map prN)), e6, e7, .fz (.dict (dI P)), .fz (.dict (dI cw)), .fz (.bool true), .un, .un, .un, .un, .un, .un, .un, .un, .un]) (ev_call (vs := [.dict (dI P), .list (hs.map prN), .int m, .str e]) (evL_cons rfl (evL_three (ev_call (evL_one rfl) hhours) rfl (ev_sub (x := .list [.str [10], .str [13], .str [13, 10]]) rfl (mod_ev (k := 3) (div_ev (k := 5) (x := n0) rfl (by decide) (by decide) ⟨_, rfl⟩) (by decide) ⟨_, rfl⟩) hee.2))) hwalk) rfl ?_
  refine wx_freeze (v := .list (hs.map prN)) rfl ?_
  have hside_ev : ∀ (σ : Sig), σ.at 3 = .fz (.int n0) → (run gL 597).ev σ (.bin .sub (.lit (.int 1)) (.bin .mul (.lit (.int 2)) (.bin .fmod (.bin .fdiv (.var 3) (.lit (.int 450))) (.lit (.int 2))))) = some (.int side) := fun σ hσ => by
    have hv : (run gL 593).ev σ (.var 3) = some (.int n0) := by simp only [run_ev (n := 592), evStep, hσ]
    have hm2 := Nat.mod_lt (n0 / 450) (show 0 < 2 by decide)
    rw [← hsd]
    exact ev_bin rfl (ev_bin (x := .int 2) rfl (mod_ev (k := 2) (div_ev (k := 450) hv (by decide) (by decide) ⟨_, rfl⟩) (by decide) ⟨_, rfl⟩) (bin_mul (Nat.le_trans (Nat.add_le_add (bits_s (by lia) (by lia)) (bits_s (by lia) (by lia))) (by decide)))) rfl
  have hw_ev : ∀ (σ : Sig), σ.at 3 = .fz (.int n0) → (run gL 597).ev σ (.bin .add (.lit (.int 48)) (.bin .fmod (.bin .fdiv (.var 3) (.lit (.int 15))) (.lit (.int 30)))) = some (.int w) := fun σ hσ => by
    have hv : (run gL 594).ev σ (.var 3) = some (.int n0) := by simp only [run_ev (n := 593), evStep, hσ]
    rw [← hwd]
    exact ev_bin rfl (mod_ev (k := 30) (div_ev (k := 15) hv (by decide) (by decide) ⟨_, rfl⟩) (by decide) ⟨_, rfl⟩) rfl
  refine wx_assign (v := .list ((mirL (castI A)).map V.int)) (σ' := [.fz v0, .fz v1, .fz (.list (nI (n0 :: n1 :: n2 :: xs))), .fz (.int n0), .fz (.int m), .fz (.list (hs.map prN)), e6, e7, .fz (.dict (dI P)), .fz (.dict (dI cw)), .fz (.bool true), .fz (.list ((mirL (castI A)).map V.int)), .un, .un, .un, .un, .un, .un, .un, .un]) (ev_call (vs := [.dict (dI P), .list (hs.map prN), .int m, .int w, .int side]) (evL_cons rfl (evL_cons rfl (evL_three rfl (hw_ev _ rfl) (hside_ev _ rfl)))) htold) rfl ?_
  have hkeys : iterV .plain [.dict (dI P)] = some (nI (keysN P)) := by
    show some ((dI P).map fun p => V.int p.1) = some (nI (P.map (·.1)))
    rw [dI, nI, List.map_map, List.map_map]; rfl
  have hsumP : sumN ((keysN P).map (getN P)) = T0 := by
    have h3 := sum_get (getN P) (keysN P)
    have h4 := wt_keys (X := oneW) (l := P) (by rw [hk0]; exact (hour_facts m2 m6 (show 0 < 3 by decide)).nodup)
    rw [hT0] at h4
    have h5 : sI (fun k => (getN P k : Int) * 1) (keysN P) = (T0 : Int) := h4
    rw [h5] at h3
    exact Int.ofNat.inj h3
  have hcomp : compV (run gL 596).ev [.fz v0, .fz v1, .fz (.list (nI (n0 :: n1 :: n2 :: xs))), .fz (.int n0), .fz (.int m), .fz (.list (hs.map prN)), e6, e7, .fz (.dict (dI P)), .fz (.dict (dI cw)), .fz (.bool true), .fz (.list ((mirL (castI A)).map V.int)), .un, .un, .un, .un, .un, .un, .un, .un] (.sub (.var 8) (.var 17)) (.one 17) [] (nI (keysN P)) = some (nI ((keysN P).map (getN P))) := by
    have e1 : nI ((keysN P).map (getN P)) = (keysN P).map fun k => V.int (getN P k : Nat) := List.map_map ..
    rw [e1]
    exact compV_map (fun d : Nat => V.int (d : Int)) (fun k => V.int (getN P k : Nat)) (keysN P) fun k hk' => ⟨_, rfl, ev_sub (x := .dict (dI P)) (y := .int k) rfl rfl ((dlook_dI k P).1 hk')⟩
  refine wx_assign (v := .int T0) (σ' := [.fz v0, .fz v1, .fz (.list (nI (n0 :: n1 :: n2 :: xs))), .fz (.int n0), .fz (.int m), .fz (.list (hs.map prN)), e6, e7, .fz (.dict (dI P)), .fz (.dict (dI cw)), .fz (.bool true), .fz (.list ((mirL (castI A)).map V.int)), .fz (.int T0), .un, .un, .un, .un, .un, .un, .un]) (ev_prim (evL_one (ev_comp (evL_one rfl) hkeys hcomp)) (by rw [sum_nI, hsumP])) rfl ?_
  refine wx_for (evL_one rfl) rfl ?_
  refine (tot_loop (N := 578) _ _ _ _ _ _ _ _ _ _ _ _ _ hs T0 .un .un hhp h2160).mono ?_
  rintro fl σ' ⟨rfl, e13, e14, rfl⟩
  unfold lwσ
  have hAn : (castI A).map V.int = nI A := List.map_map ..
  have hfig : (run gL 594).ev [.fz v0, .fz v1, .fz (.list (nI (n0 :: n1 :: n2 :: xs))), .fz (.int n0), .fz (.int m), .fz (.list (hs.map prN)), e6, e7, .fz (.dict (dI P)), .fz (.dict (dI cw)), .fz (.bool true), .fz (.list ((mirL (castI A)).map V.int)), .fz (.int (totP T0 hs : Nat)), e13, e14, .un, .un, .un, .un, .un] (.slice (.var 11) (some (.lit (.int 1))) (some (.var 4))) = some (.list (nI A)) := by
    have e1 : (run gL 593).ev [.fz v0, .fz v1, .fz (.list (nI (n0 :: n1 :: n2 :: xs))), .fz (.int n0), .fz (.int m), .fz (.list (hs.map prN)), e6, e7, .fz (.dict (dI P)), .fz (.dict (dI cw)), .fz (.bool true), .fz (.list ((mirL (castI A)).map V.int)), .fz (.int (totP T0 hs : Nat)), e13, e14, .un, .un, .un, .un, .un] (.lit (.int 1)) = some (.int ((1 : Nat) : Int)) := rfl
    have e2 : (run gL 593).ev [.fz v0, .fz v1, .fz (.list (nI (n0 :: n1 :: n2 :: xs))), .fz (.int n0), .fz (.int m), .fz (.list (hs.map prN)), e6, e7, .fz (.dict (dI P)), .fz (.dict (dI cw)), .fz (.bool true), .fz (.list ((mirL (castI A)).map V.int)), .fz (.int (totP T0 hs : Nat)), e13, e14, .un, .un, .un, .un, .un] (.var 4) = some (.int (m : Int)) := rfl
    have e3 : refV (run gL 593).ev [.fz v0, .fz v1, .fz (.list (nI (n0 :: n1 :: n2 :: xs))), .fz (.int n0), .fz (.int m), .fz (.list (hs.map prN)), e6, e7, .fz (.dict (dI P)), .fz (.dict (dI cw)), .fz (.bool true), .fz (.list ((mirL (castI A)).map V.int)), .fz (.int (totP T0 hs : Nat)), e13, e14, .un, .un, .un, .un, .un] (.var 11) = some (.list ((mirL (castI A)).map V.int)) := rfl
    rw [run_ev (n := 593)]
    simp only [evStep, e3, optV, e1, e2]
    rw [slice_nat]
    have e4 : m = (castI A).length + 1 := by rw [castI, List.length_map, hAl]; lia
    rw [e4]
    exact congrArg (fun l => some (V.list l)) ((take_mir (castI A) _).trans hAn)
  refine wx_skip (m := 597) (x := .bool false) (ev_or2 (x := false) (y := false) (ev_not (x := true) (v := .bool true) rfl rfl) fun _ => ev_cmp (x := .int (getN cw 0 : Nat)) (ev_meth (x := .dict (dI cw)) rfl (evL_two rfl rfl) (get_dI cw 0)) ?_) rfl ?_
  · rw [cmp_neI (y := (getN cw 0 : Int)) (ev_bin (x := .int (totP T0 hs : Nat)) (y := .int (sumN A : Nat)) rfl (ev_prim (evL_one hfig) (sum_nI A)) ?_), beq_self_eq_true]
    · rfl
    · show some (V.int ((totP T0 hs : Nat) - (sumN A : Nat) : Int)) = _
      rw [hsumT, Int.natCast_add, Int.add_sub_cancel]
  have hends : compV (run gL 597).ev [.fz v0, .fz v1, .fz (.list (nI (n0 :: n1 :: n2 :: xs))), .fz (.int n0), .fz (.int m), .fz (.list (hs.map prN)), e6, e7, .fz (.dict (dI P)), .fz (.dict (dI cw)), .fz (.bool true), .fz (.list ((mirL (castI A)).map V.int)), .fz (.int (totP T0 hs : Nat)), e13, e14, .un, .un, .un, .un, .un] (.meth .get2 (.var 9) [.var 18, .lit (.int 0)]) (.one 18) [] ((List.range (m - 1)).map fun k => V.int ((1 + k : Nat) : Int)) = some (nI A) := by
    have e1 : nI A = (List.range (m - 1)).map fun i => V.int (getN cw (i + 1) : Nat) := by rw [← hA]; exact List.map_map ..
    rw [e1]
    refine compV_map (fun k => V.int ((1 + k : Nat) : Int)) (fun i => V.int (getN cw (i + 1) : Nat)) (List.range (m - 1)) fun k _ => ⟨_, rfl, ?_⟩
    rw [Nat.add_comm 1 k]
    exact ev_meth (x := .dict (dI cw)) rfl (evL_two rfl rfl) (get_dI cw (k + 1))
  refine wx_assign (v := .list (nI A)) (σ' := [.fz v0, .fz v1, .fz (.list (nI (n0 :: n1 :: n2 :: xs))), .fz (.int n0), .fz (.int m), .fz (.list (hs.map prN)), e6, e7, .fz (.dict (dI P)), .fz (.dict (dI cw)), .fz (.bool true), .fz (.list ((mirL (castI A)).map V.int)), .fz (.int (totP T0 hs : Nat)), e13, e14, .fz (.list (nI A)), .un, .un, .un, .un]) (ev_comp (vs := [.int ((1 : Nat) : Int), .int m]) (evL_two rfl rfl) (range_nat (by decide) (by lia)) hends) rfl ?_
  have hneg : compV (run gL 595).ev [.fz v0, .fz v1, .fz (.list (nI (n0 :: n1 :: n2 :: xs))), .fz (.int n0), .fz (.int m), .fz (.list (hs.map prN)), e6, e7, .fz (.dict (dI P)), .fz (.dict (dI cw)), .fz (.bool true), .fz (.list ((mirL (castI A)).map V.int)), .fz (.int (totP T0 hs : Nat)), e13, e14, .fz (.list (nI A)), .un, .un, .un, .un] (.un .neg (.var 19)) (.one 19) [] (nI A).reverse = some (((castI A).reverse.map fun x => -x).map V.int) := by
    have e1 : (nI A).reverse = (castI A).reverse.map V.int := by rw [← hAn, List.map_reverse]
    rw [e1, List.map_map (l := (castI A).reverse)]
    exact compV_map V.int (V.int ∘ fun x => -x) (castI A).reverse fun x _ => ⟨_, rfl, rfl⟩
  have hlenA : (nI A).length ≤ 5 := by rw [nI, List.length_map]; lia
  have hlenB : (((castI A).reverse.map fun x => -x).map V.int).length ≤ 5 := by rw [List.length_map, List.length_map, List.length_reverse, castI, List.length_map]; lia
  have hbin : (run gL 597).ev [.fz v0, .fz v1, .fz (.list (nI (n0 :: n1 :: n2 :: xs))), .fz (.int n0), .fz (.int m), .fz (.list (hs.map prN)), e6, e7, .fz (.dict (dI P)), .fz (.dict (dI cw)), .fz (.bool true), .fz (.list ((mirL (castI A)).map V.int)), .fz (.int (totP T0 hs : Nat)), e13, e14, .fz (.list (nI A)), .un, .un, .un, .un] (.bin .add (.bin .add (.bin .add (.list [.lit (.int 0)]) (.var 15)) (.list [.lit (.int 0)])) (.comp (.un .neg (.var 19)) (.one 19) .reversed [.var 15] [])) = some (.list ((mirL (castI A)).map V.int)) := by
    refine ev_bin (ev_bin (ev_bin (x := .list [.int 0]) rfl rfl (bin_addL (by show 1 + _ ≤ _; lia))) (y := .list [.int 0]) rfl (bin_addL (by rw [List.length_append]; show 1 + _ + 1 ≤ _; lia))) (ev_comp (evL_one rfl) rfl hneg) ?_
    rw [bin_addL (by rw [List.length_append, List.length_append]; show 1 + _ + 1 + _ ≤ _; lia), ← hAn]
    refine congrArg (fun l => some (V.list l)) ?_
    unfold mirL
    rw [List.map_cons, List.map_append, List.map_cons, List.append_assoc, List.append_assoc]; rfl
  refine wx_ret (v := .bool true) (ev_cmp (x := .list ((mirL (castI A)).map V.int)) rfl ?_) rfl
  unfold cmp1V
  rw [if_neg (by decide), hbin]
  exact eqs_ints _
end Mine
namespace Mine
open PySem PySem.Calls PySem.W PySem.W.X PyProof.Rows
noncomputable def i2p : List Pos := [⟨37, 4, 37, 12⟩, ⟨37, 16, 37, 17⟩, ⟨37, 15, 37, 18⟩, ⟨37, 23, 37, 24⟩, ⟨37, 23, 37, 35⟩, ⟨37, 23, 37, 37⟩, ⟨37, 40, 37, 41⟩, ⟨37, 23, 37, 41⟩, ⟨37, 44, 37, 45⟩, ⟨37, 23, 37, 45⟩, ⟨37, 50, 37, 51⟩, ⟨37, 22, 37, 51⟩, ⟨37, 15, 37, 52⟩, ⟨37, 4, 37, 52⟩, ⟨0, 0, 0, 0⟩, ⟨0, 0, 0, 0⟩, ⟨0, 0, 0, 0⟩, ⟨39, 4, 48, 28⟩, ⟨49, 7, 49, 8⟩, ⟨50, 8, 50, 13⟩, ⟨50, 14, 50, 15⟩, ⟨50, 17, 50, 18⟩, ⟨50, 20, 50, 23⟩, ⟨50, 24, 50, 32⟩, ⟨50, 20, 50, 33⟩, ⟨50, 8, 50, 34⟩, ⟨50, 8, 50, 34⟩, ⟨49, 4, 50, 34⟩, ⟨51, 11, 51, 19⟩, ⟨51, 4, 51, 19⟩]
noncomputable def i2pa : List Pos := [⟨39, 14, 39, 15⟩, ⟨39, 17, 39, 18⟩, ⟨39, 20, 39, 21⟩]
noncomputable def i2pi : List Pos := [⟨40, 11, 40, 12⟩, ⟨40, 15, 40, 16⟩, ⟨40, 11, 40, 16⟩, ⟨40, 20, 40, 21⟩, ⟨40, 11, 40, 21⟩, ⟨41, 12, 41, 20⟩, ⟨41, 21, 41, 22⟩, ⟨41, 12, 41, 23⟩, ⟨41, 26, 41, 27⟩, ⟨41, 12, 41, 27⟩, ⟨42, 12, 42, 18⟩, ⟨40, 8, 42, 18⟩, ⟨43, 8, 43, 11⟩, ⟨43, 14, 43, 15⟩, ⟨43, 18, 43, 19⟩, ⟨43, 14, 43, 19⟩, ⟨43, 23, 43, 24⟩, ⟨43, 14, 43, 24⟩, ⟨43, 8, 43, 24⟩, ⟨44, 8, 44, 13⟩, ⟨44, 17, 44, 20⟩, ⟨44, 23, 44, 24⟩, ⟨44, 17, 44, 24⟩, ⟨44, 28, 44, 29⟩, ⟨44, 16, 44, 29⟩, ⟨44, 8, 44, 29⟩, ⟨45, 8, 45, 13⟩, ⟨45, 16, 45, 17⟩, ⟨45, 21, 45, 26⟩, ⟨45, 16, 45, 26⟩, ⟨45, 8, 45, 26⟩, ⟨46, 8, 46, 13⟩, ⟨46, 16, 46, 17⟩, ⟨46, 20, 46, 25⟩, ⟨46, 29, 46, 34⟩, ⟨46, 20, 46, 34⟩, ⟨46, 16, 46, 34⟩, ⟨46, 8, 46, 34⟩, ⟨47, 8, 47, 13⟩, ⟨47, 14, 47, 19⟩, ⟨47, 21, 47, 22⟩, ⟨47, 24, 47, 27⟩, ⟨47, 8, 47, 28⟩, ⟨47, 8, 47, 28⟩, ⟨48, 8, 48, 13⟩, ⟨48, 14, 48, 19⟩, ⟨48, 21, 48, 24⟩, ⟨48, 26, 48, 27⟩, ⟨48, 8, 48, 28⟩, ⟨48, 8, 48, 28⟩]
noncomputable def d2p : List Pos := [⟨54, 4, 59, 55⟩, ⟨60, 36, 60, 42⟩, ⟨60, 11, 60, 16⟩, ⟨60, 17, 60, 18⟩, ⟨60, 20, 60, 23⟩, ⟨60, 24, 60, 30⟩, ⟨60, 20, 60, 31⟩, ⟨60, 11, 60, 32⟩, ⟨60, 48, 60, 49⟩, ⟨60, 11, 60, 49⟩, ⟨60, 4, 60, 49⟩]
noncomputable def d2pa : List Pos := [⟨54, 14, 54, 15⟩, ⟨54, 17, 54, 18⟩]
noncomputable def d2pi : List Pos := [⟨55, 11, 55, 12⟩, ⟨55, 15, 55, 16⟩, ⟨55, 11, 55, 16⟩, ⟨55, 20, 55, 21⟩, ⟨55, 11, 55, 21⟩, ⟨56, 19, 56, 25⟩, ⟨56, 26, 56, 27⟩, ⟨56, 19, 56, 28⟩, ⟨56, 12, 56, 28⟩, ⟨55, 8, 56, 28⟩, ⟨57, 8, 57, 11⟩, ⟨57, 14, 57, 15⟩, ⟨57, 18, 57, 19⟩, ⟨57, 14, 57, 19⟩, ⟨57, 23, 57, 24⟩, ⟨57, 14, 57, 24⟩, ⟨57, 8, 57, 24⟩, ⟨58, 8, 58, 13⟩, ⟨58, 17, 58, 20⟩, ⟨58, 23, 58, 24⟩, ⟨58, 17, 58, 24⟩, ⟨58, 28, 58, 29⟩, ⟨58, 16, 58, 29⟩, ⟨58, 8, 58, 29⟩, ⟨59, 16, 59, 21⟩, ⟨59, 22, 59, 25⟩, ⟨59, 27, 59, 28⟩, ⟨59, 16, 59, 29⟩, ⟨59, 33, 59, 38⟩, ⟨59, 16, 59, 38⟩, ⟨59, 42, 59, 47⟩, ⟨59, 48, 59, 49⟩, ⟨59, 51, 59, 54⟩, ⟨59, 42, 59, 55⟩, ⟨59, 15, 59, 55⟩, ⟨59, 8, 59, 55⟩]
noncomputable def qp : List Pos := [⟨7, 11, 7, 21⟩, ⟨7, 11, 7, 25⟩, ⟨7, 26, 7, 30⟩, ⟨7, 32, 7, 42⟩, ⟨7, 32, 7, 46⟩, ⟨7, 47, 7, 51⟩, ⟨7, 53, 7, 57⟩, ⟨7, 32, 7, 58⟩, ⟨7, 11, 7, 59⟩, ⟨7, 4, 7, 59⟩]
noncomputable def faL : Nat → Addr := fun f => [98, 55, 62, 69, 76, 83, 90, 48, 105, 112, 117, 124, 129, 134].getD f 0
noncomputable def tabI : TabP := ⟨68, 64, ⟨39, 4, 48, 28⟩, "_int2digits.<locals>.inner"⟩
noncomputable def tabD : TabP := ⟨75, 71, ⟨54, 4, 59, 55⟩, "_digits2int.<locals>.inner"⟩
noncomputable def tabsL : List TabP := [tabI, tabD]
theorem core {K : Frag} {prog : Program} {w : World} {s : Shared} {mg mb : Str → Option Value} {c : ClaimW} {cl : Str → Option Addr} {mean : ExcName → Option Value} {args : List WData} (hr : ∀ cls, c.raises args cls = false) (hp : c.post args (.bool true) args = true)
    (X : K.In s.heap) (Tg : s.heap.Ns mainGlobals mg) (Tb : s.heap.Ns builtinsNs mb) (Tn : s.heap.NoLimit) (Ti : ∀ x : Str, x ≠ "__name__" → mb x = bootBuiltins x)
    (F_pretty_flags : FnT K fidL gidL 98 1 4 none ms_pretty_flags vars_pretty_flags ["flags"])
    (F_div2n1n : FnT K fidL gidL 55 3 11 none ms_div2n1n vars_div2n1n ["a", "b", "n"])
    (F_div3n2n : FnT K fidL gidL 62 6 8 none ms_div3n2n vars_div3n2n ["a12", "a3", "b", "b1", "b2", "n"])
    (F_divmod_pos : FnT K fidL gidL 83 2 9 none ms_divmod_pos vars_divmod_pos ["a", "b"])
    (F_int_divmod : FnT K fidL gidL 90 2 4 none ms_int_divmod vars_int_divmod ["a", "b"])
    (F_law_hours : FnT K fidL gidL 105 1 6 none ms_law_hours vars_law_hours ["numbers"])
    (F_law_people : FnT K fidL gidL 112 2 4 none ms_law_people vars_law_people ["number", "most"])
    (F_law_hour : FnT K fidL gidL 117 5 17 none ms_law_hour vars_law_hour ["crowd", "gone", "stay", "most", "end"])
    (F_law_walked : FnT K fidL gidL 124 4 8 none ms_law_walked vars_law_walked ["crowd", "hours", "most", "end"])
    (F_law_told : FnT K fidL gidL 129 5 13 none ms_law_told vars_law_told ["people", "hours", "most", "width", "side"])
    (F_law : FnT K fidL gidL 134 1 20 none ms_law vars_law ["script"])
    (I2 : I2T K fidL gidL 69 tabI (at0 i2p) (at0 i2pa) (at0 i2pi))
    (D2 : D2T K fidL gidL 76 tabD (at0 d2p) (at0 d2pa) (at0 d2pi))
    (QQ : QT K fidL gidL 48 36 41 342 (at0 qp))
    (chk : (fnsIn K fidL faL && noneIn K builtL && sysIn K && tabsL.all (fun T => codeHdIn K T.c T.P) && bmIn K tabsL) = true)
    (t1 : K.lookup 64 = some (tabObj #[]))
    (t2 : K.lookup 71 = some (tabObj #[]))
    (hfl : ∃ es n, K.lookup 91 = some (dictO es n) ∧ ∀ G, DReps G es flagL)
    (hfm : nsIn K mainGlobals "COMPILER_FLAG_NAMES" = some (some (.ref 91)))
    (hdm : nsIn K mainGlobals "_DIV_LIMIT" = some (some (.int 4000 353)))
    (hg : s.gens = #[]) {fa' : Addr} (hm : mg "law" = some (.ref fa')) {a : Addr} {vs : List Value} {ns : List Int} (hs : s.heap.get? a = some { cls := .type "list", data := .seq vs.toArray }) (hi : IntsAre vs ns) (hz : ns.length ≤ 63) :
    wpAny (model prog w) callerA (call (.ref fa') [.ref a]) (fun v s' => GoodWG c cl mean args s (.ok (.ret v)) s') (fun e s' => GoodWG c cl mean args s (.error e) s') s := by
  simp only [Bool.and_eq_true] at chk
  obtain ⟨⟨⟨⟨c1, c2⟩, c3⟩, c4⟩, c5⟩ := chk
  have N : Gnd K mg mb tabsL s.heap := by
    refine ⟨X, Tg, Tb, Tn, Ti, fun T hT => ?_, fun T hT T' hT' e => ?_⟩
    · rcases List.mem_cons.1 hT with rfl | hT
      · exact X _ _ t1
      · rcases List.mem_cons.1 hT with rfl | hT
        · exact X _ _ t2
        · cases hT
    · rcases List.mem_cons.1 hT with rfl | hT <;> rcases List.mem_cons.1 hT' with rfl | hT'
      · rfl
      · rcases List.mem_cons.1 hT' with rfl | hT'
        · exact absurd e (by decide)
        · cases hT'
      · rcases List.mem_cons.1 hT with rfl | hT
        · exact absurd e (by decide)
        · cases hT
      · rcases List.mem_cons.1 hT with rfl | hT
        · rcases List.mem_cons.1 hT' with rfl | hT'
          · rfl
          · cases hT'
        · cases hT
  have gl : ∀ x i v, gidL.lookup x = some i → gL.gl i = some v → ∃ u, mg x = some u ∧ Rep (mkB prog w s mg mb gL fidL gidL faL tabsL).G0 u v := by
    intro x i v hx hv
    have hx' := lookup_memN hx
    simp only [gidL, List.mem_cons, Prod.mk.injEq, List.not_mem_nil, or_false] at hx'
    rcases hx' with ⟨rfl, rfl⟩ | ⟨rfl, rfl⟩
    · cases hv
      obtain ⟨es, n, e1, e2⟩ := hfl
      exact ⟨_, mg_of N.X N.g hfm, .dict (g0_K N e1 (by intro q; cases q)) (e2 _) (by decide)⟩
    · cases hv
      exact ⟨_, mg_of N.X N.g hdm, .int _ _⟩
  have ok : BaseOK (mkB prog w s mg mb gL fidL gidL faL tabsL) := mkB_ok N c1 c2 c3 gl
  have TB : TabsB (mkB prog w s mg mb gL fidL gidL faL tabsL) tabsL := mkB_tabs N c4 c5
  have fo : FnsOK (mkB prog w s mg mb gL fidL gidL faL tabsL) := by
    refine ⟨fun x f p n io ms _ hf => ?_, fun x f h _ hf => ?_⟩
    · match f, hf with
      | 0, hf => cases hf; exact ⟨_, _, _, _, _, FnT.ok (f := 0) F_pretty_flags N⟩
      | 1, hf => cases hf; exact ⟨_, _, _, _, _, FnT.ok (f := 1) F_div2n1n N⟩
      | 2, hf => cases hf; exact ⟨_, _, _, _, _, FnT.ok (f := 2) F_div3n2n N⟩
      | 3, hf => cases hf
      | 4, hf => cases hf
      | 5, hf => cases hf; exact ⟨_, _, _, _, _, FnT.ok (f := 5) F_divmod_pos N⟩
      | 6, hf => cases hf; exact ⟨_, _, _, _, _, FnT.ok (f := 6) F_int_divmod N⟩
      | 7, hf => cases hf
      | 8, hf => cases hf; exact ⟨_, _, _, _, _, FnT.ok (f := 8) F_law_hours N⟩
      | 9, hf => cases hf; exact ⟨_, _, _, _, _, FnT.ok (f := 9) F_law_people N⟩
      | 10, hf => cases hf; exact ⟨_, _, _, _, _, FnT.ok (f := 10) F_law_hour N⟩
      | 11, hf => cases hf; exact ⟨_, _, _, _, _, FnT.ok (f := 11) F_law_walked N⟩
      | 12, hf => cases hf; exact ⟨_, _, _, _, _, FnT.ok (f := 12) F_law_told N⟩
      | 13, hf => cases hf; exact ⟨_, _, _, _, _, FnT.ok (f := 13) F_law N⟩
      | _ + 14, hf => cases hf
    · match f, hf with
      | 0, hf => cases hf
      | 1, hf => cases hf
      | 2, hf => cases hf
      | 3, hf => cases hf; exact I2T.spec (f := 3) I2 N ok TB (.head _)
      | 4, hf => cases hf; exact D2T.spec (f := 4) D2 N ok TB (.tail _ (.head _))
      | 5, hf => cases hf
      | 6, hf => cases hf
      | 7, hf => cases hf; exact QT.specF (f := 7) QQ N ok
      | 8, hf => cases hf
      | 9, hf => cases hf
      | 10, hf => cases hf
      | 11, hf => cases hf
      | 12, hf => cases hf
      | 13, hf => cases hf
      | _ + 14, hf => cases hf
  exact law_end hr hp N ok c4 fo hg (f := 13) rfl hm hs hi hz (law_pure ns)
end Mine
open PySem PySem.W PyProof.Rows PySem.W.X
set_option Elab.async false
set_option maxRecDepth 100000 in
set_option maxHeartbeats 8000000 in
theorem PySem.Challenge.cw_wo0034_02_holds : PySem.Challenge.rw_wo0034_02.Holds := by
  w_on; refine PySem.W.holds_law (by decide +kernel) fun said => ?_; z_head
  (case hw => w_witness2)
  k_fill
  intro w s₀ s₁ mg mb G y fa o pm cd doc dV kV ho hd hcd hD hmg hg args vals as L hpre hlay hrd hwl hlo
  z_open y L KX ZH ZN ZT
  refine Ground.open G ?_
  intro T B D TE TW
  wrow_args hpre hlay hrd hwl hlo
  obtain ⟨hat, hsz⟩ := script_at L
  rw [ZN] at hat hsz
  subst hat
  rename_i hI _ _ _ hL _ _
  refine Mine.core ?_ ?_ KX T.g T.b T.nolimit T.builtins ?_ ?_ ?_ ?_ ?_ ?_ ?_ ?_ ?_ ?_ ?_ ?_ ?_ ?_ ?_ ?_ ?_ ?_ ?_ ?_ hg hmg (script_obj L ‹_›) ‹_› ?_
  · exact fun _ => rfl
  · first | kernel_rfl | wrow_post
  · exact ⟨by kernel_rfl, by kernel_rfl, by kernel_rfl, (.cons (.fresh rfl (.val (.list (by decide) .nil) rfl rfl) rfl (by intro q; cases q)) (.cons (.for' (.one rfl) rfl (.range1 rfl .cint) (.cons (.assign (.one rfl) (.bin rfl .cint (.var rfl rfl)) rfl rfl) (.cons (.ifs (.bin rfl (.var rfl rfl) (.var rfl rfl)) (.cons (.append rfl rfl (.meth rfl rfl (by decide) rfl (.glob rfl rfl rfl) (.cons (.var rfl rfl) (.cons (.prim rfl rfl (.cons (.var rfl rfl) .nil)) .nil))) rfl) (.cons (.aug rfl rfl rfl (.var rfl rfl)) (.cons (.ifs (.un rfl (.var rfl rfl)) (.cons .brk .nil) .nil) .nil))) .nil) .nil)) (.cons (.append rfl rfl (.prim rfl rfl (.cons (.var rfl rfl) .nil)) rfl) .nil)) (.ghost (x := "names") rfl (by intro q; cases q) (.cons (.ret (.meth rfl rfl (by decide) rfl (.cstr rfl (by decide)) (.cons (.var rfl rfl) .nil))) .nil)))), by kernel_rfl, by kernel_rfl, by kernel_rfl, by kernel_rfl, Mine.bind1 fun a => by kernel_rfl, rfl, by kernel_rfl, by decide, by intro i q; cases q <;> decide⟩
  · exact ⟨by kernel_rfl, by kernel_rfl, by kernel_rfl, (.cons (.ifs (.cmp rfl (.bin rfl (.meth rfl rfl (by decide) rfl (.var rfl rfl) .nil) (.var rfl rfl)) (.glob rfl rfl rfl)) (.cons (.ret (.prim rfl rfl (.cons (.var rfl rfl) (.cons (.var rfl rfl) .nil)))) .nil) .nil) (.cons (.assign (.one rfl) (.bin rfl (.var rfl rfl) .cint) rfl rfl) (.cons (.ifs (.var rfl rfl) (.cons (.aug rfl rfl rfl .cint) (.cons (.aug rfl rfl rfl .cint) (.cons (.aug rfl rfl rfl .cint) .nil))) .nil) (.cons (.assign (.one rfl) (.bin rfl (.var rfl rfl) .cint) rfl rfl) (.cons (.assign (.one rfl) (.bin rfl (.bin rfl .cint (.var rfl rfl)) .cint) rfl rfl) (.cons (.par (.cons rfl (.bin rfl (.var rfl rfl) (.var rfl rfl)) (fun q => by cases q) (.cons rfl (.bin rfl (.var rfl rfl) (.var rfl rfl)) (fun q => by cases q) .nil)) (by decide) (by decide) (by rfl)) (.cons (.assign (.many (xs := [("q1", _), ("r", _)]) rfl (by decide)) (.call rfl rfl rfl (by decide) (.cons (.bin rfl (.var rfl rfl) (.var rfl rfl)) (.cons (.bin rfl (.bin rfl (.var rfl rfl) (.var rfl rfl)) (.var rfl rfl)) (.cons (.var rfl rfl) (.cons (.var rfl rfl) (.cons (.var rfl rfl) (.cons (.var rfl rfl) .nil))))))) rfl rfl) (.cons (.assign (.many (xs := [("q2", _), ("r", _)]) rfl (by decide)) (.call rfl rfl rfl (by decide) (.cons (.var rfl rfl) (.cons (.bin rfl (.var rfl rfl) (.var rfl rfl)) (.cons (.var rfl rfl) (.cons (.var rfl rfl) (.cons (.var rfl rfl) (.cons (.var rfl rfl) .nil))))))) rfl rfl) (.cons (.ifs (.var rfl rfl) (.cons (.aug rfl rfl rfl .cint) .nil) .nil) (.cons (.ret (.tup (by decide) (.cons (.bin rfl (.bin rfl (.var rfl rfl) (.var rfl rfl)) (.var rfl rfl)) (.cons (.var rfl rfl) .nil)))) .nil)))))))))), by kernel_rfl, by kernel_rfl, by kernel_rfl, by kernel_rfl, Mine.bind3 fun a b c => by kernel_rfl, rfl, by kernel_rfl, by decide, by intro i q; cases q <;> decide⟩
  · exact ⟨by kernel_rfl, by kernel_rfl, by kernel_rfl, (.cons (.ifs (.cmp rfl (.bin rfl (.var rfl rfl) (.var rfl rfl)) (.var rfl rfl)) (.cons (.par (.cons rfl (.bin rfl (.bin rfl .cint (.var rfl rfl)) .cint) (fun q => by cases q) (.cons rfl (.bin rfl (.bin rfl (.var rfl rfl) (.bin rfl (.var rfl rfl) (.var rfl rfl))) (.var rfl rfl)) (fun q => by cases q) .nil)) (by decide) (by decide) (by rfl)) .nil) (.cons (.assign (.many (xs := [("q", _), ("r", _)]) rfl (by decide)) (.call rfl rfl rfl (by decide) (.cons (.var rfl rfl) (.cons (.var rfl rfl) (.cons (.var rfl rfl) .nil)))) rfl rfl) .nil)) (.cons (.assign (.one rfl) (.bin rfl (.bin rfl (.bin rfl (.var rfl rfl) (.var rfl rfl)) (.var rfl rfl)) (.bin rfl (.var rfl rfl) (.var rfl rfl))) rfl rfl) (.cons (.while' (.cmp rfl (.var rfl rfl) .cint) (.cons (.aug rfl rfl rfl .cint) (.cons (.aug rfl rfl rfl (.var rfl rfl)) .nil))) (.cons (.ret (.tup (by decide) (.cons (.var rfl rfl) (.cons (.var rfl rfl) .nil)))) .nil)))), by kernel_rfl, by kernel_rfl, by kernel_rfl, by kernel_rfl, Mine.bind6 fun a b c d e f => by kernel_rfl, rfl, by kernel_rfl, by decide, by intro i q; cases q <;> decide⟩
  · exact ⟨by kernel_rfl, by kernel_rfl, by kernel_rfl, (.cons (.assign (.one rfl) (.meth rfl rfl (by decide) rfl (.var rfl rfl) .nil) rfl rfl) (.cons (.assign (.one rfl) (.call rfl rfl rfl (by decide) (.cons (.var rfl rfl) (.cons (.var rfl rfl) .nil))) rfl rfl) (.cons (.assign (.one rfl) .cint rfl rfl) (.cons (.fresh rfl (.val (.list (by decide) .nil) rfl rfl) rfl (by intro q; cases q)) (.cons (.for' (.one rfl) rfl (.reversed rfl (.var rfl rfl)) (.cons (.assign (.many (xs := [("q_digit", _), ("r", _)]) rfl (by decide)) (.call rfl rfl rfl (by decide) (.cons (.bin rfl (.bin rfl (.var rfl rfl) (.var rfl rfl)) (.var rfl rfl)) (.cons (.var rfl rfl) (.cons (.var rfl rfl) .nil)))) rfl rfl) (.cons (.append rfl rfl (.var rfl rfl) rfl) .nil)) .nil) (.cons (.reverse rfl rfl rfl) (.ghost (x := "q_digits") rfl (by intro q; cases q) (.cons (.assign (.one rfl) (.call rfl rfl rfl (by decide) (.cons (.var rfl rfl) (.cons (.var rfl rfl) .nil))) rfl rfl) (.cons (.ret (.tup (by decide) (.cons (.var rfl rfl) (.cons (.var rfl rfl) .nil)))) .nil))))))))), by kernel_rfl, by kernel_rfl, by kernel_rfl, by kernel_rfl, Mine.bind2 fun a b => by kernel_rfl, rfl, by kernel_rfl, by decide, by intro i q; cases q <;> decide⟩
  · exact ⟨by kernel_rfl, by kernel_rfl, by kernel_rfl, (.cons (.ifs (.cmp rfl (.var rfl rfl) .cint) (.cons .stuck .nil) (.cons (.ifs (.cmp rfl (.var rfl rfl) .cint) (.cons (.assign (.many (xs := [("q", _), ("r", _)]) rfl (by decide)) (.call rfl rfl rfl (by decide) (.cons (.un rfl (.var rfl rfl)) (.cons (.un rfl (.var rfl rfl)) .nil))) rfl rfl) (.cons (.ret (.tup (by decide) (.cons (.var rfl rfl) (.cons (.un rfl (.var rfl rfl)) .nil)))) .nil)) (.cons (.ifs (.cmp rfl (.var rfl rfl) .cint) (.cons (.assign (.many (xs := [("q", _), ("r", _)]) rfl (by decide)) (.call rfl rfl rfl (by decide) (.cons (.un rfl (.var rfl rfl)) (.cons (.var rfl rfl) .nil))) rfl rfl) (.cons (.ret (.tup (by decide) (.cons (.un rfl (.var rfl rfl)) (.cons (.bin rfl (.var rfl rfl) (.un rfl (.var rfl rfl))) .nil)))) .nil)) (.cons (.ret (.call rfl rfl rfl (by decide) (.cons (.var rfl rfl) (.cons (.var rfl rfl) .nil)))) .nil)) .nil)) .nil)) .nil), by kernel_rfl, by kernel_rfl, by kernel_rfl, by kernel_rfl, Mine.bind2 fun a b => by kernel_rfl, rfl, by kernel_rfl, by decide, by intro i q; cases q <;> decide⟩
  · exact ⟨by kernel_rfl, by kernel_rfl, by kernel_rfl, (.cons (.assign (.one rfl) (.list (by decide) (.cons (.cstr rfl (by decide)) (.cons (.cstr rfl (by decide)) (.cons (.cstr rfl (by decide)) (.cons (.cstr rfl (by decide)) (.cons (.cstr rfl (by decide)) (.cons (.cstr rfl (by decide)) (.cons (.cstr rfl (by decide)) (.cons (.cstr rfl (by decide)) (.cons (.cstr rfl (by decide)) .nil)))))))))) rfl rfl) (.cons (.assign (.one rfl) (.meth rfl rfl (by decide) rfl (.call rfl rfl rfl (by decide) (.cons (.bin rfl (.sub (.var rfl rfl) .cint) .cint) .nil)) (.cons (.cstr rfl (by decide)) .nil)) rfl rfl) (.cons (.fresh rfl (.val (.list (by decide) .nil) rfl rfl) rfl (by intro q; cases q)) (.cons (.for' (.many (xs := [("name", _), ("number", _)]) rfl (by decide)) rfl (.zip rfl (.var rfl rfl) (.slice (.var rfl rfl) (.some .cint) .none)) (.cons (.append rfl rfl (.tup (by decide) (.cons (.bin rfl (.var rfl rfl) .cint) (.cons (.ite (.cmp rfl (.var rfl rfl) (.var rfl rfl)) (.bin rfl (.bin rfl (.var rfl rfl) .cint) .cint) .cint) .nil))) rfl) .nil) .nil) (.ghost (x := "hours") rfl (by intro q; cases q) (.cons (.ret (.var rfl rfl)) .nil)))))), by kernel_rfl, by kernel_rfl, by kernel_rfl, by kernel_rfl, Mine.bind1 fun a => by kernel_rfl, rfl, by kernel_rfl, by decide, by intro i q; cases q <;> decide⟩
  · exact ⟨by kernel_rfl, by kernel_rfl, by kernel_rfl, (.cons (.fresh rfl .dict rfl (by intro q; cases q)) (.cons (.for' (.one rfl) rfl (.range2 rfl .cint (.var rfl rfl)) (.cons (.setItem rfl rfl (.var rfl rfl) (.bin rfl (.bin rfl (.var rfl rfl) (.bin rfl .cint (.bin rfl (.var rfl rfl) .cint))) .cint) rfl rfl) .nil) .nil) (.ghost (x := "people") rfl (by intro q; cases q) (.cons (.ret (.var rfl rfl)) .nil)))), by kernel_rfl, by kernel_rfl, by kernel_rfl, by kernel_rfl, Mine.bind2 fun a b => by kernel_rfl, rfl, by kernel_rfl, by decide, by intro i q; cases q <;> decide⟩
  · exact ⟨by kernel_rfl, by kernel_rfl, by kernel_rfl, (.cons (.assign (.one rfl) (.prim rfl rfl (.cons (.var rfl rfl) .nil)) rfl rfl) (.cons (.assign (.one rfl) (.call rfl rfl rfl (by decide) (.cons (.meth rfl rfl (by decide) rfl (.cstr rfl (by decide)) (.cons (.comp (cx' := { scope := _, vars := [("height", 14), ("end", 4)], fid := _, gid := _, io := none }) ⟨rfl, rfl, rfl⟩ rfl (.plain (.var rfl rfl)) (.one rfl) .nil (.bin rfl (.bin rfl (.bin rfl (.cstr rfl (by decide)) (.var rfl rfl)) (.cstr rfl (by decide))) (.var rfl rfl))) .nil)) .nil)) rfl rfl) (.cons (.assign (.one rfl) (.comp (cx' := { scope := _, vars := [("row", 15)], fid := _, gid := _, io := none }) ⟨rfl, rfl, rfl⟩ rfl (.plain (.slice (.meth rfl rfl (by decide) rfl (.var rfl rfl) (.cons (.cstr rfl (by decide)) .nil)) .none (.some (.un rfl .cint)))) (.one rfl) .nil (.meth rfl rfl (by decide) rfl (.var rfl rfl) (.cons (.cstr rfl (by decide)) .nil))) rfl rfl) (.cons (.assign (.one rfl) (.cmp rfl (.prim rfl rfl (.cons (.var rfl rfl) .nil)) (.prim rfl rfl (.cons (.var rfl rfl) .nil))) rfl rfl) (.cons (.assign (.one rfl) (.bop (.cons (.var rfl rfl) (.cons (.cmp rfl (.var rfl rfl) (.meth rfl rfl (by decide) rfl (.cstr rfl (by decide)) (.cons (.comp (cx' := { scope := _, vars := [("height", 16)], fid := _, gid := _, io := none }) ⟨rfl, rfl, rfl⟩ rfl (.plain (.var rfl rfl)) (.one rfl) .nil (.bin rfl (.bin rfl (.cstr rfl (by decide)) (.var rfl rfl)) (.cstr rfl (by decide)))) .nil))) .nil))) rfl rfl) (.cons (.fresh rfl .dict rfl (by intro q; cases q)) (.cons (.for' (.many (xs := [("height", _), ("up", _)]) rfl (by decide)) rfl (.zip rfl (.var rfl rfl) (.var rfl rfl)) (.cons (.for' (.many (xs := [("other", _), ("ways", _)]) rfl (by decide)) rfl (.plain (.list (by decide) (.cons (.tup (by decide) (.cons (.bin rfl (.var rfl rfl) (.var rfl rfl)) (.cons (.var rfl rfl) .nil))) (.cons (.tup (by decide) (.cons (.prim rfl rfl (.cons (.bin rfl (.var rfl rfl) .cint) (.cons .cint .nil))) (.cons (.var rfl rfl) .nil))) (.cons (.tup (by decide) (.cons (.var rfl rfl) (.cons (.var rfl rfl) .nil))) .nil))))) (.cons (.setItem rfl rfl (.var rfl rfl) (.bin rfl (.meth rfl rfl (by decide) rfl (.var rfl rfl) (.cons (.var rfl rfl) (.cons .cint .nil))) (.bin rfl (.var rfl rfl) (.sub (.var rfl rfl) (.var rfl rfl)))) rfl rfl) .nil) .nil) .nil) .nil) (.ghost (x := "after") rfl (by intro q; cases q) (.cons (.ret (.tup (by decide) (.cons (.var rfl rfl) (.cons (.var rfl rfl) .nil)))) .nil))))))))), by kernel_rfl, by kernel_rfl, by kernel_rfl, by kernel_rfl, Mine.bind5 fun a b c d e => by kernel_rfl, rfl, by kernel_rfl, by decide, by intro i q; cases q <;> decide⟩
  · exact ⟨by kernel_rfl, by kernel_rfl, by kernel_rfl, (.cons (.assign (.one rfl) .cbool rfl rfl) (.cons (.for' (.many (xs := [("gone", _), ("stay", _)]) rfl (by decide)) rfl (.plain (.var rfl rfl)) (.cons (.assign (.many (xs := [("crowd", _), ("right", _)]) rfl (by decide)) (.call rfl rfl rfl (by decide) (.cons (.var rfl rfl) (.cons (.var rfl rfl) (.cons (.var rfl rfl) (.cons (.var rfl rfl) (.cons (.var rfl rfl) .nil)))))) rfl rfl) (.cons (.assign (.one rfl) (.bop (.cons (.var rfl rfl) (.cons (.var rfl rfl) .nil))) rfl rfl) .nil)) .nil) (.cons (.ret (.tup (by decide) (.cons (.var rfl rfl) (.cons (.var rfl rfl) .nil)))) .nil))), by kernel_rfl, by kernel_rfl, by kernel_rfl, by kernel_rfl, Mine.bind4 fun a b c d => by kernel_rfl, rfl, by kernel_rfl, by decide, by intro i q; cases q <;> decide⟩
  · exact ⟨by kernel_rfl, by kernel_rfl, by kernel_rfl, (.cons (.par (.cons rfl (.bin rfl .cint (.var rfl rfl)) (fun q => by cases q) (.cons rfl (.bin rfl (.bin rfl .cint (.bin rfl (.bin rfl .cint (.var rfl rfl)) (.var rfl rfl))) .cint) (fun q => by cases q) .nil)) (by decide) (by decide) (by rfl)) (.cons (.assign (.one rfl) .cint rfl rfl) (.cons (.for' (.one rfl) rfl (.plain (.prim rfl rfl (.cons (.var rfl rfl) .nil))) (.cons (.aug rfl rfl rfl (.bin rfl (.sub (.var rfl rfl) (.var rfl rfl)) (.bin rfl (.bin rfl (.var rfl rfl) (.var rfl rfl)) (.bin rfl (.var rfl rfl) (.bin rfl (.bin rfl .cint (.var rfl rfl)) (.var rfl rfl)))))) .nil) .nil) (.cons (.for' (.many (xs := [("gone", _), ("stay", _)]) rfl (by decide)) rfl (.plain (.var rfl rfl)) (.cons (.aug rfl rfl rfl (.bin rfl (.bin rfl (.var rfl rfl) (.bin rfl (.var rfl rfl) (.bin rfl (.var rfl rfl) (.bin rfl (.bin rfl .cint (.var rfl rfl)) .cint)))) (.var rfl rfl))) .nil) .nil) (.cons (.aug rfl rfl rfl (.bin rfl (.bin rfl (.var rfl rfl) .cint) (.bin rfl (.var rfl rfl) (.bin rfl (.var rfl rfl) .cint)))) (.cons (.assign (.one rfl) (.sub (.call rfl rfl rfl (by decide) (.cons (.bin rfl (.var rfl rfl) (.var rfl rfl)) (.cons (.bin rfl (.var rfl rfl) (.var rfl rfl)) .nil))) .cint) rfl rfl) (.cons (.ret (.comp (cx' := { scope := _, vars := [("figure", 12), ("base", 5)], fid := _, gid := _, io := none }) ⟨rfl, rfl, rfl⟩ rfl (.plain (.call rfl rfl rfl (by decide) (.cons (.bin rfl (.var rfl rfl) (.var rfl rfl)) (.cons (.var rfl rfl) .nil)))) (.one rfl) .nil (.bin rfl (.var rfl rfl) (.bin rfl (.var rfl rfl) .cint)))) .nil))))))), by kernel_rfl, by kernel_rfl, by kernel_rfl, by kernel_rfl, Mine.bind5 fun a b c d e => by kernel_rfl, rfl, by kernel_rfl, by decide, by intro i q; cases q <;> decide⟩
  · exact ⟨by kernel_rfl, by kernel_rfl, by kernel_rfl, (.cons (.assign (.one rfl) (.comp (cx' := { scope := _, vars := [("cell", 16)], fid := _, gid := _, io := none }) ⟨rfl, rfl, rfl⟩ rfl (.plain (.slice (.var rfl rfl) .none (.some .cint))) (.one rfl) .nil (.bin rfl (.prim rfl rfl (.cons (.var rfl rfl) .nil)) (.bin rfl .cint .cint))) rfl rfl) (.cons (.assign (.one rfl) (.bin rfl (.var rfl rfl) (.slice (.list (by decide) (.cons .cint (.cons .cint (.cons .cint (.cons .cint (.cons .cint (.cons .cint .nil))))))) (.some (.prim rfl rfl (.cons (.var rfl rfl) .nil))) .none)) rfl rfl) (.cons (.par (.cons rfl (.sub (.var rfl rfl) .cint) (fun q => by cases q) (.cons rfl (.bin rfl .cint (.bin rfl (.sub (.var rfl rfl) .cint) .cint)) (fun q => by cases q) .nil)) (by decide) (by decide) (by rfl)) (.cons (.fresh rfl (.val (.list (by decide) .nil) rfl rfl) rfl (by intro q; cases q)) (.cons (.for' (.many (xs := [("place", _), ("number", _)]) rfl (by decide)) rfl (.enumerate rfl (.slice (.var rfl rfl) (.some .cint) .none)) (.cons (.append rfl rfl (.tup (by decide) (.cons (.bin rfl (.var rfl rfl) .cint) (.cons (.bin rfl (.bin rfl (.bin rfl (.var rfl rfl) .cint) .cint) (.bin rfl (.bin rfl (.sub (.var rfl rfl) .cint) (.bin rfl .cint (.var rfl rfl))) .cint)) .nil))) rfl) .nil) .nil) (.cons (.assign (.one rfl) (.call rfl rfl rfl (by decide) (.cons (.sub (.var rfl rfl) .cint) (.cons (.var rfl rfl) .nil))) rfl rfl) (.cons (.assign (.many (xs := [("crowd", _), ("good", _)]) rfl (by decide)) (.call rfl rfl rfl (by decide) (.cons (.var rfl rfl) (.cons (.call rfl rfl rfl (by decide) (.cons (.var rfl rfl) .nil)) (.cons (.var rfl rfl) (.cons (.sub (.list (by decide) (.cons (.cstr rfl (by decide)) (.cons (.cstr rfl (by decide)) (.cons (.cstr rfl (by decide)) .nil)))) (.bin rfl (.bin rfl (.var rfl rfl) .cint) .cint)) .nil))))) rfl rfl) (.ghost (x := "plain") rfl (by intro q; cases q) (.cons (.assign (.one rfl) (.call rfl rfl rfl (by decide) (.cons (.var rfl rfl) (.cons (.var rfl rfl) (.cons (.var rfl rfl) (.cons (.bin rfl .cint (.bin rfl (.bin rfl (.var rfl rfl) .cint) .cint)) (.cons (.bin rfl .cint (.bin rfl .cint (.bin rfl (.bin rfl (.var rfl rfl) .cint) .cint))) .nil)))))) rfl rfl) (.cons (.assign (.one rfl) (.prim rfl rfl (.cons (.comp (cx' := { scope := _, vars := [("height", 17), ("people", 8)], fid := _, gid := _, io := none }) ⟨rfl, rfl, rfl⟩ rfl (.plain (.var rfl rfl)) (.one rfl) .nil (.sub (.var rfl rfl) (.var rfl rfl))) .nil)) rfl rfl) (.cons (.for' (.many (xs := [("gone", _), ("stay", _)]) rfl (by decide)) rfl (.plain (.var rfl rfl)) (.cons (.aug rfl rfl rfl (.bin rfl (.bin rfl .cint (.var rfl rfl)) (.var rfl rfl))) .nil) .nil) (.cons (.ifs (.bop (.cons (.un rfl (.var rfl rfl)) (.cons (.cmp rfl (.meth rfl rfl (by decide) rfl (.var rfl rfl) (.cons .cint (.cons .cint .nil))) (.bin rfl (.var rfl rfl) (.prim rfl rfl (.cons (.slice (.var rfl rfl) (.some .cint) (.some (.var rfl rfl))) .nil)))) .nil))) (.cons (.ret .cbool) .nil) .nil) (.cons (.assign (.one rfl) (.comp (cx' := { scope := _, vars := [("height", 18), ("crowd", 9)], fid := _, gid := _, io := none }) ⟨rfl, rfl, rfl⟩ rfl (.range2 rfl .cint (.var rfl rfl)) (.one rfl) .nil (.meth rfl rfl (by decide) rfl (.var rfl rfl) (.cons (.var rfl rfl) (.cons .cint .nil)))) rfl rfl) (.cons (.ret (.cmp rfl (.var rfl rfl) (.bin rfl (.bin rfl (.bin rfl (.list (by decide) (.cons .cint .nil)) (.var rfl rfl)) (.list (by decide) (.cons .cint .nil))) (.comp (cx' := { scope := _, vars := [("one", 19)], fid := _, gid := _, io := none }) ⟨rfl, rfl, rfl⟩ rfl (.reversed rfl (.var rfl rfl)) (.one rfl) .nil (.un rfl (.var rfl rfl)))))) .nil)))))))))))))), by kernel_rfl, by kernel_rfl, by kernel_rfl, by kernel_rfl, Mine.bind1 fun a => by kernel_rfl, rfl, by kernel_rfl, by decide, by intro i q; cases q <;> decide⟩
  · exact ⟨⟨by kernel_rfl, by kernel_rfl, by kernel_rfl, (.cons .stuck (.cons .stuck (.cons .stuck (.cons .stuck .nil)))), by kernel_rfl, by kernel_rfl, by kernel_rfl, by kernel_rfl, Mine.bind2 fun a b => by kernel_rfl, rfl, by kernel_rfl, by decide, by intro i q; cases q <;> decide⟩, by kernel_rfl, by kernel_rfl, by kernel_rfl, by kernel_rfl, by kernel_rfl, by kernel_rfl⟩
  · exact ⟨⟨by kernel_rfl, by kernel_rfl, by kernel_rfl, (.cons .stuck (.cons .stuck .nil)), by kernel_rfl, by kernel_rfl, by kernel_rfl, by kernel_rfl, Mine.bind2 fun a b => by kernel_rfl, rfl, by kernel_rfl, by decide, by intro i q; cases q <;> decide⟩, by kernel_rfl, by kernel_rfl, by kernel_rfl, by kernel_rfl, by kernel_rfl⟩
  · exact ⟨⟨by kernel_rfl, by kernel_rfl, by kernel_rfl, (.cons .stuck .nil), by kernel_rfl, by kernel_rfl, by kernel_rfl, by kernel_rfl, Mine.bind1 fun a => by kernel_rfl, rfl, by kernel_rfl, by decide, by intro i q; cases q <;> decide⟩, by kernel_rfl, by kernel_rfl, by kernel_rfl, by kernel_rfl, by kernel_rfl, ⟨_, _, _, _, rfl, rfl, rfl, rfl, rfl, by kernel_rfl⟩, ⟨_, _, _, _, rfl, rfl, rfl, rfl, rfl, by kernel_rfl⟩, by kernel_rfl, by kernel_rfl⟩
  · exact by kernel_rfl
  · exact by kernel_rfl
  · exact by kernel_rfl
  · exact ⟨_, _, rfl, fun G => (.cons rfl (.str _ _ rfl (by decide)) (.cons rfl (.str _ _ rfl (by decide)) (.cons rfl (.str _ _ rfl (by decide)) (.cons rfl (.str _ _ rfl (by decide)) (.cons rfl (.str _ _ rfl (by decide)) (.cons rfl (.str _ _ rfl (by decide)) (.cons rfl (.str _ _ rfl (by decide)) (.cons rfl (.str _ _ rfl (by decide)) (.cons rfl (.str _ _ rfl (by decide)) (.cons rfl (.str _ _ rfl (by decide)) .nil))))))))))⟩
  · exact by kernel_rfl
  · exact by kernel_rfl
  · omega

