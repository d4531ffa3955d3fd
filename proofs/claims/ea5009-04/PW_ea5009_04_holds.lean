import PyProof.Rows.All
import Wide.All
import OpenK.AllK
import Wide.FinOn
import PySem.Challenge.RW_ea5009_04
set_option Elab.async false
set_option autoImplicit false
set_option maxRecDepth 100000
set_option linter.unusedSimpArgs false
set_option linter.unusedVariables false
set_option linter.unnecessarySimpa false

/-! A mini language, its abstract values and store, and a deterministic evaluator (own work). -/
namespace Mine
open PySem

/-- abstract values -/
inductive V where
  | none | bool (b : Bool) | int (i : Int) | str (s : Str) | txt | bytes (bs : List Int)
  | cls (a : Nat) | typ (n : String)
  | tup (vs : List V) | lst (vs : List V) | rng (lo hi : Int) | obj (i : Nat) | dct (kvs : List (Int × V))

/-- abstract store objects: an instance (class, fields), a list that may change -/
inductive AO where
  | inst (C : Nat) (fs : List (Nat × V))
  | mls (vs : List V)
abbrev St := List AO
/-- exceptions: come out of a call, or new in this very frame (N) -/
inductive X where
  | val | pack | valN | packN
  deriving DecidableEq
def X.out : X → X
  | .valN => .val
  | .packN => .pack
  | x => x
inductive R (α : Type) where
  | ok (a : α) (σ : St)
  | exc (x : X) (σ : St)
  | bad
def R.bind {α β : Type} : R α → (α → St → R β) → R β
  | .ok a σ, f => f a σ
  | .exc x σ, _ => .exc x σ
  | .bad, _ => .bad
def R.calm {α : Type} : R α → R α
  | .exc _ _ => .bad
  | r => r
def R.out {α : Type} : R α → R α
  | .exc x σ => .exc x.out σ
  | r => r
def R.of {α : Type} (σ : St) : Option α → R α
  | some a => .ok a σ
  | none => .bad

inductive Bop where
  | add | sub | mul | fdiv | mod | bor | band
inductive Cop where
  | eq | ne | lt | le | gt | ge | is | nis | isin | nin
inductive Bl where
  | len | range | bytes | list | isinst | issub | int | str | pack
inductive Hk where
  | val | any | bare

mutual
inductive E where
  | lit (v : V) | loc (i : Nat)
  | bin (o : Bop) (a b : E) | inv (a : E) | neg (a : E)
  | cmp (o : Cop) (a b : E)
  | and_ (es : Es) | or_ (es : Es) | not_ (a : E)
  | ite (c a b : E)
  | tup (es : Es) | lst (es : Es)
  | idx (a i : E) | sli (a lo hi : E)
  | attr (a : E) (k : Nat) | has (a : E) (k : Nat) | clsOf (a : E) | nameOf (a : E)
  | call (f : E) (es : Es)
  | meth (o : E) (k : Nat) (es : Es) (kw : List Nat) (vs : Es)
  | blt (b : Bl) (es : Es)
  | bltQ (b : Bl) (es : Es)
  | comp (elt src : E) (cond : Es)
  | dict (i : Nat) (kvs : List (Nat × Int))
inductive Es where
  | nil
  | cons (e : E) (r : Es)
end
inductive Tg where
  | one (i : Nat)
  | many (is : List Nat)
mutual
inductive S where
  | asg (t : Tg) (e : E)
  | mls (i : Nat) (es : Es)
  | setA (o : E) (k : Nat) (e : E)
  | setI (o i e : E)
  | aug (i : Nat) (op : Bop) (e : E)
  | app (o e : E)
  | ret (e : E)
  | ite (c : E) (a b : Ss)
  | for_ (t : Tg) (e : E) (body : Ss)
  | try_ (body : Ss) (hs : List (Hk × V))
  | raise (x : X) (e : E)
  | asrt (c : E)
  | cont
inductive Ss where
  | nil
  | cons (s : S) (r : Ss)
end

inductive CA where
  | val (v : V) | meth (f : Nat) | cmeth (f : Nat)
structure Cl where
  name : Str
  attrs : List (Nat × CA)
  mro : List Nat
  init : Option Nat
structure Fn where
  ps : List (Nat × Option V)
  nl : Nat
  body : Ss
structure Tab where
  fns : List (Nat × Fn)
  cls : List (Nat × Cl)
def Tab.fn (T : Tab) (a : Nat) : Option Fn := T.fns.lookup a
def Tab.cl (T : Tab) (a : Nat) : Option Cl := T.cls.lookup a

abbrev Loc := List (Option V)
inductive Fl where
  | next | cont | ret (v : V)

/-! ### operations -/
def veqF : V → V → Option Bool
  | .none, .none => some true
  | .bool a, .bool b => some (a == b)
  | .int a, .int b => some (a == b)
  | .str a, .str b => some (a == b)
  | .bytes a, .bytes b => some (decide (a = b))
  | .none, .int _ => some false
  | .int _, .none => some false
  | .none, .bool _ => some false
  | .bool _, .none => some false
  | .str _, .bytes _ => some false
  | .bytes _, .str _ => some false
  | .none, .bytes _ => some false
  | .bytes _, .none => some false
  | _, _ => none
def veqs : List V → List V → Option Bool
  | [], [] => some true
  | a :: r, b :: t => match veqF a b, veqs r t with
    | some x, some y => some (x && y)
    | _, _ => none
  | _, _ => none
def veq : V → V → Option Bool
  | .tup a, .tup b => veqs a b
  | .lst a, .lst b => if a.length == b.length then veqs a b else some false
  | .tup _, .str _ => some false
  | .str _, .tup _ => some false
  | a, b => veqF a b
/-- an int among ints (and Nones) -/
def vin (x : Int) : List V → Option Bool
  | [] => some false
  | .int i :: r => (vin x r).map fun b => i == x || b
  | .none :: r => vin x r
  | _ :: _ => none
def intsOf : List V → Option (List Int)
  | [] => some []
  | .int i :: r => match intsOf r with
    | some l => some (i :: l)
    | none => none
  | _ :: _ => none
def octs (l : List Int) : Bool := l.all fun i => decide (0 ≤ i) && decide (i < 256)
def small (i : Int) : Bool := decide (-1099511627776 ≤ i) && decide (i ≤ 1099511627776)
def room (n : Nat) : Bool := decide (n ≤ 100000)

def fmt1 : Str := "Cannot suppress positive response for service %s. This service does not have a subfunction"
def fmt2 : Str := "given code must be an integer value, not %s"
def fmt3 : Str := "given standard_version must be an integer value, not %s"
def fmtS (f : Str) : Bool := f == fmt1 || f == fmt2 || f == fmt3
def fmt4 : Str := "Do not know the standard version in which this code has been introduced: %s"
def vbin : Bop → V → V → Option V
  | .add, .int a, .int b => some (.int (a + b))
  | .sub, .int a, .int b => some (.int (a - b))
  | .mul, .int a, .int b => if small a then some (.int (a * b)) else none
  | .fdiv, .int a, .int b => if !decide (b = 0) && decide (-1000000 ≤ b) && decide (b ≤ 1000000) then some (.int (Int.fdiv a b)) else none
  | .mod, .int a, .int b => if !decide (b = 0) then some (.int (Int.fmod a b)) else none
  | .bor, .int a, .int b => some (.int (Builtin.bitOr a b))
  | .band, .int a, .int b => some (.int (Builtin.bitAnd a b))
  | .add, .lst a, .lst b => if room (a.length + b.length) then some (.lst (a ++ b)) else none
  | .add, .bytes a, .bytes b => if room (a.length + b.length) then some (.bytes (a ++ b)) else none
  | .mod, .str f, .str n => if fmtS f && decide (n.length ≤ 1000000) then some .txt else none
  | .mod, .str f, .int i => if f == fmt4 && small i then some .txt else none
  | _, _, _ => none
def vaug : Bop → V → V → Option V
  | .add, .int a, .int b => some (.int (a + b))
  | .bor, .int a, .int b => some (.int (Builtin.bitOr a b))
  | .band, .int a, .int b => some (.int (Builtin.bitAnd a b))
  | .add, .bytes a, .bytes b => if room (a.length + b.length) then some (.bytes (a ++ b)) else none
  | _, _, _ => none
def visame (T : Tab) : V → V → Option Bool
  | .cls a, .cls b => match T.cl a, T.cl b with
    | some _, some _ => some (a == b)
    | _, _ => none
  | .none, .none => some true
  | .none, .cls _ => some false
  | .bool _, .none => some false
  | .int _, .none => some false
  | .str _, .none => some false
  | .txt, .none => some false
  | .bytes _, .none => some false
  | .cls _, .none => some false
  | .typ _, .none => some false
  | .tup _, .none => some false
  | .lst _, .none => some false
  | .rng _ _, .none => some false
  | .obj _, .none => some false
  | _, _ => none
def vcmp (T : Tab) : Cop → V → V → Option Bool
  | .eq, a, b => veq a b
  | .ne, a, b => (veq a b).map (!·)
  | .lt, .int a, .int b => some (decide (a < b))
  | .le, .int a, .int b => some (decide (a ≤ b))
  | .gt, .int a, .int b => some (decide (a > b))
  | .ge, .int a, .int b => some (decide (a ≥ b))
  | .is, a, b => visame T a b
  | .nis, a, b => (visame T a b).map (!·)
  | .isin, .int x, .lst l => vin x l
  | .isin, .int x, .tup l => vin x l
  | .isin, .int i, .dct l => some (l.any fun p => decide (p.1 = i))
  | .nin, .int x, .lst l => (vin x l).map (!·)
  | .nin, .int x, .tup l => (vin x l).map (!·)
  | .nin, .int i, .dct l => some (!(l.any fun p => decide (p.1 = i)))
  | _, _, _ => none
def vtruth : V → Option Bool
  | .bool b => some b
  | .none => some false
  | .int i => some (!decide (i = 0))
  | _ => none
/-- a list that may change, read as it is now -/
def unl (σ : St) : V → V
  | .obj o => match σ[o]? with
    | some (.mls l) => .lst l
    | _ => .obj o
  | v => v
/-- an item at a place that is 0 or more -/
def vitem {α : Type} (l : List α) (i : Int) : Option α := if decide (0 ≤ i) && decide (i ≤ 100000) then l[i.toNat]? else none
def vidx (σ : St) : V → V → Option V
  | .tup l, .int i => vitem l i
  | .lst l, .int i => vitem l i
  | .bytes l, .int i => if room l.length then (vitem l i).map .int else none
  | .dct l, .int i => (l.find? fun p => decide (p.1 = i)).map (·.2)
  | .obj o, .int i => match σ[o]? with
    | some (.mls l) => vitem l i
    | _ => none
  | _, _ => none
/-- a slice's bound, clipped -/
def vclip (n : Nat) (d : Nat) : V → Option Nat
  | .none => some d
  | .int i => if decide (0 ≤ i) then some (min i.toNat n) else none
  | _ => none
def cut {α : Type} (l : List α) (lo hi : Nat) : List α := (l.drop lo).take (hi - lo)
def vslice : V → V → V → Option V
  | .lst l, lo, hi => match vclip l.length 0 lo, vclip l.length l.length hi with
    | some a, some b => if room l.length then some (.lst (cut l a b)) else none
    | _, _ => none
  | .bytes l, lo, hi => match vclip l.length 0 lo, vclip l.length l.length hi with
    | some a, some b => if room l.length then some (.bytes (cut l a b)) else none
    | _, _ => none
  | _, _, _ => none
def upTo (lo : Int) : Nat → List Int
  | 0 => []
  | n + 1 => lo :: upTo (lo + 1) n
def span (lo hi : Int) : List Int := upTo lo (hi - lo).toNat
def vlist : V → Option V
  | .rng lo hi => if room (hi - lo).toNat then some (.lst ((span lo hi).map .int)) else none
  | .bytes l => if room l.length then some (.lst (l.map .int)) else none
  | _ => none
def vbytes : V → Option V
  | .lst l => match intsOf l with
    | some k => if octs k && room k.length then some (.bytes k) else none
    | none => none
  | _ => none
def vinst (T : Tab) (σ : St) : V → V → Option Bool
  | .bool _, .typ n => if n == "bool" then some true else if n == "int" then some true else if n == "str" then some false else if n == "bytes" then some false else if n == "type" then some false else none
  | .int _, .typ n => if n == "int" then some true else if n == "bool" then some false else if n == "str" then some false else if n == "bytes" then some false else if n == "type" then some false else none
  | .str _, .typ n => if n == "str" then some true else if n == "bool" then some false else if n == "int" then some false else if n == "bytes" then some false else if n == "type" then some false else none
  | .bytes _, .typ n => if n == "bytes" then some true else if n == "bool" then some false else if n == "int" then some false else if n == "str" then some false else if n == "type" then some false else none
  | .none, .typ n => if n == "int" then some false else if n == "bool" then some false else if n == "str" then some false else if n == "bytes" then some false else if n == "type" then some false else none
  | .cls a, .typ n => match T.cl a with
    | some _ => if n == "type" then some true else if n == "str" then some false else none
    | none => none
  | .obj i, .typ n => match σ[i]? with
    | some (.inst C _) => match T.cl C with
      | some _ => if n == "type" then some false else if n == "str" then some false else none
      | none => none
    | _ => none
  | .obj i, .cls B => match σ[i]? with
    | some (.inst C _) => match T.cl C, T.cl B with
      | some c, some _ => some (c.mro.contains B)
      | _, _ => none
    | _ => none
  | .cls a, .cls B => match T.cl a, T.cl B with
    | some _, some _ => some false
    | _, _ => none
  | .int _, .cls B => (T.cl B).map fun _ => false
  | _, _ => none
def packB : Str := "B"
def intText (i : Int) : Str := Str.ofString (toString i)
def vblt (T : Tab) (σ : St) : Bl → List V → R V
  | .len, [.lst l] => if room l.length then .ok (.int l.length) σ else .bad
  | .len, [.tup l] => if room l.length then .ok (.int l.length) σ else .bad
  | .len, [.bytes l] => if room l.length then .ok (.int l.length) σ else .bad
  | .len, [.str s] => if room s.length then .ok (.int s.length) σ else .bad
  | .len, [.obj i] => match σ[i]? with
    | some (.mls l) => if room l.length then .ok (.int l.length) σ else .bad
    | _ => .bad
  | .range, [.int n] => if small n then .ok (.rng 0 n) σ else .bad
  | .range, [.int lo, .int hi] => if small lo && small hi then .ok (.rng lo hi) σ else .bad
  | .bytes, [v] => R.of σ (vbytes v)
  | .list, [v] => R.of σ (vlist v)
  | .isinst, [a, b] => R.of σ ((vinst T σ a b).map .bool)
  | .issub, [.cls a, .cls b] => match T.cl a, T.cl b with
    | some c, some _ => .ok (.bool (c.mro.contains b)) σ
    | _, _ => .bad
  | .int, [.int i] => .ok (.int i) σ
  | .str, [.int i] => if small i then .ok (.str (intText i)) σ else .bad
  | .pack, [.str f, .int n] => if f == packB then (if decide (0 ≤ n) && decide (n ≤ 255) then .ok (.bytes [n]) σ else if small n then .exc .packN σ else .bad) else .bad
  | _, _ => .bad

def bindGo : List (Nat × Option V) → List V → List (Nat × V) → Option Loc
  | [], [], _ => some []
  | [], _ :: _, _ => none
  | _ :: r, v :: vs, kw => (bindGo r vs kw).map (some v :: ·)
  | (k, d) :: r, [], kw => match kw.lookup k with
    | some v => (bindGo r [] kw).map (some v :: ·)
    | none => match d with
      | some v => (bindGo r [] kw).map (some v :: ·)
      | none => none
def nodupN : List Nat → Bool
  | [] => true
  | x :: r => !r.contains x && nodupN r
/-- keywords: each names a parameter behind those given by place, none twice -/
def kwFit (ps : List (Nat × Option V)) (kw : List (Nat × V)) : Bool := kw.all (fun p => ps.any fun q => q.1 == p.1) && nodupN (kw.map (·.1))
def bindK (ps : List (Nat × Option V)) (as : List V) (kw : List (Nat × V)) : Option Loc := if kwFit (ps.drop as.length) kw then bindGo ps as kw else none
def setF (k : Nat) (v : V) : List (Nat × V) → List (Nat × V)
  | [] => [(k, v)]
  | (j, u) :: r => if j == k then (j, v) :: r else (j, u) :: setF k v r
def setT : Tg → V → Loc → Option Loc
  | .one i, v, ρ => some (ρ.set i (some v))
  | .many is, .tup vs, ρ => if is.length == vs.length then some ((is.zip vs).foldl (fun ρ p => ρ.set p.1 (some p.2)) ρ) else none
  | _, _, _ => none
def forL (f : V → Loc → St → R (Fl × Loc)) : List V → Loc → St → R (Fl × Loc)
  | [], ρ, σ => .ok (.next, ρ) σ
  | v :: r, ρ, σ => (f v ρ σ).calm.bind fun q σ => match q with
    | (.ret u, ρ) => .ok (.ret u, ρ) σ
    | (_, ρ) => forL f r ρ σ
/-- over a list that may change: the list is read anew at each turn -/
def forM (f : V → Loc → St → R (Fl × Loc)) (o : Nat) : Nat → Nat → Loc → St → R (Fl × Loc)
  | 0, _, _, _ => .bad
  | n + 1, j, ρ, σ => match σ[o]? with
    | some (.mls l) => match l[j]? with
      | none => .ok (.next, ρ) σ
      | some v => (f v ρ σ).calm.bind fun q σ => match q with
        | (.ret u, ρ) => .ok (.ret u, ρ) σ
        | (_, ρ) => forM f o n (j + 1) ρ σ
    | _ => .bad
def srcC : V → Option (List V)
  | .lst l => some l
  | .rng lo hi => some ((span lo hi).map .int)
  | _ => none
def src : V → Option (List V)
  | .lst l => some l
  | .tup l => some l
  | .rng lo hi => some ((span lo hi).map .int)
  | _ => none
def hit : Hk → X → Bool
  | .val, .val => true
  | .any, .val => true
  | .any, .pack => true
  | .bare, .val => true
  | .bare, .pack => true
  | _, _ => false
def caught (x : X) : List (Hk × V) → Option V
  | [] => none
  | (h, v) :: r => if hit h x then some v else caught x r
def compL (f : V → St → R V) (p : V → St → R Bool) : List V → St → List V → R V
  | [], σ, acc => .ok (.lst acc) σ
  | v :: r, σ, acc => match p v σ with
    | .ok true σ => match f v σ with
      | .ok u σ => compL f p r σ (acc ++ [u])
      | _ => .bad
    | .ok false σ => compL f p r σ acc
    | _ => .bad
def putD (k : Int) (v : V) : List (Int × V) → List (Int × V)
  | [] => [(k, v)]
  | (j, u) :: r => if decide (j = k) then (j, v) :: r else (j, u) :: putD k v r
def putAll (l m : List (Int × V)) : List (Int × V) := l.foldl (fun m p => putD p.1 p.2 m) m
/-- a display of pairs, seventeen at a time -/
def flushV (run : List (Int × V)) (main : Option (List (Int × V))) : Option (List (Int × V)) := if run.isEmpty then main else match main with
  | none => some (putAll run [])
  | some m => some (putAll (putAll run []) m)
def goV : List (Int × V) → List (Int × V) → Option (List (Int × V)) → Option (List (Int × V))
  | [], run, main => flushV run main
  | p :: r, run, main => if (run ++ [p]).length == 17 then goV r [] (flushV (run ++ [p]) main) else goV r (run ++ [p]) main

abbrev CF := Nat → List V → List (Nat × V) → St → R V
def callV (T : Tab) (cf : CF) (f : V) (as : List V) (σ : St) : R V := match f with
  | .cls a => match T.fn a with
    | some _ => cf a as [] σ
    | none => match T.cl a with
      | some c => match c.init with
        | some i => (cf i (.obj σ.length :: as) [] (σ ++ [.inst a []])).bind fun r σ' => match r with
          | .none => .ok (.obj σ.length) σ'
          | _ => .bad
        | none => match as with
          | [] => .ok (.obj σ.length) (σ ++ [.inst a []])
          | _ => .bad
      | none => .bad
  | _ => .bad
def findM (T : Tab) (σ : St) (k : Nat) : V → Option (Nat × V)
  | .cls C => match (T.cl C).bind fun c => c.attrs.lookup k with
    | some (.cmeth f) => some (f, .cls C)
    | _ => none
  | .obj i => match σ[i]? with
    | some (.inst C fs) => match fs.lookup k with
      | some _ => none
      | none => match (T.cl C).bind fun c => c.attrs.lookup k with
        | some (.cmeth f) => some (f, .cls C)
        | some (.meth f) => some (f, .obj i)
        | _ => none
    | _ => none
  | _ => none
def getA (T : Tab) (σ : St) (k : Nat) : V → Option V
  | .cls C => match (T.cl C).bind fun c => c.attrs.lookup k with
    | some (.val v) => some v
    | _ => none
  | .obj i => match σ[i]? with
    | some (.inst C fs) => match T.cl C with
      | some c => match fs.lookup k, c.attrs.lookup k with
        | some v, none => some v
        | some v, some (.val _) => some v
        | none, some (.val v) => some v
        | _, _ => none
      | none => none
    | _ => none
  | _ => none
/-- the keys of a display: attributes that are ints -/
def keysOf (T : Tab) (σ : St) (a : V) : List (Nat × Int) → Option (List (Int × V))
  | [] => some []
  | (k, n) :: r => match getA T σ k a, keysOf T σ a r with
    | some (.int i), some l => some ((i, .int n) :: l)
    | _, _ => none
def hasA (T : Tab) (k : Nat) : V → Option Bool
  | .cls C => match T.cl C with
    | some c => match c.attrs.lookup k with
      | none => some false
      | some (.val _) => some true
      | _ => none
    | none => none
  | _ => none
def clsA (T : Tab) (σ : St) : V → Option V
  | .str _ => some (.typ "str")
  | .obj i => match σ[i]? with
    | some (.inst C _) => (T.cl C).map fun _ => .cls C
    | _ => none
  | _ => none
def nameA (T : Tab) : V → Option V
  | .cls C => (T.cl C).map fun c => .str c.name
  | .typ n => if n == "str" then some (.str (Str.ofString "str")) else none
  | _ => none
def setAttrV (T : Tab) (σ : St) (o : V) (k : Nat) (v : V) : Option St := match o with
  | .obj i => match σ[i]? with
    | some (.inst C fs) => match T.cl C with
      | some c => match c.attrs.lookup k with
        | none => if decide (fs.length ≤ 900) then some (σ.set i (.inst C (setF k v fs))) else none
        | some (.val _) => if decide (fs.length ≤ 900) then some (σ.set i (.inst C (setF k v fs))) else none
        | _ => none
      | none => none
    | _ => none
  | _ => none
def setItemV (σ : St) (o i v : V) : Option St := match o, i with
  | .obj o, .int j => match σ[o]? with
    | some (.mls l) => if decide (0 ≤ j) && decide (j.toNat < l.length) && room l.length then some (σ.set o (.mls (l.set j.toNat v))) else none
    | _ => none
  | _, _ => none
def isMls (σ : St) : V → Bool
  | .obj o => match σ[o]? with
    | some (.mls _) => true
    | _ => false
  | _ => false
def appendV (σ : St) (o v : V) : Option St := match o with
  | .obj o => match σ[o]? with
    | some (.mls l) => if room l.length then some (σ.set o (.mls (l ++ [v]))) else none
    | _ => none
  | _ => none
/-- len of an instance: its own __len__ (name 0 of the table of names) -/
def lenObj (T : Tab) (cf : CF) (σ : St) (v : V) : Option (R V) := match v with
  | .obj i => match σ[i]? with
    | some (.inst C _) => match (T.cl C).bind fun c => c.attrs.lookup 0 with
      | some (.meth f) => some ((cf f [.obj i] [] σ).bind fun r σ' => match r with
        | .int n => if decide (0 ≤ n) && decide (n < 9223372036854775808) then .ok (.int n) σ' else .bad
        | _ => .bad)
      | _ => some .bad
    | _ => none
  | _ => none

mutual
def ev (T : Tab) (cf : CF) : E → Loc → St → R V
  | .lit v, _, σ => .ok v σ
  | .loc i, ρ, σ => match ρ[i]? with
    | some (some v) => .ok v σ
    | _ => .bad
  | .bin o a b, ρ, σ => (ev T cf a ρ σ).bind fun x σ => (ev T cf b ρ σ).bind fun y σ => R.of σ (vbin o (unl σ x) y)
  | .inv a, ρ, σ => (ev T cf a ρ σ).bind fun x σ => match x with
    | .int i => .ok (.int (-i - 1)) σ
    | _ => .bad
  | .neg a, ρ, σ => (ev T cf a ρ σ).bind fun x σ => match x with
    | .int i => .ok (.int (-i)) σ
    | _ => .bad
  | .cmp o a b, ρ, σ => (ev T cf a ρ σ).bind fun x σ => (ev T cf b ρ σ).bind fun y σ => R.of σ ((vcmp T o x y).map .bool)
  | .and_ es, ρ, σ => evAnd T cf es ρ σ
  | .or_ es, ρ, σ => evOr T cf es ρ σ
  | .not_ a, ρ, σ => (ev T cf a ρ σ).bind fun x σ => R.of σ ((vtruth x).map fun b => .bool (!b))
  | .ite c a b, ρ, σ => (evT T cf c ρ σ).bind fun t σ => match t with
    | true => ev T cf a ρ σ
    | false => ev T cf b ρ σ
  | .tup es, ρ, σ => (evs T cf es ρ σ).bind fun vs σ => .ok (.tup vs) σ
  | .lst es, ρ, σ => (evs T cf es ρ σ).bind fun vs σ => .ok (.lst vs) σ
  | .idx a i, ρ, σ => (ev T cf a ρ σ).bind fun x σ => (ev T cf i ρ σ).bind fun y σ => R.of σ (vidx σ x y)
  | .sli a lo hi, ρ, σ => (ev T cf a ρ σ).bind fun x σ => (ev T cf lo ρ σ).bind fun y σ => (ev T cf hi ρ σ).bind fun z σ => R.of σ (vslice x y z)
  | .attr a k, ρ, σ => (ev T cf a ρ σ).bind fun x σ => R.of σ (getA T σ k x)
  | .has a k, ρ, σ => (ev T cf a ρ σ).bind fun x σ => R.of σ ((hasA T k x).map .bool)
  | .clsOf a, ρ, σ => (ev T cf a ρ σ).bind fun x σ => R.of σ (clsA T σ x)
  | .nameOf a, ρ, σ => (ev T cf a ρ σ).bind fun x σ => R.of σ (nameA T x)
  | .call f es, ρ, σ => (ev T cf f ρ σ).bind fun x σ => (evs T cf es ρ σ).bind fun vs σ => callV T cf x vs σ
  | .meth o k es kw vs, ρ, σ => (ev T cf o ρ σ).bind fun x σ => match findM T σ k x with
    | some (f, self) => (evs T cf es ρ σ).bind fun as σ => (evs T cf vs ρ σ).bind fun kvs σ => cf f (self :: as) (kw.zip kvs) σ
    | none => .bad
  | .blt b es, ρ, σ => (evs T cf es ρ σ).bind fun vs σ => match b, vs with
    | .len, [v] => match lenObj T cf σ v with
      | some r => r
      | none => vblt T σ .len [v]
    | b, vs => vblt T σ b vs
  | .bltQ b es, ρ, σ => (evs T cf es ρ σ).bind fun vs σ => vblt T σ b vs
  | .comp elt s cond, ρ, σ => (ev T cf s ρ σ).calm.bind fun x σ => match srcC x with
    | some l => if room l.length then compL (fun v σ => ev T cf elt (ρ ++ [some v]) σ) (fun v σ => evIfs T cf cond (ρ ++ [some v]) σ) l σ [] else .bad
    | none => .bad
  | .dict i kvs, ρ, σ => match ρ[i]? with
    | some (some a) => R.of σ ((keysOf T σ a kvs).bind fun l => (goV l [] none).map .dct)
    | _ => .bad
def evs (T : Tab) (cf : CF) : Es → Loc → St → R (List V)
  | .nil, _, σ => .ok [] σ
  | .cons e r, ρ, σ => (ev T cf e ρ σ).bind fun v σ => (evs T cf r ρ σ).bind fun vs σ => .ok (v :: vs) σ
def evAnd (T : Tab) (cf : CF) : Es → Loc → St → R V
  | .nil, _, _ => .bad
  | .cons e .nil, ρ, σ => ev T cf e ρ σ
  | .cons e r, ρ, σ => (ev T cf e ρ σ).bind fun v σ => match vtruth v with
    | some true => evAnd T cf r ρ σ
    | some false => .ok v σ
    | none => .bad
def evOr (T : Tab) (cf : CF) : Es → Loc → St → R V
  | .nil, _, _ => .bad
  | .cons e .nil, ρ, σ => ev T cf e ρ σ
  | .cons e r, ρ, σ => (ev T cf e ρ σ).bind fun v σ => match vtruth v with
    | some false => evOr T cf r ρ σ
    | some true => .ok v σ
    | none => .bad
def evT (T : Tab) (cf : CF) : E → Loc → St → R Bool
  | .not_ a, ρ, σ => (evT T cf a ρ σ).bind fun b σ => .ok (!b) σ
  | .and_ es, ρ, σ => evTAnd T cf es ρ σ
  | .or_ es, ρ, σ => evTOr T cf es ρ σ
  | .ite c a b, ρ, σ => (evT T cf c ρ σ).bind fun t σ => match t with
    | true => evT T cf a ρ σ
    | false => evT T cf b ρ σ
  | e, ρ, σ => (ev T cf e ρ σ).bind fun v σ => R.of σ (vtruth v)
def evTAnd (T : Tab) (cf : CF) : Es → Loc → St → R Bool
  | .nil, _, σ => .ok true σ
  | .cons e r, ρ, σ => (evT T cf e ρ σ).bind fun b σ => match b with
    | true => evTAnd T cf r ρ σ
    | false => .ok false σ
def evTOr (T : Tab) (cf : CF) : Es → Loc → St → R Bool
  | .nil, _, σ => .ok false σ
  | .cons e r, ρ, σ => (evT T cf e ρ σ).bind fun b σ => match b with
    | true => .ok true σ
    | false => evTOr T cf r ρ σ
def evIfs (T : Tab) (cf : CF) : Es → Loc → St → R Bool
  | .nil, _, σ => .ok true σ
  | .cons e r, ρ, σ => (evT T cf e ρ σ).bind fun b σ => match b with
    | true => evIfs T cf r ρ σ
    | false => .ok false σ
end

mutual
def ex (T : Tab) (cf : CF) : S → Loc → St → R (Fl × Loc)
  | .asg t e, ρ, σ => (ev T cf e ρ σ).bind fun v σ => R.of σ ((setT t v ρ).map fun ρ => (.next, ρ))
  | .mls i es, ρ, σ => (evs T cf es ρ σ).bind fun vs σ => .ok (.next, ρ.set i (some (.obj σ.length))) (σ ++ [.mls vs])
  | .setA o k e, ρ, σ => (ev T cf e ρ σ).bind fun v σ => (ev T cf o ρ σ).bind fun x σ => match setAttrV T σ x k v with
    | some σ => .ok (.next, ρ) σ
    | none => .bad
  | .setI o i e, ρ, σ => (ev T cf e ρ σ).bind fun v σ => (ev T cf o ρ σ).bind fun x σ => (ev T cf i ρ σ).bind fun y σ => match setItemV σ x y v with
    | some σ => .ok (.next, ρ) σ
    | none => .bad
  | .aug i op e, ρ, σ => match ρ[i]? with
    | some (some x) => (ev T cf e ρ σ).bind fun y σ => R.of σ ((vaug op x y).map fun v => (.next, ρ.set i (some v)))
    | _ => .bad
  | .app o e, ρ, σ => (ev T cf o ρ σ).bind fun x σ => if isMls σ x then (ev T cf e ρ σ).bind fun v σ => match appendV σ x v with
    | some σ => .ok (.next, ρ) σ
    | none => .bad
    else .bad
  | .ret e, ρ, σ => (ev T cf e ρ σ).bind fun v σ => .ok (.ret v, ρ) σ
  | .ite c a b, ρ, σ => (evT T cf c ρ σ).bind fun t σ => match t with
    | true => exs T cf a ρ σ
    | false => exs T cf b ρ σ
  | .for_ t e body, ρ, σ => (ev T cf e ρ σ).bind fun x σ =>
    let f := fun v ρ σ => match setT t v ρ with
      | some ρ => exs T cf body ρ σ
      | none => .bad
    match x with
    | .obj o => match σ[o]? with
      | some (.mls l) => forM f o (l.length + 1) 0 ρ σ
      | _ => .bad
    | x => match src x with
      | some l => if room l.length then forL f l ρ σ else .bad
      | none => .bad
  | .try_ body hs, ρ, σ => match exs T cf body ρ σ with
    | .ok q σ => .ok q σ
    | .exc x σ => match caught x hs with
      | some v => .ok (.ret v, ρ) σ
      | none => .bad
    | .bad => .bad
  | .raise x e, ρ, σ => (ev T cf e ρ σ).bind fun v σ => match v with
    | .str _ => .exc x σ
    | .txt => .exc x σ
    | _ => .bad
  | .asrt c, ρ, σ => (evT T cf c ρ σ).bind fun t σ => match t with
    | true => .ok (.next, ρ) σ
    | false => .bad
  | .cont, ρ, σ => .ok (.cont, ρ) σ
def exs (T : Tab) (cf : CF) : Ss → Loc → St → R (Fl × Loc)
  | .nil, ρ, σ => .ok (.next, ρ) σ
  | .cons s r, ρ, σ => (ex T cf s ρ σ).bind fun q σ => match q with
    | (.next, ρ) => exs T cf r ρ σ
    | q => .ok q σ
end

def callN (T : Tab) : Nat → CF
  | 0, _, _, _, _ => .bad
  | n + 1, f, as, kw, σ => match T.fn f with
    | some fn => match bindK fn.ps as kw with
      | some ρ => ((exs T (callN T n) fn.body (ρ ++ List.replicate (fn.nl - ρ.length) none) σ).bind fun q σ => match q with
        | (.ret v, _) => .ok v σ
        | (.next, _) => .ok .none σ
        | (.cont, _) => .bad).out
      | none => .bad
    | none => .bad
end Mine

/-! The compile functions: PySem's trees into the mini language (own work). -/
namespace Mine
open PySem PySem.W

structure CX where
  K : Frag
  att : List Str
  mu : List Str
  sc : Scope
  loc : List Str
  tgt : Option Str
  q : Bool := false

def place (x : Str) : List Str → Option Nat
  | [] => none
  | y :: r => if x == y then some 0 else (place x r).map (· + 1)
def CX.slot (c : CX) (x : Str) : Option Nat := match c.tgt with
  | none => match c.sc.names.lookup x with
    | some .local => place x c.loc
    | some .cell => place x c.loc
    | _ => none
  | some t => match c.sc.names.lookup x with
    | some .local => if x == t then some c.loc.length else none
    | some .free => place x c.loc
    | _ => none
def bootV (x : Str) : Option Value :=
  if x == "len" then some (.builtin "len") else if x == "range" then some (.type "range") else if x == "bytes" then some (.type "bytes")
  else if x == "list" then some (.type "list") else if x == "isinstance" then some (.builtin "isinstance") else if x == "issubclass" then some (.builtin "issubclass")
  else if x == "hasattr" then some (.builtin "hasattr") else if x == "int" then some (.type "int") else if x == "str" then some (.type "str")
  else if x == "bool" then some (.type "bool") else if x == "type" then some (.type "type")
  else if x == "ValueError" then some (.type "ValueError") else if x == "Exception" then some (.type "Exception") else none
def glob (K : Frag) (x : Str) : Option Value := match nsIn K mainGlobals x with
  | some (some v) => some v
  | some none => if x == "__name__" then none else bootV x
  | none => none
def plainO (o : Obj) (t : String) : Bool := o.cls == .type t && o.dict.isNone && o.slots.size == 0
mutual
def reify (K : Frag) : Nat → Value → Option V
  | 0, _ => none
  | n + 1, v => match v with
    | .none => some .none
    | .bool b => some (.bool b)
    | .int i _ => some (.int i)
    | .str s _ => some (.str s)
    | .type t => some (.typ t)
    | .ref a => match K.lookup a with
      | some o => match o.data with
        | .cls _ => some (.cls a)
        | .func _ => some (.cls a)
        | .seq vs _ => if plainO o "tuple" then (reifys K n vs.toList).map .tup else if plainO o "list" then (reifys K n vs.toList).map .lst else none
        | .dict es _ => if plainO o "dict" then (reifyD K n es.toList).map .dct else none
        | _ => none
      | none => none
    | _ => none
def reifys (K : Frag) : Nat → List Value → Option (List V)
  | 0, _ => none
  | _ + 1, [] => some []
  | n + 1, v :: r => match reify K n v, reifys K n r with
    | some x, some l => some (x :: l)
    | _, _ => none
def reifyD (K : Frag) : Nat → List DictEntry → Option (List (Int × V))
  | 0, _ => none
  | _ + 1, [] => some []
  | n + 1, e :: r => match e.key, reify K n e.val, reifyD K n r with
    | .int i _, some x, some l => if e.hash == hashInt i then some ((i, x) :: l) else none
    | _, _, _ => none
end
def constV : Const → Option V
  | .none => some .none
  | .bool b => some (.bool b)
  | .int i => some (.int i)
  | .str s => some (.str s)
  | .bytes b => some (.bytes (b.map fun c => (c.toNat : Int)))
  | _ => none
def opB : Operator → Option Bop
  | .Add => some .add
  | .Sub => some .sub
  | .Mult => some .mul
  | .FloorDiv => some .fdiv
  | .Mod => some .mod
  | .BitOr => some .bor
  | .BitAnd => some .band
  | _ => none
def opC : CmpOp → Cop
  | .Eq => .eq | .NotEq => .ne | .Lt => .lt | .LtE => .le | .Gt => .gt | .GtE => .ge
  | .Is => .is | .IsNot => .nis | .In => .isin | .NotIn => .nin
def blOf : Value → Option Bl
  | .builtin "len" => some .len
  | .type "range" => some .range
  | .type "bytes" => some .bytes
  | .type "list" => some .list
  | .builtin "isinstance" => some .isinst
  | .builtin "issubclass" => some .issub
  | .type "int" => some .int
  | .type "str" => some .str
  | .builtin "_struct.pack" => some .pack
  | _ => none
def isPack : Bl → Bool
  | .pack => true
  | _ => false
def notSuper : PySem.Expr → Bool
  | .Call (.Name id _) [] [] _ => !(id == "super")
  | _ => true
def isSet : PySem.Expr → Bool
  | .Set .. => true
  | _ => false
def isSlice : PySem.Expr → Bool
  | .Slice .. => true
  | _ => false
def okComp (c : CX) (t : Str) (sc : Scope) : Bool :=
  sc.kind == .function && !sc.isGenerator && !sc.isCoroutine && sc.names.lookup t == some .local && !(t == ".0") &&
  sc.names.all (fun n => n.2 != .cell && (n.2 != .free || (c.sc.names.lookup n.1 == some .cell && !(n.1 == t) && sc.names.lookup n.1 == some .free)) && (n.2 != .local || sc.names.lookup n.1 == some .local)) && !c.loc.contains t && sc.names.all (fun n => !(n.1 == ("__debug__" : Str)))

def compD (c : CX) (i : Nat) : List (Option PySem.Expr) → List PySem.Expr → Option (List (Nat × Int))
  | [], [] => some []
  | some (.Attribute (.Name x _) a _) :: ks, .Constant (.int v) _ _ :: vs => if c.slot x == some i && !(a == "__class__") && !(a == "__name__") then match place a c.att, compD c i ks vs with
    | some k, some l => some ((k, v) :: l)
    | _, _ => none
    else none
  | _, _ => none
def dictSlot (c : CX) : List (Option PySem.Expr) → Option Nat
  | some (.Attribute (.Name x _) _ _) :: _ => c.slot x
  | _ => none

mutual
def compE : Nat → CX → PySem.Expr → Option E
  | 0, _, _ => none
  | n + 1, c, x => match x with
    | .Constant k _ _ => (constV k).map .lit
    | .Name x _ => match c.slot x with
      | some i => some (.loc i)
      | none => if c.sc.names.lookup x == some .globalImplicit && !(x == "__debug__") then ((glob c.K x).bind (reify c.K 200)).map .lit else none
    | .BoolOp .And es _ => (compEs n c es).map .and_
    | .BoolOp .Or es _ => (compEs n c es).map .or_
    | .BinOp l o r _ => match opB o, compE n c l, compE n c r with
      | some o, some a, some b => some (.bin o a b)
      | _, _, _ => none
    | .UnaryOp .Not a _ => (compE n c a).map .not_
    | .UnaryOp .Invert a _ => (compE n c a).map .inv
    | .UnaryOp .USub a _ => (compE n c a).map .neg
    | .IfExp t a b _ => match compE n c t, compE n c a, compE n c b with
      | some t, some a, some b => some (.ite t a b)
      | _, _, _ => none
    | .Compare l [o] [r] _ => if isSet r then none else match compE n c l, compE n c r with
      | some a, some b => some (.cmp (opC o) a b)
      | _, _ => none
    | .Dict ks vs _ => if c.q then none else match dictSlot c ks with
      | some i => match compD c i ks vs with
        | some l => if l.length ≤ 1000 then some (.dict i l) else none
        | none => none
      | none => none
    | .List es _ => if es.length ≤ 1000 then (compEs n c es).map .lst else none
    | .Tuple es _ _ => if es.length ≤ 1000 then (compEs n c es).map .tup else none
    | .Subscript a (.Slice lo hi none _) _ => match compE n c a, compO n c lo, compO n c hi with
      | some a, some lo, some hi => some (.sli a lo hi)
      | _, _, _ => none
    | .Subscript a i _ => if isSlice i then none else match compE n c a, compE n c i with
      | some a, some i => some (.idx a i)
      | _, _ => none
    | .ListComp elt [⟨.Name t _, it, ifs, 0⟩] sc _ => if !c.q && c.tgt.isNone && okComp c t sc && !isSet it && ifs.length < 2 then
        match compE n { c with q := true } it, compE n { c with sc := sc, tgt := some t, q := true } elt, compEs n { c with sc := sc, tgt := some t, q := true } ifs with
        | some s, some e, some p => some (.comp e s p)
        | _, _, _ => none
      else none
    | .Attribute o a _ => if c.q || !notSuper o then none else match compE n c o with
      | some e => if a == "__class__" then some (.clsOf e) else if a == "__name__" then some (.nameOf e) else (place a c.att).map (.attr e)
      | none => none
    | .Call (.Attribute o a ap) as ks p => if c.q || !notSuper o || a == "append" || !(ap.endLine == p.line) then none else match compE n c o, place a c.att, compEs n c as, compK n c ks with
      | some e, some k, some es, some (ns, vs) => if as.length + ks.length < 20 then some (.meth e k es ns vs) else none
      | _, _, _, _ => none
    | .Call (.Name f _) as [] _ => match c.slot f with
      | some i => if c.q then none else (compEs n c as).map (.call (.loc i))
      | none => if c.sc.names.lookup f == some .globalImplicit && !(f == "__debug__") then
          match glob c.K f with
          | some v => match blOf v with
            | some b => match compEs n c as with
              | some es => if c.q then (if isPack b then none else some (.bltQ b es)) else some (.blt b es)
              | none => none
            | none => if c.q then none else match v, as with
              | .builtin "hasattr", [a, .Constant (.str s) _ _] => match compE n c a, place s c.att with
                | some a, some k => some (.has a k)
                | _, _ => none
              | .ref a, as => match reify c.K 3 (.ref a), compEs n c as with
                | some (.cls b), some es => some (.call (.lit (.cls b)) es)
                | _, _ => none
              | _, _ => none
          | none => none
        else none
    | _ => none
def compEs : Nat → CX → List PySem.Expr → Option Es
  | 0, _, _ => none
  | _ + 1, _, [] => some .nil
  | n + 1, c, e :: r => match e with
    | .Starred .. => none
    | e => match compE n c e, compEs n c r with
      | some x, some l => some (.cons x l)
      | _, _ => none
def compO : Nat → CX → Option PySem.Expr → Option E
  | 0, _, _ => none
  | _ + 1, _, none => some (.lit .none)
  | n + 1, c, some e => compE n c e
def compK : Nat → CX → List Keyword → Option (List Nat × Es)
  | 0, _, _ => none
  | _ + 1, _, [] => some ([], .nil)
  | n + 1, c, ⟨some a, e, _⟩ :: r => match place a c.att, compE n c e, compK n c r with
    | some k, some x, some (ns, l) => some (k :: ns, .cons x l)
    | _, _, _ => none
  | _ + 1, _, ⟨none, _, _⟩ :: _ => none
end

def slots (c : CX) : List PySem.Expr → Option (List Nat)
  | [] => some []
  | .Name x _ :: r => match c.slot x, slots c r with
    | some i, some l => some (i :: l)
    | _, _ => none
  | _ :: _ => none
def compT (c : CX) : PySem.Expr → Option Tg
  | .Name x _ => (c.slot x).map .one
  | .Tuple es _ _ => if es.length < 2 then none else (slots c es).map .many
  | _ => none
def excH (x : Str) : Option Hk := if x == "ValueError" then some .val else if x == "Exception" then some .any else none
def compH (c : CX) : List ExceptHandler → Option (List (Hk × V))
  | [] => some []
  | .ExceptHandler none none [.Return (some (.Constant k _ _)) _] _ :: r => match constV k, compH c r with
    | some v, some l => some ((.bare, v) :: l)
    | _, _ => none
  | .ExceptHandler (some (.Name x _)) none [.Return (some (.Constant k _ _)) _] _ :: r => if c.sc.names.lookup x == some .globalImplicit && nsIn c.K mainGlobals x == some none then match excH x, constV k, compH c r with
    | some h, some v, some l => some ((h, v) :: l)
    | _, _, _ => none
    else none
  | _ :: _ => none
def isSeqLit : PySem.Expr → Bool
  | .Tuple .. => true
  | .List .. => true
  | _ => false
mutual
def compS : Nat → CX → PySem.Stmt → Option S
  | 0, _, _ => none
  | n + 1, c, s => match s with
    | .Assign [.Attribute o a _] e _ => match compE n c e, compE n c o, place a c.att with
      | some e, some o, some k => some (.setA o k e)
      | _, _, _ => none
    | .Assign [.Subscript o i _] e _ => if isSlice i then none else match compE n c e, compE n c o, compE n c i with
      | some e, some o, some i => some (.setI o i e)
      | _, _, _ => none
    | .Assign [.Name x _] (.List es _) _ => if es.length ≤ 1000 then match c.slot x with
      | some i => if c.mu.contains x then (compEs n c es).map (.mls i) else (compEs n c es).map fun es => .asg (.one i) (.lst es)
      | none => none
      else none
    | .Assign [t] e _ => match compT c t, compE n c e with
      | some (.one i), some e => some (.asg (.one i) e)
      | some (.many is), some e' => if isSeqLit e then none else some (.asg (.many is) e')
      | _, _ => none
    | .AugAssign (.Name x _) o e _ => match c.slot x, opB o, compE n c e with
      | some i, some o, some e => some (.aug i o e)
      | _, _, _ => none
    | .Expr (.Call (.Attribute o a ap) [e] [] p) _ => if a == "append" && notSuper o && ap.endLine == p.line then match compE n c o, compE n c e with
        | some o, some e => some (.app o e)
        | _, _ => none
      else none
    | .Return (some e) _ => (compE n c e).map .ret
    | .Return none _ => some (.ret (.lit .none))
    | .If t a b _ => match compE n c t, compSs n c a, compSs n c b with
      | some t, some a, some b => some (.ite t a b)
      | _, _, _ => none
    | .For t e body [] _ => if isSet e then none else match compT c t, compE n c e, compSs n c body with
      | some t, some e, some b => some (.for_ t e b)
      | _, _, _ => none
    | .Try body (h₀ :: hs) [] [] _ => if c.sc.names.all (fun n => n.2 != .cell) then match compSs n c body, compH c (h₀ :: hs) with
      | some b, some h => some (.try_ b h)
      | _, _ => none
      else none
    | .Raise (some (.Call (.Name x _) [e] [] _)) none _ => if x == "ValueError" && c.sc.names.lookup x == some .globalImplicit && nsIn c.K mainGlobals x == some none then (compE n c e).map (.raise .valN) else none
    | .Assert t _ _ => (compE n c t).map .asrt
    | .Continue _ => some .cont
    | _ => none
def compSs : Nat → CX → List PySem.Stmt → Option Ss
  | 0, _, _ => none
  | _ + 1, _, [] => some .nil
  | n + 1, c, s :: r => match compS n c s, compSs n c r with
    | some s, some r => some (.cons s r)
    | _, _ => none
end

def plainPs (a : Arguments) : Bool := a.posonlyargs.isEmpty && a.vararg.isNone && a.kwonlyargs.isEmpty && a.kwarg.isNone
def dfltV (K : Frag) : Value → Option (List V)
  | .none => some []
  | .ref t => match K.lookup t with
    | some o => match o.data with
      | .seq vs _ => reifys K 40 vs.toList
      | _ => none
    | none => none
  | _ => none
def places (att : List Str) : List Str → Option (List Nat)
  | [] => some []
  | x :: r => match place x att, places att r with
    | some k, some l => some (k :: l)
    | none, some l => some (att.length :: l)
    | _, _ => none
def okScope (cells : Bool) (sc : Scope) (ps : List Str) : Bool := sc.kind == .function && !sc.isGenerator && !sc.isCoroutine && sc.names.all (fun n => (cells || n.2 != .cell) && n.2 != .free && !(n.1 == ("__debug__" : Str))) &&
  ps.all (fun x => sc.names.lookup x == some .local)
def locOf (sc : Scope) (ps : List Str) : List Str := ps ++ ((sc.names.filter fun n => (n.2 == .local || n.2 == .cell) && !ps.contains n.1).map (·.1))
def nodupB : List Str → Bool
  | [] => true
  | x :: r => !r.contains x && nodupB r
def mkFn (cells : Bool) (K : Frag) (att mu : List Str) (a : Addr) : Option Fn := match K.lookup a with
  | some ⟨_, _, .func fd, _⟩ => match fd.body with
    | .stmts body =>
      let ps := fd.params.args.map (·.arg)
      if plainPs fd.params && nodupB ps && okScope cells fd.scope ps && fd.closure.isEmpty && fd.globals == mainGlobals && fd.builtins == builtinsNs && codeIn K fd.code fd.qualname then
        match dfltV K fd.defaults, places att ps, compSs 60 ⟨K, att, mu, fd.scope, locOf fd.scope ps, none, false⟩ body with
        | some ds, some ks, some b => if ds.length ≤ ps.length then some ⟨ks.zip (List.replicate (ps.length - ds.length) none ++ ds.map some), (locOf fd.scope ps).length, b⟩ else none
        | _, _, _ => none
      else none
    | _ => none
  | _ => none
/-- no attribute of a class of that name -/
def noAttr (K : Frag) (C : Addr) (name : Str) : Bool := nsIn K cStatics "thirdparty.any" == some none && typeIn K (.ref C) == some (.type "type") && findIn K (.type "type") name == some none && findIn K (.ref C) name == some none &&
  (clsIn K C).any (fun cd => decide (cd.name.cps.foldl (fun k c => k + (Str.utf8Of c).length) 0 ≤ 100) && decide (cd.name.cps.size ≤ 1000)) && decide (name.length ≤ 1000)
/-- a class's name, as it is kept -/
def nameIn (K : Frag) (C : Addr) : Option (Str × Tok) := match K.lookup C with
  | some ⟨_, _, .cls _, sl⟩ => match (sl[2]?).join with
    | some (Value.str n t) => some (n, t)
    | _ => none
  | _ => none
def getsCls (K : Frag) (C : Addr) (x : Str) (a : String) : Bool := match findCls K (.ref C) (.type "type") x with
  | some (.get (.builtin g) (.builtin b) (.ref D) (.type t)) => g == "getset_descriptor.__get__" && b == a && D == C && t == "type"
  | _ => false
/-- a plain class -/
def okC (K : Frag) (C : Addr) : Bool := (clsIn K C).isSome && typeIn K (.ref C) == some (.type "type") && readsIn K C (.type "type") && plainGet K C "" && hasDictIn K C &&
  findIn K (.ref C) "__class__" == some (some (.builtin "object.__class__")) && specialIn K (.builtin "object.__class__") "__get__" == some (some (.builtin "getset_descriptor.__get__")) && takesIn K (.builtin "object.__class__") == some true &&
  mroIn K C (.type "object") == some true && makesIn K C && specialIn K (.ref C) "__getattribute__" == some (some (.builtin "type.__getattribute__")) && plainOver K C &&
  findIn K (.ref C) "__setattr__" == some (some (.builtin "object.__setattr__")) && keepIn K (.ref C) && getsCls K C "__class__" "object.__class__" && getsCls K C "__name__" "type.__name__" && mroIn K C (.type "type") == some false && mroIn K C (.type "str") == some false
def okVal (K : Frag) (C : Addr) (x : Str) (a : Value) : Bool := specialIn K a "__get__" == some none && handedIn a && !copiedNames.contains x && takerIn K C x == some none && findIn K (.type "type") x == some none &&
  match findCls K (.ref C) (.type "type") x with
  | some (.val b) => b == a
  | _ => false
def okMeth (K : Frag) (f : Addr) : Bool := isFn K (.ref f) && fnIn K f && keepIn K (.ref f)
def okCm (K : Frag) (C : Addr) (x : Str) (p f : Addr) : Bool := specialIn K (.ref p) "__get__" == some (some (.builtin "classmethod.__get__")) && takesIn K (.ref p) == some false && fnIn K f && keepIn K (.ref f) && !copiedNames.contains x &&
  (typeIn K (.ref p)).any (fun t => t != .type "function" && t != .type "method_descriptor" && t != .type "wrapper_descriptor") &&
  (match recIn K p "classmethod" with
    | some (.ref g :: _) => g == f
    | _ => false) &&
  match findCls K (.ref C) (.type "type") x with
  | some (.get (.builtin g) (.ref q) .none (.ref D)) => g == "classmethod.__get__" && q == p && D == C
  | _ => false
def attrOf (K : Frag) (C : Addr) (x : Str) : Option (Option CA) := match findIn K (.ref C) x with
  | some none => if noAttr K C x then some none else none
  | some (some (.ref a)) => match K.lookup a with
    | some ⟨_, _, .func _, _⟩ => if okMeth K a then some (some (.meth a)) else none
    | some ⟨.type "classmethod", _, .fields vs, _⟩ => match vs.toList with
      | .ref f :: _ => if okCm K C x a f then some (some (.cmeth f)) else none
      | _ => none
    | _ => if okVal K C x (.ref a) then (reify K 40 (.ref a)).map fun v => some (.val v) else none
  | some (some v) => if okVal K C x v then (reify K 40 v).map fun v => some (.val v) else none
  | none => none
def attrsOf (K : Frag) (C : Addr) : Nat → List Str → Option (List (Nat × CA))
  | _, [] => some []
  | k, x :: r => match attrOf K C x, attrsOf K C (k + 1) r with
    | some (some v), some l => some ((k, v) :: l)
    | some none, some l => some l
    | _, _ => none
def refsOf : List Value → List Nat
  | [] => []
  | .ref a :: r => a :: refsOf r
  | _ :: r => refsOf r
def mkCl (K : Frag) (att : List Str) (C : Addr) : Option Cl := match clsIn K C, nameIn K C with
  | some cd, some (n, _) => if okC K C then match attrsOf K C 0 att with
    | some l => match findIn K (.ref C) "__init__" with
      | some (some (.builtin "object.__init__")) => some ⟨n, l, refsOf cd.mro, none⟩
      | some (some (.ref f)) => if isFn K (.ref f) then some ⟨n, l, refsOf cd.mro, some f⟩ else none
      | _ => none
    | none => none
    else none
  | _, _ => none
def fnsOf (K : Frag) (att mu : List Str) : List Addr → Option (List (Nat × Fn))
  | [] => some []
  | a :: r => match mkFn false K att mu a, fnsOf K att mu r with
    | some f, some l => some ((a, f) :: l)
    | _, _ => none
def clsOf (K : Frag) (att : List Str) : List Addr → Option (List (Nat × Cl))
  | [] => some []
  | a :: r => match mkCl K att a, clsOf K att r with
    | some f, some l => some ((a, f) :: l)
    | _, _ => none
def mkTab (K : Frag) (att mu : List Str) (fs cs : List Addr) : Option Tab := if nodupB att then match fnsOf K att mu fs, clsOf K att cs with
  | some f, some c => some ⟨f, c⟩
  | _, _ => none
  else none
end Mine

/-! Soundness, 1: the relation between the abstract and the model's values and heaps (own work). -/
namespace Mine
open PySem PySem.W PySem.Calls PyProof.Rows

inductive Ent where
  | inst (x dx C : Addr) (es : List DictEntry) (n : Nat)
  | mls (a : Addr) (vs : List Value) (n : Nat)
def Ent.addr : Ent → Addr
  | .inst x _ _ _ _ => x
  | .mls a _ _ => a
def Ent.cells : Ent → List (Addr × Obj)
  | .inst x dx C es n => [(x, instObj C dx), (dx, dictOf es n)]
  | .mls a vs n => [(a, listOf vs.toArray n)]
def cellsOf : List Ent → List (Addr × Obj)
  | [] => []
  | e :: r => e.cells ++ cellsOf r
structure Wd where
  fz : List (Addr × Obj)
  en : List Ent
  kn : List (Addr × Obj) := []
def Wd.led (W : Wd) : List (Addr × Obj) := W.fz ++ cellsOf W.en
def Wd.le (W W' : Wd) : Prop := (∀ p ∈ W.fz, p ∈ W'.fz) ∧ W'.kn = W.kn ∧ ∃ t, W'.en.map Ent.addr = W.en.map Ent.addr ++ t
theorem Wd.le.refl (W : Wd) : W.le W := ⟨fun _ h => h, rfl, [], by simp⟩
theorem Wd.le.trans {W W' W'' : Wd} (x : W.le W') (y : W'.le W'') : W.le W'' := by
  obtain ⟨a, k, t, b⟩ := x
  obtain ⟨c, k', u, d⟩ := y
  exact ⟨fun p h => c p (a p h), k'.trans k, t ++ u, by rw [d, b, List.append_assoc]⟩
theorem Wd.le.at {W W' : Wd} (x : W.le W') {i : Nat} {a : Addr} (h : (W.en.map Ent.addr)[i]? = some a) : (W'.en.map Ent.addr)[i]? = some a := by
  obtain ⟨_, _, t, b⟩ := x
  rw [b]
  have hi : i < (W.en.map Ent.addr).length := by
    rw [List.getElem?_eq_some_iff] at h
    exact h.1
  rw [List.getElem?_append_left hi]
  exact h

theorem le_cons {W : Wd} {p : Addr × Obj} : W.le ⟨p :: W.fz, W.en, W.kn⟩ := ⟨fun _ hp => List.mem_cons_of_mem _ hp, rfl, [], by simp⟩

def Known (K : Frag) (W : Wd) (a : Addr) (o : Obj) : Prop := K.lookup a = some o ∨ (a, o) ∈ W.fz ++ W.kn
theorem Known.mono {K : Frag} {W W' : Wd} {a : Addr} {o : Obj} (x : W.le W') (h : Known K W a o) : Known K W' a o := h.imp id fun q => by
  rcases List.mem_append.mp q with q | q
  · exact List.mem_append_left _ (x.1 _ q)
  · exact List.mem_append_right _ (x.2.1 ▸ q)
abbrev tupObj (vs : Array Value) (n : Nat) : Obj := { cls := .type "tuple", data := .seq vs n }
abbrev rngObj (a b : Int) (t u v : Tok) : Obj := { cls := .type "range", data := .fields #[.int a t, .int b u, .int 1 v] }

mutual
inductive VR (K : Frag) (W : Wd) : Value → V → Prop
  | none : VR K W .none .none
  | bool (b : Bool) : VR K W (.bool b) (.bool b)
  | int (i : Int) (t : Tok) : VR K W (.int i t) (.int i)
  | str (s : Str) (t : Tok) : VR K W (.str s t) (.str s)
  | txt (s : Str) (t : Tok) : VR K W (.str s t) .txt
  | bytes {b : Array UInt8} {t : Tok} {bs : List Int} (h : KBw.bInts b = bs) : VR K W (.bytes b t) (.bytes bs)
  | cls (a : Addr) : VR K W (.ref a) (.cls a)
  | typ (n : String) : VR K W (.type n) (.typ n)
  | tup {a : Addr} {vs : List Value} {n : Nat} {l : List V} (hk : Known K W a (tupObj vs.toArray n)) (hr : VRs K W vs l) : VR K W (.ref a) (.tup l)
  | lst {a : Addr} {vs : List Value} {n : Nat} {l : List V} (hk : Known K W a (listOf vs.toArray n)) (hr : VRs K W vs l) : VR K W (.ref a) (.lst l)
  | rng {a : Addr} {lo hi : Int} {t u v : Tok} (hs : small lo = true ∧ small hi = true) (hk : Known K W a (rngObj lo hi t u v)) : VR K W (.ref a) (.rng lo hi)
  | obj {i : Nat} {a : Addr} (h : (W.en.map Ent.addr)[i]? = some a) : VR K W (.ref a) (.obj i)
  | dct {a : Addr} {es : List DictEntry} {n : Nat} {l : List (Int × V)} (hk : Known K W a (dictOf es n)) (hr : VRd K W es l) : VR K W (.ref a) (.dct l)
inductive VRd (K : Frag) (W : Wd) : List DictEntry → List (Int × V) → Prop
  | nil : VRd K W [] []
  | cons {k : Int} {t : Tok} {v : Value} {x : V} {es : List DictEntry} {l : List (Int × V)} (h : VR K W v x) (r : VRd K W es l) : VRd K W (⟨hashInt k, .int k t, v⟩ :: es) ((k, x) :: l)
inductive VRs (K : Frag) (W : Wd) : List Value → List V → Prop
  | nil : VRs K W [] []
  | cons {v : Value} {x : V} {vs : List Value} {l : List V} (h : VR K W v x) (r : VRs K W vs l) : VRs K W (v :: vs) (x :: l)
end
mutual
theorem VR.mono {K : Frag} {W W' : Wd} (x : W.le W') : ∀ {v : Value} {a : V}, VR K W v a → VR K W' v a
  | _, _, .none => .none
  | _, _, .bool b => .bool b
  | _, _, .int i t => .int i t
  | _, _, .str s t => .str s t
  | _, _, .txt s t => .txt s t
  | _, _, .bytes h => .bytes h
  | _, _, .cls a => .cls a
  | _, _, .typ n => .typ n
  | _, _, .tup hk hr => .tup (hk.mono x) (VRs.mono x hr)
  | _, _, .lst hk hr => .lst (hk.mono x) (VRs.mono x hr)
  | _, _, .rng hs hk => .rng hs (hk.mono x)
  | _, _, .obj h => .obj (x.at h)
  | _, _, .dct hk hr => .dct (hk.mono x) (VRd.mono x hr)
theorem VRd.mono {K : Frag} {W W' : Wd} (x : W.le W') : ∀ {v : List DictEntry} {a : List (Int × V)}, VRd K W v a → VRd K W' v a
  | _, _, .nil => .nil
  | _, _, .cons h r => .cons (VR.mono x h) (VRd.mono x r)
theorem VRs.mono {K : Frag} {W W' : Wd} (x : W.le W') : ∀ {v : List Value} {a : List V}, VRs K W v a → VRs K W' v a
  | _, _, .nil => .nil
  | _, _, .cons h r => .cons (VR.mono x h) (VRs.mono x r)
end
section
variable {K : Frag} {W : Wd}
theorem VRs.length {vs : List Value} {l : List V} (h : VRs K W vs l) : vs.length = l.length := by
  induction l generalizing vs with
  | nil => cases h; rfl
  | cons a r ih => cases h with | cons _ q => simp [ih q]
theorem VRs.get {vs : List Value} {l : List V} (h : VRs K W vs l) {i : Nat} {a : V} (e : l[i]? = some a) : ∃ v, vs[i]? = some v ∧ VR K W v a := by
  induction l generalizing vs i with
  | nil => simp at e
  | cons b r ih =>
    cases h with
    | cons p q =>
      cases i with
      | zero => simp at e; subst e; exact ⟨_, rfl, p⟩
      | succ i => simp at e; obtain ⟨v, h1, h2⟩ := ih q e; exact ⟨v, by simpa using h1, h2⟩
theorem VRs.append {vs ws : List Value} {l k : List V} (h : VRs K W vs l) (g : VRs K W ws k) : VRs K W (vs ++ ws) (l ++ k) := by
  induction l generalizing vs with
  | nil => cases h; exact g
  | cons a r ih => cases h with | cons p q => exact .cons p (ih q)
theorem VRs.drop {vs : List Value} {l : List V} (h : VRs K W vs l) (n : Nat) : VRs K W (vs.drop n) (l.drop n) := by
  induction n generalizing vs l with
  | zero => simpa using h
  | succ n ih => cases h with
    | nil => simpa using VRs.nil
    | cons p q => simpa using ih q
theorem VRs.take {vs : List Value} {l : List V} (h : VRs K W vs l) (n : Nat) : VRs K W (vs.take n) (l.take n) := by
  induction n generalizing vs l with
  | zero => simpa using VRs.nil
  | succ n ih => cases h with
    | nil => simpa using VRs.nil
    | cons p q => simpa using VRs.cons p (ih q)
theorem VRs.set {vs : List Value} {l : List V} {v : Value} {a : V} (h : VRs K W vs l) (p : VR K W v a) (n : Nat) : VRs K W (vs.set n v) (l.set n a) := by
  induction n generalizing vs l with
  | zero => cases h with
    | nil => exact .nil
    | cons _ q => exact .cons p q
  | succ n ih => cases h with
    | nil => exact .nil
    | cons r q => exact .cons r (ih q)
theorem VRs.intsOf {vs : List Value} {l : List V} {ns : List Int} (h : VRs K W vs l) (e : intsOf l = some ns) : IntsAre vs ns := by
  induction l generalizing vs ns with
  | nil => cases h; simp [Mine.intsOf] at e; subst e; exact .nil
  | cons a r ih =>
    cases h with
    | cons p q =>
      cases a <;> simp only [Mine.intsOf] at e <;> try (exact absurd e (by simp))
      rename_i i
      cases hr : Mine.intsOf r with
      | none => rw [hr] at e; cases e
      | some k =>
        rw [hr] at e; cases e
        cases p
        exact .cons _ _ (ih q hr)
theorem VRs.of_ints {vs : List Value} {ns : List Int} (h : IntsAre vs ns) : VRs K W vs (ns.map V.int) := by
  induction h with
  | nil => exact .nil
  | cons n t _ ih => exact .cons (.int n t) ih
end

/-! fields of an instance; the store -/
inductive FR (K : Frag) (W : Wd) (att : List Str) : List DictEntry → List (Nat × V) → Prop
  | nil : FR K W att [] []
  | cons {h : Int} {x : Str} {t : Tok} {v : Value} {k : Nat} {a : V} {es : List DictEntry} {fs : List (Nat × V)} (hx : att[k]? = some x) (hv : VR K W v a) (r : FR K W att es fs) : FR K W att (⟨h, .str x t, v⟩ :: es) ((k, a) :: fs)
inductive EntR (K : Frag) (W : Wd) (att : List Str) : Ent → AO → Prop
  | inst {x dx C : Addr} {es : List DictEntry} {n : Nat} {fs : List (Nat × V)} (h : FR K W att es fs) : EntR K W att (.inst x dx C es n) (.inst C fs)
  | mls {a : Addr} {vs : List Value} {n : Nat} {l : List V} (h : VRs K W vs l) : EntR K W att (.mls a vs n) (.mls l)
inductive SR (K : Frag) (W : Wd) (att : List Str) : List Ent → St → Prop
  | nil : SR K W att [] []
  | cons {e : Ent} {o : AO} {l : List Ent} {σ : St} (h : EntR K W att e o) (r : SR K W att l σ) : SR K W att (e :: l) (o :: σ)
section
variable {K : Frag} {W W' : Wd} {att : List Str}
theorem FR.mono (x : W.le W') {es : List DictEntry} {fs : List (Nat × V)} (h : FR K W att es fs) : FR K W' att es fs := by
  induction h with
  | nil => exact .nil
  | cons hx hv _ ih => exact .cons hx (hv.mono x) ih
theorem EntR.mono (x : W.le W') {e : Ent} {o : AO} (h : EntR K W att e o) : EntR K W' att e o := by
  cases h with
  | inst h => exact .inst (h.mono x)
  | mls h => exact .mls (h.mono x)
theorem SR.mono (x : W.le W') {l : List Ent} {σ : St} (h : SR K W att l σ) : SR K W' att l σ := by
  induction h with
  | nil => exact .nil
  | cons h _ ih => exact .cons (h.mono x) ih
theorem SR.length {l : List Ent} {σ : St} (h : SR K W att l σ) : l.length = σ.length := by
  induction h with
  | nil => rfl
  | cons _ _ ih => simp [ih]
theorem SR.get {l : List Ent} {σ : St} (h : SR K W att l σ) {i : Nat} {o : AO} (e : σ[i]? = some o) : ∃ n, l[i]? = some n ∧ EntR K W att n o := by
  induction h generalizing i with
  | nil => simp at e
  | cons p _ ih =>
    cases i with
    | zero => simp at e; subst e; exact ⟨_, rfl, p⟩
    | succ i => simp at e; obtain ⟨n, h1, h2⟩ := ih e; exact ⟨n, by simpa using h1, h2⟩
theorem SR.set {l : List Ent} {σ : St} (h : SR K W att l σ) {n : Ent} {o : AO} (p : EntR K W att n o) (i : Nat) : SR K W att (l.set i n) (σ.set i o) := by
  induction h generalizing i with
  | nil => exact .nil
  | cons q r ih => cases i with
    | zero => exact .cons p r
    | succ i => exact .cons q (ih i)
theorem SR.snoc {l : List Ent} {σ : St} (h : SR K W att l σ) {n : Ent} {o : AO} (p : EntR K W att n o) : SR K W att (l ++ [n]) (σ ++ [o]) := by
  induction h with
  | nil => exact .cons p .nil
  | cons q _ ih => exact .cons q ih
end

structure Apart (X : List (Addr × Obj)) (W : Wd) : Prop where
  sep : ∀ p ∈ X ++ W.fz, ∀ q ∈ cellsOf W.en, p.1 ≠ q.1
  nodup : ((cellsOf W.en).map (·.1)).Nodup
  sx : ∀ p ∈ X, ∀ q ∈ W.fz, p.1 ≠ q.1
structure Core (K : Frag) (att : List Str) (g : Heap) (L : Addr) (m : Str → Option Value) (X : List (Addr × Obj)) (W : Wd) (σ : St) (h : Heap) : Prop where
  F : Fr g L h m
  N : News g L h (X ++ W.led)
  ap : Apart X W
  sr : SR K W att W.en σ
  kin : K.In g
  knw : ∀ p ∈ W.kn, g.get? p.1 = some p.2 ∧ ∀ es n, p.2.data ≠ .dict es n

section
variable {K : Frag} {att : List Str} {g h : Heap} {L : Addr} {m : Str → Option Value} {X : List (Addr × Obj)} {W : Wd} {σ : St}
theorem Core.fzN (C : Core K att g L m X W σ h) {a : Addr} {o : Obj} (hm : (a, o) ∈ W.fz) : h.get? a = some o :=
  (C.N (a, o) (List.mem_append_right _ (List.mem_append_left _ hm))).1
theorem Core.known (C : Core K att g L m X W σ h) {a : Addr} {o : Obj} (k : Known K W a o) : h.get? a = some o :=
  k.elim (fun e => C.F.keep _ _ (C.kin _ _ e)) fun q => (List.mem_append.mp q).elim C.fzN fun q => C.F.keep _ _ (C.knw _ q).1
theorem Core.enN (C : Core K att g L m X W σ h) {a : Addr} {o : Obj} (hm : (a, o) ∈ cellsOf W.en) : h.get? a = some o :=
  (C.N (a, o) (List.mem_append_right _ (List.mem_append_right _ hm))).1
theorem mem_cellsOf {l : List Ent} {i : Nat} {e : Ent} (h : l[i]? = some e) {p : Addr × Obj} (hp : p ∈ e.cells) : p ∈ cellsOf l := by
  induction l generalizing i with
  | nil => simp at h
  | cons a r ih => cases i with
    | zero => simp at h; subst h; exact List.mem_append_left _ hp
    | succ i => simp at h; exact List.mem_append_right _ (ih h)
theorem Core.lt (C : Core K att g L m X W σ h) {p : Addr × Obj} (hp : p ∈ X ++ W.led) : p.1 < h.objs.size := Heap.lt_size (C.N p hp).1
/-- the heap grows by what nobody names -/
theorem Core.grow {h' : Heap} (C : Core K att g L m X W σ h) (k : ∀ b o, h.get? b = some o → h'.get? b = some o) : Core K att g L m X W σ h' :=
  ⟨C.F.keeps k, C.N.grown k, C.ap, C.sr, C.kin, C.knw⟩
theorem Core.push (C : Core K att g L m X W σ h) (o : Obj) : Core K att g L m X W σ (h.push o) := C.grow fun _ _ e => Heap.get?_push_of_some _ e
/-- a new object that never changes -/
theorem Core.pushF (C : Core K att g L m X W σ h) (o : Obj) (hf : o.isFreed = false) :
    Core K att g L m X ⟨(h.objs.size, o) :: W.fz, W.en, W.kn⟩ σ (h.push o) := by
  have N' := News.push C.F C.N o hf
  refine ⟨C.F.push o, fun p hp => N' p ?_, ⟨fun p hp q hq => ?_, C.ap.nodup, fun p hp q hq => ?_⟩, C.sr.mono le_cons, C.kin, C.knw⟩
  · rcases List.mem_append.mp hp with h1 | h1
    · exact List.mem_cons_of_mem _ (List.mem_append_left _ h1)
    · rcases List.mem_cons.mp h1 with h2 | h2
      · exact h2 ▸ List.mem_cons_self
      · exact List.mem_cons_of_mem _ (List.mem_append_right _ h2)
  · rcases List.mem_append.mp hp with h1 | h1
    · exact C.ap.sep p (List.mem_append_left _ h1) q hq
    · rcases List.mem_cons.mp h1 with h2 | h2
      · subst h2
        exact Nat.ne_of_gt (C.lt (List.mem_append_right _ (List.mem_append_right _ hq)))
      · exact C.ap.sep p (List.mem_append_right _ h2) q hq
  · rcases List.mem_cons.mp hq with rfl | hq
    · exact Nat.ne_of_lt (C.lt (List.mem_append_left _ hp))
    · exact C.ap.sx p hp q hq
end
end Mine

/-! Soundness, 2: comparisons (own work). -/
namespace Mine
open PySem PySem.W PySem.Calls PyProof.Rows PySem.SeqAt

section
variable {A : Around} {s : Shared} {b c : Array UInt8} {t u : Tok} {x : Str}
theorem map_nat_inj : ∀ {l k : List UInt8}, l.map (fun c => (c.toNat : Int)) = k.map (fun c => (c.toNat : Int)) → l = k
  | [], [], _ => rfl
  | [], _ :: _, h => by simp at h
  | _ :: _, [], h => by simp at h
  | a :: r, b :: t, h => by
    simp only [List.map_cons, List.cons.injEq] at h
    rw [map_nat_inj h.2, UInt8.toNat_inj.mp (show a.toNat = b.toNat by omega)]
theorem bs_inj {b c : Array UInt8} (h : KBw.bInts b = KBw.bInts c) : b = c := Array.toList_inj.mp (map_nat_inj h)
theorem bs_dec : decide (b.toList = c.toList) = decide (KBw.bInts b = KBw.bInts c) := by
  rw [Bool.eq_iff_iff]; simp only [decide_eq_true_eq]
  exact ⟨fun e => by unfold KBw.bInts; rw [e], fun e => by rw [bs_inj e]⟩
theorem sub_str_bytes : isSubtype (.type "str") (.type "bytes") = pure false := by rw [isSubtype_type]; kernel_rfl
theorem sub_none_bytes : isSubtype (.type "NoneType") (.type "bytes") = pure false := by rw [isSubtype_type]; kernel_rfl
theorem sub_bytes_none : isSubtype (.type "bytes") (.type "NoneType") = pure false := by rw [isSubtype_type]; kernel_rfl
theorem sub_bytes_str : isSubtype (.type "bytes") (.type "str") = pure false := by rw [isSubtype_type]; kernel_rfl
theorem g1 : Gives (Builtin.«bytes.__eq__» ⟨[.bytes b t, .str x u], []⟩) (.val .notImplemented) := .of_wp fun M A E s Q h => by obtain ⟨hp, g, d, tk, os⟩ := s; have f1 := sub_str_bytes; wp_walk; exact ⟨_, rfl, h⟩
theorem g2 : Gives (Builtin.«str.__eq__» ⟨[.str x u, .bytes b t], []⟩) (.val .notImplemented) := .of_wp fun M A E s Q h => by obtain ⟨hp, g, d, tk, os⟩ := s; wp_walk; exact ⟨_, rfl, h⟩
theorem g3 : Gives (Builtin.«bytes.__eq__» ⟨[.bytes b t, .none], []⟩) (.val .notImplemented) := .of_wp fun M A E s Q h => by obtain ⟨hp, g, d, tk, os⟩ := s; have f1 := sub_none_bytes; wp_walk; exact ⟨_, rfl, h⟩
theorem g4 : Gives (Builtin.«NoneType.__eq__» ⟨[.none, .bytes b t], []⟩) (.val .notImplemented) := .of_wp fun M A E s Q h => by obtain ⟨hp, g, d, tk, os⟩ := s; wp_walk; exact ⟨_, rfl, h⟩
theorem g5 : Gives (Builtin.«bytes.__ne__» ⟨[.bytes b t, .str x u], []⟩) (.val .notImplemented) := .of_wp fun M A E s Q h => by obtain ⟨hp, g, d, tk, os⟩ := s; have f1 := sub_str_bytes; wp_walk; exact ⟨_, rfl, h⟩
theorem g6 : Gives (Builtin.«str.__ne__» ⟨[.str x u, .bytes b t], []⟩) (.val .notImplemented) := .of_wp fun M A E s Q h => by obtain ⟨hp, g, d, tk, os⟩ := s; wp_walk; exact ⟨_, rfl, h⟩
theorem g7 : Gives (Builtin.«bytes.__ne__» ⟨[.bytes b t, .none], []⟩) (.val .notImplemented) := .of_wp fun M A E s Q h => by obtain ⟨hp, g, d, tk, os⟩ := s; have f1 := sub_none_bytes; wp_walk; exact ⟨_, rfl, h⟩
theorem g8 : Gives (Builtin.«NoneType.__ne__» ⟨[.none, .bytes b t], []⟩) (.val .notImplemented) := .of_wp fun M A E s Q h => by obtain ⟨hp, g, d, tk, os⟩ := s; wp_walk; exact ⟨_, rfl, h⟩
theorem slot_bytes_eqr : Slot "bytes" (cmpInfo .Eq).2.2 "bytes.__eq__" := FB.slot_bytes_eq
theorem slot_bytes_ner : Slot "bytes" (cmpInfo .NotEq).2.2 "bytes.__ne__" := FB.slot_bytes_ne

theorem rc_bytes : RcAt A s (.bytes b t) (.bytes c u) (decide (KBw.bInts b = KBw.bInts c)) := fun prog w E Q h =>
  richCompare_gives (op := .Eq) (T := "bytes") rfl rfl FB.slot_bytes_eq FB.entry_bytes_eq (FB.args_bytes_eq_2 _ _) (gives_bytes_eq b c t u) (fun x => nomatch x)
    (by rw [← bs_dec] at h; rw [show (b.toList == c.toList) = decide (b.toList = c.toList) by rw [Bool.eq_iff_iff]; simp]; exact h)
theorem rcn_bytes : RcNeAt A s (.bytes b t) (.bytes c u) (!decide (KBw.bInts b = KBw.bInts c)) := fun prog w E Q h =>
  richCompare_gives (op := .NotEq) (T := "bytes") rfl rfl FB.slot_bytes_ne FB.entry_bytes_ne (FB.args_bytes_ne_2 _ _) (gives_bytes_ne b c t u) (fun x => nomatch x)
    (by rw [← bs_dec] at h; rw [bne, show (b.toList == c.toList) = decide (b.toList = c.toList) by rw [Bool.eq_iff_iff]; simp]; exact h)
theorem rc_bytes_str : RcAt A s (.bytes b t) (.str x u) false := fun prog w E Q h =>
  rc_eq_decline_or (k := false) rfl rfl (by decide) sub_str_bytes FB.slot_bytes_eq F.slot_str_eq_refl
    (fun _ hq => call_gives FB.slot_bytes_eq rfl FB.entry_bytes_eq (FB.args_bytes_eq_2 _ _) g1 hq)
    (fun _ hq => call_gives F.slot_str_eq_refl rfl F.entry_str_eq (F.args_str_eq_2 _ _) g2 hq)
    (fun _ hq => wpAny_of_eq (rfl : isSame (.bytes b t) (.str x u) = pure false) hq) (.inl rfl) h
theorem rc_str_bytes : RcAt A s (.str x u) (.bytes b t) false := fun prog w E Q h =>
  rc_eq_decline_or (k := false) rfl rfl (by decide) sub_bytes_str F.slot_str_eq slot_bytes_eqr
    (fun _ hq => call_gives F.slot_str_eq rfl F.entry_str_eq (F.args_str_eq_2 _ _) g2 hq)
    (fun _ hq => call_gives slot_bytes_eqr rfl FB.entry_bytes_eq (FB.args_bytes_eq_2 _ _) g1 hq)
    (fun _ hq => wpAny_of_eq (rfl : isSame (.str x u) (.bytes b t) = pure false) hq) (.inl rfl) h
theorem rc_bytes_none : RcAt A s (.bytes b t) .none false := fun prog w E Q h =>
  rc_eq_decline_or (k := false) rfl rfl (by decide) sub_none_bytes FB.slot_bytes_eq F.slot_NoneType_eq_refl
    (fun _ hq => call_gives FB.slot_bytes_eq rfl FB.entry_bytes_eq (FB.args_bytes_eq_2 _ _) g3 hq)
    (fun _ hq => call_gives F.slot_NoneType_eq_refl rfl F.entry_NoneType_eq (F.args_NoneType_eq_2 _ _) g4 hq)
    (fun _ hq => wpAny_of_eq (rfl : isSame (.bytes b t) .none = pure false) hq) (.inl rfl) h
theorem rc_none_bytes : RcAt A s .none (.bytes b t) false := fun prog w E Q h =>
  rc_eq_decline_or (k := false) rfl rfl (by decide) sub_bytes_none F.slot_NoneType_eq slot_bytes_eqr
    (fun _ hq => call_gives F.slot_NoneType_eq rfl F.entry_NoneType_eq (F.args_NoneType_eq_2 _ _) g4 hq)
    (fun _ hq => call_gives slot_bytes_eqr rfl FB.entry_bytes_eq (FB.args_bytes_eq_2 _ _) g3 hq)
    (fun _ hq => wpAny_of_eq (rfl : isSame .none (.bytes b t) = pure false) hq) (.inl rfl) h
theorem rcn_bytes_str : RcNeAt A s (.bytes b t) (.str x u) true := fun prog w E Q h =>
  rc_ne_decline_or (k := false) rfl rfl (by decide) sub_str_bytes FB.slot_bytes_ne F.slot_str_ne_refl
    (fun _ hq => call_gives FB.slot_bytes_ne rfl FB.entry_bytes_ne (FB.args_bytes_ne_2 _ _) g5 hq)
    (fun _ hq => call_gives F.slot_str_ne_refl rfl F.entry_str_ne (F.args_str_ne_2 _ _) g6 hq)
    (fun _ hq => wpAny_of_eq (rfl : isSame (.bytes b t) (.str x u) = pure false) hq) (.inl rfl) h
theorem rcn_str_bytes : RcNeAt A s (.str x u) (.bytes b t) true := fun prog w E Q h =>
  rc_ne_decline_or (k := false) rfl rfl (by decide) sub_bytes_str F.slot_str_ne slot_bytes_ner
    (fun _ hq => call_gives F.slot_str_ne rfl F.entry_str_ne (F.args_str_ne_2 _ _) g6 hq)
    (fun _ hq => call_gives slot_bytes_ner rfl FB.entry_bytes_ne (FB.args_bytes_ne_2 _ _) g5 hq)
    (fun _ hq => wpAny_of_eq (rfl : isSame (.str x u) (.bytes b t) = pure false) hq) (.inl rfl) h
theorem rcn_bytes_none : RcNeAt A s (.bytes b t) .none true := fun prog w E Q h =>
  rc_ne_decline_or (k := false) rfl rfl (by decide) sub_none_bytes FB.slot_bytes_ne F.slot_NoneType_ne_refl
    (fun _ hq => call_gives FB.slot_bytes_ne rfl FB.entry_bytes_ne (FB.args_bytes_ne_2 _ _) g7 hq)
    (fun _ hq => call_gives F.slot_NoneType_ne_refl rfl F.entry_NoneType_ne (F.args_NoneType_ne_2 _ _) g8 hq)
    (fun _ hq => wpAny_of_eq (rfl : isSame (.bytes b t) .none = pure false) hq) (.inl rfl) h
theorem rcn_none_bytes : RcNeAt A s .none (.bytes b t) true := fun prog w E Q h =>
  rc_ne_decline_or (k := false) rfl rfl (by decide) sub_bytes_none F.slot_NoneType_ne slot_bytes_ner
    (fun _ hq => call_gives F.slot_NoneType_ne rfl F.entry_NoneType_ne (F.args_NoneType_ne_2 _ _) g8 hq)
    (fun _ hq => call_gives slot_bytes_ner rfl FB.entry_bytes_ne (FB.args_bytes_ne_2 _ _) g7 hq)
    (fun _ hq => wpAny_of_eq (rfl : isSame .none (.bytes b t) = pure false) hq) (.inl rfl) h
/-- a test of sameness ahead, then the comparison -/
theorem at_of_rc {v y : Value} {k : Bool} (hs : v = y → k = true) (hf : (∀ a t, v ≠ .float a t)) (h : RcAt A s v y k) : EqAt A s v y k := fun prog w E Q hq => by
  unfold eqBool
  refine wpAny_holding ?_
  refine wpAny_ite_split (fun hab => ?_) (fun _ => ?_)
  · rw [hs (eq_of_beq hab)] at hq
    exact wpAny_bind (wpAny_rule (wpAny_pure hq))
  · cases v with
    | float a t => exact absurd rfl (hf a t)
    | _ => exact wpAny_bind (h prog w E _ (wpAny_truthy_bool hq))
end

section
variable {K : Frag} {W : Wd} {A : Around} {s : Shared}
theorem rcF {v y : Value} {a b : V} {k : Bool} (h1 : VR K W v a) (h2 : VR K W y b) (e : veqF a b = some k) : RcAt A s v y k := by
  cases a <;> cases b <;> simp only [veqF, Option.some.injEq, reduceCtorEq] at e <;> subst e <;> cases h1 <;> cases h2
  · exact fun prog w E Q h => richCompare_gives (T := "NoneType") rfl rfl F.slot_NoneType_eq F.entry_NoneType_eq (F.args_NoneType_eq_2 _ _) EqNone.NoneType___eq___none_none_0 nofun h
  · exact RcAt.none_bool _
  · exact RcAt.none_int _ _
  · exact rc_none_bytes
  · exact RcAt.bool_none _
  · exact RcAt.bool_bool _ _
  · exact RcAt.int_none _ _
  · exact RcAt.int_int _ _ _ _
  · exact RcAt.str_str _ _ _ _
  · exact rc_str_bytes
  · exact rc_bytes_none
  · exact rc_bytes_str
  · subst_vars; exact rc_bytes
theorem rcnF {v y : Value} {a b : V} {k : Bool} (h1 : VR K W v a) (h2 : VR K W y b) (e : veqF a b = some k) : RcNeAt A s v y (!k) := by
  cases a <;> cases b <;> simp only [veqF, Option.some.injEq, reduceCtorEq] at e <;> subst e <;> cases h1 <;> cases h2
  · exact RcNeAt.none_none
  · exact RcNeAt.none_bool _
  · exact RcNeAt.none_int _ _
  · exact rcn_none_bytes
  · exact RcNeAt.bool_none _
  · exact RcNeAt.bool_bool _ _
  · exact RcNeAt.int_none _ _
  · exact RcNeAt.int_int _ _ _ _
  · exact RcNeAt.str_str _ _ _ _
  · exact rcn_str_bytes
  · exact rcn_bytes_none
  · exact rcn_bytes_str
  · subst_vars; exact rcn_bytes
theorem atF {v y : Value} {a b : V} {k : Bool} (h1 : VR K W v a) (h2 : VR K W y b) (e : veqF a b = some k) : EqAt A s v y k := by
  refine at_of_rc (fun q => ?_) ?_ (rcF h1 h2 e)
  · subst q
    cases a <;> cases b <;> simp only [veqF, Option.some.injEq, reduceCtorEq] at e <;> subst e <;> cases h1 <;> cases h2 <;> first | rfl | (subst_vars; simp; done) | simp
  · intro x t q
    subst q
    cases h1
/-- item by item -/
theorem ats {vs ys : List Value} {l k : List V} {r : Bool} (h1 : VRs K W vs l) (h2 : VRs K W ys k) (e : veqs l k = some r) :
    vs.length = ys.length ∧ ∃ f : Nat → Bool, (∀ j (p : j < vs.toArray.size) (q : j < ys.toArray.size), EqAt A s vs.toArray[j] ys.toArray[j] (f j)) ∧ (List.range vs.length).all f = r := by
  induction l generalizing vs ys k r with
  | nil =>
    cases h1
    cases k with
    | nil => cases h2; simp only [veqs, Option.some.injEq] at e; subst e; exact ⟨rfl, fun _ => true, fun j p => absurd p (by simp), rfl⟩
    | cons _ _ => simp [veqs] at e
  | cons a l ih =>
    cases k with
    | nil => simp [veqs] at e
    | cons b k =>
      cases h1 with
      | cons p1 r1 =>
        cases h2 with
        | cons p2 r2 =>
          cases x1 : veqF a b with
          | none => simp [veqs, x1] at e
          | some x =>
            cases x2 : veqs l k with
            | none => simp [veqs, x1, x2] at e
            | some y =>
              simp only [veqs, x1, x2, Option.some.injEq] at e
              subst e
              obtain ⟨hl, f, hf, hr⟩ := ih r1 r2 x2
              refine ⟨by simp [hl], fun j => match j with | 0 => x | j + 1 => f j, fun j p q => ?_, ?_⟩
              · cases j with
                | zero => exact atF p1 p2 x1
                | succ j => exact hf j (by simpa using p) (by simpa using q)
              · rw [List.length_cons, List.range_succ_eq_map, List.all_cons, List.all_map]
                rw [← hr]
                rfl
end

section
variable {prog : Program} {w : World} {A : Around} {E : Value → Shared → Prop} {s : Shared} {K : Frag} {att : List Str} {g : Heap} {L : Addr} {m : Str → Option Value} {X : List (Addr × Obj)} {W : Wd} {σ : St} {Q : Value → Shared → Prop}
theorem isT_of {h : Heap} {a : Addr} {vs : List Value} {n : Nat} (e : h.get? a = some (tupObj vs.toArray n)) : h.IsTuple a vs.toArray := ⟨_, e, rfl, n, rfl⟩
theorem isL_of {h : Heap} {a : Addr} {vs : List Value} {n : Nat} (e : h.get? a = some (listOf vs.toArray n)) : h.IsList a vs.toArray := ⟨_, e, rfl, n, rfl⟩
theorem op_eq {x y : Value} {a b : V} {k : Bool} (C : Core K att g L m X W σ s.heap) (hu : A.units < cLine) (h1 : VR K W x a) (h2 : VR K W y b) (e : veq a b = some k) (h : Q (.bool k) s) :
    wpAny (model prog w) A (compareOp .Eq x y) Q E s := by
  have flat : veqF a b = some k → wpAny (model prog w) A (compareOp .Eq x y) Q E s := fun e => rcF h1 h2 e prog w E Q h
  cases a with
  | tup l =>
    cases b with
    | tup r =>
      cases h1 with
      | tup k1 r1 => cases h2 with
        | tup k2 r2 =>
          obtain ⟨hl, f, hf, hr⟩ := ats (A := A.in1) (s := s) r1 r2 e
          refine eq_tupleAt (e := f) (isT_of (C.known k1)) (isT_of (C.known k2)) hu hf ?_
          simp only [List.size_toArray, hl, Nat.min_self, beq_self_eq_true, Bool.and_true]
          rw [← hl, hr]; exact h
    | str r =>
      simp only [veq, Option.some.injEq] at e
      subst e
      cases h1 with
      | tup k1 r1 => cases h2; exact RcAt.tuple_str _ _ (isT_of (C.known k1)) hu prog w E Q h
    | _ => exact flat e
  | lst l =>
    cases b with
    | lst r =>
      cases h1 with
      | lst k1 r1 => cases h2 with
        | lst k2 r2 =>
          simp only [veq] at e
          split at e
          · obtain ⟨hl, f, hf, hr⟩ := ats (A := A.in1) (s := s) r1 r2 e
            exact eq_listAt (e := f) (isL_of (C.known k1)) (isL_of (C.known k2)) (by simp [hl]) hu hf (by simp only [List.size_toArray]; rw [hr]; exact h)
          · rename_i hn
            cases e
            refine eq_list_lengthsAt (isL_of (C.known k1)) (isL_of (C.known k2)) ?_ hu h
            simpa [r1.length, r2.length] using hn
    | _ => exact flat e
  | str l =>
    cases b with
    | tup r =>
      simp only [veq, Option.some.injEq] at e
      subst e
      cases h2 with
      | tup k1 r1 => cases h1; exact RcAt.str_tuple _ _ (isT_of (C.known k1)) hu prog w E Q h
    | _ => exact flat e
  | _ => exact flat (by cases b <;> exact e)
theorem op_ne {x y : Value} {a b : V} {k : Bool} (C : Core K att g L m X W σ s.heap) (hu : A.units < cLine) (h1 : VR K W x a) (h2 : VR K W y b) (e : veq a b = some k) (h : Q (.bool (!k)) s) :
    wpAny (model prog w) A (compareOp .NotEq x y) Q E s := by
  have flat : veqF a b = some k → wpAny (model prog w) A (compareOp .NotEq x y) Q E s := fun e => rcnF h1 h2 e prog w E Q h
  cases a with
  | tup l =>
    cases b with
    | tup r =>
      cases h1 with
      | tup k1 r1 => cases h2 with
        | tup k2 r2 =>
          obtain ⟨hl, f, hf, hr⟩ := ats (A := A.in1) (s := s) r1 r2 e
          refine RcNeAt.tuples (e := f) (isT_of (C.known k1)) (isT_of (C.known k2)) hu hf prog w E Q ?_
          simp only [List.size_toArray, hl, Nat.min_self, beq_self_eq_true, Bool.and_true]
          rw [← hl, hr]; exact h
    | str r =>
      simp only [veq, Option.some.injEq] at e
      subst e
      cases h1 with
      | tup k1 r1 => cases h2; exact RcNeAt.tuple_str _ _ (isT_of (C.known k1)) hu prog w E Q h
    | _ => exact flat e
  | lst l =>
    cases b with
    | lst r =>
      cases h1 with
      | lst k1 r1 => cases h2 with
        | lst k2 r2 =>
          simp only [veq] at e
          split at e
          · obtain ⟨hl, f, hf, hr⟩ := ats (A := A.in1) (s := s) r1 r2 e
            exact RcNeAt.lists (e := f) (isL_of (C.known k1)) (isL_of (C.known k2)) (by simp [hl]) hu hf prog w E Q (by simp only [List.size_toArray]; rw [hr]; exact h)
          · rename_i hn
            cases e
            refine RcNeAt.lists_lengths (isL_of (C.known k1)) (isL_of (C.known k2)) ?_ hu prog w E Q h
            simpa [r1.length, r2.length] using hn
    | _ => exact flat e
  | str l =>
    cases b with
    | tup r =>
      simp only [veq, Option.some.injEq] at e
      subst e
      cases h2 with
      | tup k1 r1 => cases h1; exact RcNeAt.str_tuple _ _ (isT_of (C.known k1)) hu prog w E Q h
    | _ => exact flat e
  | _ => exact flat (by cases b <;> exact e)
end
end Mine

/-! Soundness, 3: the operations (own work). -/
namespace Mine
open PySem PySem.W PySem.Calls PyProof.Rows PySem.SeqAt

/-- how an operation answers: the world grows, the heap is the new one's -/
def Ans (K : Frag) (att : List Str) (g : Heap) (L : Addr) (m : Str → Option Value) (X : List (Addr × Obj)) (W : Wd) (σ : St) (s : Shared) (c : V) (Q : Value → Shared → Prop) : Prop :=
  ∀ v W' h' tk, W.le W' → Core K att g L m X W' σ h' → VR K W' v c → Q v { s with heap := h', toks := tk }

section
variable {prog : Program} {w : World} {A : Around} {E : Value → Shared → Prop} {s : Shared} {K : Frag} {att : List Str} {g : Heap} {L : Addr} {m : Str → Option Value} {X : List (Addr × Obj)} {W : Wd} {σ : St} {Q : Value → Shared → Prop} {c : V}
theorem Ans.now (h : Ans K att g L m X W σ s c Q) (C : Core K att g L m X W σ s.heap) {v : Value} (hv : VR K W v c) (tk : Nat) : Q v { s with toks := tk } := h v W s.heap tk (.refl W) C hv
theorem Ans.here (h : Ans K att g L m X W σ s c Q) (C : Core K att g L m X W σ s.heap) {v : Value} (hv : VR K W v c) : Q v s := h v W s.heap s.toks (.refl W) C hv
theorem Ans.push (h : Ans K att g L m X W σ s c Q) (C : Core K att g L m X W σ s.heap) (o : Obj) (hf : o.isFreed = false) (hv : VR K ⟨(s.heap.objs.size, o) :: W.fz, W.en, W.kn⟩ (.ref s.heap.objs.size) c) (tk : Nat) :
    Q (.ref s.heap.objs.size) { s with heap := s.heap.push o, toks := tk } := h _ _ _ tk le_cons (C.pushF o hf) hv
theorem room_le {n : Nat} (e : room n = true) : n ≤ 100000 := by simpa [room] using e
theorem small_bd' {a : Int} (e : small a = true) : -1099511627776 ≤ a ∧ a ≤ 1099511627776 := by simpa [small] using e
theorem small_mul {a b : Int} (e : small a = true) : IntMulOk a b := by
  refine IntMulOk.of_left ?_
  simp only [small, Bool.and_eq_true, decide_eq_true_eq] at e
  unfold Builtin.Int.intBits
  split
  · exact Nat.zero_le _
  · rename_i hne
    have h0 : a.natAbs ≠ 0 := by
      intro z; apply hne; simp [Int.natAbs_eq_zero.mp z]
    have : a.natAbs < 2 ^ 63 := by omega
    have h2 := (Nat.log2_lt h0).mpr this
    omega
theorem Core.fzP (C : Core K att g L m X W σ s.heap) {p : Addr × Obj} (hp : p ∈ W.fz) : p.1 < s.heap.objs.size := C.lt (List.mem_append_right _ (List.mem_append_left _ hp))
/-- a list that may change, read as it is now -/
theorem Core.mls (C : Core K att g L m X W σ s.heap) {v : Value} {i : Nat} {l : List V} (hv : VR K W v (.obj i)) (e : σ[i]? = some (.mls l)) :
    ∃ a vs n, v = .ref a ∧ W.en[i]? = some (.mls a vs n) ∧ VRs K W vs l ∧ s.heap.get? a = some (listOf vs.toArray n) := by
  cases hv with
  | obj h =>
    obtain ⟨n, h1, h2⟩ := C.sr.get e
    cases h2 with
    | mls q =>
      rw [List.getElem?_map, h1] at h
      cases h
      exact ⟨_, _, _, rfl, h1, q, C.enN (mem_cellsOf h1 (.head _))⟩
theorem Core.inst (C : Core K att g L m X W σ s.heap) {v : Value} {i C' : Nat} {fs : List (Nat × V)} (hv : VR K W v (.obj i)) (e : σ[i]? = some (.inst C' fs)) :
    ∃ x dx es n, v = .ref x ∧ W.en[i]? = some (.inst x dx C' es n) ∧ FR K W att es fs ∧ s.heap.get? x = some (instObj C' dx) ∧ s.heap.get? dx = some (dictOf es n) := by
  cases hv with
  | obj h =>
    obtain ⟨n, h1, h2⟩ := C.sr.get e
    cases h2 with
    | inst q =>
      rw [List.getElem?_map, h1] at h
      cases h
      exact ⟨_, _, _, _, rfl, h1, q, C.enN (mem_cellsOf h1 (.head _)), C.enN (mem_cellsOf h1 (.tail _ (.head _)))⟩
/-- a frozen or a changing list, read now -/
theorem Core.anyList (C : Core K att g L m X W σ s.heap) {v : Value} {a : V} {l : List V} (hv : VR K W v a) (e : unl σ a = .lst l) :
    ∃ ad vs n, v = .ref ad ∧ VRs K W vs l ∧ s.heap.get? ad = some (listOf vs.toArray n) := by
  cases a with
  | lst k =>
    cases e
    cases hv with
    | lst hk hr => exact ⟨_, _, _, rfl, hr, C.known hk⟩
  | obj i =>
    simp only [unl] at e
    split at e
    · rename_i k hk
      cases e
      obtain ⟨a, vs, n, h1, h2, h3, h4⟩ := C.mls hv hk
      exact ⟨a, vs, n, h1, h3, h4⟩
    · cases e
  | _ => cases e
theorem unl_eq {σ : St} {a : V} (h : ∀ l, unl σ a ≠ .lst l) : unl σ a = a := by
  cases a with
  | obj i => simp only [unl] at h ⊢; split <;> first | rfl | (rename_i k hk; exact absurd (by rw [hk]) (h k))
  | _ => rfl

set_option maxHeartbeats 4000000 in
theorem mod1 {y : Str} {t u : Tok} {Q : Value → Shared → Prop} (hy : y.length ≤ 1000000) (h : ∀ z t' k, Q (.str z t') { s with toks := k }) :
    wpAny (model prog w) A (binaryOp .Mod (.str fmt1 t) (.str y u)) Q E s := by
  show wpAny (model prog w) A (binaryOp .Mod (.str (Str.ofString "Cannot suppress positive response for service %s. This service does not have a subfunction") t) (.str y u)) Q E s
  refine' KPc.mod_str ?kpcF hy ?kpcm ?_
  (case kpcF => kpc_eq)
  (case kpcm => k_dflt kpc_run_s)
  intro _ _
  exact h _ _ _
set_option maxHeartbeats 4000000 in
theorem mod2 {y : Str} {t u : Tok} {Q : Value → Shared → Prop} (hy : y.length ≤ 1000000) (h : ∀ z t' k, Q (.str z t') { s with toks := k }) :
    wpAny (model prog w) A (binaryOp .Mod (.str fmt2 t) (.str y u)) Q E s := by
  show wpAny (model prog w) A (binaryOp .Mod (.str (Str.ofString "given code must be an integer value, not %s") t) (.str y u)) Q E s
  refine' KPc.mod_str ?kpcF hy ?kpcm ?_
  (case kpcF => kpc_eq)
  (case kpcm => k_dflt kpc_run_s)
  intro _ _
  exact h _ _ _
set_option maxHeartbeats 4000000 in
theorem mod3 {y : Str} {t u : Tok} {Q : Value → Shared → Prop} (hy : y.length ≤ 1000000) (h : ∀ z t' k, Q (.str z t') { s with toks := k }) :
    wpAny (model prog w) A (binaryOp .Mod (.str fmt3 t) (.str y u)) Q E s := by
  show wpAny (model prog w) A (binaryOp .Mod (.str (Str.ofString "given standard_version must be an integer value, not %s") t) (.str y u)) Q E s
  refine' KPc.mod_str ?kpcF hy ?kpcm ?_
  (case kpcF => kpc_eq)
  (case kpcm => k_dflt kpc_run_s)
  intro _ _
  exact h _ _ _
theorem small_log {i : Int} (h : small i = true) : i.natAbs.log2 < 41 := by
  have h := small_bd' h
  by_cases h0 : i.natAbs = 0
  · rw [h0]; decide
  · exact (Nat.log2_lt h0).mpr (by omega)
theorem small_len {i : Int} (h : small i = true) : (PySem.Str.ofString (toString i)).length ≤ 50 := by
  have e := int_text_length_le (k := 41) (by decide) (small_log h)
  rw [PySem.ofString_length]; omega
set_option maxHeartbeats 4000000 in
theorem mod4 {i : Int} {t u : Tok} {Q : Value → Shared → Prop} (hi : small i = true) (h : ∀ z t' k, Q (.str z t') { s with toks := k }) :
    wpAny (model prog w) A (binaryOp .Mod (.str fmt4 t) (.int i u)) Q E s := by
  show wpAny (model prog w) A (binaryOp .Mod (.str (Str.ofString "Do not know the standard version in which this code has been introduced: %s") t) (.int i u)) Q E s
  have hlen := small_len hi
  refine' KPc.mod_lit ?kpcF ?kpcd ?kpcm ?_
  (case kpcF => kpc_eq)
  (case kpcd => have := small_log hi; omega)
  (case kpcm => k_dflt kpc_run)
  intro _ _
  exact h _ _ _
set_option maxHeartbeats 1000000 in
theorem op_bin {o : Operator} {p : Bop} {x y : Value} {a b : V} (C : Core K att g L m X W σ s.heap) (ho : opB o = some p) (h1 : VR K W x a) (h2 : VR K W y b) (e : vbin p (unl σ a) b = some c) (h : Ans K att g L m X W σ s c Q) :
    wpAny (model prog w) A (binaryOp o x y) Q E s := by
  by_cases hl : ∃ l, unl σ a = .lst l
  · obtain ⟨l, hl⟩ := hl
    obtain ⟨ad, vs, n, rfl, r1, k1⟩ := C.anyList h1 hl
    rw [hl] at e
    cases p <;> cases b <;> simp only [vbin, reduceCtorEq] at e
    split at e
    · rename_i hr
      cases e
      cases o <;> cases ho
      cases h2 with
      | lst hk r2 =>
        refine P.add_list k1 (C.known hk) (h.push C _ rfl (.lst (vs := vs ++ _) (n := 0) (.inr (by rw [← List.append_toArray]; exact .head _)) ((r1.mono le_cons).append (r2.mono le_cons))) s.toks) ?_
        rw [sizeLine_eq]; have := room_le hr; simp only [List.size_toArray, r1.length, r2.length]; omega
    · cases e
  · rw [unl_eq fun l q => hl ⟨l, q⟩] at e
    cases a <;> cases b <;> cases p <;> simp only [vbin, reduceCtorEq] at e <;> cases o <;> cases ho <;> cases h1 <;> cases h2
    · cases e; exact P.add_int (h.now C (.int _ _) _)
    · cases e; exact P.sub_int (h.now C (.int _ _) _)
    · split at e
      · rename_i hs
        cases e; exact P.mul_int (h.now C (.int _ _) _) (small_mul hs)
      · cases e
    · split at e
      · rename_i hs
        simp only [Bool.and_eq_true, Bool.not_eq_true', decide_eq_false_iff_not, decide_eq_true_eq] at hs
        cases e; exact floordiv_int hs.1.1 (h.now C (.int _ _) _) (.inl (PyProof.noPylong_small (by omega)))
      · cases e
    · split at e
      · rename_i hs
        cases e; exact mod_int' (by simpa using hs) (h.now C (.int _ _) _)
      · cases e
    · cases e; exact or_int (h.now C (.int _ _) _)
    · cases e; exact and_int (h.now C (.int _ _) _)
    · split at e
      · rename_i hs
        cases e
        simp only [Bool.and_eq_true, beq_iff_eq] at hs
        obtain ⟨rfl, hs⟩ := hs
        exact mod4 hs fun z t' k => h.now C (.txt z t') k
      · cases e
    · split at e
      · rename_i hs
        cases e
        simp only [fmtS, Bool.and_eq_true, Bool.or_eq_true, beq_iff_eq, decide_eq_true_eq] at hs
        rcases hs with ⟨(rfl | rfl) | rfl, hy⟩
        · exact mod1 hy fun z t' k => h.now C (.txt z t') k
        · exact mod2 hy fun z t' k => h.now C (.txt z t') k
        · exact mod3 hy fun z t' k => h.now C (.txt z t') k
      · cases e
    · split at e
      · rename_i hs
        cases e
        refine KBy.add_bytes ?_ fun t' k => h.now C (.bytes (KBw.ints_app (by assumption) (by assumption))) k
        have := room_le hs
        subst_vars
        simp only [KBw.ints_length] at this; omega
      · cases e
    · exact absurd ⟨_, rfl⟩ hl
theorem noI_bytes_add : typeLookup (.type "bytes") (dunderI "add") = pure none := by rw [typeLookup_type, builtinLookup_eq_fast]; kernel_rfl
theorem iadd_bytes {b c : Array UInt8} {t u : Tok} {Q : Value → Shared → Prop} (hsz : b.size + c.size ≤ 16777216) (h : ∀ t' k, Q (.bytes (b ++ c) t') { s with toks := k }) : wpAny (model prog w) A (inplaceOp .Add (.bytes b t) (.bytes c u)) Q E s := by
  refine iconcat_gives (typeIs_bytes s b t) (typeIs_bytes s c u) noI_bytes_add KBy.noFill_bytes_add KBy.seq_bytes_add FB.slot_bytes_add FB.entry_bytes_add (FB.args_bytes_add_2 _ _) (KBy.gives_bytes_add (KBy.tooLong_not hsz)) ?_
  split
  · rename_i hb
    have h' := h u s.toks
    rw [Array.isEmpty_iff.1 hb, Array.empty_append] at h'
    exact h'
  · split
    · rename_i hc
      have h' := h t s.toks
      rw [Array.isEmpty_iff.1 hc, Array.append_empty] at h'
      exact h'
    · exact ⟨by rw [Array.size_append, sizeLine_eq]; exact hsz, h s.toks (s.toks + 1)⟩
theorem op_aug {o : Operator} {p : Bop} {x y : Value} {a b : V} (C : Core K att g L m X W σ s.heap) (ho : opB o = some p) (h1 : VR K W x a) (h2 : VR K W y b) (e : vaug p a b = some c) (h : Ans K att g L m X W σ s c Q) :
    wpAny (model prog w) A (inplaceOp o x y) Q E s := by
  cases a <;> cases b <;> cases p <;> simp only [vaug, reduceCtorEq] at e <;> cases o <;> cases ho <;> cases h1 <;> cases h2
  · cases e; exact P.iadd_int (h.now C (.int _ _) _)
  · cases e; exact ior_int (h.now C (.int _ _) _)
  · cases e; exact iand_int (h.now C (.int _ _) _)
  · split at e
    · rename_i hs
      cases e
      refine iadd_bytes ?_ fun t' k => h.now C (.bytes (KBw.ints_app (by assumption) (by assumption))) k
      have := room_le hs
      subst_vars
      simp only [KBw.ints_length] at this; omega
    · cases e

theorem op_neg {x : Value} {i : Int} (C : Core K att g L m X W σ s.heap) (h1 : VR K W x (.int i)) (h : Ans K att g L m X W σ s (.int (-i)) Q) : wpAny (model prog w) A (unaryOp .USub x) Q E s := by
  cases h1; exact neg_int (h.now C (.int _ _) _)
theorem op_inv {x : Value} {i : Int} (C : Core K att g L m X W σ s.heap) (h1 : VR K W x (.int i)) (h : Ans K att g L m X W σ s (.int (-i - 1)) Q) : wpAny (model prog w) A (unaryOp .Invert x) Q E s := by
  cases h1; exact invert_int (h.now C (by show VR K W (.int (Builtin.bitNot i) _) _; rw [show Builtin.bitNot i = -i - 1 from by unfold Builtin.bitNot; omega]; exact .int _ _) _)
theorem op_truthy {x : Value} {a : V} {k : Bool} {Q : Bool → Shared → Prop} (h1 : VR K W x a) (e : vtruth a = some k) (h : Q k s) : wpAny (model prog w) A (truthy x) Q E s := by
  cases a <;> simp only [vtruth, Option.some.injEq, reduceCtorEq] at e <;> subst e <;> cases h1
  · exact wpAny_pure h
  · exact wpAny_truthy_bool h
  · refine truthy_int ?_
    rename_i i t
    rw [show (i != 0) = !decide (i = 0) from by by_cases hi : i = 0 <;> simp [hi]]; exact h
end
end Mine

/-! Soundness, 4: places, slices, order, sameness, membership (own work). -/
namespace Mine
open PySem PySem.W PySem.Calls PyProof.Rows PySem.SeqAt

section
variable {prog : Program} {w : World} {A : Around} {E : Value → Shared → Prop} {s : Shared} {K : Frag} {att : List Str} {g : Heap} {L : Addr} {m : Str → Option Value} {X : List (Addr × Obj)} {W : Wd} {σ : St} {Q : Value → Shared → Prop} {c : V}
theorem vitem_some {α : Type} {l : List α} {i : Int} {x : α} (e : vitem l i = some x) : 0 ≤ i ∧ i ≤ 100000 ∧ l[i.toNat]? = some x := by
  unfold vitem at e
  split at e
  · rename_i h; simp only [Bool.and_eq_true, decide_eq_true_eq] at h; exact ⟨h.1, h.2, e⟩
  · cases e
theorem sub_plain {slice : Expr} (hs : isSlice slice = false) (o i : Value) : subscripted slice false o i = operate [o, i] (getItem o i) := by
  cases slice <;> first | rfl | simp [isSlice] at hs
theorem go_bytes (value : Expr) (b : Array UInt8) (t : Tok) (r : Value) : letTemporaryGo value (.bytes b t) r = pure () := by cases value <;> rfl
theorem VRd.keys {es : List DictEntry} {l : List (Int × V)} (h : VRd K W es l) : IntKeys es.toArray := by
  induction l generalizing es with
  | nil => cases h; intro e he; simp at he
  | cons p r ih =>
    cases h with
    | cons hv hr =>
      intro e he
      rcases List.mem_cons.mp (List.mem_toArray.mp he) with rfl | he
      · exact ⟨_, _, rfl, rfl⟩
      · exact ih hr e (List.mem_toArray.mpr he)
theorem VRd.get {es : List DictEntry} {l : List (Int × V)} (h : VRd K W es l) (k : Int) : match l.find? (fun p => decide (p.1 = k)) with
    | some p => ∃ v, findBy Value.isInt es.toArray k = some v ∧ VR K W v p.2
    | none => findBy Value.isInt es.toArray k = none := by
  induction l generalizing es with
  | nil => cases h; rfl
  | cons p r ih =>
    cases h with
    | @cons j t v x es' l' hv hr =>
      have := ih hr
      unfold findBy at this ⊢
      simp only [List.find?_toArray] at this ⊢
      rw [List.find?_cons, List.find?_cons]
      by_cases hjk : j = k
      · subst hjk
        simp only [decide_true]
        rw [show Value.isInt j (Value.int j t) = true from by simp [Value.isInt]]
        exact ⟨v, rfl, hv⟩
      · rw [show decide (j = k) = false from by simpa using hjk, show Value.isInt k (Value.int j t) = false from by simp [Value.isInt, hjk]]
        exact this
theorem Core.intMap (C : Core K att g L m X W σ s.heap) {a : Addr} {n : Nat} {es : List DictEntry} {l : List (Int × V)} (hk : Known K W a (dictOf es n)) (hr : VRd K W es l) : s.heap.IntMap a (findBy Value.isInt es.toArray) :=
  ⟨_, _, _, C.known hk, rfl, rfl, hr.keys, fun _ => rfl⟩
theorem op_idx {value slice : Expr} {x y : Value} {a b : V} (C : Core K att g L m X W σ s.heap) (hs : isSlice slice = false) (h1 : VR K W x a) (h2 : VR K W y b) (e : vidx σ a b = some c) (h : Ans K att g L m X W σ s c Q) :
    wpAny (model prog w) A (subscriptTail value slice x y) Q E s := by
  cases b with
  | int i =>
    cases h2 with
    | int i t =>
      cases a <;> simp only [vidx, reduceCtorEq] at e
      · -- bytes
        rename_i l
        split at e
        · rename_i hr
          cases h1 with
          | bytes hb =>
            cases hv : vitem l i with
            | none => rw [hv] at e; cases e
            | some k =>
              rw [hv] at e; cases e
              obtain ⟨h0, _, hk⟩ := vitem_some hv
              have hlt := (List.getElem?_eq_some_iff.mp hk).1
              have := room_le hr
              refine KBw.item_K hb (by omega) h0 (by omega) (fun t' k' _ _ => ?_) (sub_plain hs _ _) (go_bytes _ _ _)
              rw [List.getD_eq_getElem?_getD, hk]
              exact h.now C (.int _ _) _
        · cases e
      · -- a tuple
        obtain ⟨h0, hb, hk⟩ := vitem_some e
        cases h1 with
        | tup k1 r1 =>
          obtain ⟨v, hv, hr⟩ := r1.get hk
          have hT := C.known k1
          have hlt := (List.getElem?_eq_some_iff.mp hv).1
          exact tail_any (isT_of hT).typeIs F.slot_tuple_getitem.lookup (P.getItem_tuple hT (by omega) (by omega) (seqIndex_of h0 (by simp only [List.size_toArray]; omega)) (by simpa using hv) (h.here C hr)) (sub_plain hs _ _)
      · obtain ⟨h0, hb, hk⟩ := vitem_some e
        cases h1 with
        | lst k1 r1 =>
          obtain ⟨v, hv, hr⟩ := r1.get hk
          have hl := isL_of (C.known k1)
          exact tail_any hl.typeIs slot_list_getitem.lookup (wpAny_getItem_list hl h0 (by omega) (by simpa using hv) (h.here C hr)) (sub_plain hs _ _)
      · split at e
        · rename_i o l ho
          obtain ⟨h0, hb, hk⟩ := vitem_some e
          obtain ⟨a, vs, n, rfl, h3, h4, h5⟩ := C.mls h1 ho
          obtain ⟨v, hv, hr⟩ := h4.get hk
          have hl := isL_of h5
          exact tail_any hl.typeIs slot_list_getitem.lookup (wpAny_getItem_list hl h0 (by omega) (by simpa using hv) (h.here C hr)) (sub_plain hs _ _)
        · cases e
      · rename_i l
        cases h1 with
        | dct k1 r1 =>
          have hg := r1.get i
          cases hf : l.find? (fun p => decide (p.1 = i)) with
          | none => rw [hf] at e; cases e
          | some p =>
            rw [hf] at e hg; cases e
            obtain ⟨v, hv, hr⟩ := hg
            have hM := C.intMap k1 r1
            exact tail_any hM.typeIs slot_dict_getitem.lookup (wpAny_getItem_intMap hM hv (h.now C hr _)) (sub_plain hs _ _)
  | _ => cases a <;> simp [vidx] at e

/-- a slice's bound -/
theorem clip_part {x : Value} {a : V} {n d k : Nat} (h1 : VR K W x a) (e : vclip n d a = some k) : ∃ p, IsPart x p ∧ p.elim d (clipAt n) = k := by
  cases a <;> simp only [vclip, Option.some.injEq, reduceCtorEq] at e
  · cases h1; subst e; exact ⟨none, .none, rfl⟩
  · rename_i i
    split at e
    · rename_i h
      have h0 : 0 ≤ i := by simpa using h
      cases e
      cases h1
      refine ⟨some i, .int _ _, ?_⟩
      show clipAt n i = _
      have := clipAt_nat n i.toNat
      rw [Int.toNat_of_nonneg h0] at this
      exact this
    · cases e
theorem go_slice {value : Expr} {lo hi : Option Expr} {p : Pos} (o i : Value) : subscripted (.Slice lo hi none p) false o i = operate [i, o] (getItem o i) := rfl
theorem op_slice {value : Expr} {lo hi : Option Expr} {p : Pos} {x y z : Value} {a b d : V} (C : Core K att g L m X W σ s.heap) (h1 : VR K W x a) (h2 : VR K W y b) (h3 : VR K W z d) (e : vslice a b d = some c) (h : Ans K att g L m X W σ s c Q) :
    wpAny (model prog w) A (subscriptTail value (.Slice lo hi none p) x (.ref s.heap.objs.size)) Q E { s with heap := s.heap.push { cls := .type "slice", data := .fields #[y, z, .none] } } := by
  cases a <;> simp only [vslice, reduceCtorEq] at e
  · rename_i l
    split at e
    · rename_i k1 k2 e1 e2
      cases h1 with
      | bytes hb =>
        obtain ⟨p1, q1, r1⟩ := clip_part h2 e1
        obtain ⟨p2, q2, r2⟩ := clip_part h3 e2
        split at e
        · rename_i hr
          cases e
          have := room_le hr
          refine KBc.slice_K C.F C.N hb q1 q2 (by omega) (fun h' t' k F' N' hk => ?_) rfl (go_bytes _ _ _)
          rw [r1, r2] at hk
          exact h _ W h' k (.refl W) ⟨F', N', C.ap, C.sr, C.kin, C.knw⟩ (.bytes hk)
        · cases e
    · cases e
  · rename_i l
    split at e
    · rename_i k1 k2 e1 e2
      cases h1 with
      | @lst ad vs n _ hk hr =>
        obtain ⟨p1, q1, r1⟩ := clip_part h2 e1
        obtain ⟨p2, q2, r2⟩ := clip_part h3 e2
        split at e
        · rename_i hz
          cases e
          have := room_le hz
          have hL := C.known hk
          have C1 := C.push { cls := .type "slice", data := .fields #[y, z, .none] }
          have C2 := C1.pushF { cls := .type "list", data := .seq (slicePick vs.toArray p1 p2 none) } rfl
          have hz1 : slicePick vs.toArray p1 p2 none = (cut vs k1 k2).toArray := by
            rw [slicePick_plain, List.size_toArray, hr.length, r1, r2]; rfl
          refine tail_any (Heap.IsList.typeIs (s := { s with heap := s.heap.push { cls := .type "slice", data := .fields #[y, z, .none] } }) ((isL_of hL).push _)) slot_list_getitem.lookup
            (wpAny_getItem_list_slice ((isL_of hL).push _) (Heap.IsSliceOf.new ..) q1 q2 .none (by simp) ?_ ?_) rfl
          · refine h _ _ _ s.toks le_cons C2 ?_
            rw [hz1]
            exact .lst (n := 0) (vs := cut vs k1 k2) (.inr (.head _)) (((hr.drop k1).take (k2 - k1)).mono le_cons)
          · rw [sizeLine_eq]; simp only [List.size_toArray, hr.length]; omega
        · cases e
    · cases e
end
end Mine

/-! Soundness, 5: builtins that the kit has no rule for (own work). -/
namespace Mine
open PySem PySem.W PySem.Spec PySem.Calls PyProof.Rows Builtin Builtin.ObjectAttr Builtin.Getset_descriptor

section
variable {prog : Program} {w : World} {A : Around} {E : Value → Shared → Prop} {s : Shared} {K : Frag} {C B : Addr}
theorem looks_isType {M : Model} {h : Heap} {C : Addr} (X : K.In h) (e : (clsIn K C).isSome = true) : Looks M h (isType (.ref C)) true := by
  unfold clsIn at e
  split at e
  · rename_i c' d' cd' sl' ho
    intro A' Q' E' s' k q
    unfold isType loadHead
    exact wpAny_bind (wpAny_loadPart (k _ _ (X _ _ ho)) (wpAny_pure q))
  · cases e
theorem issub_nested {dep : Int} {tk : Tok} {b : Bool} {Q : Fin → Shared → Prop} (X : K.In s.heap) (h1 : (clsIn K C).isSome = true) (h2 : (clsIn K B).isSome = true) (h3 : typeIn K (.ref B) = some (.type "type"))
    (e : mroIn K C (.ref B) = some b) (hq : Q (.done (.ret (.bool b))) s) : wpAny (model prog w) A (Builtin.«issubclass.nested» ⟨[.ref C, .ref B, .int dep tk], []⟩) Q E s := by
  obtain ⟨hh, g, d, t, os⟩ := s
  have L1 := looks_isType (M := model prog w) X h1
  have L2 := looks_isType (M := model prog w) X h2
  have L3 := looks_typeIn (M := model prog w) X h3
  have L4 := looks_mroIn (M := model prog w) X e
  unfold Builtin.«issubclass.nested»
  refine wpAny_bind (L3.at ?_)
  rw [if_pos (by decide)]
  k_delta "plainIsSubclass"
  refine wpAny_bind (wpAny_bind (L1.at (wpAny_bind (L2.at ?_))))
  simp only [Bool.and_self, if_true]
  refine L4.at ?_
  exact wpAny_pure hq
theorem issub_call {b : Bool} {Q : Value → Shared → Prop} (X : K.In s.heap) (h1 : (clsIn K C).isSome = true) (h2 : (clsIn K B).isSome = true) (h3 : typeIn K (.ref B) = some (.type "type"))
    (e : mroIn K C (.ref B) = some b) (h : Q (.bool b) s) : wpAny (model prog w) A (call (.builtin "issubclass") [.ref C, .ref B]) Q E s :=
  call_issubclass (S := fun _ R s => K.In s.heap ∧ R (.ok (.ret (.bool b))) s) (fun _ _ _ _ _ hs => issubclass_outer (issub_nested hs.1 h1 h2 h3 e hs.2)) ⟨X, h⟩

theorem dga_cls2 (d tp : Value) (C : Addr) : descrGetArgs ⟨[d, .ref C, tp], []⟩ = pure (d, some (.ref C), given tp) := by kernel_rfl
/-- the class of a class -/
theorem clscls_get {tp : Value} {R : Result → Shared → Prop} (X : K.In s.heap) (h1 : typeIn K (.ref C) = some (.type "type")) (h : R (.ok (.ret (.type "type"))) s) :
    codeAny (model prog w) A (.call (.builtin "getset_descriptor.__get__") ⟨[.builtin "object.__class__", .ref C, tp], []⟩) R s := by
  obtain ⟨hh, g, dr, t, os⟩ := s
  have L0 := looks_typeIn (M := model prog w) X h1
  have L1 : Looks (model prog w) hh (isSubtype (.type "type") (.type "object")) true := Looks.of_pure (by rw [isSubtype_type]; kernel_rfl)
  refine codeAny_call_builtin KF.slot_gs.plain KF.entry_gs (KF.slot_gs.check _ _ _ _ _ _ _ _ KF.type_class (KF.args_gs _ _ _) ?_)
  unfold Builtin.«getset_descriptor.__get__» descrGet
  rw [dga_cls2]
  refine wpAny_bind (wpAny_pure ?_)
  unfold descrGetter descrCheckInstance descrNameAndClass isInstance
  simp only [KF.owner_class]
  repeat lk
  refine ⟨Code.quiet_builtin _ (by decide +kernel), codeAny_builtin KF.entry_class ?_⟩
  unfold Builtin.«object.__class__» shownTypeOf
  repeat lk
  exact h
/-- a class's attribute, asked for softly -/
theorem cls_ask {name : Str} {r : CFound} {Q : Option Value → Shared → Prop} {hook : Option Value} {mc : Value} {c : Value} {tk : Tok} (X : K.In s.heap) (ho : Looks (model prog w) s.heap (opaqueClassAbove c) none) (ht : Looks (model prog w) s.heap (typeOf c) mc)
    (hga : findIn K mc "__getattribute__" = some (some (.builtin "type.__getattribute__"))) (hb : Looks (model prog w) s.heap (hookBefore mc) hook) (hi : subIn K mc (.type "type") = some true) (e : findCls K c mc name = some r)
    (h : wpAny (model prog w) A.in1 r.run (fun fin s' => match fin with | .done (.ret v) => wpAny (model prog w) A (handedOut v) (fun v s'' => Q (some v) s'') (fun _ _ => False) s' | _ => False) (fun _ _ => False) s) :
    wpAny (model prog w) A (getAttrBy? c (.str name tk)) Q E s := by
  refine wpAny_bind (wpAny_attempt ?_)
  refine wpAny_holding (wpAny_bind (ht _ _ _ _ (fun _ _ e => e) (wpAny_bind (looks_findIn X hga _ _ _ _ (fun _ _ e => e) ?_))))
  dsimp only
  rw [show (onTheHeap mc && Value.builtin "type.__getattribute__" == Value.builtin "object.__getattribute__") = false from by rw [show (Value.builtin "type.__getattribute__" == Value.builtin "object.__getattribute__") = false from by decide +kernel, Bool.and_false], if_neg (by decide)]
  refine wpAny_bind (hb _ _ _ _ (fun _ _ e => e) (wpAny_bind (wpAny_attempt (wpAny_holding ?_))))
  unfold callGetattribute
  rw [show (false && onTheHeap (Value.builtin "type.__getattribute__")) = false from rfl, if_neg (by decide)]
  unfold boundAndCalled
  rw [KF.slot_tga.bind]
  refine wpAny_bind (wpAny_pure ?_)
  show wpAny _ _ (call (.builtin "type.__getattribute__") [c, .str name tk]) _ _ _
  refine wpAny_call ?_
  refine codeAny_call_builtin KF.slot_tga.plain KF.entry_tga ?_
  refine @check_slot (model prog w) _ _ s "type.__getattribute__" "type" "__getattribute__" c [.str name tk] [] _ (by decide +kernel) (by decide +kernel) (ht.andThen (looks_subIn X hi)) (KF.args_tga c (.str name tk)) ?_
  refine tga_run X ho ht e (wpAny_mono h (fun fin s' z => ?_) fun _ _ z => z.elim)
  rcases fin with (_ | _ | _ | _) | _ <;> first | exact wpAny_mono z (fun v s'' hv => wpAny_pure hv) (fun _ _ z => z.elim) | exact z.elim

theorem wpAny_raiseErrorStr {α : Type} {M : Model} {cls : String} {msg : Str} {Q : α → Shared → Prop} (hp : PlainExc cls) (hh : A.handled = none)
    (h : ∀ h' tk e, Heap.NewExc s.heap h' e cls → E (.ref e) { s with heap := h', toks := tk }) (hm : msg.length ≤ sizeLine) :
    wpAny M A (raiseErrorStr cls msg : Sem α) Q E s := by
  unfold raiseErrorStr
  refine wpAny_bind (wpAny_mkStr (wpAny_bind ?_) hm)
  unfold newExc newTuple
  refine wpAny_bind (wpAny_newObj_type ?_)
  refine wpAny_bind (m := firstArgMember _ _) (wpAny_of_eq (a := Value.none) (by simp only [firstArgMember, hp.first]; rfl) ?_)
  rw [hp.own]
  refine wpAny_newObj_type ?_
  unfold raiseNew
  refine wpAny_bind (wpAny_handled ?_)
  rw [hh]
  first
    | refine wpAny_throw ?_
    | refine wpAny_bind (wpAny_pure (wpAny_throw ?_))
  exact h _ _ _ ⟨fun b o hb => Heap.get?_push_of_some _ (Heap.get?_push_of_some _ hb), Heap.get?_none_of_le (by simp), _, .ref s.heap.objs.size, Heap.get?_push_size _ rfl, rfl, by simp⟩
theorem attrError_own : ∀ args, (ownMembersOf (.type "AttributeError") args).size = 2 := fun args => by rw [ownMembersOf_AttributeError]; rfl
theorem raiseAE {α : Type} {M : Model} {msg : Str} {Q : α → Shared → Prop} (hh : A.handled = none)
    (h : ∀ h' tk e, (∀ b o, s.heap.get? b = some o → h'.get? b = some o) → (∃ ob, h'.get? e = some ob ∧ ob.cls = .type "AttributeError") → E (.ref e) { s with heap := h', toks := tk }) (hm : msg.length ≤ sizeLine) :
    wpAny M A (raiseErrorStr "AttributeError" msg : Sem α) Q E s := by
  unfold raiseErrorStr
  refine wpAny_bind (wpAny_mkStr (wpAny_bind ?_) hm)
  unfold newExc newTuple
  refine wpAny_bind (wpAny_newObj_type ?_)
  refine wpAny_bind (m := firstArgMember _ _) (wpAny_of_eq (a := Value.none) (by simp only [firstArgMember, attrError_no_first]; rfl) ?_)
  rw [ownMembersOf_AttributeError]
  refine wpAny_newObj_type ?_
  unfold raiseNew
  refine wpAny_bind (wpAny_handled ?_)
  rw [hh]
  first
    | refine wpAny_throw ?_
    | refine wpAny_bind (wpAny_pure (wpAny_throw ?_))
  exact h _ _ _ (fun b o hb => Heap.get?_push_of_some _ (Heap.get?_push_of_some _ hb)) ⟨_, Heap.get?_push_size _ rfl, rfl⟩
theorem toString_len (n : Str) : n.toString.length = n.cps.size := by
  unfold Str.toString
  rw [String.length_ofList, List.length_map, Array.length_toList]
theorem cls_miss {name : Str} {tk : Tok} {Q : Option Value → Shared → Prop} (hh : A.handled = none) (X : K.In s.heap) (e : noAttr K C name = true)
    (h : ∀ h' t, (∀ b o, s.heap.get? b = some o → h'.get? b = some o) → Q none { s with heap := h', toks := t }) : wpAny (model prog w) A (getAttrBy? (.ref C) (.str name tk)) Q E s := by
  simp only [noAttr, Bool.and_eq_true, beq_iff_eq, decide_eq_true_eq] at e
  obtain ⟨⟨⟨⟨⟨e1, e2⟩, e3⟩, e4⟩, e5⟩, e6⟩ := e
  obtain ⟨cd, hc, e7⟩ := any_some e5
  simp only [Bool.and_eq_true, decide_eq_true_eq] at e7
  obtain ⟨e7, e8⟩ := e7
  have ho : Looks (model prog w) s.heap (opaqueClassAbove (.ref C)) none := looks_opaque X e1
  have ht := looks_typeIn (M := model prog w) X e2
  have hg : findIn K (.type "type") "__getattribute__" = some (some (.builtin "type.__getattribute__")) := type_tga
  have hgt : findIn K (.type "type") "__getattr__" = some none := by kernel_rfl
  have L1 := looks_findIn (M := model prog w) X e3
  have L2 := looks_findIn (M := model prog w) X e4
  have L3 := looks_clsIn (M := model prog w) X hc
  have L4 := looks_findIn (M := model prog w) X hgt
  have Lg := looks_findIn (M := model prog w) X hg
  obtain ⟨hp, g, d, t, os⟩ := s
  refine wpAny_bind (wpAny_attempt ?_)
  refine wpAny_holding (wpAny_bind (ht.at (wpAny_bind (Lg.at ?_))))
  dsimp only
  rw [show (onTheHeap (.type "type") && Value.builtin "type.__getattribute__" == Value.builtin "object.__getattribute__") = false from rfl, if_neg (by decide)]
  refine wpAny_bind (wpAny_pure (wpAny_bind (wpAny_attempt (wpAny_holding ?_))))
  unfold callGetattribute
  rw [show (false && onTheHeap (Value.builtin "type.__getattribute__")) = false from rfl, if_neg (by decide)]
  unfold boundAndCalled
  rw [KF.slot_tga.bind]
  refine wpAny_bind (wpAny_pure ?_)
  show wpAny _ _ (call (.builtin "type.__getattribute__") [.ref C, .str name tk]) _ _ _
  refine wpAny_call ?_
  refine codeAny_call_builtin KF.slot_tga.plain KF.entry_tga ?_
  refine @check_slot (model prog w) _ _ ⟨hp, g, d, t, os⟩ "type.__getattribute__" "type" "__getattribute__" (.ref C) [.str name tk] [] _ (by decide +kernel) (by decide +kernel) (ht.andThen (looks_subIn X (by kernel_rfl))) (KF.args_tga (.ref C) (.str name tk)) ?_
  unfold Builtin.«type.__getattribute__»
  refine wpAny_bind (wpAny_pure (wpAny_bind (ho.at (wpAny_bind (ht.at (wpAny_bind (L1.at ?_)))))))
  refine wpAny_bind (wpAny_pure ?_)
  dsimp only
  refine wpAny_bind (L2.at ?_)
  dsimp only
  refine wpAny_bind (wpAny_rule ?_)
  unfold typeNameCut
  refine wpAny_bind (wpAny_bind (L3.at ?_))
  rw [if_pos e7]
  refine wpAny_pure (raiseAE (by exact hh) (fun h' tk' e hk ⟨ob, hob, hoc⟩ => ?_) ?_)
  · have L5 : Looks (model prog w) h' (isInstance (.ref e) (.type "AttributeError")) true := ((Looks.ld hob).andThen (hoc ▸ .now)).andThen (Looks.of_pure sub_AttributeError)
    show wpAny _ _ (getattributeRaised _ _ _ _ _ _ _) _ _ _
    unfold getattributeRaised
    refine wpAny_bind (L5.at ?_)
    rw [if_pos rfl]
    unfold hookBehind
    rw [if_neg (by decide)]
    refine wpAny_bind ((L4.keeps hk).at ?_)
    unfold hookOrError attributeErrorLeaves
    dsimp only
    rw [if_pos (by rfl)]
    refine wpAny_throw ?_
    refine wpAny_bind (L5.at ?_)
    rw [if_pos rfl]
    exact wpAny_pure (h _ _ hk)
  · rw [strLen_append, strLen_append, PySem.ofString_length, PySem.ofString_length, sizeLine_eq]
    simp only [String.length_append, toString_len, toString]
    have e1 : "type object '".length = 13 := by decide
    have e2 : "' has no attribute '".length = 20 := by decide
    have e3 : "'".length = 1 := by decide
    omega

theorem entry_hasattr : entryFor table "hasattr" = some Builtin.«hasattr» := entryFor_of_tree (by kernel_rfl)
theorem kind_hasattr : builtinKind "hasattr" = none := by decide +kernel
theorem plain_hasattr : plainId "hasattr" = true := by decide +kernel
theorem args_hasattr_2 (a b : Value) : argsOk "hasattr" ⟨[a, b], []⟩ := by unfold argsOk; kernel_rfl
theorem module_type : subIn (K := K) (.type "type") (.type "module") = some false := by kernel_rfl
theorem hasattr_body {name : Str} {tk : Tok} {Q : Fin → Shared → Prop} (X : K.In s.heap) (h1 : typeIn K (.ref C) = some (.type "type")) (h2 : findIn K (.type "type") name = some none)
    (h : wpAny (model prog w) A (getAttrBy? (.ref C) (.str name tk)) (fun v s' => Q (.done (.ret (.bool v.isSome))) s') E s) : wpAny (model prog w) A (Builtin.«hasattr» ⟨[.ref C, .str name tk], []⟩) Q E s := by
  obtain ⟨hp, g, d, t, os⟩ := s
  have L1 := looks_typeIn (M := model prog w) X h1
  have L2 := looks_subIn (M := model prog w) X module_type
  have L3 : Looks (model prog w) hp (isInstance (.ref C) (.type "module")) false := L1.andThen L2
  have L4 := looks_findIn (M := model prog w) X h2
  unfold Builtin.«hasattr»
  refine wpAny_bind (wpAny_pure ?_)
  dsimp only
  refine wpAny_bind (wpAny_pure ?_)
  rw [if_neg (fun q => by cases beq_iff_eq.mp q)]
  refine wpAny_bind (L1.at ?_)
  dsimp only
  refine wpAny_bind (wpAny_pure ?_)
  dsimp only
  refine wpAny_bind (L4.at ?_)
  dsimp only
  k_delta "optionalOnAModule"
  refine wpAny_bind (wpAny_bind (wpAny_pure (wpAny_bind (L3.at ?_))))
  rw [if_pos (by rfl)]
  refine wpAny_pure ?_
  rw [if_neg (by decide)]
  refine wpAny_bind (wpAny_mono h (fun v s' z => ?_) fun _ _ z => z)
  rw [show (v.isNone && (0 == 2)) = false from by simp, if_neg (by decide)]
  exact wpAny_pure z
theorem hasattr_call {name : Str} {tk : Tok} {b : Bool} {Q : Value → Shared → Prop} (hh : A.handled = none) (X : K.In s.heap) (h1 : typeIn K (.ref C) = some (.type "type")) (h2 : findIn K (.type "type") name = some none)
    (he : (∃ r, readsIn K C (.type "type") = true ∧ findCls K (.ref C) (.type "type") name = some (.val r) ∧ handedIn r = true ∧ b = true) ∨ (noAttr K C name = true ∧ b = false))
    (h : ∀ h' t, (∀ b o, s.heap.get? b = some o → h'.get? b = some o) → Q (.bool b) { s with heap := h', toks := t }) : wpAny (model prog w) A (call (.builtin "hasattr") [.ref C, .str name tk]) Q E s := by
  refine call_function_meets (S := fun A R s' => (A.handled = none ∧ K.In s'.heap) ∧ ∀ h' t, (∀ b o, s'.heap.get? b = some o → h'.get? b = some o) → R (.ok (.ret (.bool b))) { s' with heap := h', toks := t })
    kind_hasattr plain_hasattr entry_hasattr (args_hasattr_2 _ _) (fun prog w A R s hs => ?_) ⟨⟨hh, X⟩, h⟩
  obtain ⟨⟨hh, X⟩, hq⟩ := hs
  refine hasattr_body X h1 h2 ?_
  rcases he with ⟨r, r1, r2, r3, rfl⟩ | ⟨r1, rfl⟩
  · simp only [readsIn, Bool.and_eq_true, beq_iff_eq] at r1
    obtain ⟨⟨⟨⟨a, b⟩, c'⟩, d⟩, f⟩ := r1
    obtain ⟨hk, d⟩ := Option.isSome_iff_exists.mp d
    refine cls_ask X (looks_opaque X a) (looks_typeIn X b) c' (looks_hook X d) f r2 (wpAny_pure ?_)
    show wpAny _ _ (handedOut r) _ _ _
    rw [handedOut_of r3]
    exact wpAny_pure (hq s.heap s.toks fun _ _ z => z)
  · exact cls_miss hh X r1 fun h' t k => hq h' t k
/-- the class of a class, for isinstance -/
theorem kitx_clsref {K : Frag} {C : Addr} (h1 : typeIn K (.ref C) = some (.type "type")) (hr : readsIn K C (.type "type") = true)
    (hf : findCls K (.ref C) (.type "type") "__class__" = some (.get (.builtin "getset_descriptor.__get__") (.builtin "object.__class__") (.ref C) (.type "type"))) : KitX K (.ref C) (.type "type") (fun _ => True) where
  ty := fun _ _ X _ => looks_typeIn X h1
  it := fun _ _ _ _ => Looks.of_pure rfl
  ne := fun _ _ _ _ _ _ _ _ => Bool.eq_false_iff.mpr fun q => by cases beq_iff_eq.mp q
  ca := fun {prog w A E Q s} X _ q => by
    simp only [readsIn, Bool.and_eq_true, beq_iff_eq] at hr
    obtain ⟨⟨⟨⟨a, b⟩, c'⟩, d⟩, f⟩ := hr
    obtain ⟨hk, d⟩ := Option.isSome_iff_exists.mp d
    refine wpAny_bind (wpAny_mkText ?_)
    refine cls_ask (s := { s with toks := s.toks + 1 }) X (looks_opaque X a) (looks_typeIn X b) c' (looks_hook X d) f hf ?_
    refine wpAny_bind (wpAny_holding (wpAny_call (clscls_get (s := { s with toks := s.toks + 1 }) X h1 (wpAny_pure ?_))))
    exact handed_on rfl q

theorem name_get {n : Str} {u : Tok} {tp : Value} {R : Result → Shared → Prop} (X : K.In s.heap) (h1 : typeIn K (.ref C) = some (.type "type")) (hc : nameIn K C = some (n, u)) (h : R (.ok (.ret (.str n u))) s) :
    codeAny (model prog w) A (.call (.builtin "getset_descriptor.__get__") ⟨[.builtin "type.__name__", .ref C, tp], []⟩) R s := by
  obtain ⟨hh, g, dr, t, os⟩ := s
  have L0 := looks_typeIn (M := model prog w) X h1
  have L1 : Looks (model prog w) hh (isSubtype (.type "type") (.type "type")) true := Looks.of_pure (by rw [isSubtype_type]; kernel_rfl)
  unfold nameIn at hc
  split at hc
  · rename_i oc od cd sl ho
    have ho' := X _ _ ho
    split at hc
    · rename_i n' t' hs
      cases hc
      refine codeAny_call_builtin KF.slot_gs.plain KF.entry_gs (KF.slot_gs.check _ _ _ _ _ _ _ _ ktyn_type (KF.args_gs _ _ _) ?_)
      unfold Builtin.«getset_descriptor.__get__» descrGet
      rw [dga_cls2]
      refine wpAny_bind (wpAny_pure ?_)
      unfold descrGetter descrCheckInstance descrNameAndClass isInstance
      simp only [ktyn_owner]
      repeat lk
      refine ⟨Code.quiet_builtin _ (by decide +kernel), codeAny_builtin ktyn_entry ?_⟩
      unfold Builtin.«type.__name__»
      dsimp only
      unfold keptObject slotAt
      dsimp only
      refine wpAny_bind (wpAny_bind (wpAny_loadPart ho' (wpAny_pure ?_)))
      dsimp only
      rw [show (sl[2]?).join = some (Value.str n u) from hs]
      exact wpAny_pure h
    · cases hc
  · cases hc
theorem name_attr {n : Str} {u : Tok} {expr : Bool} {Q : Value → Shared → Prop} (X : K.In s.heap) (h1 : typeIn K (.ref C) = some (.type "type")) (hr : readsIn K C (.type "type") = true) (hc : nameIn K C = some (n, u))
    (e : findCls K (.ref C) (.type "type") "__name__" = some (.get (.builtin "getset_descriptor.__get__") (.builtin "type.__name__") (.ref C) (.type "type")))
    (h : Q (.str n u) { s with toks := s.toks + 1 }) : wpAny (model prog w) A (getAttr (.ref C) "__name__" expr) Q E s :=
  cls_bind X hr e (wpAny_call (name_get (s := { s with toks := s.toks + 1 }) X h1 hc (handed_on rfl h)))
end
end Mine

/-! Soundness, 6: more builtins (own work). -/
namespace Mine
open PySem PySem.W PySem.Spec PySem.Calls PyProof.Rows Builtin
open Sem (wp)

section
variable {prog : Program} {w : World} {A : Around} {E : Value → Shared → Prop} {s : Shared}
def OctAt (b : Array UInt8) (i : Nat) (v : Value) : Prop := ∃ c u, b[i]? = some c ∧ v = .int (c.toNat : Int) u
theorem extend_bytes {R : Result → Shared → Prop} (hh : A.handled = none) (b : Array UInt8) (t : Tok) (S : Addr) (res : Value) (c₀ : Nat) (hS : s.heap.get? S = some { cls := .type "list", data := .seq #[] c₀ })
    (hR : ∀ h' tk acc' c', (∀ b o, b ≠ S → s.heap.get? b = some o → h'.get? b = some o) → h'.get? S = some { cls := .type "list", dict := none, data := .seq acc' c', slots := #[] } →
      ItemsOf (OctAt b) acc' b.size → R (.ok (.ret res)) { s with heap := h', toks := tk }) (hn : b.size ≤ sizeLine) :
    wpAny (model prog w) A.in1 (Builtin.List.listExtendWith (.ref S) (.bytes b t) res)
      (fun fin s' => match fin with | .done f => R (.ok f) s' | .again c' => c'.quiet = true ∧ codeAny (model prog w) A c' R s') (fun e s' => R (.error e) s') s := by
  have hSI : S ≠ s.heap.objs.size := Nat.ne_of_lt (Heap.lt_size hS)
  have hSf : S ∉ [s.heap.objs.size] := fun hm => hSI (List.mem_singleton.mp hm)
  unfold Builtin.List.listExtendWith
  refine wpAny_bind (wpAny_typeOf (T := "bytes") (v := .bytes b t) rfl ?_)
  have h1 : Builtin.List.listSameRef (.ref S) (.bytes b t) = false := rfl
  have h2 : (Value.type "bytes" == Value.type "list") = false := by decide
  have h3 : (Value.type "bytes" == Value.type "tuple") = false := by decide
  simp only [h1, h2, h3, Bool.or_false, Bool.false_eq_true, if_false]
  refine wpAny_bind (KBw.pyIter_bytes ?_)
  refine wpAny_bind (wpAny_holding ?_)
  unfold Builtin.List.listLengthHint
  refine wpAny_bind (wpAny_specialOf (T := "bytes") (v := .bytes b t) rfl FB.slot_bytes_len.lookup ?_)
  wp_delta
  refine wpAny_bind (wpAny_isInstance (T := "bytes") (v := .bytes b t) (b := true) rfl (by rw [isSubtype_type]; kernel_rfl) ?_)
  show wpAny _ _ (typeOf (Value.bytes b t) >>= _) _ _ _
  refine wpAny_bind (wpAny_typeOf (T := "bytes") (v := .bytes b t) rfl ?_)
  refine wpAny_pure ?_
  rw [if_neg (by decide)]
  have W := KBw.walks (prog := prog) (w := w) (A := A.in1) hh s.heap.objs.size b t
  refine wpAny_pure ⟨plainId_quiet F.plain_extend_loop _, codeAny_extend_loopS W.toS hn _ hSf _ b.size 0 _ _ _ rfl (Nat.zero_le _) ⟨_, Heap.get?_push_size _ rfl, rfl, rfl⟩ (Heap.get?_push_of_some _ hS) (ItemsOf.nil _) fun s' acc' c' hm hS' hacc => ?_⟩
  rw [Moved.eq_with hm]
  refine hR s'.heap s'.toks acc' c' (fun b ob hb e => hm.heap b ob (fun hmem => ?_) (Heap.get?_push_of_some _ e)) hS' hacc
  rcases List.mem_cons.mp hmem with e' | hmem
  · exact hb e'
  · exact absurd (Heap.lt_size e) (by rw [List.mem_singleton.mp hmem]; exact Nat.lt_irrefl _)
theorem init_bytes {R : Result → Shared → Prop} (hh : A.handled = none) (b : Array UInt8) (t : Tok) (S : Addr) (hS : s.heap.get? S = some { cls := .type "list", data := .seq #[] })
    (hR : ∀ h' tk acc' c', (∀ b o, b ≠ S → s.heap.get? b = some o → h'.get? b = some o) → h'.get? S = some { cls := .type "list", dict := none, data := .seq acc' c', slots := #[] } →
      ItemsOf (OctAt b) acc' b.size → R (.ok (.ret .none)) { s with heap := h', toks := tk }) (hn : b.size ≤ sizeLine) :
    wpAny (model prog w) A.in1 (Builtin.«list.__init__» ⟨[.ref S, .bytes b t], []⟩)
      (fun fin s' => match fin with | .done f => R (.ok f) s' | .again c' => c'.quiet = true ∧ codeAny (model prog w) A c' R s') (fun e s' => R (.error e) s') s := by
  show wpAny _ _ (do let old ← Builtin.List.listItems (.ref S); Builtin.List.listUpdate (.ref S) (fun _ => #[]); letGo old.toList.reverse; Builtin.List.listExtendWith (.ref S) (.bytes b t) .none) _ _ s
  refine wpAny_bind ?_
  unfold Builtin.List.listItems
  refine wpAny_bind (wpAny_seqItems hS rfl (wpAny_pure ?_))
  show wpAny _ _ (updateSeq S (fun _ => #[]) >>= fun _ => letGo (#[] : Array Value).toList.reverse >>= fun _ => Builtin.List.listExtendWith (.ref S) (.bytes b t) .none) _ _ s
  refine wpAny_bind (wpAny_updateSeq hS rfl ?_)
  have hS₂ := Heap.get?_update_self (Obj.mapSeq (fun _ => (#[] : Array Value))) hS rfl
  have oth : ∀ b o, b ≠ S → s.heap.get? b = some o → (s.heap.update S (Obj.mapSeq (fun _ => (#[] : Array Value)))).get? b = some o :=
    fun b o hb e => (Heap.get?_update_other _ _ (Ne.symm hb)).trans e
  refine wpAny_bind (wpAny_letGo ?_)
  refine extend_bytes (hn := hn) hh b t S .none _ hS₂ fun h' tk acc' c' hk hS' hacc => ?_
  exact hR h' tk acc' c' (fun b o hb e => hk b o hb (oth b o hb e)) hS' hacc
theorem list_bytes {Q : Value → Shared → Prop} (hh : A.handled = none) (b : Array UInt8) (t : Tok)
    (hQ : ∀ h' tk acc' c', (∀ b o, s.heap.get? b = some o → h'.get? b = some o) →
      h'.get? s.heap.objs.size = some { cls := .type "list", dict := none, data := .seq acc' c', slots := #[] } → ItemsOf (OctAt b) acc' b.size → Q (.ref s.heap.objs.size) { s with heap := h', toks := tk }) (hn : b.size ≤ sizeLine) :
    wpAny (model prog w) A (call (.type "list") [.bytes b t]) Q E s := by
  refine callType_codes (Q₁ := fun obj s₁ => obj = .ref s.heap.objs.size ∧ s₁ = { s with heap := s.heap.push { cls := .type "list", data := .seq #[] } }) F.called_list (F.typeCall_list_1 _) F.entry_list_init
    (code_list_new _ ⟨rfl, rfl⟩) fun obj s₁ h₁ => ?_
  obtain ⟨rfl, rfl⟩ := h₁
  have hS : (s.heap.push { cls := .type "list", data := .seq #[] }).get? s.heap.objs.size = some { cls := .type "list", data := .seq #[] } := Heap.get?_push_size _ rfl
  refine ⟨⟨_, hS, rfl⟩, F.args_list_init_2 _ _, init_bytes (A := A.in1) (hn := hn) hh b t _ hS fun h' tk acc' c' hk hS' hacc => ?_⟩
  exact ⟨rfl, hQ h' tk acc' c' (fun b o e => hk b o (Nat.ne_of_lt (Heap.lt_size e)) (Heap.get?_push_of_some _ e)) hS' hacc⟩
theorem octs_of {b : Array UInt8} {acc : Array Value} (h : ItemsOf (OctAt b) acc b.size) : IntsAre acc.toList (KBw.bInts b) := by
  obtain ⟨hs, hi⟩ := h
  have key : ∀ (l : List Value) (k : List UInt8), l.length = k.length → (∀ (j : Nat) (v : Value), l[j]? = some v → ∃ (c : UInt8) (u : Tok), k[j]? = some c ∧ v = Value.int (c.toNat : Int) u) → IntsAre l (k.map fun (c : UInt8) => (c.toNat : Int)) := by
    intro l
    induction l with
    | nil => intro k hk _; cases k with | nil => exact .nil | cons _ _ => simp at hk
    | cons v r ih =>
      intro k hk hi
      cases k with
      | nil => simp at hk
      | cons c t =>
        obtain ⟨c', u, h1, rfl⟩ := hi 0 v rfl
        cases h1
        exact .cons _ _ (ih t (by simpa using hk) fun j v' hv => hi (j + 1) v' hv)
  refine key acc.toList b.toList (by simpa using hs) fun j v hv => ?_
  obtain ⟨c, u, h1, h2⟩ := hi j v (by simpa using hv)
  exact ⟨c, u, by simpa using h1, h2⟩
theorem entry_pack : entryFor table "_struct.pack" = some Builtin.«_struct.pack» := entryFor_of_tree (by kernel_rfl)
theorem kind_pack : builtinKind "_struct.pack" = none := by decide +kernel
theorem plain_pack : plainId "_struct.pack" = true := by decide +kernel
theorem args_pack_2 (a b : Value) : argsOk "_struct.pack" ⟨[a, b], []⟩ := by unfold argsOk; kernel_rfl
theorem fmt_B (t : Tok) : Builtin.Struct.moduleFormat (.str packB t) = pure ⟨false, true, [⟨'B', 1, 0, 1⟩], 1, 1⟩ := by kernel_rfl
theorem plainExc_struct : PlainExc "struct.error" := ⟨fun _ => rfl, by decide +kernel⟩
theorem intBytes_B {n : Int} (h0 : 0 ≤ n) (h1 : n ≤ 255) : Builtin.Struct.intBytes false 1 n = #[n.toNat.toUInt8] := by
  obtain ⟨k, rfl⟩ := Int.eq_ofNat_of_zero_le h0
  have hk : k < 256 := by omega
  have e1 : ((k : Int) % 2 ^ (8 * 1)).toNat = k := by
    show (((k : Int)) % 256).toNat = k
    omega
  unfold Builtin.Struct.intBytes Builtin.Memoryview.toLittleEndian
  rw [e1]
  simp [Nat.mod_eq_of_lt hk]
theorem run_pack {n : Int} {t u : Tok} {Q : Fin → Shared → Prop} (h0 : 0 ≤ n) (h1 : n ≤ 255) (h : ∀ tk k, Q (.done (.ret (.bytes #[n.toNat.toUInt8] tk))) { s with toks := k }) : wpAny (model prog w) A (Builtin.«_struct.pack» ⟨[.str packB t, .int n u], []⟩) Q E s := by
  obtain ⟨hp, g, d, tk, os⟩ := s
  unfold Builtin.«_struct.pack»
  refine wpAny_bind (wpAny_pure ?_)
  dsimp only
  rw [fmt_B]
  refine wpAny_bind (wpAny_pure ?_)
  unfold Builtin.Struct.packed
  dsimp only
  rw [if_neg (show ¬ (([Value.int n u].length != 1) = true) from by simp)]
  rw [if_neg (by decide)]
  unfold Builtin.Struct.packEach
  dsimp only
  refine wpAny_bind (wpAny_bind ?_)
  rw [List.forIn_cons]
  dsimp only
  rw [if_neg (by decide), if_neg (by decide)]
  refine wpAny_bind (wpAny_bind ?_)
  rw [Std.Legacy.Range.forIn_eq_forIn_range']
  rw [show List.range' [:1].start [:1].size [:1].step = [0] from by decide, List.forIn_cons]
  dsimp only
  refine wpAny_bind (wpAny_bind ?_)
  k_delta "packOne"
  repeat (any_goals (first | assumption | wp_step))
  have e := intBytes_B h0 h1
  show Q (.done (.ret (.bytes _ tk))) _
  dsimp only
  rw [e]
  exact h _ _
theorem run_pack_out {n : Int} {t u : Tok} {Q : Fin → Shared → Prop} (h0 : ¬ (0 ≤ n ∧ n ≤ 255)) (hh : A.handled = none) (h : ∀ h' e k, Heap.NewExc s.heap h' e "struct.error" → E (.ref e) { s with heap := h', toks := k }) : wpAny (model prog w) A (Builtin.«_struct.pack» ⟨[.str packB t, .int n u], []⟩) Q E s := by
  obtain ⟨hp, g, d, tk, os⟩ := s
  unfold Builtin.«_struct.pack»
  refine wpAny_bind (wpAny_pure ?_)
  dsimp only
  rw [fmt_B]
  refine wpAny_bind (wpAny_pure ?_)
  unfold Builtin.Struct.packed
  dsimp only
  rw [if_neg (show ¬ (([Value.int n u].length != 1) = true) from by simp)]
  rw [if_neg (by decide)]
  unfold Builtin.Struct.packEach
  dsimp only
  refine wpAny_bind (wpAny_bind ?_)
  rw [List.forIn_cons]
  dsimp only
  rw [if_neg (by decide), if_neg (by decide)]
  refine wpAny_bind (wpAny_bind ?_)
  rw [Std.Legacy.Range.forIn_eq_forIn_range']
  rw [show List.range' [:1].start [:1].size [:1].step = [0] from by decide, List.forIn_cons]
  dsimp only
  refine wpAny_bind (wpAny_bind ?_)
  k_delta "packOne"
  have hx : (decide (n < 0) || decide (n > 255)) = true := by simp; omega
  repeat (any_goals (first | assumption | wp_step))
  refine wpAny_raiseErrorMade plainExc_struct hh (fun h' tk e hx => h h' e tk hx) ?_
  rw [PySem.ofString_length, sizeLine_eq]; decide +kernel
theorem pack_call {n : Int} {t u : Tok} {Q : Value → Shared → Prop} (h0 : 0 ≤ n) (h1 : n ≤ 255) (h : ∀ tk k, Q (.bytes #[n.toNat.toUInt8] tk) { s with toks := k }) : wpAny (model prog w) A (call (.builtin "_struct.pack") [.str packB t, .int n u]) Q E s :=
  call_function_meets (S := fun _ R s => ∀ tk k, R (.ok (.ret (.bytes #[n.toNat.toUInt8] tk))) { s with toks := k }) kind_pack plain_pack entry_pack (args_pack_2 _ _) (fun _ _ _ _ _ hs => run_pack h0 h1 hs) h
theorem pack_out {n : Int} {t u : Tok} {Q : Value → Shared → Prop} (h0 : ¬ (0 ≤ n ∧ n ≤ 255)) (hh : A.handled = none) (h : ∀ h' e k, Heap.NewExc s.heap h' e "struct.error" → E (.ref e) { s with heap := h', toks := k }) : wpAny (model prog w) A (call (.builtin "_struct.pack") [.str packB t, .int n u]) Q E s :=
  call_function_meets (S := fun A R s => A.handled = none ∧ ∀ h' e k, Heap.NewExc s.heap h' e "struct.error" → R (.error (.ref e)) { s with heap := h', toks := k }) kind_pack plain_pack entry_pack (args_pack_2 _ _) (fun _ _ _ _ _ hs => run_pack_out h0 hs.1 hs.2) ⟨hh, h⟩
end
end Mine

/-! Soundness, 7: the table of functions and classes; operations that ask it (own work). -/
namespace Mine
open PySem PySem.W PySem.Spec PySem.Calls PyProof.Rows PySem.SeqAt

structure ClOk (K : Frag) (att : List Str) (C : Addr) (c : Cl) : Prop where
  ok : okC K C = true
  name : ∃ u, nameIn K C = some (c.name, u)
  cd : ∃ cd, clsIn K C = some cd ∧ c.mro = refsOf cd.mro
  at_ : ∀ (k : Nat) (x : Str), att[k]? = some x → attrOf K C x = some (c.attrs.lookup k)
  init : (c.init = none ∧ findIn K (.ref C) "__init__" = some (some (.builtin "object.__init__"))) ∨ ∃ f, c.init = some f ∧ findIn K (.ref C) "__init__" = some (some (.ref f)) ∧ isFn K (.ref f) = true
structure TabOk (K : Frag) (att mu : List Str) (T : Tab) : Prop where
  nd : ∀ (i j : Nat) (x : Str), att[i]? = some x → att[j]? = some x → i = j
  fn : ∀ a f, T.fn a = some f → mkFn false K att mu a = some f
  cl : ∀ a c, T.cl a = some c → ClOk K att a c
theorem attrsOf_at {K : Frag} {C : Addr} : ∀ {l : List Str} {k : Nat} {r : List (Nat × CA)}, attrsOf K C k l = some r →
    (∀ j, j < k → r.lookup j = none) ∧ ∀ (j : Nat) (x : Str), l[j]? = some x → attrOf K C x = some (r.lookup (k + j))
  | [], k, r, e => by cases e; exact ⟨fun _ _ => rfl, fun j x h => by simp at h⟩
  | y :: t, k, r, e => by
    unfold attrsOf at e
    split at e
    · rename_i v l h1 h2
      cases e
      obtain ⟨i1, i2⟩ := attrsOf_at h2
      refine ⟨fun j hj => ?_, fun j x hx => ?_⟩
      · rw [List.lookup_cons, show (j == k) = false from by simp; omega]
        exact i1 j (by omega)
      · cases j with
        | zero => simp at hx; subst hx; rw [List.lookup_cons]; simpa using h1
        | succ j =>
          rw [List.lookup_cons, show (k + (j + 1) == k) = false from by simp]
          have := i2 j x (by simpa using hx)
          rw [this]; congr 2; omega
    · rename_i l h1 h2
      cases e
      obtain ⟨i1, i2⟩ := attrsOf_at h2
      refine ⟨fun j hj => i1 j (by omega), fun j x hx => ?_⟩
      · cases j with
        | zero => simp at hx; subst hx; rw [h1]; exact (congrArg some (i1 k (by omega))).symm
        | succ j =>
          have := i2 j x (by simpa using hx)
          rw [this]; congr 2; omega
    · cases e
theorem nodupB_at : ∀ {l : List Str}, nodupB l = true → ∀ (i j : Nat) (x : Str), l[i]? = some x → l[j]? = some x → i = j
  | [], _, i, _, _, h, _ => by simp at h
  | y :: t, e, i, j, x, h1, h2 => by
    simp only [nodupB, Bool.and_eq_true, Bool.not_eq_true'] at e
    have hn : y ∉ t := by simpa using e.1
    cases i with
    | zero =>
      simp at h1; subst h1
      cases j with
      | zero => rfl
      | succ j => simp at h2; exact absurd (List.mem_of_getElem? h2) hn
    | succ i =>
      cases j with
      | zero => simp at h1 h2; subst h2; exact absurd (List.mem_of_getElem? h1) hn
      | succ j => rw [nodupB_at e.2 i j x (by simpa using h1) (by simpa using h2)]
theorem fnsOf_at {K : Frag} {att mu : List Str} {fs : List Addr} {r : List (Nat × Fn)} (e : fnsOf K att mu fs = some r) {a : Nat} {f : Fn} (h : r.lookup a = some f) : mkFn false K att mu a = some f := by
  induction fs generalizing r with
  | nil => cases e; cases h
  | cons b t ih =>
    unfold fnsOf at e
    split at e
    · rename_i f' l h1 h2
      cases e
      rw [List.lookup_cons] at h
      split at h
      · rename_i q; cases h; rw [beq_iff_eq.mp q]; exact h1
      · exact ih h2 h
    · cases e
theorem mkCl_ok {K : Frag} {att : List Str} {C : Addr} {c : Cl} (e : mkCl K att C = some c) : ClOk K att C c := by
  unfold mkCl at e
  split at e
  · rename_i cd n u h1 h2
    split at e
    · rename_i hk
      split at e
      · rename_i l hl
        have ha : ∀ (k : Nat) (x : Str), att[k]? = some x → attrOf K C x = some (l.lookup k) := fun k x hx => by
          have := (attrsOf_at hl).2 k x hx
          rwa [Nat.zero_add] at this
        split at e
        · rename_i hi; cases e; exact ⟨hk, ⟨u, h2⟩, ⟨cd, h1, rfl⟩, ha, .inl ⟨rfl, hi⟩⟩
        · rename_i f hi
          split at e
          · rename_i hf; cases e; exact ⟨hk, ⟨u, h2⟩, ⟨cd, h1, rfl⟩, ha, .inr ⟨f, rfl, hi, hf⟩⟩
          · cases e
        · cases e
      · cases e
    · cases e
  · cases e
theorem clsOf_at {K : Frag} {att : List Str} {fs : List Addr} {r : List (Nat × Cl)} (e : clsOf K att fs = some r) {a : Nat} {f : Cl} (h : r.lookup a = some f) : mkCl K att a = some f := by
  induction fs generalizing r with
  | nil => cases e; cases h
  | cons b t ih =>
    unfold clsOf at e
    split at e
    · rename_i f' l h1 h2
      cases e
      rw [List.lookup_cons] at h
      split at h
      · rename_i q; cases h; rw [beq_iff_eq.mp q]; exact h1
      · exact ih h2 h
    · cases e
theorem mkTab_ok {K : Frag} {att mu : List Str} {fs cs : List Addr} {T : Tab} (e : mkTab K att mu fs cs = some T) : TabOk K att mu T := by
  unfold mkTab at e
  split at e
  · rename_i hn
    split at e
    · rename_i f c h1 h2
      cases e
      exact ⟨nodupB_at hn, fun a f h => fnsOf_at h1 h, fun a c h => mkCl_ok (clsOf_at h2 h)⟩
    · cases e
  · cases e
theorem mem_refsOf {l : List Value} {B : Nat} : (refsOf l).contains B = l.contains (.ref B) := by
  induction l with
  | nil => rfl
  | cons v r ih =>
    cases v <;> simp only [refsOf, List.contains_cons, ih] <;> first | rfl | skip
    all_goals (first | (rw [show (Value.ref B == _) = false from by rfl]; rfl) | skip)
    rename_i a
    congr 1
    rw [Bool.eq_iff_iff, beq_iff_eq, beq_iff_eq, Value.ref.injEq]

section
variable {K : Frag} {C : Addr}
structure OkC (K : Frag) (C : Addr) : Prop where
  isc : (clsIn K C).isSome = true
  typ : typeIn K (.ref C) = some (.type "type")
  reads : readsIn K C (.type "type") = true
  plain : plainGet K C "" = true
  dict : hasDictIn K C = true
  own : findIn K (.ref C) "__class__" = some (some (.builtin "object.__class__"))
  gs : specialIn K (.builtin "object.__class__") "__get__" = some (some (.builtin "getset_descriptor.__get__"))
  takes : takesIn K (.builtin "object.__class__") = some true
  mro : mroIn K C (.type "object") = some true
  makes : makesIn K C = true
  tga : specialIn K (.ref C) "__getattribute__" = some (some (.builtin "type.__getattribute__"))
  over : plainOver K C = true
  osa : findIn K (.ref C) "__setattr__" = some (some (.builtin "object.__setattr__"))
  keep : keepIn K (.ref C) = true
  cls : findCls K (.ref C) (.type "type") "__class__" = some (.get (.builtin "getset_descriptor.__get__") (.builtin "object.__class__") (.ref C) (.type "type"))
  nam : findCls K (.ref C) (.type "type") "__name__" = some (.get (.builtin "getset_descriptor.__get__") (.builtin "type.__name__") (.ref C) (.type "type"))
  ntyp : mroIn K C (.type "type") = some false
  nstr : mroIn K C (.type "str") = some false
theorem getsCls_eq {x : Str} {a : String} (e : getsCls K C x a = true) : findCls K (.ref C) (.type "type") x = some (.get (.builtin "getset_descriptor.__get__") (.builtin a) (.ref C) (.type "type")) := by
  unfold getsCls at e
  split at e
  · rename_i g b D t h
    simp only [Bool.and_eq_true, beq_iff_eq] at e
    obtain ⟨⟨⟨rfl, rfl⟩, rfl⟩, rfl⟩ := e
    exact h
  · cases e
theorem okC_of (e : okC K C = true) : OkC K C := by
  simp only [okC, Bool.and_eq_true, beq_iff_eq] at e
  obtain ⟨⟨⟨⟨⟨⟨⟨⟨⟨⟨⟨⟨⟨⟨⟨⟨⟨e1, e2⟩, e3⟩, e4⟩, e5⟩, e6⟩, e7⟩, e8⟩, e9⟩, e10⟩, e11⟩, e12⟩, e13⟩, e14⟩, e15⟩, e16⟩, e17⟩, e18⟩ := e
  exact ⟨e1, e2, e3, e4, e5, e6, e7, e8, e9, e10, e11, e12, e13, e14, getsCls_eq e15, getsCls_eq e16, e17, e18⟩
end

section
variable {prog : Program} {w : World} {A : Around} {E : Value → Shared → Prop} {s : Shared} {K : Frag} {att mu : List Str} {T : Tab} {g : Heap} {L : Addr} {m : Str → Option Value} {X : List (Addr × Obj)} {W : Wd} {σ : St} {Q : Value → Shared → Prop} {c : V}
theorem Core.kh (C : Core K att g L m X W σ s.heap) : K.In s.heap := C.kin.keeps C.F.keep
theorem Core.tys (C : Core K att g L m X W σ s.heap) (Y : TabOk K att mu T) {a : Nat} {c : Cl} (h : T.cl a = some c) : ∃ o, s.heap.get? a = some o ∧ o.cls = .type "type" := by
  have := (okC_of (Y.cl a c h).ok).typ
  obtain ⟨o, ho, hc⟩ := Option.map_eq_some_iff.mp this
  exact ⟨o, C.kh _ _ ho, hc⟩
theorem op_same {x y : Value} {a b : V} {k : Bool} {Q : Bool → Shared → Prop} (C : Core K att g L m X W σ s.heap) (Y : TabOk K att mu T) (h1 : VR K W x a) (h2 : VR K W y b) (e : visame T a b = some k) (h : Q k s) :
    wpAny (model prog w) A (isSame x y) Q E s := by
  have pl : ∀ {x y : Value} {k : Bool}, plainIs x y = true → (x == y) = k → Q k s → wpAny (model prog w) A (isSame x y) Q E s := fun hp he q => wpAny_isSame_plain hp (he ▸ q)
  cases a <;> cases b <;> simp only [visame, Option.some.injEq, reduceCtorEq] at e
  case cls.cls a b =>
    split at e
    · rename_i c1 c2 q1 q2
      cases e
      cases h1; cases h2
      obtain ⟨o1, g1, g2⟩ := C.tys Y q1
      obtain ⟨o2, g3, g4⟩ := C.tys Y q2
      by_cases hab : a = b
      · subst hab; rw [show (a == a) = true from by simp] at h; exact wpAny_isSame_ref_self h
      · rw [show (a == b) = false from by simpa using hab] at h
        exact wpAny_isSame_ref_other hab g1 g3 (by rw [g2]; intro q; injection q with q; revert q; decide) h
    · cases e
  all_goals (subst e; cases h1 <;> cases h2 <;> exact pl rfl rfl h)
def eqI (x : Int) : Value → Bool
  | .int i _ => i == x
  | _ => false
theorem vin_values {l : List V} {vs : List Value} {x : Int} {t : Tok} {r : Bool} (hr : VRs K W vs l) (e : vin x l = some r) :
    (∀ y ∈ vs, EqAt A s y (.int x t) (eqI x y)) ∧ vs.any (eqI x) = r := by
  induction l generalizing vs r with
  | nil => cases hr; cases e; exact ⟨fun y hy => by simp at hy, rfl⟩
  | cons a l ih =>
    cases hr with
    | @cons v _ vs' _ hv hr =>
      cases a <;> simp only [vin, reduceCtorEq] at e
      · obtain ⟨h1, h2⟩ := ih hr e
        cases hv
        exact ⟨fun y hy => by rcases List.mem_cons.mp hy with rfl | hy; exact EqAt.none_int _ _; exact h1 y hy, by rw [List.any_cons, h2]; rfl⟩
      · obtain ⟨b, h3, h4⟩ := Option.map_eq_some_iff.mp e
        obtain ⟨h1, h2⟩ := ih hr h3
        cases hv
        exact ⟨fun y hy => by rcases List.mem_cons.mp hy with rfl | hy; exact EqAt.int_int _ _ _ _; exact h1 y hy, by rw [List.any_cons, h2, ← h4]; rfl⟩
theorem dct_some {es : List DictEntry} {l : List (Int × V)} (h : VRd K W es l) (i : Int) : (findBy Value.isInt es.toArray i).isSome = l.any fun p => decide (p.1 = i) := by
  have := h.get i
  cases hf : l.find? (fun p => decide (p.1 = i)) with
  | none =>
    rw [hf] at this
    rw [this]
    symm
    rw [Option.isSome_none, List.any_eq_false]
    exact fun p hp => by have := List.find?_eq_none.mp hf p hp; simpa using this
  | some p =>
    rw [hf] at this
    obtain ⟨v, h1, _⟩ := this
    rw [h1]
    symm
    rw [Option.isSome_some, List.any_eq_true]
    exact ⟨p, List.mem_of_find?_eq_some hf, by have := List.find?_some hf; simpa using this⟩
theorem notIn_intMap {d : Addr} {f : Int → Option Value} {k : Int} {t : Tok} {Q : Value → Shared → Prop} (hm : s.heap.IntMap d f)
    (h : Q (.bool (!(f k).isSome)) { s with toks := s.toks + 1 }) : wpAny (model prog w) A (compareOp .NotIn (.int k t) (.ref d)) Q E s := by
  show wpAny _ _ (do return .bool (!(← contains (.ref d) (.int k t)))) Q E s
  refine wpAny_bind ?_
  unfold contains
  try with_reducible refine wpAny_holding ?_
  refine wpAny_bind (wpAny_specialOf hm.typeIs slot_dict_contains.lookup ?_)
  show wpAny _ _ (if (some (Value.builtin "dict.__contains__") == some Value.none) = true then _ else _) _ E s
  rw [if_neg (by rw [beq_builtin_none]; exact Bool.false_ne_true)]
  refine wpAny_bind (wpAny_callSpecialUnlessNone?_slot (name := Str.ofString "__contains__") hm.typeIs slot_dict_contains
    (wpAny_call_entry slot_dict_contains hm.typeIs entry_dict_contains ?_ (args_dict_contains _ _)))
  show wpAny _ _ (dictGet d (.int k t) >>= _) _ _ s
  refine wpAny_bind (wpAny_dictGet_int hm ?_)
  cases hf : f k with
  | some v =>
    rw [hf] at h
    show wpAny _ _ (ret (.bool true)) _ _ _
    exact wpAny_pure ⟨_, rfl, wpAny_truthy_bool (wpAny_pure h)⟩
  | none =>
    rw [hf] at h
    show wpAny _ _ (Builtin.Dict.pendingKey? d (.int k t) >>= _) _ _ _
    exact wpAny_bind (wpAny_pendingKey_int (wpAny_pure ⟨_, rfl, wpAny_truthy_bool (wpAny_pure h)⟩))
theorem op_cmp {o : CmpOp} {x y : Value} {a b : V} {k : Bool} (C : Core K att g L m X W σ s.heap) (Y : TabOk K att mu T) (hu : A.units < cLine) (h1 : VR K W x a) (h2 : VR K W y b) (e : vcmp T (opC o) a b = some k) (h : Ans K att g L m X W σ s (.bool k) Q) :
    wpAny (model prog w) A (compareOp o x y) Q E s := by
  have hq : Q (.bool k) s := h.here C (.bool _)
  cases o <;> simp only [opC, vcmp] at e
  · exact op_eq C hu h1 h2 e hq
  · obtain ⟨b', h3, rfl⟩ := Option.map_eq_some_iff.mp e
    exact op_ne C hu h1 h2 h3 hq
  · cases a <;> cases b <;> simp only [reduceCtorEq, Option.some.injEq] at e
    subst e; cases h1; cases h2; exact P.lt_int hq
  · cases a <;> cases b <;> simp only [reduceCtorEq, Option.some.injEq] at e
    subst e; cases h1; cases h2; exact P.le_int hq
  · cases a <;> cases b <;> simp only [reduceCtorEq, Option.some.injEq] at e
    subst e; cases h1; cases h2; exact P.gt_int hq
  · cases a <;> cases b <;> simp only [reduceCtorEq, Option.some.injEq] at e
    subst e; cases h1; cases h2; exact P.ge_int hq
  · exact wpAny_bind (op_same C Y h1 h2 e (wpAny_pure hq))
  · obtain ⟨b', h3, rfl⟩ := Option.map_eq_some_iff.mp e
    exact wpAny_bind (op_same C Y h1 h2 h3 (wpAny_pure hq))
  · cases a <;> cases b <;> simp only [vcmp, reduceCtorEq, Option.some.injEq] at e <;> cases h1
    · cases h2 with
      | tup k1 r1 =>
        obtain ⟨h3, h4⟩ := vin_values r1 e
        exact in_tupleAt (eqI _) (isT_of (C.known k1)) (fun y hy => h3 y (by simpa using hy)) (by simpa [h4] using hq)
    · cases h2 with
      | lst k1 r1 =>
        obtain ⟨h3, h4⟩ := vin_values r1 e
        exact in_listAt (eqI _) (isL_of (C.known k1)) (fun y hy => h3 y (by simpa using hy)) (by simpa [h4] using hq)
    · cases h2 with
      | dct k1 r1 =>
        refine wpAny_in_intMap (C.intMap k1 r1) ?_
        rw [dct_some r1, e]
        exact h.now C (.bool _) _
  · cases a <;> cases b <;> simp only [vcmp, reduceCtorEq, Option.some.injEq] at e <;> cases h1
    · obtain ⟨b', e', rfl⟩ := Option.map_eq_some_iff.mp e
      cases h2 with
      | tup k1 r1 =>
        obtain ⟨h3, h4⟩ := vin_values r1 e'
        exact notIn_tupleAt (eqI _) (isT_of (C.known k1)) (fun y hy => h3 y (by simpa using hy)) (by simpa [h4] using hq)
    · obtain ⟨b', e', rfl⟩ := Option.map_eq_some_iff.mp e
      cases h2 with
      | lst k1 r1 =>
        obtain ⟨h3, h4⟩ := vin_values r1 e'
        exact notIn_listAt (eqI _) (isL_of (C.known k1)) (fun y hy => h3 y (by simpa using hy)) (by simpa [h4] using hq)
    · cases h2 with
      | dct k1 r1 =>
        refine notIn_intMap (C.intMap k1 r1) ?_
        rw [dct_some r1, e]
        exact h.now C (.bool _) _
end
end Mine

/-! Soundness, 8: calls of builtins (own work). -/
namespace Mine
open PySem PySem.W PySem.Spec PySem.Calls PyProof.Rows PySem.SeqAt

section
variable {K : Frag} {att mu : List Str} {T : Tab} {g h : Heap} {L : Addr} {m : Str → Option Value} {X : List (Addr × Obj)} {W : Wd} {σ : St}
/-- a new object that never changes, in a heap that grew -/
theorem Core.learn (C : Core K att g L m X W σ h) {h' : Heap} (k : ∀ b o, h.get? b = some o → h'.get? b = some o) {a : Addr} {o : Obj} (ha : h.objs.size ≤ a) (ho : h'.get? a = some o) (hd : ∀ es n, o.data ≠ .dict es n) :
    Core K att g L m X ⟨(a, o) :: W.fz, W.en, W.kn⟩ σ h' := by
  have C' := C.grow k
  have ng : g.get? a = none := by
    cases q : g.get? a with
    | none => rfl
    | some ob => exact absurd (Heap.lt_size (C.F.keep _ _ q)) (Nat.not_lt.mpr ha)
  have N' := News.more C'.F C'.N ho hd ng
  refine ⟨C'.F, fun p hp => N' p ?_, ⟨fun p hp q hq => ?_, C.ap.nodup, fun p hp q hq => ?_⟩, C.sr.mono le_cons, C.kin, C.knw⟩
  · rcases List.mem_append.mp hp with h1 | h1
    · exact List.mem_cons_of_mem _ (List.mem_append_left _ h1)
    · rcases List.mem_cons.mp h1 with h2 | h2
      · exact h2 ▸ List.mem_cons_self
      · exact List.mem_cons_of_mem _ (List.mem_append_right _ h2)
  · rcases List.mem_append.mp hp with h1 | h1
    · exact C.ap.sep p (List.mem_append_left _ h1) q hq
    · rcases List.mem_cons.mp h1 with h2 | h2
      · subst h2
        have hlt : q.1 < h.objs.size := C.lt (List.mem_append_right _ (List.mem_append_right _ hq))
        exact fun e => by rw [← (show a = q.1 from e)] at hlt; exact absurd hlt (Nat.not_lt.mpr ha)
      · exact C.ap.sep p (List.mem_append_right _ h2) q hq
  · rcases List.mem_cons.mp hq with rfl | hq
    · have hlt : p.1 < h.objs.size := C.lt (List.mem_append_left _ hp)
      exact fun e => by rw [show p.1 = a from e] at hlt; exact absurd hlt (Nat.not_lt.mpr ha)
    · exact C.ap.sx p hp q hq
end
theorem small_bd {a : Int} (e : small a = true) : -1099511627776 ≤ a ∧ a ≤ 1099511627776 := by simpa [small] using e
theorem range_small {a b : Int} (h1 : small a = true) (h2 : small b = true) : Builtin.Range.small a b 1 = true := by
  have := small_bd h1; have := small_bd h2
  exact small_one (by omega) (by omega) (by omega) (by omega)
theorem range_size (a b : Int) : Builtin.Range.rangeSize a b 1 = ((b - a).toNat : Int) := by
  unfold Builtin.Range.rangeSize
  rw [if_pos (by decide)]
  split
  · rw [Int.ediv_one]; omega
  · omega
theorem upTo_len (a : Int) (n : Nat) : (upTo a n).length = n := by induction n generalizing a with | zero => rfl | succ n ih => simp [upTo, ih]
theorem upTo_get (a : Int) (n j : Nat) (h : j < n) : (upTo a n)[j]? = some (a + j) := by
  induction n generalizing a j with
  | zero => omega
  | succ n ih =>
    cases j with
    | zero => simp [upTo]
    | succ j => simp only [upTo, List.getElem?_cons_succ]; rw [ih _ _ (by omega)]; congr 1; push_cast; omega
theorem range_items {a : Int} {n : Nat} {acc : Array Value} (h : ItemsOf (fun i v => ∃ t, v = Value.int (a + i * 1) t) acc n) : IntsAre acc.toList (upTo a n) := by
  obtain ⟨hs, hi⟩ := h
  have key : ∀ (l : List Value) (k : List Int), l.length = k.length → (∀ (j : Nat) (v : Value), l[j]? = some v → ∃ (c : Int) (u : Tok), k[j]? = some c ∧ v = Value.int c u) → IntsAre l k := by
    intro l
    induction l with
    | nil => intro k hk _; cases k with | nil => exact .nil | cons _ _ => simp at hk
    | cons v r ih =>
      intro k hk hi
      cases k with
      | nil => simp at hk
      | cons c t =>
        obtain ⟨c', u, h1, rfl⟩ := hi 0 v rfl
        cases h1
        exact .cons _ _ (ih t (by simpa using hk) fun j v' hv => hi (j + 1) v' hv)
  refine key acc.toList _ (by simpa [upTo_len] using hs) fun j v hv => ?_
  have hj : j < n := by
    have := (List.getElem?_eq_some_iff.mp hv).1
    rw [Array.length_toList, hs] at this; exact this
  obtain ⟨t, rfl⟩ := hi j v (by simpa using hv)
  exact ⟨_, t, upTo_get a n j hj, by rw [Int.mul_one]⟩

def tyV : V → Option String
  | .none => some "NoneType"
  | .bool _ => some "bool"
  | .int _ => some "int"
  | .str _ => some "str"
  | .bytes _ => some "bytes"
  | .cls _ => some "type"
  | _ => none
def subB (t n : String) : Option Bool := if t == n then some true else (fastBuiltinMro t).map (·.contains (.type n))
section
variable {prog : Program} {w : World} {A : Around} {E : Value → Shared → Prop} {s : Shared} {K : Frag} {att mu : List Str} {T : Tab} {g : Heap} {L : Addr} {m : Str → Option Value} {X : List (Addr × Obj)} {W : Wd} {σ : St} {Q : Value → Shared → Prop} {c : V}
theorem kitOne_tt {t n : String} {b : Bool} (hk : kitMeta n = true) (e : subB t n = some b) : kitOne K (.type t) (.type n) = some b := by
  unfold kitOne
  unfold subB at e
  by_cases h : t = n
  · subst h; rw [if_pos (by simp)] at e; rw [if_pos (by simp)]; exact e
  · rw [if_neg (by simpa using h)] at e
    rw [if_neg (fun q => h (by have := beq_iff_eq.mp q; injection this))]
    unfold kitCls
    dsimp only
    rw [if_pos hk]
    exact e
theorem kitOne_tc {t : String} {C : Addr} (Y : OkC K C) (hm : (fastBuiltinMro t).map (·.contains (Value.ref C)) = some false) : kitOne K (.type t) (.ref C) = some false := by
  unfold kitOne
  rw [if_neg (fun q => by cases beq_iff_eq.mp q)]
  unfold kitCls
  dsimp only
  rw [if_pos (by rw [Y.isc, Y.typ]; simp)]
  exact hm
theorem kit_val {x : Value} {a : V} {t : String} (Y : TabOk K att mu T) (hx : VR K W x a) (ht : tyV a = some t) (hc : ∀ C, a = .cls C → ∃ c, T.cl C = some c) : KitX K x (.type t) (fun _ => True) ∧ x ≠ .builtin "__main__.__loader__#opaque" := by
  cases a <;> simp only [tyV, Option.some.injEq, reduceCtorEq] at ht <;> subst ht <;> cases hx
  · exact ⟨kitx_none, fun q => by cases q⟩
  · exact ⟨kitx_bool, fun q => by cases q⟩
  · exact ⟨kitx_int, fun q => by cases q⟩
  · exact ⟨kitx_str, fun q => by cases q⟩
  · exact ⟨kitx_bytes, fun q => by cases q⟩
  · rename_i C
    obtain ⟨c, hc⟩ := hc C rfl
    have O := okC_of (Y.cl C c hc).ok
    exact ⟨kitx_clsref O.typ O.reads O.cls, fun q => by cases q⟩
theorem op_isinst {x y : Value} {a b : V} {k : Bool} (C : Core K att g L m X W σ s.heap) (Y : TabOk K att mu T) (h1 : VR K W x a) (h2 : VR K W y b) (e : vinst T σ a b = some k) (h : Ans K att g L m X W σ s (.bool k) Q) :
    wpAny (model prog w) A (call (.builtin "isinstance") [x, y]) Q E s := by
  have hq : ∀ tk, Q (.bool k) { s with toks := tk } := fun tk => h.now C (.bool _) tk
  have tt : ∀ {t n : String}, tyV a = some t → b = .typ n → (∀ C, a = .cls C → ∃ c, T.cl C = some c) → kitMeta n = true → subB t n = some k → wpAny (model prog w) A (call (.builtin "isinstance") [x, y]) Q E s := by
    intro t n ht hb hc hm hs
    subst hb
    cases h2
    obtain ⟨Z, hne⟩ := kit_val Y h1 ht hc
    exact kia_one Z C.kh trivial (kitOne_tt hm hs) hne hq
  cases b with
  | typ n =>
    cases a <;> simp only [vinst, reduceCtorEq] at e
    case cls a =>
      split at e
      · rename_i c' hc'
        repeat' (split at e)
        all_goals first
          | (simp only [reduceCtorEq] at e; done)
          | (rename_i q; have q := beq_iff_eq.mp q; subst q; cases e; exact tt rfl rfl (fun D q => by cases q; exact ⟨_, hc'⟩) (by kernel_rfl) (by kernel_rfl))
      · cases e
    case obj i =>
      split at e
      · rename_i D fs hσ
        obtain ⟨ad, dx, es, nn, rfl, q1, q2, q3, q4⟩ := C.inst h1 hσ
        split at e
        · rename_i c' hc'
          have O := okC_of (Y.cl D c' hc').ok
          have I : InstAt s.heap ad (instObj D dx) D (some (dictOf es nn)) := ⟨q3, rfl, rfl, q4⟩
          have Z := kitx_own (K := K) (x := ad) (D := D) (ox := instObj D dx) (od := dictOf es nn) O.plain O.dict O.own O.gs O.takes O.mro
          cases h2
          have one : ∀ n, kitMeta n = true → mroIn K D (.type n) = some false → kitOne K (.ref D) (.type n) = some false := fun n hm hs => by
            unfold kitOne
            rw [if_neg (fun q => by cases beq_iff_eq.mp q)]
            unfold kitCls
            dsimp only
            rw [if_pos hm]
            exact hs
          repeat' (split at e)
          all_goals first
            | (simp only [reduceCtorEq] at e; done)
            | (rename_i q; have q := beq_iff_eq.mp q; subst q; cases e; exact kia_one Z C.kh I (one _ (by kernel_rfl) (by first | exact O.ntyp | exact O.nstr)) (fun q => by cases q) hq)
        · cases e
      · cases e
    all_goals (
      repeat' (split at e)
      all_goals first
        | (simp only [reduceCtorEq] at e; done)
        | (rename_i q; have q := beq_iff_eq.mp q; subst q; cases e; exact tt rfl rfl (fun D q => by cases q) (by kernel_rfl) (by kernel_rfl)))
  | cls B =>
    cases a <;> simp only [vinst, reduceCtorEq] at e
    case obj i =>
      split at e
      · rename_i D fs hσ
        obtain ⟨ad, dx, es, nn, rfl, q1, q2, q3, q4⟩ := C.inst h1 hσ
        split at e
        · rename_i c' cB hc' hB
          have O := okC_of (Y.cl D c' hc').ok
          have OB := okC_of (Y.cl B cB hB).ok
          have I : InstAt s.heap ad (instObj D dx) D (some (dictOf es nn)) := ⟨q3, rfl, rfl, q4⟩
          have Z := kitx_own (K := K) (x := ad) (D := D) (ox := instObj D dx) (od := dictOf es nn) O.plain O.dict O.own O.gs O.takes O.mro
          cases h2
          cases e
          obtain ⟨cd, hcd, hm⟩ := (Y.cl D c' hc').cd
          rw [hm, mem_refsOf] at hq
          refine kia_one Z C.kh I ?_ (fun q => by cases q) hq
          unfold kitOne
          split
          · rename_i q
            have := beq_iff_eq.mp q
            injection this with this
            subst this
            have mk := O.makes
            unfold makesIn at mk
            unfold clsIn at hcd
            split at hcd
            · rename_i ho
              rw [ho] at mk
              cases hcd
              simp only [Bool.and_eq_true] at mk
              rw [mk.1.1.1.2]
            · cases hcd
          · unfold kitCls
            dsimp only
            rw [if_pos (by rw [OB.isc, OB.typ]; simp)]
            show mroIn K D _ = _
            have om := O.mro
            unfold mroIn at om ⊢
            rw [hcd, Option.bind_some] at om ⊢
            split at om
            · cases om
            · rename_i hne; rw [if_neg hne]
        · cases e
      · cases e
    case int i =>
      obtain ⟨cB, hB, rfl⟩ := Option.map_eq_some_iff.mp e
      obtain ⟨Z, hne⟩ := kit_val Y h1 rfl (fun D q => by cases q)
      cases h2
      exact kia_one Z C.kh trivial (kitOne_tc (okC_of (Y.cl B cB hB).ok) (by kernel_rfl)) hne hq
    case cls a =>
      split at e
      · rename_i cA cB hA hB
        cases e
        obtain ⟨Z, hne⟩ := kit_val Y h1 rfl (fun D q => by cases q; exact ⟨_, hA⟩)
        cases h2
        exact kia_one Z C.kh trivial (kitOne_tc (okC_of (Y.cl B cB hB).ok) (by kernel_rfl)) hne hq
      · cases e
  | _ => cases a <;> simp [vinst] at e

theorem room_sz {n : Nat} (e : room n = true) : n ≤ 16777216 := by have := room_le e; omega
theorem octs_in {l : List Int} (e : octs l = true) : KBa.In l := fun n hn => by
  have := List.all_eq_true.mp e n hn
  simp only [Bool.and_eq_true, decide_eq_true_eq] at this
  exact this
theorem op_blt {f : Value} {b : Bl} {xs : List Value} {as : List V} {σ' : St} (C : Core K att g L m X W σ s.heap) (Y : TabOk K att mu T) (hh : A.handled = none) (hf : blOf f = some b) (hx : VRs K W xs as)
    (e : vblt T σ b as = .ok c σ') (h : Ans K att g L m X W σ s c Q) : wpAny (model prog w) A (call f xs) Q E s := by
  have one : ∀ {a : V}, as = [a] → ∃ x, xs = [x] ∧ VR K W x a := fun q => by
    subst q; cases hx with | cons h1 r => cases r; exact ⟨_, rfl, h1⟩
  have two : ∀ {a a' : V}, as = [a, a'] → ∃ x x', xs = [x, x'] ∧ VR K W x a ∧ VR K W x' a' := fun q => by
    subst q; cases hx with | cons h1 r => cases r with | cons h2 r => cases r; exact ⟨_, _, rfl, h1, h2⟩
  have bf : ∀ {b' : Bl} {v : Value}, b = b' → blOf v = some b' → (∀ u, blOf u = some b' → u = v) → f = v := fun q1 _ q3 => q3 f (q1 ▸ hf)
  cases b with
  | len =>
    obtain rfl := bf (v := .builtin "len") rfl rfl (fun u hu => by unfold blOf at hu; split at hu <;> cases hu; rfl)
    rcases as with _ | ⟨a, _ | ⟨a', r⟩⟩
    · simp [vblt] at e
    · obtain ⟨x, rfl, h1⟩ := one rfl
      cases a <;> simp only [vblt, reduceCtorEq] at e
      · split at e
        · rename_i hr; cases e; cases h1
          have := room_le hr
          exact P.len_str (by omega) (h.now C (.int _ _) _)
        · cases e
      · split at e
        · rename_i hr; cases e; cases h1
          have := room_le hr
          exact KBw.len_K (by assumption) (by omega) (h.now C (.int _ _) _)
        · cases e
      · split at e
        · rename_i hr; cases e
          have := room_le hr
          cases h1 with
          | tup k1 r1 => exact P.len_tuple (C.known k1) (by rw [List.size_toArray, r1.length]; omega) (by rw [List.size_toArray, r1.length]; exact h.now C (.int _ _) _)
        · cases e
      · split at e
        · rename_i hr; cases e
          have := room_le hr
          cases h1 with
          | lst k1 r1 => exact call_len_list (isL_of (C.known k1)) (by rw [List.size_toArray, r1.length]; omega) (by rw [List.size_toArray, r1.length]; exact h.now C (.int _ _) _)
        · cases e
      · split at e
        · rename_i hσ
          split at e
          · rename_i hr; cases e
            have := room_le hr
            obtain ⟨ad, vs, n, rfl, q1, q2, q3⟩ := C.mls h1 hσ
            exact call_len_list (isL_of q3) (by rw [List.size_toArray, q2.length]; omega) (by rw [List.size_toArray, q2.length]; exact h.now C (.int _ _) _)
          · cases e
        · cases e
    · simp [vblt] at e
  | range =>
    obtain rfl := bf (v := .type "range") rfl rfl (fun u hu => by unfold blOf at hu; split at hu <;> cases hu; rfl)
    rcases as with _ | ⟨a, _ | ⟨a', _ | ⟨a'', r⟩⟩⟩
    · simp [vblt] at e
    · obtain ⟨x, rfl, h1⟩ := one rfl
      cases a <;> simp only [vblt, reduceCtorEq] at e
      split at e
      · rename_i hs; cases e; cases h1
        exact call_range_1 (h.push C _ rfl (.rng ⟨rfl, hs⟩ (.inr (.head _))) _)
      · cases e
    · obtain ⟨x, x', rfl, h1, h2⟩ := two rfl
      cases a <;> cases a' <;> simp only [vblt, reduceCtorEq] at e
      split at e
      · rename_i hs; cases e; cases h1; cases h2
        rw [Bool.and_eq_true] at hs
        exact call_range_2 (h.push C _ rfl (.rng hs (.inr (.head _))) _)
      · cases e
    · cases a <;> cases a' <;> simp [vblt] at e
  | bytes =>
    obtain rfl := bf (v := .type "bytes") rfl rfl (fun u hu => by unfold blOf at hu; split at hu <;> cases hu; rfl)
    rcases as with _ | ⟨a, _ | ⟨a', r⟩⟩
    · simp [vblt] at e
    · obtain ⟨x, rfl, h1⟩ := one rfl
      cases a <;> simp only [vblt, vbytes, R.of, reduceCtorEq] at e
      cases h1 with
      | lst k1 r1 =>
        split at e
        · rename_i hv
          cases e
          split at hv
          · rename_i ns hns
            split at hv
            · rename_i hr
              cases hv
              rw [Bool.and_eq_true] at hr
              have hi := r1.intsOf hns
              refine KBa.make_K C.F C.N hh (isL_of (C.known k1)) hi (octs_in hr.1) (room_sz hr.2) fun h' t' k F' N' _ => ?_
              exact h _ W h' k (.refl W) ⟨F', N', C.ap, C.sr, C.kin, C.knw⟩ (.bytes (KBa.ints_make (octs_in hr.1)))
            · cases hv
          · cases hv
        · cases e
    · simp [vblt] at e
  | list =>
    obtain rfl := bf (v := .type "list") rfl rfl (fun u hu => by unfold blOf at hu; split at hu <;> cases hu; rfl)
    rcases as with _ | ⟨a, _ | ⟨a', r⟩⟩
    · simp [vblt] at e
    · obtain ⟨x, rfl, h1⟩ := one rfl
      cases a <;> simp only [vblt, vlist, R.of, reduceCtorEq] at e
      · rename_i l
        split at e
        · rename_i hv
          cases e
          split at hv
          · rename_i hr
            cases hv
            cases h1 with
            | bytes hb =>
              have := room_le hr
              subst hb
              rw [KBw.ints_length] at this
              refine list_bytes hh _ _ (fun h' tk acc' c' k ho hi => ?_) (by rw [sizeLine_eq]; omega)
              exact h _ _ h' tk le_cons (C.learn k (Nat.le_refl _) ho (fun es n q => by cases q)) (.lst (vs := acc'.toList) (n := c') (.inr (.head _)) (VRs.of_ints (octs_of hi)))
          · cases hv
        · cases e
      · rename_i lo hi
        split at e
        · rename_i hv
          cases e
          split at hv
          · rename_i hr
            cases hv
            cases h1 with
            | rng hs hk =>
              have := room_le hr
              refine call_list_range hh (C.known hk) (range_small hs.1 hs.2) (range_size lo hi) (by omega) fun h' tk acc' c' k ho hi => ?_
              exact h _ _ h' tk le_cons (C.learn k (Nat.le_refl _) ho (fun es n q => by cases q)) (.lst (vs := acc'.toList) (n := c') (.inr (.head _)) (VRs.of_ints (range_items hi)))
          · cases hv
        · cases e
    · simp [vblt] at e
  | isinst =>
    obtain rfl := bf (v := .builtin "isinstance") rfl rfl (fun u hu => by unfold blOf at hu; split at hu <;> cases hu; rfl)
    rcases as with _ | ⟨a, _ | ⟨a', _ | ⟨a'', r⟩⟩⟩
    · simp [vblt] at e
    · simp [vblt] at e
    · obtain ⟨x, x', rfl, h1, h2⟩ := two rfl
      simp only [vblt] at e
      cases hv : vinst T σ a a' with
      | none => rw [hv] at e; cases e
      | some k =>
        rw [hv] at e; cases e
        exact op_isinst C Y h1 h2 hv h
    · simp [vblt] at e
  | issub =>
    obtain rfl := bf (v := .builtin "issubclass") rfl rfl (fun u hu => by unfold blOf at hu; split at hu <;> cases hu; rfl)
    rcases as with _ | ⟨a, _ | ⟨a', _ | ⟨a'', r⟩⟩⟩
    · simp [vblt] at e
    · cases a <;> simp [vblt] at e
    · obtain ⟨x, x', rfl, h1, h2⟩ := two rfl
      cases a <;> cases a' <;> simp only [vblt, reduceCtorEq] at e
      rename_i a a'
      split at e
      · rename_i c1 c2 q1 q2
        cases e
        cases h1; cases h2
        obtain ⟨cd, hcd, hm⟩ := (Y.cl _ _ q1).cd
        have O := okC_of (Y.cl _ _ q1).ok
        have O2 := okC_of (Y.cl _ _ q2).ok
        refine issub_call (b := c1.mro.contains a') C.kh O.isc O2.isc O2.typ ?_ (h.here C (.bool _))
        rw [hm, mem_refsOf]
        have om := O.mro
        unfold mroIn at om ⊢
        rw [hcd, Option.bind_some] at om ⊢
        split at om
        · cases om
        · rename_i hne; rw [if_neg hne]
      · cases e
    · cases a <;> cases a' <;> simp [vblt] at e
  | int =>
    obtain rfl := bf (v := .type "int") rfl rfl (fun u hu => by unfold blOf at hu; split at hu <;> cases hu; rfl)
    rcases as with _ | ⟨a, _ | ⟨a', r⟩⟩
    · simp [vblt] at e
    · obtain ⟨x, rfl, h1⟩ := one rfl
      cases a <;> simp only [vblt, reduceCtorEq] at e
      cases e; cases h1
      exact call_int_int (h.here C (.int _ _))
    · cases a <;> simp [vblt] at e
  | str =>
    obtain rfl := bf (v := .type "str") rfl rfl (fun u hu => by unfold blOf at hu; split at hu <;> cases hu; rfl)
    rcases as with _ | ⟨a, _ | ⟨a', r⟩⟩
    · simp [vblt] at e
    · obtain ⟨x, rfl, h1⟩ := one rfl
      cases a <;> simp only [vblt, reduceCtorEq] at e
      split at e
      · rename_i i hs
        cases e; cases h1
        have := small_bd hs
        refine P.str_of_int ?_ (h.now C (.str _ _) _)
        by_cases h0 : i.natAbs = 0
        · rw [h0]; decide
        · have : i.natAbs < 2 ^ 63 := by omega
          have h2 := (Nat.log2_lt h0).mpr this
          omega
      · cases e
    · cases a <;> simp [vblt] at e
  | pack =>
    obtain rfl := bf (v := .builtin "_struct.pack") rfl rfl (fun u hu => by unfold blOf at hu; split at hu <;> cases hu; rfl)
    rcases as with _ | ⟨a, _ | ⟨a', _ | ⟨a'', r⟩⟩⟩
    · simp [vblt] at e
    · cases a <;> simp [vblt] at e
    · obtain ⟨x, x', rfl, h1, h2⟩ := two rfl
      cases a <;> cases a' <;> simp only [vblt, reduceCtorEq] at e
      rename_i f n
      split at e
      · rename_i hfB
        obtain rfl := beq_iff_eq.mp hfB
        split at e
        · rename_i hn
          simp only [Bool.and_eq_true, decide_eq_true_eq] at hn
          cases e; cases h1; cases h2
          refine pack_call hn.1 hn.2 fun tk k => h.now C (.bytes ?_) k
          have := KBa.ints_make (ns := [n]) (fun k hk => by simp at hk; omega)
          exact this
        · split at e <;> cases e
      · cases e
    · cases a <;> cases a' <;> simp [vblt] at e
theorem of_exc {α : Type} {σ σ' : St} {o : Option α} {x : Mine.X} (e : R.of σ o = .exc x σ') : False := by cases o <;> cases e
theorem vblt_exc {b : Bl} {as : List V} {σ' : St} {x : Mine.X} (e : vblt T σ b as = .exc x σ') : b = .pack ∧ x = .packN ∧ σ' = σ ∧ ∃ n, as = [.str packB, .int n] ∧ ¬ (0 ≤ n ∧ n ≤ 255) := by
  unfold vblt at e
  repeat' (split at e)
  all_goals first
    | exact (of_exc e).elim
    | (simp only [reduceCtorEq] at e; done)
    | skip
  · rename_i n hf hn hs
    cases e
    simp only [Bool.and_eq_true, decide_eq_true_eq] at hn
    obtain rfl := beq_iff_eq.mp hf
    exact ⟨rfl, rfl, rfl, n, rfl, hn⟩
theorem op_blt_exc {f : Value} {b : Bl} {xs : List Value} {as : List V} {σ' : St} {x : Mine.X} (hh : A.handled = none) (hf : blOf f = some b) (hx : VRs K W xs as)
    (e : vblt T σ b as = .exc x σ') (h : x = .packN → σ' = σ → ∀ h' e k, Heap.NewExc s.heap h' e "struct.error" → E (.ref e) { s with heap := h', toks := k }) : wpAny (model prog w) A (call f xs) Q E s := by
  obtain ⟨rfl, rfl, rfl, n, rfl, hn⟩ := vblt_exc e
  obtain rfl : f = .builtin "_struct.pack" := by unfold blOf at hf; split at hf <;> cases hf; rfl
  cases hx with
  | cons h1 r =>
    cases r with
    | cons h2 r =>
      cases r; cases h1; cases h2
      exact pack_out hn hh (h rfl rfl)
end
end Mine

/-! Soundness, 9: attributes and stores (own work). -/
namespace Mine
open PySem PySem.W PySem.Spec PySem.Calls PyProof.Rows PySem.SeqAt

section
variable {K : Frag} {W : Wd} {att : List Str}
theorem FR.length {es : List DictEntry} {fs : List (Nat × V)} (h : FR K W att es fs) : es.length = fs.length := by
  induction h with
  | nil => rfl
  | cons _ _ _ ih => simp [ih]
theorem FR.plain {es : List DictEntry} {fs : List (Nat × V)} (h : FR K W att es fs) : es.any (·.refKey) = false := by
  induction h with
  | nil => rfl
  | cons _ _ _ ih => rw [List.any_cons, ih]; rfl
theorem FR.find {es : List DictEntry} {fs : List (Nat × V)} (nd : ∀ (i j : Nat) (x : Str), att[i]? = some x → att[j]? = some x → i = j) (h : FR K W att es fs) {k : Nat} {x : Str} (hx : att[k]? = some x) :
    match fs.lookup k with
    | some v => ∃ u, getL x es = some (some u) ∧ VR K W u v
    | none => getL x es = some none := by
  have key : match fs.lookup k with
    | some v => ∃ e, es.find? (·.key.isStr x) = some e ∧ VR K W e.val v
    | none => es.find? (·.key.isStr x) = none := by
    induction h with
    | nil => rfl
    | @cons hh y t v j a es fs hy hv _ ih =>
      rw [List.lookup_cons, List.find?_cons]
      by_cases hjk : k = j
      · subst hjk
        rw [hx] at hy; cases hy
        rw [show (k == k) = true from by simp, show (Value.str x t).isStr x = true from by simp [Value.isStr]]
        exact ⟨_, rfl, hv⟩
      · have hne : y ≠ x := fun q => hjk (nd k j x hx (q ▸ hy))
        rw [show (k == j) = false from by simpa using hjk, show (Value.str y t).isStr x = false from by simpa [Value.isStr] using hne]
        exact ih
  unfold getL
  cases hl : fs.lookup k with
  | some v =>
    rw [hl] at key
    obtain ⟨e, h1, h2⟩ := key
    rw [h1]; exact ⟨_, rfl, h2⟩
  | none =>
    rw [hl] at key
    dsimp only at key ⊢
    rw [key, h.plain]; rfl
theorem FR.put {es : List DictEntry} {fs : List (Nat × V)} (nd : ∀ (i j : Nat) (x : Str), att[i]? = some x → att[j]? = some x → i = j) (h : FR K W att es fs) {k : Nat} {x : Str} (hx : att[k]? = some x) {hsh : Int} {t : Tok} {u : Value} {v : V} (hv : VR K W u v) :
    FR K W att (putL x hsh (.str x t) u es) (setF k v fs) := by
  induction h with
  | nil => exact .cons hx hv .nil
  | @cons hh y t' v' j a es fs hy hv' r ih =>
    unfold putL setF
    by_cases hjk : j = k
    · subst hjk
      rw [hx] at hy; cases hy
      rw [if_pos (by simp [Value.isStr]), if_pos (by simp)]
      exact .cons hx hv r
    · have hne : y ≠ x := fun q => hjk (nd j k x (q ▸ hy) hx)
      rw [if_neg (by simpa [Value.isStr] using hne), if_neg (by simpa using hjk)]
      exact .cons hy hv' ih
theorem setF_len (k : Nat) (v : V) (fs : List (Nat × V)) : (setF k v fs).length ≤ fs.length + 1 := by
  induction fs with
  | nil => simp [setF]
  | cons p r ih => obtain ⟨j, u⟩ := p; unfold setF; split <;> simp <;> omega
end

/-! the ledger, one entry changed -/
theorem Upd.skip {d : Addr} {o o' : Obj} {A B B' : List (Addr × Obj)} (h : ∀ p ∈ A, p.1 ≠ d) (u : Upd d o o' B B') : Upd d o o' (A ++ B) (A ++ B') := by
  induction A with
  | nil => exact u
  | cons p r ih => exact .tail (h p (.head _)) (ih fun q hq => h q (.tail _ hq))
theorem Ent.cells_addr {e : Ent} : ∃ b, (e.addr, b) ∈ e.cells := by cases e <;> exact ⟨_, .head _⟩
theorem upd_inst {x dx C : Addr} {es es' : List DictEntry} {n n' : Nat} : ∀ {en : List Ent} {i : Nat}, ((cellsOf en).map (·.1)).Nodup → en[i]? = some (.inst x dx C es n) →
    Upd dx (dictOf es n) (dictOf es' n') (cellsOf en) (cellsOf (en.set i (.inst x dx C es' n')))
  | [], i, _, h => by simp at h
  | e :: r, 0, nd, h => by
    simp at h; subst h
    simp only [cellsOf, Ent.cells, List.cons_append, List.nil_append, List.map_cons, List.nodup_cons, List.mem_cons, not_or] at nd
    refine .tail nd.1.1 (.head fun p hp q => nd.2.1 (List.mem_map.mpr ⟨p, hp, q⟩))
  | e :: r, i + 1, nd, h => by
    simp at h
    simp only [cellsOf, List.map_append, List.nodup_append] at nd
    refine Upd.skip (fun p hp q => ?_) (upd_inst nd.2.1 h)
    exact nd.2.2 p.1 (List.mem_map_of_mem hp) dx (List.mem_map.mpr ⟨_, mem_cellsOf h (.tail _ (.head _)), rfl⟩) q
theorem upd_mls {a : Addr} {vs vs' : List Value} {n n' : Nat} : ∀ {en : List Ent} {i : Nat}, ((cellsOf en).map (·.1)).Nodup → en[i]? = some (.mls a vs n) →
    Upd a (listOf vs.toArray n) (listOf vs'.toArray n') (cellsOf en) (cellsOf (en.set i (.mls a vs' n')))
  | [], i, _, h => by simp at h
  | e :: r, 0, nd, h => by
    simp at h; subst h
    simp only [cellsOf, Ent.cells, List.cons_append, List.nil_append, List.map_cons, List.nodup_cons] at nd
    exact .head fun p hp q => nd.1 (List.mem_map.mpr ⟨p, hp, q⟩)
  | e :: r, i + 1, nd, h => by
    simp at h
    simp only [cellsOf, List.map_append, List.nodup_append] at nd
    refine Upd.skip (fun p hp q => ?_) (upd_mls nd.2.1 h)
    exact nd.2.2 p.1 (List.mem_map_of_mem hp) a (List.mem_map.mpr ⟨_, mem_cellsOf h (.head _), rfl⟩) q
theorem upd_addrs {d : Addr} {o o' : Obj} {l l' : List (Addr × Obj)} (u : Upd d o o' l l') : l'.map (·.1) = l.map (·.1) := by
  induction u with
  | head _ => rfl
  | tail _ _ ih => simp [ih]
section
variable {K : Frag} {att mu : List Str} {T : Tab} {g h h' : Heap} {L : Addr} {m : Str → Option Value} {X : List (Addr × Obj)} {W : Wd} {σ : St}
/-- an entry changes -/
theorem Core.turn {i : Nat} {e e' : Ent} {o : AO} {d : Addr} {ob ob' : Obj} (C : Core K att g L m X W σ h) (he : W.en[i]? = some e) (ha : e'.addr = e.addr) (u : Upd d ob ob' (cellsOf W.en) (cellsOf (W.en.set i e'))) (hd : ∃ b, (d, b) ∈ cellsOf W.en)
    (F : Fr g L h' m) (N : News g L h' (X ++ (W.fz ++ cellsOf (W.en.set i e')))) (r : EntR K W att e' o) : W.le ⟨W.fz, W.en.set i e', W.kn⟩ ∧ Core K att g L m X ⟨W.fz, W.en.set i e', W.kn⟩ (σ.set i o) h' := by
  have hm : (W.en.set i e').map Ent.addr = W.en.map Ent.addr := by
    apply List.ext_getElem?
    intro j
    rw [List.getElem?_map, List.getElem?_map, List.getElem?_set]
    split
    · rename_i hij
      subst hij
      rw [he]
      have : i < W.en.length := (List.getElem?_eq_some_iff.mp he).1
      rw [if_pos this]
      simp [ha]
    · rfl
  have le : W.le ⟨W.fz, W.en.set i e', W.kn⟩ := ⟨fun _ h => h, rfl, [], by simp [hm]⟩
  refine ⟨le, F, N, ⟨fun p hp q hq => ?_, ?_, C.ap.sx⟩, ?_, C.kin, C.knw⟩
  · have : q.1 ∈ (cellsOf W.en).map (·.1) := by rw [← upd_addrs u]; exact List.mem_map_of_mem hq
    obtain ⟨q', h1, h2⟩ := List.mem_map.mp this
    rw [← h2]
    exact C.ap.sep p hp q' h1
  · show ((cellsOf (W.en.set i e')).map (·.1)).Nodup
    rw [upd_addrs u]; exact C.ap.nodup
  · exact (C.sr.set r i).mono le
theorem Core.away (C : Core K att g L m X W σ h) {d : Addr} (hd : ∃ b, (d, b) ∈ cellsOf W.en) : ∀ p ∈ X ++ W.fz, p.1 ≠ d := fun p hp => by
  obtain ⟨b, hb⟩ := hd
  exact C.ap.sep p hp (d, b) hb
theorem Core.upd {i : Nat} {e e' : Ent} {d : Addr} {ob ob' : Obj} (C : Core K att g L m X W σ h) (he : W.en[i]? = some e) (u : Upd d ob ob' (cellsOf W.en) (cellsOf (W.en.set i e'))) (hd : ∃ b, (d, b) ∈ cellsOf W.en) :
    Upd d ob ob' (X ++ W.led) (X ++ (W.fz ++ cellsOf (W.en.set i e'))) := by
  have := Upd.skip (A := X ++ W.fz) (C.away hd) u
  simpa [Wd.led, List.append_assoc] using this
end
section
variable {prog : Program} {w : World} {A : Around} {E : Value → Shared → Prop} {s : Shared}
theorem str_class {x : Str} {u : Tok} {expr : Bool} {Q : Value → Shared → Prop} (h : Q (.type "str") { s with toks := s.toks + 1 }) : wpAny (model prog w) A (getAttr (.str x u) "__class__" expr) Q E s := by
  obtain ⟨hp, g, d, t, os⟩ := s
  have hT : ∀ s' : Shared, s'.TypeIs (.str x u) "str" := fun _ => rfl
  have f2 := F.slot_str_getattribute.lookup
  have f3 := F.slot_str_getattribute.bind (.str x u)
  have f5 := am_str_getattr_none
  unfold getAttr getAttrBy
  repeat (any_goals (first | assumption | wp_step))
  rw [show (expr && onTheHeap (Value.builtin "object.__getattribute__")) = false from by cases expr <;> rfl, if_neg (by decide)]
  repeat (any_goals (first | assumption | wp_step))
  refine class_call_str ?_
  repeat (any_goals (first | assumption | wp_step))
theorem strName_meta : kitMeta "str" = true := by decide +kernel
theorem strName_stub : Manifest.isStub "str" = false := by decide +kernel
theorem strName_fast : ktynFast "str" = "str" := by decide +kernel
theorem strName_len : (Str.ofString "str").length ≤ sizeLine := by decide +kernel
theorem strName_find {K : Frag} : findCls K (.type "str") (.type "type") "__name__" = some (.get (.builtin "getset_descriptor.__get__") (.builtin "type.__name__") (.type "str") (.type "type")) := by kernel_rfl
theorem str_name {K : Frag} {h₀ : Heap} {L : Addr} {m : Str → Option Value} {expr : Bool} {Q : Value → Shared → Prop} (F : Fr h₀ L s.heap m) (X : K.In h₀) (h : ∀ tk u, Q (.str (Str.ofString "str") tk) { s with toks := u }) :
    wpAny (model prog w) A (getAttr (.type "str") "__name__" expr) Q E s := by
  refine ktyn_attr (T := "str") (q := "str") F X strName_meta strName_stub strName_find strName_fast strName_len h
end
section
variable {prog : Program} {w : World} {A : Around} {E : Value → Shared → Prop} {s : Shared} {K : Frag} {att mu : List Str} {T : Tab} {g : Heap} {L : Addr} {m : Str → Option Value} {X : List (Addr × Obj)} {W : Wd} {σ : St} {Q : Value → Shared → Prop} {c : V}
theorem noAttr_of {C : Addr} {x : Str} (e : attrOf K C x = some none) : noAttr K C x = true := by
  unfold attrOf at e
  split at e
  · split at e
    · assumption
    · cases e
  all_goals (repeat' (split at e)) <;> first | (simp only [reduceCtorEq, Option.some.injEq] at e; done) | (rw [Option.map_eq_some_iff] at e; obtain ⟨_, _, q⟩ := e; cases q) | cases e
theorem val_of {C : Addr} {x : Str} {v : V} (e : attrOf K C x = some (some (.val v))) : ∃ a, findIn K (.ref C) x = some (some a) ∧ okVal K C x a = true ∧ reify K 40 a = some v := by
  unfold attrOf at e
  split at e
  · split at e <;> simp at e
  · rename_i a ha
    repeat' (split at e)
    all_goals first
      | (simp only [reduceCtorEq, Option.some.injEq] at e; done)
      | (rename_i hk; rw [Option.map_eq_some_iff] at e; obtain ⟨v', h1, q⟩ := e; cases q; exact ⟨_, ha, hk, h1⟩)
      | cases e
  · rename_i a _ ha
    split at e
    · rename_i hk; rw [Option.map_eq_some_iff] at e; obtain ⟨v', h1, q⟩ := e; cases q; exact ⟨_, ha, hk, h1⟩
    · cases e
  · cases e
theorem meth_of {C : Addr} {x : Str} {f : Nat} (e : attrOf K C x = some (some (.meth f))) : findIn K (.ref C) x = some (some (.ref f)) ∧ okMeth K f = true := by
  unfold attrOf at e
  split at e
  · split at e <;> simp at e
  · rename_i a ha
    repeat' (split at e)
    all_goals first
      | (simp only [reduceCtorEq, Option.some.injEq] at e; done)
      | (rw [Option.map_eq_some_iff] at e; obtain ⟨v', h1, q⟩ := e; cases q)
      | (rename_i hk; cases e; exact ⟨ha, hk⟩)
      | cases e
  · split at e
    · rw [Option.map_eq_some_iff] at e; obtain ⟨v', h1, q⟩ := e; cases q
    · cases e
  · cases e
theorem cm_of {C : Addr} {x : Str} {f : Nat} (e : attrOf K C x = some (some (.cmeth f))) : ∃ p, findIn K (.ref C) x = some (some (.ref p)) ∧ okCm K C x p f = true := by
  unfold attrOf at e
  split at e
  · split at e <;> simp at e
  · rename_i a ha
    repeat' (split at e)
    all_goals first
      | (simp only [reduceCtorEq, Option.some.injEq] at e; done)
      | (rw [Option.map_eq_some_iff] at e; obtain ⟨v', h1, q⟩ := e; cases q)
      | (rename_i hk; cases e; exact ⟨_, ha, hk⟩)
      | cases e
  · split at e
    · rw [Option.map_eq_some_iff] at e; obtain ⟨v', h1, q⟩ := e; cases q
    · cases e
  · cases e
end
theorem plainO_eq {o : Obj} {t : String} {d : Data} (h : plainO o t = true) (hd : o.data = d) : o = { cls := .type t, data := d } := by
  obtain ⟨c, di, da, sl⟩ := o
  simp only [plainO, Bool.and_eq_true, beq_iff_eq, Option.isNone_iff_eq_none] at h
  obtain ⟨⟨h1, h2⟩, h3⟩ := h
  dsimp only at h1 h2 h3 hd
  subst h1 h2 hd
  rw [Array.eq_empty_of_size_eq_zero h3]
mutual
theorem reify_ok {K : Frag} {W : Wd} : ∀ {n : Nat} {v : Value} {a : V}, reify K n v = some a → VR K W v a
  | 0, _, _, e => by cases e
  | n + 1, v, a, e => by
    unfold reify at e
    split at e
    · cases e; exact .none
    · cases e; exact .bool _
    · cases e; exact .int _ _
    · cases e; exact .str _ _
    · cases e; exact .typ _
    · split at e
      · rename_i o ho
        split at e
        · cases e; exact .cls _
        · cases e; exact .cls _
        · rename_i vs k hk
          split at e
          · rename_i hp
            obtain ⟨l, h1, rfl⟩ := Option.map_eq_some_iff.mp e
            exact .tup (n := k) (.inl (by rw [ho, plainO_eq hp hk])) (reifys_ok h1)
          · split at e
            · rename_i hp
              obtain ⟨l, h1, rfl⟩ := Option.map_eq_some_iff.mp e
              exact .lst (n := k) (.inl (by rw [ho, plainO_eq hp hk])) (reifys_ok h1)
            · cases e
        · rename_i vs k hk
          split at e
          · rename_i hp
            obtain ⟨l, h1, rfl⟩ := Option.map_eq_some_iff.mp e
            exact .dct (n := k) (.inl (by rw [ho, plainO_eq hp hk])) (reifyD_ok h1)
          · cases e
        · cases e
      · cases e
    · cases e
theorem reifys_ok {K : Frag} {W : Wd} : ∀ {n : Nat} {v : List Value} {a : List V}, reifys K n v = some a → VRs K W v a
  | 0, _, _, e => by unfold reifys at e; cases e
  | n + 1, [], a, e => by unfold reifys at e; cases e; exact .nil
  | n + 1, v :: r, a, e => by
    unfold reifys at e
    split at e
    · rename_i x l h1 h2
      cases e
      exact .cons (reify_ok h1) (reifys_ok h2)
    · cases e
theorem reifyD_ok {K : Frag} {W : Wd} : ∀ {n : Nat} {v : List DictEntry} {a : List (Int × V)}, reifyD K n v = some a → VRd K W v a
  | 0, _, _, e => by unfold reifyD at e; cases e
  | n + 1, [], a, e => by unfold reifyD at e; cases e; exact .nil
  | n + 1, ⟨hh, k, v⟩ :: r, a, e => by
    unfold reifyD at e
    split at e
    · rename_i i t x l h0 h1 h2
      split at e
      · rename_i hq
        cases e
        dsimp only at h0 hq h1
        subst h0
        rw [beq_iff_eq.mp hq]
        exact .cons (reify_ok h1) (reifyD_ok h2)
      · cases e
    · cases e
end
section
variable {prog : Program} {w : World} {A : Around} {E : Value → Shared → Prop} {s : Shared} {K : Frag} {att mu : List Str} {T : Tab} {g : Heap} {L : Addr} {m : Str → Option Value} {X : List (Addr × Obj)} {W : Wd} {σ : St} {Q : Value → Shared → Prop} {c : V}
theorem VR.handed {v : Value} {a : V} (h : VR K W v a) : handedIn v = true := by cases h <;> rfl
structure OkV (K : Frag) (C : Addr) (x : Str) (a : Value) : Prop where
  get : specialIn K a "__get__" = some none
  handed : handedIn a = true
  ncop : copiedNames.contains x = false
  take : takerIn K C x = some none
  ntyp : findIn K (.type "type") x = some none
  cls : findCls K (.ref C) (.type "type") x = some (.val a)
theorem okV_of {C : Addr} {x : Str} {a : Value} (e : okVal K C x a = true) : OkV K C x a := by
  unfold okVal at e
  simp only [Bool.and_eq_true, beq_iff_eq, Bool.not_eq_true'] at e
  obtain ⟨⟨⟨⟨⟨e1, e2⟩, e3⟩, e4⟩, e5⟩, e6⟩ := e
  refine ⟨e1, e2, e3, e4, e5, ?_⟩
  split at e6
  · rename_i b hb; rw [hb, beq_iff_eq.mp e6]
  · cases e6
theorem op_attr {x : Value} {a : V} {k : Nat} {nm : Str} {expr : Bool} (C : Core K att g L m X W σ s.heap) (Y : TabOk K att mu T) (hk : att[k]? = some nm) (h1 : VR K W x a) (e : getA T σ k a = some c) (h : Ans K att g L m X W σ s c Q) :
    wpAny (model prog w) A (getAttr x nm expr) Q E s := by
  cases a <;> simp only [getA, reduceCtorEq] at e
  · rename_i D
    cases hT : T.cl D with
    | none => rw [hT] at e; simp at e
    | some c' =>
      rw [hT] at e
      simp only [Option.bind_some] at e
      split at e
      · rename_i v hv
        cases e
        have ha := (Y.cl D c' hT).at_ k nm hk
        rw [hv] at ha
        obtain ⟨u, h2, h3, h4⟩ := val_of ha
        have V := okV_of h3
        have O := okC_of (Y.cl D c' hT).ok
        cases h1
        exact cls_value C.kh O.reads V.cls V.handed (h.now C (reify_ok h4) _)
      · cases e
  · rename_i i
    split at e
    · rename_i D fs hσ
      obtain ⟨ad, dx, es, nn, rfl, q1, q2, q3, q4⟩ := C.inst h1 hσ
      have I : InstAt s.heap ad (instObj D dx) D (some (dictOf es nn)) := ⟨q3, rfl, rfl, q4⟩
      split at e
      · rename_i c' hT
        have O := okC_of (Y.cl D c' hT).ok
        have ha := (Y.cl D c' hT).at_ k nm hk
        have hf := q2.find Y.nd hk
        split at e
        · rename_i v hl1 hl2
          cases e
          rw [hl1] at hf; rw [hl2] at ha
          obtain ⟨u, h2, h3⟩ := hf
          have n := noAttr_of ha
          simp only [noAttr, Bool.and_eq_true, beq_iff_eq] at n
          exact get_own C.F C.kin I O.plain O.dict n.1.1.2 rfl h2 h3.handed (h.now C h3 _)
        · rename_i v v' hl1 hl2
          cases e
          rw [hl1] at hf; rw [hl2] at ha
          obtain ⟨u, h2, h3⟩ := hf
          obtain ⟨u', h5, h6, h7⟩ := val_of ha
          have V := okV_of h6
          exact get_own C.F C.kin I O.plain O.dict h5 (by unfold noGet; rw [Option.all_some]; exact beq_iff_eq.mpr V.get) h2 h3.handed (h.now C h3 _)
        · rename_i v hl1 hl2
          cases e
          rw [hl1] at hf; rw [hl2] at ha
          obtain ⟨u', h5, h6, h7⟩ := val_of ha
          have V := okV_of h6
          exact get_cls C.F C.kin I O.plain O.dict h5 V.get V.handed V.ncop hf (h.now C (reify_ok h7) _)
        · cases e
      · cases e
    · cases e
theorem op_clsOf {x : Value} {a : V} {expr : Bool} (C : Core K att g L m X W σ s.heap) (Y : TabOk K att mu T) (h1 : VR K W x a) (e : clsA T σ a = some c) (h : Ans K att g L m X W σ s c Q) :
    wpAny (model prog w) A (getAttr x "__class__" expr) Q E s := by
  cases a <;> simp only [clsA, reduceCtorEq] at e
  case str x =>
    cases e
    cases h1
    exact str_class (h.now C (.typ _) _)
  split at e
  · rename_i D fs hσ
    obtain ⟨ad, dx, es, nn, rfl, q1, q2, q3, q4⟩ := C.inst h1 hσ
    have I : InstAt s.heap ad (instObj D dx) D (some (dictOf es nn)) := ⟨q3, rfl, rfl, q4⟩
    obtain ⟨c', hT, rfl⟩ := Option.map_eq_some_iff.mp e
    have O := okC_of (Y.cl D c' hT).ok
    exact get_class C.F C.kin I O.plain O.dict O.own O.gs O.takes O.mro (h.now C (.cls _) _)
  · cases e
theorem op_nameOf {x : Value} {a : V} {expr : Bool} (C : Core K att g L m X W σ s.heap) (Y : TabOk K att mu T) (h1 : VR K W x a) (e : nameA T a = some c) (h : Ans K att g L m X W σ s c Q) :
    wpAny (model prog w) A (getAttr x "__name__" expr) Q E s := by
  cases a <;> simp only [nameA, reduceCtorEq] at e
  case typ n =>
    split at e
    · rename_i q
      have q := beq_iff_eq.mp q
      subst q
      cases e
      cases h1
      exact str_name C.F C.kin fun tk u => h.now C (.str _ _) _
    · cases e
  obtain ⟨c', hT, rfl⟩ := Option.map_eq_some_iff.mp e
  have O := okC_of (Y.cl _ c' hT).ok
  obtain ⟨u, hu⟩ := (Y.cl _ c' hT).name
  cases h1
  exact name_attr C.kh O.typ O.reads hu O.nam (h.now C (.str _ _) _)
theorem op_has {x : Value} {a : V} {k : Nat} {nm : Str} {t : Tok} {b : Bool} (C : Core K att g L m X W σ s.heap) (Y : TabOk K att mu T) (hh : A.handled = none) (hk : att[k]? = some nm) (h1 : VR K W x a) (e : hasA T k a = some b) (h : Ans K att g L m X W σ s (.bool b) Q) :
    wpAny (model prog w) A (call (.builtin "hasattr") [x, .str nm t]) Q E s := by
  cases a <;> simp only [hasA, reduceCtorEq] at e
  rename_i D
  cases hT : T.cl D with
  | none => rw [hT] at e; simp at e
  | some c' =>
    rw [hT] at e
    dsimp only at e
    have ha := (Y.cl D c' hT).at_ k nm hk
    have O := okC_of (Y.cl D c' hT).ok
    cases h1
    have done : ∀ h' t, (∀ b o, s.heap.get? b = some o → h'.get? b = some o) → Q (.bool b) { s with heap := h', toks := t } := fun h' t k => h _ W h' t (.refl W) (C.grow k) (.bool _)
    split at e
    · rename_i hl
      cases e
      rw [hl] at ha
      have n := noAttr_of ha
      have n' := n
      simp only [noAttr, Bool.and_eq_true, beq_iff_eq] at n'
      exact hasattr_call hh C.kh O.typ n'.1.1.1.2 (.inr ⟨n, rfl⟩) done
    · rename_i v hl
      cases e
      rw [hl] at ha
      obtain ⟨u', h5, h6, h7⟩ := val_of ha
      have V := okV_of h6
      exact hasattr_call hh C.kh O.typ V.ntyp (.inl ⟨_, O.reads, V.cls, V.handed, rfl⟩) done
    · cases e
theorem taker_none {C : Addr} {x : Str} (e : noAttr K C x = true) : takerIn K C x = some none := by
  simp only [noAttr, Bool.and_eq_true, beq_iff_eq] at e
  unfold takerIn
  rw [e.1.1.2]
  rfl
/-- how a change answers -/
def Chg (K : Frag) (att : List Str) (g : Heap) (L : Addr) (m : Str → Option Value) (X : List (Addr × Obj)) (W : Wd) (σ' : St) (s : Shared) (Q : Shared → Prop) : Prop :=
  ∀ W' h' tk, W.le W' → Core K att g L m X W' σ' h' → Q { s with heap := h', toks := tk }
theorem op_setA {x v : Value} {a b : V} {k : Nat} {nm : Str} {σ' : St} {Q : Unit → Shared → Prop} (C : Core K att g L m X W σ s.heap) (Y : TabOk K att mu T) (hk : att[k]? = some nm) (h1 : VR K W x a) (h2 : VR K W v b) (e : setAttrV T σ a k b = some σ') (h : Chg K att g L m X W σ' s (Q ())) :
    wpAny (model prog w) A (setAttr x nm v) Q E s := by
  cases a <;> simp only [setAttrV, reduceCtorEq] at e
  rename_i i
  split at e
  · rename_i D fs hσ
    obtain ⟨ad, dx, es, nn, rfl, q1, q2, q3, q4⟩ := C.inst h1 hσ
    have I : InstAt s.heap ad (instObj D dx) D (some (dictOf es nn)) := ⟨q3, rfl, rfl, q4⟩
    split at e
    · rename_i c' hT
      have O := okC_of (Y.cl D c' hT).ok
      have ha := (Y.cl D c' hT).at_ k nm hk
      have go : takerIn K D nm = some none → fs.length ≤ 900 → σ' = σ.set i (.inst D (setF k b fs)) → wpAny (model prog w) A (setAttr (.ref ad) nm v) Q E s := by
        intro ht hlen hs
        subst hs
        have hf := q2.find Y.nd hk
        have hsome : (getL nm es).isSome = true := by
          cases hl : fs.lookup k with
          | none => rw [hl] at hf; rw [hf]; rfl
          | some v' => rw [hl] at hf; obtain ⟨u, h3, _⟩ := hf; rw [h3]; rfl
        have hp := q2.put (hsh := PyData.keyHash w.params nm) (t := s.toks + 1) Y.nd hk h2
        have u := upd_inst (es' := putL nm (PyData.keyHash w.params nm) (.str nm (s.toks + 1)) v es) (n' := putN nm es nn) C.ap.nodup q1
        have hdm : ∃ b, (dx, b) ∈ cellsOf W.en := ⟨_, mem_cellsOf q1 (.tail _ (.head _))⟩
        refine set_dict C.F C.kin C.N I rfl O.osa O.over ht O.dict hsome rfl (C.upd q1 u hdm) ?_ fun h' F' N' => ?_
        · rw [hp.length]; have := setF_len k b fs; omega
        · obtain ⟨le, C'⟩ := C.turn (e' := .inst ad dx D (putL nm (PyData.keyHash w.params nm) (.str nm (s.toks + 1)) v es) (putN nm es nn)) (o := .inst D (setF k b fs)) q1 rfl u hdm F' N' (.inst hp)
          exact h _ h' _ le C'
      split at e
      · rename_i hl
        rw [hl] at ha
        split at e
        · rename_i hlen; cases e; exact go (taker_none (noAttr_of ha)) (by simpa using hlen) rfl
        · cases e
      · rename_i v' hl
        rw [hl] at ha
        obtain ⟨u', h5, h6, h7⟩ := val_of ha
        split at e
        · rename_i hlen; cases e; exact go (okV_of h6).take (by simpa using hlen) rfl
        · cases e
      · cases e
    · cases e
  · cases e
theorem op_append {x v : Value} {a b : V} {σ' : St} (C : Core K att g L m X W σ s.heap) (h1 : VR K W x a) (h2 : VR K W v b) (e : appendV σ a b = some σ') (h : Chg K att g L m X W σ' s (Q .none)) :
    wpAny (model prog w) A (call (.builtin "list.append") [x, v]) Q E s := by
  cases a <;> simp only [appendV, reduceCtorEq] at e
  rename_i i
  split at e
  · rename_i l hσ
    split at e
    · rename_i hr
      cases e
      obtain ⟨ad, vs, n, rfl, q1, q2, q3⟩ := C.mls h1 hσ
      have u := upd_mls (vs' := vs ++ [v]) (n' := n + 1) C.ap.nodup q1
      have hdm : ∃ b, (ad, b) ∈ cellsOf W.en := ⟨_, mem_cellsOf q1 (.head _)⟩
      have U := C.upd q1 u hdm
      rw [show (vs ++ [v]).toArray = vs.toArray.push v from by simp] at U
      have := room_le hr
      refine append_K C.F C.N U (fun h' F' N' => ?_) (by rw [List.size_toArray, q2.length, sizeLine_eq]; omega)
      obtain ⟨le, C'⟩ := C.turn (e' := .mls ad (vs ++ [v]) (n + 1)) (o := .mls (l ++ [b])) q1 rfl u hdm F' N' (.mls (q2.append (.cons h2 .nil)))
      exact h _ h' s.toks le C'
    · cases e
  · cases e
theorem op_setI {x y v : Value} {a i b : V} {σ' : St} {Q : Unit → Shared → Prop} (C : Core K att g L m X W σ s.heap) (h1 : VR K W x a) (h3 : VR K W y i) (h2 : VR K W v b) (e : setItemV σ a i b = some σ') (h : Chg K att g L m X W σ' s (Q ())) :
    wpAny (model prog w) A (setItem x y v) Q E s := by
  cases a <;> cases i <;> simp only [setItemV, reduceCtorEq] at e
  rename_i o j
  split at e
  · rename_i l hσ
    split at e
    · rename_i hr
      cases e
      simp only [Bool.and_eq_true, decide_eq_true_eq] at hr
      obtain ⟨⟨h0, hj⟩, hr⟩ := hr
      have := room_le hr
      obtain ⟨ad, vs, n, rfl, q1, q2, q3⟩ := C.mls h1 hσ
      cases h3
      have u := upd_mls (vs' := vs.set j.toNat v) (n' := n) C.ap.nodup q1
      have hdm : ∃ b, (ad, b) ∈ cellsOf W.en := ⟨_, mem_cellsOf q1 (.head _)⟩
      have U := C.upd q1 u hdm
      obtain ⟨pre, post, e1, e2, a', b'⟩ := U.split
      have z := C.N
      rw [e1] at z
      have zm := z (ad, listOf vs.toArray n) (List.mem_append.mpr (.inr (.head _)))
      have hlen := q2.length
      refine ki_setAt zm.1 h0 (by omega) (by rw [List.size_toArray]; omega) ?_
      have hset : vs.toArray.setIfInBounds j.toNat v = (vs.set j.toNat v).toArray := by simp
      have N' : News g L (s.heap.update ad (Obj.mapSeq (·.setIfInBounds j.toNat v))) (X ++ (W.fz ++ cellsOf (W.en.set o (.mls ad (vs.set j.toNat v) n)))) := by
        rw [e2]
        exact ki_turn _ z a' b' hset (by rw [if_pos (by simp)])
      obtain ⟨le, C'⟩ := C.turn (e' := .mls ad (vs.set j.toNat v) n) (o := .mls (l.set j.toNat b)) q1 rfl u hdm (C.F.change (Heap.SameBut.update ..) zm.2.1 zm.2.2) N' (.mls (q2.set h2 _))
      exact h _ _ s.toks le C'
    · cases e
  · cases e
end
end Mine

/-! Soundness, 10: the ground below a frame; entering and leaving a call (own work). -/
namespace Mine
open PySem PySem.W PySem.Spec PySem.Calls PyProof.Rows PySem.SeqAt

abbrev frs (l : List Env) : List Addr := l.filterMap (·.frame)
structure Gnd (A₀ : Around) (base : Heap) (outer : List Env) (g : Heap) : Prop where
  below : Below A₀ base outer g
  dicts : KtsDicts (frs outer) g
theorem frs_mem {env : Env} {outer : List Env} {L b : Addr} (hf : env.frame = some L) (hm : b ∈ frs (env :: outer)) : b = L ∨ b ∈ frs outer := by
  unfold frs at hm
  rw [List.filterMap_cons, hf] at hm
  rcases List.mem_cons.mp hm with h | h
  · exact .inl h
  · exact .inr h
theorem frs_head {env : Env} {outer : List Env} {L : Addr} (hf : env.frame = some L) : L ∈ frs (env :: outer) := by
  unfold frs
  rw [List.filterMap_cons, hf]
  exact List.mem_cons_self
theorem frs_tail {env : Env} {outer : List Env} {L b : Addr} (hf : env.frame = some L) (h : b ∈ frs outer) : b ∈ frs (env :: outer) := by
  unfold frs
  rw [List.filterMap_cons, hf]
  exact List.mem_cons_of_mem _ h
section
variable {A₀ A : Around} {base g h : Heap} {outer : List Env} {L : Addr} {m : Str → Option Value} {env : Env} {news : List (Addr × Obj)}
/-- the callee's ground -/
theorem enter {s : Shared} (G : Gnd A₀ base outer g) (F : Fr g L s.heap m) (N : News g L s.heap news) (hA : A.frames = some (env :: outer)) (hf : env.frame = some L) (hke : env.scope.kind = .function) :
    Fr g L (hideAll s.heap (news.map (·.1))) m ∧ Gnd A base (env :: outer) (hideAll s.heap (news.map (·.1))) ∧ g.StaysIn (hideAll s.heap (news.map (·.1))) := by
  obtain ⟨FG, BG, st, _⟩ := groundX (s := s) (R := fun _ _ => True) G.below F N hA hf hke
  refine ⟨FG, ⟨BG, fun b hb => ?_⟩, st⟩
  rcases frs_mem hf hb with rfl | hb
  · obtain ⟨oL, es, ep, hL, hLd, _⟩ := FG.ns
    exact ⟨oL, es, ep, hL, hLd⟩
  · obtain ⟨o, es, n, ho, hd⟩ := G.dicts b hb
    exact ⟨o, es, n, st b o ho, hd⟩
/-- the caller's ground, when the callee's has turned -/
theorem back {g₁ g₁' : Heap} (G : Gnd A₀ base outer g) (F : Fr g L g₁ m) (hf : env.frame = some L) (T : KtsTurn (frs (env :: outer)) g₁ g₁') :
    ∃ g', KtsTurn (frs outer) g g' ∧ Fr g' L g₁' m ∧ Gnd A₀ base outer g' := by
  have nL : g.get? L = none := kts_self F
  obtain ⟨T₁, S₁⟩ := kts_turn_at (h := g₁') (fs := frs outer) (g := g)
    (fun b hb => by
      obtain ⟨_, o, ho', _⟩ := G.below.frames.mem hb
      exact ⟨o, ho'⟩)
    (fun b o e nm => T.other b o (F.keep b o e) (fun q => by
      rcases frs_mem hf q with z | z
      · rw [z, nL] at e; cases e
      · exact nm z))
    (fun b o e hm => by
      obtain ⟨sl', hs'⟩ := T.up (F.keep b o e)
      exact ⟨sl', hs'⟩)
  obtain ⟨oL, es, ep, hL, hLd, hLk, hLf⟩ := F.ns
  obtain ⟨sl, hs⟩ := T.up hL
  refine ⟨_, T₁, ⟨⟨_, es, ep, hs, hLd, hLk, hLf⟩, S₁, by rw [T₁.size]; exact F.above⟩, ⟨⟨G.below.stack, fun b o e => T₁.other b o (G.below.stays b o e) (fun hm => by
    rw [(G.below.frames.mem hm).1] at e
    cases e), G.below.frames.of_keeps fun b o e _ => by
    obtain ⟨sl', hs'⟩ := T₁.up e
    exact ⟨_, hs', rfl⟩⟩, G.dicts.turn T₁⟩⟩
end
section
variable {K : Frag} {att : List Str} {A₀ A : Around} {base g h : Heap} {outer : List Env} {L : Addr} {m : Str → Option Value} {env : Env} {X : List (Addr × Obj)} {W : Wd} {σ : St}
/-- what holds of the ground besides the frames -/
structure GK (K : Frag) (W : Wd) (g : Heap) : Prop where
  kin : K.In g
  knw : ∀ p ∈ W.kn, g.get? p.1 = some p.2 ∧ ∀ es n, p.2.data ≠ .dict es n
theorem GK.stays {g' : Heap} (k : GK K W g) (st : g.StaysIn g') : GK K W g' := ⟨k.kin.keeps st, fun p hp => ⟨st _ _ (k.knw p hp).1, (k.knw p hp).2⟩⟩
theorem Core.gk (C : Core K att g L m X W σ h) : GK K W g := ⟨C.kin, C.knw⟩
theorem GK.turn {g' : Heap} (k : GK K W g) (XB : K.In base) (G : Gnd A₀ base outer g) (G' : Gnd A₀ base outer g') (T : KtsTurn (frs outer) g g') : GK K W g' :=
  ⟨XB.keeps G'.below.stays, fun p hp => ⟨T.other _ _ (k.knw p hp).1 fun hm => by
    obtain ⟨o, es, n, ho, hd⟩ := G.dicts _ hm
    rw [(k.knw p hp).1] at ho
    cases ho
    exact (k.knw p hp).2 es n hd, (k.knw p hp).2⟩⟩
theorem GK.le {W' : Wd} (k : GK K W g) (le : W.le W') : GK K W' g := ⟨k.kin, fun p hp => k.knw p (le.2.1 ▸ hp)⟩
/-- back in the caller -/
theorem Core.back {g₁ g₁' h' : Heap} {L' : Addr} {m' : Str → Option Value} {W' : Wd} {σ' : St} (XB : K.In base) (k : GK K W g) (G : Gnd A₀ base outer g) (F : Fr g L g₁ m) (hf : env.frame = some L) (T : KtsTurn (frs (env :: outer)) g₁ g₁')
    (le : W.le W') (C : Core K att g₁' L' m' X W' σ' h') : ∃ g', KtsTurn (frs outer) g g' ∧ Gnd A₀ base outer g' ∧ Core K att g' L m X W' σ' h' := by
  obtain ⟨g', T', F', G'⟩ := Mine.back G F hf T
  have k' := (k.turn XB G G' T').le le
  have FL := F'.keeps C.F.keep
  obtain ⟨oL, es, ep, hL, _⟩ := F'.ns
  refine ⟨g', T', G', FL, fun p hp => ⟨(C.N p hp).1, fun q => ?_, ?_⟩, C.ap, C.sr, k'.kin, k'.knw⟩
  · have := (C.N p hp).2.2; rw [q, hL] at this; cases this
  · cases q : g'.get? p.1 with
    | none => rfl
    | some o => have := (C.N p hp).2.2; rw [F'.keep _ _ q] at this; cases this
end
end Mine

/-! Soundness, 11: what an evaluation leaves behind (own work). -/
namespace Mine
open PySem PySem.W PySem.Spec PySem.Calls PyProof.Rows PySem.SeqAt

/-- what never changes -/
structure Cf where
  prog : Program
  w : World
  K : Frag
  att : List Str
  mu : List Str
  T : Tab
  p : Program
  loose : List Str
  mean : ExcName → Option Value
  mg : Str → Option Value
  mb : Str → Option Value
  base : Heap
structure CfOk (c : Cf) : Prop where
  kin : c.K.In c.base
  top : Top c.p c.loose c.mean c.mg c.mb c.base
  tab : TabOk c.K c.att c.mu c.T
  len0 : c.att[0]? = some (Str.ofString "__len__")
/-- a frame -/
structure Fm where
  A₀ : Around
  outer : List Env
  env : Env
  L : Addr
  m : Str → Option Value
  its : List (Addr × Obj)
  cells : List (Addr × Obj)
abbrev Fm.X (f : Fm) : List (Addr × Obj) := f.its ++ f.cells
abbrev Cr (c : Cf) (f : Fm) (g : Heap) (W : Wd) (σ : St) (h : Heap) : Prop := Core c.K c.att g f.L f.m f.X W σ h
abbrev Gd (c : Cf) (f : Fm) (g : Heap) : Prop := Gnd f.A₀ c.base f.outer g
abbrev Tn (f : Fm) (g g' : Heap) : Prop := KtsTurn (frs f.outer) g g'

def xcls : X → String
  | .val => "ValueError"
  | .valN => "ValueError"
  | .pack => "struct.error"
  | .packN => "struct.error"
def isN : X → Bool
  | .valN => true
  | .packN => true
  | _ => false
/-- an exception made in this frame -/
def FreshX (h h' : Heap) (ea : Addr) : X → Prop
  | .valN => ∃ vs, Heap.MadeExcOf h h' ea (.type "ValueError") vs
  | .packN => Heap.NewExc h h' ea "struct.error"
  | _ => False
/-- an exception reaches this frame -/
def Exn (c : Cf) (f : Fm) (W : Wd) (g : Heap) (s : Shared) (x : X) (σ' : St) (e : Value) (s' : Shared) : Prop :=
  ∃ ea W' g' m' cells' h' tk, e = .ref ea ∧ s' = { s with heap := h', toks := tk } ∧ W.le W' ∧ Tn f g g' ∧ Gd c f g' ∧ cells'.map (·.1) = f.cells.map (·.1) ∧
    ((∃ h, Core c.K c.att g' f.L m' (f.its ++ cells') W' σ' h ∧ FreshX h h' ea x) ∨
      (isN x = false ∧ ∃ G, RaisedSN c.base G (f.env :: f.outer) ea (.type (xcls x)) ((f.its ++ cells') ++ W'.led) h' ∧ Fr g' f.L G m' ∧ G.UpToSlots h' ∧ Apart (f.its ++ cells') W' ∧ SR c.K W' c.att W'.en σ' ∧ GK c.K W' g'))
/-- what an evaluation leaves: for an expression -/
def After {α β : Type} (c : Cf) (f : Fm) (rel : Wd → β → α → Prop) (W : Wd) (g : Heap) (s : Shared) (r : R α) (Q : β → Shared → Prop) (E : Value → Shared → Prop) : Prop := match r with
  | .ok a σ' => ∀ v W' g' h' tk, W.le W' → Tn f g g' → Gd c f g' → Cr c f g' W' σ' h' → rel W' v a → Q v { s with heap := h', toks := tk }
  | .exc x σ' => ∀ e s', Exn c f W g s x σ' e s' → E e s'
  | .bad => False
section
variable {α β γ δ : Type} {c : Cf} {f : Fm} {rel : Wd → β → α → Prop} {rel' : Wd → δ → γ → Prop} {W W' : Wd} {g g' : Heap} {s : Shared} {Q : β → Shared → Prop} {E : Value → Shared → Prop} {σ : St}
theorem Exn.step {x : X} {σ' : St} {e : Value} {s' : Shared} {h' : Heap} {tk : Nat} (le : W.le W') (t : Tn f g g') (h : Exn c f W' g' { s with heap := h', toks := tk } x σ' e s') : Exn c f W g s x σ' e s' := by
  obtain ⟨ea, W'', g'', m', cells', h'', tk', h1, h2, h3, h4, h5⟩ := h
  exact ⟨ea, W'', g'', m', cells', h'', tk', h1, h2, le.trans h3, t.trans h4, h5⟩
theorem After.step {r : R α} {h' : Heap} {tk : Nat} (h : After c f rel W g s r Q E) (le : W.le W') (t : Tn f g g') : After c f rel W' g' { s with heap := h', toks := tk } r Q E := by
  cases r with
  | ok a σ' => exact fun v W'' g'' h'' tk' le' t' G C hv => h v W'' g'' h'' tk' (le.trans le') (t.trans t') G C hv
  | exc x σ' => exact fun e s' he => h e s' (Exn.step le t he)
  | bad => exact h
theorem After.bind {r : R γ} {k : γ → St → R α} {Q₁ : δ → Shared → Prop} (h : After c f rel W g s (r.bind k) Q E)
    (q : ∀ a σ' v W' g' h' tk, r = .ok a σ' → W.le W' → Tn f g g' → Gd c f g' → Cr c f g' W' σ' h' → rel' W' v a → After c f rel W' g' { s with heap := h', toks := tk } (k a σ') Q E → Q₁ v { s with heap := h', toks := tk }) : After c f rel' W g s r Q₁ E := by
  cases r with
  | ok a σ' => exact fun v W' g' h' tk le t G C hv => q a σ' v W' g' h' tk rfl le t G C hv (After.step h le t)
  | exc x σ' => exact h
  | bad => exact h
theorem After.ans {σ : St} {o : Option V} {Q : Value → Shared → Prop} (G : Gd c f g) (h : After c f (VR c.K) W g s (R.of σ o) Q E) : ∃ a, o = some a ∧ Ans c.K c.att g f.L f.m f.X W σ s a Q := by
  cases o with
  | none => exact h.elim
  | some a => exact ⟨a, rfl, fun v W' h' tk le C hv => h v W' g h' tk le .refl G C hv⟩
theorem After.ansOk {σ : St} {a : V} {Q : Value → Shared → Prop} (G : Gd c f g) (h : After c f (VR c.K) W g s (.ok a σ) Q E) : Ans c.K c.att g f.L f.m f.X W σ s a Q :=
  fun v W' h' tk le C hv => h v W' g h' tk le .refl G C hv
end
/-- room below the recursion limit; the frame on the stack -/
structure Room (A : Around) (n : Nat) (f : Fm) : Prop where
  frames : A.frames = some (f.env :: f.outer)
  frame : f.env.frame = some f.L
  kind : f.env.scope.kind = .function
  depth : A.depth + 2 * n ≤ 900
  units : A.units + 40 * n + 40 ≤ 9000
  handled : A.handled = none
inductive KWs (c : Cf) (W : Wd) : List (Str × Value) → List (Nat × V) → Prop
  | nil : KWs c W [] []
  | cons {x : Str} {v : Value} {k : Nat} {a : V} {l : List (Str × Value)} {r : List (Nat × V)} (hx : c.att[k]? = some x) (hv : VR c.K W v a) (t : KWs c W l r) : KWs c W ((x, v) :: l) ((k, a) :: r)
/-- how a call answers -/
def AfterC (c : Cf) (f : Fm) (W : Wd) (g : Heap) (s : Shared) (r : R V) (R : Result → Shared → Prop) : Prop :=
  After c f (VR c.K) W g s r (fun v s' => R (.ok (.ret v)) s') (fun e s' => R (.error e) s')
/-- calls of functions answer as cf says -/
def CallOk (c : Cf) (n : Nat) (cf : CF) : Prop := ∀ (A : Around) (f : Fm) (fn : Addr) (as : List V) (kw : List (Nat × V)) (σ : St) (W : Wd) (g : Heap) (s : Shared) (pos : List Value) (kws : List (Str × Value)) (R : Result → Shared → Prop),
  Room A n f → Gd c f g → Cr c f g W σ s.heap → VRs c.K W pos as → KWs c W kws kw → AfterC c f W g s (cf fn as kw σ) R → codeAny (model c.prog c.w) A (.call (.ref fn) ⟨pos, kws⟩) R s
end Mine

/-! Soundness, 12: names, constants, rows of expressions (own work). -/
namespace Mine
open PySem PySem.W PySem.Spec PySem.Calls PyProof.Rows PySem.SeqAt

structure RoomB (A : Around) (n : Nat) (f : Fm) : Prop where
  frames : A.frames = some (f.env :: f.outer)
  frame : f.env.frame = some f.L
  kind : f.env.scope.kind = .function
  depth : A.depth + 2 * n + 1 ≤ 900
  units : A.units + 40 * n + 70 ≤ 9000
  handled : A.handled = none
structure Sit (c : Cf) (A : Around) (k : Nat) (f : Fm) (cx : CX) (W : Wd) (ρ : Loc) : Prop where
  eK : cx.K = c.K
  eA : cx.att = c.att
  eM : cx.mu = c.mu
  rd : ∀ (x : Str) (i : Nat) (a : V), cx.slot x = some i → ρ[i]? = some (some a) → ∃ u, VR c.K W u a ∧ ∀ (M : Model) (A' : Around) (E : Value → Shared → Prop) (Q : Value → Shared → Prop) (s : Shared) (pos : Pos) (g : Heap) (W' : Wd) (σ' : St), Cr c f g W' σ' s.heap → Q u s → wpAny M A' (eval (.Name x pos) f.env) Q E s
  glo : f.env.globals = mainGlobals
  bui : f.env.builtins = builtinsNs
  kin : f.env.scope.kind = .function
  kof : ∀ x, cx.sc.names.lookup x = some .globalImplicit → f.env.kindOf x = some .globalImplicit
  units : A.units + 70 ≤ 9000
  hand : A.handled = none
  room : cx.q = false → RoomB A k f
  len : cx.q = false → ρ.length = cx.loc.length
  fenv : cx.q = false → ∃ cn fa cd cl, f.env = envX cn cx.sc f.L fa cd cl ∧ (∀ x, cx.sc.names.lookup x = some .cell → ∃ ca o vo, cl.lookup x = some ca ∧ (ca, o) ∈ f.cells ∧ o.data = .cell vo ∧
    ∀ i v, cx.slot x = some i → ρ[i]? = some (some v) → ∃ u, vo = some u ∧ VR c.K W u v) 
theorem Sit.mono {c : Cf} {A : Around} {k : Nat} {f : Fm} {cx : CX} {W W' : Wd} {ρ : Loc} (h : Sit c A k f cx W ρ) (le : W.le W') : Sit c A k f cx W' ρ :=
  { h with
    rd := fun x i a h1 h2 => let ⟨u, hu, r⟩ := h.rd x i a h1 h2; ⟨u, hu.mono le, r⟩
    fenv := fun ht => let ⟨cn, fa, cd, cl, e, r⟩ := h.fenv ht; ⟨cn, fa, cd, cl, e, fun x hx => let ⟨ca, o, vo, h1, h2, h3, h4⟩ := r x hx; ⟨ca, o, vo, h1, h2, h3, fun i v q1 q2 => let ⟨u, q3, q4⟩ := h4 i v q1 q2; ⟨u, q3, q4.mono le⟩⟩⟩ }
theorem cline : 9900 ≤ cLine := by decide
theorem Sit.line {c : Cf} {A : Around} {k : Nat} {f : Fm} {cx : CX} {W : Wd} {ρ : Loc} (h : Sit c A k f cx W ρ) : A.units < cLine := by have := h.units; have := cline; omega

section
variable {α β : Type} {c : Cf} {f : Fm} {rel : Wd → β → α → Prop} {W : Wd} {g : Heap} {s : Shared} {Q : β → Shared → Prop} {E : Value → Shared → Prop} {σ : St} {a : α} {v : β}
theorem After.done (h : After c f rel W g s (.ok a σ) Q E) (G : Gd c f g) (C : Cr c f g W σ s.heap) (hv : rel W v a) : Q v s := h v W g s.heap s.toks (.refl W) .refl G C hv
theorem After.now (h : After c f rel W g s (.ok a σ) Q E) (G : Gd c f g) (C : Cr c f g W σ s.heap) (hv : rel W v a) (tk : Nat) : Q v { s with toks := tk } := h v W g s.heap tk (.refl W) .refl G C hv
end
/-- an expression answers as the evaluator says -/
def Eok (c : Cf) (cf : CF) (k : Nat) (cx : CX) (e : PySem.Expr) (e' : E) : Prop := ∀ (A : Around) (f : Fm) (W : Wd) (g : Heap) (ρ : Loc) (σ : St) (s : Shared) (Q : Value → Shared → Prop) (E : Value → Shared → Prop),
  Sit c A k f cx W ρ → Gd c f g → Cr c f g W σ s.heap → After c f (VR c.K) W g s (ev c.T cf e' ρ σ) Q E → wpAny (model c.prog c.w) A (eval e f.env) Q E s
def relB (_ : Wd) (b b' : Bool) : Prop := b = b'
def Tok (c : Cf) (cf : CF) (k : Nat) (cx : CX) (e : PySem.Expr) (e' : E) : Prop := ∀ (A : Around) (f : Fm) (W : Wd) (g : Heap) (ρ : Loc) (σ : St) (s : Shared) (Q : Bool → Shared → Prop) (E : Value → Shared → Prop),
  Sit c A k f cx W ρ → Gd c f g → Cr c f g W σ s.heap → After c f relB W g s (evT c.T cf e' ρ σ) Q E → wpAny (model c.prog c.w) A (isTrue e f.env (eval e f.env)) Q E s
def notStar : PySem.Expr → Bool
  | .Starred .. => false
  | _ => true
inductive All2 (P : PySem.Expr → E → Prop) : List PySem.Expr → Es → Prop
  | nil : All2 P [] .nil
  | cons {e : PySem.Expr} {e' : E} {r : List PySem.Expr} {r' : Es} (hs : notStar e = true) (h : P e e') (t : All2 P r r') : All2 P (e :: r) (.cons e' r')
theorem starEach_cons {e : PySem.Expr} {r : List PySem.Expr} {env : Env} (h : notStar e = true) : starEach (e :: r) env = (false, eval e env) :: starEach r env := by
  cases e <;> first | rfl | simp [notStar] at h
theorem All2.mono {P P' : PySem.Expr → E → Prop} {l : List PySem.Expr} {l' : Es} (h : All2 P l l') (k : ∀ e e', P e e' → P' e e') : All2 P' l l' := by
  induction h with
  | nil => exact .nil
  | cons hs h _ ih => exact .cons hs (k _ _ h) ih
theorem All2.star {P : PySem.Expr → E → Prop} {l : List PySem.Expr} {l' : Es} {env : Env} (h : All2 P l l') : starEach l env = l.map fun e => (false, eval e env) := by
  induction h with
  | nil => rfl
  | cons hs _ _ ih => rw [starEach_cons hs, ih]; rfl
theorem compEs_all {n : Nat} {cx : CX} {l : List PySem.Expr} {l' : Es} (h : compEs n cx l = some l') : All2 (fun e e' => ∃ m, m < n ∧ compE m cx e = some e') l l' := by
  induction n generalizing l l' with
  | zero => unfold compEs at h; cases h
  | succ n ih =>
    cases l with
    | nil => unfold compEs at h; cases h; exact .nil
    | cons e r =>
      unfold compEs at h
      split at h
      · cases h
      · rename_i e'' hne
        split at h
        · rename_i x t h1 h2
          cases h
          refine .cons ?_ ⟨n, Nat.lt_succ_self n, h1⟩ ((ih h2).mono fun e e' ⟨m, hm, q⟩ => ⟨m, Nat.lt_succ_of_lt hm, q⟩)
          cases e <;> first | rfl | exact (hne _ _ rfl).elim
        · cases h
section
variable {c : Cf} {cf : CF} {k : Nat} {cx : CX}
theorem spliced_ok {l : List PySem.Expr} {l' : Es} (h : All2 (Eok c cf k cx) l l') (pos : Pos) : ∀ {A : Around} {f : Fm} {W : Wd} {g : Heap} {ρ : Loc} {σ : St} {s : Shared} {Q : List Value → Shared → Prop} {E : Value → Shared → Prop},
    Sit c A k f cx W ρ → Gd c f g → Cr c f g W σ s.heap → After c f (VRs c.K) W g s (evs c.T cf l' ρ σ) Q E → wpAny (model c.prog c.w) A (spliced (backTo pos (starEach l f.env))) Q E s := by
  induction h with
  | nil => intro A f W g ρ σ s Q E S G C h; rw [evs] at h; exact spliced_nil (After.done h G C VRs.nil)
  | @cons e e' r r' hs he ht ih =>
    intro A f W g ρ σ s Q E S G C h
    rw [evs] at h
    rw [starEach_cons hs]
    refine spliced_cons (he A f W g ρ σ s _ E S G C (After.bind (rel' := VR c.K) h fun a σ₁ v W₁ g₁ h₁ tk e1 le tn G₁ C₁ hv h2 => ?_))
    refine ih (S.mono le) G₁ C₁ (After.bind (rel' := VRs c.K) h2 fun as σ₂ vs W₂ g₂ h₂ tk₂ e2 le₂ tn₂ G₂ C₂ hvs h3 => ?_)
    exact After.done h3 G₂ C₂ (VRs.cons (hv.mono le₂) hvs)
theorem backKw_cons {pos : Pos} {x : Option Str} {v : PySem.Expr} {p : Pos} {r : List Keyword} {env : Env} : (backToKw pos (keywordEach (⟨x, v, p⟩ :: r) env)) = (x, do let y ← eval v env; standAt pos; pure y) :: backToKw pos (keywordEach r env) := rfl
inductive AllK (P : PySem.Expr → E → Prop) (att : List Str) : List Keyword → List Nat → Es → Prop
  | nil : AllK P att [] [] .nil
  | cons {x : Str} {i : Nat} {e : PySem.Expr} {p : Pos} {e' : E} {r : List Keyword} {ns : List Nat} {r' : Es} (hx : att[i]? = some x) (h : P e e') (t : AllK P att r ns r') : AllK P att (⟨some x, e, p⟩ :: r) (i :: ns) (.cons e' r')
theorem place_at {x : Str} {l : List Str} {i : Nat} (h : place x l = some i) : l[i]? = some x := by
  induction l generalizing i with
  | nil => cases h
  | cons y r ih =>
    unfold place at h
    split at h
    · rename_i q; cases h; rw [beq_iff_eq.mp q]; rfl
    · obtain ⟨j, h1, rfl⟩ := Option.map_eq_some_iff.mp h
      simpa using ih h1
theorem compK_all {n : Nat} {cx : CX} {l : List Keyword} {ns : List Nat} {l' : Es} (h : compK n cx l = some (ns, l')) : AllK (fun e e' => ∃ m, m < n ∧ compE m cx e = some e') cx.att l ns l' := by
  induction n generalizing l l' ns with
  | zero => unfold compK at h; cases h
  | succ n ih =>
    cases l with
    | nil => unfold compK at h; cases h; exact .nil
    | cons e r =>
      obtain ⟨x, v, p⟩ := e
      cases x with
      | none => unfold compK at h; cases h
      | some x =>
        unfold compK at h
        split at h
        · rename_i i e' ns' t h1 h2 h3
          cases h
          have mono : ∀ {l ns l'}, AllK (fun e e' => ∃ m, m < n ∧ compE m cx e = some e') cx.att l ns l' → AllK (fun e e' => ∃ m, m < n + 1 ∧ compE m cx e = some e') cx.att l ns l' := by
            intro l ns l' q
            induction q with
            | nil => exact .nil
            | cons hx h _ ih => obtain ⟨m, hm, q⟩ := h; exact .cons hx ⟨m, Nat.lt_succ_of_lt hm, q⟩ ih
          exact .cons (place_at h1) ⟨n, Nat.lt_succ_self n, h2⟩ (mono (ih h3))
        · cases h
theorem AllK.mono {P P' : PySem.Expr → E → Prop} {att : List Str} {l : List Keyword} {ns : List Nat} {l' : Es} (h : AllK P att l ns l') (k : ∀ e e', P e e' → P' e e') : AllK P' att l ns l' := by
  induction h with
  | nil => exact .nil
  | cons hx h _ ih => exact .cons hx (k _ _ h) ih
theorem AllK.named {P : PySem.Expr → E → Prop} {att : List Str} {l : List Keyword} {ns : List Nat} {l' : Es} (h : AllK P att l ns l') (pos : Pos) (env : Env) : (backToKw pos (keywordEach l env)).all (·.1.isSome) = true ∧ (backToKw pos (keywordEach l env)).any (·.1.isNone) = false := by
  induction h with
  | nil => exact ⟨rfl, rfl⟩
  | cons _ _ _ ih => rw [backKw_cons]; exact ⟨by rw [List.all_cons, ih.1]; rfl, by rw [List.any_cons, ih.2]; rfl⟩
/-- the values of the keywords, with their names -/
def relK (c : Cf) (names : List Str) (ns : List Nat) (W : Wd) (vs : List Value) (as : List V) : Prop := KWs c W (names.zip vs) (ns.zip as)
theorem evalAll_ok {l : List Keyword} {ns : List Nat} {l' : Es} (h : AllK (Eok c cf k cx) c.att l ns l') (pos : Pos) : ∀ {A : Around} {f : Fm} {W : Wd} {g : Heap} {ρ : Loc} {σ : St} {s : Shared} {Q : List Value → Shared → Prop} {E : Value → Shared → Prop},
    Sit c A k f cx W ρ → Gd c f g → Cr c f g W σ s.heap → After c f (fun W vs as => KWs c W (((backToKw pos (keywordEach l f.env)).filterMap (·.1)).zip vs) (ns.zip as)) W g s (evs c.T cf l' ρ σ) Q E →
    wpAny (model c.prog c.w) A (evalAll ((backToKw pos (keywordEach l f.env)).map (·.2))) Q E s := by
  induction h with
  | nil => intro A f W g ρ σ s Q E S G C h; rw [evs] at h; exact wpAny_pure (After.done h G C KWs.nil)
  | @cons x i e p e' r ns r' hx he ht ih =>
    intro A f W g ρ σ s Q E S G C h
    rw [evs] at h
    rw [backKw_cons] at h ⊢
    show wpAny _ _ (do let v ← (do let y ← eval e f.env; standAt pos; pure y); return v :: (← holding [v] (evalAll _))) _ _ s
    refine wpAny_bind (wpAny_bind (he A f W g ρ σ s _ E S G C (After.bind (rel' := VR c.K) h fun a σ₁ v W₁ g₁ h₁ tk e1 le tn G₁ C₁ hv h2 => ?_)))
    refine wpAny_bind (wpAny_standAt (wpAny_pure ?_))
    refine wpAny_bind (wpAny_holding (ih (S.mono le) G₁ C₁ (After.bind (rel' := fun W vs as => KWs c W (((backToKw pos (keywordEach r f.env)).filterMap (·.1)).zip vs) (ns.zip as)) h2 fun as σ₂ vs W₂ g₂ h₂ tk₂ e2 le₂ tn₂ G₂ C₂ hvs h3 => ?_)))
    refine wpAny_pure (After.done h3 G₂ C₂ ?_)
    exact KWs.cons hx (hv.mono le₂) hvs
end
end Mine

/-! Soundness, 13: new objects, calls of values, methods (own work). -/
namespace Mine
open PySem PySem.W PySem.Spec PySem.Calls PyProof.Rows PySem.SeqAt

section
variable {K : Frag} {att : List Str} {g h h' : Heap} {L : Addr} {m : Str → Option Value} {X : List (Addr × Obj)} {W : Wd} {σ : St}
theorem cellsOf_app (l : List Ent) (e : Ent) : cellsOf (l ++ [e]) = cellsOf l ++ e.cells := by
  induction l with
  | nil => simp [cellsOf]
  | cons a r ih => simp only [List.cons_append, cellsOf, ih, List.append_assoc]
theorem le_snoc {W : Wd} {e : Ent} : W.le ⟨W.fz, W.en ++ [e], W.kn⟩ := ⟨fun _ h => h, rfl, [e.addr], by simp⟩
/-- a new entry of the store -/
theorem Core.more {e : Ent} {o : AO} (C : Core K att g L m X W σ h) (F : Fr g L h' m) (N : News g L h' (e.cells ++ (X ++ W.led))) (fresh : ∀ q ∈ e.cells, ∀ p ∈ X ++ W.led, p.1 ≠ q.1) (nd : (e.cells.map (·.1)).Nodup)
    (r : EntR K ⟨W.fz, W.en ++ [e], W.kn⟩ att e o) : Core K att g L m X ⟨W.fz, W.en ++ [e], W.kn⟩ (σ ++ [o]) h' := by
  refine ⟨F, fun p hp => N p ?_, ⟨fun p hp q hq => ?_, ?_, C.ap.sx⟩, (C.sr.mono le_snoc).snoc r, C.kin, C.knw⟩
  · show p ∈ e.cells ++ (X ++ (W.fz ++ cellsOf W.en))
    have : p ∈ X ++ (W.fz ++ cellsOf (W.en ++ [e])) := hp
    rw [cellsOf_app] at this
    simp only [List.mem_append] at this ⊢
    rcases this with h | h | h | h
    · exact .inr (.inl h)
    · exact .inr (.inr (.inl h))
    · exact .inr (.inr (.inr h))
    · exact .inl h
  · have : q ∈ cellsOf (W.en ++ [e]) := hq
    rw [cellsOf_app] at this
    rcases List.mem_append.mp this with h | h
    · exact C.ap.sep p hp q h
    · refine fresh q h p ?_
      have hp' : p ∈ X ++ W.fz := hp
      rcases List.mem_append.mp hp' with h1 | h1
      · exact List.mem_append_left _ h1
      · exact List.mem_append_right _ (List.mem_append_left _ h1)
  · show ((cellsOf (W.en ++ [e])).map (·.1)).Nodup
    rw [cellsOf_app, List.map_append, List.nodup_append]
    refine ⟨C.ap.nodup, nd, fun a ha b hb => ?_⟩
    obtain ⟨p, hp, rfl⟩ := List.mem_map.mp ha
    obtain ⟨q, hq, rfl⟩ := List.mem_map.mp hb
    exact fresh q hq p (List.mem_append_right _ (List.mem_append_right _ hp))
theorem VR.last {e : Ent} {K : Frag} (C : Core K att g L m X W σ h) : VR K ⟨W.fz, W.en ++ [e], W.kn⟩ (.ref e.addr) (.obj σ.length) := by
  refine .obj ?_
  show ((W.en ++ [e]).map Ent.addr)[σ.length]? = _
  rw [← C.sr.length]
  simp
theorem Core.newInst {x dx D : Addr} (C : Core K att g L m X W σ h) (F : Fr g L h' m) (N : News g L h' ((x, instObj D dx) :: (dx, dictOf [] 0) :: (X ++ W.led))) (lo : ∀ p ∈ X ++ W.led, p.1 < dx) (hx : dx < x) :
    Core K att g L m X ⟨W.fz, W.en ++ [.inst x dx D [] 0], W.kn⟩ (σ ++ [.inst D []]) h' := by
  refine C.more F N (fun q hq p hp => ?_) ?_ (.inst .nil)
  · have := lo p hp
    rcases List.mem_cons.mp hq with rfl | hq
    · exact Nat.ne_of_lt (Nat.lt_trans this hx)
    · rcases List.mem_cons.mp hq with rfl | hq
      · exact Nat.ne_of_lt this
      · cases hq
  · have : ¬ x = dx := fun q => by rw [q] at hx; exact Nat.lt_irrefl _ hx
    simp [Ent.cells, this]
theorem Core.newMls {vs : List Value} {l : List V} (C : Core K att g L m X W σ h) (hv : VRs K W vs l) :
    Core K att g L m X ⟨W.fz, W.en ++ [.mls h.objs.size vs 0], W.kn⟩ (σ ++ [.mls l]) (h.push { cls := .type "list", data := .seq vs.toArray }) := by
  have N' := News.push C.F C.N { cls := .type "list", data := .seq vs.toArray } rfl
  refine C.more (C.F.push _) (fun p hp => N' p hp) (fun q hq p hp => ?_) (by simp [Ent.cells]) (.mls (hv.mono le_snoc))
  rcases List.mem_cons.mp hq with rfl | hq
  · exact Nat.ne_of_lt (C.lt hp)
  · cases hq
end

section
variable {c : Cf} {cf : CF} {k : Nat} {f : Fm} {A : Around} {W : Wd} {g : Heap} {σ : St} {s : Shared} {Q : Value → Shared → Prop} {E : Value → Shared → Prop}
theorem RoomB.room (R : RoomB A k f) {A' : Around} (hf : A'.frames = A.frames) (hd : A'.depth ≤ A.depth + 1) (hu : A'.units ≤ A.units + 30) (hh : A'.handled = A.handled) : Room A' k f :=
  ⟨hf.trans R.frames, R.frame, R.kind, by have := R.depth; omega, by have := R.units; omega, hh.trans R.handled⟩
theorem RoomB.here (R : RoomB A k f) : Room A k f := R.room rfl (Nat.le_succ _) (Nat.le_add_right _ _) rfl
theorem typeCall_under {C : Addr} {rest : List Value} {kw : List (Str × Value)} : (A.under (.builtin "type.__call__" ⟨.ref C :: rest, kw⟩)).frames = A.frames ∧ (A.under (.builtin "type.__call__" ⟨.ref C :: rest, kw⟩)).depth ≤ A.depth + 1 ∧
    (A.under (.builtin "type.__call__" ⟨.ref C :: rest, kw⟩)).units ≤ A.units + 30 ∧ (A.under (.builtin "type.__call__" ⟨.ref C :: rest, kw⟩)).handled = A.handled := by
  have h1 : (Code.builtin "type.__call__" ⟨.ref C :: rest, kw⟩).weight = 1 := by kernel_rfl
  have h2 : (Code.builtin "type.__call__" ⟨.ref C :: rest, kw⟩).cUnits = 1 := by kernel_rfl
  have h3 : (Code.builtin "type.__call__" ⟨.ref C :: rest, kw⟩).envs = [] := by kernel_rfl
  refine ⟨?_, ?_, ?_, rfl⟩
  · unfold Around.under; dsimp only; rw [h3]; rfl
  · unfold Around.under; dsimp only; rw [h1]
    exact Nat.le_refl _
  · unfold Around.under; dsimp only; rw [h2]; omega

theorem fn_keep (co : CfOk c) {a : Nat} {fn : Fn} (h : c.T.fn a = some fn) : keepIn c.K (.ref a) = true := by
  have := co.tab.fn a fn h
  unfold mkFn at this
  unfold keepIn
  dsimp only
  split at this
  · rename_i q; rw [q]
  · cases this
theorem keep_V (co : CfOk c) {x : Value} {a : V} {as : List V} {σ : St} (hx : VR c.K W x a) (h : callV c.T cf a as σ ≠ .bad) : keepIn c.K x = true := by
  cases a <;> simp only [callV, ne_eq, not_true_eq_false] at h
  rename_i a
  cases hx
  cases hf : c.T.fn a with
  | some fn => exact fn_keep co hf
  | none =>
    rw [hf] at h
    cases hc : c.T.cl a with
    | some c' => exact (okC_of (co.tab.cl a c' hc).ok).keep
    | none => rw [hc] at h; exact absurd rfl h
theorem after_ne {α β : Type} {rel : Wd → β → α → Prop} {r : R α} {Q : β → Shared → Prop} (h : After c f rel W g s r Q E) : r ≠ .bad := fun q => by rw [q] at h; exact h
theorem callV_ok (co : CfOk c) (hcf : CallOk c k cf) (R : RoomB A k f) (G : Gd c f g) (C : Cr c f g W σ s.heap) {x : Value} {a : V} {vs : List Value} {as : List V} (hx : VR c.K W x a) (hv : VRs c.K W vs as)
    (h : After c f (VR c.K) W g s (callV c.T cf a as σ) Q E) : wpAny (model c.prog c.w) A (call x vs) Q E s := by
  cases a <;> simp only [callV] at h <;> try exact h.elim
  rename_i a
  cases hx
  split at h
  · exact wpAny_call (hcf A f a as [] σ W g s vs [] _ R.here G C hv .nil h)
  · split at h
    · rename_i c' hc
      have K := co.tab.cl a c' hc
      have O := okC_of K.ok
      split at h
      · rename_i i hi
        rcases K.init with ⟨q, _⟩ | ⟨i', q, hfi, hfn⟩
        · rw [hi] at q; cases q
        · rw [hi] at q; cases q
          refine call_cls C.F C.kin C.N O.makes hfi hfn fun x dx h' F' N' lo hx' => ?_
          have C' := C.newInst F' N' lo hx'
          obtain ⟨u1, u2, u3, u4⟩ := typeCall_under (A := A) (C := a) (rest := vs) (kw := [])
          refine hcf _ f i _ [] _ _ g _ _ [] _ (R.room u1 u2 u3 u4) G C' (.cons (VR.last (e := .inst x dx a [] 0) C) (hv.mono le_snoc)) .nil ?_
          show After c f (VR c.K) _ g { s with heap := h' } _ _ _
          refine After.bind (rel' := VR c.K) (After.step (h' := h') (tk := s.toks) h (W' := ⟨W.fz, W.en ++ [.inst x dx a [] 0], W.kn⟩) le_snoc .refl) fun r σ' v W'' g'' h'' tk e1 le tn G'' C'' hr h2 => ?_
          cases r <;> try exact h2.elim
          cases hr
          refine ⟨rfl, ?_⟩
          exact After.done h2 G'' C'' ((VR.last (e := .inst x dx a [] 0) C).mono le)
      · rename_i hi
        rcases K.init with ⟨_, hfi⟩ | ⟨i', q, _, _⟩
        · split at h
          · cases hv
            refine call_cls0 C.F C.kin C.N O.makes hfi fun x dx h' F' N' lo hx' => ?_
            have C' := C.newInst F' N' lo hx'
            exact h (.ref x) _ g h' s.toks le_snoc .refl G C' (VR.last (e := .inst x dx a [] 0) C)
          · exact h.elim
        · rw [hi] at q; cases q
    · exact h.elim
/-- what a method look-up hands out -/
def Callee (c : Cf) (W : Wd) (fv : Value) (first : List Value) (fn : Nat) (self : V) : Prop :=
  (fv = .ref fn ∧ keepIn c.K (.ref fn) = true ∧ ∃ u, first = [u] ∧ VR c.K W u self) ∨ ∃ q u, fv = .ref q ∧ first = [] ∧ (q, methodObj (.ref fn) u) ∈ W.fz ∧ VR c.K W u self ∧ fnIn c.K fn = true
theorem callee_call (hcf : CallOk c k cf) (R : RoomB A k f) (G : Gd c f g) (C : Cr c f g W σ s.heap) {fv : Value} {first vs : List Value} {fn : Nat} {self : V} {as : List V} {kws : List (Str × Value)} {kw : List (Nat × V)}
    (hc : Callee c W fv first fn self) (hv : VRs c.K W vs as) (hk : KWs c W kws kw) (h : After c f (VR c.K) W g s (cf fn (self :: as) kw σ) Q E) : wpAny (model c.prog c.w) A (call fv (first ++ vs) kws) Q E s := by
  rcases hc with ⟨rfl, _, u, rfl, hu⟩ | ⟨q, u, rfl, rfl, hm, hu, _⟩
  · exact wpAny_call (hcf A f fn _ kw σ W g s _ kws _ R.here G C (.cons hu hv) hk h)
  · exact wpAny_call (method_call (C.fzN hm) (hcf A f fn _ kw σ W g s _ kws _ R.here G C (.cons hu hv) hk h))
theorem callee_mono {W' : Wd} {fv : Value} {first : List Value} {fn : Nat} {self : V} (le : W.le W') (hc : Callee c W fv first fn self) : Callee c W' fv first fn self := by
  rcases hc with ⟨a, b, u, d, hu⟩ | ⟨q, u, a, b, hm, hu, d⟩
  · exact .inl ⟨a, b, u, d, hu.mono le⟩
  · exact .inr ⟨q, u, a, b, le.1 _ hm, hu.mono le, d⟩
structure OkCm (K : Frag) (C : Addr) (x : Str) (p f : Addr) : Prop where
  get : specialIn K (.ref p) "__get__" = some (some (.builtin "classmethod.__get__"))
  take : takesIn K (.ref p) = some false
  fn : fnIn K f = true
  keep : keepIn K (.ref f) = true
  ncop : copiedNames.contains x = false
  typ : (typeIn K (.ref p)).any (fun t => t != .type "function" && t != .type "method_descriptor" && t != .type "wrapper_descriptor") = true
  rec_ : ∃ rest, recIn K p "classmethod" = some (.ref f :: rest)
  cls : findCls K (.ref C) (.type "type") x = some (.get (.builtin "classmethod.__get__") (.ref p) .none (.ref C))
theorem okCm_of {K : Frag} {C : Addr} {x : Str} {p f : Addr} (e : okCm K C x p f = true) : OkCm K C x p f := by
  unfold okCm at e
  simp only [Bool.and_eq_true, beq_iff_eq, Bool.not_eq_true'] at e
  obtain ⟨⟨⟨⟨⟨⟨⟨e1, e2⟩, e3⟩, e4⟩, e5⟩, e6⟩, e7⟩, e8⟩ := e
  refine ⟨e1, e2, e3, e4, e5, e6, ?_, ?_⟩
  · split at e7
    · rename_i g r h; rw [beq_iff_eq.mp e7] at h; exact ⟨r, h⟩
    · cases e7
  · split at e8
    · rename_i g q D h
      simp only [Bool.and_eq_true, beq_iff_eq] at e8
      obtain ⟨⟨rfl, rfl⟩, rfl⟩ := e8
      exact h
    · cases e8
theorem findObj_cm {K : Frag} {C : Addr} {x : Str} {p f : Addr} {od : Obj} (O : OkC K C) (M : OkCm K C x p f) (ha : findIn K (.ref C) x = some (some (.ref p))) (hl : lookIn x od = some none) :
    findObj K C (some od) x = some (.bind (.builtin "classmethod.__get__") (.ref p)) := by
  obtain ⟨cd, hc', hd⟩ := any_some O.dict
  unfold findObj
  have ho : PySem.W.ownOf cd (some od) x = some none := by unfold PySem.W.ownOf; rw [if_pos hd]; exact hl
  rw [hc', Option.bind_some, ha, Option.bind_some]
  simp only [M.get, M.take, Option.bind_some, ho, M.ncop, Bool.false_and, Bool.false_eq_true, if_false]
theorem findM_ok (co : CfOk c) (G : Gd c f g) (C : Cr c f g W σ s.heap) {x : Value} {a : V} {i : Nat} {nm : Str} {pl : Sem Bool} {fn : Nat} {self : V} {Q : Value × List Value → Shared → Prop} (hk : c.att[i]? = some nm) (hx : VR c.K W x a)
    (e : findM c.T σ i a = some (fn, self)) (h : ∀ fv first W' h' tk, W.le W' → Cr c f g W' σ h' → Callee c W' fv first fn self → Q (fv, first) { s with heap := h', toks := tk }) : wpAny (model c.prog c.w) A (getMethod x nm pl) Q E s := by
  cases a <;> simp only [findM, reduceCtorEq] at e
  · rename_i D
    cases hT : c.T.cl D with
    | none => rw [hT] at e; simp at e
    | some c' =>
      rw [hT] at e
      simp only [Option.bind_some] at e
      split at e
      · rename_i fn' hl
        cases e
        have ha := (co.tab.cl D c' hT).at_ i nm hk
        rw [hl] at ha
        obtain ⟨p, h2, h3⟩ := cm_of ha
        have M := okCm_of h3
        have O := okC_of (co.tab.cl D c' hT).ok
        obtain ⟨rest, hr⟩ := M.rec_
        cases hx
        refine method_of_cls C.F C.kin O.tga (cls_bind C.kh O.reads M.cls (wpAny_call (cm_get (s := { s with toks := s.toks + 1 }) C.kh hr (handed_on rfl ?_))))
        exact h _ [] _ _ (s.toks + 1) le_cons (C.pushF (methodObj (.ref fn) (.ref D)) rfl) (.inr ⟨_, _, rfl, rfl, .head _, .cls D, M.fn⟩)
      · cases e
  · rename_i o
    split at e
    · rename_i D fs hσ
      obtain ⟨ad, dx, es, nn, rfl, q1, q2, q3, q4⟩ := C.inst hx hσ
      have I : InstAt s.heap ad (instObj D dx) D (some (dictOf es nn)) := ⟨q3, rfl, rfl, q4⟩
      have hf := q2.find co.tab.nd hk
      split at e
      · cases e
      · rename_i hl1
        rw [hl1] at hf
        cases hT : c.T.cl D with
        | none => rw [hT] at e; simp at e
        | some c' =>
          rw [hT] at e
          simp only [Option.bind_some] at e
          have O := okC_of (co.tab.cl D c' hT).ok
          have ha := (co.tab.cl D c' hT).at_ i nm hk
          split at e
          · rename_i fn' hl
            cases e
            rw [hl] at ha
            obtain ⟨p, h2, h3⟩ := cm_of ha
            have M := okCm_of h3
            obtain ⟨rest, hr⟩ := M.rec_
            refine method_usual C.kh I (plainGet_of (name := nm) O.plain).1 (plainGet_of (name := nm) O.plain).2 h2 (by rw [Option.all_some]; exact M.typ) ?_
            refine get_bind C.kh I (plainGet_of (name := nm) O.plain).1 (findObj_cm O M h2 hf) (plainGet_of (name := nm) O.plain).2 (wpAny_call (cm_get (s := { s with toks := s.toks + 1 }) C.kh hr (handed_on rfl ?_)))
            exact h _ [] _ _ (s.toks + 1) le_cons (C.pushF (methodObj (.ref fn) (.ref D)) rfl) (.inr ⟨_, _, rfl, rfl, .head _, .cls D, M.fn⟩)
          · rename_i fn' hl
            cases e
            rw [hl] at ha
            obtain ⟨h2, h3⟩ := meth_of ha
            unfold okMeth at h3
            simp only [Bool.and_eq_true] at h3
            refine method_inst C.F C.kin I O.plain h2 h3.1.1 hf ?_
            exact h _ _ W s.heap s.toks (.refl W) C (.inl ⟨rfl, h3.2, _, rfl, hx⟩)
          · cases e
    · cases e
end
end Mine

/-! Soundness, 14: expressions, case by case (own work). -/
namespace Mine
open PySem PySem.W PySem.Spec PySem.Calls PyProof.Rows PySem.SeqAt

section
variable {c : Cf} {cf : CF} {k : Nat} {cx : CX} {f : Fm} {A : Around} {W : Wd} {g : Heap} {ρ : Loc} {σ : St} {s : Shared} {Q : Value → Shared → Prop} {E : Value → Shared → Prop}
/-! arguments -/
theorem evalArgs_ok {α β : Type} {rel : Wd → β → α → Prop} {l : List PySem.Expr} {l' : Es} {kl : List Keyword} {ns : List Nat} {kl' : Es} {kont : List V → List V → St → R α} {fv : Value} {pos : Pos} {Qf : β → Shared → Prop} {Q₁ : Args → Shared → Prop}
    (hl : All2 (Eok c cf k cx) l l') (hk : AllK (Eok c cf k cx) c.att kl ns kl') (S : Sit c A k f cx W ρ) (G : Gd c f g) (C : Cr c f g W σ s.heap)
    (h : After c f rel W g s ((evs c.T cf l' ρ σ).bind fun as σ => (evs c.T cf kl' ρ σ).bind fun ks σ => kont as ks σ) Qf E)
    (q : ∀ as ks σ' vs kws W' g' h' tk, W.le W' → Tn f g g' → Gd c f g' → Cr c f g' W' σ' h' → VRs c.K W' vs as → KWs c W' kws (ns.zip ks) → After c f rel W' g' { s with heap := h', toks := tk } (kont as ks σ') Qf E → Q₁ ⟨vs, kws⟩ { s with heap := h', toks := tk }) :
    wpAny (model c.prog c.w) A (evalArgs fv true (backTo pos (starEach l f.env)) (backToKw pos (keywordEach kl f.env))) Q₁ E s := by
  obtain ⟨hn, _⟩ := hk.named pos f.env
  have main : ∀ {vs₀ : List Value} {as : List V} {σ₁ : St} {W₁ : Wd} {g₁ : Heap} {h₁ : Heap} {tk : Nat}, W.le W₁ → Tn f g g₁ → Gd c f g₁ → Cr c f g₁ W₁ σ₁ h₁ → VRs c.K W₁ vs₀ as →
      After c f rel W₁ g₁ { s with heap := h₁, toks := tk } ((evs c.T cf kl' ρ σ₁).bind fun ks σ => kont as ks σ) Qf E →
      wpAny (model c.prog c.w) A (evalAll ((backToKw pos (keywordEach kl f.env)).map (·.2))) (fun ks s₂ => Q₁ ⟨vs₀, ((backToKw pos (keywordEach kl f.env)).filterMap (·.1)).zip ks⟩ s₂) E { s with heap := h₁, toks := tk } := by
    intro vs₀ as σ₁ W₁ g₁ h₁ tk le tn G₁ C₁ hv h2
    refine evalAll_ok hk pos (S.mono le) G₁ C₁ (After.bind (rel' := fun W vs as => KWs c W (((backToKw pos (keywordEach kl f.env)).filterMap (·.1)).zip vs) (ns.zip as)) h2 fun ks σ₂ kvs W₂ g₂ h₂ tk₂ e2 le₂ tn₂ G₂ C₂ hks h3 => ?_)
    exact q as ks σ₂ vs₀ _ W₂ g₂ h₂ tk₂ (le.trans le₂) (tn.trans tn₂) G₂ C₂ (hv.mono le₂) hks h3
  cases hl with
  | nil =>
    rw [evs] at h
    exact evalArgs_kw_nil hn (main (.refl W) .refl G C .nil (After.step (h' := s.heap) (tk := s.toks) h (.refl W) .refl))
  | @cons e e' r r' hs he ht =>
    have hl' : All2 (Eok c cf k cx) (e :: r) (.cons e' r') := .cons hs he ht
    have sp := spliced_ok hl' pos (Q := fun vs s₁ => wpAny (model c.prog c.w) A (evalAll ((backToKw pos (keywordEach kl f.env)).map (·.2))) (fun ks s₂ => Q₁ ⟨vs, ((backToKw pos (keywordEach kl f.env)).filterMap (·.1)).zip ks⟩ s₂) E s₁) S G C
      (After.bind (rel' := VRs c.K) h fun as σ₁ vs W₁ g₁ h₁ tk e1 le tn G₁ C₁ hv h2 => main le tn G₁ C₁ hv h2)
    rw [starEach_cons hs] at sp ⊢
    exact evalArgs_kw hn sp
theorem starPlain {P : PySem.Expr → Mine.E → Prop} {l : List PySem.Expr} {l' : Es} (hl : All2 P l l') (pos : Pos) (env : Env) : (backTo pos (starEach l env)).any (·.1) = false ∧ (backTo pos (starEach l env)).all (fun x => !x.1) = true ∧ (backTo pos (starEach l env)).length = l.length := by
  rw [hl.star]
  unfold backTo
  refine ⟨?_, ?_, by simp⟩
  · rw [List.any_map, List.any_map, List.any_eq_false]; intro x _; simp
  · rw [List.all_map, List.all_map, List.all_eq_true]; intro x _; simp
/-! the callee by its value -/
theorem call_ok (co : CfOk c) (hcf : CallOk c k cf) {l : List PySem.Expr} {l' : Es} (hl : All2 (Eok c cf k cx) l l') (ht : cx.q = false) (S : Sit c A k f cx W ρ) (G : Gd c f g) (C : Cr c f g W σ s.heap) {x : Value} {a : V} {pos : Pos} (hx : VR c.K W x a)
    (h : After c f (VR c.K) W g s ((evs c.T cf l' ρ σ).bind fun vs σ => callV c.T cf a vs σ) Q E) : wpAny (model c.prog c.w) A (callWith pos x [] (backTo pos (starEach l f.env)) (backToKw pos (keywordEach [] f.env))) Q E s := by
  obtain ⟨p1, _, _⟩ := starPlain hl pos f.env
  refine callWith_of (P := fun h => c.K.In h ∧ keepIn c.K x = true) (by rw [p1]; rfl) (fun h X => keeps_K X.2 h X.1) ?_
  refine evalArgs_ok (kont := fun as _ σ => callV c.T cf a as σ) (ns := []) hl (.nil) S G C (by simpa [evs, R.bind] using h) fun as ks σ' vs kws W' g' h' tk le tn G' C' hv hkw h2 => ⟨⟨C'.kh, keep_V co (hx.mono le) (after_ne h2)⟩, ?_⟩
  cases hkw
  exact callV_ok co hcf (S.room ht) G' C' (hx.mono le) hv h2

/-! methods -/
theorem base_plain {o : PySem.Expr} {nm : Str} {env : Env} {whole : Sem Value} (h : notSuper o = true) : attributeBase o nm env whole = whole := by
  unfold attributeBase
  split
  · rename_i id p pos
    simp only [notSuper, Bool.not_eq_true'] at h
    rw [if_pos]
    simp only [Bool.or_eq_true, bne_iff_ne, ne_eq]
    exact .inl (.inl (.inl (by simpa using h)))
  · rfl
theorem methodCall_ok (co : CfOk c) (hcf : CallOk c k cf) {l : List PySem.Expr} {l' : Es} {kl : List Keyword} {ns : List Nat} {kl' : Es} (hl : All2 (Eok c cf k cx) l l') (hk : AllK (Eok c cf k cx) c.att kl ns kl') (ht : cx.q = false) (S : Sit c A k f cx W ρ) (G : Gd c f g) (C : Cr c f g W σ s.heap)
    {o : PySem.Expr} {x : Value} {a : V} {i : Nat} {nm : Str} {apos pos : Pos} (hi : c.att[i]? = some nm) (hline : (apos.endLine == pos.line) = true) (hn : l.length + kl.length < 20) (hx : VR c.K W x a)
    (h : After c f (VR c.K) W g s (match findM c.T σ i a with
      | some (fn, self) => (evs c.T cf l' ρ σ).bind fun as σ => (evs c.T cf kl' ρ σ).bind fun kvs σ => cf fn (self :: as) (ns.zip kvs) σ
      | none => .bad) Q E) : wpAny (model c.prog c.w) A (methodCall o nm apos pos f.env x (l.length + kl.length) (backTo pos (starEach l f.env)) (backToKw pos (keywordEach kl f.env))) Q E s := by
  obtain ⟨p1, p2, p3⟩ := starPlain hl pos f.env
  obtain ⟨n1, n2⟩ := hk.named pos f.env
  split at h
  · rename_i fn self he
    have few : methodCallForm (l.length + kl.length) (backTo pos (starEach l f.env)) (backToKw pos (keywordEach kl f.env)) = true := by
      unfold methodCallForm
      rw [p2, n1]
      simp only [Bool.true_and, decide_eq_true_eq]
      split <;> omega
    unfold methodCall
    refine wpAny_bind (wpAny_holding ?_)
    rw [few]
    unfold calleeOf
    rw [if_pos rfl]
    refine findM_ok co G C hi hx he fun fv first W₁ h₁ tk le C₁ hc => ?_
    dsimp only
    refine wpAny_bind ?_
    unfold methodCallPos
    rw [if_pos (by rw [hline]; rfl)]
    refine wpAny_pure ?_
    have h1 := After.step (h' := h₁) (tk := tk) (g' := g) h le .refl
    have ends : ∀ as ks σ' vs kws W' g' h' tk', W₁.le W' → Tn f g g' → Gd c f g' → Cr c f g' W' σ' h' → VRs c.K W' vs as → KWs c W' kws (ns.zip ks) → After c f (VR c.K) W' g' { s with heap := h', toks := tk' } (cf fn (self :: as) (ns.zip ks) σ') Q E →
        wpAny (model c.prog c.w) A (call fv (first ++ vs) kws) Q E { s with heap := h', toks := tk' } := fun as ks σ' vs kws W' g' h' tk' le' tn' G' C' hv hkw h2 => callee_call hcf (S.room ht) G' C' (callee_mono le' hc) hv hkw h2
    rcases hc with ⟨rfl, hkp, u, rfl, hu⟩ | ⟨q, u, rfl, rfl, hm, hu, hfn⟩
    · refine callWith_of (P := fun h => c.K.In h) (by rw [p1, n2]; rfl) (keeps_K hkp) ?_
      exact evalArgs_ok (kont := fun as kvs σ => cf fn (self :: as) (ns.zip kvs) σ) hl hk (S.mono le) G C₁ h1 fun as ks σ' vs kws W' g' h' tk' le' tn' G' C' hv hkw h2 => ⟨C'.kh, ends as ks σ' vs kws W' g' h' tk' le' tn' G' C' hv hkw h2⟩
    · refine callWith_of (P := fun h => MethP c.K q fn u h) (by rw [p1, n2]; rfl) (keeps_M hfn) ?_
      exact evalArgs_ok (kont := fun as kvs σ => cf fn (self :: as) (ns.zip kvs) σ) hl hk (S.mono le) G C₁ h1 fun as ks σ' vs kws W' g' h' tk' le' tn' G' C' hv hkw h2 => ⟨⟨C'.fzN (le'.1 _ hm), C'.kh⟩, ends as ks σ' vs kws W' g' h' tk' le' tn' G' C' hv hkw h2⟩
  · exact h.elim
/-! builtins -/
theorem fresh_pack (G : Gd c f g) (C : Cr c f g W σ s.heap) {h' : Heap} {e : Addr} {tk : Nat} (hx : Heap.NewExc s.heap h' e "struct.error") : Exn c f W g s .packN σ (.ref e) { s with heap := h', toks := tk } :=
  ⟨e, W, g, f.m, f.cells, h', tk, rfl, rfl, .refl W, .refl, G, rfl, .inl ⟨s.heap, C, hx⟩⟩
theorem blt_keep {v : Value} {b : Bl} {h : Heap} (hb : blOf v = some b) : ∃ k, (k = Keeper.frame ∨ k = Keeper.machine ∨ k = Keeper.boundFrame) ∧ Looks (model c.prog c.w) h (keeperOf v) k := by
  refine ⟨.machine, .inr (.inl rfl), ?_⟩
  unfold blOf at hb
  split at hb <;> first | exact .now | cases hb
theorem of_st {α : Type} {σ σ' : St} {o : Option α} {a : α} (e : R.of σ o = .ok a σ') : σ' = σ := by cases o <;> cases e <;> rfl
theorem vblt_st {T : Tab} {b : Bl} {as : List V} {a : V} {σ' : St} (e : vblt T σ b as = .ok a σ') : σ' = σ := by
  unfold vblt at e
  repeat' (split at e)
  all_goals first
    | exact of_st e
    | (cases e; rfl)
    | (simp only [reduceCtorEq] at e; done)
theorem vblt_ok (co : CfOk c) (S : Sit c A k f cx W ρ) (G : Gd c f g) (C : Cr c f g W σ s.heap) {v : Value} {b : Bl} {vs : List Value} {as : List V} (hb : blOf v = some b) (hv : VRs c.K W vs as)
    (h : After c f (VR c.K) W g s (vblt c.T σ b as) Q E) : wpAny (model c.prog c.w) A (call v vs) Q E s := by
  cases hr : vblt c.T σ b as with
  | ok a σ' =>
    rw [hr] at h
    obtain rfl : σ' = σ := vblt_st hr
    exact op_blt C co.tab S.hand hb hv hr (After.ansOk G h)
  | exc x σ' =>
    rw [hr] at h
    obtain ⟨_, rfl, rfl, _⟩ := vblt_exc hr
    exact op_blt_exc S.hand hb hv hr fun _ _ h' e tk hx => h _ _ (fresh_pack G C hx)
  | bad => rw [hr] at h; exact h.elim
theorem len_ok (co : CfOk c) (hcf : CallOk c k cf) (R : RoomB A k f) (G : Gd c f g) (C : Cr c f g W σ s.heap) {x : Value} {a : V} {r : Mine.R V} (hx : VR c.K W x a) (e : lenObj c.T cf σ a = some r)
    (h : After c f (VR c.K) W g s r Q E) : wpAny (model c.prog c.w) A (call (.builtin "len") [x]) Q E s := by
  cases a <;> simp only [lenObj, reduceCtorEq] at e
  split at e
  · rename_i D fs hσ
    obtain ⟨ad, dx, es, nn, rfl, q1, q2, q3, q4⟩ := C.inst hx hσ
    have I : InstAt s.heap ad (instObj D dx) D (some (dictOf es nn)) := ⟨q3, rfl, rfl, q4⟩
    cases hT : c.T.cl D with
    | none => rw [hT] at e; cases e; exact h.elim
    | some c' =>
      rw [hT] at e
      simp only [Option.bind_some] at e
      split at e
      · rename_i fn hl
        cases e
        have ha := (co.tab.cl D c' hT).at_ 0 _ co.len0
        rw [hl] at ha
        obtain ⟨h2, h3⟩ := meth_of ha
        unfold okMeth at h3
        simp only [Bool.and_eq_true] at h3
        refine len_K C.F C.kin I h2 h3.1.1 (wpAny_call (hcf _ f fn _ [] σ W g s _ [] _ (R.room rfl (Nat.le_succ _) (by show A.units + 1 ≤ _; omega) rfl) G C (.cons hx .nil) .nil ?_))
        refine After.bind (rel' := VR c.K) h fun r σ' v W'' g'' h'' tk e1 le tn G'' C'' hr h4 => ?_
        cases r <;> try exact h4.elim
        cases hr
        rename_i n t
        dsimp only at h4
        split at h4
        · rename_i hn
          simp only [Bool.and_eq_true, decide_eq_true_eq] at hn
          exact ⟨⟨hn.1, by omega⟩, After.now h4 G'' C'' (.int _ _) _⟩
        · exact h4.elim
      · cases e; exact h.elim
  · cases e
end
end Mine

/-! Soundness, 15: list comprehensions (own work). -/
namespace Mine
open PySem PySem.W PySem.Spec PySem.Calls PyProof.Rows PySem.SeqAt
def closL (env : Env) : List (Str × NameKind) → List (Str × Addr) → List (Str × Addr)
  | [], cs => cs
  | (n, k) :: r, cs => if k == .free then closL env r ((n, (env.cells.lookup n).getD 0) :: cs) else closL env r cs
theorem closure_eq {sc : Scope} {env : Env} (h : ∀ n ∈ sc.names, n.2 = .free → (env.cells.lookup n.1).isSome = true) : closureFor sc env = pure (closL env sc.names []) := by
  unfold closureFor
  have key : ∀ (l : List (Str × NameKind)) (cs : List (Str × Addr)), (∀ n ∈ l, n.2 = .free → (env.cells.lookup n.1).isSome = true) →
      (forIn l cs (fun x r => (do if (x.2 == NameKind.free) = true then do let a ← cellOf env x.1; pure (ForInStep.yield ((x.1, a) :: r)) else pure (ForInStep.yield r) : Sem (ForInStep (List (Str × Addr)))))) = pure (closL env l cs) := by
    intro l
    induction l with
    | nil => intro cs _; rfl
    | cons p r ih =>
      intro cs h
      obtain ⟨n, k⟩ := p
      rw [List.forIn_cons]
      unfold closL
      by_cases hk : (k == NameKind.free) = true
      · have := h (n, k) (.head _) (beq_iff_eq.mp hk)
        obtain ⟨a, ha⟩ := Option.isSome_iff_exists.mp this
        dsimp only at ha ⊢
        rw [if_pos hk, if_pos hk]
        unfold cellOf
        rw [ha]
        exact ih _ fun q hq => h q (.tail _ hq)
      · dsimp only
        rw [if_neg hk, if_neg hk]
        exact ih _ fun q hq => h q (.tail _ hq)
  have := key sc.names [] h
  exact (congrArg (fun z : Sem (List (Str × Addr)) => z >>= fun s => pure s) this).trans rfl
theorem closL_mem {env : Env} {x : Str} {ca : Addr} (hx : env.cells.lookup x = some ca) : ∀ (l : List (Str × NameKind)) (cs : List (Str × Addr)), (∀ y a, cs.lookup y = some a → y = x → a = ca) → ((x, NameKind.free) ∈ l ∨ cs.lookup x = some ca) → (closL env l cs).lookup x = some ca
  | [], cs, _, h => h.elim (fun q => nomatch q) _root_.id
  | (n, k) :: r, cs, hc, h => by
    unfold closL
    split
    · rename_i hk
      have hk := beq_iff_eq.mp hk
      subst hk
      refine closL_mem hx r _ (fun y a hy hyx => ?_) ?_
      · rw [List.lookup_cons] at hy
        split at hy
        · rename_i q
          have q := beq_iff_eq.mp q
          subst q hyx
          rw [hx] at hy
          cases hy; rfl
        · exact hc y a hy hyx
      · by_cases hn : n = x
        · subst hn
          refine .inr ?_
          rw [List.lookup_cons, show (n == n) = true from by simp, hx]; rfl
        · rcases h with h | h
          · rcases List.mem_cons.mp h with q | q
            · cases q; exact absurd rfl hn
            · exact .inl q
          · refine .inr ?_
            rw [List.lookup_cons, show (x == n) = false from by simpa using fun q => hn q.symm]
            exact h
    · rename_i hk
      refine closL_mem hx r cs hc ?_
      rcases h with h | h
      · rcases List.mem_cons.mp h with q | q
        · cases q; exact absurd rfl hk
        · exact .inl q
      · exact .inr h
theorem relabel_other {env : Env} {x : Str} {kd : NameKind} (hk : kd ≠ .free) : ∀ {names : List (Str × NameKind)}, names.lookup x = some kd →
    (names.map fun (n, k) => if (k == NameKind.free && env.scope.kind == .function && env.kindOf n == some .cell) then (n, NameKind.cell) else (n, k)).lookup x = some kd
  | [], h => by simp at h
  | (n, k) :: r, h => by
    rw [List.lookup_cons] at h
    rw [List.map_cons, List.lookup_cons]
    split at h
    · rename_i q
      cases h
      have hf : (kd == NameKind.free) = false := by simpa using hk
      dsimp only
      rw [hf, Bool.false_and, Bool.false_and, if_neg (by decide)]
      dsimp only
      rw [q]
    · rename_i q
      have ih := relabel_other (env := env) (x := x) hk (names := r) h
      dsimp only
      by_cases hb : (k == NameKind.free && env.scope.kind == .function && env.kindOf n == some .cell) = true
      · rw [if_pos hb]; dsimp only; rw [q]; exact ih
      · rw [if_neg hb]; dsimp only; rw [q]; exact ih
theorem relabel_free {env : Env} {x : Str} (hf : env.scope.kind = .function) (hc : env.kindOf x = some .cell) : ∀ {names : List (Str × NameKind)}, names.lookup x = some .free →
    (names.map fun (n, k) => if (k == NameKind.free && env.scope.kind == .function && env.kindOf n == some .cell) then (n, NameKind.cell) else (n, k)).lookup x = some .cell
  | [], h => by simp at h
  | (n, k) :: r, h => by
    rw [List.lookup_cons] at h
    rw [List.map_cons, List.lookup_cons]
    split at h
    · rename_i q
      cases h
      have hn := beq_iff_eq.mp q
      subst hn
      dsimp only
      rw [hf, hc, if_pos (by simp)]
      dsimp only
      rw [q]
    · rename_i q
      have ih := relabel_free (env := env) (x := x) hf hc (names := r) h
      dsimp only
      by_cases hb : (k == NameKind.free && env.scope.kind == .function && env.kindOf n == some .cell) = true
      · rw [if_pos hb]; dsimp only; rw [q]; exact ih
      · rw [if_neg hb]; dsimp only; rw [q]; exact ih

theorem turn_nil {g g' : Heap} (t : KtsTurn [] g g') : ∀ b, g'.get? b = g.get? b := fun b => by
  cases q : g.get? b with
  | none => exact t.none_ b q
  | some o => exact t.other b o q (by simp)
section
variable {K : Frag} {att : List Str} {g g' h : Heap} {L : Addr} {m : Str → Option Value} {X : List (Addr × Obj)} {W : Wd} {σ : St}
theorem Core.same (hs : ∀ b, g'.get? b = g.get? b) (hz : g'.objs.size = g.objs.size) (C : Core K att g' L m X W σ h) : Core K att g L m X W σ h :=
  ⟨⟨C.F.ns, fun b o e => C.F.keep b o ((hs b).trans e), hz ▸ C.F.above⟩, fun p hp => ⟨(C.N p hp).1, (C.N p hp).2.1, (hs p.1) ▸ (C.N p hp).2.2⟩, C.ap, C.sr, fun a o e => (hs a) ▸ C.kin a o e, fun p hp => ⟨(hs p.1) ▸ (C.knw p hp).1, (C.knw p hp).2⟩⟩
end
/-- the frame, with nothing below it -/
abbrev Fm.quiet (f : Fm) : Fm := { f with A₀ := { f.A₀ with frames := some [] }, outer := [] }
abbrev Fm.inner (f : Fm) (l : List (Addr × Obj)) (e : Env) : Fm := { f with A₀ := { f.A₀ with frames := some [] }, outer := [], env := e, its := l ++ f.its }
section
variable {α β γ δ : Type} {c : Cf} {f : Fm} {rel : Wd → β → α → Prop} {rel' : Wd → δ → γ → Prop} {W W' : Wd} {g g' : Heap} {s : Shared} {Q : β → Shared → Prop} {E E' : Value → Shared → Prop} {σ : St}
theorem Gd.quiet (G : Gd c f g) : Gd c f.quiet g := ⟨⟨rfl, G.below.stays, trivial⟩, fun b hb => by simp [frs] at hb⟩
theorem After.calm {r : R γ} {k : γ → St → R α} {Q₁ : δ → Shared → Prop} (h : After c f rel W g s (r.calm.bind k) Q E)
    (q : ∀ a σ' v W' h' tk, r = .ok a σ' → W.le W' → Cr c f g W' σ' h' → rel' W' v a → After c f rel W' g { s with heap := h', toks := tk } (k a σ') Q E → Q₁ v { s with heap := h', toks := tk }) : After c f.quiet rel' W g s r Q₁ E' := by
  cases r with
  | ok a σ' => exact fun v W' g' h' tk le t G C hv => q a σ' v W' h' tk rfl le (Core.same (turn_nil t) t.size C) hv (After.step h le .refl)
  | exc x σ' => exact h.elim
  | bad => exact h.elim
/-- inside: what the evaluator gives without an exception -/
theorem After.inner {fi : Fm} {r : R γ} {Q₁ : δ → Shared → Prop} (ho : fi.outer = []) (hr : ∃ a σ', r = .ok a σ') (q : ∀ a σ' v W' h' tk, r = .ok a σ' → W.le W' → Cr c fi g W' σ' h' → rel' W' v a → Q₁ v { s with heap := h', toks := tk }) : After c fi rel' W g s r Q₁ E' := by
  obtain ⟨a, σ', rfl⟩ := hr
  intro v W' g' h' tk le t G C hv
  have t' : KtsTurn [] g g' := by have := t; unfold Tn at this; rw [ho] at this; exact this
  exact q a σ' v W' h' tk rfl le (Core.same (turn_nil t') t'.size C) hv
end
theorem off1_mem {D : Addr} : ∀ {l : List (Addr × Obj)}, LCg.Off1 D l → ∀ p ∈ l, p.1 ≠ D
  | [], _, _, h => nomatch h
  | _ :: _, x, p, h => by
    rcases List.mem_cons.mp h with rfl | h
    · exact x.1
    · exact off1_mem x.2 p h

section
variable {c : Cf} {cf : CF} {k : Nat} {cx : CX} {f : Fm} {A : Around} {W : Wd} {g : Heap} {ρ : Loc} {σ : St} {s : Shared} {Q : Value → Shared → Prop} {E : Value → Shared → Prop} {t : Str} {sc : Scope} {cl : List (Str × Addr)}
theorem inner_core {h : Heap} {I C D : Addr} {oI oC oD : Obj} {e : Env} (hk : GK c.K W g) (ap : Apart f.X W) (sr : SR c.K W c.att W.en σ) (F : Fr g f.L h f.m) (N : News g f.L h ((I, oI) :: (C, oC) :: (D, oD) :: (f.X ++ W.led))) (off : LCg.Off3 I C D (f.X ++ W.led)) :
    Cr c (f.inner [(I, oI), (C, oC), (D, oD)] e) g W σ h := by
  have off3 := off.mem
  refine ⟨F, N, ⟨fun p hp q hq => ?_, ap.nodup, fun p hp q hq => ?_⟩, sr, hk.kin, hk.knw⟩
  · have hp' : p ∈ (I, oI) :: (C, oC) :: (D, oD) :: (f.X ++ W.fz) := hp
    have z := off3 q (List.mem_append_right _ (List.mem_append_right _ hq))
    rcases List.mem_cons.mp hp' with rfl | hp'
    · exact z.1.symm
    · rcases List.mem_cons.mp hp' with rfl | hp'
      · exact z.2.1.symm
      · rcases List.mem_cons.mp hp' with rfl | hp'
        · exact z.2.2.symm
        · exact ap.sep p hp' q hq
  · have hp' : p ∈ (I, oI) :: (C, oC) :: (D, oD) :: f.X := hp
    have z := off3 q (List.mem_append_right _ (List.mem_append_left _ hq))
    rcases List.mem_cons.mp hp' with rfl | hp'
    · exact z.1.symm
    · rcases List.mem_cons.mp hp' with rfl | hp'
      · exact z.2.1.symm
      · rcases List.mem_cons.mp hp' with rfl | hp'
        · exact z.2.2.symm
        · exact ap.sx p hp' q hq
theorem inner_off {h : Heap} {I C D : Addr} {oI oC oD : Obj} {e : Env} {W' : Wd} {σ' : St} (off : LCg.Off3 I C D (f.X ++ W.led)) (C' : Cr c (f.inner [(I, oI), (C, oC), (D, oD)] e) g W' σ' h) : LCg.Off3 I C D (f.X ++ W'.led) := by
  have off3 := off.mem
  refine LCg.Off3.of fun p hp => ?_
  have m1 : (I, oI) ∈ (f.inner [(I, oI), (C, oC), (D, oD)] e).X := .head _
  have m2 : (C, oC) ∈ (f.inner [(I, oI), (C, oC), (D, oD)] e).X := .tail _ (.head _)
  have m3 : (D, oD) ∈ (f.inner [(I, oI), (C, oC), (D, oD)] e).X := .tail _ (.tail _ (.head _))
  rcases List.mem_append.mp hp with hp | hp
  · exact off3 p (List.mem_append_left _ hp)
  · rcases List.mem_append.mp hp with hp | hp
    · exact ⟨(C'.ap.sx _ m1 p hp).symm, (C'.ap.sx _ m2 p hp).symm, (C'.ap.sx _ m3 p hp).symm⟩
    · exact ⟨(C'.ap.sep _ (List.mem_append_left _ m1) p hp).symm, (C'.ap.sep _ (List.mem_append_left _ m2) p hp).symm, (C'.ap.sep _ (List.mem_append_left _ m3) p hp).symm⟩
theorem fin_core {h : Heap} {D : Addr} {ys : List Value} {n : Nat} (hk : GK c.K W g) (ap : Apart f.X W) (sr : SR c.K W c.att W.en σ) (F : Fr g f.L h f.m) (N : News g f.L h ((D, listOf ys.toArray n) :: (f.X ++ W.led))) (off : LCg.Off1 D (f.X ++ W.led)) :
    Cr c f g ⟨(D, listOf ys.toArray n) :: W.fz, W.en, W.kn⟩ σ h := by
  have o1 := off1_mem off
  refine ⟨F, fun p hp => N p ?_, ⟨fun p hp q hq => ?_, ap.nodup, fun p hp q hq => ?_⟩, sr.mono le_cons, hk.kin, hk.knw⟩
  · rcases List.mem_append.mp hp with h1 | h1
    · exact .tail _ (List.mem_append_left _ h1)
    · rcases List.mem_cons.mp h1 with h2 | h2
      · rw [h2]; exact .head _
      · exact .tail _ (List.mem_append_right _ h2)
  · rcases List.mem_append.mp hp with h1 | h1
    · exact ap.sep p (List.mem_append_left _ h1) q hq
    · rcases List.mem_cons.mp h1 with h2 | h2
      · rw [h2]; exact (o1 q (List.mem_append_right _ (List.mem_append_right _ hq))).symm
      · exact ap.sep p (List.mem_append_right _ h2) q hq
  · rcases List.mem_cons.mp hq with h2 | h2
    · rw [h2]; exact o1 p (List.mem_append_left _ hp)
    · exact ap.sx p hp q h2
/-- what the scope of a comprehension must say -/
structure OkS (cx : CX) (t : Str) (sc : Scope) : Prop where
  kind : sc.kind = .function
  hx : sc.names.lookup t = some .local
  ncell : ∀ y ∈ sc.names, y.2 ≠ .cell
  hnames : ∀ y ∈ sc.names, y.2 = .local → sc.names.lookup y.1 = some .local
  ndbg : ∀ y ∈ sc.names, (y.1 == ("__debug__" : Str)) = false
  free : ∀ y ∈ sc.names, y.2 = .free → cx.sc.names.lookup y.1 = some .cell ∧ y.1 ≠ t ∧ sc.names.lookup y.1 = some .free
theorem okS_of (h : okComp cx t sc = true) : OkS cx t sc := by
  unfold okComp at h
  simp only [Bool.and_eq_true, beq_iff_eq, List.all_eq_true, Bool.or_eq_true, bne_iff_ne, ne_eq, Bool.not_eq_true'] at h
  obtain ⟨⟨⟨⟨⟨⟨⟨h1, _⟩, _⟩, h4⟩, _⟩, h6⟩, _⟩, h8⟩ := h
  refine ⟨h1, h4, fun y hy => (h6 y hy).1.1, fun y hy hl => ((h6 y hy).2).resolve_left fun q => q hl, fun y hy => h8 y hy, fun y hy hf => ?_⟩
  have := ((h6 y hy).1.2).resolve_left fun q => q hf
  exact ⟨this.1.1, by simpa using this.1.2, this.2⟩
theorem mem_of_lookup {x : Str} {kd : NameKind} : ∀ {l : List (Str × NameKind)}, l.lookup x = some kd → (x, kd) ∈ l
  | [], h => by simp at h
  | (n, k) :: r, h => by
    rw [List.lookup_cons] at h
    split at h
    · rename_i q; cases h; rw [beq_iff_eq.mp q]; exact .head _
    · exact .tail _ (mem_of_lookup h)
theorem inner_sit {I C D : Addr} {oI oC oD : Obj} {m₂ : Str → Option Value} {v : Value} {a : V} (S : Sit c A k f cx W ρ) (hq : cx.q = false) (htg : cx.tgt = none) (O : OkS cx t sc) (hclo : ∀ x ca, (x, NameKind.free) ∈ sc.names → f.env.cells.lookup x = some ca → cl.lookup x = some ca)
    (hC : LCg.NsObj oC m₂) (hm : m₂ t = some v) (hv : VR c.K W v a) : Sit c A k (f.inner [(I, oI), (C, oC), (D, oD)] (compEnvC sc cl C f.env)) { cx with sc := sc, tgt := some t, q := true } W (ρ ++ [some a]) := by
  obtain ⟨cn, fa, cd, cl₀, he, hcells⟩ := S.fenv hq
  refine ⟨S.eK, S.eA, S.eM, fun x i b hs hi => ?_, S.glo, S.bui, ?_, fun x hx => ?_, S.units, S.hand, (fun q => by cases q), (fun q => by cases q), (fun q => by cases q)⟩
  · unfold CX.slot at hs
    dsimp only at hs
    split at hs
    · rename_i hl
      split at hs
      · rename_i hxt
        have hxt := beq_iff_eq.mp hxt
        subst hxt
        cases hs
        have hlen := S.len hq
        have hb : b = a := by
          rw [List.getElem?_append_right (by omega)] at hi
          simp [hlen] at hi
          exact hi.symm
        subst hb
        refine ⟨v, hv, fun M A' E Q s pos g' W' σ' C' hQ => ?_⟩
        have hns : s.heap.Ns C m₂ := hC.ns (C'.N (C, oC) (List.mem_append_left _ (.tail _ (.head _)))).1
        refine wpAny_Name (wpAny_loadName_local ?_ ?_ hns hm hQ) ?_
        · exact O.kind
        · exact lookup_relabel_local O.hx
        · exact O.ndbg _ (mem_of_lookup hl)
      · cases hs
    · rename_i hl
      have hm' := mem_of_lookup hl
      obtain ⟨f1, f2, f3⟩ := O.free _ hm' rfl
      have hsl : cx.slot x = some i := by
        unfold CX.slot
        rw [htg]
        dsimp only
        rw [f1]
        exact hs
      have hi' : ρ[i]? = some (some b) := by
        have hlen := S.len hq
        have : i < cx.loc.length := (List.getElem?_eq_some_iff.mp (place_at hs)).1
        rw [List.getElem?_append_left (by omega)] at hi
        exact hi
      obtain ⟨ca, o, vo, h1, h2, h3, h4⟩ := hcells x f1
      obtain ⟨u, rfl, hu⟩ := h4 i b hsl hi'
      refine ⟨u, hu, fun M A' E Q s pos g' W' σ' C' hQ => ?_⟩
      have hc : cl.lookup x = some ca := hclo x ca hm' (by rw [he]; exact h1)
      refine lcf_cell C'.N hc (List.mem_append_left _ (List.mem_append_right _ h2)) h3 hQ O.kind ?_ ?_
      · refine relabel_free ?_ ?_ f3
        · exact S.kin
        · rw [he]; exact f1
      · exact O.ndbg _ hm'
    · cases hs
  · exact O.kind
  · exact relabel_other (by intro q; cases q) hx

/-- the turns of a comprehension with a test -/
theorem rest_T (hq : cx.q = false) (htg : cx.tgt = none) (O : OkS cx t sc) (hclo : ∀ x ca, (x, NameKind.free) ∈ sc.names → f.env.cells.lookup x = some ca → cl.lookup x = some ca)
    {ct elt : PySem.Expr} {t' e' : Mine.E} (IT : Tok c cf k { cx with sc := sc, tgt := some t, q := true } ct t') (IE : Eok c cf k { cx with sc := sc, tgt := some t, q := true } elt e') (G : Gd c f g) {SS : List (Addr × Obj) → Prop} {P : Nat → Value → Prop} {Fin : List Value → List (Addr × Obj) → Prop} {W₁ : Wd} {a : V} {σ' : St}
    (hk : GK c.K W₁ g) (hS : ∀ W', W₁.le W' → SS (f.X ++ W'.led))
    (hF : ∀ ys acc' W', W₁.le W' → Apart f.X W' → SR c.K W' c.att W'.en σ' → VRs c.K W' ys acc' → a = .lst acc' → Fin ys (f.X ++ W'.led)) :
    ∀ (l : List V) (i : Nat) (ys : List Value) (acc : List V) (W : Wd) (σ : St), W₁.le W → Sit c A k f cx W ρ → Apart f.X W → SR c.K W c.att W.en σ → VRs c.K W ys acc → (∀ j b, l[j]? = some b → ∀ v, P (i + j) v → VR c.K W v b) →
      compL (fun v σ => ev c.T cf e' (ρ ++ [some v]) σ) (fun v σ => evIfs c.T cf (.cons t' .nil) (ρ ++ [some v]) σ) l σ acc = .ok a σ' →
      LCt.CompRestT c.prog c.w A g f.L f.m f.env ct elt t sc cl s SS P Fin l.length i ys (f.X ++ W.led)
  | [], i, ys, acc, W, σ, le, S, ap, sr, hv, hP, hr => by
    unfold compL at hr
    cases hr
    exact LCt.CompRestT.zero (hF ys acc W le ap sr hv rfl)
  | b :: r, i, ys, acc, W, σ, le, S, ap, sr, hv, hP, hr => by
    refine LCt.CompRestT.succ fun v I oI C oC D m₂ h tk E'' hPv hoC hm₂ F N off ne => ?_
    have hvb := hP 0 b rfl v hPv
    have C₀ := inner_core (e := compEnvC sc cl C f.env) (hk.le le) ap sr F N off
    have S₀ := inner_sit (I := I) (C := C) (oI := oI) (D := D) (oD := LCg.lst ys) S hq htg O hclo hoC hm₂ hvb
    have G₀ : Gd c (f.inner [(I, oI), (C, oC), (D, LCg.lst ys)] (compEnvC sc cl C f.env)) g := ⟨⟨rfl, G.below.stays, trivial⟩, fun b hb => by simp [frs] at hb⟩
    unfold compL at hr
    rw [evIfs] at hr
    cases h1 : evT c.T cf t' (ρ ++ [some b]) σ with
    | exc x σ₁ => rw [h1] at hr; cases hr
    | bad => rw [h1] at hr; cases hr
    | ok bb σ₁ =>
      rw [h1] at hr
      simp only [R.bind] at hr
      refine IT A _ W g _ σ { s with heap := h, toks := tk } _ E'' S₀ G₀ C₀ (After.inner rfl ⟨_, _, h1⟩ fun a₁ σ₁' v₁ W₂ h₂ tk₂ e1 le₂ C₂ hb => ?_)
      rw [h1] at e1
      cases e1
      have hb' : v₁ = bb := hb
      clear hb
      subst hb'
      cases v₁ with
      | true =>
        simp only [if_true]
        rw [evIfs] at hr
        simp only at hr
        cases h3 : ev c.T cf e' (ρ ++ [some b]) σ₁ with
        | exc x σ₂ => rw [h3] at hr; cases hr
        | bad => rw [h3] at hr; cases hr
        | ok u σ₂ =>
          rw [h3] at hr
          simp only at hr
          refine IE A _ W₂ g _ σ₁ { s with heap := h₂, toks := tk₂ } _ E'' (S₀.mono le₂) G₀ C₂ (After.inner rfl ⟨_, _, h3⟩ fun a₂ σ₂' y W₃ h₃ tk₃ e2 le₃ C₃ hy => ?_)
          rw [h3] at e2
          cases e2
          have le' := le.trans (le₂.trans le₃)
          have le23 := le₂.trans le₃
          refine ⟨h₃, tk₃, f.X ++ W₃.led, rfl, C₃.F, C₃.N, inner_off off C₃, hS W₃ le', ?_⟩
          have ap' : Apart f.X W₃ := ⟨fun p hp q hq => C₃.ap.sep p (.tail _ (.tail _ (.tail _ hp))) q hq, C₃.ap.nodup, fun p hp q hq => C₃.ap.sx p (.tail _ (.tail _ (.tail _ hp))) q hq⟩
          exact rest_T hq htg O hclo IT IE G hk hS hF r (i + 1) (ys ++ [y]) (acc ++ [u]) W₃ σ₂ le' (S.mono le23) ap' C₃.sr ((hv.mono le23).append (.cons hy .nil))
            (fun j b' hb' v' hv' => (hP (j + 1) b' (by simpa using hb') v' (by rw [show i + (j + 1) = i + 1 + j from by omega]; exact hv')).mono le23) hr
      | false =>
        simp only [Bool.false_eq_true, if_false]
        simp only at hr
        have le' := le.trans le₂
        refine ⟨h₂, tk₂, f.X ++ W₂.led, rfl, C₂.F, C₂.N, inner_off off C₂, hS W₂ le', ?_⟩
        have ap' : Apart f.X W₂ := ⟨fun p hp q hq => C₂.ap.sep p (.tail _ (.tail _ (.tail _ hp))) q hq, C₂.ap.nodup, fun p hp q hq => C₂.ap.sx p (.tail _ (.tail _ (.tail _ hp))) q hq⟩
        exact rest_T hq htg O hclo IT IE G hk hS hF r (i + 1) ys acc W₂ σ₁ le' (S.mono le₂) ap' C₂.sr (hv.mono le₂)
          (fun j b' hb' v' hv' => (hP (j + 1) b' (by simpa using hb') v' (by rw [show i + (j + 1) = i + 1 + j from by omega]; exact hv')).mono le₂) hr
/-- the turns of a comprehension without a test -/
theorem rest_U (hq : cx.q = false) (htg : cx.tgt = none) (O : OkS cx t sc) (hclo : ∀ x ca, (x, NameKind.free) ∈ sc.names → f.env.cells.lookup x = some ca → cl.lookup x = some ca)
    {elt : PySem.Expr} {e' : Mine.E} (IE : Eok c cf k { cx with sc := sc, tgt := some t, q := true } elt e') (G : Gd c f g) {SS : List (Addr × Obj) → Prop} {P : Nat → Value → Prop} {Fin : List Value → List (Addr × Obj) → Prop} {W₁ : Wd} {a : V} {σ' : St}
    (hk : GK c.K W₁ g) (hS : ∀ W', W₁.le W' → SS (f.X ++ W'.led))
    (hF : ∀ ys acc' W', W₁.le W' → Apart f.X W' → SR c.K W' c.att W'.en σ' → VRs c.K W' ys acc' → a = .lst acc' → Fin ys (f.X ++ W'.led)) :
    ∀ (l : List V) (i : Nat) (ys : List Value) (acc : List V) (W : Wd) (σ : St), W₁.le W → Sit c A k f cx W ρ → Apart f.X W → SR c.K W c.att W.en σ → VRs c.K W ys acc → (∀ j b, l[j]? = some b → ∀ v, P (i + j) v → VR c.K W v b) →
      compL (fun v σ => ev c.T cf e' (ρ ++ [some v]) σ) (fun v σ => evIfs c.T cf .nil (ρ ++ [some v]) σ) l σ acc = .ok a σ' →
      LCg.CompRest c.prog c.w A g f.L f.m f.env elt t sc cl s SS P Fin l.length i ys (f.X ++ W.led)
  | [], i, ys, acc, W, σ, le, S, ap, sr, hv, hP, hr => by
    unfold compL at hr
    cases hr
    exact LCg.CompRest.zero (hF ys acc W le ap sr hv rfl)
  | b :: r, i, ys, acc, W, σ, le, S, ap, sr, hv, hP, hr => by
    refine LCg.CompRest.succ fun v I oI C oC D m₂ h tk E'' hPv hoC hm₂ F N off ne => ?_
    have hvb := hP 0 b rfl v hPv
    have C₀ := inner_core (e := compEnvC sc cl C f.env) (hk.le le) ap sr F N off
    have S₀ := inner_sit (I := I) (C := C) (oI := oI) (D := D) (oD := LCg.lst ys) S hq htg O hclo hoC hm₂ hvb
    have G₀ : Gd c (f.inner [(I, oI), (C, oC), (D, LCg.lst ys)] (compEnvC sc cl C f.env)) g := ⟨⟨rfl, G.below.stays, trivial⟩, fun b hb => by simp [frs] at hb⟩
    unfold compL at hr
    rw [evIfs] at hr
    simp only at hr
    cases h3 : ev c.T cf e' (ρ ++ [some b]) σ with
    | exc x σ₂ => rw [h3] at hr; cases hr
    | bad => rw [h3] at hr; cases hr
    | ok u σ₂ =>
      rw [h3] at hr
      simp only at hr
      refine IE A _ W g _ σ { s with heap := h, toks := tk } _ E'' S₀ G₀ C₀ (After.inner rfl ⟨_, _, h3⟩ fun a₂ σ₂' y W₃ h₃ tk₃ e2 le₃ C₃ hy => ?_)
      rw [h3] at e2
      cases e2
      have le' := le.trans le₃
      refine ⟨h₃, tk₃, f.X ++ W₃.led, rfl, C₃.F, C₃.N, inner_off off C₃, hS W₃ le', ?_⟩
      have ap' : Apart f.X W₃ := ⟨fun p hp q hq => C₃.ap.sep p (.tail _ (.tail _ (.tail _ hp))) q hq, C₃.ap.nodup, fun p hp q hq => C₃.ap.sx p (.tail _ (.tail _ (.tail _ hp))) q hq⟩
      exact rest_U hq htg O hclo IE G hk hS hF r (i + 1) (ys ++ [y]) (acc ++ [u]) W₃ σ₂ le' (S.mono le₃) ap' C₃.sr ((hv.mono le₃).append (.cons hy .nil))
        (fun j b' hb' v' hv' => (hP (j + 1) b' (by simpa using hb') v' (by rw [show i + (j + 1) = i + 1 + j from by omega]; exact hv')).mono le₃) hr
end
end Mine

/-! Soundness, 16: list comprehensions, whole (own work). -/
namespace Mine
open PySem PySem.W PySem.Spec PySem.Calls PyProof.Rows PySem.SeqAt

theorem span_get {lo hi : Int} {j : Nat} {b : V} (h : ((span lo hi).map V.int)[j]? = some b) : b = .int (lo + j) := by
  rw [List.getElem?_map] at h
  obtain ⟨x, hx, rfl⟩ := Option.map_eq_some_iff.mp h
  have hj : j < (hi - lo).toNat := by
    have := (List.getElem?_eq_some_iff.mp hx).1
    unfold span at this
    rwa [upTo_len] at this
  unfold span at hx
  rw [upTo_get lo _ j hj] at hx
  cases hx; rfl
theorem compL_exc {f : V → St → R V} {p : V → St → R Bool} {x : Mine.X} {σ' : St} : ∀ (l : List V) (σ : St) (acc : List V), compL f p l σ acc ≠ .exc x σ'
  | [], _, _ => fun q => by cases q
  | v :: r, σ, acc => fun q => by
    unfold compL at q
    split at q
    · split at q
      · exact compL_exc r _ _ q
      · cases q
    · exact compL_exc r _ _ q
    · cases q
section
variable {c : Cf} {cf : CF} {k : Nat} {cx : CX} {f : Fm} {A : Around} {W : Wd} {g : Heap} {ρ : Loc} {σ : St} {s : Shared} {Q : Value → Shared → Prop} {E : Value → Shared → Prop} {t : Str} {sc : Scope} {cl : List (Str × Addr)}
theorem sizes {n : Nat} (h : room n = true) : n ≤ sizeLine := by rw [sizeLine_eq]; have := room_le h; omega
theorem src_T (hq : cx.q = false) (htg : cx.tgt = none) (O : OkS cx t sc) (hclo : ∀ x ca, (x, NameKind.free) ∈ sc.names → f.env.cells.lookup x = some ca → cl.lookup x = some ca)
    {ct elt : PySem.Expr} {t' e' : Mine.E} (IT : Tok c cf k { cx with sc := sc, tgt := some t, q := true } ct t') (IE : Eok c cf k { cx with sc := sc, tgt := some t, q := true } elt e') (G : Gd c f g) {Fin : Shared → List Value → List (Addr × Obj) → Prop} {a x : V} {σ' : St} {l : List V} {xv : Value}
    (S : Sit c A k f cx W ρ) (C : Cr c f g W σ s.heap) (hx : VR c.K W xv x) (hl : srcC x = some l) (hz : room l.length = true)
    (hr : compL (fun v σ => ev c.T cf e' (ρ ++ [some v]) σ) (fun v σ => evIfs c.T cf (.cons t' .nil) (ρ ++ [some v]) σ) l σ [] = .ok a σ')
    (hF : ∀ h ys acc' W', W.le W' → Apart f.X W' → SR c.K W' c.att W'.en σ' → VRs c.K W' ys acc' → a = .lst acc' → Fin { s with heap := h } ys (f.X ++ W'.led)) :
    LCt.CompSrcT c.prog c.w A g f.L f.m f.env ct elt t sc cl Fin xv s := by
  cases x <;> simp only [srcC, Option.some.injEq, reduceCtorEq] at hl
  · subst hl
    cases hx with
    | @lst ad vs n _ hk hv =>
      have hlen := hv.length
      have go : ∀ (SS : List (Addr × Obj) → Prop), (∀ W', W.le W' → SS (f.X ++ W'.led)) → ∀ h, LCt.CompRestT c.prog c.w A g f.L f.m f.env ct elt t sc cl { s with heap := h } SS (fun i v => vs.toArray[i]? = some v) (Fin { s with heap := h }) vs.toArray.size 0 [] (f.X ++ W.led) := by
        intro SS hS h
        rw [List.size_toArray, hlen]
        refine rest_T (s := { s with heap := h }) hq htg O hclo IT IE G C.gk hS (hF h) _ 0 [] [] W σ (.refl W) S C.ap C.sr .nil (fun j b hb v hv' => ?_) hr
        obtain ⟨u, h1, h2⟩ := hv.get hb
        rw [List.getElem?_toArray, Nat.zero_add, h1] at hv'
        cases hv'
        exact h2
      have hsz : vs.toArray.size ≤ sizeLine := by rw [List.size_toArray, hlen]; exact sizes hz
      have base : g.IsList ad vs.toArray → LCt.CompSrcT c.prog c.w A g f.L f.m f.env ct elt t sc cl Fin (.ref ad) s := fun hg => LCt.CompSrcT.base S.hand C.F C.N hg hsz (go _ fun W' _ => .inl hg)
      rcases hk with hk | hk
      · exact base (isL_of (C.kin _ _ hk))
      · rcases List.mem_append.mp hk with hk | hk
        · exact LCt.CompSrcT.ledger S.hand C.F C.N (List.mem_append_right _ (List.mem_append_left _ hk)) hsz (go _ fun W' le => .inr ⟨_, List.mem_append_right _ (List.mem_append_left _ (le.1 _ hk)), rfl, _, rfl⟩)
        · exact base (isL_of (C.knw _ hk).1)
  · subst hl
    rename_i lo hi
    cases hx with
    | rng hs hk =>
      refine LCt.CompSrcT.range S.hand C.F C.N (C.known hk) (range_small hs.1 hs.2) (range_size lo hi) (sizes (by simpa [span, upTo_len] using hz)) fun h => ?_
      have := rest_T (s := { s with heap := h }) (Fin := Fin { s with heap := h }) (P := fun i v => ∃ t, v = .int (lo + (i : Int)) t) hq htg O hclo IT IE G C.gk (SS := fun _ => True) (fun _ _ => trivial) (hF h) _ 0 [] [] W σ (.refl W) S C.ap C.sr .nil (fun j b hb v hv' => by
        obtain ⟨t, rfl⟩ := hv'
        rw [span_get hb, Nat.zero_add]
        exact .int _ _) hr
      simpa [span, upTo_len] using this
theorem src_U (hq : cx.q = false) (htg : cx.tgt = none) (O : OkS cx t sc) (hclo : ∀ x ca, (x, NameKind.free) ∈ sc.names → f.env.cells.lookup x = some ca → cl.lookup x = some ca)
    {elt : PySem.Expr} {e' : Mine.E} (IE : Eok c cf k { cx with sc := sc, tgt := some t, q := true } elt e') (G : Gd c f g) {Fin : Shared → List Value → List (Addr × Obj) → Prop} {a x : V} {σ' : St} {l : List V} {xv : Value}
    (S : Sit c A k f cx W ρ) (C : Cr c f g W σ s.heap) (hx : VR c.K W xv x) (hl : srcC x = some l) (hz : room l.length = true)
    (hr : compL (fun v σ => ev c.T cf e' (ρ ++ [some v]) σ) (fun v σ => evIfs c.T cf .nil (ρ ++ [some v]) σ) l σ [] = .ok a σ')
    (hF : ∀ h ys acc' W', W.le W' → Apart f.X W' → SR c.K W' c.att W'.en σ' → VRs c.K W' ys acc' → a = .lst acc' → Fin { s with heap := h } ys (f.X ++ W'.led)) :
    LCg.CompSrc c.prog c.w A g f.L f.m f.env elt t sc cl Fin xv s := by
  cases x <;> simp only [srcC, Option.some.injEq, reduceCtorEq] at hl
  · subst hl
    cases hx with
    | @lst ad vs n _ hk hv =>
      have hlen := hv.length
      have go : ∀ (SS : List (Addr × Obj) → Prop), (∀ W', W.le W' → SS (f.X ++ W'.led)) → ∀ h, LCg.CompRest c.prog c.w A g f.L f.m f.env elt t sc cl { s with heap := h } SS (fun i v => vs.toArray[i]? = some v) (Fin { s with heap := h }) vs.toArray.size 0 [] (f.X ++ W.led) := by
        intro SS hS h
        rw [List.size_toArray, hlen]
        refine rest_U (s := { s with heap := h }) hq htg O hclo IE G C.gk hS (hF h) _ 0 [] [] W σ (.refl W) S C.ap C.sr .nil (fun j b hb v hv' => ?_) hr
        obtain ⟨u, h1, h2⟩ := hv.get hb
        rw [List.getElem?_toArray, Nat.zero_add, h1] at hv'
        cases hv'
        exact h2
      have hsz : vs.toArray.size ≤ sizeLine := by rw [List.size_toArray, hlen]; exact sizes hz
      have base : g.IsList ad vs.toArray → LCg.CompSrc c.prog c.w A g f.L f.m f.env elt t sc cl Fin (.ref ad) s := fun hg => LCg.CompSrc.base S.hand C.F C.N hg hsz (go _ fun W' _ => .inl hg)
      rcases hk with hk | hk
      · exact base (isL_of (C.kin _ _ hk))
      · rcases List.mem_append.mp hk with hk | hk
        · exact LCg.CompSrc.ledger S.hand C.F C.N (List.mem_append_right _ (List.mem_append_left _ hk)) hsz (go _ fun W' le => .inr ⟨_, List.mem_append_right _ (List.mem_append_left _ (le.1 _ hk)), rfl, _, rfl⟩)
        · exact base (isL_of (C.knw _ hk).1)
  · subst hl
    rename_i lo hi
    cases hx with
    | rng hs hk =>
      refine LCg.CompSrc.range S.hand C.F C.N (C.known hk) (range_small hs.1 hs.2) (range_size lo hi) (sizes (by simpa [span, upTo_len] using hz)) fun h => ?_
      have := rest_U (s := { s with heap := h }) (Fin := Fin { s with heap := h }) (P := fun i v => ∃ t, v = .int (lo + (i : Int)) t) hq htg O hclo IE G C.gk (SS := fun _ => True) (fun _ _ => trivial) (hF h) _ 0 [] [] W σ (.refl W) S C.ap C.sr .nil (fun j b hb v hv' => by
        obtain ⟨t, rfl⟩ := hv'
        rw [span_get hb, Nat.zero_add]
        exact .int _ _) hr
      simpa [span, upTo_len] using this
theorem Sit.quiet (S : Sit c A k f cx W ρ) : Sit c A k f.quiet { cx with q := true } W ρ :=
  ⟨S.eK, S.eA, S.eM, S.rd, S.glo, S.bui, S.kin, S.kof, S.units, S.hand, (fun q => by cases q), (fun q => by cases q), (fun q => by cases q)⟩
theorem clos_ok (S : Sit c A k f cx W ρ) (hq : cx.q = false) (O : OkS cx t sc) : closureFor sc f.env = pure (closL f.env sc.names []) ∧ ∀ x ca, (x, NameKind.free) ∈ sc.names → f.env.cells.lookup x = some ca → (closL f.env sc.names []).lookup x = some ca := by
  obtain ⟨cn, fa, cd, cl₀, he, hcells⟩ := S.fenv hq
  refine ⟨closure_eq fun n hn hf => ?_, fun x ca hm hc => closL_mem hc _ _ (fun y a hy _ => by simp at hy) (.inl hm)⟩
  obtain ⟨f1, _, _⟩ := O.free n hn hf
  obtain ⟨ca, o, vo, h1, _⟩ := hcells n.1 f1
  rw [he]
  show (cl₀.lookup n.1).isSome = true
  rw [h1]; rfl
theorem fold_plain {it : PySem.Expr} {env : Env} (h : isSet it = false) : ∀ x, foldedSetIterable it env x = pure x := by
  intro x; cases it <;> first | rfl | simp [isSet] at h
/-- the value of a comprehension -/
theorem comp_ok {ifs : List PySem.Expr} {it elt : PySem.Expr} {px pos : Pos} {s' e' : Mine.E} {p' : Es} (hq : cx.q = false) (htg : cx.tgt = none) (hok : okComp cx t sc = true) (hset : isSet it = false) (hlen : ifs.length < 2)
    (II : Eok c cf k { cx with q := true } it s') (IE : Eok c cf k { cx with sc := sc, tgt := some t, q := true } elt e') (IP : All2 (Tok c cf k { cx with sc := sc, tgt := some t, q := true }) ifs p')
    (S : Sit c A k f cx W ρ) (G : Gd c f g) (C : Cr c f g W σ s.heap) (h : After c f (VR c.K) W g s (ev c.T cf (.comp e' s' p') ρ σ) Q E) :
    wpAny (model c.prog c.w) A (eval (.ListComp elt [⟨.Name t px, it, ifs, 0⟩] sc pos) f.env) Q E s := by
  have O := okS_of hok
  obtain ⟨hcl, hclo⟩ := clos_ok S hq O
  rw [ev] at h
  have fin : ∀ {W₁ : Wd} {h₁ : Heap} {tk₁ : Nat} {a : V} {σ' : St}, GK c.K W₁ g → After c f (VR c.K) W₁ g { s with heap := h₁, toks := tk₁ } (.ok a σ') Q E → ∀ h ys acc' W', W₁.le W' → Apart f.X W' → SR c.K W' c.att W'.en σ' → VRs c.K W' ys acc' → a = .lst acc' →
      LCg.FinE g f.L f.m { s with heap := h, toks := tk₁ } Q ys (f.X ++ W'.led) := by
    intro W₁ h₁ tk₁ a σ' hk h2 h ys acc' W' le ap sr hv ha D h₃ tk F N o1
    subst ha
    have C' := fin_core (hk.le le) ap sr F N o1
    exact h2 (.ref D) _ g h₃ tk (le.trans le_cons) .refl G C' (.lst (n := ys.length) (.inr (.head _)) (hv.mono le_cons))
  cases IP with
  | nil =>
    refine LCg.ListComp_U C.F hcl O.ncell O.kind O.hnames O.hx (II A f.quiet W g ρ σ s _ E S.quiet G.quiet C (After.calm h fun x σ₁ v W₁ h₁ tk e1 le C₁ hv h2 => ?_)) (fold_plain hset)
    split at h2
    · rename_i l hl
      split at h2
      · rename_i hz
        cases hr : compL (fun v σ => ev c.T cf e' (ρ ++ [some v]) σ) (fun v σ => evIfs c.T cf .nil (ρ ++ [some v]) σ) l σ₁ [] with
        | bad => rw [hr] at h2; exact h2.elim
        | exc x σ' => exact absurd hr (compL_exc _ _ _)
        | ok a σ' =>
          rw [hr] at h2
          exact src_U hq htg O hclo IE G (S.mono le) C₁ hv hl hz hr (fin C₁.gk h2)
      · exact h2.elim
    · exact h2.elim
  | @cons ct t' r r' hs hT hr' =>
    cases hr' with
    | cons _ _ _ => simp only [List.length_cons] at hlen; omega
    | nil =>
      refine LCt.ListComp_T C.F hcl O.ncell O.kind O.hnames O.hx (II A f.quiet W g ρ σ s _ E S.quiet G.quiet C (After.calm h fun x σ₁ v W₁ h₁ tk e1 le C₁ hv h2 => ?_)) (fold_plain hset)
      split at h2
      · rename_i l hl
        split at h2
        · rename_i hz
          cases hr : compL (fun v σ => ev c.T cf e' (ρ ++ [some v]) σ) (fun v σ => evIfs c.T cf (.cons t' .nil) (ρ ++ [some v]) σ) l σ₁ [] with
          | bad => rw [hr] at h2; exact h2.elim
          | exc x σ' => exact absurd hr (compL_exc _ _ _)
          | ok a σ' =>
            rw [hr] at h2
            exact src_T hq htg O hclo hT IE G (S.mono le) C₁ hv hl hz hr (fin C₁.gk h2)
        · exact h2.elim
      · exact h2.elim
end
end Mine

/-! Soundness, 17: every expression (own work). -/
namespace Mine
open PySem PySem.W PySem.Spec PySem.Calls PyProof.Rows PySem.SeqAt

theorem if_some {a : Prop} [Decidable a] {b v : Value} {r : Option Value} (h : (if a then some b else r) = some v) : (a ∧ b = v) ∨ r = some v := by
  by_cases q : a
  · rw [if_pos q] at h; cases h; exact .inl ⟨q, rfl⟩
  · rw [if_neg q] at h; exact .inr h
theorem boot_ok {x : Str} {v : Value} (h : bootV x = some v) : bootBuiltins x = some v := by
  unfold bootV at h
  iterate 13 (
    rcases if_some h with ⟨q, e⟩ | h
    · rw [beq_iff_eq.mp q, ← e]; kernel_rfl)
  cases h
section
variable {c : Cf} {cf : CF} {k : Nat} {cx : CX} {f : Fm} {A : Around} {W : Wd} {g : Heap} {ρ : Loc} {σ : St} {s : Shared} {Q : Value → Shared → Prop} {E : Value → Shared → Prop}
theorem glob_ok (co : CfOk c) (S : Sit c A k f cx W ρ) (G : Gd c f g) (C : Cr c f g W σ s.heap) {x : Str} {pos : Pos} {v : Value} (hx : cx.sc.names.lookup x = some .globalImplicit) (hd : (x == ("__debug__" : Str)) = false) (hg : glob cx.K x = some v) (h : Q v s) :
    wpAny (model c.prog c.w) A (eval (.Name x pos) f.env) Q E s := by
  have T : TopRead c.p c.loose c.mg c.mb g := topRead_of (co.top.keeps G.below.stays)
  rw [S.eK] at hg
  unfold glob at hg
  split at hg
  · rename_i v' hn
    cases hg
    exact nameG_K C.F C.kin T hn h S.glo S.kin (S.kof x hx) hd
  · rename_i hn
    split at hg
    · cases hg
    · rename_i hne
      have hne' : x ≠ ("__name__" : Str) := fun q => hne (by rw [q]; exact beq_self_eq_true _)
      exact Name_function_global S.kin (S.kof x hx) (loadGlobal_builtin (env := f.env) (by rw [S.glo]; exact T.g.keeps C.F.keep) (mg_none_of C.kin T.g hn) (by rw [S.bui]; exact T.b.keeps C.F.keep) ((T.builtins x hne').trans (boot_ok hg)) h) hd
  · cases hg
theorem const_ok (G : Gd c f g) (C : Cr c f g W σ s.heap) {kk : Const} {v : V} {n : Nat} {pos : Pos} (hc : constV kk = some v) (h : After c f (VR c.K) W g s (.ok v σ) Q E) : wpAny (model c.prog c.w) A (eval (.Constant kk n pos) f.env) Q E s := by
  cases kk <;> simp only [constV, Option.some.injEq, reduceCtorEq] at hc <;> subst hc
  · exact wpAny_Constant_none (After.done h G C .none)
  · exact wpAny_Constant_bool (After.done h G C (.bool _))
  · exact wpAny_Constant_int (After.now h G C (.int _ _) _)
  · exact wpAny_Constant_str (After.now h G C (.str _ _) _)
  · rename_i b
    rw [arm_eval_Constant]
    show wpAny _ _ (mkTextBytes b.toArray) _ _ _
    exact fun _ _ _ => After.now h G C (.bytes rfl) _
/-! and, or -/
theorem boolAnd_ok {l : List PySem.Expr} {l' : Es} (h : All2 (Eok c cf k cx) l l') (pos : Pos) : ∀ {A : Around} {f : Fm} {W : Wd} {g : Heap} {ρ : Loc} {σ : St} {s : Shared} {Q : Value → Shared → Prop} {E : Value → Shared → Prop},
    Sit c A k f cx W ρ → Gd c f g → Cr c f g W σ s.heap → After c f (VR c.K) W g s (evAnd c.T cf l' ρ σ) Q E → wpAny (model c.prog c.w) A (boolOp pos .And (evalEach l f.env)) Q E s := by
  induction h with
  | nil => intro A f W g ρ σ s Q E S G C h; rw [evAnd] at h; exact h.elim
  | @cons e e' r r' hs he ht ih =>
    intro A f W g ρ σ s Q E S G C h
    cases ht with
    | nil =>
      rw [evAnd] at h
      exact he A f W g ρ σ s Q E S G C h
    | @cons e2 e2' r2 r2' hs2 he2 ht2 =>
      rw [evAnd] at h
      · show wpAny _ _ (do let v ← eval e f.env; standAt pos; let t ← holding [v] (truthy v); match BoolOp.And, t with | .And, false | .Or, true => pure v | _, _ => boolOp pos .And (evalEach (e2 :: r2) f.env)) _ _ s
        refine wpAny_bind (he A f W g ρ σ s _ E S G C (After.bind (rel' := VR c.K) h fun a σ₁ v W₁ g₁ h₁ tk e1 le tn G₁ C₁ hv h2 => ?_))
        refine wpAny_bind (wpAny_standAt (wpAny_bind (wpAny_holding ?_)))
        cases hb : vtruth a with
        | none => rw [hb] at h2; exact h2.elim
        | some b =>
          rw [hb] at h2
          refine op_truthy hv hb ?_
          cases b with
          | true => exact ih (S.mono le) G₁ C₁ h2
          | false => exact wpAny_pure (After.done h2 G₁ C₁ hv)
      · intro q; cases q
theorem boolOr_ok {l : List PySem.Expr} {l' : Es} (h : All2 (Eok c cf k cx) l l') (pos : Pos) : ∀ {A : Around} {f : Fm} {W : Wd} {g : Heap} {ρ : Loc} {σ : St} {s : Shared} {Q : Value → Shared → Prop} {E : Value → Shared → Prop},
    Sit c A k f cx W ρ → Gd c f g → Cr c f g W σ s.heap → After c f (VR c.K) W g s (evOr c.T cf l' ρ σ) Q E → wpAny (model c.prog c.w) A (boolOp pos .Or (evalEach l f.env)) Q E s := by
  induction h with
  | nil => intro A f W g ρ σ s Q E S G C h; rw [evOr] at h; exact h.elim
  | @cons e e' r r' hs he ht ih =>
    intro A f W g ρ σ s Q E S G C h
    cases ht with
    | nil =>
      rw [evOr] at h
      exact he A f W g ρ σ s Q E S G C h
    | @cons e2 e2' r2 r2' hs2 he2 ht2 =>
      rw [evOr] at h
      · show wpAny _ _ (do let v ← eval e f.env; standAt pos; let t ← holding [v] (truthy v); match BoolOp.Or, t with | .And, false | .Or, true => pure v | _, _ => boolOp pos .Or (evalEach (e2 :: r2) f.env)) _ _ s
        refine wpAny_bind (he A f W g ρ σ s _ E S G C (After.bind (rel' := VR c.K) h fun a σ₁ v W₁ g₁ h₁ tk e1 le tn G₁ C₁ hv h2 => ?_))
        refine wpAny_bind (wpAny_standAt (wpAny_bind (wpAny_holding ?_)))
        cases hb : vtruth a with
        | none => rw [hb] at h2; exact h2.elim
        | some b =>
          rw [hb] at h2
          refine op_truthy hv hb ?_
          cases b with
          | false => exact ih (S.mono le) G₁ C₁ h2
          | true => exact wpAny_pure (After.done h2 G₁ C₁ hv)
      · intro q; cases q
theorem allAnd_ok {l : List PySem.Expr} {l' : Es} (h : All2 (Tok c cf k cx) l l') : ∀ {A : Around} {f : Fm} {W : Wd} {g : Heap} {ρ : Loc} {σ : St} {s : Shared} {Q : Bool → Shared → Prop} {E : Value → Shared → Prop},
    Sit c A k f cx W ρ → Gd c f g → Cr c f g W σ s.heap → After c f relB W g s (evTAnd c.T cf l' ρ σ) Q E → wpAny (model c.prog c.w) A (allTrue .And l f.env) Q E s := by
  induction h with
  | nil => intro A f W g ρ σ s Q E S G C h; rw [evTAnd] at h; exact wpAny_pure (After.done h G C rfl)
  | @cons e e' r r' hs he ht ih =>
    intro A f W g ρ σ s Q E S G C h
    rw [evTAnd] at h
    rw [arm_allTrue_cons]
    refine wpAny_bind (he A f W g ρ σ s _ E S G C (After.bind (rel' := relB) h fun a σ₁ v W₁ g₁ h₁ tk e1 le tn G₁ C₁ hv h2 => ?_))
    have hv' : v = a := hv
    subst hv'
    cases v with
    | true => exact ih (S.mono le) G₁ C₁ h2
    | false => exact wpAny_pure (After.done h2 G₁ C₁ rfl)
theorem allOr_ok {l : List PySem.Expr} {l' : Es} (h : All2 (Tok c cf k cx) l l') : ∀ {A : Around} {f : Fm} {W : Wd} {g : Heap} {ρ : Loc} {σ : St} {s : Shared} {Q : Bool → Shared → Prop} {E : Value → Shared → Prop},
    Sit c A k f cx W ρ → Gd c f g → Cr c f g W σ s.heap → After c f relB W g s (evTOr c.T cf l' ρ σ) Q E → wpAny (model c.prog c.w) A (allTrue .Or l f.env) Q E s := by
  induction h with
  | nil => intro A f W g ρ σ s Q E S G C h; rw [evTOr] at h; exact wpAny_pure (After.done h G C rfl)
  | @cons e e' r r' hs he ht ih =>
    intro A f W g ρ σ s Q E S G C h
    rw [evTOr] at h
    rw [arm_allTrue_cons]
    refine wpAny_bind (he A f W g ρ σ s _ E S G C (After.bind (rel' := relB) h fun a σ₁ v W₁ g₁ h₁ tk e1 le tn G₁ C₁ hv h2 => ?_))
    have hv' : v = a := hv
    subst hv'
    cases v with
    | false => exact ih (S.mono le) G₁ C₁ h2
    | true => exact wpAny_pure (After.done h2 G₁ C₁ rfl)
end
end Mine

/-! Soundness, 17d: displays of a dict (own work). -/
namespace Mine
open PySem PySem.W PySem.Spec PySem.Calls PyProof.Rows PySem.SeqAt

def putE (k : Int) (t : PySem.Tok) (v : Value) : List DictEntry → List DictEntry
  | [] => [⟨hashInt k, .int k t, v⟩]
  | e :: r => if Value.isInt k e.key then ⟨e.hash, e.key, v⟩ :: r else e :: putE k t v r
theorem putE_some {k : Int} {t : PySem.Tok} {v : Value} : ∀ {es : List DictEntry} {i : Nat}, es.findIdx? (fun e => Value.isInt k e.key) = some i → es.modify i (fun e => { e with val := v }) = putE k t v es
  | [], i, h => by simp at h
  | e :: r, i, h => by
    rw [List.findIdx?_cons] at h
    unfold putE
    split at h
    · rename_i q; cases h; rw [if_pos q]; rfl
    · rename_i q
      rw [if_neg q]
      obtain ⟨j, hj, rfl⟩ := Option.map_eq_some_iff.mp h
      rw [← putE_some (t := t) hj]; rfl
theorem putE_none {k : Int} {t : PySem.Tok} {v : Value} : ∀ {es : List DictEntry}, es.findIdx? (fun e => Value.isInt k e.key) = none → es ++ [⟨hashInt k, .int k t, v⟩] = putE k t v es
  | [], h => rfl
  | e :: r, h => by
    rw [List.findIdx?_cons] at h
    unfold putE
    split at h
    · cases h
    · rename_i q
      rw [if_neg q, ← putE_none (t := t) (Option.map_eq_none_iff.mp h)]; rfl
theorem putE_len {k : Int} {t : PySem.Tok} {v : Value} (es : List DictEntry) : (putE k t v es).length ≤ es.length + 1 := by
  induction es with
  | nil => simp [putE]
  | cons e r ih => unfold putE; split <;> simp <;> omega
theorem putE_pos {k : Int} {t : PySem.Tok} {v : Value} (es : List DictEntry) : 0 < (putE k t v es).length := by
  cases es with
  | nil => simp [putE]
  | cons e r => unfold putE; split <;> simp
section
variable {K : Frag} {W : Wd}
theorem VRd.put {es : List DictEntry} {l : List (Int × V)} (h : VRd K W es l) {k : Int} {t : PySem.Tok} {v : Value} {x : V} (hv : VR K W v x) : VRd K W (putE k t v es) (putD k x l) := by
  induction l generalizing es with
  | nil => cases h; exact .cons hv .nil
  | cons p r ih =>
    cases h with
    | @cons j u y z es' l' hy hr =>
      unfold putE putD
      by_cases hjk : j = k
      · subst hjk
        rw [if_pos (by simp [Value.isInt]), if_pos (by simp)]
        exact .cons hv hr
      · rw [if_neg (by simpa [Value.isInt] using hjk), if_neg (by simpa using hjk)]
        exact .cons hy (ih hr)
theorem VRd.len {es : List DictEntry} {l : List (Int × V)} (h : VRd K W es l) : es.length = l.length := by
  induction l generalizing es with
  | nil => cases h; rfl
  | cons p r ih => cases h with | cons _ hr => simp [ih hr]
end
theorem putD_len (k : Int) (v : V) (m : List (Int × V)) : (putD k v m).length ≤ m.length + 1 := by
  induction m with
  | nil => simp [putD]
  | cons p r ih => obtain ⟨j, u⟩ := p; unfold putD; split <;> simp <;> omega
theorem putAll_len (l m : List (Int × V)) : (putAll l m).length ≤ m.length + l.length := by
  induction l generalizing m with
  | nil => simp [putAll]
  | cons p r ih =>
    have := ih (putD p.1 p.2 m)
    have := putD_len p.1 p.2 m
    simp only [putAll, List.foldl_cons, List.length_cons] at *; omega
theorem putD_pos (k : Int) (v : V) (m : List (Int × V)) : putD k v m ≠ [] := by
  cases m with
  | nil => simp [putD]
  | cons p r => unfold putD; split <;> simp
theorem putAll_pos (l m : List (Int × V)) (h : m ≠ [] ∨ l ≠ []) : putAll l m ≠ [] := by
  induction l generalizing m with
  | nil => rcases h with h | h; exact h; exact absurd rfl h
  | cons p r ih => exact ih _ (.inl (putD_pos _ _ _))

section
variable {prog : Program} {w : World} {A : Around} {E : Value → Shared → Prop} {s : Shared}
theorem dictSet_ok {d : Addr} {es : List DictEntry} {n : Nat} {k : Int} {t : PySem.Tok} {v : Value} {Q : Unit → Shared → Prop} (ho : s.heap.get? d = some (dictOf es n)) (hk : IntKeys es.toArray) (hz : es.length ≤ sizeLine)
    (h : ∀ h' n', h'.get? d = some (dictOf (putE k t v es) n') → Heap.SameBut d s.heap h' → Q () { s with heap := h', toks := s.toks + 1 }) :
    wpAny (model prog w) A (dictSet d (.int k t) v) Q E s := by
  unfold dictSet
  try with_reducible refine wpAny_holding ?_
  refine wpAny_bind (wpAny_pyHash_int ?_)
  unfold dictSetHashed
  try with_reducible refine wpAny_holding ?_
  refine wpAny_bind (wpAny_dictFind_int (s := { s with toks := s.toks + 1 }) ho rfl hk ?_)
  rw [List.findIdx?_toArray]
  cases hi : es.findIdx? fun e => Value.isInt k e.key with
  | some i =>
    refine wpAny_bind (wpAny_rule (wpAny_bind (wpAny_updateDict (s := { s with toks := s.toks + 1 }) ho rfl (wpAny_point (h _ n ?_ (Heap.SameBut.update ..))))))
    rw [← putE_some (t := t) hi]
    have e := Heap.get?_update_self (f := Obj.mapDict (·.modify i fun e => { e with val := v })) ho rfl
    rw [e]
    simp [Obj.mapDict]
  | none =>
    refine wpAny_bind (wpAny_rule (wpAny_updateDictKeys (hz := by simpa using hz) (s := { s with toks := s.toks + 1 }) ho rfl (h _ (n + 1) ?_ (Heap.SameBut.update ..))))
    rw [← putE_none (t := t) hi]
    have e := Heap.get?_update_self (f := Obj.mapDictKeys (·.push ⟨hashInt k, .int k t, v⟩)) ho rfl
    rw [e]
    simp [Obj.mapDictKeys]
theorem dictPut_ok {d : Addr} {es : List DictEntry} {n : Nat} {k : Int} {t : PySem.Tok} {v : Value} {Q : Unit → Shared → Prop} (ho : s.heap.get? d = some (dictOf es n)) (hk : IntKeys es.toArray) (hz : es.length ≤ sizeLine)
    (h : ∀ h' n', h'.get? d = some (dictOf (putE k t v es) n') → Heap.SameBut d s.heap h' → Q () { s with heap := h' }) :
    wpAny (model prog w) A (dictPut d (hashInt k) (.int k t) v) Q E s := by
  unfold dictPut
  refine wpAny_bind (wpAny_dictFind_int ho rfl hk ?_)
  rw [List.findIdx?_toArray]
  cases hi : es.findIdx? fun e => Value.isInt k e.key with
  | some i =>
    refine wpAny_updateDict ho rfl (h _ n ?_ (Heap.SameBut.update ..))
    rw [← putE_some (t := t) hi]
    have e := Heap.get?_update_self (f := Obj.mapDict (·.modify i fun e => { e with val := v })) ho rfl
    rw [e]
    simp [Obj.mapDict]
  | none =>
    refine wpAny_updateDictKeys (hz := by simpa using hz) ho rfl (h _ (n + 1) ?_ (Heap.SameBut.update ..))
    rw [← putE_none (t := t) hi]
    have e := Heap.get?_update_self (f := Obj.mapDictKeys (·.push ⟨hashInt k, .int k t, v⟩)) ho rfl
    rw [e]
    simp [Obj.mapDictKeys]
end
end Mine

/-! Soundness, 17e: a dict while it is being filled (own work). -/
namespace Mine
open PySem PySem.W PySem.Spec PySem.Calls PyProof.Rows PySem.SeqAt

section
variable {K : Frag} {att : List Str} {g h h' : Heap} {L : Addr} {m : Str → Option Value} {X X' : List (Addr × Obj)} {W : Wd} {σ : St}
theorem Core.sub (C : Core K att g L m X W σ h) (hs : ∀ p ∈ X', p ∈ X) : Core K att g L m X' W σ h :=
  ⟨C.F, fun p hp => C.N p (by
      rcases List.mem_append.mp hp with q | q
      · exact List.mem_append_left _ (hs p q)
      · exact List.mem_append_right _ q), ⟨fun p hp q hq => C.ap.sep p (by
      rcases List.mem_append.mp hp with r | r
      · exact List.mem_append_left _ (hs p r)
      · exact List.mem_append_right _ r) q hq, C.ap.nodup, fun p hp q hq => C.ap.sx p (hs p hp) q hq⟩, C.sr, C.kin, C.knw⟩
theorem Core.pushX (C : Core K att g L m X W σ h) (o : Obj) (hf : o.isFreed = false) : Core K att g L m ((h.objs.size, o) :: X) W σ (h.push o) := by
  have N' := News.push C.F C.N o hf
  refine ⟨C.F.push o, fun p hp => N' p hp, ⟨fun p hp q hq => ?_, C.ap.nodup, fun p hp q hq => ?_⟩, C.sr, C.kin, C.knw⟩
  · rcases List.mem_cons.mp hp with h1 | h1
    · subst h1
      exact Nat.ne_of_gt (C.lt (List.mem_append_right _ (List.mem_append_right _ hq)))
    · exact C.ap.sep p h1 q hq
  · rcases List.mem_cons.mp hp with h1 | h1
    · subst h1
      exact Nat.ne_of_gt (C.lt (List.mem_append_right _ (List.mem_append_left _ hq)))
    · exact C.ap.sx p h1 q hq
theorem Core.setX {d : Addr} {o o' : Obj} (C : Core K att g L m ((d, o) :: X) W σ h) (hs : Heap.SameBut d h h') (ho : h'.get? d = some o') (off : ∀ p ∈ X, p.1 ≠ d) : Core K att g L m ((d, o') :: X) W σ h' := by
  have z := C.N (d, o) (.head _)
  refine ⟨C.F.change hs z.2.1 z.2.2, fun p hp => ?_, ⟨fun p hp q hq => ?_, C.ap.nodup, fun p hp q hq => ?_⟩, C.sr, C.kin, C.knw⟩
  · rcases List.mem_cons.mp hp with h1 | h1
    · subst h1; exact ⟨ho, z.2⟩
    · have y := C.N p (.tail _ h1)
      refine ⟨(hs.2 p.1 ?_).trans y.1, y.2⟩
      rcases List.mem_append.mp h1 with h2 | h2
      · exact off p h2
      · rcases List.mem_append.mp h2 with h3 | h3
        · exact (C.ap.sx (d, o) (.head _) p h3).symm
        · exact (C.ap.sep (d, o) (.head _) p h3).symm
  · rcases List.mem_cons.mp hp with h1 | h1
    · subst h1; exact C.ap.sep (d, o) (.head _) q hq
    · exact C.ap.sep p (.tail _ h1) q hq
  · rcases List.mem_cons.mp hp with h1 | h1
    · subst h1; exact C.ap.sx (d, o) (.head _) q hq
    · exact C.ap.sx p (.tail _ h1) q hq
theorem Core.toFz {d : Addr} {o : Obj} (C : Core K att g L m ((d, o) :: X) W σ h) (off : ∀ p ∈ X, p.1 ≠ d) : Core K att g L m X ⟨(d, o) :: W.fz, W.en, W.kn⟩ σ h := by
  refine ⟨C.F, fun p hp => C.N p ?_, ⟨fun p hp q hq => ?_, C.ap.nodup, fun p hp q hq => ?_⟩, C.sr.mono le_cons, C.kin, C.knw⟩
  · rcases List.mem_append.mp hp with h1 | h1
    · exact .tail _ (List.mem_append_left _ h1)
    · rcases List.mem_cons.mp h1 with h2 | h2
      · rw [h2]; exact .head _
      · exact .tail _ (List.mem_append_right _ h2)
  · rcases List.mem_append.mp hp with h1 | h1
    · exact C.ap.sep p (.tail _ (List.mem_append_left _ h1)) q hq
    · rcases List.mem_cons.mp h1 with h2 | h2
      · rw [h2]; exact C.ap.sep (d, o) (.head _) q hq
      · exact C.ap.sep p (.tail _ (List.mem_append_right _ h2)) q hq
  · rcases List.mem_cons.mp hq with h2 | h2
    · rw [h2]; exact off p hp
    · exact C.ap.sx p (.tail _ hp) q h2
theorem Core.headN {d : Addr} {o : Obj} (C : Core K att g L m ((d, o) :: X) W σ h) : h.get? d = some o := (C.N (d, o) (.head _)).1
end
/-- the frame, with more objects of its own -/
abbrev Fm.plus (f : Fm) (l : List (Addr × Obj)) : Fm := { f with its := l ++ f.its }
section
variable {c : Cf} {cf : CF} {k : Nat} {cx : CX} {f : Fm} {A : Around} {W : Wd} {g : Heap} {ρ : Loc} {σ : St} {s : Shared} {Q : Value → Shared → Prop} {E : Value → Shared → Prop}
theorem Sit.plus (S : Sit c A k f cx W ρ) (l : List (Addr × Obj)) : Sit c A k (f.plus l) cx W ρ :=
  ⟨S.eK, S.eA, S.eM, fun x i a h1 h2 => let ⟨u, hu, r⟩ := S.rd x i a h1 h2
    ⟨u, hu, fun M A' E Q s pos g W' σ' C hQ => r M A' E Q s pos g W' σ' (Core.sub C fun p hp => by
      show p ∈ (l ++ f.its) ++ f.cells
      rw [List.append_assoc]; exact List.mem_append_right _ hp) hQ⟩,
    S.glo, S.bui, S.kin, S.kof, S.units, S.hand, fun q => let r := S.room q; ⟨r.frames, r.frame, r.kind, r.depth, r.units, r.handled⟩, S.len, S.fenv⟩
theorem key_ok (co : CfOk c) (S : Sit c A k f cx W ρ) (G : Gd c f g) (C : Cr c f g W σ s.heap) {x nm : Str} {p pos : Pos} {i j : Nat} {a : V} {n : Int} (hx : cx.slot x = some i) (hρ : ρ[i]? = some (some a)) (hj : c.att[j]? = some nm) (e : getA c.T σ j a = some (.int n))
    (h : ∀ W' h' tk t, W.le W' → Cr c f g W' σ h' → Q (.int n t) { s with heap := h', toks := tk }) : wpAny (model c.prog c.w) A (eval (.Attribute (.Name x p) nm pos) f.env) Q E s := by
  obtain ⟨u, hu, r⟩ := S.rd x i a hx hρ
  rw [arm_eval_Attribute, base_plain rfl]
  refine wpAny_bind (r _ _ _ _ _ _ g W σ C ?_)
  refine wpAny_bind (wpAny_standAt (wpAny_bind (wpAny_holding ?_)))
  refine op_attr C co.tab hj hu e fun v' W' h' tk' le' C' hv' => ?_
  cases hv'
  exact wpAny_bind (wpAny_letTemporaryGo (wpAny_pure (h _ _ _ _ le' C')))
/-- a pair of a display -/
def PairOk (c : Cf) (A : Around) (k : Nat) (f : Fm) (cx : CX) (ρ : Loc) (σ : St) (p : Sem Value × Sem Value) (q : Int × V) : Prop :=
  ∃ m, q.2 = .int m ∧ ∀ (l : List (Addr × Obj)) (W : Wd) (g : Heap) (s : Shared) (Q : Value → Shared → Prop) (E : Value → Shared → Prop), Sit c A k f cx W ρ → Gd c f g → Cr c (f.plus l) g W σ s.heap →
    ((∀ W' h' tk t, W.le W' → Cr c (f.plus l) g W' σ h' → Q (.int q.1 t) { s with heap := h', toks := tk }) → wpAny (model c.prog c.w) A p.1 Q E s) ∧
    ((∀ tk t, Q (.int m t) { s with toks := tk }) → wpAny (model c.prog c.w) A p.2 Q E s)
end
inductive P2 {α β : Type} (R : α → β → Prop) : List α → List β → Prop
  | nil : P2 R [] []
  | cons {a : α} {b : β} {l : List α} {r : List β} (h : R a b) (t : P2 R l r) : P2 R (a :: l) (b :: r)
theorem P2.len {α β : Type} {R : α → β → Prop} {l : List α} {r : List β} (h : P2 R l r) : l.length = r.length := by
  induction h with
  | nil => rfl
  | cons _ _ ih => simp [ih]
theorem P2.take {α β : Type} {R : α → β → Prop} {l : List α} {r : List β} (h : P2 R l r) (n : Nat) : P2 R (l.take n) (r.take n) := by
  induction n generalizing l r with
  | zero => simpa using P2.nil
  | succ n ih => cases h with
    | nil => simpa using P2.nil
    | cons p q => simpa using P2.cons p (ih q)
theorem P2.drop {α β : Type} {R : α → β → Prop} {l : List α} {r : List β} (h : P2 R l r) (n : Nat) : P2 R (l.drop n) (r.drop n) := by
  induction n generalizing l r with
  | zero => simpa using h
  | succ n ih => cases h with
    | nil => simpa using P2.nil
    | cons p q => simpa using ih q
def VP (p : Value × Value) (q : Int × V) : Prop := ∃ t u m, p = (.int q.1 t, .int m u) ∧ q.2 = .int m
section
variable {c : Cf} {k : Nat} {cx : CX} {f : Fm} {A : Around} {W : Wd} {g : Heap} {ρ : Loc} {σ : St} {s : Shared} {E : Value → Shared → Prop}
theorem evalPairs_ok {ps : List (Sem Value × Sem Value)} {is : List (Int × V)} (H : P2 (PairOk c A k f cx ρ σ) ps is) (l : List (Addr × Obj)) : ∀ {W : Wd} {s : Shared} {Q : List (Value × Value) → Shared → Prop}, Sit c A k f cx W ρ → Gd c f g → Cr c (f.plus l) g W σ s.heap →
    (∀ W' h' tk vs, W.le W' → Cr c (f.plus l) g W' σ h' → P2 VP vs is → Q vs { s with heap := h', toks := tk }) → wpAny (model c.prog c.w) A (evalPairs ps) Q E s := by
  induction H with
  | nil => intro W s Q S G C h; exact evalPairs_nil (h W s.heap s.toks [] (.refl W) C .nil)
  | @cons p q ps is hp ht ih =>
    intro W s Q S G C h
    obtain ⟨kx, vx⟩ := p
    obtain ⟨m, hm, H⟩ := hp
    refine evalPairs_cons ((H l W g s _ E S G C).1 fun W₁ h₁ tk₁ t le₁ C₁ => ?_)
    refine (H l W₁ g { s with heap := h₁, toks := tk₁ } _ E (S.mono le₁) G C₁).2 fun tk₂ u => ?_
    refine ih (S.mono le₁) G (s := { s with heap := h₁, toks := tk₂ }) C₁ fun W₂ h₂ tk₃ vs le₂ C₂ hvs => ?_
    exact h W₂ h₂ tk₃ _ (le₁.trans le₂) C₂ (.cons ⟨t, u, m, rfl, hm⟩ hvs)
theorem fill_one {d : Addr} {es : List DictEntry} {n : Nat} {l : List (Addr × Obj)} {mm : List (Int × V)} {p : Value × Value} {q : Int × V} {Q : Unit → Shared → Prop} (hp : VP p q) (C : Cr c (f.plus ((d, dictOf es n) :: l)) g W σ s.heap) (off : ∀ p ∈ (f.plus l).X, p.1 ≠ d) (hr : VRd c.K W es mm) (hz : mm.length ≤ 100000)
    (h : ∀ h' tk es' n', Cr c (f.plus ((d, dictOf es' n') :: l)) g W σ h' → VRd c.K W es' (putD q.1 q.2 mm) → Q () { s with heap := h', toks := tk }) : wpAny (model c.prog c.w) A (dictSet d p.1 p.2) Q E s := by
  obtain ⟨t, u, m, rfl, hm⟩ := hp
  refine dictSet_ok (C.headN) hr.keys (by rw [hr.len, sizeLine_eq]; omega) fun h' n' ho hs => ?_
  exact h h' _ _ n' (C.setX hs ho off) (by rw [hm]; exact hr.put (.int _ _))
theorem storeAll_ok {d : Addr} {vs : List (Value × Value)} {is : List (Int × V)} (H : P2 VP vs is) (l : List (Addr × Obj)) (off : ∀ p ∈ (f.plus l).X, p.1 ≠ d) : ∀ {s : Shared} {es : List DictEntry} {n : Nat} {mm : List (Int × V)} {Q : PUnit → Shared → Prop}, Cr c (f.plus ((d, dictOf es n) :: l)) g W σ s.heap → VRd c.K W es mm → mm.length + is.length ≤ 100000 →
    (∀ h' tk es' n', Cr c (f.plus ((d, dictOf es' n') :: l)) g W σ h' → VRd c.K W es' (putAll is mm) → Q PUnit.unit { s with heap := h', toks := tk }) →
    wpAny (model c.prog c.w) A (forIn vs PUnit.unit fun (x : Value × Value) (_ : PUnit) => (do dictSet d x.1 x.2; pure (ForInStep.yield PUnit.unit) : Sem (ForInStep PUnit))) Q E s := by
  induction H with
  | nil => intro s es n mm Q C hr hz h; rw [List.forIn_nil]; exact wpAny_pure (h s.heap s.toks es n C hr)
  | @cons p q vs is hp ht ih =>
    intro s es n mm Q C hr hz h
    rw [List.forIn_cons]
    rw [List.length_cons] at hz
    refine wpAny_bind (wpAny_bind (fill_one hp C off hr (by omega) fun h₁ tk₁ es₁ n₁ C₁ hr₁ => wpAny_pure ?_))
    refine ih (s := { s with heap := h₁, toks := tk₁ }) C₁ hr₁ (by have := putD_len q.1 q.2 mm; omega) fun h₂ tk₂ es₂ n₂ C₂ hr₂ => ?_
    exact h h₂ tk₂ es₂ n₂ C₂ hr₂
theorem VRd.monoW {W' : Wd} (le : W.le W') {es : List DictEntry} {mm : List (Int × V)} (h : VRd c.K W es mm) : VRd c.K W' es mm := VRd.mono le h
/-- pair by pair -/
theorem fillAll_ok {d : Addr} {ps : List (Sem Value × Sem Value)} {is : List (Int × V)} (H : P2 (PairOk c A k f cx ρ σ) ps is) (l : List (Addr × Obj)) (off : ∀ p ∈ (f.plus l).X, p.1 ≠ d) : ∀ {W : Wd} {s : Shared} {es : List DictEntry} {n : Nat} {mm : List (Int × V)} {Q : PUnit → Shared → Prop}, Sit c A k f cx W ρ → Gd c f g →
    Cr c (f.plus ((d, dictOf es n) :: l)) g W σ s.heap → VRd c.K W es mm → mm.length + is.length ≤ 100000 →
    (∀ W' h' tk es' n', W.le W' → Cr c (f.plus ((d, dictOf es' n') :: l)) g W' σ h' → VRd c.K W' es' (putAll is mm) → Q PUnit.unit { s with heap := h', toks := tk }) →
    wpAny (model c.prog c.w) A (forIn ps PUnit.unit fun (x : Sem Value × Sem Value) (_ : PUnit) => (do
      let kv ← x.1
      let vv ← holding [kv] x.2
      holding [kv, vv] (dictSet d kv vv)
      pure (ForInStep.yield PUnit.unit) : Sem (ForInStep PUnit))) Q E s := by
  induction H with
  | nil => intro W s es n mm Q S G C hr hz h; rw [List.forIn_nil]; exact wpAny_pure (h W s.heap s.toks es n (.refl W) C hr)
  | @cons p q ps is hp ht ih =>
    intro W s es n mm Q S G C hr hz h
    rw [List.forIn_cons]
    rw [List.length_cons] at hz
    obtain ⟨m, hm, H⟩ := hp
    refine wpAny_bind (wpAny_bind ((H ((d, dictOf es n) :: l) W g s _ E S G C).1 fun W₁ h₁ tk₁ t le₁ C₁ => ?_))
    refine wpAny_bind (wpAny_holding ((H ((d, dictOf es n) :: l) W₁ g { s with heap := h₁, toks := tk₁ } _ E (S.mono le₁) G C₁).2 fun tk₂ u => ?_))
    refine wpAny_bind (wpAny_holding (fill_one (s := { s with heap := h₁, toks := tk₂ }) (p := (.int q.1 t, .int m u)) (q := q) ⟨t, u, m, rfl, hm⟩ C₁ off (hr.monoW le₁) (by omega) fun h₂ tk₃ es₂ n₂ C₂ hr₂ => wpAny_pure ?_))
    refine ih (s := { s with heap := h₂, toks := tk₃ }) (S.mono le₁) G C₂ hr₂ (by have := putD_len q.1 q.2 mm; omega) fun W₃ h₃ tk₄ es₃ n₃ le₃ C₃ hr₃ => ?_
    exact h W₃ h₃ tk₄ es₃ n₃ (le₁.trans le₃) C₃ hr₃
theorem off_new {l : List (Addr × Obj)} (C : Cr c (f.plus l) g W σ s.heap) : ∀ p ∈ (f.plus l).X, p.1 ≠ s.heap.objs.size := fun p hp => Nat.ne_of_lt (C.lt (List.mem_append_left _ hp))
theorem sub_ok {ps : List (Sem Value × Sem Value)} {is : List (Int × V)} {Q : Addr → Shared → Prop} (H : P2 (PairOk c A k f cx ρ σ) ps is) (l : List (Addr × Obj)) (S : Sit c A k f cx W ρ) (G : Gd c f g) (C : Cr c (f.plus l) g W σ s.heap) (hz : is.length ≤ 17)
    (h : ∀ W' h' tk es' n', W.le W' → Cr c (f.plus ((s.heap.objs.size, dictOf es' n') :: l)) g W' σ h' → VRd c.K W' es' (putAll is []) → Q s.heap.objs.size { s with heap := h', toks := tk }) :
    wpAny (model c.prog c.w) A (subDict ps) Q E s := by
  have off := off_new C
  have C₀ : Cr c (f.plus ((s.heap.objs.size, dictOf [] 0) :: l)) g W σ (s.heap.push { cls := .type "dict", data := .dict #[] }) := C.pushX { cls := .type "dict", data := .dict #[] } rfl
  unfold subDict
  refine wpAny_bind (wpAny_alloc ?_)
  refine wpAny_bind (wpAny_holding ?_)
  by_cases hl : ps.length ≤ 15
  · rw [if_pos hl]
    refine wpAny_bind (evalPairs_ok H _ S G C₀ fun W₁ h₁ tk₁ vs le₁ C₁ hvs => ?_)
    refine wpAny_holding (wpAny_bind (storeAll_ok hvs l off C₁ .nil (by simp; omega) fun h₂ tk₂ es₂ n₂ C₂ hr₂ => wpAny_pure (wpAny_pure ?_)))
    exact h W₁ h₂ tk₂ es₂ n₂ le₁ C₂ hr₂
  · rw [if_neg hl]
    refine wpAny_bind (wpAny_rule (wpAny_bind (fillAll_ok H l off S G C₀ .nil (by simp; omega) fun W₂ h₂ tk₂ es₂ n₂ le₂ C₂ hr₂ => wpAny_pure (wpAny_pure ?_))))
    exact h W₂ h₂ tk₂ es₂ n₂ le₂ C₂ hr₂
end
end Mine

/-! Soundness, 17f: displays of a dict, whole (own work). -/
namespace Mine
open PySem PySem.W PySem.Spec PySem.Calls PyProof.Rows PySem.SeqAt
theorem putAll_snoc (l m : List (Int × V)) (p : Int × V) : putAll (l ++ [p]) m = putD p.1 p.2 (putAll l m) := by
  simp [putAll, List.foldl_append]
theorem VRd.at {K : Frag} {W : Wd} {es : List DictEntry} {l : List (Int × V)} (h : VRd K W es l) {i : Nat} (hi : i < es.length) : ∃ k t v x, es[i]? = some ⟨hashInt k, .int k t, v⟩ ∧ l[i]? = some (k, x) ∧ VR K W v x := by
  induction l generalizing es i with
  | nil => cases h; simp at hi
  | cons p r ih =>
    cases h with
    | @cons j t v x es' l' hv hr =>
      cases i with
      | zero => exact ⟨j, t, v, x, rfl, rfl, hv⟩
      | succ i => simpa using ih hr (by simpa using hi)
section
variable {c : Cf} {k : Nat} {cx : CX} {f : Fm} {A : Around} {W : Wd} {g : Heap} {ρ : Loc} {σ : St} {s : Shared} {E : Value → Shared → Prop}
theorem merge_ok {d b : Addr} {es es2 : List DictEntry} {n n2 : Nat} {l : List (Addr × Obj)} {mm m2 : List (Int × V)} {Q : Unit → Shared → Prop} (C : Cr c (f.plus ((b, dictOf es2 n2) :: (d, dictOf es n) :: l)) g W σ s.heap)
    (off : ∀ p ∈ (f.plus l).X, p.1 ≠ d) (hbd : b ≠ d) (hr : VRd c.K W es mm) (hr2 : VRd c.K W es2 m2) (ne : mm ≠ []) (hz : mm.length + m2.length ≤ 100000) (hsys : (b == sysModules) = false)
    (h : ∀ h' tk es' n', Cr c (f.plus ((b, dictOf es2 n2) :: (d, dictOf es' n') :: l)) g W σ h' → VRd c.K W es' (putAll m2 mm) → Q () { s with heap := h', toks := tk }) :
    wpAny (model c.prog c.w) A (mergeMapping d (.ref b) false) Q E s := by
  have hb : s.heap.get? b = some (dictOf es2 n2) := C.headN
  have hd : s.heap.get? d = some (dictOf es n) := (C.N (d, dictOf es n) (.tail _ (.head _))).1
  have hT : s.TypeIs (.ref b) "dict" := ⟨_, hb, rfl⟩
  unfold mergeMapping
  refine wpAny_bind (wpAny_isInstance hT F.sub_dict_dict ?_)
  rw [if_pos rfl]
  refine wpAny_bind (wpAny_specialOf hT F.slot_dict_iter.lookup ?_)
  rw [show (some (Value.builtin "dict.__iter__") == some (Value.builtin "dict.__iter__")) = true from by simp]
  refine wpAny_bind (wpAny_pure ?_)
  dsimp only
  rw [hsys, if_neg (by decide)]
  refine wpAny_bind (wpAny_dictEntries hd rfl ?_)
  have hne : es.toArray.isEmpty = false := by
    cases es with
    | nil => cases hr; exact absurd rfl ne
    | cons _ _ => rfl
  rw [hne, if_neg (by decide)]
  refine wpAny_bind (wpAny_dictEntries hb rfl (wpAny_bind (wpAny_dictEpoch hb rfl ?_)))
  have key : ∀ (j i : Nat) (h₁ : Heap) (tk : Nat) (es₁ : List DictEntry) (n₁ : Nat), i + j = es2.length → Cr c (f.plus ((b, dictOf es2 n2) :: (d, dictOf es₁ n₁) :: l)) g W σ h₁ → VRd c.K W es₁ (putAll (m2.take i) mm) →
      wpAny (model c.prog c.w) A (forIn (List.range' i j) PUnit.unit fun i (_ : PUnit) => (do
        let es ← dictEntries b
        match es[i]? with
        | some e => do
          holding [e.key, e.val] (dictPut d e.hash e.key e.val)
          let ep ← dictEpoch b
          if (ep != n2) = true then do
            unsupported "dict.changed-during-merge"
            pure (ForInStep.yield PUnit.unit)
          else pure (ForInStep.yield PUnit.unit)
        | x => do
          unsupported "dict.changed-during-merge"
          pure (ForInStep.yield PUnit.unit) : Sem (ForInStep PUnit))) Q E { s with heap := h₁, toks := tk } := by
    intro j
    induction j with
    | zero =>
      intro i h₁ tk es₁ n₁ hij C₁ hr₁
      rw [List.range'_zero, List.forIn_nil]
      refine wpAny_pure (h h₁ tk es₁ n₁ C₁ ?_)
      rw [List.take_of_length_le (by have := hr2.len; omega)] at hr₁
      exact hr₁
    | succ j ih =>
      intro i h₁ tk es₁ n₁ hij C₁ hr₁
      rw [List.range'_succ, List.forIn_cons]
      obtain ⟨kk, t, v, x, q1, q2, q3⟩ := hr2.at (i := i) (by omega)
      refine wpAny_bind (wpAny_bind (wpAny_dictEntries C₁.headN rfl ?_))
      rw [List.getElem?_toArray, q1]
      dsimp only
      have hd₁ : h₁.get? d = some (dictOf es₁ n₁) := (C₁.N (d, dictOf es₁ n₁) (.tail _ (.head _))).1
      have hlen : (putAll (m2.take i) mm).length ≤ 100000 := by
        have := putAll_len (m2.take i) mm
        have := List.length_take_le' i m2
        omega
      refine wpAny_bind (wpAny_holding (dictPut_ok (s := { s with heap := h₁, toks := tk }) hd₁ hr₁.keys (by rw [hr₁.len, sizeLine_eq]; omega) fun h₂ n₃ ho hs => ?_))
      have C₂ : Cr c (f.plus ((b, dictOf es2 n2) :: (d, dictOf (putE kk t v es₁) n₃) :: l)) g W σ h₂ := by
        have C' : Cr c (f.plus ((d, dictOf es₁ n₁) :: (b, dictOf es2 n2) :: l)) g W σ h₁ := Core.sub C₁ fun p hp => by
          rcases List.mem_cons.mp hp with q | q
          · exact .tail _ (q ▸ .head _)
          · rcases List.mem_cons.mp q with q | q
            · exact q ▸ .head _
            · exact .tail _ (.tail _ q)
        have C'' := Core.setX C' hs ho (fun p hp => by
          rcases List.mem_cons.mp hp with q | q
          · rw [q]; exact hbd
          · exact off p q)
        exact Core.sub C'' fun p hp => by
          rcases List.mem_cons.mp hp with q | q
          · exact .tail _ (q ▸ .head _)
          · rcases List.mem_cons.mp q with q | q
            · exact q ▸ .head _
            · exact .tail _ (.tail _ q)
      refine wpAny_bind (wpAny_dictEpoch C₂.headN rfl ?_)
      rw [if_neg (by simp)]
      refine wpAny_pure (ih (i + 1) h₂ tk _ n₃ (by omega) C₂ ?_)
      have hi : i < m2.length := by have := hr2.len; omega
      have e : m2.take (i + 1) = m2.take i ++ [(kk, x)] := by
        rw [List.take_add_one, q2]; rfl
      rw [e, putAll_snoc]
      exact hr₁.put q3
  have z := key es2.length 0 s.heap s.toks es n (by omega) C (by simpa [putAll] using hr)
  rw [List.range_eq_range']
  refine wpAny_bind ?_
  simp only [Bool.false_eq_true, if_false, List.size_toArray]
  refine wpAny_mono z (fun _ _ q => wpAny_pure q) fun _ _ q => q
/-- what is gathered so far -/
def Main (c : Cf) (f : Fm) (g : Heap) (W : Wd) (σ : St) (h : Heap) : Option Addr → Option (List (Int × V)) → Prop
  | none, none => Cr c f g W σ h
  | some d, some m => ∃ es n, Cr c (f.plus [(d, dictOf es n)]) g W σ h ∧ (∀ p ∈ f.X, p.1 ≠ d) ∧ VRd c.K W es m ∧ m ≠ []
  | _, _ => False
def mlen : Option (List (Int × V)) → Nat
  | none => 0
  | some m => m.length
def flushS (run : List (Sem Value × Sem Value)) (main : Option Addr) : Sem (Option Addr) :=
  if run.isEmpty = true then pure main
  else match main with
    | none => do
      let d ← subDict run
      pure (some d)
    | some d => do
      let sub ← holding [Value.ref d] (subDict run)
      (holding [Value.ref d, Value.ref sub] (mergeMapping d (Value.ref sub) false)).onRaise fun x => do
        let _ ← holding [Value.ref d, x] (runValue (Code.builtin "proto.let_go" { }))
        pure ()
      pure (some d)
theorem flush_len {run : List (Int × V)} {mv : Option (List (Int × V))} : mlen (flushV run mv) ≤ mlen mv + run.length := by
  unfold flushV
  split
  · omega
  · cases mv with
    | none => have := putAll_len run []; simpa [mlen] using this
    | some m => have := putAll_len run []; have := putAll_len (putAll run []) m; simp only [mlen, List.length_nil] at *; omega
theorem flushV_none {run : List (Int × V)} (h : run ≠ []) : flushV run none = some (putAll run []) := by
  unfold flushV
  rw [if_neg (by simpa using h)]
theorem flushV_some {run m : List (Int × V)} (h : run ≠ []) : flushV run (some m) = some (putAll (putAll run []) m) := by
  unfold flushV
  rw [if_neg (by simpa using h)]
theorem flush_ok (co : CfOk c) {run : List (Sem Value × Sem Value)} {is : List (Int × V)} {main : Option Addr} {mv : Option (List (Int × V))} {Q : Option Addr → Shared → Prop} (H : P2 (PairOk c A k f cx ρ σ) run is) (S : Sit c A k f cx W ρ) (G : Gd c f g) (hz : is.length ≤ 17) (hb : mlen mv + is.length ≤ 100000)
    (M : Main c f g W σ s.heap main mv) (h : ∀ W' h' tk main', W.le W' → Main c f g W' σ h' main' (flushV is mv) → Q main' { s with heap := h', toks := tk }) : wpAny (model c.prog c.w) A (flushS run main) Q E s := by
  have hl := H.len
  have T : TopRead c.p c.loose c.mg c.mb g := topRead_of (co.top.keeps G.below.stays)
  unfold flushS
  by_cases he : run = []
  · subst he
    have : is = [] := List.length_eq_zero_iff.mp (by simpa using hl.symm)
    subst this
    rw [if_pos (by rfl)]
    exact wpAny_pure (h W s.heap s.toks main (.refl W) M)
  · have hie : is ≠ [] := fun q => he (List.length_eq_zero_iff.mp (by rw [hl, q]; rfl))
    rw [if_neg (by simpa using he)]
    cases main with
    | none =>
      cases mv with
      | some m => exact M.elim
      | none =>
        have C : Cr c (f.plus []) g W σ s.heap := M
        refine wpAny_bind (sub_ok H [] S G C hz fun W' h' tk es' n' le C' hr => wpAny_pure ?_)
        refine h W' h' tk _ le ?_
        rw [flushV_none hie]
        exact ⟨es', n', C', off_new C, hr, putAll_pos _ _ (.inr hie)⟩
    | some d =>
      cases mv with
      | none => exact M.elim
      | some m =>
        obtain ⟨es, n, C, off, hr, ne⟩ := M
        refine wpAny_bind (wpAny_holding (sub_ok H [(d, dictOf es n)] S G C hz fun W' h' tk es' n' le C' hr' => ?_))
        have offb := off_new C
        have hbd : s.heap.objs.size ≠ d := (offb (d, dictOf es n) (.head _)).symm
        have hbound : m.length + (putAll is []).length ≤ 100000 := by
          have h1 := putAll_len is []
          have h2 : m.length + is.length ≤ 100000 := hb
          rw [List.length_nil] at h1
          omega
        refine wpAny_bind (wpAny_onRaise (wpAny_holding (merge_ok (s := { s with heap := h', toks := tk }) (l := []) C' off hbd (hr.monoW le) hr' ne hbound (C.F.notModules (modules_low T.nolimit)) fun h₂ tk₂ es₂ n₂ C₂ hr₂ => wpAny_pure ?_)))
        refine h W' h₂ tk₂ _ le ?_
        rw [flushV_some hie]
        exact ⟨es₂, n₂, Core.sub C₂ fun p hp => .tail _ hp, off, hr₂, putAll_pos _ _ (.inl ne)⟩
theorem go_ok (co : CfOk c) {items : List (Sem Value × Sem Value)} {is : List (Int × V)} (H : P2 (PairOk c A k f cx ρ σ) items is) (G : Gd c f g)
    (F : Option (Sem Value) × Sem Value → Option Addr × List (Sem Value × Sem Value) → Sem (ForInStep (Option Addr × List (Sem Value × Sem Value))))
    (hF : ∀ (p : Sem Value × Sem Value) r, F (some p.1, p.2) r = if ((r.2 ++ [(p.1, p.2)]).length == 17) = true then (do let m ← flushS (r.2 ++ [(p.1, p.2)]) r.1; pure (ForInStep.yield (m, []))) else pure (ForInStep.yield (r.1, r.2 ++ [(p.1, p.2)]))) :
    ∀ {W : Wd} {s : Shared} {run : List (Sem Value × Sem Value)} {rs : List (Int × V)} {main : Option Addr} {mv : Option (List (Int × V))} {Q : Option Addr × List (Sem Value × Sem Value) → Shared → Prop}, P2 (PairOk c A k f cx ρ σ) run rs → rs.length < 17 → mlen mv + rs.length + is.length ≤ 100000 → Sit c A k f cx W ρ → Main c f g W σ s.heap main mv →
      (∀ W' h' tk main' mv' run' rs', W.le W' → Main c f g W' σ h' main' mv' → P2 (PairOk c A k f cx ρ σ) run' rs' → rs'.length < 17 → mlen mv' + rs'.length ≤ 100000 → goV is rs mv = flushV rs' mv' → Q (main', run') { s with heap := h', toks := tk }) →
      wpAny (model c.prog c.w) A (forIn (items.map fun p => (some p.1, p.2)) ((main, run) : Option Addr × List (Sem Value × Sem Value)) F) Q E s := by
  induction H with
  | nil =>
    intro W s run rs main mv Q R hlt hb S M h
    rw [List.map_nil, List.forIn_nil]
    exact wpAny_pure (h W s.heap s.toks main mv run rs (.refl W) M R hlt (by simpa using hb) rfl)
  | @cons p q items is hp ht ih =>
    intro W s run rs main mv Q R hlt hb S M h
    have R' : P2 (PairOk c A k f cx ρ σ) (run ++ [(p.1, p.2)]) (rs ++ [q]) := by
      clear h hb hlt ih
      induction R with
      | nil => exact .cons hp .nil
      | cons a _ ih => exact .cons a ih
    rw [List.map_cons, List.forIn_cons, hF]
    rw [List.length_cons] at hb
    have hlen := R'.len
    rw [goV] at h
    by_cases h17 : ((rs ++ [q]).length == 17) = true
    · rw [if_pos (by rw [hlen]; exact h17)]
      rw [if_pos h17] at h
      have h17' := beq_iff_eq.mp h17
      refine wpAny_bind (wpAny_bind (flush_ok co R' S G (by omega) (by simp at h17' ⊢; omega) M fun W' h' tk main' le M' => wpAny_pure ?_))
      refine ih (s := { s with heap := h', toks := tk }) .nil (by simp) (by have := flush_len (run := rs ++ [q]) (mv := mv); simp at this ⊢; omega) (S.mono le) M' fun W₂ h₂ tk₂ main₂ mv₂ run₂ rs₂ le₂ M₂ R₂ l₂ b₂ e₂ => ?_
      exact h W₂ h₂ tk₂ main₂ mv₂ run₂ rs₂ (le.trans le₂) M₂ R₂ l₂ b₂ e₂
    · rw [if_neg (by rw [hlen]; exact h17)]
      rw [if_neg h17] at h
      refine wpAny_bind (wpAny_pure ?_)
      refine ih R' (by have : (rs ++ [q]).length ≠ 17 := fun q => h17 (by rw [q]; rfl)
                       simp at this ⊢; omega) (by simp; omega) S M fun W₂ h₂ tk₂ main₂ mv₂ run₂ rs₂ le₂ M₂ R₂ l₂ b₂ e₂ => ?_
      exact h W₂ h₂ tk₂ main₂ mv₂ run₂ rs₂ le₂ M₂ R₂ l₂ b₂ e₂
/-- a display's value -/
theorem display_ok (co : CfOk c) {items : List (Sem Value × Sem Value)} {is m : List (Int × V)} {Q : Value → Shared → Prop} (H : P2 (PairOk c A k f cx ρ σ) items is) (S : Sit c A k f cx W ρ) (G : Gd c f g) (C : Cr c f g W σ s.heap) (hz : is.length ≤ 1000) (hm : goV is [] none = some m)
    (h : ∀ v W' h' tk, W.le W' → Cr c f g W' σ h' → VR c.K W' v (.dct m) → Q v { s with heap := h', toks := tk }) : wpAny (model c.prog c.w) A (dictDisplay (items.map fun p => (some p.1, p.2))) Q E s := by
  unfold dictDisplay
  dsimp only
  refine wpAny_bind (go_ok co H G _ (fun p r => rfl) .nil (by simp) (by simp [mlen]; omega) S (main := none) (mv := none) C fun W' h' tk main' mv' run' rs' le M R hlt hb e => ?_)
  refine wpAny_bind (flush_ok (s := { s with heap := h', toks := tk }) co R (S.mono le) G (by omega) hb M fun W₂ h₂ tk₂ main₂ le₂ M₂ => ?_)
  rw [← e, hm] at M₂
  cases main₂ with
  | none => exact M₂.elim
  | some d =>
    obtain ⟨es, n, C₂, off, hr, ne⟩ := M₂
    refine wpAny_pure (h (.ref d) _ h₂ tk₂ ((le.trans le₂).trans le_cons) (Core.toFz C₂ off) ?_)
    exact .dct (n := n) (.inr (.head _)) (hr.monoW le_cons)
theorem compD_ok (co : CfOk c) (hA : cx.att = c.att) {i : Nat} {a : V} (hρ : ρ[i]? = some (some a)) (pos : Pos) : ∀ {ks : List (Option PySem.Expr)} {vs : List PySem.Expr} {l : List (Nat × Int)} {is : List (Int × V)}, compD cx i ks vs = some l → keysOf c.T σ a l = some is →
    ks.all (·.isSome) = true ∧ ks.length = vs.length ∧ P2 (PairOk c A k f cx ρ σ) (pairTrees ks vs f.env pos) is ∧ is.length = l.length := by
  intro ks
  induction ks with
  | nil =>
    intro vs l is h hk
    unfold compD at h
    split at h
    · cases h
      simp only [keysOf, Option.some.injEq] at hk
      subst hk
      exact ⟨rfl, rfl, .nil, rfl⟩
    · rename_i q; cases q
    · cases h
  | cons x ks ih =>
    intro vs l is h hk
    unfold compD at h
    split at h
    · rename_i q; cases q
    · rename_i y p1 nm p2 ks' v p3 p4 vs' q
      cases q
      split at h
      · rename_i hc
        simp only [Bool.and_eq_true, beq_iff_eq] at hc
        split at h
        · rename_i j l' hj hl
          cases h
          unfold keysOf at hk
          split at hk
          · rename_i n is' hg hk'
            cases hk
            obtain ⟨z1, z2, z3, z4⟩ := ih hl hk'
            refine ⟨by rw [List.all_cons, z1]; rfl, by simp [z2], .cons ⟨v, rfl, fun l W g s Q E S G C => ⟨fun hq => ?_, fun hq => ?_⟩⟩ z3, by simp [z4]⟩
            · rw [hA] at hj
              exact key_ok (f := f.plus l) co (S.plus l) G C hc.1.1 hρ (place_at hj) hg hq
            · exact wpAny_bind (wpAny_Constant_int (wpAny_bind (wpAny_standAt (wpAny_pure (hq _ _)))))
          · cases hk
        · cases h
      · cases h
    · cases h
theorem dict_ok (co : CfOk c) (hA : cx.att = c.att) {i : Nat} {ks : List (Option PySem.Expr)} {vs : List PySem.Expr} {l : List (Nat × Int)} {pos : Pos} {cf : CF} {Q : Value → Shared → Prop} (hc : compD cx i ks vs = some l) (hz : l.length ≤ 1000) (S : Sit c A k f cx W ρ) (G : Gd c f g) (C : Cr c f g W σ s.heap)
    (h : After c f (VR c.K) W g s (ev c.T cf (.dict i l) ρ σ) Q E) : wpAny (model c.prog c.w) A (eval (.Dict ks vs pos) f.env) Q E s := by
  rw [ev] at h
  split at h
  · rename_i a hρ
    obtain ⟨v, hv, ha⟩ := After.ans G h
    obtain ⟨is, hk, hm⟩ := Option.bind_eq_some_iff.mp hv
    obtain ⟨m, hm', rfl⟩ := Option.map_eq_some_iff.mp hm
    obtain ⟨z1, z2, z3, z4⟩ := compD_ok (A := A) (k := k) (f := f) co hA hρ pos hc hk
    rw [arm_eval_Dict, zip_pairTrees ks vs f.env pos z1 z2]
    refine wpAny_bind (wpAny_standAt ?_)
    exact display_ok co z3 S G C (by omega) hm' fun v W' h' tk le C' hv => ha v W' h' tk le C' hv
  · exact h.elim
end
end Mine

/-! Soundness, 18: every expression, joined (own work). -/
namespace Mine
open PySem PySem.W PySem.Spec PySem.Calls PyProof.Rows PySem.SeqAt

section
variable {c : Cf} {cf : CF} {k : Nat}
theorem newTup {M : Model} {A : Around} {E : Value → Shared → Prop} {s : Shared} {l : List PySem.Expr} {env : Env} {kk : Nat} {pos : Pos} {Q : Value → Shared → Prop}
    (h : wpAny M A (spliced (backTo pos (starEach l env))) (fun vs s₁ => vs.length ≤ sizeLine ∧ Q (.ref s₁.heap.objs.size) { s₁ with heap := s₁.heap.push { cls := .type "tuple", data := .seq vs.toArray } }) E s) : wpAny M A (eval (.Tuple l kk pos) env) Q E s := wpAny_Tuple h
theorem marks {op : CmpOp} {r : PySem.Expr} (h : isSet r = false) : behindInMarks op r = false := by
  cases r <;> first | rfl | simp [isSet] at h
def nonTest : Mine.E → Bool
  | .not_ _ => false
  | .and_ _ => false
  | .or_ _ => false
  | .ite _ _ _ => false
  | _ => true
theorem ev_nontest {e' : Mine.E} (h : nonTest e' = true) (T : Tab) (cf : CF) (ρ : Loc) (σ : St) : evT T cf e' ρ σ = (ev T cf e' ρ σ).bind fun v σ => R.of σ (vtruth v) := by
  cases e' <;> first | (simp [nonTest] at h; done) | (rw [evT]; all_goals (intros; rename_i q; cases q))
/-- the truth of what has a value -/
theorem tok_of {cx : CX} {e : PySem.Expr} {e' : E} (H : Eok c cf k cx e e') (h : nonTest e' = true)
    (he : ∀ env whole, isTrue e env whole = (do let v ← whole; standAt e.pos; holding [v] (truthy v))) : Tok c cf k cx e e' := by
  intro A f W g ρ σ s Q E S G C hh
  rw [ev_nontest h] at hh
  refine wpAny_isTrue_value (H A f W g ρ σ s _ E S G C (After.bind (rel' := VR c.K) hh fun a σ₁ v W₁ g₁ h₁ tk e1 le tn G₁ C₁ hv h2 => ?_)) (he _ _)
  cases hb : vtruth a with
  | none => rw [hb] at h2; exact h2.elim
  | some b =>
    rw [hb] at h2
    exact op_truthy hv hb (After.done h2 G₁ C₁ rfl)
def eslen : Es → Nat
  | .nil => 0
  | .cons _ r => eslen r + 1
theorem All2.len {P : PySem.Expr → E → Prop} {l : List PySem.Expr} {l' : Es} (h : All2 P l l') : l.length = eslen l' := by
  induction h with
  | nil => rfl
  | cons _ _ _ ih => simp [eslen, ih]
theorem bind_ok {α β : Type} {r : R α} {f : α → St → R β} {b : β} {σ' : St} (h : r.bind f = .ok b σ') : ∃ a σ₁, r = .ok a σ₁ ∧ f a σ₁ = .ok b σ' := by
  cases r with
  | ok a σ₁ => exact ⟨a, σ₁, rfl, h⟩
  | exc x σ => cases h
  | bad => cases h
theorem evs_len {T : Tab} {cf : CF} : ∀ {l : Es} {ρ : Loc} {σ σ' : St} {as : List V}, evs T cf l ρ σ = .ok as σ' → as.length = eslen l
  | .nil, ρ, σ, σ', as, h => by rw [evs] at h; cases h; rfl
  | .cons e r, ρ, σ, σ', as, h => by
    rw [evs] at h
    obtain ⟨a, σ₁, h1, h2⟩ := bind_ok h
    obtain ⟨bs, σ₂, h3, h4⟩ := bind_ok h2
    cases h4
    simp [eslen, evs_len h3]
theorem ev_ok (co : CfOk c) (hcf : CallOk c k cf) : ∀ (n : Nat) (cx : CX) (e : PySem.Expr) (e' : E), cx.K = c.K → cx.att = c.att → (cx.q = false → cx.tgt = none) → compE n cx e = some e' → Eok c cf k cx e e' ∧ Tok c cf k cx e e' := by
  intro n
  induction n using Nat.strongRecOn with
  | ind n IH =>
    intro cx e e' hK hA hqt h
    cases n with
    | zero => unfold compE at h; cases h
    | succ n =>
    have one : ∀ {e : PySem.Expr} {e' : E}, compE n cx e = some e' → Eok c cf k cx e e' ∧ Tok c cf k cx e e' := fun q => IH n (Nat.lt_succ_self n) cx _ _ hK hA hqt q
    have row : ∀ {l : List PySem.Expr} {l' : Es}, compEs n cx l = some l' → All2 (fun e e' => Eok c cf k cx e e' ∧ Tok c cf k cx e e') l l' := fun q => (compEs_all q).mono fun e e' ⟨m, hm, hq⟩ => IH m (Nat.lt_succ_of_lt hm) cx e e' hK hA hqt hq
    have rowE : ∀ {l : List PySem.Expr} {l' : Es}, compEs n cx l = some l' → All2 (Eok c cf k cx) l l' := fun q => (row q).mono fun _ _ h => h.1
    have rowT : ∀ {l : List PySem.Expr} {l' : Es}, compEs n cx l = some l' → All2 (Tok c cf k cx) l l' := fun q => (row q).mono fun _ _ h => h.2
    unfold compE at h
    split at h
    · -- a constant
      rename_i kk kn pos
      obtain ⟨v, hv, rfl⟩ := Option.map_eq_some_iff.mp h
      have H : Eok c cf k cx (.Constant kk kn pos) (.lit v) := fun A f W g ρ σ s Q E S G C h => by rw [ev] at h; exact const_ok G C hv h
      exact ⟨H, tok_of H rfl fun _ _ => rfl⟩
    · -- a name
      rename_i x pos
      split at h
      · rename_i i hi
        cases h
        have H : Eok c cf k cx (.Name x pos) (.loc i) := fun A f W g ρ σ s Q E S G C h => by
          rw [ev] at h
          split at h
          · rename_i a ha
            obtain ⟨u, hu, r⟩ := S.rd x i a hi ha
            exact r _ _ _ _ _ _ g W σ C (After.done h G C hu)
          · exact h.elim
        exact ⟨H, tok_of H rfl fun _ _ => rfl⟩
      · split at h
        · rename_i hc
          simp only [Bool.and_eq_true, beq_iff_eq, Bool.not_eq_true'] at hc
          obtain ⟨v, hv, rfl⟩ := Option.map_eq_some_iff.mp h
          obtain ⟨u, h1, h2⟩ := Option.bind_eq_some_iff.mp hv
          have H : Eok c cf k cx (.Name x pos) (.lit v) := fun A f W g ρ σ s Q E S G C h => by
            rw [ev] at h
            exact glob_ok co S G C hc.1 hc.2 h1 (After.done h G C (reify_ok (by rw [S.eK] at h2; exact h2)))
          exact ⟨H, tok_of H rfl fun _ _ => rfl⟩
        · cases h
    · -- and
      rename_i es pos
      obtain ⟨l, hl, rfl⟩ := Option.map_eq_some_iff.mp h
      exact ⟨fun A f W g ρ σ s Q E S G C h => by rw [ev] at h; rw [arm_eval_BoolOp]; exact boolAnd_ok (rowE hl) pos S G C h,
        fun A f W g ρ σ s Q E S G C h => by rw [evT] at h; exact wpAny_isTrue_BoolOp (allAnd_ok (rowT hl) S G C h)⟩
    · -- or
      rename_i es pos
      obtain ⟨l, hl, rfl⟩ := Option.map_eq_some_iff.mp h
      exact ⟨fun A f W g ρ σ s Q E S G C h => by rw [ev] at h; rw [arm_eval_BoolOp]; exact boolOr_ok (rowE hl) pos S G C h,
        fun A f W g ρ σ s Q E S G C h => by rw [evT] at h; exact wpAny_isTrue_BoolOp (allOr_ok (rowT hl) S G C h)⟩
    · -- a binary operation
      rename_i l o r pos
      split at h
      · rename_i p a b h0 h1 h2
        cases h
        have H : Eok c cf k cx (.BinOp l o r pos) (.bin p a b) := fun A f W g ρ σ s Q E S G C h => by
          rw [ev] at h
          refine wpAny_BinOp ((one h1).1 A f W g ρ σ s _ E S G C (After.bind (rel' := VR c.K) h fun a σ₁ v W₁ g₁ h₁ tk e1 le tn G₁ C₁ hv h2' => ?_))
          refine (one h2).1 A f W₁ g₁ ρ σ₁ _ _ E (S.mono le) G₁ C₁ (After.bind (rel' := VR c.K) h2' fun b σ₂ v₂ W₂ g₂ h₂ tk₂ e2 le₂ tn₂ G₂ C₂ hv₂ h3 => ?_)
          obtain ⟨r, hr, ha⟩ := After.ans G₂ h3
          exact op_bin C₂ h0 (hv.mono le₂) hv₂ hr ha
        exact ⟨H, tok_of H rfl fun _ _ => rfl⟩
      · cases h
    · -- not
      rename_i a pos
      obtain ⟨a', ha, rfl⟩ := Option.map_eq_some_iff.mp h
      exact ⟨fun A f W g ρ σ s Q E S G C h => by
          rw [ev] at h
          refine wpAny_UnaryOp ((one ha).1 A f W g ρ σ s _ E S G C (After.bind (rel' := VR c.K) h fun a σ₁ v W₁ g₁ h₁ tk e1 le tn G₁ C₁ hv h2 => ?_))
          cases hb : vtruth a with
          | none => rw [hb] at h2; exact h2.elim
          | some b =>
            rw [hb] at h2
            exact not_value (op_truthy hv hb (After.done h2 G₁ C₁ (VR.bool _))),
        fun A f W g ρ σ s Q E S G C h => by
          rw [evT] at h
          refine wpAny_isTrue_Not ((one ha).2 A f W g ρ σ s _ E S G C (After.bind (rel' := relB) h fun a σ₁ v W₁ g₁ h₁ tk e1 le tn G₁ C₁ hv h2 => ?_))
          have hv' : v = a := hv
          subst hv'
          exact After.done h2 G₁ C₁ rfl⟩
    · -- invert
      rename_i a pos
      obtain ⟨a', ha, rfl⟩ := Option.map_eq_some_iff.mp h
      have H : Eok c cf k cx (.UnaryOp .Invert a pos) (.inv a') := fun A f W g ρ σ s Q E S G C h => by
        rw [ev] at h
        refine wpAny_UnaryOp ((one ha).1 A f W g ρ σ s _ E S G C (After.bind (rel' := VR c.K) h fun a σ₁ v W₁ g₁ h₁ tk e1 le tn G₁ C₁ hv h2 => ?_))
        cases a <;> try exact h2.elim
        exact op_inv C₁ hv (After.ansOk G₁ h2)
      exact ⟨H, tok_of H rfl fun _ _ => rfl⟩
    · -- minus
      rename_i a pos
      obtain ⟨a', ha, rfl⟩ := Option.map_eq_some_iff.mp h
      have H : Eok c cf k cx (.UnaryOp .USub a pos) (.neg a') := fun A f W g ρ σ s Q E S G C h => by
        rw [ev] at h
        refine wpAny_UnaryOp ((one ha).1 A f W g ρ σ s _ E S G C (After.bind (rel' := VR c.K) h fun a σ₁ v W₁ g₁ h₁ tk e1 le tn G₁ C₁ hv h2 => ?_))
        cases a <;> try exact h2.elim
        exact op_neg C₁ hv (After.ansOk G₁ h2)
      exact ⟨H, tok_of H rfl fun _ _ => rfl⟩
    · -- a choice
      rename_i t a b pos
      split at h
      · rename_i t' a' b' h0 h1 h2
        cases h
        exact ⟨fun A f W g ρ σ s Q E S G C h => by
            rw [ev] at h
            refine wpAny_IfExp ((one h0).2 A f W g ρ σ s _ E S G C (After.bind (rel' := relB) h fun a σ₁ v W₁ g₁ h₁ tk e1 le tn G₁ C₁ hv h3 => ?_))
            have hv' : v = a := hv
            subst hv'
            cases v with
            | true => exact (one h1).1 A f W₁ g₁ ρ σ₁ _ _ E (S.mono le) G₁ C₁ h3
            | false => exact (one h2).1 A f W₁ g₁ ρ σ₁ _ _ E (S.mono le) G₁ C₁ h3,
          fun A f W g ρ σ s Q E S G C h => by
            rw [evT] at h
            rw [arm_isTrue_IfExp]
            refine wpAny_bind ((one h0).2 A f W g ρ σ s _ E S G C (After.bind (rel' := relB) h fun a σ₁ v W₁ g₁ h₁ tk e1 le tn G₁ C₁ hv h3 => ?_))
            have hv' : v = a := hv
            subst hv'
            cases v with
            | true => exact (one h1).2 A f W₁ g₁ ρ σ₁ _ _ E (S.mono le) G₁ C₁ h3
            | false => exact (one h2).2 A f W₁ g₁ ρ σ₁ _ _ E (S.mono le) G₁ C₁ h3⟩
      · cases h
    · -- a comparison
      rename_i l o r pos
      split at h
      · cases h
      · rename_i hset
        have hset : isSet r = false := by simpa using hset
        split at h
        · rename_i a b h1 h2
          cases h
          have go : ∀ {Q' : Value → Shared → Prop} {A : Around} {f : Fm} {W : Wd} {g : Heap} {ρ : Loc} {σ : St} {s : Shared} {E : Value → Shared → Prop}, Sit c A k f cx W ρ → Gd c f g → Cr c f g W σ s.heap → After c f (VR c.K) W g s (ev c.T cf (.cmp (opC o) a b) ρ σ) Q' E →
              wpAny (model c.prog c.w) A (eval l f.env) (fun x s₁ => wpAny (model c.prog c.w) A (eval r f.env) (fun y s₂ => wpAny (model c.prog c.w) A (compareOp o x y) Q' E s₂) E s₁) E s := by
            intro Q' A f W g ρ σ s E S G C h
            rw [ev] at h
            refine (one h1).1 A f W g ρ σ s _ E S G C (After.bind (rel' := VR c.K) h fun a σ₁ v W₁ g₁ h₁ tk e1 le tn G₁ C₁ hv h2' => ?_)
            refine (one h2).1 A f W₁ g₁ ρ σ₁ _ _ E (S.mono le) G₁ C₁ (After.bind (rel' := VR c.K) h2' fun b σ₂ v₂ W₂ g₂ h₂ tk₂ e2 le₂ tn₂ G₂ C₂ hv₂ h3 => ?_)
            obtain ⟨r, hr, ha⟩ := After.ans G₂ h3
            obtain ⟨bb, hb, rfl⟩ := Option.map_eq_some_iff.mp hr
            exact op_cmp C₂ co.tab S.line (hv.mono le₂) hv₂ hb ha
          refine ⟨fun A f W g ρ σ s Q E S G C h => wpAny_Compare1 (go S G C h) (marks hset), fun A f W g ρ σ s Q E S G C h => ?_⟩
          rw [ev_nontest rfl] at h
          refine wpAny_isTrue_Compare1 (go S G C (After.bind (rel' := VR c.K) h fun a σ₁ v W₁ g₁ h₁ tk e1 le tn G₁ C₁ hv h2 => ?_)) (marks hset)
          cases hb : vtruth a with
          | none => rw [hb] at h2; exact h2.elim
          | some b =>
            rw [hb] at h2
            exact op_truthy hv hb (After.done h2 G₁ C₁ rfl)
        · cases h
    · -- a dict
      rename_i ks vs pos
      split at h
      · cases h
      · split at h
        · rename_i i hi
          split at h
          · rename_i l hl
            split at h
            · rename_i hlen
              cases h
              have H : Eok c cf k cx (.Dict ks vs pos) (.dict i l) := fun A f W g ρ σ s Q E S G C h => dict_ok co hA hl hlen S G C h
              exact ⟨H, tok_of H rfl fun _ _ => rfl⟩
            · cases h
          · cases h
        · cases h
    · -- a list
      rename_i es pos
      split at h
      case isFalse => cases h
      rename_i hlen
      obtain ⟨l, hl, rfl⟩ := Option.map_eq_some_iff.mp h
      have H : Eok c cf k cx (.List es pos) (.lst l) := fun A f W g ρ σ s Q E S G C h => by
        rw [ev] at h
        refine wpAny_List (spliced_ok (rowE hl) pos S G C (After.bind (rel' := VRs c.K) h fun as σ₁ vs W₁ g₁ h₁ tk e1 le tn G₁ C₁ hv h2 => ⟨?_, ?_⟩))
        · rw [hv.length, evs_len e1, ← (rowE hl).len, sizeLine_eq]; omega
        · exact h2 _ _ g₁ _ tk le_cons .refl G₁ (C₁.pushF { cls := .type "list", data := .seq vs.toArray } rfl) (.lst (n := 0) (.inr (.head _)) (hv.mono le_cons))
      exact ⟨H, tok_of H rfl fun _ _ => rfl⟩
    · -- a tuple
      rename_i es kk pos
      split at h
      case isFalse => cases h
      rename_i hlen
      obtain ⟨l, hl, rfl⟩ := Option.map_eq_some_iff.mp h
      have H : Eok c cf k cx (.Tuple es kk pos) (.tup l) := fun A f W g ρ σ s Q E S G C h => by
        rw [ev] at h
        refine wpAny_Tuple (spliced_ok (rowE hl) pos S G C (After.bind (rel' := VRs c.K) h fun as σ₁ vs W₁ g₁ h₁ tk e1 le tn G₁ C₁ hv h2 => ⟨?_, ?_⟩))
        · rw [hv.length, evs_len e1, ← (rowE hl).len, sizeLine_eq]; omega
        · exact h2 _ _ g₁ _ tk le_cons .refl G₁ (C₁.pushF { cls := .type "tuple", data := .seq vs.toArray } rfl) (.tup (n := 0) (.inr (.head _)) (hv.mono le_cons))
      exact ⟨H, tok_of H rfl fun _ _ => rfl⟩
    · -- a slice
      rename_i a lo hi p pos
      split at h
      · rename_i a' lo' hi' h1 h2 h3
        cases h
        have part : ∀ {x : Option PySem.Expr} {x' : E}, compO n cx x = some x' → ∀ {A : Around} {f : Fm} {W : Wd} {g : Heap} {ρ : Loc} {σ : St} {s : Shared} {Q : Value → Shared → Prop} {E : Value → Shared → Prop}, Sit c A k f cx W ρ → Gd c f g → Cr c f g W σ s.heap → After c f (VR c.K) W g s (ev c.T cf x' ρ σ) Q E →
            wpAny (model c.prog c.w) A (evalPart x f.env) Q E s := by
          intro x x' hx A f W g ρ σ s Q E S G C h
          cases n with
          | zero => unfold compO at hx; cases hx
          | succ n =>
            cases x with
            | none => unfold compO at hx; cases hx; rw [ev] at h; exact wpAny_pure (After.done h G C .none)
            | some e => unfold compO at hx; exact (IH n (Nat.lt_succ_of_lt (Nat.lt_succ_self n)) cx _ _ hK hA hqt hx).1 A f W g ρ σ s Q E S G C h
        have H : Eok c cf k cx (.Subscript a (.Slice lo hi none p) pos) (.sli a' lo' hi') := fun A f W g ρ σ s Q E S G C h => by
          rw [ev] at h
          refine Subscript_ ((one h1).1 A f W g ρ σ s _ E S G C (After.bind (rel' := VR c.K) h fun x σ₁ v W₁ g₁ h₁ tk e1 le tn G₁ C₁ hv h4 => ?_))
          refine wpAny_Slice (part h2 (S.mono le) G₁ C₁ (After.bind (rel' := VR c.K) h4 fun y σ₂ v₂ W₂ g₂ h₂ tk₂ e2 le₂ tn₂ G₂ C₂ hv₂ h5 => ?_))
          refine part h3 ((S.mono le).mono le₂) G₂ C₂ (After.bind (rel' := VR c.K) h5 fun z σ₃ v₃ W₃ g₃ h₃ tk₃ e3 le₃ tn₃ G₃ C₃ hv₃ h6 => ?_)
          rw [evalPart_none]
          refine wpAny_pure ?_
          obtain ⟨r, hr, ha⟩ := After.ans G₃ h6
          exact op_slice (s := { s with heap := h₃, toks := tk₃ }) C₃ ((hv.mono le₂).mono le₃) (hv₂.mono le₃) hv₃ hr ha
        exact ⟨H, tok_of H rfl fun _ _ => rfl⟩
      · cases h
    · -- an item
      rename_i a i pos hns
      split at h
      · cases h
      · rename_i hsl
        have hsl : isSlice i = false := by simpa using hsl
        split at h
        · rename_i a' i' h1 h2
          cases h
          have H : Eok c cf k cx (.Subscript a i pos) (.idx a' i') := fun A f W g ρ σ s Q E S G C h => by
            rw [ev] at h
            refine Subscript_ ((one h1).1 A f W g ρ σ s _ E S G C (After.bind (rel' := VR c.K) h fun x σ₁ v W₁ g₁ h₁ tk e1 le tn G₁ C₁ hv h4 => ?_))
            refine (one h2).1 A f W₁ g₁ ρ σ₁ _ _ E (S.mono le) G₁ C₁ (After.bind (rel' := VR c.K) h4 fun y σ₂ v₂ W₂ g₂ h₂ tk₂ e2 le₂ tn₂ G₂ C₂ hv₂ h5 => ?_)
            obtain ⟨r, hr, ha⟩ := After.ans G₂ h5
            exact op_idx C₂ hsl (hv.mono le₂) hv₂ hr ha
          exact ⟨H, tok_of H rfl fun _ _ => rfl⟩
        · cases h
    · -- a comprehension
      rename_i elt t px it ifs sc pos
      split at h
      · rename_i hc
        simp only [Bool.and_eq_true, Bool.not_eq_true', decide_eq_true_eq] at hc
        obtain ⟨⟨⟨⟨c1, c2⟩, c3⟩, c4⟩, c5⟩ := hc
        split at h
        · rename_i s' e1 p' h1 h2 h3
          cases h
          have H : Eok c cf k cx (.ListComp elt [⟨.Name t px, it, ifs, 0⟩] sc pos) (.comp e1 s' p') := fun A f W g ρ σ s Q E S G C h =>
            comp_ok c1 (hqt c1) c3 c4 c5 (IH n (Nat.lt_succ_self n) { cx with q := true } _ _ hK hA (fun q => by cases q) h1).1
              (IH n (Nat.lt_succ_self n) { cx with sc := sc, tgt := some t, q := true } _ _ hK hA (fun q => by cases q) h2).1
              ((compEs_all h3).mono fun e e' ⟨m, hm, hq⟩ => (IH m (Nat.lt_succ_of_lt hm) { cx with sc := sc, tgt := some t, q := true } e e' hK hA (fun q => by cases q) hq).2) S G C h
          exact ⟨H, tok_of H rfl fun _ _ => rfl⟩
        · cases h
      · cases h
    · -- an attribute
      rename_i o a pos
      split at h
      · cases h
      · rename_i hc
        simp only [Bool.or_eq_true, not_or, Bool.not_eq_true', Bool.not_eq_true, Bool.not_eq_false] at hc
        split at h
        · rename_i o' ho
          have go : ∀ {e' : E} {fn : St → V → Option V}, (∀ ρ σ, ev c.T cf e' ρ σ = (ev c.T cf o' ρ σ).bind fun x σ => R.of σ (fn σ x)) →
              (∀ {A : Around} {f : Fm} {W : Wd} {g : Heap} {σ : St} {s : Shared} {E : Value → Shared → Prop} {Q : Value → Shared → Prop} {v : Value} {x b : V}, Cr c f g W σ s.heap → VR c.K W v x → fn σ x = some b → Ans c.K c.att g f.L f.m f.X W σ s b Q → wpAny (model c.prog c.w) A (getAttr v a true) Q E s) →
              Eok c cf k cx (.Attribute o a pos) e' := by
            intro e' fn he hop A f W g ρ σ s Q E S G C h
            rw [he] at h
            rw [arm_eval_Attribute, base_plain hc.2]
            refine wpAny_bind ((one ho).1 A f W g ρ σ s _ E S G C (After.bind (rel' := VR c.K) h fun x σ₁ v W₁ g₁ h₁ tk e1 le tn G₁ C₁ hv h2 => ?_))
            refine wpAny_bind (wpAny_standAt (wpAny_bind (wpAny_holding ?_)))
            obtain ⟨b, hb, ha⟩ := After.ans G₁ h2
            refine hop C₁ hv hb fun v' W' h' tk' le' C' hv' => ?_
            exact wpAny_bind (wpAny_letTemporaryGo (wpAny_pure (ha v' W' h' tk' le' C' hv')))
          split at h
          · rename_i q
            cases h
            obtain rfl := beq_iff_eq.mp q
            have H := go (e' := .clsOf o') (fn := clsA c.T) (fun ρ σ => by rw [ev]) fun C hv hb ha => op_clsOf C co.tab hv hb ha
            exact ⟨H, tok_of H rfl fun _ _ => rfl⟩
          · split at h
            · rename_i q
              cases h
              obtain rfl := beq_iff_eq.mp q
              have H := go (e' := .nameOf o') (fn := fun _ => nameA c.T) (fun ρ σ => by rw [ev]) fun C hv hb ha => op_nameOf C co.tab hv hb ha
              exact ⟨H, tok_of H rfl fun _ _ => rfl⟩
            · obtain ⟨i, hi, rfl⟩ := Option.map_eq_some_iff.mp h
              rw [hA] at hi
              have H := go (e' := .attr o' i) (fn := fun σ => getA c.T σ i) (fun ρ σ => by rw [ev]) fun C hv hb ha => op_attr C co.tab (place_at hi) hv hb ha
              exact ⟨H, tok_of H rfl fun _ _ => rfl⟩
        · cases h
    · -- a method's call
      rename_i o a ap as ks pos
      split at h
      · cases h
      · rename_i hc
        simp only [Bool.or_eq_true, not_or, Bool.not_eq_true', Bool.not_eq_true, Bool.not_eq_false] at hc
        obtain ⟨⟨⟨c1, c2⟩, _⟩, c4⟩ := hc
        split at h
        · rename_i o' i es ns vs h1 h2 h3 h4
          split at h
          · rename_i hlen
            cases h
            rw [hA] at h2
            have hk4 : AllK (Eok c cf k cx) c.att ks ns vs := by
              have := compK_all h4
              rw [hA] at this
              exact this.mono fun e e' ⟨m, hm, hq⟩ => (IH m (Nat.lt_succ_of_lt hm) cx e e' hK hA hqt hq).1
            have H : Eok c cf k cx (.Call (.Attribute o a ap) as ks pos) (.meth o' i es ns vs) := fun A f W g ρ σ s Q E S G C h => by
              rw [ev] at h
              rw [arm_eval_Call, base_plain c2]
              refine wpAny_bind ((one h1).1 A f W g ρ σ s _ E S G C (After.bind (rel' := VR c.K) h fun x σ₁ v W₁ g₁ h₁ tk e1 le tn G₁ C₁ hv h2' => ?_))
              refine wpAny_bind (wpAny_standAt ?_)
              exact methodCall_ok co hcf (rowE h3) hk4 c1 (S.mono le) G₁ C₁ (place_at h2) c4 hlen hv h2'
            exact ⟨H, tok_of H rfl fun _ _ => rfl⟩
          · cases h
        · cases h
    · -- a call by name
      rename_i fx fp as pos
      split at h
      · rename_i i hi
        split at h
        · cases h
        · rename_i hq
          have hq : cx.q = false := by simpa using hq
          obtain ⟨es, hes, rfl⟩ := Option.map_eq_some_iff.mp h
          have H : Eok c cf k cx (.Call (.Name fx fp) as [] pos) (.call (.loc i) es) := fun A f W g ρ σ s Q E S G C h => by
            rw [ev] at h
            rw [ev] at h
            cases hr : ρ[i]? with
            | none => rw [hr] at h; exact h.elim
            | some o =>
              cases o with
              | none => rw [hr] at h; exact h.elim
              | some a =>
                rw [hr] at h
                obtain ⟨u, hu, r⟩ := S.rd fx i a hi hr
                exact wpAny_Call_Name_kw (r _ _ _ _ _ _ g W σ C (call_ok co hcf (rowE hes) hq S G C hu h))
          exact ⟨H, tok_of H rfl fun _ _ => rfl⟩
      · split at h
        · rename_i hc
          simp only [Bool.and_eq_true, beq_iff_eq, Bool.not_eq_true'] at hc
          split at h
          · rename_i v hv
            split at h
            · rename_i b hb
              split at h
              · rename_i es hes
                have plain : ∀ {e' : Mine.E} {kont : Bl → List V → St → Mine.R V}, (∀ ρ σ, ev c.T cf e' ρ σ = (evs c.T cf es ρ σ).bind fun vs σ => kont b vs σ) →
                    (∀ {A : Around} {f : Fm} {W : Wd} {g : Heap} {ρ : Loc} {σ : St} {s : Shared} {E : Value → Shared → Prop} {Q : Value → Shared → Prop} {vs : List Value} {xs : List V}, Sit c A k f cx W ρ → Gd c f g → Cr c f g W σ s.heap → VRs c.K W vs xs → After c f (VR c.K) W g s (kont b xs σ) Q E → wpAny (model c.prog c.w) A (call v vs) Q E s) →
                    Eok c cf k cx (.Call (.Name fx fp) as [] pos) e' := by
                  intro e' kont he hop A f W g ρ σ s Q E S G C h
                  rw [he] at h
                  obtain ⟨p1, _, _⟩ := starPlain (rowE hes) pos f.env
                  refine wpAny_Call_Name_kw (glob_ok co S G C hc.1 hc.2 hv ?_)
                  refine callWith_of (P := fun _ => True) (by rw [p1]; rfl) (fun h _ => blt_keep hb) ?_
                  refine evalArgs_ok (kont := fun as _ σ => kont b as σ) (ns := []) (rowE hes) .nil S G C (by simpa [evs, R.bind] using h) fun xs ks σ' vs kws W' g' h' tk le tn G' C' hvs hkw h2 => ⟨trivial, ?_⟩
                  cases hkw
                  exact hop (S.mono le) G' C' hvs h2
                split at h
                · split at h
                  · cases h
                  · cases h
                    have H := plain (e' := .bltQ b es) (kont := fun b vs σ => vblt c.T σ b vs) (fun ρ σ => by rw [ev]) fun S G C hvs h2 => vblt_ok co S G C hb hvs h2
                    exact ⟨H, tok_of H rfl fun _ _ => rfl⟩
                · rename_i hq
                  have hq : cx.q = false := by simpa using hq
                  cases h
                  have H := plain (e' := .blt b es) (kont := fun b vs σ => match b, vs with
                    | .len, [v] => match lenObj c.T cf σ v with
                      | some r => r
                      | none => vblt c.T σ .len [v]
                    | b, vs => vblt c.T σ b vs) (fun ρ σ => by rw [ev] <;> rfl) fun {A f W g ρ σ s E Q vs xs} S G C hvs h2 => by
                      split at h2
                      · rename_i x
                        cases hvs with
                        | cons hx hr =>
                          cases hr
                          have hvl : v = .builtin "len" := by unfold blOf at hb; split at hb <;> cases hb; rfl
                          subst hvl
                          split at h2
                          · rename_i r hlo
                            exact len_ok co hcf (S.room hq) G C hx hlo h2
                          · exact vblt_ok co S G C hb (.cons hx .nil) h2
                      · exact vblt_ok co S G C hb hvs h2
                  exact ⟨H, tok_of H rfl fun _ _ => rfl⟩
              · cases h
            · split at h
              · cases h
              · rename_i hq
                have hq : cx.q = false := by simpa using hq
                split at h
                · rename_i a st kk pp _
                  split at h
                  · rename_i a' i h1 h2
                    cases h
                    rw [hA] at h2
                    have H : Eok c cf k cx (.Call (.Name fx fp) [a, .Constant (.str st) kk pp] [] pos) (.has a' i) := fun A f W g ρ σ s Q E S G C h => by
                      rw [ev] at h
                      refine wpAny_Call_Name_kw (glob_ok co S G C hc.1 hc.2 hv ?_)
                      have hs : notStar a = true := by
                        cases a <;> first | rfl | (cases n <;> simp [compE] at h1)
                      have hst : backTo pos (starEach [a, .Constant (.str st) kk pp] f.env) = [(false, eval a f.env), (false, eval (.Constant (.str st) kk pp) f.env)] := by rw [starEach_cons hs]; rfl
                      rw [hst]
                      refine callWith_of (P := fun _ => True) rfl (fun h _ => ⟨.machine, .inr (.inl rfl), .now⟩) ?_
                      refine evalArgs_plain (spliced_cons ((one h1).1 A f W g ρ σ s _ E S G C (After.bind (rel' := VR c.K) h fun x σ₁ v W₁ g₁ h₁ tk e1 le tn G₁ C₁ hv₁ h3 => ?_)))
                      refine spliced_cons (wpAny_Constant_str (spliced_nil ⟨trivial, ?_⟩))
                      obtain ⟨b, hb, ha⟩ := After.ans G₁ h3
                      obtain ⟨bb, hbb, rfl⟩ := Option.map_eq_some_iff.mp hb
                      exact op_has (s := { s with heap := h₁, toks := tk + 1 }) C₁ co.tab S.hand (place_at h2) hv₁ hbb ha
                    exact ⟨H, tok_of H rfl fun _ _ => rfl⟩
                  · cases h
                · rename_i ad
                  split at h
                  · rename_i b es h1 h2
                    cases h
                    have H : Eok c cf k cx (.Call (.Name fx fp) as [] pos) (.call (.lit (.cls b)) es) := fun A f W g ρ σ s Q E S G C h => by
                      rw [ev] at h
                      rw [ev] at h
                      exact wpAny_Call_Name_kw (glob_ok co S G C hc.1 hc.2 hv (call_ok co hcf (rowE h2) hq S G C (reify_ok (by rw [S.eK] at h1; exact h1)) h))
                    exact ⟨H, tok_of H rfl fun _ _ => rfl⟩
                  · cases h
                · cases h
          · cases h
        · cases h
    · cases h
end
end Mine

/-! Soundness, 19: the frame of a function: reading and storing names (own work). -/
namespace Mine
open PySem PySem.W PySem.Spec PySem.Calls PyProof.Rows PySem.SeqAt

/-- what never changes in a function's run -/
structure Run (c : Cf) (A : Around) (k : Nat) (f : Fm) (cx : CX) (cl : List (Str × Addr)) : Prop where
  eK : cx.K = c.K
  eA : cx.att = c.att
  eM : cx.mu = c.mu
  q : cx.q = false
  tgt : cx.tgt = none
  env : ∃ cn fa cd, f.env = envX cn cx.sc f.L fa cd cl
  kind : cx.sc.kind = .function
  ndbg : ∀ n ∈ cx.sc.names, (n.1 == ("__debug__" : Str)) = false
  room : RoomB A k f
  inj : ∀ x y ca, cl.lookup x = some ca → cl.lookup y = some ca → x = y
  nocell : (∀ n ∈ cx.sc.names, n.2 ≠ .cell) → cl = []
structure LocR (c : Cf) (f : Fm) (cx : CX) (cl : List (Str × Addr)) (W : Wd) (ρ : Loc) : Prop where
  len : ρ.length = cx.loc.length
  loc : ∀ x i, place x cx.loc = some i → cx.sc.names.lookup x = some .local → ∀ v, ρ[i]? = some (some v) → ∃ u, f.m x = some u ∧ VR c.K W u v
  cel : ∀ x, cx.sc.names.lookup x = some .cell → ∃ ca o vo, cl.lookup x = some ca ∧ (ca, o) ∈ f.cells ∧ o.data = .cell vo ∧ ∀ i v, place x cx.loc = some i → ρ[i]? = some (some v) → ∃ u, vo = some u ∧ VR c.K W u v
  nd : (f.cells.map (·.1)).Nodup
  apart : ∀ p ∈ f.its, ∀ q ∈ f.cells, p.1 ≠ q.1
section
variable {c : Cf} {A : Around} {k : Nat} {f : Fm} {cx : CX} {cl : List (Str × Addr)} {W W' : Wd} {ρ : Loc} {g : Heap} {σ : St} {s : Shared} {E : Value → Shared → Prop}
theorem LocR.mono (h : LocR c f cx cl W ρ) (le : W.le W') : LocR c f cx cl W' ρ :=
  ⟨h.len, fun x i h1 h2 v h3 => let ⟨u, a, b⟩ := h.loc x i h1 h2 v h3; ⟨u, a, b.mono le⟩, fun x hx => let ⟨ca, o, vo, h1, h2, h3, h4⟩ := h.cel x hx; ⟨ca, o, vo, h1, h2, h3, fun i v a b => let ⟨u, d, e⟩ := h4 i v a b; ⟨u, d, e.mono le⟩⟩, h.nd, h.apart⟩
theorem slot_cases (R : Run c A k f cx cl) {x : Str} {i : Nat} (h : cx.slot x = some i) : place x cx.loc = some i ∧ (cx.sc.names.lookup x = some .local ∨ cx.sc.names.lookup x = some .cell) := by
  unfold CX.slot at h
  rw [R.tgt] at h
  dsimp only at h
  split at h
  · exact ⟨h, .inl (by assumption)⟩
  · exact ⟨h, .inr (by assumption)⟩
  · cases h
theorem Run.sit (R : Run c A k f cx cl) (L : LocR c f cx cl W ρ) : Sit c A k f cx W ρ := by
  obtain ⟨cn, fa, cd, he⟩ := R.env
  refine ⟨R.eK, R.eA, R.eM, fun x i a hs hi => ?_, by rw [he], by rw [he], by rw [he]; exact R.kind, fun x hx => by rw [he]; exact hx, by have := R.room.units; omega, R.room.handled, fun _ => R.room, fun _ => L.len, fun _ => ⟨cn, fa, cd, cl, he, fun x hx => ?_⟩⟩
  · obtain ⟨hp, hk⟩ := slot_cases R hs
    rcases hk with hk | hk
    · obtain ⟨u, hm, hu⟩ := L.loc x i hp hk a hi
      refine ⟨u, hu, fun M A' E Q s pos g W' σ' C hQ => ?_⟩
      rw [he]
      exact nameX_L C.F hm hQ R.kind hk (R.ndbg _ (mem_of_lookup hk))
    · obtain ⟨ca, o, vo, h1, h2, h3, h4⟩ := L.cel x hk
      obtain ⟨u, rfl, hu⟩ := h4 i a hp hi
      refine ⟨u, hu, fun M A' E Q s pos g W' σ' C hQ => ?_⟩
      rw [he]
      exact nameX_C C.N h1 (List.mem_append_left _ (List.mem_append_right _ h2)) h3 hQ R.kind hk (R.ndbg _ (mem_of_lookup hk))
  · obtain ⟨ca, o, vo, h1, h2, h3, h4⟩ := L.cel x hx
    exact ⟨ca, o, vo, h1, h2, h3, fun i v hs hi => h4 i v (slot_cases R hs).1 hi⟩
theorem place_inj {x y : Str} {l : List Str} {i : Nat} (h1 : place x l = some i) (h2 : place y l = some i) : x = y := by
  have a := place_at h1; have b := place_at h2
  rw [a] at b; cases b; rfl
theorem place_lt {x : Str} {l : List Str} {i : Nat} (h : place x l = some i) : i < l.length := (List.getElem?_eq_some_iff.mp (place_at h)).1
/-- a cell is written -/
def setCell (ca : Addr) (o : Obj) : List (Addr × Obj) → List (Addr × Obj)
  | [] => []
  | p :: r => if p.1 = ca then (ca, o) :: r else p :: setCell ca o r
theorem setCell_addr {ca : Addr} {o : Obj} : ∀ {l : List (Addr × Obj)}, (setCell ca o l).map (·.1) = l.map (·.1)
  | [] => rfl
  | p :: r => by
    unfold setCell
    split
    · rename_i h; simp [h]
    · simp [setCell_addr]
theorem setCell_mem {ca : Addr} {o : Obj} : ∀ {l : List (Addr × Obj)}, ca ∈ l.map (·.1) → (ca, o) ∈ setCell ca o l
  | p :: r, h => by
    unfold setCell
    split
    · exact .head _
    · rename_i hne
      rcases List.mem_cons.mp h with q | q
      · exact absurd q.symm hne
      · exact .tail _ (setCell_mem q)
theorem setCell_other {ca : Addr} {o : Obj} {p : Addr × Obj} (hp : p.1 ≠ ca) : ∀ {l : List (Addr × Obj)}, p ∈ l → p ∈ setCell ca o l
  | q :: r, h => by
    unfold setCell
    split
    · rename_i hq
      rcases List.mem_cons.mp h with rfl | h
      · exact absurd hq hp
      · exact .tail _ h
    · rcases List.mem_cons.mp h with rfl | h
      · exact .head _
      · exact .tail _ (setCell_other hp h)
theorem setCell_updF {ca : Addr} {o : Obj} {tail : List (Addr × Obj)} (ht : ∀ p ∈ tail, p.1 ≠ ca) : ∀ {l : List (Addr × Obj)}, (l.map (·.1)).Nodup → (ca, o) ∈ l → UpdF ca o (l ++ tail) (fun o' => setCell ca o' l ++ tail)
  | q :: r, nd, h => by
    simp only [List.map_cons, List.nodup_cons] at nd
    by_cases hq : q.1 = ca
    · have : q = (ca, o) := by
        rcases List.mem_cons.mp h with h | h
        · exact h.symm
        · exact absurd (hq ▸ List.mem_map_of_mem (f := (·.1)) h) nd.1
      subst this
      have e : (fun o' => setCell ca o' ((ca, o) :: r) ++ tail) = fun o' => (ca, o') :: (r ++ tail) := by
        funext o'
        rw [setCell, if_pos rfl]; rfl
      rw [e]
      refine .head fun p hp => ?_
      rcases List.mem_append.mp hp with hp | hp
      · exact fun z => nd.1 (z ▸ List.mem_map_of_mem (f := (·.1)) hp)
      · exact ht p hp
    · have hm : (ca, o) ∈ r := (List.mem_cons.mp h).resolve_left fun z => hq (by rw [← z])
      have e : (fun o' => setCell ca o' (q :: r) ++ tail) = fun o' => q :: (setCell ca o' r ++ tail) := by
        funext o'
        rw [setCell, if_neg hq]; rfl
      rw [e]
      exact .tail hq (setCell_updF ht nd.2 hm)
theorem updF_skip {d : Addr} {o : Obj} {l : List (Addr × Obj)} {G : Obj → List (Addr × Obj)} (u : UpdF d o l G) : ∀ {pre : List (Addr × Obj)}, (∀ p ∈ pre, p.1 ≠ d) → UpdF d o (pre ++ l) (fun o' => pre ++ G o')
  | [], _ => u
  | p :: r, h => .tail (h p (.head _)) (updF_skip u fun q hq => h q (.tail _ hq))
/-- a name is stored -/
theorem store_ok (R : Run c A k f cx cl) (L : LocR c f cx cl W ρ) (C : Cr c f g W σ s.heap) {M : Model} {x : Str} {i : Nat} {u : Value} {a : V} {Q : Unit → Shared → Prop} (hs : cx.slot x = some i) (hu : VR c.K W u a)
    (h : ∀ m' cells' h' tk, cells'.map (·.1) = f.cells.map (·.1) → Cr c { f with m := m', cells := cells' } g W σ h' → LocR c { f with m := m', cells := cells' } cx cl W (ρ.set i (some a)) → Q () { s with heap := h', toks := tk }) :
    wpAny M A (storeName f.env x u) Q E s := by
  obtain ⟨cn, fa, cd, he⟩ := R.env
  obtain ⟨hp, hk⟩ := slot_cases R hs
  have hil := place_lt hp
  have hget : ∀ {y : Str} {j : Nat} {v : V}, place y cx.loc = some j → (ρ.set i (some a))[j]? = some (some v) → (y = x ∧ v = a) ∨ (y ≠ x ∧ ρ[j]? = some (some v)) := by
    intro y j v hj hv
    by_cases hji : i = j
    · subst hji
      rw [List.getElem?_set_self (by rw [L.len]; exact hil)] at hv
      cases hv
      exact .inl ⟨place_inj hj hp, rfl⟩
    · rw [List.getElem?_set_ne hji] at hv
      exact .inr ⟨fun q => hji (by subst q; rw [hp] at hj; cases hj; rfl), hv⟩
  rw [he]
  rcases hk with hk | hk
  · refine storeX_L C.F C.N (fun h' F' N' => ?_) R.kind hk
    refine h (fun y => if y = x then some u else f.m y) f.cells h' _ rfl ⟨F', N', C.ap, C.sr, C.kin, C.knw⟩ ⟨by simpa using L.len, fun y j hj hkj v hv => ?_, fun y hy => ?_, L.nd, L.apart⟩
    · rcases hget hj hv with ⟨rfl, rfl⟩ | ⟨hne, hv⟩
      · exact ⟨u, by simp, hu⟩
      · obtain ⟨w, hw, hw'⟩ := L.loc y j hj hkj v hv
        exact ⟨w, by simpa [hne] using hw, hw'⟩
    · obtain ⟨ca, o, vo, h1, h2, h3, h4⟩ := L.cel y hy
      refine ⟨ca, o, vo, h1, h2, h3, fun j v hj hv => ?_⟩
      rcases hget hj hv with ⟨rfl, rfl⟩ | ⟨hne, hv⟩
      · rw [hk] at hy; cases hy
      · exact h4 j v hj hv
  · obtain ⟨ca, o, vo, h1, h2, h3, h4⟩ := L.cel x hk
    have hled : ∀ p ∈ W.led, p.1 ≠ ca := fun p hp q => by
      rcases List.mem_append.mp hp with hp | hp
      · exact C.ap.sx (ca, o) (List.mem_append_right _ h2) p hp q.symm
      · exact C.ap.sep (ca, o) (List.mem_append_left _ (List.mem_append_right _ h2)) p hp q.symm
    have U := updF_skip (setCell_updF hled L.nd h2) (pre := f.its) fun p hp => L.apart p hp (ca, o) h2
    rw [← List.append_assoc] at U
    refine storeX_C C.F C.N h1 U h3 (fun h' o' F' N' hd => ?_) R.kind hk
    have N'' : News g f.L h' ((f.its ++ setCell ca o' f.cells) ++ W.led) := by rw [List.append_assoc]; exact N'
    have addr := setCell_addr (ca := ca) (o := o') (l := f.cells)
    have back : ∀ p ∈ setCell ca o' f.cells, ∃ q ∈ f.cells, q.1 = p.1 := fun p hp => by
      have : p.1 ∈ (setCell ca o' f.cells).map (·.1) := List.mem_map_of_mem hp
      rw [addr] at this
      obtain ⟨q, hq, e⟩ := List.mem_map.mp this
      exact ⟨q, hq, e⟩
    have ap' : Apart (f.its ++ setCell ca o' f.cells) W := ⟨fun p hp q hq => ?_, C.ap.nodup, fun p hp q hq => ?_⟩
    · refine h f.m (setCell ca o' f.cells) h' s.toks addr ⟨F', N'', ap', C.sr, C.kin, C.knw⟩ ⟨by simpa using L.len, fun y j hj hkj v hv => ?_, fun y hy => ?_, by show ((setCell ca o' f.cells).map (·.1)).Nodup; rw [addr]; exact L.nd, fun p hp q hq => ?_⟩
      · rcases hget hj hv with ⟨rfl, rfl⟩ | ⟨hne, hv⟩
        · rw [hk] at hkj; cases hkj
        · exact L.loc y j hj hkj v hv
      · by_cases hyx : y = x
        · subst hyx
          refine ⟨ca, o', some u, h1, setCell_mem (List.mem_map_of_mem (f := (·.1)) h2), hd, fun j v hj hv => ?_⟩
          rcases hget hj hv with ⟨_, rfl⟩ | ⟨hne, _⟩
          · exact ⟨u, rfl, hu⟩
          · exact absurd rfl hne
        · obtain ⟨ca2, o2, vo2, q1, q2, q3, q4⟩ := L.cel y hy
          have hne : ca2 ≠ ca := fun q => hyx (R.inj y x ca2 q1 (q ▸ h1))
          refine ⟨ca2, o2, vo2, q1, setCell_other hne q2, q3, fun j v hj hv => ?_⟩
          rcases hget hj hv with ⟨q, _⟩ | ⟨_, hv⟩
          · exact absurd q hyx
          · exact q4 j v hj hv
      · obtain ⟨q', hq', e⟩ := back q hq
        rw [← e]
        exact L.apart p hp q' hq'
    · rcases List.mem_append.mp hp with hp | hp
      · rcases List.mem_append.mp hp with hp | hp
        · exact C.ap.sep p (List.mem_append_left _ (List.mem_append_left _ hp)) q hq
        · obtain ⟨q', hq', e⟩ := back p hp
          rw [← e]
          exact C.ap.sep q' (List.mem_append_left _ (List.mem_append_right _ hq')) q hq
      · exact C.ap.sep p (List.mem_append_right _ hp) q hq
    · rcases List.mem_append.mp hp with hp | hp
      · exact C.ap.sx p (List.mem_append_left _ hp) q hq
      · obtain ⟨q', hq', e⟩ := back p hp
        rw [← e]
        exact C.ap.sx q' (List.mem_append_right _ hq') q hq
end
end Mine

/-! Soundness, 20: statements (own work). -/
namespace Mine
open PySem PySem.W PySem.Spec PySem.Calls PyProof.Rows PySem.SeqAt

abbrev Fm.upd (f : Fm) (m' : Str → Option Value) (cells' : List (Addr × Obj)) : Fm := { f with m := m', cells := cells' }
inductive FlR (c : Cf) (W : Wd) : Flow → Fl → Prop
  | next : FlR c W .next .next
  | cont : FlR c W .cont .cont
  | ret {v : Value} {a : V} (h : VR c.K W v a) : FlR c W (.ret v) (.ret a)
/-- what a statement leaves -/
def AfterS (c : Cf) (f : Fm) (cx : CX) (cl : List (Str × Addr)) (W : Wd) (g : Heap) (s : Shared) (r : R (Fl × Loc)) (Q : Flow → Shared → Prop) (E : Value → Shared → Prop) : Prop := match r with
  | .ok (fl, ρ') σ' => ∀ flv W' g' m' cells' h' tk, W.le W' → Tn f g g' → Gd c f g' → cells'.map (·.1) = f.cells.map (·.1) → Cr c (f.upd m' cells') g' W' σ' h' → FlR c W' flv fl → ((∀ v, fl ≠ .ret v) → LocR c (f.upd m' cells') cx cl W' ρ') → Q flv { s with heap := h', toks := tk }
  | .exc x σ' => ∀ e s', Exn c f W g s x σ' e s' → E e s'
  | .bad => False
section
variable {c : Cf} {cf : CF} {k : Nat} {cx : CX} {f : Fm} {cl : List (Str × Addr)} {A : Around} {W W' : Wd} {g g' : Heap} {ρ : Loc} {σ : St} {s : Shared} {Q : Flow → Shared → Prop} {E : Value → Shared → Prop}
theorem Exn.stepF {x : X} {σ' : St} {e : Value} {s' : Shared} {h' : Heap} {tk : Nat} {m' : Str → Option Value} {cells' : List (Addr × Obj)} (le : W.le W') (t : Tn f g g') (hc : cells'.map (·.1) = f.cells.map (·.1)) (h : Exn c (f.upd m' cells') W' g' { s with heap := h', toks := tk } x σ' e s') : Exn c f W g s x σ' e s' := by
  obtain ⟨ea, W'', g'', m'', cells'', h'', tk', h1, h2, h3, h4, h5, h6, h7⟩ := h
  exact ⟨ea, W'', g'', m'', cells'', h'', tk', h1, h2, le.trans h3, t.trans h4, h5, h6.trans hc, h7⟩
theorem AfterS.step {r : R (Fl × Loc)} {h' : Heap} {tk : Nat} {m' : Str → Option Value} {cells' : List (Addr × Obj)} (h : AfterS c f cx cl W g s r Q E) (le : W.le W') (t : Tn f g g') (hc : cells'.map (·.1) = f.cells.map (·.1)) :
    AfterS c (f.upd m' cells') cx cl W' g' { s with heap := h', toks := tk } r Q E := by
  cases r with
  | ok q σ' =>
    obtain ⟨fl, ρ'⟩ := q
    exact fun flv W'' g'' m'' cells'' h'' tk' le' t' G hc' C hf hl => h flv W'' g'' m'' cells'' h'' tk' (le.trans le') (t.trans t') G (hc'.trans hc) C hf hl
  | exc x σ' => exact fun e s' he => h e s' (Exn.stepF le t hc he)
  | bad => exact h
theorem AfterS.here {r : R (Fl × Loc)} {h' : Heap} {tk : Nat} (h : AfterS c f cx cl W g s r Q E) (le : W.le W') (t : Tn f g g') : AfterS c f cx cl W' g' { s with heap := h', toks := tk } r Q E := h.step le t rfl
/-- first an expression -/
theorem AfterS.bindE {γ δ : Type} {rel' : Wd → δ → γ → Prop} {r : R γ} {kont : γ → St → R (Fl × Loc)} {Q₁ : δ → Shared → Prop} (h : AfterS c f cx cl W g s (r.bind kont) Q E)
    (q : ∀ a σ' v W' g' h' tk, r = .ok a σ' → W.le W' → Tn f g g' → Gd c f g' → Cr c f g' W' σ' h' → rel' W' v a → AfterS c f cx cl W' g' { s with heap := h', toks := tk } (kont a σ') Q E → Q₁ v { s with heap := h', toks := tk }) : After c f rel' W g s r Q₁ E := by
  cases r with
  | ok a σ' => exact fun v W' g' h' tk le t G C hv => q a σ' v W' g' h' tk rfl le t G C hv (h.here le t)
  | exc x σ' => exact h
  | bad => exact h
/-- the end of a statement -/
theorem AfterS.done {fl : Fl} {flv : Flow} (h : AfterS c f cx cl W g s (.ok (fl, ρ) σ) Q E) (G : Gd c f g) (C : Cr c f g W σ s.heap) (hf : FlR c W flv fl) (hl : LocR c f cx cl W ρ) : Q flv s :=
  h flv W g f.m f.cells s.heap s.toks (.refl W) .refl G rfl C hf fun _ => hl
theorem AfterS.doneT {fl : Fl} {flv : Flow} (h : AfterS c f cx cl W g s (.ok (fl, ρ) σ) Q E) (G : Gd c f g) {h' : Heap} {tk : Nat} (le : W.le W') (C : Cr c f g W' σ h') (hf : FlR c W' flv fl) (hl : LocR c f cx cl W' ρ) : Q flv { s with heap := h', toks := tk } :=
  h flv W' g f.m f.cells h' tk le .refl G rfl C hf fun _ => hl
theorem Run.upd {m' : Str → Option Value} {cells' : List (Addr × Obj)} (R : Run c A k f cx cl) : Run c A k (f.upd m' cells') cx cl :=
  ⟨R.eK, R.eA, R.eM, R.q, R.tgt, R.env, R.kind, R.ndbg, ⟨R.room.frames, R.room.frame, R.room.kind, R.room.depth, R.room.units, R.room.handled⟩, R.inj, R.nocell⟩
theorem Gd.upd {m' : Str → Option Value} {cells' : List (Addr × Obj)} (G : Gd c f g) : Gd c (f.upd m' cells') g := G
end
/-- a statement does as the evaluator says -/
def Sok (c : Cf) (cf : CF) (k : Nat) (cx : CX) (st : PySem.Stmt) (st' : Mine.S) : Prop := ∀ (A : Around) (f : Fm) (cl : List (Str × Addr)) (W : Wd) (g : Heap) (ρ : Loc) (σ : St) (s : Shared) (Q : Flow → Shared → Prop) (E : Value → Shared → Prop),
  Run c A k f cx cl → A = f.A₀.deeper f.env → LocR c f cx cl W ρ → Gd c f g → Cr c f g W σ s.heap → AfterS c f cx cl W g s (ex c.T cf st' ρ σ) Q E → wpAny (model c.prog c.w) A (exec st f.env) Q E s
def SSok (c : Cf) (cf : CF) (k : Nat) (cx : CX) (st : List PySem.Stmt) (st' : Mine.Ss) : Prop := ∀ (A : Around) (f : Fm) (cl : List (Str × Addr)) (W : Wd) (g : Heap) (ρ : Loc) (σ : St) (s : Shared) (Q : Flow → Shared → Prop) (E : Value → Shared → Prop),
  Run c A k f cx cl → A = f.A₀.deeper f.env → LocR c f cx cl W ρ → Gd c f g → Cr c f g W σ s.heap → AfterS c f cx cl W g s (exs c.T cf st' ρ σ) Q E → wpAny (model c.prog c.w) A (execs st f.env) Q E s
section
variable {c : Cf} {cf : CF} {k : Nat} {cx : CX}
theorem ss_nil : SSok c cf k cx [] .nil := fun A f cl W g ρ σ s Q E R hA L G C h => by
  rw [exs] at h
  exact wpAny_execs_nil (AfterS.done h G C .next L)
theorem ss_cons {st : PySem.Stmt} {st' : Mine.S} {r : List PySem.Stmt} {r' : Mine.Ss} (h1 : Sok c cf k cx st st') (h2 : SSok c cf k cx r r') : SSok c cf k cx (st :: r) (.cons st' r') := fun A f cl W g ρ σ s Q E R hA L G C h => by
  rw [exs] at h
  refine wpAny_execs_cons (h1 A f cl W g ρ σ s _ E R hA L G C ?_)
  cases hr : ex c.T cf st' ρ σ with
  | bad => rw [hr] at h; exact h
  | exc x σ' => rw [hr] at h; exact h
  | ok q σ' =>
    obtain ⟨fl, ρ'⟩ := q
    rw [hr] at h
    intro flv W' g' m' cells' h' tk le t G' hc C' hf hl
    cases hf with
    | next => exact h2 A (f.upd m' cells') cl W' g' ρ' σ' _ Q E R.upd hA (hl fun v q => by cases q) G' C' (h.step le t hc)
    | cont => exact h _ W' g' m' cells' h' tk le t G' hc C' .cont hl
    | ret hv => exact h _ W' g' m' cells' h' tk le t G' hc C' (.ret hv) hl
/-- after a store -/
theorem store_next {A : Around} {f : Fm} {cl : List (Str × Addr)} {W : Wd} {g : Heap} {ρ : Loc} {σ : St} {s : Shared} {Q : Flow → Shared → Prop} {E : Value → Shared → Prop} {x : Str} {i : Nat} {u : Value} {a : V} (R : Run c A k f cx cl) (L : LocR c f cx cl W ρ) (G : Gd c f g) (C : Cr c f g W σ s.heap) (hs : cx.slot x = some i) (hu : VR c.K W u a)
    (h : AfterS c f cx cl W g s (.ok (.next, ρ.set i (some a)) σ) Q E) : wpAny (model c.prog c.w) A (storeName f.env x u) (fun _ => Q .next) E s :=
  store_ok R L C hs hu fun m' cells' h' tk hc C' L' => h .next W g m' cells' h' tk (.refl W) .refl G hc C' .next fun _ => L'
theorem load_ok {A : Around} {f : Fm} {cl : List (Str × Addr)} {W : Wd} {g : Heap} {ρ : Loc} {σ : St} {s : Shared} {E : Value → Shared → Prop} {Q : Value → Shared → Prop} {M : Model} {x : Str} {i : Nat} {a : V} (R : Run c A k f cx cl) (L : LocR c f cx cl W ρ) (C : Cr c f g W σ s.heap) (hs : cx.slot x = some i) (hi : ρ[i]? = some (some a))
    (h : ∀ u, VR c.K W u a → Q u s) : wpAny M A (loadName f.env x) Q E s := by
  obtain ⟨cn, fa, cd, he⟩ := R.env
  obtain ⟨hp, hk⟩ := slot_cases R hs
  rw [he]
  rcases hk with hk | hk
  · obtain ⟨u, hm, hu⟩ := L.loc x i hp hk a hi
    exact wpAny_loadName_local R.kind hk C.F.ns hm (h u hu)
  · obtain ⟨ca, o, vo, h1, h2, h3, h4⟩ := L.cel x hk
    obtain ⟨u, rfl, hu⟩ := h4 i a hp hi
    exact wpAny_loadName_cell R.kind hk h1 ⟨o, C.N.get (List.mem_append_left _ (List.mem_append_right _ h2)), h3⟩ (h u hu)
variable {n : Nat}
/-- what the expressions below say -/
def Below' (c : Cf) (cf : CF) (k : Nat) (cx : CX) : Prop := ∀ (n : Nat) (e : PySem.Expr) (e' : Mine.E), compE n cx e = some e' → Eok c cf k cx e e' ∧ Tok c cf k cx e e'
theorem s_ret (B : Below' c cf k cx) {e : PySem.Expr} {e' : Mine.E} {pos : Pos} (h1 : compE n cx e = some e') : Sok c cf k cx (.Return (some e) pos) (.ret e') := fun A f cl W g ρ σ s Q E R hA L G C h => by
  rw [ex] at h
  rw [exec_Return_some]
  refine wpAny_bind (wpAny_standAt (wpAny_bind ((B n e e' h1).1 A f W g ρ σ s _ E (R.sit L) G C (AfterS.bindE (rel' := VR c.K) h fun a σ₁ v W₁ g₁ h₁ tk e1 le tn G₁ C₁ hv h2 => ?_))))
  exact wpAny_pure (AfterS.done h2 G₁ C₁ (.ret hv) (L.mono le))
theorem s_retN {pos : Pos} : Sok c cf k cx (.Return none pos) (.ret (.lit .none)) := fun A f cl W g ρ σ s Q E R hA L G C h => by
  rw [ex, ev] at h
  rw [exec_Return_none]
  exact wpAny_bind (wpAny_standAt (wpAny_pure (AfterS.done h G C (.ret .none) L)))
theorem s_if (B : Below' c cf k cx) {t : PySem.Expr} {t' : Mine.E} {a b : List PySem.Stmt} {a' b' : Mine.Ss} {pos : Pos} (h1 : compE n cx t = some t') (ha : SSok c cf k cx a a') (hb : SSok c cf k cx b b') : Sok c cf k cx (.If t a b pos) (.ite t' a' b') := fun A f cl W g ρ σ s Q E R hA L G C h => by
  rw [ex] at h
  rw [exec_If]
  refine wpAny_bind (wpAny_standAt (wpAny_bind ((B n t t' h1).2 A f W g ρ σ s _ E (R.sit L) G C (AfterS.bindE (rel' := relB) h fun a σ₁ v W₁ g₁ h₁ tk e1 le tn G₁ C₁ hv h2 => ?_))))
  have hv' : v = a := hv
  subst hv'
  cases v with
  | true => exact ha A f cl W₁ g₁ ρ σ₁ _ Q E R hA (L.mono le) G₁ C₁ h2
  | false => exact hb A f cl W₁ g₁ ρ σ₁ _ Q E R hA (L.mono le) G₁ C₁ h2
theorem s_cont {pos : Pos} : Sok c cf k cx (.Continue pos) .cont := fun A f cl W g ρ σ s Q E R hA L G C h => by
  rw [ex] at h
  exact wpAny_Continue (AfterS.done h G C .cont L)
theorem s_assert (B : Below' c cf k cx) {t : PySem.Expr} {t' : Mine.E} {msg : Option PySem.Expr} {pos : Pos} (h1 : compE n cx t = some t') : Sok c cf k cx (.Assert t msg pos) (.asrt t') := fun A f cl W g ρ σ s Q E R hA L G C h => by
  rw [ex] at h
  refine wpAny_Assert_holds ((B n t t' h1).2 A f W g ρ σ s _ E (R.sit L) G C (AfterS.bindE (rel' := relB) h fun a σ₁ v W₁ g₁ h₁ tk e1 le tn G₁ C₁ hv h2 => ?_))
  have hv' : v = a := hv
  subst hv'
  cases v with
  | true => exact ⟨rfl, AfterS.done h2 G₁ C₁ .next (L.mono le)⟩
  | false => exact h2.elim
theorem s_aug (B : Below' c cf k cx) {x : Str} {i : Nat} {o : Operator} {p : Bop} {e : PySem.Expr} {e' : Mine.E} {xp pos : Pos} (hs : cx.slot x = some i) (ho : opB o = some p) (h1 : compE n cx e = some e') : Sok c cf k cx (.AugAssign (.Name x xp) o e pos) (.aug i p e') := fun A f cl W g ρ σ s Q E R hA L G C h => by
  rw [ex] at h
  split at h
  · rename_i a ha
    refine wpAny_AugAssign_Name (load_ok R L C hs ha fun u hu => ?_)
    refine (B n e e' h1).1 A f W g ρ σ s _ E (R.sit L) G C (AfterS.bindE (rel' := VR c.K) h fun b σ₁ v W₁ g₁ h₁ tk e1 le tn G₁ C₁ hv h2 => ?_)
    cases hr : vaug p a b with
    | none => rw [hr] at h2; exact h2.elim
    | some r =>
      rw [hr] at h2
      refine op_aug (s := { s with heap := h₁, toks := tk }) C₁ ho (hu.mono le) hv hr fun v' W' h' tk' le' C' hv' => ?_
      exact store_next R ((L.mono le).mono le') G₁ C' hs hv' (h2.here le' .refl)
  · exact h.elim
theorem s_setA (co : CfOk c) (B : Below' c cf k cx) {o : PySem.Expr} {a : Str} {i : Nat} {e : PySem.Expr} {o' e' : Mine.E} {ap pos : Pos} (h1 : compE n cx e = some e') (h2 : compE n cx o = some o') (h3 : place a cx.att = some i) : Sok c cf k cx (.Assign [.Attribute o a ap] e pos) (.setA o' i e') := fun A f cl W g ρ σ s Q E R hA L G C h => by
  rw [ex] at h
  have hsw : swapsWithSole [.Attribute o a ap] e pos.line f.env = pure false := by
    show swapsWith e (some (.Attribute o a ap)) pos.line f.env = pure false
    cases e <;> rfl
  have hw : swappedStores [.Attribute o a ap] e f.env = pure none := by cases e <;> rfl
  refine wpAny_Assign_stores ((B n e e' h1).1 A f W g ρ σ s _ E (R.sit L) G C (AfterS.bindE (rel' := VR c.K) h fun b σ₁ v W₁ g₁ h₁ tk e1 le tn G₁ C₁ hv h4 => ?_)) hsw hw
  show wpAny _ _ (assign (.Attribute o a ap) f.env v) _ _ _
  rw [arm_assign_Attribute]
  refine wpAny_bind (wpAny_holding ((B n o o' h2).1 A f W₁ g₁ ρ σ₁ _ _ E ((R.sit L).mono le) G₁ C₁ (AfterS.bindE (rel' := VR c.K) h4 fun x σ₂ v₂ W₂ g₂ h₂ tk₂ e2 le₂ tn₂ G₂ C₂ hv₂ h5 => ?_)))
  refine wpAny_bind (wpAny_standAt (wpAny_bind (wpAny_holding ?_)))
  split at h5
  · rename_i σ₃ hσ
    rw [R.eA] at h3
    refine op_setA (s := { s with heap := h₂, toks := tk₂ }) C₂ co.tab (place_at h3) hv₂ (hv.mono le₂) hσ fun W' h' tk' le' C' => ?_
    exact wpAny_release (AfterS.doneT h5 G₂ le' C' .next (((L.mono le).mono le₂).mono le'))
  · exact h5.elim
theorem s_setI (B : Below' c cf k cx) {o i : PySem.Expr} {e : PySem.Expr} {o' i' e' : Mine.E} {ap pos : Pos} (h1 : compE n cx e = some e') (h2 : compE n cx o = some o') (h3 : compE n cx i = some i') : Sok c cf k cx (.Assign [.Subscript o i ap] e pos) (.setI o' i' e') := fun A f cl W g ρ σ s Q E R hA L G C h => by
  rw [ex] at h
  have hsw : swapsWithSole [.Subscript o i ap] e pos.line f.env = pure false := by
    show swapsWith e (some (.Subscript o i ap)) pos.line f.env = pure false
    cases e <;> rfl
  have hw : swappedStores [.Subscript o i ap] e f.env = pure none := by cases e <;> rfl
  refine wpAny_Assign_stores ((B n e e' h1).1 A f W g ρ σ s _ E (R.sit L) G C (AfterS.bindE (rel' := VR c.K) h fun b σ₁ v W₁ g₁ h₁ tk e1 le tn G₁ C₁ hv h4 => ?_)) hsw hw
  show wpAny _ _ (assign (.Subscript o i ap) f.env v) _ _ _
  rw [arm_assign_Subscript]
  refine wpAny_bind (wpAny_holding ((B n o o' h2).1 A f W₁ g₁ ρ σ₁ _ _ E ((R.sit L).mono le) G₁ C₁ (AfterS.bindE (rel' := VR c.K) h4 fun x σ₂ v₂ W₂ g₂ h₂ tk₂ e2 le₂ tn₂ G₂ C₂ hv₂ h5 => ?_)))
  refine wpAny_bind (wpAny_holding ((B n i i' h3).1 A f W₂ g₂ ρ σ₂ _ _ E (((R.sit L).mono le).mono le₂) G₂ C₂ (AfterS.bindE (rel' := VR c.K) h5 fun y σ₃ v₃ W₃ g₃ h₃ tk₃ e3 le₃ tn₃ G₃ C₃ hv₃ h6 => ?_)))
  refine wpAny_bind (wpAny_standAt (wpAny_bind (wpAny_holding ?_)))
  split at h6
  · rename_i σ₄ hσ
    refine op_setI (s := { s with heap := h₃, toks := tk₃ }) C₃ (hv₂.mono le₃) hv₃ ((hv.mono le₂).mono le₃) hσ fun W' h' tk' le' C' => ?_
    exact wpAny_release (AfterS.doneT h6 G₃ le' C' .next ((((L.mono le).mono le₂).mono le₃).mono le'))
  · exact h6.elim
end
end Mine

/-! Soundness, 21: assignments to names, append, raise (own work). -/
namespace Mine
open PySem PySem.W PySem.Spec PySem.Calls PyProof.Rows PySem.SeqAt

def isComp : PySem.Expr → Bool
  | .ListComp .. => true
  | .SetComp .. => true
  | .DictComp .. => true
  | _ => false
section
variable {c : Cf} {cf : CF} {k : Nat} {cx : CX} {n : Nat}
theorem swaps_not {e : PySem.Expr} {t : Option PySem.Expr} {l : Nat} {env : Env} (h : isComp e = false) : swapsWith e t l env = pure false := by
  cases e <;> first | rfl | simp [isComp] at h
theorem s_asg1 (B : Below' c cf k cx) {x : Str} {i : Nat} {e : PySem.Expr} {e' : Mine.E} {xp pos : Pos} (hs : cx.slot x = some i) (h1 : compE n cx e = some e') (hc : isComp e = false) : Sok c cf k cx (.Assign [.Name x xp] e pos) (.asg (.one i) e') := fun A f cl W g ρ σ s Q E R hA L G C h => by
  rw [ex] at h
  refine wpAny_Assign_Name ((B n e e' h1).1 A f W g ρ σ s _ E (R.sit L) G C (AfterS.bindE (rel' := VR c.K) h fun a σ₁ v W₁ g₁ h₁ tk e1 le tn G₁ C₁ hv h2 => ?_)) (swaps_not hc)
  exact store_next R (L.mono le) G₁ C₁ hs hv h2
theorem LocR.le_en {f : Fm} {cl : List (Str × Addr)} {W W' : Wd} {ρ : Loc} (L : LocR c f cx cl W ρ) (le : W.le W') : LocR c f cx cl W' ρ := L.mono le
theorem s_mls {x : Str} {i : Nat} {es : List PySem.Expr} {es' : Es} {xp ep pos : Pos} (hs : cx.slot x = some i) (hlen : es.length ≤ 1000) (h1 : All2 (Eok c cf k cx) es es') : Sok c cf k cx (.Assign [.Name x xp] (.List es ep) pos) (.mls i es') := fun A f cl W g ρ σ s Q E R hA L G C h => by
  rw [ex] at h
  refine wpAny_Assign_Name (wpAny_List (spliced_ok h1 ep (R.sit L) G C (AfterS.bindE (rel' := VRs c.K) h fun as σ₁ vs W₁ g₁ h₁ tk e1 le tn G₁ C₁ hv h2 => ⟨?_, ?_⟩))) (by rfl)
  · rw [hv.length, evs_len e1, ← h1.len, sizeLine_eq]; omega
  · have C' := C₁.newMls hv
    refine store_next R ((L.mono le).mono le_snoc) G₁ C' hs (VR.last (e := .mls h₁.objs.size vs 0) C₁) ?_
    exact h2.here (h' := h₁.push { cls := .type "list", data := .seq vs.toArray }) (tk := tk) le_snoc .refl
def raiseK : List V → List V → St → Mine.R Unit
  | [.str _], _, σ => .exc .valN σ
  | [.txt], _, σ => .exc .valN σ
  | _, _, _ => .bad
theorem s_raise (B : Below' c cf k cx) (co : CfOk c) {x : Str} {e : PySem.Expr} {e' : Mine.E} {np cpos pos : Pos} (hx : x = ("ValueError" : Str)) (hl : cx.sc.names.lookup x = some .globalImplicit) (hn : nsIn c.K mainGlobals x = some none) (h1 : compE n cx e = some e') (hst : notStar e = true) :
    Sok c cf k cx (.Raise (some (.Call (.Name x np) [e] [] cpos)) none pos) (.raise .valN e') := fun A f cl W g ρ σ s Q E R hA L G C h => by
  rw [ex] at h
  have hl1 : All2 (Eok c cf k cx) [e] (.cons e' .nil) := .cons hst (B n e e' h1).1 .nil
  obtain ⟨p1, _, _⟩ := starPlain hl1 cpos f.env
  have h' : After c f (fun _ (_ : Unit) (_ : Unit) => True) W g s ((evs c.T cf (.cons e' .nil) ρ σ).bind fun as σ => (evs c.T cf .nil ρ σ).bind fun ks σ => raiseK as ks σ) (fun _ _ => True) E := by
    rw [evs]
    cases hr : ev c.T cf e' ρ σ with
    | bad => rw [hr] at h; exact h
    | exc x σ' => rw [hr] at h; exact h
    | ok a σ' =>
      rw [hr] at h
      show After c f _ W g s (((evs c.T cf .nil ρ σ').bind fun vs σ => .ok (a :: vs) σ).bind fun as σ => (evs c.T cf .nil ρ σ).bind fun ks σ => raiseK as ks σ) _ E
      simp only [evs, Mine.R.bind]
      cases a <;> first | exact h.elim | exact h
  refine wpAny_Raise_call PySem.F.excCall_ValueError PySem.F.excRaise_ValueError R.room.handled p1 (glob_ok co (R.sit L) G C hl (by rw [hx]; rfl) (v := .type "ValueError") (by rw [R.eK]; unfold glob; rw [hn, hx]; rfl) ⟨rfl, ?_⟩)
  refine evalArgs_ok (kl := []) (ns := []) hl1 .nil (R.sit L) G C h' fun as ks σ' vs kws W' g' h₁ tk le tn G' C' hv hkw h2 => ?_
  cases hkw
  have hlen : vs.length ≤ sizeLine ∧ raiseK as ks σ' = .exc .valN σ' := by
    unfold raiseK at h2 ⊢
    split at h2
    · exact ⟨by rw [hv.length, sizeLine_eq]; simp, rfl⟩
    · exact ⟨by rw [hv.length, sizeLine_eq]; simp, rfl⟩
    · exact h2.elim
  obtain ⟨q1, q2⟩ := hlen
  refine ⟨rfl, q1, fun h₂ ea hm => ?_⟩
  rw [q2] at h2
  exact h2 _ _ ⟨ea, W', g', f.m, f.cells, h₂, tk, rfl, rfl, .refl _, .refl, G', rfl, .inl ⟨h₁, C', ⟨vs, hm.of⟩⟩⟩
end
end Mine

/-! Soundness, 22: append (own work). -/
namespace Mine
open PySem PySem.W PySem.Spec PySem.Calls PyProof.Rows PySem.SeqAt

section
variable {c : Cf} {cf : CF} {k : Nat} {cx : CX} {n : Nat}
def appK (a : V) : List V → List V → St → Mine.R Unit
  | [v], _, σ => match appendV σ a v with
    | some σ => .ok () σ
    | none => .bad
  | _, _, _ => .bad
theorem s_app (B : Below' c cf k cx) {o e : PySem.Expr} {o' e' : Mine.E} {ap cpos pos : Pos} (h0 : compE n cx o = some o') (hn : notSuper o = true) (hline : (ap.endLine == cpos.line) = true) (h1 : compE n cx e = some e') (hst : notStar e = true) :
    Sok c cf k cx (.Expr (.Call (.Attribute o ("append" : Str) ap) [e] [] cpos) pos) (.app o' e') := fun A f cl W g ρ σ s Q E R hA L G C h => by
  rw [ex] at h
  have hl1 : All2 (Eok c cf k cx) [e] (.cons e' .nil) := .cons hst (B n e e' h1).1 .nil
  obtain ⟨p1, p2, _⟩ := starPlain hl1 cpos f.env
  refine wpAny_Expr ?_ (by obtain ⟨cn, fa, cd, he⟩ := R.env; rw [he]; unfold interactive; simp [R.kind]) (by rfl)
  rw [arm_eval_Call, base_plain hn]
  refine wpAny_bind ((B n o o' h0).1 A f W g ρ σ s _ E (R.sit L) G C (AfterS.bindE (rel' := VR c.K) h fun a σ₁ x W₁ g₁ h₁ tk e1 le tn G₁ C₁ hx h2 => ?_))
  refine wpAny_bind (wpAny_standAt ?_)
  split at h2
  case isFalse => exact h2.elim
  rename_i hm
  cases a <;> simp only [isMls, Bool.false_eq_true] at hm
  rename_i i
  split at hm
  case h_2 => cases hm
  rename_i l hσ
  obtain ⟨ad, vs, nn, rfl, q1, q2, q3⟩ := Core.mls (s := { s with heap := h₁, toks := tk }) C₁ hx hσ
  have few : methodCallForm 1 (backTo cpos (starEach [e] f.env)) (backToKw cpos (keywordEach [] f.env)) = true := by
    unfold methodCallForm
    rw [p2]; rfl
  unfold methodCall
  refine wpAny_bind (wpAny_holding ?_)
  show wpAny _ _ (calleeOf (methodCallForm 1 (backTo cpos (starEach [e] f.env)) (backToKw cpos (keywordEach [] f.env))) o f.env (.ref ad) _) _ _ _
  rw [few]
  unfold calleeOf
  rw [if_pos rfl]
  refine listMethod_K (s := { s with heap := h₁, toks := tk }) C₁.N (List.mem_append_right _ (List.mem_append_right _ (mem_cellsOf q1 (.head _)))) PySem.F.slot_list_append PySem.F.type_list_append ?_
  dsimp only
  refine wpAny_bind ?_
  unfold methodCallPos
  rw [if_pos (by rw [hline]; simp)]
  refine wpAny_pure ?_
  refine callWith_of (P := fun _ => True) (by rw [p1]; rfl) (fun h _ => ⟨.machine, .inr (.inl rfl), .now⟩) ?_
  have h' : After c f (fun _ (_ : Unit) (_ : Unit) => True) W₁ g₁ { s with heap := h₁, toks := tk } ((evs c.T cf (.cons e' .nil) ρ σ₁).bind fun as σ => (evs c.T cf .nil ρ σ).bind fun ks σ => appK (.obj i) as ks σ) (fun _ s' => Q .next s') E := by
    rw [evs]
    cases hr : ev c.T cf e' ρ σ₁ with
    | bad => rw [hr] at h2; exact h2
    | exc x σ' => rw [hr] at h2; exact h2
    | ok v σ₂ =>
      rw [hr] at h2
      show After c f _ W₁ g₁ _ (((evs c.T cf .nil ρ σ₂).bind fun vs σ => .ok (v :: vs) σ).bind fun as σ => (evs c.T cf .nil ρ σ).bind fun ks σ => appK (.obj i) as ks σ) _ E
      simp only [evs, Mine.R.bind, appK]
      simp only [Mine.R.bind] at h2
      cases hap : appendV σ₂ (.obj i) v with
      | none => rw [hap] at h2; exact h2
      | some σ₃ =>
        rw [hap] at h2
        exact fun _ W' g' h' tk' le' t' G' C' _ => h2 .next W' g' f.m f.cells h' tk' le' t' G' rfl C' .next fun _ => (L.mono le).mono le'
  refine evalArgs_ok (kl := []) (ns := []) hl1 .nil ((R.sit L).mono le) G₁ C₁ h' fun as ks σ' ws kws W' g' h₂ tk₂ le₂ tn₂ G' C' hv hkw h3 => ⟨trivial, ?_⟩
  cases hkw
  unfold appK at h3
  split at h3
  · rename_i v
    cases hv with
    | cons hv1 hv2 =>
      cases hv2
      split at h3
      · rename_i σ₃ hap
        refine op_append (s := { s with heap := h₂, toks := tk₂ }) C' (hx.mono le₂) hv1 hap fun W'' h'' tk'' le'' C'' => ?_
        exact h3 () W'' g' h'' tk'' le'' .refl G' C'' trivial
      · exact h3.elim
  · exact h3.elim
end
end Mine

/-! Soundness, 23: assignments to rows of names (own work). -/
namespace Mine
open PySem PySem.W PySem.Spec PySem.Calls PyProof.Rows PySem.SeqAt

section
variable {c : Cf} {cf : CF} {k : Nat} {cx : CX} {n : Nat}
theorem slots_cons {e : PySem.Expr} {r : List PySem.Expr} {is : List Nat} (h : slots cx (e :: r) = some is) : ∃ x p i l, e = .Name x p ∧ cx.slot x = some i ∧ slots cx r = some l ∧ is = i :: l := by
  cases e <;> simp only [slots, reduceCtorEq] at h
  rename_i x p
  split at h
  · rename_i i l h1 h2
    cases h
    exact ⟨_, _, i, l, rfl, h1, h2, rfl⟩
  · cases h
theorem each_len {env : Env} : ∀ {es : List PySem.Expr} {is : List Nat}, slots cx es = some is → (assignEach es env).length = is.length ∧ (assignEach es env).findIdx? (·.1) = none
  | [], is, h => by unfold slots at h; cases h; exact ⟨rfl, rfl⟩
  | e :: r, is, h => by
    obtain ⟨x, p, i, l, rfl, h1, h2, rfl⟩ := slots_cons h
    obtain ⟨q1, q2⟩ := each_len (env := env) h2
    show ((false, assign (.Name x p) env) :: assignEach r env).length = _ ∧ ((false, assign (.Name x p) env) :: assignEach r env).findIdx? (·.1) = none
    refine ⟨by simp [q1], ?_⟩
    rw [List.findIdx?_cons, q2]; rfl
theorem stores_ok {A : Around} {cl : List (Str × Addr)} {W : Wd} {g : Heap} {σ : St} {M : Model} {E : Value → Shared → Prop} {Q : Unit → Shared → Prop} : ∀ (es : List PySem.Expr) (is : List Nat) (us : List Value) (vs : List V) (f : Fm) (ρ : Loc) (s : Shared), slots cx es = some is → VRs c.K W us vs → is.length = vs.length →
    Run c A k f cx cl → LocR c f cx cl W ρ → Cr c f g W σ s.heap →
    (∀ m' cells' h' tk, cells'.map (·.1) = f.cells.map (·.1) → Cr c (f.upd m' cells') g W σ h' → LocR c (f.upd m' cells') cx cl W ((is.zip vs).foldl (fun ρ p => ρ.set p.1 (some p.2)) ρ) → Q () { s with heap := h', toks := tk }) →
    wpAny M A (assignInOrder ((assignEach es f.env).map (·.2)) us) Q E s
  | [], is, us, vs, f, ρ, s, h, hv, hl, R, L, C, hq => by
    unfold slots at h; cases h
    cases hv with
    | nil => exact assignInOrder_nil (hq f.m f.cells s.heap s.toks rfl C L)
    | cons _ _ => simp at hl
  | e :: r, is, us, vs, f, ρ, s, h, hv, hl, R, L, C, hq => by
    obtain ⟨x, p, i, l, rfl, h1, h2, rfl⟩ := slots_cons h
    cases hv with
    | nil => simp at hl
    | cons hu hr =>
      show wpAny _ _ (assignInOrder (assign (.Name x p) f.env :: (assignEach r f.env).map (·.2)) (_ :: _)) _ _ _
      refine assignInOrder_cons (wpAny_assign_Name (store_ok R L C h1 hu fun m' cells' h' tk hc C' L' => ?_))
      exact stores_ok r l _ _ (f.upd m' cells') _ _ h2 hr (by simpa using hl) R.upd L' C' fun m'' cells'' h'' tk'' hc' C'' L'' => hq m'' cells'' h'' tk'' (hc'.trans hc) C'' L''
/-- a value goes to a target -/
theorem assign_ok {A : Around} {f : Fm} {cl : List (Str × Addr)} {W : Wd} {g : Heap} {ρ ρ' : Loc} {σ : St} {s : Shared} {E : Value → Shared → Prop} {Q : Unit → Shared → Prop} {t : PySem.Expr} {t' : Tg} {u : Value} {a : V} (ht : compT cx t = some t') (R : Run c A k f cx cl) (L : LocR c f cx cl W ρ) (C : Cr c f g W σ s.heap)
    (hu : VR c.K W u a) (hs : setT t' a ρ = some ρ') (h : ∀ m' cells' h' tk, cells'.map (·.1) = f.cells.map (·.1) → Cr c (f.upd m' cells') g W σ h' → LocR c (f.upd m' cells') cx cl W ρ' → Q () { s with heap := h', toks := tk }) :
    wpAny (model c.prog c.w) A (assign t f.env u) Q E s := by
  unfold compT at ht
  split at ht
  · obtain ⟨i, hi, rfl⟩ := Option.map_eq_some_iff.mp ht
    unfold setT at hs
    cases hs
    exact wpAny_assign_Name (store_ok R L C hi hu h)
  · split at ht
    · cases ht
    · obtain ⟨is, hi, rfl⟩ := Option.map_eq_some_iff.mp ht
      cases a <;> simp only [setT, reduceCtorEq] at hs
      rename_i vs
      split at hs
      · rename_i hl
        cases hs
        have hl := beq_iff_eq.mp hl
        cases hu with
        | tup hk hv =>
          obtain ⟨q1, q2⟩ := each_len (env := f.env) hi
          refine wpAny_assign_Tuple R.room.handled (isT_of (C.known hk)) (by rw [q1, List.size_toArray, hv.length, hl]) q2 fun h' hx => ?_
          refine stores_ok _ is _ vs f ρ { s with heap := h' } hi hv hl R L (C.grow fun b o e => hx b o (Nat.ne_of_lt (Heap.lt_size e)) e) fun m' cells' h'' tk hc C' L' => h m' cells' h'' tk hc C' L'
      · cases hs
  · cases ht
theorem s_asgN (B : Below' c cf k cx) {es : List PySem.Expr} {kk : Nat} {is : List Nat} {e : PySem.Expr} {e' : Mine.E} {tp pos : Pos} (ht : compT cx (.Tuple es kk tp) = some (.many is)) (h1 : compE n cx e = some e') (hc : isSeqLit e = false) : Sok c cf k cx (.Assign [.Tuple es kk tp] e pos) (.asg (.many is) e') := fun A f cl W g ρ σ s Q E R hA L G C h => by
  rw [ex] at h
  have hsw : swapsWithSole [.Tuple es kk tp] e pos.line f.env = pure false := by
    show swapsWith e (some (.Tuple es kk tp)) pos.line f.env = pure false
    cases e <;> rfl
  have hw : swappedStores [.Tuple es kk tp] e f.env = pure none := by cases e <;> first | rfl | cases hc
  refine wpAny_Assign_stores ((B n e e' h1).1 A f W g ρ σ s _ E (R.sit L) G C (AfterS.bindE (rel' := VR c.K) h fun b σ₁ v W₁ g₁ h₁ tk e1 le tn G₁ C₁ hv h4 => ?_)) hsw hw
  show wpAny _ _ (assign (.Tuple es kk tp) f.env v) _ _ _
  cases hs : setT (.many is) b ρ with
  | none => rw [hs] at h4; exact h4.elim
  | some ρ' =>
    rw [hs] at h4
    exact assign_ok ht R (L.mono le) C₁ hv hs fun m' cells' h' tk' hc C' L' => h4 .next W₁ g₁ m' cells' h' tk' (.refl _) .refl G₁ hc C' .next fun _ => L'
end
end Mine

/-! Soundness, 24: for loops (own work). -/
namespace Mine
open PySem PySem.W PySem.Spec PySem.Calls PyProof.Rows PySem.SeqAt

section
variable {K : Frag} {att : List Str} {g h h' : Heap} {L : Addr} {m : Str → Option Value} {X : List (Addr × Obj)} {W : Wd} {σ : St}
/-- the iterator turns -/
theorem Core.turnX {I : Addr} {oI oI' : Obj} (C : Core K att g L m ((I, oI) :: X) W σ h) (hne : ∀ p ∈ X, p.1 ≠ I) (hI : h'.get? I = some oI') (hk : ∀ b o, b ≠ I → h.get? b = some o → h'.get? b = some o) :
    Core K att g L m ((I, oI') :: X) W σ h' := by
  have nI : I ≠ L := (C.N _ (.head _)).2.1
  have gI : g.get? I = none := (C.N _ (.head _)).2.2
  refine ⟨⟨C.F.ns.at' fun o e => hk _ o (Ne.symm nI) e, fun b o e => hk b o (fun q => by rw [q, gI] at e; cases e) (C.F.keep b o e), C.F.above⟩, fun p hp => ?_, ⟨fun p hp q hq => ?_, C.ap.nodup, fun p hp q hq => ?_⟩, C.sr, C.kin, C.knw⟩
  · rcases List.mem_cons.mp hp with rfl | hp
    · exact ⟨hI, nI, gI⟩
    · have hpn : p.1 ≠ I := by
        rcases List.mem_append.mp hp with hp | hp
        · exact hne p hp
        · rcases List.mem_append.mp hp with hp | hp
          · exact fun q => C.ap.sx (I, oI) (.head _) p hp q.symm
          · exact fun q => C.ap.sep (I, oI) (List.mem_append_left _ (.head _)) p hp q.symm
      obtain ⟨a, b, d⟩ := C.N p (.tail _ hp)
      exact ⟨hk _ _ hpn a, b, d⟩
  · rcases List.mem_append.mp hp with hp | hp
    · rcases List.mem_cons.mp hp with rfl | hp
      · exact C.ap.sep (I, oI) (List.mem_append_left _ (.head _)) q hq
      · exact C.ap.sep p (List.mem_append_left _ (.tail _ hp)) q hq
    · exact C.ap.sep p (List.mem_append_right _ hp) q hq
  · rcases List.mem_cons.mp hp with rfl | hp
    · exact C.ap.sx (I, oI) (.head _) q hq
    · exact C.ap.sx p (.tail _ hp) q hq
/-- the iterator goes -/
theorem Core.dropX {I : Addr} {oI : Obj} (C : Core K att g L m ((I, oI) :: X) W σ h) (hne : ∀ p ∈ X, p.1 ≠ I) (hk : ∀ b o, b ≠ I → h.get? b = some o → h'.get? b = some o) : Core K att g L m X W σ h' := by
  have nI : I ≠ L := (C.N _ (.head _)).2.1
  have gI : g.get? I = none := (C.N _ (.head _)).2.2
  refine ⟨⟨C.F.ns.at' fun o e => hk _ o (Ne.symm nI) e, fun b o e => hk b o (fun q => by rw [q, gI] at e; cases e) (C.F.keep b o e), C.F.above⟩, fun p hp => ?_, ⟨fun p hp q hq => ?_, C.ap.nodup, fun p hp q hq => ?_⟩, C.sr, C.kin, C.knw⟩
  · have hpn : p.1 ≠ I := by
      rcases List.mem_append.mp hp with hp | hp
      · exact hne p hp
      · rcases List.mem_append.mp hp with hp | hp
        · exact fun q => C.ap.sx (I, oI) (.head _) p hp q.symm
        · exact fun q => C.ap.sep (I, oI) (List.mem_append_left _ (.head _)) p hp q.symm
    obtain ⟨a, b, d⟩ := C.N p (.tail _ hp)
    exact ⟨hk _ _ hpn a, b, d⟩
  · rcases List.mem_append.mp hp with hp | hp
    · exact C.ap.sep p (List.mem_append_left _ (.tail _ hp)) q hq
    · exact C.ap.sep p (List.mem_append_right _ hp) q hq
  · exact C.ap.sx p (.tail _ hp) q hq
/-- a new iterator -/
theorem Core.newX {o : Obj} (C : Core K att g L m X W σ h) (hf : o.isFreed = false) : Core K att g L m ((h.objs.size, o) :: X) W σ (h.push o) := by
  have N' := News.push C.F C.N o hf
  refine ⟨C.F.push o, fun p hp => N' p hp, ⟨fun p hp q hq => ?_, C.ap.nodup, fun p hp q hq => ?_⟩, C.sr, C.kin, C.knw⟩
  · rcases List.mem_append.mp hp with hp | hp
    · rcases List.mem_cons.mp hp with rfl | hp
      · exact Nat.ne_of_gt (C.lt (List.mem_append_right _ (List.mem_append_right _ hq)))
      · exact C.ap.sep p (List.mem_append_left _ hp) q hq
    · exact C.ap.sep p (List.mem_append_right _ hp) q hq
  · rcases List.mem_cons.mp hp with rfl | hp
    · exact Nat.ne_of_gt (C.lt (List.mem_append_right _ (List.mem_append_left _ hq)))
    · exact C.ap.sx p hp q hq
end
end Mine

/-! Soundness, 25: for loops, the turns (own work). -/
namespace Mine
open PySem PySem.W PySem.Spec PySem.Calls PyProof.Rows PySem.SeqAt

def itNames : List String := ["list_iterator", "tuple_iterator", "range_iterator"]
/-- an iterator object of the model, and what it hands out at a turn -/
structure Iter (c : Cf) (A : Around) (W : Wd) (I : Addr) (rd : Nat → St → Option (Option V)) (It : Nat → Obj → Prop) : Prop where
  dat : ∀ i o, It i o → ∃ n vs, o.cls = .type n ∧ o.data = .fields vs ∧ n ∈ itNames
  next : ∀ i (f : Fm) g W' σ (s : Shared) o r (Q : Option Value → Shared → Prop) (E : Value → Shared → Prop), W.le W' → It i o → s.heap.get? I = some o → Cr c f g W' σ s.heap → rd i σ = some r →
    (match r with
      | some b => ∀ v h' tk o', It (i + 1) o' → h'.get? I = some o' → (∀ a o, a ≠ I → s.heap.get? a = some o → h'.get? a = some o) → VR c.K W' v b → Q (some v) { s with heap := h', toks := tk }
      | none => ∀ h' tk, (∀ a o, a ≠ I → s.heap.get? a = some o → h'.get? a = some o) → Q none { s with heap := h', toks := tk }) →
    wpAny (model c.prog c.w) A (pyNext (.ref I)) Q E s
def forG (rd : Nat → St → Option (Option V)) (fb : V → Loc → St → Mine.R (Fl × Loc)) : Nat → Nat → Loc → St → Mine.R (Fl × Loc)
  | 0, _, _, _ => .bad
  | n + 1, i, ρ, σ => match rd i σ with
    | some none => .ok (.next, ρ) σ
    | some (some v) => (fb v ρ σ).calm.bind fun q σ => match q with
      | (.ret u, ρ) => .ok (.ret u, ρ) σ
      | (_, ρ) => forG rd fb n (i + 1) ρ σ
    | none => .bad
theorem forM_eq {fb : V → Loc → St → Mine.R (Fl × Loc)} {o : Nat} : ∀ (n i : Nat) (ρ : Loc) (σ : St), forM fb o n i ρ σ = forG (fun i σ => match σ[o]? with | some (.mls l) => some l[i]? | _ => none) fb n i ρ σ
  | 0, _, _, _ => rfl
  | n + 1, i, ρ, σ => by
    unfold forM forG
    cases hσ : σ[o]? with
    | none => rfl
    | some ao =>
      cases ao with
      | inst C fs => rfl
      | mls l =>
        dsimp only
        cases l[i]? with
        | none => rfl
        | some v =>
          dsimp only
          congr 1
          funext q σ'
          obtain ⟨fl, ρ'⟩ := q
          cases fl <;> first | rfl | exact forM_eq n (i + 1) _ _
theorem forL_eq {fb : V → Loc → St → Mine.R (Fl × Loc)} (l : List V) : ∀ (n i : Nat) (ρ : Loc) (σ : St), i ≤ l.length → l.length < n + i → forL fb (l.drop i) ρ σ = forG (fun i _ => some l[i]?) fb n i ρ σ
  | 0, i, ρ, σ, h1, h => by omega
  | n + 1, i, ρ, σ, h1, h => by
    unfold forG
    by_cases hi : i < l.length
    · rw [List.drop_eq_getElem_cons hi, List.getElem?_eq_getElem hi]
      unfold forL
      dsimp only
      congr 1
      funext q σ'
      obtain ⟨fl, ρ'⟩ := q
      cases fl <;> first | rfl | exact forL_eq l n (i + 1) _ _ (by omega) (by omega)
    · rw [List.drop_eq_nil_of_le (by omega), List.getElem?_eq_none (by omega)]
      rfl
section
variable {c : Cf} {cf : CF} {k : Nat} {cx : CX} {n : Nat}
theorem letGo_iter {M : Model} {A : Around} {E : Value → Shared → Prop} {target : PySem.Expr} {I : Addr} {v : Value} {Q : Unit → Shared → Prop} {s : Shared} {o : Obj} {nm : String} {vs : Array Value} (ho : s.heap.get? I = some o) (hc : o.cls = .type nm) (hd : o.data = .fields vs) (hn : nm ∈ itNames) (h : Q () s) :
    wpAny M A (letOwnedTupleGo target (.ref I) v) Q E s := by
  have hq : (["enumerate", "zip", "dict_itemiterator", "dict_reverseitemiterator", "odict_iterator", "itertools.zip_longest", "itertools.pairwise"].contains nm) = false := by
    simp only [itNames, List.mem_cons, List.not_mem_nil, or_false] at hn
    rcases hn with rfl | rfl | rfl <;> rfl
  unfold letOwnedTupleGo
  cases target <;> first
    | exact wpAny_pure h
    | (cases v <;> first
        | exact wpAny_pure h
        | (refine wpAny_bind (wpAny_load ho ?_)
           rw [hc, hd]
           dsimp only
           rw [hq]
           exact wpAny_pure h))
end
end Mine

/-! Soundness, 26: for loops, whole (own work). -/
namespace Mine
open PySem PySem.W PySem.Spec PySem.Calls PyProof.Rows PySem.SeqAt

abbrev Fm.it (f : Fm) (m' : Str → Option Value) (cells' : List (Addr × Obj)) (I : Addr) (o : Obj) : Fm := { f with m := m', cells := cells', its := (I, o) :: f.its }
section
variable {c : Cf} {cf : CF} {k : Nat} {cx : CX} {n : Nat}
theorem Run.it {A : Around} {f : Fm} {cl : List (Str × Addr)} {m' : Str → Option Value} {cells' : List (Addr × Obj)} {I : Addr} {o : Obj} (R : Run c A k f cx cl) : Run c A k (f.it m' cells' I o) cx cl :=
  ⟨R.eK, R.eA, R.eM, R.q, R.tgt, R.env, R.kind, R.ndbg, ⟨R.room.frames, R.room.frame, R.room.kind, R.room.depth, R.room.units, R.room.handled⟩, R.inj, R.nocell⟩
theorem ne_cells {f : Fm} {cells' : List (Addr × Obj)} {I : Addr} (hne : ∀ p ∈ f.X, p.1 ≠ I) (hc : cells'.map (·.1) = f.cells.map (·.1)) : ∀ p ∈ f.its ++ cells', p.1 ≠ I := fun p hp => by
  rcases List.mem_append.mp hp with hp | hp
  · exact hne p (List.mem_append_left _ hp)
  · have : p.1 ∈ f.cells.map (·.1) := hc ▸ List.mem_map_of_mem (f := (·.1)) hp
    obtain ⟨q, hq, e⟩ := List.mem_map.mp this
    rw [← e]
    exact hne q (List.mem_append_right _ hq)
theorem LocR.noIt {f : Fm} {cl : List (Str × Addr)} {W : Wd} {ρ : Loc} {m' : Str → Option Value} {cells' : List (Addr × Obj)} {I : Addr} {o : Obj} (L : LocR c (f.it m' cells' I o) cx cl W ρ) : LocR c (f.upd m' cells') cx cl W ρ :=
  ⟨L.len, L.loc, L.cel, L.nd, fun p hp => L.apart p (.tail _ hp)⟩
theorem LocR.reIt {f : Fm} {cl : List (Str × Addr)} {W : Wd} {ρ : Loc} {m' : Str → Option Value} {cells' : List (Addr × Obj)} {I : Addr} {o o' : Obj} (L : LocR c (f.it m' cells' I o) cx cl W ρ) : LocR c (f.it m' cells' I o') cx cl W ρ :=
  ⟨L.len, L.loc, L.cel, L.nd, fun p hp q hq => by
    rcases List.mem_cons.mp hp with rfl | hp
    · exact L.apart (I, o) (.head _) q hq
    · exact L.apart p (.tail _ hp) q hq⟩
def bodyF (T : Tab) (cf : CF) (t' : Tg) (body' : Mine.Ss) (v : V) (ρ : Loc) (σ : St) : Mine.R (Fl × Loc) := match setT t' v ρ with
  | some ρ => exs T cf body' ρ σ
  | none => .bad
theorem loop_ok {A : Around} {f : Fm} {cl : List (Str × Addr)} {target : PySem.Expr} {t' : Tg} {body : List PySem.Stmt} {body' : Mine.Ss} {I : Addr} {W₀ : Wd} {rd : Nat → St → Option (Option V)} {It : Nat → Obj → Prop} {o₀ : Obj} {ρ : Loc} {σ : St} {g : Heap} {s : Shared} {N : Nat} {Q : Flow → Shared → Prop} {E E' : Value → Shared → Prop}
    (hT : compT cx target = some t') (hB : SSok c cf k cx body body') (R : Run c A k f cx cl) (hA : A = f.A₀.deeper f.env) (IT : Iter c A W₀ I rd It) (h0 : It 0 o₀) (hne : ∀ p ∈ f.X, p.1 ≠ I) (L : LocR c (f.it f.m f.cells I o₀) cx cl W₀ ρ) (G : Gd c f g)
    (C : Cr c (f.it f.m f.cells I o₀) g W₀ σ s.heap) (h : AfterS c f cx cl W₀ g s (forG rd (bodyF c.T cf t' body') N 0 ρ σ) Q E) :
    codeAny (model c.prog c.w) A (.forLoop target (.ref I) body [] f.env) (fun r s' => match r with | .ok fl => Q fl s' | .error e => E' e s') s := by
  refine codeAny_forLoop_any (fun n s' => ∃ i W' g' m' cells' h' tk ρ' σ' o, s' = { s with heap := h', toks := tk } ∧ W₀.le W' ∧ Tn f g g' ∧ Gd c f g' ∧ cells'.map (·.1) = f.cells.map (·.1) ∧ It i o ∧
    Cr c (f.it m' cells' I o) g' W' σ' h' ∧ LocR c (f.it m' cells' I o) cx cl W' ρ' ∧ AfterS c (f.upd m' cells') cx cl W' g' s' (forG rd (bodyF c.T cf t' body') n i ρ' σ') Q E) ?_ N
    ⟨0, W₀, g, f.m, f.cells, s.heap, s.toks, ρ, σ, o₀, rfl, .refl _, .refl, G, rfl, h0, C, L, h⟩
  rintro n s' ⟨i, W', g', m', cells', h', tk, ρ', σ', o, rfl, le, tn, G', hc, hIt, C', L', h⟩
  have hne' := ne_cells hne hc
  cases n with
  | zero => exact h.elim
  | succ n =>
    unfold forG at h
    cases hr : rd i σ' with
    | none => rw [hr] at h; exact h.elim
    | some r =>
      rw [hr] at h
      have hI : h'.get? I = some o := (C'.N _ (.head _)).1
      refine IT.next i (f.it m' cells' I o) g' W' σ' _ o r _ _ le hIt hI C' hr ?_
      cases r with
      | none =>
        intro h'' tk'' hk
        refine wpAny_execs_nil ?_
        exact h .next W' g' m' cells' h'' tk'' (.refl _) .refl G' rfl (C'.dropX hne' hk) .next fun _ => L'.noIt
      | some b =>
        intro v h'' tk'' o' hIt' hI' hk hv
        obtain ⟨nm, vs, d1, d2, d3⟩ := IT.dat _ _ hIt'
        refine letGo_iter hI' d1 d2 d3 ?_
        dsimp only at h
        have C₂ : Cr c (f.it m' cells' I o') g' W' σ' h'' := C'.turnX hne' hI' hk
        cases hs : setT t' b ρ' with
        | none => unfold bodyF at h; rw [hs] at h; exact h.elim
        | some ρ'' =>
          unfold bodyF at h
          rw [hs] at h
          refine assign_ok (f := f.it m' cells' I o') hT R.it L'.reIt C₂ hv hs fun m₃ cells₃ h₃ tk₃ hc₃ C₃ L₃ => ?_
          refine hB A (f.it m₃ cells₃ I o') cl W' g' ρ'' σ' _ _ _ R.it hA L₃ G' C₃ ?_
          dsimp only at h
          cases hr2 : exs c.T cf body' ρ'' σ' with
          | bad => rw [hr2] at h; exact h.elim
          | exc x σ₂ => rw [hr2] at h; exact h.elim
          | ok q σ₂ =>
            rw [hr2] at h
            obtain ⟨fl, ρ₄⟩ := q
            intro flv W₄ g₄ m₄ cells₄ h₄ tk₄ le₄ tn₄ G₄ hc₄ C₄ hf hl
            have hc' : cells₄.map (·.1) = f.cells.map (·.1) := hc₄.trans (hc₃.trans hc)
            cases hf with
            | next =>
              have h5 : AfterS c (f.upd m₄ cells₄) cx cl W₄ g₄ { s with heap := h₄, toks := tk₄ } (forG rd (bodyF c.T cf t' body') n (i + 1) ρ₄ σ₂) Q E := AfterS.step (f := f.upd m' cells') (s := { s with heap := h', toks := tk }) h le₄ tn₄ (hc₄.trans hc₃)
              exact ⟨n, Nat.lt_succ_self n, i + 1, W₄, g₄, m₄, cells₄, h₄, tk₄, ρ₄, σ₂, o', rfl, le.trans le₄, tn.trans tn₄, G₄, hc', hIt', C₄, (hl fun v q => by cases q), h5⟩
            | cont =>
              have h5 : AfterS c (f.upd m₄ cells₄) cx cl W₄ g₄ { s with heap := h₄, toks := tk₄ } (forG rd (bodyF c.T cf t' body') n (i + 1) ρ₄ σ₂) Q E := AfterS.step (f := f.upd m' cells') (s := { s with heap := h', toks := tk }) h le₄ tn₄ (hc₄.trans hc₃)
              exact ⟨n, Nat.lt_succ_self n, i + 1, W₄, g₄, m₄, cells₄, h₄, tk₄, ρ₄, σ₂, o', rfl, le.trans le₄, tn.trans tn₄, G₄, hc', hIt', C₄, (hl fun v q => by cases q), h5⟩
            | ret hv => exact h _ W₄ g₄ m₄ cells₄ h₄ tk₄ le₄ tn₄ G₄ (hc₄.trans hc₃) (C₄.dropX (ne_cells hne hc') fun _ _ _ e => e) (.ret hv) fun q => absurd rfl (q _)
end
end Mine

/-! Soundness, 27: iterators; for statements (own work). -/
namespace Mine
open PySem PySem.W PySem.Spec PySem.Calls PyProof.Rows PySem.SeqAt

section
variable {c : Cf} {cf : CF} {k : Nat} {cx : CX} {n : Nat} {A : Around} {W : Wd} {I : Addr}
theorem iter_lst {a : Addr} {vs : List Value} {nn : Nat} {l : List V} (hh : A.handled = none) (hk : Known c.K W a (listOf vs.toArray nn)) (hv : VRs c.K W vs l) :
    Iter c A W I (fun i _ => some l[i]?) (fun i o => o.cls = .type "list_iterator" ∧ o.data = .fields #[.ref a, .int i 0]) := by
  refine ⟨fun i o h => ⟨_, _, h.1, h.2, by simp [itNames]⟩, fun i f g W' σ s o r Q E le hI hg C hr h => ?_⟩
  have hit : s.heap.IsListIter I a i := ⟨o, hg, hI.1, hI.2⟩
  have hl : s.heap.IsList a vs.toArray := isL_of (C.known (hk.mono le))
  cases hr
  cases hb : l[i]? with
  | none =>
    rw [hb] at h
    refine wpAny_pyNext_list_end hh hit hl ?_ fun h' he => h h' s.toks fun b o hne e => he b o hne e
    rw [List.getElem?_toArray, List.getElem?_eq_none]
    have := List.getElem?_eq_none_iff.mp hb
    rw [hv.length]; exact this
  | some b =>
    rw [hb] at h
    obtain ⟨u, h1, h2⟩ := hv.get hb
    refine wpAny_pyNext_list_item hit hl (x := u) (by rw [List.getElem?_toArray]; exact h1) fun h' hit' hs => ?_
    obtain ⟨o', q1, q2, q3⟩ := hit'
    exact h u h' s.toks o' ⟨q2, q3⟩ q1 (fun b o hne e => (hs.2 b hne).trans e) (h2.mono le)
theorem iter_tup {a : Addr} {vs : List Value} {nn : Nat} {l : List V} (hh : A.handled = none) (hk : Known c.K W a (tupObj vs.toArray nn)) (hv : VRs c.K W vs l) :
    Iter c A W I (fun i _ => some l[i]?) (fun i o => o.cls = .type "tuple_iterator" ∧ o.data = .fields #[.ref a, .int i 0]) := by
  refine ⟨fun i o h => ⟨_, _, h.1, h.2, by simp [itNames]⟩, fun i f g W' σ s o r Q E le hI hg C hr h => ?_⟩
  have hit : s.heap.IsTupleIter I a i := ⟨o, hg, hI.1, hI.2⟩
  have hl : s.heap.IsTuple a vs.toArray := isT_of (C.known (hk.mono le))
  cases hr
  cases hb : l[i]? with
  | none =>
    rw [hb] at h
    refine wpAny_pyNext_tuple_end hh hit hl ?_ fun h' he => h h' s.toks fun b o hne e => he b o hne e
    rw [List.getElem?_toArray, List.getElem?_eq_none]
    have := List.getElem?_eq_none_iff.mp hb
    rw [hv.length]; exact this
  | some b =>
    rw [hb] at h
    obtain ⟨u, h1, h2⟩ := hv.get hb
    refine wpAny_pyNext_tuple_item hit hl (x := u) (by rw [List.getElem?_toArray]; exact h1) fun h' hit' hs => ?_
    obtain ⟨o', q1, q2, q3⟩ := hit'
    exact h u h' s.toks o' ⟨q2, q3⟩ q1 (fun b o hne e => (hs.2 b hne).trans e) (h2.mono le)
theorem iter_mls {a : Addr} {j : Nat} (hh : A.handled = none) (hx : VR c.K W (.ref a) (.obj j)) :
    Iter c A W I (fun i σ => match σ[j]? with | some (.mls l) => some l[i]? | _ => none) (fun i o => o.cls = .type "list_iterator" ∧ o.data = .fields #[.ref a, .int i 0]) := by
  refine ⟨fun i o h => ⟨_, _, h.1, h.2, by simp [itNames]⟩, fun i f g W' σ s o r Q E le hI hg C hr h => ?_⟩
  have hit : s.heap.IsListIter I a i := ⟨o, hg, hI.1, hI.2⟩
  split at hr
  case h_2 => cases hr
  rename_i l hσ
  obtain ⟨a', vs, nn, e, _, hv, hg'⟩ := C.mls (hx.mono le) hσ
  cases e
  have hl : s.heap.IsList a vs.toArray := isL_of hg'
  cases hr
  cases hb : l[i]? with
  | none =>
    rw [hb] at h
    refine wpAny_pyNext_list_end hh hit hl ?_ fun h' he => h h' s.toks fun b o hne e => he b o hne e
    rw [List.getElem?_toArray, List.getElem?_eq_none]
    have := List.getElem?_eq_none_iff.mp hb
    rw [hv.length]; exact this
  | some b =>
    rw [hb] at h
    obtain ⟨u, h1, h2⟩ := hv.get hb
    refine wpAny_pyNext_list_item hit hl (x := u) (by rw [List.getElem?_toArray]; exact h1) fun h' hit' hs => ?_
    obtain ⟨o', q1, q2, q3⟩ := hit'
    exact h u h' s.toks o' ⟨q2, q3⟩ q1 (fun b o hne e => (hs.2 b hne).trans e) h2
end
end Mine

/-! Soundness, 28: for statements (own work). -/
namespace Mine
open PySem PySem.W PySem.Spec PySem.Calls PyProof.Rows PySem.SeqAt

section
variable {c : Cf} {cf : CF} {k : Nat} {cx : CX} {n : Nat} {A : Around} {W : Wd} {I : Addr}
abbrev rngIt (x left : Int) : Obj := { cls := .type "range_iterator", dict := none, data := .fields #[rawInt x, rawInt left, rawInt 1], slots := #[] }
theorem iter_rng {lo hi : Int} (hh : A.handled = none) : Iter c A W I (fun i _ => some ((span lo hi).map V.int)[i]?) (fun i o => o = rngIt (lo + (i : Int)) (((hi - lo).toNat : Int) - (i : Int))) := by
  refine ⟨fun i o h => by subst h; exact ⟨_, _, rfl, rfl, by simp [itNames]⟩, fun i f g W' σ s o r Q E le hI hg C hr h => ?_⟩
  subst hI
  have hit : IsRangeIter s.heap I (lo + (i : Int)) (((hi - lo).toNat : Int) - (i : Int)) 1 := hg
  cases hr
  cases hb : ((span lo hi).map V.int)[i]? with
  | none =>
    rw [hb] at h
    have : (hi - lo).toNat ≤ i := by simpa [span, upTo_len] using hb
    exact wpAny_pyNext_range_end hh hit (by omega) fun h' he => h h' s.toks fun b o hne e => he b o hne e
  | some b =>
    rw [hb] at h
    have hlt : i < (hi - lo).toNat := by
      have := (List.getElem?_eq_some_iff.mp hb).1
      simpa [span, upTo_len] using this
    refine wpAny_pyNext_range_item hit (by omega) fun h' hit' hs => ?_
    refine h _ h' _ _ rfl ?_ (fun b o hne e => (hs.2 b hne).trans e) ?_
    · have e1 : lo + ((i + 1 : Nat) : Int) = lo + (i : Int) + 1 := by push_cast; omega
      have e2 : ((hi - lo).toNat : Int) - ((i + 1 : Nat) : Int) = ((hi - lo).toNat : Int) - (i : Int) - 1 := by push_cast; omega
      rw [e1, e2]; exact hit'
    · rw [span_get hb]; exact .int _ _
end
end Mine

/-! Soundness, 29: for statements (own work). -/
namespace Mine
open PySem PySem.W PySem.Spec PySem.Calls PyProof.Rows PySem.SeqAt

section
variable {c : Cf} {cf : CF} {k : Nat} {cx : CX} {n : Nat}
theorem s_for (B : Below' c cf k cx) {t e : PySem.Expr} {t' : Tg} {e' : Mine.E} {body : List PySem.Stmt} {body' : Mine.Ss} {pos : Pos} (hset : isSet e = false) (hT : compT cx t = some t') (h1 : compE n cx e = some e') (hB : SSok c cf k cx body body') :
    Sok c cf k cx (.For t e body [] pos) (.for_ t' e' body') := fun A f cl W g ρ σ s Q E R hA L G C h => by
  rw [ex] at h
  refine wpAny_For ((B n e e' h1).1 A f W g ρ σ s _ E (R.sit L) G C (AfterS.bindE (rel' := VR c.K) h fun x σ₁ v W₁ g₁ h₁ tk e1 le tn G₁ C₁ hv h2 => ?_)) (fold_plain hset)
  have hh := R.room.handled
  have fin : ∀ {rd : Nat → St → Option (Option V)} {It : Nat → Obj → Prop} {o₀ : Obj} {N : Nat}, Iter c A W₁ h₁.objs.size rd It → It 0 o₀ → o₀.isFreed = false → AfterS c f cx cl W₁ g₁ { s with heap := h₁, toks := tk } (forG rd (bodyF c.T cf t' body') N 0 ρ σ₁) Q E →
      codeAny (model c.prog c.w) A (.forLoop t (.ref h₁.objs.size) body [] f.env) (fun r s' => match r with | .ok fl => Q fl s' | .error e => cameBackBy (model c.prog c.w) A f.env E e s') { s with heap := h₁.push o₀, toks := tk } := by
    intro rd It o₀ N IT h0 hf h3
    have L₁ := L.mono le
    refine loop_ok (s := { s with heap := h₁.push o₀, toks := tk }) hT hB R hA IT h0 (fun p hp => Nat.ne_of_lt (C₁.lt (List.mem_append_left _ hp))) ⟨L₁.len, L₁.loc, L₁.cel, L₁.nd, fun p hp q hq => ?_⟩ G₁ (C₁.newX hf) (h3.here (h' := h₁.push o₀) (tk := tk) (.refl _) .refl)
    rcases List.mem_cons.mp hp with rfl | hp
    · exact Nat.ne_of_gt (C₁.lt (List.mem_append_left _ (List.mem_append_right _ hq)))
    · exact L₁.apart p hp q hq
  dsimp only at h2
  cases x <;> simp only [src] at h2 <;> try exact h2.elim
  · rename_i l
    cases hv with
    | tup hk hvs =>
      split at h2
      · refine wpAny_pyIter_tuple (s := { s with heap := h₁, toks := tk }) (isT_of (C₁.known hk)) (fin (N := l.length + 1) (iter_tup hh hk hvs) ⟨rfl, rfl⟩ rfl ?_)
        rw [← forL_eq l (l.length + 1) 0 ρ σ₁ (by omega) (by omega)]
        exact h2
      · exact h2.elim
  · rename_i l
    cases hv with
    | lst hk hvs =>
      split at h2
      · refine wpAny_pyIter_list (s := { s with heap := h₁, toks := tk }) (isL_of (C₁.known hk)) (fin (N := l.length + 1) (iter_lst hh hk hvs) ⟨rfl, rfl⟩ rfl ?_)
        rw [← forL_eq l (l.length + 1) 0 ρ σ₁ (by omega) (by omega)]
        exact h2
      · exact h2.elim
  · rename_i lo hi
    cases hv with
    | rng hs hk =>
      split at h2
      · refine wpAny_pyIter_range (s := { s with heap := h₁, toks := tk }) (C₁.known hk) (range_small hs.1 hs.2) (fin (N := ((span lo hi).map V.int).length + 1) (iter_rng (lo := lo) (hi := hi) hh) ?_ rfl ?_)
        · rw [range_size]; simp
        · rw [← forL_eq _ (((span lo hi).map V.int).length + 1) 0 ρ σ₁ (by omega) (by omega)]
          exact h2
      · exact h2.elim
  · rename_i j
    split at h2
    case h_2 => exact h2.elim
    rename_i l hσ
    obtain ⟨a, vs, nn, rfl, _, _, hg⟩ := Core.mls (s := { s with heap := h₁, toks := tk }) C₁ hv hσ
    refine wpAny_pyIter_list (s := { s with heap := h₁, toks := tk }) (isL_of hg) (fin (N := l.length + 1) (iter_mls hh hv) ⟨rfl, rfl⟩ rfl ?_)
    exact (congrArg (fun r => AfterS c f cx cl W₁ g₁ { s with heap := h₁, toks := tk } r Q E) (forM_eq (fb := bodyF c.T cf t' body') (o := j) (l.length + 1) 0 ρ σ₁)).mp h2
end
end Mine

/-! Soundness, 30: a comprehension goes to a name (own work). -/
namespace Mine
open PySem PySem.W PySem.Spec PySem.Calls PyProof.Rows PySem.SeqAt

theorem R.bind_assoc {α β γ : Type} (r : R α) (f : α → St → R β) (g : β → St → R γ) : (r.bind f).bind g = r.bind fun a σ => (f a σ).bind g := by
  cases r <;> rfl
section
variable {c : Cf} {cf : CF} {k : Nat} {cx : CX} {n : Nat}
theorem LocR.setL {A : Around} {f : Fm} {cl : List (Str × Addr)} {W : Wd} {ρ : Loc} {x : Str} {i : Nat} {u : Value} {a : V} (R : Run c A k f cx cl) (L : LocR c f cx cl W ρ) (hs : cx.slot x = some i) (hk : cx.sc.names.lookup x = some .local) (hu : VR c.K W u a) :
    LocR c (f.upd (fun y => if y = x then some u else f.m y) f.cells) cx cl W (ρ.set i (some a)) := by
  obtain ⟨hp, _⟩ := slot_cases R hs
  have hil := place_lt hp
  have hget : ∀ {y : Str} {j : Nat} {v : V}, place y cx.loc = some j → (ρ.set i (some a))[j]? = some (some v) → (y = x ∧ v = a) ∨ (y ≠ x ∧ ρ[j]? = some (some v)) := by
    intro y j v hj hv
    by_cases hji : i = j
    · subst hji
      rw [List.getElem?_set_self (by rw [L.len]; exact hil)] at hv
      cases hv
      exact .inl ⟨place_inj hj hp, rfl⟩
    · rw [List.getElem?_set_ne hji] at hv
      exact .inr ⟨fun q => hji (by subst q; rw [hp] at hj; cases hj; rfl), hv⟩
  refine ⟨by simpa using L.len, fun y j hj hkj v hv => ?_, fun y hy => ?_, L.nd, L.apart⟩
  · rcases hget hj hv with ⟨rfl, rfl⟩ | ⟨hne, hv⟩
    · exact ⟨u, by simp, hu⟩
    · obtain ⟨w, hw, hw'⟩ := L.loc y j hj hkj v hv
      exact ⟨w, by simpa [hne] using hw, hw'⟩
  · obtain ⟨ca, o, vo, h1, h2, h3, h4⟩ := L.cel y hy
    refine ⟨ca, o, vo, h1, h2, h3, fun j v hj hv => ?_⟩
    rcases hget hj hv with ⟨rfl, rfl⟩ | ⟨hne, hv⟩
    · rw [hk] at hy; cases hy
    · exact h4 j v hj hv
theorem AfterS.calmE {f : Fm} {cl : List (Str × Addr)} {W : Wd} {g : Heap} {s : Shared} {Q : Flow → Shared → Prop} {E E' : Value → Shared → Prop} {γ δ : Type} {rel' : Wd → δ → γ → Prop} {r : Mine.R γ} {kont : γ → St → Mine.R (Fl × Loc)} {Q₁ : δ → Shared → Prop} (h : AfterS c f cx cl W g s (r.calm.bind kont) Q E)
    (q : ∀ a σ' v W' h' tk, r = .ok a σ' → W.le W' → Cr c f g W' σ' h' → rel' W' v a → AfterS c f cx cl W' g { s with heap := h', toks := tk } (kont a σ') Q E → Q₁ v { s with heap := h', toks := tk }) : After c f.quiet rel' W g s r Q₁ E' := by
  cases r with
  | ok a σ' => exact fun v W' g' h' tk le t G C hv => q a σ' v W' h' tk rfl le (Core.same (turn_nil t) t.size C) hv (h.here le .refl)
  | exc x σ' => exact h.elim
  | bad => exact h.elim
theorem s_asgC (B : Below' c cf k cx) {x : Str} {i : Nat} {t : Str} {sc : Scope} {ifs : List PySem.Expr} {it elt : PySem.Expr} {xp px cpos pos : Pos} {s' e' : Mine.E} {p' : Es} (hs : cx.slot x = some i) (hok : okComp cx t sc = true) (hset : isSet it = false) (hlen : ifs.length < 2)
    (hb : compE n cx (.ListComp elt [⟨.Name t px, it, ifs, 0⟩] sc cpos) = some (.comp e' s' p'))
    (II : Eok c cf k { cx with q := true } it s') (IE : Eok c cf k { cx with sc := sc, tgt := some t, q := true } elt e') (IP : All2 (Tok c cf k { cx with sc := sc, tgt := some t, q := true }) ifs p') :
    Sok c cf k cx (.Assign [.Name x xp] (.ListComp elt [⟨.Name t px, it, ifs, 0⟩] sc cpos) pos) (.asg (.one i) (.comp e' s' p')) := fun A f cl W g ρ σ s Q E R hA L G C h => by
  rw [ex] at h
  cases hsw : (f.env.blockKind == .function && f.env.kindOf x == some .local && xp.line == cpos.line && !(sc.names.any fun (n, k) => n == x && (k == .local || k == .cell))) with
  | false =>
    have hsw' : swapsWith (.ListComp elt [⟨.Name t px, it, ifs, 0⟩] sc cpos) (some (.Name x xp)) pos.line f.env = pure false := by rw [← hsw]; rfl
    refine wpAny_Assign_Name ((B n _ _ hb).1 A f W g ρ σ s _ E (R.sit L) G C (AfterS.bindE (rel' := VR c.K) h fun a σ₁ v W₁ g₁ h₁ tk e1 le tn G₁ C₁ hv h2 => ?_)) hsw'
    exact store_next R (L.mono le) G₁ C₁ hs hv h2
  | true =>
    have hsw' : swapsWith (.ListComp elt [⟨.Name t px, it, ifs, 0⟩] sc cpos) (some (.Name x xp)) pos.line f.env = pure true := by rw [← hsw]; rfl
    simp only [Bool.and_eq_true, beq_iff_eq] at hsw
    have hkx : f.env.kindOf x = some .local := hsw.1.1.2
    have O := okS_of hok
    have S := R.sit L
    obtain ⟨cn, fa, cd, he⟩ := R.env
    have hkx' : cx.sc.names.lookup x = some .local := by rw [he] at hkx; exact hkx
    have hLe : f.env.locals = f.L := by rw [he]
    have hcls : (f.env.scope.kind == .class || (f.env.scope.kind == .module && f.env.locals != f.env.globals)) = false := by rw [R.room.kind]; rfl
    obtain ⟨hcl, hclo⟩ := clos_ok S R.q O
    rw [ev, Mine.R.bind_assoc] at h
    have fin : ∀ {W₁ : Wd} {h₁ : Heap} {tk₁ : Nat} {a : V} {σ' : St}, LocR c f cx cl W₁ ρ → GK c.K W₁ g → AfterS c f cx cl W₁ g { s with heap := h₁, toks := tk₁ } (Mine.R.of σ' ((setT (.one i) a ρ).map fun ρ => (Fl.next, ρ))) Q E → ∀ h ys acc' W', W₁.le W' → Apart f.X W' → SR c.K W' c.att W'.en σ' → VRs c.K W' ys acc' → a = .lst acc' →
        LCg.FinA g f.L f.m { s with heap := h, toks := tk₁ } x Q ys (f.X ++ W'.led) := by
      intro W₁ h₁ tk₁ a σ' L₁ hk h2 h ys acc' W' le ap sr hv ha D h₃ tk F N o1
      subst ha
      have C' : Cr c (f.upd (fun y => if y = x then some (.ref D) else f.m y) f.cells) g _ σ' h₃ := fin_core (f := f.upd (fun y => if y = x then some (.ref D) else f.m y) f.cells) (hk.le le) ap sr F N o1
      have hv' : VR c.K ⟨(D, listOf ys.toArray ys.length) :: W'.fz, W'.en, W'.kn⟩ (.ref D) (.lst acc') := .lst (n := ys.length) (.inr (.head _)) (hv.mono le_cons)
      exact h2 .next _ g _ f.cells h₃ tk (le.trans le_cons) .refl G rfl C' .next fun _ => ((L₁.mono le).mono le_cons).setL R hs hkx' hv'
    cases IP with
    | nil =>
      refine LCg.Assign_ListComp_U C.F hLe hsw' hcl O.ncell O.kind O.hnames O.hx hkx hcls (II A f.quiet W g ρ σ s _ E S.quiet G.quiet C (AfterS.calmE h fun y σ₁ v W₁ h₁ tk e1 le C₁ hv h2 => ?_)) (fold_plain hset)
      split at h2
      · rename_i l hl
        split at h2
        · rename_i hz
          cases hr : compL (fun v σ => ev c.T cf e' (ρ ++ [some v]) σ) (fun v σ => evIfs c.T cf .nil (ρ ++ [some v]) σ) l σ₁ [] with
          | bad => rw [hr] at h2; exact h2.elim
          | exc x σ' => exact absurd hr (compL_exc _ _ _)
          | ok a σ' =>
            rw [hr] at h2
            exact src_U R.q R.tgt O hclo IE G (S.mono le) C₁ hv hl hz hr (fin (L.mono le) C₁.gk h2)
        · exact h2.elim
      · exact h2.elim
    | @cons ct t' r r' hs' hT hr' =>
      cases hr' with
      | cons _ _ _ => simp only [List.length_cons] at hlen; omega
      | nil =>
        refine LCt.Assign_ListComp_T C.F hLe hsw' hcl O.ncell O.kind O.hnames O.hx hkx hcls (II A f.quiet W g ρ σ s _ E S.quiet G.quiet C (AfterS.calmE h fun y σ₁ v W₁ h₁ tk e1 le C₁ hv h2 => ?_)) (fold_plain hset)
        split at h2
        · rename_i l hl
          split at h2
          · rename_i hz
            cases hr : compL (fun v σ => ev c.T cf e' (ρ ++ [some v]) σ) (fun v σ => evIfs c.T cf (.cons t' .nil) (ρ ++ [some v]) σ) l σ₁ [] with
            | bad => rw [hr] at h2; exact h2.elim
            | exc x σ' => exact absurd hr (compL_exc _ _ _)
            | ok a σ' =>
              rw [hr] at h2
              exact src_T R.q R.tgt O hclo hT IE G (S.mono le) C₁ hv hl hz hr (fin (L.mono le) C₁.gk h2)
          · exact h2.elim
        · exact h2.elim
end
end Mine

/-! Soundness, 31: try statements (own work). -/
namespace Mine
open PySem PySem.W PySem.Spec PySem.Calls PyProof.Rows PySem.SeqAt

theorem exm_test {K : Frag} {x : Mine.X} (hx : isN x = false) {h : Hk} {y : Str} (hh : excH y = some h) : ∃ T, bootBuiltins y = some (.type T) ∧ y ≠ "__name__" ∧ (y == ("__debug__" : Str)) = false ∧ exmOne K (.type (xcls x)) (.type T) = some (hit h x) := by
  unfold excH at hh
  split at hh
  · rename_i q
    cases hh
    rw [beq_iff_eq.mp q]
    refine ⟨"ValueError", by kernel_rfl, by decide, by rfl, ?_⟩
    cases x <;> first | (exact absurd hx (by decide)) | kernel_rfl
  · split at hh
    · rename_i q
      cases hh
      rw [beq_iff_eq.mp q]
      refine ⟨"Exception", by kernel_rfl, by decide, by rfl, ?_⟩
      cases x <;> first | (exact absurd hx (by decide)) | kernel_rfl
    · cases hh
section
variable {c : Cf} {cf : CF} {k : Nat} {cx : CX} {n : Nat}
/-- what the suite of a handler needs -/
theorem suite_ok {A : Around} {f : Fm} {cl : List (Str × Addr)} {W : Wd} {g : Heap} {ρ : Loc} {σ : St} {s : Shared} {Q : Flow → Shared → Prop} {kk : Const} {v : V} {kn : Nat} {cp rp : Pos} (hv : constV kk = some v) (G : Gd c f g) (C : Cr c f g W σ s.heap)
    (h : AfterS c f cx cl W g s (.ok (.ret v, ρ) σ) Q (fun _ _ => False)) : wpAny (model c.prog c.w) A (execs [.Return (some (.Constant kk kn cp)) rp] f.env) Q (fun _ _ => False) s := by
  refine wpAny_execs_cons ?_
  rw [exec_Return_some]
  refine wpAny_bind (wpAny_standAt (wpAny_bind (const_ok (σ := σ) G C hv fun u W' g' h' tk le t G' C' hu => ?_)))
  exact wpAny_pure (h (.ret u) W' g' f.m f.cells h' tk le t G' rfl C' (.ret hu) fun q => absurd rfl (q _))
theorem handlers_ok {f : Fm} {name : Str} {fa : Addr} {cd : Value} {W : Wd} {g g₀ G : Heap} {m' : Str → Option Value} {cells' : List (Addr × Obj)} {σ : St} {Q : Flow → Shared → Prop} {x : Mine.X} {ea : Addr} {v : V}
    (co : CfOk c) (hK : cx.K = c.K) (he : f.env = envOf name cx.sc f.L fa cd) (hkind : cx.sc.kind = .function) (hx : isN x = false)
    (Gg : Gd c f g) (T0 : Tn f g₀ g) (F : Fr g f.L G m') (ap : Apart (f.its ++ cells') W) (sr : SR c.K W c.att W.en σ) (gk : GK c.K W g) : ∀ (hs : List ExceptHandler) (l : List (Hk × V)) (s' : Shared), compH cx hs = some l → caught x l = some v →
    RaisedSN c.base G (f.env :: f.outer) ea (.type (xcls x)) ((f.its ++ cells') ++ W.led) s'.heap → G.UpToSlots s'.heap →
    (∀ h' g', Tn f g₀ g' → Gd c f g' → Cr c (f.upd m' cells') g' W σ h' → ∀ (M : Around) (kk : Const) (kn : Nat) (cp rp : Pos), constV kk = some v → wpAny (model c.prog c.w) M (execs [.Return (some (.Constant kk kn cp)) rp] f.env) Q (fun _ _ => False) { s' with heap := h' }) →
    wpAny (model c.prog c.w) (f.A₀.deeper f.env) (handleBy (.ref ea) f.env hs) Q (fun _ _ => False) s' := by
  have core : ∀ h' g', KtsTurn (frs f.outer) g₀ g' → Fr g' f.L h' m' → News g' f.L h' ((f.its ++ cells') ++ W.led) → Below f.A₀ c.base f.outer g' → KtsDicts (frs f.outer) g' → c.K.In g' → Tn f g g' → Gd c f g' ∧ Cr c (f.upd m' cells') g' W σ h' := fun h' g' t F' N' B' D' X' t' => by
    have G' : Gd c f g' := ⟨B', D'⟩
    exact ⟨G', F', N', ap, sr, X', (gk.turn co.kin Gg G' t').knw⟩
  intro hs
  induction hs with
  | nil => intro l s' hc hv; unfold compH at hc; cases hc; cases hv
  | cons h r ih =>
    intro l s' hc hv R hsm fin
    unfold compH at hc
    split at hc
    · rename_i q; cases q
    · rename_i kk kn cp rp hp r' q
      cases q
      split at hc
      · rename_i v' l' h1 h2
        cases hc
        have hv' : v' = v := by
          unfold caught at hv
          have : hit .bare x = true := by cases x <;> first | rfl | cases hx
          rw [this] at hv
          exact Option.some.inj hv
        subst hv'
        rw [he] at R fin ⊢
        refine bare_SN R F Gg.below hsm co.kin co.top Gg.dicts (KtsTurn.refl (g := g)) (fun h' g' t F' N' B' X' P' D' => ?_) PassesOwnAt.never
        obtain ⟨G', C'⟩ := core h' g' (T0.trans t) F' N' B' D' X' t
        exact fin h' g' (T0.trans t) G' C' _ kk kn cp rp h1
      · cases hc
    · rename_i y yp kk kn cp rp hp r' q
      cases q
      split at hc
      · rename_i hb
        simp only [Bool.and_eq_true, beq_iff_eq] at hb
        split at hc
        · rename_i h v' l' h0 h1 h2
          cases hc
          obtain ⟨T, b1, b2, b3, b4⟩ := exm_test (K := c.K) hx h0
          have hn : nsIn c.K mainGlobals y = some none := by rw [← hK]; exact hb.2
          have tst : KtsTest c.prog c.w c.K c.p c.loose c.mg c.mb name cx.sc f.L fa cd (.type (xcls x)) (.Name y yp) (hit h x) := test_name (.inr ⟨hn, b1, b2⟩) b4 hkind hb.1 b3
          unfold caught at hv
          cases hh : hit h x with
          | true =>
            rw [hh] at hv tst
            have hv' : v' = v := Option.some.inj hv
            subst hv'
            rw [he] at R fin ⊢
            refine hit_SN0 R F Gg.below hsm co.kin co.top Gg.dicts (KtsTurn.refl (g := g)) tst (fun h' g' t F' N' B' X' P' D' => ?_) PassesOwnAt.never
            obtain ⟨G', C'⟩ := core h' g' (T0.trans t) F' N' B' D' X' t
            exact fin h' g' (T0.trans t) G' C' _ kk kn cp rp h1
          | false =>
            rw [hh] at hv tst
            have ih' := ih l'
            rw [he] at R fin ih' ⊢
            refine pass_SN R F Gg.below hsm co.kin co.top Gg.dicts tst fun h' R' hsm' => ?_
            exact ih' { s' with heap := h' } h2 hv R' hsm' fin
        · cases hc
      · cases hc
    · cases hc
theorem s_try (co : CfOk c) {body : List PySem.Stmt} {body' : Mine.Ss} {h₀ : ExceptHandler} {hs : List ExceptHandler} {l : List (Hk × V)} {pos : Pos} (hcell : ∀ n ∈ cx.sc.names, n.2 ≠ .cell) (hB : SSok c cf k cx body body') (hH : compH cx (h₀ :: hs) = some l) :
    Sok c cf k cx (.Try body (h₀ :: hs) [] [] pos) (.try_ body' l) := fun A f cl W g ρ σ s Q E R hA L G C h => by
  rw [ex] at h
  obtain ⟨cn, fa, cd, he⟩ := R.env
  rw [R.nocell hcell] at he
  refine wpAny_Try_except (hB A f cl W g ρ σ s _ _ R hA L G C ?_)
  cases hr : exs c.T cf body' ρ σ with
  | bad => rw [hr] at h; exact h.elim
  | ok q σ' =>
    rw [hr] at h
    obtain ⟨fl, ρ'⟩ := q
    intro flv W' g' m' cells' h' tk le t G' hc C' hf hl
    have hq := h flv W' g' m' cells' h' tk le t G' hc C' hf hl
    cases hf with
    | next => exact wpAny_execs_nil hq
    | cont => exact hq
    | ret hv => exact hq
  | exc x σ' =>
    rw [hr] at h
    dsimp only at h
    cases hcv : caught x l with
    | none => rw [hcv] at h; exact h.elim
    | some v =>
      rw [hcv] at h
      intro e s' hx
      obtain ⟨ea, W', g', m', cells', h', tk, rfl, rfl, le, t, G', hc, hx⟩ := hx
      rcases hx with ⟨hh, _, hfr⟩ | ⟨hN, G₁, R₁, F₁, u₁, ap, sr, gk⟩
      · have : x = .valN ∨ x = .packN := by cases x <;> first | exact hfr.elim | exact .inl rfl | exact .inr rfl
        have : ∀ l, caught x l = none := fun l => by
          rcases this with rfl | rfl
          · induction l with
            | nil => rfl
            | cons p r ih => obtain ⟨a, b⟩ := p; unfold caught; rw [show hit a .valN = false from by cases a <;> rfl]; exact ih
          · induction l with
            | nil => rfl
            | cons p r ih => obtain ⟨a, b⟩ := p; unfold caught; rw [show hit a .packN = false from by cases a <;> rfl]; exact ih
        rw [this l] at hcv
        cases hcv
      · rw [hA]
        have he' : f.env = envOf cn cx.sc f.L fa cd := he
        have key : ∀ h₂, RaisedSN c.base G₁ (f.env :: f.outer) ea (.type (xcls x)) ((f.its ++ cells') ++ W'.led) h₂ → G₁.UpToSlots h₂ → wpAny (model c.prog c.w) (f.A₀.deeper f.env) (handleBy (.ref ea) f.env (h₀ :: hs)) Q E { s with heap := h₂, toks := tk } := fun h₂ R₂ u₂ => by
          refine wpAny_mono (handlers_ok co R.eK he' R.kind hN G' (KtsTurn.refl (g := g')) F₁ ap sr gk (h₀ :: hs) l { s with heap := h₂, toks := tk } hH hcv R₂ u₂ fun h₃ g₃ t₃ G₃ C₃ M kk kn cp rp hk => ?_) (fun _ _ q => q) fun _ _ q => False.elim q
          refine suite_ok (cx := cx) (cl := cl) (ρ := ρ) (f := f.upd m' cells') hk G₃ C₃ ?_
          exact fun flv W₄ g₄ m₄ cells₄ h₄ tk₄ le₄ tn₄ G₄ hc₄ C₄ hf hl => h flv W₄ g₄ m₄ cells₄ h₄ tk₄ (le.trans le₄) (t.trans (t₃.trans tn₄)) G₄ (hc₄.trans hc) C₄ hf fun q => absurd rfl (q _)
        rw [he'] at R₁ key ⊢
        exact kts_lookSN R₁ F₁ G'.below u₁ G'.dicts fun h₂ R₂ u₂ => key h₂ R₂ u₂
end
end Mine

/-! Soundness, 32: every statement (own work). -/
namespace Mine
open PySem PySem.W PySem.Spec PySem.Calls PyProof.Rows PySem.SeqAt

section
variable {c : Cf} {cf : CF} {k : Nat}
theorem notStar_of {n : Nat} {cx : CX} {e : PySem.Expr} {e' : Mine.E} (h : compE n cx e = some e') : notStar e = true := by
  cases e <;> first | rfl | (cases n <;> (unfold compE at h; cases h))
theorem comp_asg (co : CfOk c) (hcf : CallOk c k cf) {n : Nat} {cx : CX} {x : Str} {i : Nat} {e : PySem.Expr} {e' : Mine.E} {xp pos : Pos} (hK : cx.K = c.K) (hA : cx.att = c.att) (hq : cx.q = false) (ht : cx.tgt = none) (hs : cx.slot x = some i) (h1 : compE n cx e = some e') :
    Sok c cf k cx (.Assign [.Name x xp] e pos) (.asg (.one i) e') := by
  have B : Below' c cf k cx := fun n e e' h => ev_ok co hcf n cx e e' hK hA (fun _ => ht) h
  cases hc : isComp e with
  | false => exact s_asg1 B hs h1 hc
  | true =>
    have h1' := h1
    cases n with
    | zero => unfold compE at h1; cases h1
    | succ n =>
    cases e <;> simp only [isComp, reduceCtorEq] at hc
    · unfold compE at h1
      split at h1 <;> first | (rename_i q; cases q; done) | (cases h1; done) | skip
      rename_i elt t px it ifs sc cpos q
      cases q
      split at h1
      · rename_i hc
        simp only [Bool.and_eq_true, Bool.not_eq_true', decide_eq_true_eq] at hc
        obtain ⟨⟨⟨⟨c1, c2⟩, c3⟩, c4⟩, c5⟩ := hc
        split at h1
        · rename_i s' e1 p' k1 k2 k3
          cases h1
          exact s_asgC B hs c3 c4 c5 h1' (ev_ok co hcf n { cx with q := true } _ _ hK hA (fun q => by cases q) k1).1
              (ev_ok co hcf n { cx with sc := _, tgt := some t, q := true } _ _ hK hA (fun q => by cases q) k2).1
              ((compEs_all k3).mono fun e e' ⟨m, hm, hq⟩ => (ev_ok co hcf m { cx with sc := _, tgt := some t, q := true } e e' hK hA (fun q => by cases q) hq).2)
        · cases h1
      · cases h1
    · unfold compE at h1; cases h1
    · unfold compE at h1; cases h1
theorem compS_ok (co : CfOk c) (hcf : CallOk c k cf) {cx : CX} (hK : cx.K = c.K) (hA : cx.att = c.att) (hq : cx.q = false) (ht : cx.tgt = none) : ∀ n, (∀ s s', compS n cx s = some s' → Sok c cf k cx s s') ∧ (∀ l l', compSs n cx l = some l' → SSok c cf k cx l l') := by
  have B : Below' c cf k cx := fun n e e' h => ev_ok co hcf n cx e e' hK hA (fun _ => ht) h
  intro n
  induction n with
  | zero => exact ⟨fun s s' h => (by unfold compS at h; cases h), fun l l' h => (by unfold compSs at h; cases h)⟩
  | succ n ih =>
    refine ⟨fun s s' h => ?_, fun l l' h => ?_⟩
    · unfold compS at h
      split at h
      · split at h
        · rename_i h1 h2 h3
          cases h
          exact s_setA co B h1 h2 h3
        · cases h
      · split at h
        · cases h
        · split at h
          · rename_i h1 h2 h3
            cases h
            exact s_setI B h1 h2 h3
          · cases h
      · split at h
        · rename_i hlen
          split at h
          · rename_i i hs
            split at h
            · obtain ⟨es', he, rfl⟩ := Option.map_eq_some_iff.mp h
              exact s_mls hs hlen ((compEs_all he).mono fun e e' ⟨m, hm, q⟩ => (B m e e' q).1)
            · obtain ⟨es', he, rfl⟩ := Option.map_eq_some_iff.mp h
              exact s_asg1 (n := n + 1) B hs (by simp only [compE, hlen, he, if_true, Option.map_some]) rfl
          · cases h
        · cases h
      · split at h
        · rename_i i e' hT he
          cases h
          unfold compT at hT
          split at hT
          · obtain ⟨j, hs, q⟩ := Option.map_eq_some_iff.mp hT
            cases q
            exact comp_asg co hcf hK hA hq ht hs he
          · split at hT
            · cases hT
            · obtain ⟨j, hs, q⟩ := Option.map_eq_some_iff.mp hT
              cases q
          · cases hT
        · rename_i is e' hT he
          split at h
          · cases h
          · rename_i hc
            cases h
            have hT' := hT
            unfold compT at hT'
            split at hT'
            · obtain ⟨j, hs, q⟩ := Option.map_eq_some_iff.mp hT'
              cases q
            · exact s_asgN B hT he (by simpa using hc)
            · cases hT' 
        · cases h
      · split at h
        · rename_i h1 h2 h3
          cases h
          exact s_aug B h1 h2 h3
        · cases h
      · split at h
        · rename_i hc
          simp only [Bool.and_eq_true, beq_iff_eq] at hc
          split at h
          · rename_i h1 h2
            cases h
            obtain ⟨⟨rfl, hn⟩, hl⟩ := hc
            exact s_app B h1 hn (by rw [hl]; exact beq_self_eq_true _) h2 (notStar_of h2)
          · cases h
        · cases h
      · obtain ⟨e', he, rfl⟩ := Option.map_eq_some_iff.mp h
        exact s_ret B he
      · cases h
        exact s_retN
      · split at h
        · rename_i h1 h2 h3
          cases h
          exact s_if B h1 (ih.2 _ _ h2) (ih.2 _ _ h3)
        · cases h
      · split at h
        · cases h
        · rename_i hset
          split at h
          · rename_i h1 h2 h3
            cases h
            exact s_for B (by simpa using hset) h1 h2 (ih.2 _ _ h3)
          · cases h
      · split at h
        · rename_i hc
          split at h
          · rename_i h1 h2
            cases h
            exact s_try co (fun n hn => by simpa using List.all_eq_true.mp hc n hn) (ih.2 _ _ h1) h2
          · cases h
        · cases h
      · split at h
        · rename_i hc
          simp only [Bool.and_eq_true, beq_iff_eq] at hc
          obtain ⟨e', he, rfl⟩ := Option.map_eq_some_iff.mp h
          exact s_raise B co hc.1.1 hc.1.2 (hK ▸ hc.2) he (notStar_of he)
        · cases h
      · obtain ⟨e', he, rfl⟩ := Option.map_eq_some_iff.mp h
        exact s_assert B he
      · cases h
        exact s_cont
      · cases h
    · cases l with
      | nil => unfold compSs at h; cases h; exact ss_nil
      | cons s r =>
        unfold compSs at h
        split at h
        · rename_i h1 h2
          cases h
          exact ss_cons (ih.1 _ _ h1) (ih.2 _ _ h2)
        · cases h
end
end Mine

/-! Soundness, 33: arguments are bound (own work). -/
namespace Mine
open PySem PySem.W PySem.Spec PySem.Calls PyProof.Rows PySem.SeqAt

section
variable {M : Model} {A : Around} {E : Value → Shared → Prop} {s : Shared}
theorem forIn_kw {ps : List Str} {f : Str × Value → List (Str × Value) × List (Str × Value) → Sem (ForInStep (List (Str × Value) × List (Str × Value)))}
    (hf : ∀ p sl, ps.contains p.1 = true → (sl.lookup p.1).isSome = false → f p (sl, []) = pure (.yield (sl ++ [p], []))) : ∀ (kws sl : List (Str × Value)), (∀ p ∈ kws, ps.contains p.1 = true ∧ (sl.lookup p.1).isSome = false) → (kws.map (·.1)).Nodup →
    forIn kws (sl, []) f = pure (sl ++ kws, [])
  | [], sl, _, _ => by rw [List.append_nil]; rfl
  | p :: r, sl, h, nd => by
    rw [List.forIn_cons, hf p sl (h p (.head _)).1 (h p (.head _)).2]
    show forIn r (sl ++ [p], []) f = _
    rw [forIn_kw hf r (sl ++ [p]) (fun q hq => ⟨(h q (.tail _ hq)).1, ?_⟩) (List.nodup_cons.mp nd).2]
    · simp
    · have h1 := (h q (.tail _ hq)).2
      have hne : (q.1 == p.1) = false := by
        refine beq_eq_false_iff_ne.mpr fun e => (List.nodup_cons.mp nd).1 ?_
        have hm : q.1 ∈ r.map (·.1) := List.mem_map_of_mem (f := (·.1)) hq
        rw [e] at hm
        exact hm
      rw [List.lookup_append, List.lookup_cons, hne]
      simpa using h1
theorem wp_kw {ps : List Str} {f : Str × Value → List (Str × Value) × List (Str × Value) → Sem (ForInStep (List (Str × Value) × List (Str × Value)))} {kws sl : List (Str × Value)} {β : Type} {k : List (Str × Value) × List (Str × Value) → Sem β} {Q : β → Shared → Prop}
    (hf : ∀ p sl, ps.contains p.1 = true → (sl.lookup p.1).isSome = false → f p (sl, []) = pure (.yield (sl ++ [p], []))) (h1 : ∀ p ∈ kws, ps.contains p.1 = true ∧ (sl.lookup p.1).isSome = false) (nd : (kws.map (·.1)).Nodup)
    (h : wpAny M A (k (sl ++ kws, [])) Q E s) : wpAny M A (forIn kws (sl, []) f >>= k) Q E s := by
  rw [forIn_kw hf kws sl h1 nd]
  exact h
def dflts : List (Str × Value) → List (Str × Value) → List (Str × Value)
  | [], sl => sl
  | p :: r, sl => dflts r (if (sl.lookup p.1).isNone = true then sl ++ [p] else sl)
theorem dflts_lookup {x : Str} : ∀ (l sl : List (Str × Value)), (dflts l sl).lookup x = (sl.lookup x).or (l.lookup x)
  | [], sl => by simp [dflts]
  | p :: r, sl => by
    unfold dflts
    rw [dflts_lookup r]
    obtain ⟨a, b⟩ := p
    rw [List.lookup_cons (as := r)]
    by_cases hx : (x == a) = true
    · have := beq_iff_eq.mp hx
      subst this
      cases hl : sl.lookup x with
      | none => simp [List.lookup_append, hl]
      | some v => simp [hl]
    · simp only [Bool.not_eq_true] at hx
      rw [hx]
      cases hl : sl.lookup a with
      | none =>
        simp only [Option.isNone_none, if_true, List.lookup_append, List.lookup_cons, hx, List.lookup_nil, Option.or_none]
      | some v => simp only [Option.isNone_some, Bool.false_eq_true, if_false]
theorem forIn_df {f : Str × Value → List (Str × Value) → Sem (ForInStep (List (Str × Value)))} (hf : ∀ p sl, f p sl = pure (.yield (if (sl.lookup p.1).isNone = true then sl ++ [p] else sl))) : ∀ (l sl : List (Str × Value)), forIn l sl f = pure (dflts l sl)
  | [], sl => rfl
  | p :: r, sl => by
    rw [List.forIn_cons, hf p sl]
    exact forIn_df hf r _
theorem wp_df {f : Str × Value → List (Str × Value) → Sem (ForInStep (List (Str × Value)))} {l sl : List (Str × Value)} {β : Type} {k : List (Str × Value) → Sem β} {Q : β → Shared → Prop} (hf : ∀ p sl, f p sl = pure (.yield (if (sl.lookup p.1).isNone = true then sl ++ [p] else sl)))
    (h : wpAny M A (k (dflts l sl)) Q E s) : wpAny M A (forIn l sl f >>= k) Q E s := by
  rw [forIn_df hf]
  exact h
end
/-- the defaults of a function -/
def DefaultsAre (h : Heap) (v : Value) (ds : List Value) : Prop := (v = .none ∧ ds = []) ∨ ∃ a o vs n, v = .ref a ∧ h.get? a = some o ∧ o.data = .seq vs n ∧ vs.toList = ds
theorem seq_cont {M : Model} {A : Around} {E : Value → Shared → Prop} {s : Shared} {v : Value} {ds : List Value} {β : Type} {k : Option (Array Value) → Sem β} {Q : β → Shared → Prop} (h : DefaultsAre s.heap v ds) (hk : ∀ items, (items.getD #[]).toList = ds → wpAny M A (k items) Q E s) : wpAny M A (seqItems? v >>= k) Q E s := by
  rcases h with ⟨rfl, rfl⟩ | ⟨a, o, vs, n, rfl, ho, hd, rfl⟩
  · exact hk none rfl
  · exact wpAny_bind (wpAny_seqItems ho hd (hk (some vs) rfl))
theorem binds_ok {s : Shared} {fd : FuncData} {pos : List Value} {kws : List (Str × Value)} {ds : List Value} (h1 : fd.params.posonlyargs = []) (h2 : fd.params.vararg = none) (h3 : fd.params.kwonlyargs = []) (h4 : fd.params.kwarg = none)
    (hds : DefaultsAre s.heap fd.defaults ds) (hlen : pos.length ≤ (fd.params.args.map (·.arg)).length) (hk : ∀ p ∈ kws, (fd.params.args.map (·.arg)).contains p.1 = true ∧ (((fd.params.args.map (·.arg)).zip pos).lookup p.1).isSome = false) (nd : (kws.map (·.1)).Nodup) (hd : ds.length ≤ (fd.params.args.map (·.arg)).length)
    (hm : ∀ n ∈ (fd.params.args.map (·.arg)).take ((fd.params.args.map (·.arg)).length - ds.length), ((((fd.params.args.map (·.arg)).zip pos) ++ kws).lookup n).isNone = false) :
    BindsTo s fd ⟨pos, kws⟩ ((fd.params.args.map (·.arg)).filterMap fun n => ((dflts (((fd.params.args.map (·.arg)).drop ((fd.params.args.map (·.arg)).length - ds.length)).zip ds) (((fd.params.args.map (·.arg)).zip pos) ++ kws)).lookup n).map (n, ·)) := by
  intro M A E Q hQ
  unfold bindArgs
  simp only [h1, h2, h3, h4, List.map_nil, List.nil_append, List.append_nil, Option.isSome_none, Option.isNone_none, Bool.and_true, Bool.or_false, List.contains_nil, List.forIn_nil]
  refine wp_kw (ps := fd.params.args.map (·.arg)) (fun p sl hp hl => ?_) hk nd ?_
  · dsimp only
    rw [if_pos hp, hl]
    rfl
  · refine seq_cont hds fun items hi => ?_
    have e0 : ds.length - (fd.params.args.map (·.arg)).length = 0 := by omega
    simp only [hi, e0, List.drop_zero]
    rw [if_neg (by simpa using hlen), if_neg ?_]
    · refine wp_df (fun p sl => ?_) ?_
      · by_cases hp : (sl.lookup p.1).isNone = true
        · rw [if_pos hp, if_pos hp]
        · rw [if_neg hp, if_neg hp]
      · exact wpAny_pure hQ
    · rw [List.filter_eq_nil_iff.mpr fun n hn => by rw [hm n hn]; simp]
      simp
end Mine

/-! Soundness, 34: the evaluator's binding and the model's (own work). -/
namespace Mine
open PySem PySem.W PySem.Spec PySem.Calls PyProof.Rows PySem.SeqAt

theorem bindGo_spec : ∀ (ps : List (Nat × Option V)) (as : List V) (kw : List (Nat × V)) (ρ : Loc), bindGo ps as kw = some ρ → ρ.length = ps.length ∧ as.length ≤ ps.length ∧
    ∀ (i k : Nat) (d : Option V), ps[i]? = some (k, d) → ∃ v, ρ[i]? = some (some v) ∧ (as[i]? = some v ∨ (as.length ≤ i ∧ (kw.lookup k = some v ∨ (kw.lookup k = none ∧ d = some v))))
  | [], [], kw, ρ, h => by unfold bindGo at h; cases h; exact ⟨rfl, Nat.le_refl _, fun i k d q => by simp at q⟩
  | [], _ :: _, kw, ρ, h => by unfold bindGo at h; cases h
  | p :: r, v :: vs, kw, ρ, h => by
    unfold bindGo at h
    obtain ⟨ρ', h', rfl⟩ := Option.map_eq_some_iff.mp h
    obtain ⟨i1, i2, i3⟩ := bindGo_spec r vs kw ρ' h'
    refine ⟨by simp [i1], by simpa using i2, fun i k d q => ?_⟩
    cases i with
    | zero => exact ⟨v, rfl, .inl rfl⟩
    | succ i =>
      obtain ⟨u, e1, e2⟩ := i3 i k d (by simpa using q)
      refine ⟨u, by simpa using e1, ?_⟩
      rcases e2 with e2 | ⟨e2, e3⟩
      · exact .inl (by simpa using e2)
      · exact .inr ⟨by simpa using e2, e3⟩
  | (k₀, d₀) :: r, [], kw, ρ, h => by
    unfold bindGo at h
    have step : ∀ {v : V}, ((bindGo r [] kw).map (some v :: ·)) = some ρ → (kw.lookup k₀ = some v ∨ (kw.lookup k₀ = none ∧ d₀ = some v)) → ρ.length = r.length + 1 ∧ ∀ (i k : Nat) (d : Option V), ((k₀, d₀) :: r)[i]? = some (k, d) → ∃ v, ρ[i]? = some (some v) ∧ (kw.lookup k = some v ∨ (kw.lookup k = none ∧ d = some v)) := by
      intro v h hv
      obtain ⟨ρ', h', rfl⟩ := Option.map_eq_some_iff.mp h
      obtain ⟨i1, i2, i3⟩ := bindGo_spec r [] kw ρ' h'
      refine ⟨by simp [i1], fun i k d q => ?_⟩
      cases i with
      | zero => simp at q; obtain ⟨rfl, rfl⟩ := q; exact ⟨v, rfl, hv⟩
      | succ i =>
        obtain ⟨u, e1, e2⟩ := i3 i k d (by simpa using q)
        refine ⟨u, by simpa using e1, ?_⟩
        rcases e2 with e2 | ⟨_, e3⟩
        · simp at e2
        · exact e3
    have fin : (ρ.length = r.length + 1 ∧ ∀ (i k : Nat) (d : Option V), ((k₀, d₀) :: r)[i]? = some (k, d) → ∃ v, ρ[i]? = some (some v) ∧ (kw.lookup k = some v ∨ (kw.lookup k = none ∧ d = some v))) := by
      split at h
      · rename_i v hv; exact step h (.inl hv)
      · rename_i hv
        split at h
        · rename_i v; exact step h (.inr ⟨hv, rfl⟩)
        · cases h
    refine ⟨by simpa using fin.1, by simp, fun i k d q => ?_⟩
    obtain ⟨v, e1, e2⟩ := fin.2 i k d q
    exact ⟨v, e1, .inr ⟨by simp, e2⟩⟩
theorem zip_lookup {x : Str} {u : Value} : ∀ {ps : List Str} {vs : List Value} {i : Nat}, ps.Nodup → ps[i]? = some x → vs[i]? = some u → (ps.zip vs).lookup x = some u
  | [], _, _, _, h, _ => by simp at h
  | _ :: _, [], _, _, _, h => by simp at h
  | p :: r, v :: t, i, nd, h1, h2 => by
    rw [List.zip_cons_cons, List.lookup_cons]
    cases i with
    | zero => simp at h1 h2; subst h1 h2; simp
    | succ i =>
      have h1' : r[i]? = some x := by simpa using h1
      have hne : (x == p) = false := beq_eq_false_iff_ne.mpr fun e => (List.nodup_cons.mp nd).1 (e ▸ List.mem_of_getElem? h1')
      rw [hne]
      exact zip_lookup (List.nodup_cons.mp nd).2 h1' (by simpa using h2)
theorem zip_none {x : Str} : ∀ {ps : List Str} {vs : List Value} {i : Nat}, ps.Nodup → ps[i]? = some x → vs.length ≤ i → (ps.zip vs).lookup x = none
  | [], _, _, _, h, _ => by simp at h
  | _ :: _, [], _, _, _, _ => by simp
  | p :: r, v :: t, i, nd, h1, h2 => by
    rw [List.zip_cons_cons, List.lookup_cons]
    cases i with
    | zero => simp at h2
    | succ i =>
      have h1' : r[i]? = some x := by simpa using h1
      have hne : (x == p) = false := beq_eq_false_iff_ne.mpr fun e => (List.nodup_cons.mp nd).1 (e ▸ List.mem_of_getElem? h1')
      rw [hne]
      exact zip_none (List.nodup_cons.mp nd).2 h1' (by simpa using h2)
theorem lookup_unique {x : Str} {u : Value} : ∀ {l : List (Str × Value)}, (∀ p ∈ l, p.1 = x → p.2 = u) → (∃ p ∈ l, p.1 = x) → l.lookup x = some u
  | [], _, h => by obtain ⟨p, hp, _⟩ := h; cases hp
  | (a, b) :: r, h1, h2 => by
    rw [List.lookup_cons]
    by_cases hx : (x == a) = true
    · rw [hx]
      exact congrArg some (h1 (a, b) (.head _) (beq_iff_eq.mp hx).symm)
    · simp only [Bool.not_eq_true] at hx
      rw [hx]
      refine lookup_unique (fun p hp => h1 p (.tail _ hp)) ?_
      obtain ⟨p, hp, e⟩ := h2
      rcases List.mem_cons.mp hp with rfl | hp
      · exact absurd e.symm (by simpa using hx)
      · exact ⟨p, hp, e⟩
theorem binds_lookup {x : Str} {u : Value} {g : Str → Option Value} {ps : List Str} (hx : x ∈ ps) (hg : g x = some u) : (ps.filterMap fun n => (g n).map (n, ·)).reverse.lookup x = some u := by
  refine lookup_unique (fun p hp e => ?_) ⟨(x, u), ?_, rfl⟩
  · obtain ⟨n, hn, q⟩ := List.mem_filterMap.mp (List.mem_reverse.mp hp)
    obtain ⟨v, hv, rfl⟩ := Option.map_eq_some_iff.mp q
    dsimp only at e
    subst e
    rw [hg] at hv
    cases hv; rfl
  · exact List.mem_reverse.mpr (List.mem_filterMap.mpr ⟨x, hx, by rw [hg]; rfl⟩)
section
variable {c : Cf} {W : Wd}
theorem places_spec {att : List Str} : ∀ {ps : List Str} {ks : List Nat}, places att ps = some ks → ks.length = ps.length ∧ ∀ (i : Nat) (x : Str), ps[i]? = some x → ∃ k, ks[i]? = some k ∧ (att[k]? = some x ∨ (k = att.length ∧ ∀ j : Nat, att[j]? ≠ some x))
  | [], ks, h => by unfold places at h; cases h; exact ⟨rfl, fun i x q => by simp at q⟩
  | y :: r, ks, h => by
    have step : ∀ {k l}, places att r = some l → (att[k]? = some y ∨ (k = att.length ∧ ∀ j : Nat, att[j]? ≠ some y)) → (k :: l).length = (y :: r).length ∧ ∀ (i : Nat) (x : Str), (y :: r)[i]? = some x → ∃ k', (k :: l)[i]? = some k' ∧ (att[k']? = some x ∨ (k' = att.length ∧ ∀ j : Nat, att[j]? ≠ some x)) := by
      intro k l h1 h2
      obtain ⟨i1, i2⟩ := places_spec h1
      refine ⟨by simp [i1], fun i x q => ?_⟩
      cases i with
      | zero => simp at q; subst q; exact ⟨k, rfl, h2⟩
      | succ i =>
        obtain ⟨k', e1, e2⟩ := i2 i x (by simpa using q)
        exact ⟨k', by simpa using e1, e2⟩
    unfold places at h
    split at h
    · rename_i k l h1 h2
      cases h
      exact step h2 (.inl (place_at h1))
    · rename_i l h1 h2
      cases h
      refine step h2 (.inr ⟨rfl, fun j q => ?_⟩)
      have : ∀ {l : List Str} {j : Nat}, l[j]? = some y → place y l ≠ none := by
        intro l
        induction l with
        | nil => intro j q; simp at q
        | cons z t ih =>
          intro j q
          unfold place
          split
          · simp
          · rename_i hne
            cases j with
            | zero => simp at q; subst q; simp at hne
            | succ j =>
              have := ih (j := j) (by simpa using q)
              cases hp : place y t with
              | none => exact absurd hp this
              | some _ => simp
      exact this q h1
    · cases h
theorem KWs.mem {l : List (Str × Value)} {r : List (Nat × V)} (h : KWs c W l r) {p : Str × Value} (hp : p ∈ l) : ∃ k a, (k, a) ∈ r ∧ c.att[k]? = some p.1 := by
  induction h with
  | nil => cases hp
  | @cons x v k a l r hx hv t ih =>
    rcases List.mem_cons.mp hp with rfl | hp
    · exact ⟨k, a, .head _, hx⟩
    · obtain ⟨k', a', h1, h2⟩ := ih hp
      exact ⟨k', a', .tail _ h1, h2⟩
theorem KWs.mem' {l : List (Str × Value)} {r : List (Nat × V)} (h : KWs c W l r) {k : Nat} {a : V} (hp : (k, a) ∈ r) : ∃ x, c.att[k]? = some x := by
  induction h with
  | nil => cases hp
  | @cons x v k a l r hx hv t ih =>
    rcases List.mem_cons.mp hp with q | hp
    · cases q; exact ⟨x, hx⟩
    · exact ih hp
theorem KWs.some_ (nd : ∀ (i j : Nat) (x : Str), c.att[i]? = some x → c.att[j]? = some x → i = j) {l : List (Str × Value)} {r : List (Nat × V)} (h : KWs c W l r) {k : Nat} {x : Str} {v : V} (hk : c.att[k]? = some x) (hl : r.lookup k = some v) : ∃ u, l.lookup x = some u ∧ VR c.K W u v := by
  induction h with
  | nil => simp at hl
  | @cons y w j a l r hx hv t ih =>
    rw [List.lookup_cons] at hl ⊢
    by_cases hkj : k = j
    · subst hkj
      rw [hk] at hx; cases hx
      simp at hl; subst hl
      exact ⟨w, by simp, hv⟩
    · rw [show (k == j) = false from by simpa using hkj] at hl
      have : (x == y) = false := beq_eq_false_iff_ne.mpr fun e => hkj (nd k j x hk (e ▸ hx))
      rw [this]
      exact ih hl
theorem KWs.none_ (nd : ∀ (i j : Nat) (x : Str), c.att[i]? = some x → c.att[j]? = some x → i = j) {l : List (Str × Value)} {r : List (Nat × V)} (h : KWs c W l r) {k : Nat} {x : Str} (hk : c.att[k]? = some x ∨ ∀ j : Nat, c.att[j]? ≠ some x) (hl : r.lookup k = none) : l.lookup x = none := by
  induction h with
  | nil => rfl
  | @cons y w j a l r hx hv t ih =>
    rw [List.lookup_cons] at hl ⊢
    by_cases hkj : k = j
    · subst hkj
      simp at hl
    · rw [show (k == j) = false from by simpa using hkj] at hl
      have : (x == y) = false := beq_eq_false_iff_ne.mpr fun e => by
        rcases hk with hk | hk
        · exact hkj (nd k j x hk (e ▸ hx))
        · exact hk j (e ▸ hx)
      rw [this]
      exact ih hl
theorem nodupN_of : ∀ {l : List Nat}, nodupN l = true → l.Nodup
  | [], _ => List.nodup_nil
  | x :: r, h => by
    simp only [nodupN, Bool.and_eq_true, Bool.not_eq_true'] at h
    exact List.nodup_cons.mpr ⟨by simpa using h.1, nodupN_of h.2⟩
theorem nodupB_of : ∀ {l : List Str}, nodupB l = true → l.Nodup
  | [], _ => List.nodup_nil
  | x :: r, h => by
    simp only [nodupB, Bool.and_eq_true, Bool.not_eq_true'] at h
    exact List.nodup_cons.mpr ⟨by simpa using h.1, nodupB_of h.2⟩
theorem KWs.nodup {l : List (Str × Value)} {r : List (Nat × V)} (nd : ∀ (i j : Nat) (x : Str), c.att[i]? = some x → c.att[j]? = some x → i = j) (h : KWs c W l r) (hr : (r.map (·.1)).Nodup) : (l.map (·.1)).Nodup := by
  induction h with
  | nil => exact List.nodup_nil
  | @cons y w j a l r hx hv t ih =>
    simp only [List.map_cons, List.nodup_cons] at hr ⊢
    refine ⟨fun hm => ?_, ih hr.2⟩
    obtain ⟨p, hp, e⟩ := List.mem_map.mp hm
    obtain ⟨k', a', h1, h2⟩ := t.mem hp
    rw [e] at h2
    have := nd j k' y hx h2
    subst this
    exact hr.1 (List.mem_map.mpr ⟨(j, a'), h1, rfl⟩)
end
end Mine

/-! Soundness, 35: the evaluator's binding and the model's, whole (own work). -/
namespace Mine
open PySem PySem.W PySem.Spec PySem.Calls PyProof.Rows PySem.SeqAt

section
variable {c : Cf} {W : Wd}
theorem dflt_ok {h : Heap} {v : Value} {ds : List V} (X : c.K.In h) (hd : dfltV c.K v = some ds) : ∃ us, DefaultsAre h v us ∧ VRs c.K W us ds := by
  unfold dfltV at hd
  split at hd
  · cases hd; exact ⟨[], .inl ⟨rfl, rfl⟩, .nil⟩
  · rename_i t
    split at hd
    · rename_i o ho
      split at hd
      · rename_i vs n hs
        exact ⟨vs.toList, .inr ⟨t, o, vs, n, rfl, X _ _ ho, hs, rfl⟩, reifys_ok hd⟩
      · cases hd
    · cases hd
  · cases hd
theorem VRs.get' {vs : List Value} {l : List V} (h : VRs c.K W vs l) {i : Nat} {u : Value} (e : vs[i]? = some u) : ∃ v, l[i]? = some v ∧ VR c.K W u v := by
  have hi : i < vs.length := (List.getElem?_eq_some_iff.mp e).1
  have hi' : i < l.length := by rw [← h.length]; exact hi
  obtain ⟨u', e1, e2⟩ := h.get (List.getElem?_eq_getElem hi')
  rw [e] at e1; cases e1
  exact ⟨_, List.getElem?_eq_getElem hi', e2⟩
theorem nodup_inj {x : Str} : ∀ {l : List Str} {i j : Nat}, l.Nodup → l[i]? = some x → l[j]? = some x → i = j
  | [], i, _, _, h, _ => by simp at h
  | p :: r, i, j, nd, h1, h2 => by
    have hn := List.nodup_cons.mp nd
    cases i with
    | zero =>
      simp at h1; subst h1
      cases j with
      | zero => rfl
      | succ j => exact absurd (List.mem_of_getElem? (by simpa using h2)) hn.1
    | succ i =>
      cases j with
      | zero => simp at h2; subst h2; exact absurd (List.mem_of_getElem? (by simpa using h1)) hn.1
      | succ j => exact congrArg Nat.succ (nodup_inj hn.2 (by simpa using h1) (by simpa using h2))
theorem bind_all {s : Shared} {fd : FuncData} {ks : List Nat} {ds : List V} {pos : List Value} {kws : List (Str × Value)} {as : List V} {kw : List (Nat × V)} {ρ : Loc} (nd : ∀ (i j : Nat) (x : Str), c.att[i]? = some x → c.att[j]? = some x → i = j)
    (hpl : plainPs fd.params = true) (hnd : (fd.params.args.map (·.arg)).Nodup) (hdv : dfltV c.K fd.defaults = some ds) (hks : places c.att (fd.params.args.map (·.arg)) = some ks) (hdl : ds.length ≤ (fd.params.args.map (·.arg)).length) (X : c.K.In s.heap) (hv : VRs c.K W pos as) (hkw : KWs c W kws kw)
    (hb : bindK (ks.zip (List.replicate ((fd.params.args.map (·.arg)).length - ds.length) none ++ ds.map some)) as kw = some ρ) :
    ∃ binds, BindsTo s fd ⟨pos, kws⟩ binds ∧ (∀ p ∈ binds, p.1 ∈ fd.params.args.map (·.arg)) ∧ ρ.length = (fd.params.args.map (·.arg)).length ∧
      ∀ (i : Nat) (x : Str) (v : V), (fd.params.args.map (·.arg))[i]? = some x → ρ[i]? = some (some v) → ∃ u, binds.reverse.lookup x = some u ∧ VR c.K W u v := by
  simp only [plainPs, Bool.and_eq_true, List.isEmpty_iff, Option.isNone_iff_eq_none] at hpl
  obtain ⟨⟨⟨p1, p2⟩, p3⟩, p4⟩ := hpl
  obtain ⟨us, hD, hus⟩ := dflt_ok (W := W) X hdv
  generalize hps : fd.params.args.map (·.arg) = ps at *
  obtain ⟨kl, kspec⟩ := places_spec hks
  unfold bindK at hb
  split at hb
  case isFalse => cases hb
  rename_i hfit
  simp only [kwFit, Bool.and_eq_true, List.all_eq_true, List.any_eq_true, beq_iff_eq] at hfit
  obtain ⟨hfit, hnn⟩ := hfit
  obtain ⟨b1, b2, b3⟩ := bindGo_spec _ _ _ _ hb
  have hul := hus.length
  have hpl := hv.length
  have zl : (ks.zip (List.replicate (ps.length - ds.length) (none : Option V) ++ ds.map some)).length = ps.length := by
    rw [List.length_zip, kl, List.length_append, List.length_replicate, List.length_map]; omega
  rw [zl] at b1 b2
  -- a parameter's row
  have row : ∀ (i : Nat) (x : Str), ps[i]? = some x → ∃ k d, (ks.zip (List.replicate (ps.length - ds.length) (none : Option V) ++ ds.map some))[i]? = some (k, d) ∧ (c.att[k]? = some x ∨ (k = c.att.length ∧ ∀ j : Nat, c.att[j]? ≠ some x)) ∧
      ∀ v, d = some v → ps.length - ds.length ≤ i ∧ ds[i - (ps.length - ds.length)]? = some v := by
    intro i x hx
    obtain ⟨k, e1, e2⟩ := kspec i x hx
    have hi : i < ps.length := (List.getElem?_eq_some_iff.mp hx).1
    have hlen2 : i < (List.replicate (ps.length - ds.length) (none : Option V) ++ ds.map some).length := by
      rw [List.length_append, List.length_replicate, List.length_map]; omega
    refine ⟨k, _, List.getElem?_zip_eq_some.mpr ⟨e1, List.getElem?_eq_getElem hlen2⟩, e2, fun v hd => ?_⟩
    have hd' : (List.replicate (ps.length - ds.length) (none : Option V) ++ ds.map some)[i]? = some (some v) := by rw [List.getElem?_eq_getElem hlen2, hd]
    by_cases hlt : i < ps.length - ds.length
    · rw [List.getElem?_append_left (by simpa using hlt), List.getElem?_replicate, if_pos hlt] at hd'
      cases hd'
    · refine ⟨by omega, ?_⟩
      rw [List.getElem?_append_right (by simp; omega), List.length_replicate, List.getElem?_map] at hd'
      obtain ⟨w, h1, h2⟩ := Option.map_eq_some_iff.mp hd'
      cases h2
      exact h1
  have kwn : ∀ {k : Nat}, k = c.att.length → kw.lookup k = none := fun {k} hk => by
    cases q : kw.lookup k with
    | none => rfl
    | some v =>
      have hm : ∀ {l : List (Nat × V)}, l.lookup k = some v → (k, v) ∈ l := by
        intro l
        induction l with
        | nil => intro q; simp at q
        | cons p r ih =>
          obtain ⟨a, b⟩ := p
          intro q
          rw [List.lookup_cons] at q
          split at q
          · rename_i h; cases q; rw [beq_iff_eq.mp h]; exact .head _
          · exact .tail _ (ih q)
      obtain ⟨x, hx⟩ := hkw.mem' (hm q)
      have := (List.getElem?_eq_some_iff.mp hx).1
      omega
  -- where a parameter's value lies
  have val : ∀ (i : Nat) (x : Str), ps[i]? = some x → ∃ v, ρ[i]? = some (some v) ∧ ((∃ u, (ps.zip pos).lookup x = some u ∧ VR c.K W u v) ∨ ((ps.zip pos).lookup x = none ∧ ((∃ u, kws.lookup x = some u ∧ VR c.K W u v) ∨
      (kws.lookup x = none ∧ ps.length - ds.length ≤ i ∧ ∃ u, ((ps.drop (ps.length - us.length)).zip us).lookup x = some u ∧ VR c.K W u v)))) := by
    intro i x hx
    obtain ⟨k, d, e1, e2, e3⟩ := row i x hx
    obtain ⟨v, f1, f2⟩ := b3 i k d e1
    refine ⟨v, f1, ?_⟩
    rcases f2 with f2 | ⟨f2, f3⟩
    · obtain ⟨u, h1, h2⟩ := hv.get f2
      exact .inl ⟨u, zip_lookup hnd hx h1, h2⟩
    · have hz : (ps.zip pos).lookup x = none := zip_none hnd hx (by rw [hpl]; exact f2)
      refine .inr ⟨hz, ?_⟩
      have hkn : ∀ v, kw.lookup k = some v → c.att[k]? = some x := fun v hk => by
        rcases e2 with e2 | ⟨e2, _⟩
        · exact e2
        · rw [kwn e2] at hk; cases hk
      rcases f3 with f3 | ⟨f3, f4⟩
      · exact .inl (hkw.some_ nd (hkn v f3) f3)
      · refine .inr ⟨hkw.none_ nd (e2.imp _root_.id fun q => q.2) f3, (e3 v f4).1, ?_⟩
        obtain ⟨u, h1, h2⟩ := hus.get (e3 v f4).2
        refine ⟨u, zip_lookup (i := i - (ps.length - ds.length)) (hnd.sublist (List.drop_sublist _ _)) ?_ h1, h2⟩
        rw [List.getElem?_drop, hul, show ps.length - ds.length + (i - (ps.length - ds.length)) = i from by have := (e3 v f4).1; omega]
        exact hx
  have at_ : ∀ {x : Str}, x ∈ ps → ∃ i : Nat, ps[i]? = some x := fun hx => by
    obtain ⟨i, hi, e⟩ := List.getElem_of_mem hx
    exact ⟨i, by rw [List.getElem?_eq_getElem hi, e]⟩
  subst hps
  refine ⟨_, binds_ok p1 p2 p3 p4 hD (by rw [hpl]; exact b2) (fun p hp => ?_) (hkw.nodup nd (nodupN_of hnn)) (by rw [hul]; exact hdl) (fun n hn => ?_), fun p hp => ?_, b1, fun i x v hx hr => ?_⟩
  · obtain ⟨k, a, h1, h2⟩ := hkw.mem hp
    obtain ⟨q, hq, hqk⟩ := hfit _ h1
    obtain ⟨j, hj, hjq⟩ := List.getElem_of_mem hq
    have hjq' : ((ks.zip (List.replicate ((fd.params.args.map (·.arg)).length - ds.length) (none : Option V) ++ ds.map some)).drop as.length)[j]? = some q := by rw [List.getElem?_eq_getElem hj, hjq]
    rw [List.getElem?_drop] at hjq'
    have hkj : ks[as.length + j]? = some k := by
      have := (List.getElem?_zip_eq_some.mp hjq').1
      rw [hqk] at this; exact this
    have hjl : as.length + j < (fd.params.args.map (·.arg)).length := by
      have := (List.getElem?_eq_some_iff.mp hkj).1
      omega
    obtain ⟨k', e1, e2⟩ := kspec _ _ (List.getElem?_eq_getElem hjl)
    rw [hkj] at e1; cases e1
    have hx : p.1 = (fd.params.args.map (·.arg))[as.length + j] := by
      rcases e2 with e2 | ⟨e2, _⟩
      · exact Option.some.inj (h2.symm.trans e2)
      · have := (List.getElem?_eq_some_iff.mp h2).1; omega
    have hx' : (fd.params.args.map (·.arg))[as.length + j]? = some p.1 := by rw [hx]; exact List.getElem?_eq_getElem hjl
    refine ⟨by simpa using List.mem_of_getElem? hx', ?_⟩
    rw [zip_none hnd hx' (by omega)]; rfl
  · obtain ⟨i, hi⟩ := at_ (List.mem_of_mem_take hn)
    have hlt : i < (fd.params.args.map (·.arg)).length - ds.length := by
      obtain ⟨j, hj, e⟩ := List.getElem_of_mem hn
      rw [List.length_take] at hj
      have hj' : j < (fd.params.args.map (·.arg)).length := by omega
      have e' : (fd.params.args.map (·.arg))[j]? = some n := by rw [List.getElem_take] at e; rw [List.getElem?_eq_getElem hj', e]
      have hij : i = j := by
        exact nodup_inj hnd hi e'
      omega
    obtain ⟨v, _, h⟩ := val i n hi
    rw [List.lookup_append]
    rcases h with ⟨u, h, _⟩ | ⟨h0, ⟨u, h, _⟩ | ⟨_, h, _⟩⟩
    · rw [h]; rfl
    · rw [h0, h]; rfl
    · omega
  · obtain ⟨n, hn, q⟩ := List.mem_filterMap.mp hp
    obtain ⟨v, hv, rfl⟩ := Option.map_eq_some_iff.mp q
    exact hn
  · obtain ⟨v', h1, h⟩ := val i x hx
    rw [hr] at h1; cases h1
    have key : ∃ u, (dflts (((fd.params.args.map (·.arg)).drop ((fd.params.args.map (·.arg)).length - us.length)).zip us) (((fd.params.args.map (·.arg)).zip pos) ++ kws)).lookup x = some u ∧ VR c.K W u v := by
      rw [dflts_lookup, List.lookup_append]
      rcases h with ⟨u, h, hu⟩ | ⟨h0, ⟨u, h, hu⟩ | ⟨h1, _, u, h, hu⟩⟩
      · exact ⟨u, by rw [h]; rfl, hu⟩
      · exact ⟨u, by rw [h0, h]; rfl, hu⟩
      · exact ⟨u, by rw [h0, h1, h]; rfl, hu⟩
    obtain ⟨u, h2, hu⟩ := key
    exact ⟨u, binds_lookup (List.mem_of_getElem? hx) h2, hu⟩
end
end Mine

/-! Soundness, 36: calls of functions (own work). -/
namespace Mine
open PySem PySem.W PySem.Spec PySem.Calls PyProof.Rows PySem.SeqAt

structure FnOk (K : Frag) (att mu : List Str) (a : Addr) (F : Fn) (fd : FuncData) (body : List PySem.Stmt) (ks : List Nat) (ds : List V) : Prop where
  fn : ∃ c d s, K.lookup a = some ⟨c, d, .func fd, s⟩
  bodyE : fd.body = .stmts body
  plain : plainPs fd.params = true
  nd : (fd.params.args.map (·.arg)).Nodup
  kind : fd.scope.kind = .function
  gen : fd.scope.isGenerator = false
  cor : fd.scope.isCoroutine = false
  ncell : ∀ x ∈ fd.scope.names, x.2 ≠ .cell
  ndbg : ∀ x ∈ fd.scope.names, (x.1 == ("__debug__" : Str)) = false
  loc : ∀ x ∈ fd.params.args.map (·.arg), fd.scope.names.lookup x = some .local
  env : ∀ L, callEnv fd L a = envOf fd.qualname fd.scope L a fd.code
  code : codeIn K fd.code fd.qualname = true
  dv : dfltV K fd.defaults = some ds
  ksE : places att (fd.params.args.map (·.arg)) = some ks
  comp : compSs 60 ⟨K, att, mu, fd.scope, locOf fd.scope (fd.params.args.map (·.arg)), none, false⟩ body = some F.body
  len : ds.length ≤ (fd.params.args.map (·.arg)).length
  ps : F.ps = ks.zip (List.replicate ((fd.params.args.map (·.arg)).length - ds.length) none ++ ds.map some)
  nl : F.nl = (locOf fd.scope (fd.params.args.map (·.arg))).length
theorem fnOk_of {K : Frag} {att mu : List Str} {a : Addr} {F : Fn} (h : mkFn false K att mu a = some F) : ∃ fd body ks ds, FnOk K att mu a F fd body ks ds := by
  unfold mkFn at h
  split at h
  · rename_i c d fd s hl
    split at h
    · rename_i body hb
      dsimp only at h
      split at h
      · rename_i hc
        simp only [Bool.and_eq_true, beq_iff_eq, List.isEmpty_iff] at hc
        obtain ⟨⟨⟨⟨⟨⟨c1, c2⟩, c3⟩, c4⟩, c5⟩, c6⟩, c7⟩ := hc
        split at h
        · rename_i ds ks b h1 h2 h3
          split at h
          · rename_i hlen
            cases h
            simp only [okScope, Bool.and_eq_true, beq_iff_eq, List.all_eq_true, Bool.or_eq_true, bne_iff_ne, ne_eq, Bool.not_eq_true', Bool.false_eq_true, false_or] at c3
            obtain ⟨⟨⟨⟨k1, k2⟩, k3⟩, k4⟩, k5⟩ := c3
            exact ⟨fd, body, ks, ds, ⟨_, _, _, hl⟩, hb, c1, nodupB_of c2, k1, k2, k3, fun x hx => (k4 x hx).1.1, fun x hx => (k4 x hx).2, k5, fun L => by unfold callEnv newEnv envOf; rw [c4, c5, c6], c7, h1, h2, h3, hlen, rfl, rfl⟩
          · cases h
        · cases h
      · cases h
    · cases h
  · cases h
theorem xout (x : Mine.X) : isN x.out = false ∧ xcls x.out = xcls x := by cases x <;> exact ⟨rfl, rfl⟩
section
variable {c : Cf}
theorem callN_ok (co : CfOk c) : ∀ n, CallOk c n (callN c.T n)
  | 0 => fun A f fn as kw σ W g s pos kws R _ _ _ _ _ h => by unfold callN at h; exact h.elim
  | n + 1 => fun A f fn as kw σ W g s pos kws R RM G C hv hkw h => by
    have ih := callN_ok co n
    unfold callN at h
    cases hT : c.T.fn fn with
    | none => rw [hT] at h; exact h.elim
    | some F =>
    rw [hT] at h
    dsimp only at h
    obtain ⟨fd, body, ks, ds, O⟩ := fnOk_of (co.tab.fn fn F hT)
    cases hb : bindK F.ps as kw with
    | none => rw [hb] at h; exact h.elim
    | some ρ =>
    rw [hb] at h
    dsimp only at h
    have X : c.K.In s.heap := C.kin.keeps C.F.keep
    rw [O.ps] at hb
    obtain ⟨binds, bt, bm, bl, bv⟩ := bind_all (s := s) co.tab.nd O.plain O.nd O.dv O.ksE O.len X hv hkw hb
    obtain ⟨fc, fdd, fs, hfn⟩ := O.fn
    have T : Top c.p c.loose c.mean c.mg c.mb g := co.top.keeps G.below.stays
    refine codeAny_call_def (fd := fd) (body := body) (binds := binds) (by have := RM.depth; show A.depth < 1000; omega) (X _ _ hfn) rfl (T.nolimit.keeps C.F.keep) (codeRec_of X O.code) O.bodyE bt O.ncell (fun x hx => O.loc _ (bm x hx)) (fun h₁ hns hk => ?_) O.cor O.gen O.kind
    obtain ⟨FG, GG, st⟩ := enter G C.F C.N RM.frames RM.frame RM.kind
    rw [O.env]
    generalize hfm : (⟨A, f.env :: f.outer, envOf fd.qualname fd.scope s.heap.objs.size fn fd.code, s.heap.objs.size, fun x => binds.reverse.lookup x, f.X, []⟩ : Fm) = fm
    have CC : Cr c fm (hideAll s.heap ((f.X ++ W.led).map (·.1))) W σ h₁ := by
      subst hfm
      have hX : f.X ++ [] = f.X := List.append_nil _
      refine ⟨⟨hns, fun b o e => hk b o (of_hideAll _ e), Nat.le_of_eq (hideAll_size _ _)⟩, fun p hp => ?_, ?_, C.sr, C.kin.keeps st, (C.gk.stays st).knw⟩
      · have hp' : p ∈ f.X ++ W.led := by rw [← hX]; exact hp
        exact ⟨hk _ _ (C.N p hp').1, Nat.ne_of_lt (Heap.lt_size (C.N p hp').1), hideAll_none _ (List.mem_map_of_mem hp')⟩
      · show Apart (f.X ++ []) W
        rw [hX]; exact C.ap
    have hR : Run c (A.deeper (envOf fd.qualname fd.scope s.heap.objs.size fn fd.code)) n fm ⟨c.K, c.att, c.mu, fd.scope, locOf fd.scope (fd.params.args.map (·.arg)), none, false⟩ [] := by
      subst hfm
      refine ⟨rfl, rfl, rfl, rfl, rfl, ⟨_, _, _, rfl⟩, O.kind, O.ndbg, ⟨Around.frames_deeper RM.frames, rfl, O.kind, ?_, ?_, RM.handled⟩, fun x y ca q => by simp at q, fun _ => rfl⟩
      · have := RM.depth; show A.depth + 1 + 2 * n + 1 ≤ 900; omega
      · have := RM.units; show A.units + 3 + 40 * n + 70 ≤ 9000; omega
    have hL : LocR c fm ⟨c.K, c.att, c.mu, fd.scope, locOf fd.scope (fd.params.args.map (·.arg)), none, false⟩ [] W (ρ ++ List.replicate (F.nl - ρ.length) none) := by
      subst hfm
      refine ⟨?_, fun x i hp hk v hv => ?_, fun x hx => absurd rfl (O.ncell _ (mem_of_lookup hx)), List.nodup_nil, fun p _ q hq => nomatch hq⟩
      · show (ρ ++ List.replicate (F.nl - ρ.length) none).length = (locOf fd.scope (fd.params.args.map (·.arg))).length
        have : (fd.params.args.map (·.arg)).length ≤ F.nl := by rw [O.nl]; unfold locOf; rw [List.length_append]; omega
        rw [← O.nl, List.length_append, List.length_replicate]
        omega
      · have hlt : i < ρ.length := by
          refine Decidable.byContradiction fun q => ?_
          rw [List.getElem?_append_right (by omega), List.getElem?_replicate] at hv
          split at hv <;> cases hv
        rw [List.getElem?_append_left hlt] at hv
        have hpx := place_at hp
        have hpx' : (fd.params.args.map (·.arg))[i]? = some x := by
          have : (locOf fd.scope (fd.params.args.map (·.arg)))[i]? = some x := hpx
          unfold locOf at this
          rwa [List.getElem?_append_left (by omega)] at this
        exact bv i x v hpx' hv
    have hGd : Gd c fm (hideAll s.heap ((f.X ++ W.led).map (·.1))) := by subst hfm; exact GG
    have henv : fm.env = envOf fd.qualname fd.scope s.heap.objs.size fn fd.code := by subst hfm; rfl
    have hA₀ : fm.A₀ = A := by subst hfm; rfl
    have hXf : ∀ cells' : List (Addr × Obj), cells'.map (·.1) = fm.cells.map (·.1) → fm.its ++ cells' = f.X := fun cells' hc => by
      subst hfm
      have : cells' = [] := List.map_eq_nil_iff.mp hc
      rw [this]; exact List.append_nil _
    have hout : fm.outer = f.env :: f.outer := by subst hfm; rfl
    have hFL : fm.L = s.heap.objs.size := by subst hfm; rfl
    have hbody := (compS_ok (cf := callN c.T n) co ih (cx := ⟨c.K, c.att, c.mu, fd.scope, locOf fd.scope (fd.params.args.map (·.arg)), none, false⟩) rfl rfl rfl rfl 60).2 body F.body O.comp
    rw [← henv]
    refine hbody (A.deeper fm.env) fm [] W _ _ σ { s with heap := h₁, toks := s.toks + binds.length } _ _ (henv ▸ hR) (by rw [hA₀]) hL hGd CC ?_
    cases hr : exs c.T (callN c.T n) F.body (ρ ++ List.replicate (F.nl - ρ.length) none) σ with
    | bad => rw [hr] at h; exact h.elim
    | ok q σ' =>
      obtain ⟨fl, ρ'⟩ := q
      rw [hr] at h
      intro flv W' g' m' cells' h' tk le t G' hc C' hf _
      have hX := hXf cells' hc
      have C₂ : Core c.K c.att g' fm.L m' f.X W' σ' h' := by
        have : Core c.K c.att g' fm.L m' (fm.its ++ cells') W' σ' h' := C'
        rwa [hX] at this
      have t' : KtsTurn (frs (f.env :: f.outer)) (hideAll s.heap ((f.X ++ W.led).map (·.1))) g' := by
        have := t
        unfold Tn at this
        rwa [hout] at this
      obtain ⟨g₂, T₂, G₂, C₃⟩ := Core.back co.kin C.gk G FG RM.frame t' le C₂
      cases hf with
      | next => exact h .none W' g₂ h' tk le T₂ G₂ C₃ .none
      | cont => exact h.elim
      | ret hv => exact h _ W' g₂ h' tk le T₂ G₂ C₃ hv
    | exc x σ' =>
      rw [hr] at h
      intro e s' hx
      obtain ⟨ea, W', g', m', cells', h', tk, rfl, rfl, le, t, G', hc, hx⟩ := hx
      have hX := hXf cells' hc
      have t' : KtsTurn (frs (f.env :: f.outer)) (hideAll s.heap ((f.X ++ W.led).map (·.1))) g' := by
        have := t
        unfold Tn at this
        rwa [hout] at this
      obtain ⟨g₂, T₂, F₂, G₂⟩ := Mine.back G FG RM.frame t'
      have B' : Below A c.base (f.env :: f.outer) g' := by
        have := G'.below
        rw [hA₀, hout] at this
        exact this
      obtain ⟨xo1, xo2⟩ := xout x
      have fin : ∀ h'', RaisedSN c.base g' (f.env :: f.outer) ea (.type (xcls x)) (f.X ++ W'.led) h'' → g'.UpToSlots h'' → Apart f.X W' → SR c.K W' c.att W'.en σ' → R (.error (.ref ea)) { s with heap := h'', toks := tk } := fun h'' hR hu ap sr => by
        refine h (.ref ea) _ ⟨ea, W', g₂, f.m, f.cells, h'', tk, rfl, rfl, le, T₂, G₂, rfl, .inr ⟨xo1, g', ?_, F₂, hu, ap, sr, (C.gk.turn co.kin G G₂ T₂).le le⟩⟩
        rw [xo2]
        exact hR
      rw [henv, hA₀] at *
      rcases hx with ⟨hh, C₁, hfr⟩ | ⟨hN, G₁, R₁, F₁, u₁, ap, sr, gk⟩
      · have C₂ : Core c.K c.att g' fm.L m' f.X W' σ' hh := by rwa [hX] at C₁
        cases x <;> first | exact hfr.elim | skip
        · obtain ⟨vs, hfr⟩ := hfr
          rw [hFL] at C₂
          exact leave_raiseS (s' := { s with heap := h', toks := tk }) B' hfr C₂.F C₂.N (fun h'' t'' R' _ u => fin h'' R'.toSN u C₂.ap C₂.sr) O.kind
        · rw [hFL] at C₂
          exact leave_newS (s' := { s with heap := h', toks := tk }) B' hfr C₂.F C₂.N (fun h'' R' _ u => fin h'' R' u C₂.ap C₂.sr) O.kind
      · rw [hX] at R₁ ap
        rw [hout] at R₁
        rw [hFL] at F₁
        exact leave_onSN (s' := { s with heap := h', toks := tk }) B' F₁ R₁ u₁ fun h'' R' _ u => fin h'' R' u ap sr
end
end Mine

/-! Soundness, 37: the frame of the law (own work). -/
namespace Mine
open PySem PySem.W PySem.Spec PySem.Calls PyProof.Rows PySem.SeqAt

theorem script_known {P : Params} {h : Heap} {a : Addr} {d : WData} {vs : List Value} (w : Well P h (.ref a) d) (hd : ∃ xs, d = .list xs) (hL : h.IsList a vs.toArray) : h.get? a = some (listOf vs.toArray 0) := by
  obtain ⟨xs, rfl⟩ := hd
  cases w with
  | list hg _ =>
    obtain ⟨o, h1, _, n, h3⟩ := hL
    rw [hg] at h1
    cases h1
    injection h3 with h4 h5
    rw [hg, h4]
theorem script_list {P : Params} {h : Heap} {a : Addr} {l : List Int} {vs : List Value} (w : Well P h (.ref a) (ofPy (.list (l.map .int)))) (hL : h.IsList a vs.toArray) : h.get? a = some (listOf vs.toArray 0) := script_known w ⟨_, rfl⟩ hL
def cellNames : List (Str × NameKind) → List Str
  | [] => []
  | (n, k) :: r => if k == .cell then n :: cellNames r else cellNames r
theorem cellsFrom_eq : ∀ (names : List (Str × NameKind)) (n : Nat) (acc : List (Str × Addr)), cellsFrom n names acc = ((cellNames names).zipIdx n).reverse ++ acc
  | [], n, acc => rfl
  | (x, k) :: r, n, acc => by
    unfold cellsFrom cellNames
    split
    · rw [cellsFrom_eq r, List.zipIdx_cons, List.reverse_cons, List.append_assoc]; rfl
    · exact cellsFrom_eq r n acc
theorem cellNames_mem {x : Str} : ∀ {names : List (Str × NameKind)}, (x, NameKind.cell) ∈ names → x ∈ cellNames names
  | (y, k) :: r, h => by
    unfold cellNames
    rcases List.mem_cons.mp h with q | h
    · cases q; exact .head _
    · split
      · exact .tail _ (cellNames_mem h)
      · exact cellNames_mem h
theorem mem_lookup {x : Str} {a : Addr} : ∀ {l : List (Str × Addr)}, l.lookup x = some a → (x, a) ∈ l
  | [], h => by simp at h
  | (n, k) :: r, h => by
    rw [List.lookup_cons] at h
    split at h
    · rename_i q; cases h; rw [beq_iff_eq.mp q]; exact .head _
    · exact .tail _ (mem_lookup h)
theorem lookup_uniqueA {x : Str} {u : Addr} : ∀ {l : List (Str × Addr)}, (∀ p ∈ l, p.1 = x → p.2 = u) → (∃ p ∈ l, p.1 = x) → l.lookup x = some u
  | [], _, h => by obtain ⟨p, hp, _⟩ := h; cases hp
  | (a, b) :: r, h1, h2 => by
    rw [List.lookup_cons]
    by_cases hx : (x == a) = true
    · rw [hx]
      exact congrArg some (h1 (a, b) (.head _) (beq_iff_eq.mp hx).symm)
    · simp only [Bool.not_eq_true] at hx
      rw [hx]
      refine lookup_uniqueA (fun p hp => h1 p (.tail _ hp)) ?_
      obtain ⟨p, hp, e⟩ := h2
      rcases List.mem_cons.mp hp with rfl | hp
      · exact absurd e.symm (by simpa using hx)
      · exact ⟨p, hp, e⟩
theorem law_join {c : Cf} (co : CfOk c) {n N : Nat} {F : Fn} {sc : Scope} {name x : Str} {fa : Addr} {cd : Value} {body : List PySem.Stmt} {s : Shared} {h₁ : Heap} {tk₁ : Nat} {m : Str → Option Value} {cells : List (Addr × Obj)} {a : Addr} {vs : List Value} {script : List Int} {Q : Flow → Shared → Prop} {E : Value → Shared → Prop}
    (hbase : c.base = s.heap) (K0 : Below callerA s.heap [] s.heap) (Fh : Fr s.heap s.heap.objs.size h₁ m) (N0 : News s.heap s.heap.objs.size h₁ cells) (hN : n ≤ 80)
    {kc : Nat} (hkc : (cellNames sc.names).length = kc) (hcn : nodupB (cellNames sc.names) = true) (hcov : ∀ i, i < kc → ∃ o vo, (s.heap.objs.size + 1 + i, o) ∈ cells ∧ o.data = .cell vo) (hnd : (cells.map (·.1)).Nodup) (hnc : sc.names.any (fun y => y.2 == .cell) = true)
    (hsc : okScope true sc [x] = true) (hm : m x = some (.ref a)) (hw : s.heap.get? a = some (listOf vs.toArray N)) (hI : IntsAre vs script)
    (hcomp : compSs 60 ⟨c.K, c.att, c.mu, sc, locOf sc [x], none, false⟩ body = some F.body) (hnl : F.nl = (locOf sc [x]).length)
    (hrun : ∃ ρ' σ', exs c.T (callN c.T n) F.body (some (.lst (script.map V.int)) :: List.replicate (F.nl - 1) none) [] = .ok (.ret (.bool true), ρ') σ')
    (hQ : ∀ h' tk m', Fr s.heap s.heap.objs.size h' m' → Q (.ret (.bool true)) { s with heap := h', toks := tk }) :
    wpAny (model c.prog c.w) (callerA.deeper (envOfC name sc s.heap.objs.size fa cd)) (execs body (envOfC name sc s.heap.objs.size fa cd)) Q E { s with heap := h₁, toks := tk₁ } := by
  obtain ⟨ρ', σ', hrun⟩ := hrun
  simp only [okScope, Bool.and_eq_true, beq_iff_eq, List.all_eq_true, bne_iff_ne, ne_eq, Bool.not_eq_true', Bool.true_or, true_and] at hsc
  obtain ⟨⟨⟨⟨k1, k2⟩, k3⟩, k4⟩, k5⟩ := hsc
  have kx : sc.names.lookup x = some .local := k5 x (.head _)
  have hcn' := nodupB_of hcn
  have hmemc : ∀ y ca, (y, ca) ∈ cellsFrom (s.heap.objs.size + 1) sc.names [] ↔ s.heap.objs.size + 1 ≤ ca ∧ (cellNames sc.names)[ca - (s.heap.objs.size + 1)]? = some y := fun y ca => by
    rw [cellsFrom_eq, List.append_nil, List.mem_reverse, List.mk_mem_zipIdx_iff_le_and_getElem?_sub]
  have hinj : ∀ y z ca, (cellsFrom (s.heap.objs.size + 1) sc.names []).lookup y = some ca → (cellsFrom (s.heap.objs.size + 1) sc.names []).lookup z = some ca → y = z := fun y z ca h1 h2 => by
    have q1 := ((hmemc y ca).mp (mem_lookup h1)).2
    have q2 := ((hmemc z ca).mp (mem_lookup h2)).2
    exact Option.some.inj (q1.symm.trans q2)
  have hcells : ∀ y, sc.names.lookup y = some .cell → ∃ ca o vo, (cellsFrom (s.heap.objs.size + 1) sc.names []).lookup y = some ca ∧ (ca, o) ∈ cells ∧ o.data = .cell vo := fun y hy => by
    obtain ⟨i, hi, e⟩ := List.getElem_of_mem (cellNames_mem (mem_of_lookup hy))
    have e' : (cellNames sc.names)[i]? = some y := by rw [List.getElem?_eq_getElem hi, e]
    obtain ⟨o, vo, h1, h2⟩ := hcov i (by omega)
    refine ⟨s.heap.objs.size + 1 + i, o, vo, lookup_uniqueA (fun p hp q => ?_) ⟨(y, s.heap.objs.size + 1 + i), (hmemc _ _).mpr ⟨by omega, by rw [Nat.add_sub_cancel_left]; exact e'⟩, rfl⟩, h1, h2⟩
    obtain ⟨py, pa⟩ := p
    obtain ⟨q1, q2⟩ := (hmemc py pa).mp hp
    dsimp only at q
    subst q
    have aux : ∀ (p z i : Nat), z ≤ p → p - z = i → p = z + i := by intro p z i h1 h2; omega
    exact aux _ _ _ q1 (nodup_inj hcn' q2 e')
  have hnc' : (∀ y ∈ sc.names, y.2 ≠ .cell) → cellsFrom (s.heap.objs.size + 1) sc.names [] = [] := fun h => by
    obtain ⟨y, hy, q⟩ := List.any_eq_true.mp hnc
    exact absurd (beq_iff_eq.mp q) (h y hy)
  generalize hfm : (⟨callerA, [], envOfC name sc s.heap.objs.size fa cd, s.heap.objs.size, m, [], cells⟩ : Fm) = fm
  have henv : fm.env = envOfC name sc s.heap.objs.size fa cd := by subst hfm; rfl
  have hA₀ : fm.A₀ = callerA := by subst hfm; rfl
  have hsz : c.base = s.heap := hbase
  have hGd : Gd c fm s.heap := by subst hfm; exact ⟨by rw [hbase]; exact K0, fun b hb => nomatch hb⟩
  have hlst : (vs.toArray) = vs.toArray := rfl
  have hCr : Cr c fm s.heap ⟨[], [], [(a, listOf vs.toArray N)]⟩ [] h₁ := by
    subst hfm
    refine ⟨Fh, fun p hp => ?_, ⟨(fun p _ q hq => nomatch hq), List.nodup_nil, (fun p _ q hq => nomatch hq)⟩, .nil, by have := co.kin; rw [hbase] at this; exact this, fun p hp => ?_⟩
    · have hp' : p ∈ cells := by
        have : p ∈ ([] ++ cells) ++ [] := hp
        simpa using this
      exact N0 p hp'
    · rcases List.mem_cons.mp hp with rfl | hp
      · exact ⟨hw, fun es n q => by cases q⟩
      · cases hp
  have hR : Run c (callerA.deeper (envOfC name sc s.heap.objs.size fa cd)) n fm ⟨c.K, c.att, c.mu, sc, locOf sc [x], none, false⟩ (cellsFrom (s.heap.objs.size + 1) sc.names []) := by
    subst hfm
    refine ⟨rfl, rfl, rfl, rfl, rfl, ⟨_, _, _, rfl⟩, k1, fun y hy => (k4 y hy).2, ⟨rfl, rfl, k1, ?_, ?_, rfl⟩, hinj, hnc'⟩
    · show 1 + claimMargin + 1 + 2 * n + 1 ≤ 900
      have : claimMargin ≤ 700 := by decide
      omega
    · show 4 + 3 + 40 * n + 70 ≤ 9000
      omega
  have hL : LocR c fm ⟨c.K, c.att, c.mu, sc, locOf sc [x], none, false⟩ (cellsFrom (s.heap.objs.size + 1) sc.names []) ⟨[], [], [(a, listOf vs.toArray N)]⟩ (some (.lst (script.map V.int)) :: List.replicate (F.nl - 1) none) := by
    subst hfm
    have hone : ∀ {i : Nat} {v : V}, (some (V.lst (script.map V.int)) :: List.replicate (F.nl - 1) none)[i]? = some (some v) → i = 0 ∧ v = .lst (script.map V.int) := by
      intro i v hv
      cases i with
      | zero => simp at hv; exact ⟨rfl, hv.symm⟩
      | succ i =>
        rw [List.getElem?_cons_succ, List.getElem?_replicate] at hv
        split at hv <;> cases hv
    have h0 : ∀ {y : Str}, place y (locOf sc [x]) = some 0 → y = x := fun {y} hp => by
      have := place_at hp
      unfold locOf at this
      simpa using this.symm
    refine ⟨?_, fun y i hp hk v hv => ?_, fun y hy => ?_, ?_, fun p hp => nomatch hp⟩
    · show (some (V.lst (script.map V.int)) :: List.replicate (F.nl - 1) none).length = (locOf sc [x]).length
      have : 1 ≤ (locOf sc [x]).length := by unfold locOf; simp
      rw [← hnl] at this ⊢
      simp; omega
    · obtain ⟨rfl, rfl⟩ := hone hv
      obtain rfl := h0 hp
      exact ⟨_, hm, .lst (n := N) (.inr (.head _)) (VRs.of_ints hI)⟩
    · obtain ⟨ca, o, vo, h1, h2, h3⟩ := hcells y hy
      refine ⟨ca, o, vo, h1, h2, h3, fun i v hp hv => ?_⟩
      obtain ⟨rfl, rfl⟩ := hone hv
      obtain rfl := h0 hp
      have hy' : sc.names.lookup y = some .cell := hy
      rw [kx] at hy'; cases hy'
    · exact hnd
  have hbody := (compS_ok (cf := callN c.T n) co (callN_ok co n) (cx := ⟨c.K, c.att, c.mu, sc, locOf sc [x], none, false⟩) rfl rfl rfl rfl 60).2 body F.body hcomp
  rw [← henv]
  refine hbody (callerA.deeper fm.env) fm _ _ _ _ _ { s with heap := h₁, toks := tk₁ } Q E (henv ▸ hR) (by rw [hA₀]) hL hGd hCr ?_
  rw [hrun]
  intro flv W' g' m' cells' h' tk le t G' hc C' hf _
  cases hf with
  | ret hv =>
    cases hv with
    | bool b =>
      have t' : KtsTurn [] s.heap g' := by
        subst hfm; exact t
      have F' := C'.F
      have F₂ : Fr s.heap s.heap.objs.size h' m' := by
        have C₂ := Core.same (turn_nil t') t'.size C'
        have := C₂.F
        subst hfm
        exact this
      exact hQ h' tk m' F₂
end Mine

namespace Mine
open PySem
def a_ResponseCode_is_supported_by_standard : Nat := 67
def a_ResponseCode_get_name : Nat := 77
def a_ResponseCode_is_negative : Nat := 87
def a_BaseService_request_id : Nat := 126
def a_BaseService_response_id : Nat := 136
def a_BaseService_from_request_id : Nat := 146
def a_BaseService_from_response_id : Nat := 156
def a_BaseService_use_subfunction : Nat := 173
def a_BaseService_has_response_data : Nat := 183
def a_BaseService_get_name : Nat := 193
def a_BaseService_is_supported_negative_response : Nat := 203
def a_Response___init__ : Nat := 249
def a_Response_get_payload : Nat := 256
def a_Response_from_payload : Nat := 263
def a_Response___len__ : Nat := 273
def a__law_within : Nat := 638
def a__law_may : Nat := 645
def a__law_object : Nat := 652
def a__law_named : Nat := 659
def a__law_since : Nat := 666
def a_ResponseCode : Nat := 93
def a_BaseService : Nat := 209
def a_Response : Nat := 276
def a_CommunicationControl : Nat := 367
def a_LinkControl : Nat := 446
def a_TransferData : Nat := 513
def a_ReadMemoryByAddress : Nat := 579
def a_law : Nat := 671
def f_ResponseCode_is_supported_by_standard : Fn := ⟨[(101, none), (5, none), (101, none)], 4,
  (.cons (.ite (.not_ (.blt .isinst (.cons (.loc 1) (.cons (.lit (.typ "int")) .nil))))
  (.cons (.raise .valN (.bin .mod (.lit (.str (Str.ofString "given code must be an integer value, not %s"))) (.nameOf (.clsOf (.loc 1)))))
  .nil)
  .nil)
  (.cons (.ite (.not_ (.blt .isinst (.cons (.loc 2) (.cons (.lit (.typ "int")) .nil))))
  (.cons (.raise .valN (.bin .mod (.lit (.str (Str.ofString "given standard_version must be an integer value, not %s"))) (.nameOf (.clsOf (.loc 2)))))
  .nil)
  .nil)
  (.cons (.asg (.one 3) (.dict 0 [(28, 2006), (35, 2006), (36, 2006), (37, 2006), (38, 2006), (39, 2006), (40, 2006), (33, 2006), (41, 2006), (42, 2006), (43, 2006), (44, 2006), (45, 2006), (46, 2020), (47, 2006), (48, 2006), (49, 2006), (50, 2020), (51, 2020), (52, 2020), (53, 2020), (54, 2020), (55, 2020), (56, 2020), (57, 2020), (58, 2020), (59, 2020), (60, 2020), (61, 2020), (62, 2020), (63, 2020), (64, 2020), (65, 2020), (66, 2020), (67, 2006), (68, 2006), (69, 2006), (70, 2006), (71, 2006), (34, 2006), (72, 2006), (73, 2006), (74, 2006), (75, 2006), (76, 2006), (77, 2006), (78, 2006), (79, 2006), (80, 2006), (81, 2006), (82, 2006), (83, 2006), (84, 2006), (85, 2006), (86, 2006), (87, 2006), (88, 2006), (89, 2006), (90, 2006), (91, 2020), (92, 2006), (93, 2006), (94, 2006), (95, 2006), (96, 2006), (97, 2006), (98, 2006), (99, 2006), (100, 2006)]))
  (.cons (.ite (.cmp .nin (.loc 1) (.loc 3))
  (.cons (.raise .valN (.bin .mod (.lit (.str (Str.ofString "Do not know the standard version in which this code has been introduced: %s"))) (.loc 1)))
  .nil)
  .nil)
  (.cons (.ret (.cmp .ge (.loc 2) (.idx (.loc 3) (.loc 1))))
  .nil)))))⟩
def f_ResponseCode_get_name : Fn := ⟨[(101, none), (101, none)], 2,
  (.cons (.ite (.cmp .is (.loc 1) (.lit .none))
  (.cons (.ret (.lit (.str (Str.ofString ""))))
  .nil)
  .nil)
  (.cons (.ite (.cmp .isin (.loc 1) (.lit (.dct [(0, (.str (Str.ofString "PositiveResponse"))), (16, (.str (Str.ofString "GeneralReject"))), (17, (.str (Str.ofString "ServiceNotSupported"))), (18, (.str (Str.ofString "SubFunctionNotSupported"))), (19, (.str (Str.ofString "IncorrectMessageLengthOrInvalidFormat"))), (20, (.str (Str.ofString "ResponseTooLong"))), (33, (.str (Str.ofString "BusyRepeatRequest"))), (34, (.str (Str.ofString "ConditionsNotCorrect"))), (36, (.str (Str.ofString "RequestSequenceError"))), (37, (.str (Str.ofString "NoResponseFromSubnetComponent"))), (38, (.str (Str.ofString "FailurePreventsExecutionOfRequestedAction"))), (49, (.str (Str.ofString "RequestOutOfRange"))), (51, (.str (Str.ofString "SecurityAccessDenied"))), (52, (.str (Str.ofString "AuthenticationRequired"))), (53, (.str (Str.ofString "InvalidKey"))), (54, (.str (Str.ofString "ExceedNumberOfAttempts"))), (55, (.str (Str.ofString "RequiredTimeDelayNotExpired"))), (56, (.str (Str.ofString "GeneralSecurityViolation"))), (57, (.str (Str.ofString "SecureDataTransmissionNotAllowed"))), (58, (.str (Str.ofString "InsufficientProtection"))), (59, (.str (Str.ofString "TerminationWithSignatureRequested"))), (60, (.str (Str.ofString "AccessDenied"))), (61, (.str (Str.ofString "VersionNotSupported"))), (62, (.str (Str.ofString "SecuredLinkNotSupported"))), (63, (.str (Str.ofString "CertificateNotAvailable"))), (64, (.str (Str.ofString "AuditTrailInformationNotAvailable"))), (80, (.str (Str.ofString "CertificateVerificationFailed_InvalidTimePeriod"))), (81, (.str (Str.ofString "CertificateVerificationFailed_InvalidSignature"))), (82, (.str (Str.ofString "CertificateVerificationFailed_InvalidChainOfTrust"))), (83, (.str (Str.ofString "CertificateVerificationFailed_InvalidType"))), (84, (.str (Str.ofString "CertificateVerificationFailed_InvalidFormat"))), (85, (.str (Str.ofString "CertificateVerificationFailed_InvalidContent"))), (86, (.str (Str.ofString "CertificateVerificationFailed_InvalidScope"))), (87, (.str (Str.ofString "CertificateVerificationFailed_InvalidCertificate"))), (88, (.str (Str.ofString "OwnershipVerificationFailed"))), (89, (.str (Str.ofString "ChallengeCalculationFailed"))), (90, (.str (Str.ofString "SettingAccessRightsFailed"))), (91, (.str (Str.ofString "SessionKeyCreationDerivationFailed"))), (92, (.str (Str.ofString "ConfigurationDataUsageFailed"))), (93, (.str (Str.ofString "DeAuthenticationFailed"))), (112, (.str (Str.ofString "UploadDownloadNotAccepted"))), (113, (.str (Str.ofString "TransferDataSuspended"))), (114, (.str (Str.ofString "GeneralProgrammingFailure"))), (115, (.str (Str.ofString "WrongBlockSequenceCounter"))), (120, (.str (Str.ofString "RequestCorrectlyReceived_ResponsePending"))), (126, (.str (Str.ofString "SubFunctionNotSupportedInActiveSession"))), (127, (.str (Str.ofString "ServiceNotSupportedInActiveSession"))), (129, (.str (Str.ofString "RpmTooHigh"))), (130, (.str (Str.ofString "RpmTooLow"))), (131, (.str (Str.ofString "EngineIsRunning"))), (132, (.str (Str.ofString "EngineIsNotRunning"))), (133, (.str (Str.ofString "EngineRunTimeTooLow"))), (134, (.str (Str.ofString "TemperatureTooHigh"))), (135, (.str (Str.ofString "TemperatureTooLow"))), (136, (.str (Str.ofString "VehicleSpeedTooHigh"))), (137, (.str (Str.ofString "VehicleSpeedTooLow"))), (138, (.str (Str.ofString "ThrottlePedalTooHigh"))), (139, (.str (Str.ofString "ThrottlePedalTooLow"))), (140, (.str (Str.ofString "TransmissionRangeNotInNeutral"))), (141, (.str (Str.ofString "TransmissionRangeNotInGear"))), (143, (.str (Str.ofString "BrakeSwitchNotClosed"))), (144, (.str (Str.ofString "ShifterLeverNotInPark"))), (145, (.str (Str.ofString "TorqueConverterClutchLocked"))), (146, (.str (Str.ofString "VoltageTooHigh"))), (147, (.str (Str.ofString "VoltageTooLow"))), (148, (.str (Str.ofString "ResourceTemporarilyNotAvailable")))])))
  (.cons (.ret (.idx (.lit (.dct [(0, (.str (Str.ofString "PositiveResponse"))), (16, (.str (Str.ofString "GeneralReject"))), (17, (.str (Str.ofString "ServiceNotSupported"))), (18, (.str (Str.ofString "SubFunctionNotSupported"))), (19, (.str (Str.ofString "IncorrectMessageLengthOrInvalidFormat"))), (20, (.str (Str.ofString "ResponseTooLong"))), (33, (.str (Str.ofString "BusyRepeatRequest"))), (34, (.str (Str.ofString "ConditionsNotCorrect"))), (36, (.str (Str.ofString "RequestSequenceError"))), (37, (.str (Str.ofString "NoResponseFromSubnetComponent"))), (38, (.str (Str.ofString "FailurePreventsExecutionOfRequestedAction"))), (49, (.str (Str.ofString "RequestOutOfRange"))), (51, (.str (Str.ofString "SecurityAccessDenied"))), (52, (.str (Str.ofString "AuthenticationRequired"))), (53, (.str (Str.ofString "InvalidKey"))), (54, (.str (Str.ofString "ExceedNumberOfAttempts"))), (55, (.str (Str.ofString "RequiredTimeDelayNotExpired"))), (56, (.str (Str.ofString "GeneralSecurityViolation"))), (57, (.str (Str.ofString "SecureDataTransmissionNotAllowed"))), (58, (.str (Str.ofString "InsufficientProtection"))), (59, (.str (Str.ofString "TerminationWithSignatureRequested"))), (60, (.str (Str.ofString "AccessDenied"))), (61, (.str (Str.ofString "VersionNotSupported"))), (62, (.str (Str.ofString "SecuredLinkNotSupported"))), (63, (.str (Str.ofString "CertificateNotAvailable"))), (64, (.str (Str.ofString "AuditTrailInformationNotAvailable"))), (80, (.str (Str.ofString "CertificateVerificationFailed_InvalidTimePeriod"))), (81, (.str (Str.ofString "CertificateVerificationFailed_InvalidSignature"))), (82, (.str (Str.ofString "CertificateVerificationFailed_InvalidChainOfTrust"))), (83, (.str (Str.ofString "CertificateVerificationFailed_InvalidType"))), (84, (.str (Str.ofString "CertificateVerificationFailed_InvalidFormat"))), (85, (.str (Str.ofString "CertificateVerificationFailed_InvalidContent"))), (86, (.str (Str.ofString "CertificateVerificationFailed_InvalidScope"))), (87, (.str (Str.ofString "CertificateVerificationFailed_InvalidCertificate"))), (88, (.str (Str.ofString "OwnershipVerificationFailed"))), (89, (.str (Str.ofString "ChallengeCalculationFailed"))), (90, (.str (Str.ofString "SettingAccessRightsFailed"))), (91, (.str (Str.ofString "SessionKeyCreationDerivationFailed"))), (92, (.str (Str.ofString "ConfigurationDataUsageFailed"))), (93, (.str (Str.ofString "DeAuthenticationFailed"))), (112, (.str (Str.ofString "UploadDownloadNotAccepted"))), (113, (.str (Str.ofString "TransferDataSuspended"))), (114, (.str (Str.ofString "GeneralProgrammingFailure"))), (115, (.str (Str.ofString "WrongBlockSequenceCounter"))), (120, (.str (Str.ofString "RequestCorrectlyReceived_ResponsePending"))), (126, (.str (Str.ofString "SubFunctionNotSupportedInActiveSession"))), (127, (.str (Str.ofString "ServiceNotSupportedInActiveSession"))), (129, (.str (Str.ofString "RpmTooHigh"))), (130, (.str (Str.ofString "RpmTooLow"))), (131, (.str (Str.ofString "EngineIsRunning"))), (132, (.str (Str.ofString "EngineIsNotRunning"))), (133, (.str (Str.ofString "EngineRunTimeTooLow"))), (134, (.str (Str.ofString "TemperatureTooHigh"))), (135, (.str (Str.ofString "TemperatureTooLow"))), (136, (.str (Str.ofString "VehicleSpeedTooHigh"))), (137, (.str (Str.ofString "VehicleSpeedTooLow"))), (138, (.str (Str.ofString "ThrottlePedalTooHigh"))), (139, (.str (Str.ofString "ThrottlePedalTooLow"))), (140, (.str (Str.ofString "TransmissionRangeNotInNeutral"))), (141, (.str (Str.ofString "TransmissionRangeNotInGear"))), (143, (.str (Str.ofString "BrakeSwitchNotClosed"))), (144, (.str (Str.ofString "ShifterLeverNotInPark"))), (145, (.str (Str.ofString "TorqueConverterClutchLocked"))), (146, (.str (Str.ofString "VoltageTooHigh"))), (147, (.str (Str.ofString "VoltageTooLow"))), (148, (.str (Str.ofString "ResourceTemporarilyNotAvailable")))])) (.loc 1)))
  .nil)
  .nil)
  (.cons (.ret (.blt .str (.cons (.loc 1) .nil)))
  .nil)))⟩
def f_ResponseCode_is_negative : Fn := ⟨[(101, none), (101, none)], 2,
  (.cons (.ite (.cmp .isin (.loc 1) (.lst (.cons (.lit .none) (.cons (.attr (.loc 0) 28) .nil))))
  (.cons (.ret (.lit (.bool false)))
  .nil)
  .nil)
  (.cons (.ret (.cmp .isin (.loc 1) (.lit (.dct [(0, (.str (Str.ofString "PositiveResponse"))), (16, (.str (Str.ofString "GeneralReject"))), (17, (.str (Str.ofString "ServiceNotSupported"))), (18, (.str (Str.ofString "SubFunctionNotSupported"))), (19, (.str (Str.ofString "IncorrectMessageLengthOrInvalidFormat"))), (20, (.str (Str.ofString "ResponseTooLong"))), (33, (.str (Str.ofString "BusyRepeatRequest"))), (34, (.str (Str.ofString "ConditionsNotCorrect"))), (36, (.str (Str.ofString "RequestSequenceError"))), (37, (.str (Str.ofString "NoResponseFromSubnetComponent"))), (38, (.str (Str.ofString "FailurePreventsExecutionOfRequestedAction"))), (49, (.str (Str.ofString "RequestOutOfRange"))), (51, (.str (Str.ofString "SecurityAccessDenied"))), (52, (.str (Str.ofString "AuthenticationRequired"))), (53, (.str (Str.ofString "InvalidKey"))), (54, (.str (Str.ofString "ExceedNumberOfAttempts"))), (55, (.str (Str.ofString "RequiredTimeDelayNotExpired"))), (56, (.str (Str.ofString "GeneralSecurityViolation"))), (57, (.str (Str.ofString "SecureDataTransmissionNotAllowed"))), (58, (.str (Str.ofString "InsufficientProtection"))), (59, (.str (Str.ofString "TerminationWithSignatureRequested"))), (60, (.str (Str.ofString "AccessDenied"))), (61, (.str (Str.ofString "VersionNotSupported"))), (62, (.str (Str.ofString "SecuredLinkNotSupported"))), (63, (.str (Str.ofString "CertificateNotAvailable"))), (64, (.str (Str.ofString "AuditTrailInformationNotAvailable"))), (80, (.str (Str.ofString "CertificateVerificationFailed_InvalidTimePeriod"))), (81, (.str (Str.ofString "CertificateVerificationFailed_InvalidSignature"))), (82, (.str (Str.ofString "CertificateVerificationFailed_InvalidChainOfTrust"))), (83, (.str (Str.ofString "CertificateVerificationFailed_InvalidType"))), (84, (.str (Str.ofString "CertificateVerificationFailed_InvalidFormat"))), (85, (.str (Str.ofString "CertificateVerificationFailed_InvalidContent"))), (86, (.str (Str.ofString "CertificateVerificationFailed_InvalidScope"))), (87, (.str (Str.ofString "CertificateVerificationFailed_InvalidCertificate"))), (88, (.str (Str.ofString "OwnershipVerificationFailed"))), (89, (.str (Str.ofString "ChallengeCalculationFailed"))), (90, (.str (Str.ofString "SettingAccessRightsFailed"))), (91, (.str (Str.ofString "SessionKeyCreationDerivationFailed"))), (92, (.str (Str.ofString "ConfigurationDataUsageFailed"))), (93, (.str (Str.ofString "DeAuthenticationFailed"))), (112, (.str (Str.ofString "UploadDownloadNotAccepted"))), (113, (.str (Str.ofString "TransferDataSuspended"))), (114, (.str (Str.ofString "GeneralProgrammingFailure"))), (115, (.str (Str.ofString "WrongBlockSequenceCounter"))), (120, (.str (Str.ofString "RequestCorrectlyReceived_ResponsePending"))), (126, (.str (Str.ofString "SubFunctionNotSupportedInActiveSession"))), (127, (.str (Str.ofString "ServiceNotSupportedInActiveSession"))), (129, (.str (Str.ofString "RpmTooHigh"))), (130, (.str (Str.ofString "RpmTooLow"))), (131, (.str (Str.ofString "EngineIsRunning"))), (132, (.str (Str.ofString "EngineIsNotRunning"))), (133, (.str (Str.ofString "EngineRunTimeTooLow"))), (134, (.str (Str.ofString "TemperatureTooHigh"))), (135, (.str (Str.ofString "TemperatureTooLow"))), (136, (.str (Str.ofString "VehicleSpeedTooHigh"))), (137, (.str (Str.ofString "VehicleSpeedTooLow"))), (138, (.str (Str.ofString "ThrottlePedalTooHigh"))), (139, (.str (Str.ofString "ThrottlePedalTooLow"))), (140, (.str (Str.ofString "TransmissionRangeNotInNeutral"))), (141, (.str (Str.ofString "TransmissionRangeNotInGear"))), (143, (.str (Str.ofString "BrakeSwitchNotClosed"))), (144, (.str (Str.ofString "ShifterLeverNotInPark"))), (145, (.str (Str.ofString "TorqueConverterClutchLocked"))), (146, (.str (Str.ofString "VoltageTooHigh"))), (147, (.str (Str.ofString "VoltageTooLow"))), (148, (.str (Str.ofString "ResourceTemporarilyNotAvailable")))]))))
  .nil))⟩
def f_BaseService_request_id : Fn := ⟨[(101, none)], 1,
  (.cons (.ret (.attr (.loc 0) 15))
  .nil)⟩
def f_BaseService_response_id : Fn := ⟨[(101, none)], 1,
  (.cons (.ret (.bin .add (.attr (.loc 0) 15) (.lit (.int 64))))
  .nil)⟩
def f_BaseService_from_request_id : Fn := ⟨[(101, none), (101, none), (101, none)], 5,
  (.cons (.asg (.one 3) (.loc 2))
  (.cons (.for_ (.one 4) (.loc 3)
  (.cons (.ite (.cmp .eq (.meth (.loc 4) 18 .nil [] .nil) (.loc 1))
  (.cons (.ret (.loc 4))
  .nil)
  .nil)
  .nil))
  (.cons (.ret (.lit .none))
  .nil)))⟩
def f_BaseService_from_response_id : Fn := ⟨[(101, none), (101, none), (101, none)], 5,
  (.cons (.asg (.one 3) (.loc 2))
  (.cons (.for_ (.one 4) (.loc 3)
  (.cons (.ite (.cmp .eq (.meth (.loc 4) 19 .nil [] .nil) (.blt .int (.cons (.loc 1) .nil)))
  (.cons (.ret (.loc 4))
  .nil)
  .nil)
  .nil))
  (.cons (.ret (.lit .none))
  .nil)))⟩
def f_BaseService_use_subfunction : Fn := ⟨[(101, none)], 1,
  (.cons (.ite (.has (.loc 0) 16)
  (.cons (.ret (.attr (.loc 0) 16))
  .nil)
  (.cons (.ret (.lit (.bool true)))
  .nil))
  .nil)⟩
def f_BaseService_has_response_data : Fn := ⟨[(101, none)], 1,
  (.cons (.ite (.has (.loc 0) 17)
  (.cons (.ret (.ite (.attr (.loc 0) 17) (.lit (.bool false)) (.lit (.bool true))))
  .nil)
  (.cons (.ret (.lit (.bool true)))
  .nil))
  .nil)⟩
def f_BaseService_get_name : Fn := ⟨[(101, none)], 1,
  (.cons (.ret (.nameOf (.loc 0)))
  .nil)⟩
def f_BaseService_is_supported_negative_response : Fn := ⟨[(101, none), (5, none)], 3,
  (.cons (.asg (.one 2) (.lit (.bool false)))
  (.cons (.ite (.cmp .isin (.loc 1) (.attr (.loc 0) 30))
  (.cons (.asg (.one 2) (.lit (.bool true)))
  .nil)
  .nil)
  (.cons (.ite (.cmp .isin (.loc 1) (.attr (.loc 0) 31))
  (.cons (.asg (.one 2) (.lit (.bool true)))
  .nil)
  .nil)
  (.cons (.ite (.and_ (.cons (.cmp .ge (.loc 1) (.lit (.int 128))) (.cons (.cmp .lt (.loc 1) (.lit (.int 255))) (.cons (.cmp .isin (.attr (.lit (.cls a_ResponseCode)) 33) (.attr (.loc 0) 30)) .nil))))
  (.cons (.asg (.one 2) (.lit (.bool true)))
  .nil)
  .nil)
  (.cons (.ite (.and_ (.cons (.cmp .eq (.loc 1) (.attr (.lit (.cls a_ResponseCode)) 34)) (.cons (.meth (.loc 0) 22 .nil [] .nil) .nil)))
  (.cons (.asg (.one 2) (.lit (.bool true)))
  .nil)
  .nil)
  (.cons (.ret (.loc 2))
  .nil))))))⟩
def f_Response___init__ : Fn := ⟨[(101, none), (1, (some .none)), (5, (some .none)), (4, (some .none))], 4,
  (.cons (.ite (.cmp .is (.loc 1) (.lit .none))
  (.cons (.setA (.loc 0) 1 (.lit .none))
  .nil)
  (.cons (.ite (.blt .isinst (.cons (.loc 1) (.cons (.lit (.cls a_BaseService)) .nil)))
  (.cons (.setA (.loc 0) 1 (.clsOf (.loc 1)))
  .nil)
  (.cons (.ite (.and_ (.cons (.blt .isinst (.cons (.loc 1) (.cons (.lit (.typ "type")) .nil))) (.cons (.blt .issub (.cons (.loc 1) (.cons (.lit (.cls a_BaseService)) .nil))) .nil)))
  (.cons (.setA (.loc 0) 1 (.loc 1))
  .nil)
  (.cons (.ite (.cmp .nis (.loc 1) (.lit .none))
  (.cons (.raise .valN (.lit (.str (Str.ofString "Given service must be a service class or instance"))))
  .nil)
  .nil)
  .nil))
  .nil))
  .nil))
  (.cons (.setA (.loc 0) 6 (.lit (.bool false)))
  (.cons (.setA (.loc 0) 5 (.lit .none))
  (.cons (.setA (.loc 0) 13 (.lit (.str (Str.ofString ""))))
  (.cons (.setA (.loc 0) 7 (.lit (.bool false)))
  (.cons (.setA (.loc 0) 8 (.lit (.str (Str.ofString "Object not initialized"))))
  (.cons (.setA (.loc 0) 9 (.lit .none))
  (.cons (.setA (.loc 0) 10 (.lit .none))
  (.cons (.setA (.loc 0) 11 (.lit (.bool false)))
  (.cons (.setA (.loc 0) 12 (.lit .none))
  (.cons (.ite (.cmp .nis (.loc 3) (.lit .none))
  (.cons (.ite (.not_ (.blt .isinst (.cons (.loc 3) (.cons (.lit (.typ "bytes")) .nil))))
  (.cons (.raise .valN (.lit (.str (Str.ofString "Given data must be a valid bytes object"))))
  .nil)
  .nil)
  .nil)
  .nil)
  (.cons (.setA (.loc 0) 4 (.ite (.cmp .nis (.loc 3) (.lit .none)) (.loc 3) (.lit (.bytes []))))
  (.cons (.ite (.cmp .nis (.loc 2) (.lit .none))
  (.cons (.ite (.not_ (.blt .isinst (.cons (.loc 2) (.cons (.lit (.typ "int")) .nil))))
  (.cons (.raise .valN (.lit (.str (Str.ofString "Response code must be a valid integer"))))
  .nil)
  (.cons (.ite (.or_ (.cons (.cmp .lt (.loc 2) (.lit (.int 0))) (.cons (.cmp .gt (.loc 2) (.lit (.int 255))) .nil)))
  (.cons (.raise .valN (.lit (.str (Str.ofString "Response code must be an integer between 0 and 0xFF"))))
  .nil)
  .nil)
  .nil))
  (.cons (.setA (.loc 0) 5 (.loc 2))
  (.cons (.setA (.loc 0) 13 (.meth (.attr (.lit (.cls a_Response)) 14) 24 (.cons (.loc 2) .nil) [] .nil))
  (.cons (.ite (.not_ (.meth (.attr (.lit (.cls a_Response)) 14) 27 (.cons (.loc 2) .nil) [] .nil))
  (.cons (.setA (.loc 0) 6 (.lit (.bool true)))
  .nil)
  .nil)
  .nil))))
  .nil)
  (.cons (.ite (.and_ (.cons (.cmp .nis (.attr (.loc 0) 1) (.lit .none)) (.cons (.cmp .nis (.attr (.loc 0) 5) (.lit .none)) .nil)))
  (.cons (.setA (.loc 0) 7 (.lit (.bool true)))
  (.cons (.setA (.loc 0) 8 (.lit (.str (Str.ofString ""))))
  .nil))
  .nil)
  .nil))))))))))))))⟩
def f_Response_get_payload : Fn := ⟨[(101, none)], 2,
  (.cons (.ite (.cmp .is (.attr (.loc 0) 1) (.lit .none))
  (.cons (.raise .valN (.lit (.str (Str.ofString "Cannot make payload from response object. Service is not set"))))
  .nil)
  .nil)
  (.cons (.ite (.and_ (.cons (.not_ (.blt .isinst (.cons (.attr (.loc 0) 1) (.cons (.lit (.cls a_BaseService)) .nil)))) (.cons (.not_ (.blt .issub (.cons (.attr (.loc 0) 1) (.cons (.lit (.cls a_BaseService)) .nil)))) .nil)))
  (.cons (.raise .valN (.lit (.str (Str.ofString "Cannot make payload from response object. Given service is not a valid service object"))))
  .nil)
  .nil)
  (.cons (.ite (.not_ (.blt .isinst (.cons (.attr (.loc 0) 5) (.cons (.lit (.typ "int")) .nil))))
  (.cons (.raise .valN (.lit (.str (Str.ofString "Cannot make payload from response object. Given response code is not a valid integer"))))
  .nil)
  .nil)
  (.cons (.asg (.one 1) (.lit (.bytes [])))
  (.cons (.ite (.attr (.loc 0) 6)
  (.cons (.aug 1 .add (.blt .pack (.cons (.lit (.str (Str.ofString "B"))) (.cons (.meth (.attr (.loc 0) 1) 19 .nil [] .nil) .nil))))
  .nil)
  (.cons (.aug 1 .add (.lit (.bytes [127])))
  (.cons (.aug 1 .add (.blt .pack (.cons (.lit (.str (Str.ofString "B"))) (.cons (.meth (.attr (.loc 0) 1) 18 .nil [] .nil) .nil))))
  (.cons (.aug 1 .add (.blt .pack (.cons (.lit (.str (Str.ofString "B"))) (.cons (.attr (.loc 0) 5) .nil))))
  .nil))))
  (.cons (.ite (.and_ (.cons (.cmp .nis (.attr (.loc 0) 4) (.lit .none)) (.cons (.meth (.attr (.loc 0) 1) 23 .nil [] .nil) .nil)))
  (.cons (.aug 1 .add (.attr (.loc 0) 4))
  .nil)
  .nil)
  (.cons (.ret (.loc 1))
  .nil)))))))⟩
def f_Response_from_payload : Fn := ⟨[(101, none), (101, none), (101, none)], 5,
  (.cons (.asg (.one 3) (.call (.loc 0) .nil))
  (.cons (.setA (.loc 3) 10 (.loc 1))
  (.cons (.ite (.cmp .lt (.blt .len (.cons (.loc 1) .nil)) (.lit (.int 1)))
  (.cons (.setA (.loc 3) 7 (.lit (.bool false)))
  (.cons (.setA (.loc 3) 8 (.lit (.str (Str.ofString "Payload is empty"))))
  (.cons (.ret (.loc 3))
  .nil)))
  .nil)
  (.cons (.ite (.cmp .ne (.idx (.loc 1) (.lit (.int 0))) (.lit (.int 127)))
  (.cons (.setA (.loc 3) 1 (.meth (.lit (.cls a_BaseService)) 21 (.cons (.idx (.loc 1) (.lit (.int 0))) (.cons (.loc 2) .nil)) [] .nil))
  (.cons (.ite (.cmp .is (.attr (.loc 3) 1) (.lit .none))
  (.cons (.setA (.loc 3) 7 (.lit (.bool false)))
  (.cons (.setA (.loc 3) 8 (.lit (.str (Str.ofString "Payload first byte is not a known service response ID."))))
  (.cons (.ret (.loc 3))
  .nil)))
  .nil)
  (.cons (.asg (.one 4) (.lit (.int 1)))
  (.cons (.setA (.loc 3) 6 (.lit (.bool true)))
  (.cons (.ite (.and_ (.cons (.cmp .lt (.blt .len (.cons (.loc 1) .nil)) (.lit (.int 2))) (.cons (.meth (.attr (.loc 3) 1) 23 .nil [] .nil) .nil)))
  (.cons (.setA (.loc 3) 7 (.lit (.bool false)))
  (.cons (.setA (.loc 3) 6 (.lit (.bool false)))
  (.cons (.setA (.loc 3) 8 (.lit (.str (Str.ofString "Payload must be at least 2 bytes long (service and response)"))))
  (.cons (.ret (.loc 3))
  .nil))))
  .nil)
  (.cons (.setA (.loc 3) 5 (.attr (.attr (.lit (.cls a_Response)) 14) 28))
  (.cons (.setA (.loc 3) 13 (.meth (.attr (.lit (.cls a_Response)) 14) 24 (.cons (.attr (.attr (.lit (.cls a_Response)) 14) 28) .nil) [] .nil))
  .nil)))))))
  (.cons (.setA (.loc 3) 6 (.lit (.bool false)))
  (.cons (.asg (.one 4) (.lit (.int 3)))
  (.cons (.ite (.cmp .lt (.blt .len (.cons (.loc 1) .nil)) (.lit (.int 2)))
  (.cons (.setA (.loc 3) 7 (.lit (.bool false)))
  (.cons (.setA (.loc 3) 8 (.lit (.str (Str.ofString "Incomplete invalid response service (7Fxx)"))))
  (.cons (.ret (.loc 3))
  .nil)))
  .nil)
  (.cons (.setA (.loc 3) 1 (.meth (.lit (.cls a_BaseService)) 20 (.cons (.idx (.loc 1) (.lit (.int 1))) (.cons (.loc 2) .nil)) [] .nil))
  (.cons (.ite (.cmp .is (.attr (.loc 3) 1) (.lit .none))
  (.cons (.setA (.loc 3) 7 (.lit (.bool false)))
  (.cons (.setA (.loc 3) 8 (.lit (.str (Str.ofString "Payload second byte is not a known service request ID."))))
  (.cons (.ret (.loc 3))
  .nil)))
  .nil)
  (.cons (.ite (.cmp .lt (.blt .len (.cons (.loc 1) .nil)) (.lit (.int 3)))
  (.cons (.setA (.loc 3) 7 (.lit (.bool false)))
  (.cons (.setA (.loc 3) 8 (.lit (.str (Str.ofString "Response code missing"))))
  (.cons (.ret (.loc 3))
  .nil)))
  .nil)
  (.cons (.setA (.loc 3) 5 (.blt .int (.cons (.idx (.loc 1) (.lit (.int 2))) .nil)))
  (.cons (.setA (.loc 3) 13 (.meth (.attr (.lit (.cls a_Response)) 14) 24 (.cons (.attr (.loc 3) 5) .nil) [] .nil))
  .nil)))))))))
  (.cons (.setA (.loc 3) 7 (.lit (.bool true)))
  (.cons (.setA (.loc 3) 8 (.lit (.str (Str.ofString ""))))
  (.cons (.ite (.cmp .gt (.blt .len (.cons (.loc 1) .nil)) (.loc 4))
  (.cons (.setA (.loc 3) 4 (.sli (.loc 1) (.loc 4) (.lit .none)))
  .nil)
  .nil)
  (.cons (.ret (.loc 3))
  .nil))))))))⟩
def f_Response___len__ : Fn := ⟨[(101, none)], 1,
  (.cons (.try_ (.cons (.ret (.blt .len (.cons (.meth (.loc 0) 25 .nil [] .nil) .nil)))
  .nil) [(.bare, (.int 0))])
  .nil)⟩
def f__law_within : Fn := ⟨[(5, none), (101, none)], 4,
  (.cons (.for_ (.many [2, 3]) (.loc 1)
  (.cons (.ite (.and_ (.cons (.cmp .le (.loc 2) (.loc 0)) (.cons (.cmp .le (.loc 0) (.loc 3)) .nil)))
  (.cons (.ret (.lit (.bool true)))
  .nil)
  .nil)
  .nil))
  (.cons (.ret (.lit (.bool false)))
  .nil))⟩
def f__law_may : Fn := ⟨[(101, none), (5, none)], 2,
  (.cons (.ite (.or_ (.cons (.cmp .isin (.loc 1) (.idx (.lit (.tup [(.tup [(.int 18), (.int 19), (.int 34), (.int 49)]), (.tup [(.int 18), (.int 19), (.int 34), (.int 36), (.int 49)]), (.tup [(.int 19), (.int 36), (.int 49), (.int 113), (.int 114), (.int 115), (.int 146), (.int 147)]), (.tup [(.int 19), (.int 34), (.int 49), (.int 51)])])) (.loc 0))) (.cons (.cmp .isin (.loc 1) (.lit (.tup [(.int 16), (.int 17), (.int 20), (.int 33), (.int 37), (.int 38), (.int 51), (.int 52), (.int 56), (.int 57), (.int 120), (.int 127), (.int 148)]))) .nil)))
  (.cons (.ret (.lit (.bool true)))
  .nil)
  .nil)
  (.cons (.ite (.cmp .eq (.loc 1) (.lit (.int 126)))
  (.cons (.ret (.cmp .lt (.loc 0) (.lit (.int 2))))
  .nil)
  .nil)
  (.cons (.ret (.and_ (.cons (.cmp .isin (.lit (.int 34)) (.idx (.lit (.tup [(.tup [(.int 18), (.int 19), (.int 34), (.int 49)]), (.tup [(.int 18), (.int 19), (.int 34), (.int 36), (.int 49)]), (.tup [(.int 19), (.int 36), (.int 49), (.int 113), (.int 114), (.int 115), (.int 146), (.int 147)]), (.tup [(.int 19), (.int 34), (.int 49), (.int 51)])])) (.loc 0))) (.cons (.call (.lit (.cls a__law_within)) (.cons (.loc 1) (.cons (.tup (.cons (.tup (.cons (.lit (.int 128)) (.cons (.lit (.int 254)) .nil))) .nil)) .nil))) .nil))))
  .nil)))⟩
def f__law_object : Fn := ⟨[(101, none)], 1,
  (.cons (.ite (.cmp .eq (.loc 0) (.lit (.int 0)))
  (.cons (.ret (.call (.lit (.cls a_CommunicationControl)) .nil))
  .nil)
  .nil)
  (.cons (.ite (.cmp .eq (.loc 0) (.lit (.int 1)))
  (.cons (.ret (.call (.lit (.cls a_LinkControl)) .nil))
  .nil)
  .nil)
  (.cons (.ite (.cmp .eq (.loc 0) (.lit (.int 2)))
  (.cons (.ret (.call (.lit (.cls a_TransferData)) .nil))
  .nil)
  .nil)
  (.cons (.ret (.call (.lit (.cls a_ReadMemoryByAddress)) .nil))
  .nil))))⟩
def f__law_named : Fn := ⟨[(5, none)], 3,
  (.cons (.ite (.and_ (.cons (.cmp .ne (.loc 0) (.lit (.int 0))) (.cons (.not_ (.call (.lit (.cls a__law_within)) (.cons (.loc 0) (.cons (.lit (.tup [(.tup [(.int 16), (.int 20)]), (.tup [(.int 33), (.int 34)]), (.tup [(.int 36), (.int 38)]), (.tup [(.int 49), (.int 49)]), (.tup [(.int 51), (.int 64)]), (.tup [(.int 80), (.int 93)]), (.tup [(.int 112), (.int 115)]), (.tup [(.int 120), (.int 120)]), (.tup [(.int 126), (.int 127)]), (.tup [(.int 129), (.int 141)]), (.tup [(.int 143), (.int 148)])])) .nil)))) .nil)))
  (.cons (.ret (.blt .str (.cons (.loc 0) .nil)))
  .nil)
  .nil)
  (.cons (.for_ (.many [1, 2]) (.lit (.tup [(.tup [(.int 0), (.str (Str.ofString "PositiveResponse"))]), (.tup [(.int 16), (.str (Str.ofString "GeneralReject"))]), (.tup [(.int 17), (.str (Str.ofString "ServiceNotSupported"))]), (.tup [(.int 18), (.str (Str.ofString "SubFunctionNotSupported"))]), (.tup [(.int 19), (.str (Str.ofString "IncorrectMessageLengthOrInvalidFormat"))]), (.tup [(.int 20), (.str (Str.ofString "ResponseTooLong"))]), (.tup [(.int 33), (.str (Str.ofString "BusyRepeatRequest"))]), (.tup [(.int 34), (.str (Str.ofString "ConditionsNotCorrect"))]), (.tup [(.int 36), (.str (Str.ofString "RequestSequenceError"))]), (.tup [(.int 37), (.str (Str.ofString "NoResponseFromSubnetComponent"))]), (.tup [(.int 38), (.str (Str.ofString "FailurePreventsExecutionOfRequestedAction"))]), (.tup [(.int 49), (.str (Str.ofString "RequestOutOfRange"))]), (.tup [(.int 51), (.str (Str.ofString "SecurityAccessDenied"))]), (.tup [(.int 52), (.str (Str.ofString "AuthenticationRequired"))]), (.tup [(.int 53), (.str (Str.ofString "InvalidKey"))]), (.tup [(.int 54), (.str (Str.ofString "ExceedNumberOfAttempts"))]), (.tup [(.int 55), (.str (Str.ofString "RequiredTimeDelayNotExpired"))]), (.tup [(.int 112), (.str (Str.ofString "UploadDownloadNotAccepted"))]), (.tup [(.int 113), (.str (Str.ofString "TransferDataSuspended"))]), (.tup [(.int 114), (.str (Str.ofString "GeneralProgrammingFailure"))]), (.tup [(.int 115), (.str (Str.ofString "WrongBlockSequenceCounter"))]), (.tup [(.int 120), (.str (Str.ofString "RequestCorrectlyReceived_ResponsePending"))]), (.tup [(.int 126), (.str (Str.ofString "SubFunctionNotSupportedInActiveSession"))]), (.tup [(.int 127), (.str (Str.ofString "ServiceNotSupportedInActiveSession"))]), (.tup [(.int 146), (.str (Str.ofString "VoltageTooHigh"))]), (.tup [(.int 147), (.str (Str.ofString "VoltageTooLow"))])]))
  (.cons (.ite (.cmp .eq (.loc 1) (.loc 0))
  (.cons (.ret (.loc 2))
  .nil)
  .nil)
  .nil))
  (.cons (.ret (.lit (.str (Str.ofString ""))))
  .nil)))⟩
def f__law_since : Fn := ⟨[(5, none), (101, none)], 2,
  (.cons (.try_ (.cons (.ret (.meth (.lit (.cls a_ResponseCode)) 32 (.cons (.loc 0) (.cons (.loc 1) .nil)) [] .nil))
  .nil) [(.val, (.str (Str.ofString "refused")))])
  .nil)⟩
def f_law : Fn := ⟨[(101, none)], 24,
  (.cons (.asg (.one 1) (.lst (.cons (.lit (.cls a_CommunicationControl)) (.cons (.lit (.cls a_LinkControl)) (.cons (.lit (.cls a_TransferData)) (.cons (.lit (.cls a_ReadMemoryByAddress)) .nil))))))
  (.cons (.asg (.one 2) (.bin .add (.comp (.bin .mod (.loc 24) (.lit (.int 65536))) (.sli (.loc 0) (.lit .none) (.lit (.int 9))) .nil) (.lst (.cons (.lit (.int 5)) (.cons (.lit (.int 128)) (.cons (.lit (.int 14)) .nil))))))
  (.cons (.asg (.one 3) (.blt .len (.cons (.loc 2) .nil)))
  (.cons (.mls 4 .nil)
  (.cons (.for_ (.one 5) (.blt .range (.cons (.loc 3) .nil))
  (.cons (.asg (.one 6) (.idx (.loc 2) (.loc 5)))
  (.cons (.asg (.one 7) (.idx (.loc 2) (.bin .mod (.bin .add (.loc 5) (.lit (.int 1))) (.loc 3))))
  (.cons (.asg (.one 8) (.idx (.loc 2) (.bin .mod (.bin .add (.loc 5) (.lit (.int 2))) (.loc 3))))
  (.cons (.asg (.one 9) (.bin .mod (.loc 6) (.lit (.int 4))))
  (.cons (.asg (.one 10) (.bin .mod (.loc 7) (.lit (.int 256))))
  (.cons (.asg (.one 11) (.blt .bytes (.cons (.comp (.bin .mod (.bin .add (.bin .add (.loc 6) (.loc 8)) (.bin .mul (.lit (.int 47)) (.loc 24))) (.lit (.int 256))) (.bltQ .range (.cons (.bin .mod (.loc 8) (.lit (.int 4))) .nil)) .nil) .nil)))
  (.cons (.asg (.one 12) (.bin .add (.blt .bytes (.cons (.lst (.cons (.lit (.int 127)) (.cons (.idx (.lit (.tup [(.int 40), (.int 135), (.int 54), (.int 35)])) (.loc 9)) (.cons (.loc 10) .nil)))) .nil)) (.loc 11)))
  (.cons (.asg (.one 13) (.meth (.lit (.cls a_Response)) 26 (.cons (.loc 12) (.cons (.loc 1) .nil)) [] .nil))
  (.cons (.ite (.or_ (.cons (.not_ (.attr (.loc 13) 7)) (.cons (.attr (.loc 13) 6) (.cons (.cmp .nis (.attr (.loc 13) 1) (.idx (.loc 1) (.loc 9))) .nil))))
  (.cons (.ret (.lit (.bool false)))
  .nil)
  .nil)
  (.cons (.ite (.or_ (.cons (.cmp .ne (.attr (.loc 13) 5) (.loc 10)) (.cons (.cmp .ne (.attr (.loc 13) 4) (.loc 11)) (.cons (.cmp .ne (.meth (.loc 13) 25 .nil [] .nil) (.loc 12)) .nil))))
  (.cons (.ret (.lit (.bool false)))
  .nil)
  .nil)
  (.cons (.ite (.cmp .nis (.meth (.lit (.cls a_BaseService)) 20 (.cons (.idx (.lit (.tup [(.int 40), (.int 135), (.int 54), (.int 35)])) (.loc 9)) (.cons (.loc 1) .nil)) [] .nil) (.idx (.loc 1) (.loc 9)))
  (.cons (.ret (.lit (.bool false)))
  .nil)
  .nil)
  (.cons (.ite (.cmp .nis (.meth (.lit (.cls a_BaseService)) 21 (.cons (.bin .add (.idx (.lit (.tup [(.int 40), (.int 135), (.int 54), (.int 35)])) (.loc 9)) (.lit (.int 64))) (.cons (.loc 1) .nil)) [] .nil) (.idx (.loc 1) (.loc 9)))
  (.cons (.ret (.lit (.bool false)))
  .nil)
  .nil)
  (.cons (.asg (.one 14) (.bin .sub (.bin .mod (.bin .add (.loc 7) (.bin .mul (.lit (.int 7)) (.loc 8))) (.lit (.int 361))) (.lit (.int 30))))
  (.cons (.for_ (.one 15) (.tup (.cons (.loc 10) (.cons (.loc 14) .nil)))
  (.cons (.asg (.one 16) (.call (.lit (.cls a__law_may)) (.cons (.loc 9) (.cons (.loc 15) .nil))))
  (.cons (.for_ (.one 17) (.tup (.cons (.meth (.attr (.loc 13) 1) 29 (.cons (.loc 15) .nil) [] .nil) (.cons (.meth (.idx (.loc 1) (.loc 9)) 29 (.cons (.loc 15) .nil) [] .nil) (.cons (.meth (.call (.lit (.cls a__law_object)) (.cons (.loc 9) .nil)) 29 (.cons (.loc 15) .nil) [] .nil) .nil))))
  (.cons (.ite (.or_ (.cons (.not_ (.blt .isinst (.cons (.loc 17) (.cons (.lit (.typ "bool")) .nil)))) (.cons (.cmp .ne (.loc 17) (.loc 16)) .nil)))
  (.cons (.ret (.lit (.bool false)))
  .nil)
  .nil)
  .nil))
  (.cons (.ite (.cmp .ne (.meth (.lit (.cls a_ResponseCode)) 27 (.cons (.loc 15) .nil) [] .nil) (.call (.lit (.cls a__law_within)) (.cons (.loc 15) (.cons (.lit (.tup [(.tup [(.int 16), (.int 20)]), (.tup [(.int 33), (.int 34)]), (.tup [(.int 36), (.int 38)]), (.tup [(.int 49), (.int 49)]), (.tup [(.int 51), (.int 64)]), (.tup [(.int 80), (.int 93)]), (.tup [(.int 112), (.int 115)]), (.tup [(.int 120), (.int 120)]), (.tup [(.int 126), (.int 127)]), (.tup [(.int 129), (.int 141)]), (.tup [(.int 143), (.int 148)])])) .nil))))
  (.cons (.ret (.lit (.bool false)))
  .nil)
  .nil)
  (.cons (.asg (.one 18) (.meth (.lit (.cls a_ResponseCode)) 24 (.cons (.loc 15) .nil) [] .nil))
  (.cons (.asg (.one 19) (.call (.lit (.cls a__law_named)) (.cons (.loc 15) .nil)))
  (.cons (.ite (.or_ (.cons (.not_ (.blt .isinst (.cons (.loc 18) (.cons (.lit (.typ "str")) .nil)))) (.cons (.cmp .eq (.loc 18) (.lit (.str (Str.ofString "")))) (.cons (.and_ (.cons (.cmp .ne (.loc 19) (.lit (.str (Str.ofString "")))) (.cons (.cmp .ne (.loc 18) (.loc 19)) .nil))) .nil))))
  (.cons (.ret (.lit (.bool false)))
  .nil)
  .nil)
  (.cons (.app (.loc 4) (.tup (.cons (.loc 15) (.cons (.loc 18) .nil))))
  .nil))))))))
  (.cons (.ite (.cmp .ne (.attr (.loc 13) 13) (.idx (.idx (.loc 4) (.bin .mul (.lit (.int 2)) (.loc 5))) (.lit (.int 1))))
  (.cons (.ret (.lit (.bool false)))
  .nil)
  .nil)
  (.cons (.asg (.one 15) (.ite (.cmp .eq (.bin .mod (.loc 6) (.lit (.int 3))) (.lit (.int 0))) (.loc 14) (.loc 10)))
  (.cons (.asg (.one 20) (.bin .add (.lit (.int 2000)) (.bin .mod (.bin .add (.loc 6) (.loc 8)) (.lit (.int 31)))))
  (.cons (.asg (.one 21) (.ite (.call (.lit (.cls a__law_within)) (.cons (.loc 15) (.cons (.lit (.tup [(.tup [(.int 52), (.int 52)]), (.tup [(.int 80), (.int 93)]), (.tup [(.int 148), (.int 148)])])) .nil))) (.lit (.int 2020)) (.lit (.int 2006))))
  (.cons (.asg (.one 19) (.ite (.or_ (.cons (.cmp .eq (.loc 15) (.lit (.int 0))) (.cons (.call (.lit (.cls a__law_within)) (.cons (.loc 15) (.cons (.lit (.tup [(.tup [(.int 16), (.int 20)]), (.tup [(.int 33), (.int 34)]), (.tup [(.int 36), (.int 38)]), (.tup [(.int 49), (.int 49)]), (.tup [(.int 51), (.int 64)]), (.tup [(.int 80), (.int 93)]), (.tup [(.int 112), (.int 115)]), (.tup [(.int 120), (.int 120)]), (.tup [(.int 126), (.int 127)]), (.tup [(.int 129), (.int 141)]), (.tup [(.int 143), (.int 148)])])) .nil))) .nil))) (.cmp .ge (.loc 20) (.loc 21)) (.lit (.str (Str.ofString "refused")))))
  (.cons (.ite (.cmp .ne (.call (.lit (.cls a__law_since)) (.cons (.loc 15) (.cons (.loc 20) .nil))) (.loc 19))
  (.cons (.ret (.lit (.bool false)))
  .nil)
  .nil)
  (.cons (.ite (.and_ (.cons (.cmp .eq (.bin .mod (.loc 6) (.lit (.int 5))) (.lit (.int 1))) (.cons (.or_ (.cons (.cmp .ne (.call (.lit (.cls a__law_since)) (.cons (.lit (.str (Str.ofString "x"))) (.cons (.loc 20) .nil))) (.lit (.str (Str.ofString "refused")))) (.cons (.cmp .ne (.call (.lit (.cls a__law_since)) (.cons (.lit (.int 16)) (.cons (.lit (.str (Str.ofString "x"))) .nil))) (.lit (.str (Str.ofString "refused")))) .nil))) .nil)))
  (.cons (.ret (.lit (.bool false)))
  .nil)
  .nil)
  .nil))))))))))))))))))))))
  (.cons (.for_ (.many [15, 18]) (.loc 4)
  (.cons (.for_ (.many [22, 23]) (.loc 4)
  (.cons (.ite (.cmp .ne (.cmp .eq (.loc 15) (.loc 22)) (.cmp .eq (.loc 18) (.loc 23)))
  (.cons (.ret (.lit (.bool false)))
  .nil)
  .nil)
  .nil))
  .nil))
  (.cons (.ret (.lit (.bool true)))
  .nil)))))))⟩
def c_ResponseCode : Cl := ⟨(Str.ofString "ResponseCode"), [(24, .cmeth a_ResponseCode_get_name), (27, .cmeth a_ResponseCode_is_negative), (28, .val (.int 0)), (32, .cmeth a_ResponseCode_is_supported_by_standard), (33, .val (.int 34)), (34, .val (.int 126)), (35, .val (.int 16)), (36, .val (.int 17)), (37, .val (.int 18)), (38, .val (.int 19)), (39, .val (.int 20)), (40, .val (.int 33)), (41, .val (.int 36)), (42, .val (.int 37)), (43, .val (.int 38)), (44, .val (.int 49)), (45, .val (.int 51)), (46, .val (.int 52)), (47, .val (.int 53)), (48, .val (.int 54)), (49, .val (.int 55)), (50, .val (.int 56)), (51, .val (.int 57)), (52, .val (.int 58)), (53, .val (.int 80)), (54, .val (.int 81)), (55, .val (.int 82)), (56, .val (.int 83)), (57, .val (.int 84)), (58, .val (.int 85)), (59, .val (.int 86)), (60, .val (.int 87)), (61, .val (.int 88)), (62, .val (.int 89)), (63, .val (.int 90)), (64, .val (.int 91)), (65, .val (.int 92)), (66, .val (.int 93)), (67, .val (.int 112)), (68, .val (.int 113)), (69, .val (.int 114)), (70, .val (.int 115)), (71, .val (.int 120)), (72, .val (.int 127)), (73, .val (.int 129)), (74, .val (.int 130)), (75, .val (.int 131)), (76, .val (.int 132)), (77, .val (.int 133)), (78, .val (.int 134)), (79, .val (.int 135)), (80, .val (.int 136)), (81, .val (.int 137)), (82, .val (.int 138)), (83, .val (.int 139)), (84, .val (.int 140)), (85, .val (.int 141)), (86, .val (.int 143)), (87, .val (.int 144)), (88, .val (.int 145)), (89, .val (.int 146)), (90, .val (.int 147)), (91, .val (.int 148)), (92, .val (.int 56)), (93, .val (.int 57)), (94, .val (.int 58)), (95, .val (.int 59)), (96, .val (.int 60)), (97, .val (.int 61)), (98, .val (.int 62)), (99, .val (.int 63)), (100, .val (.int 64))], [a_ResponseCode], none⟩
def c_BaseService : Cl := ⟨(Str.ofString "BaseService"), [(18, .cmeth a_BaseService_request_id), (19, .cmeth a_BaseService_response_id), (20, .cmeth a_BaseService_from_request_id), (21, .cmeth a_BaseService_from_response_id), (22, .cmeth a_BaseService_use_subfunction), (23, .cmeth a_BaseService_has_response_data), (24, .cmeth a_BaseService_get_name), (29, .cmeth a_BaseService_is_supported_negative_response), (31, .val (.lst [(.int 16), (.int 17), (.int 20), (.int 33), (.int 37), (.int 38), (.int 51), (.int 52), (.int 56), (.int 57), (.int 120), (.int 127), (.int 148)]))], [a_BaseService], none⟩
def c_Response : Cl := ⟨(Str.ofString "Response"), [(0, .meth a_Response___len__), (14, .val (.cls a_ResponseCode)), (25, .meth a_Response_get_payload), (26, .cmeth a_Response_from_payload)], [a_Response], (some a_Response___init__)⟩
def c_CommunicationControl : Cl := ⟨(Str.ofString "CommunicationControl"), [(15, .val (.int 40)), (18, .cmeth a_BaseService_request_id), (19, .cmeth a_BaseService_response_id), (20, .cmeth a_BaseService_from_request_id), (21, .cmeth a_BaseService_from_response_id), (22, .cmeth a_BaseService_use_subfunction), (23, .cmeth a_BaseService_has_response_data), (24, .cmeth a_BaseService_get_name), (29, .cmeth a_BaseService_is_supported_negative_response), (30, .val (.lst [(.int 18), (.int 19), (.int 34), (.int 49)])), (31, .val (.lst [(.int 16), (.int 17), (.int 20), (.int 33), (.int 37), (.int 38), (.int 51), (.int 52), (.int 56), (.int 57), (.int 120), (.int 127), (.int 148)]))], [a_CommunicationControl, a_BaseService], none⟩
def c_LinkControl : Cl := ⟨(Str.ofString "LinkControl"), [(15, .val (.int 135)), (18, .cmeth a_BaseService_request_id), (19, .cmeth a_BaseService_response_id), (20, .cmeth a_BaseService_from_request_id), (21, .cmeth a_BaseService_from_response_id), (22, .cmeth a_BaseService_use_subfunction), (23, .cmeth a_BaseService_has_response_data), (24, .cmeth a_BaseService_get_name), (29, .cmeth a_BaseService_is_supported_negative_response), (30, .val (.lst [(.int 18), (.int 19), (.int 34), (.int 36), (.int 49)])), (31, .val (.lst [(.int 16), (.int 17), (.int 20), (.int 33), (.int 37), (.int 38), (.int 51), (.int 52), (.int 56), (.int 57), (.int 120), (.int 127), (.int 148)]))], [a_LinkControl, a_BaseService], none⟩
def c_TransferData : Cl := ⟨(Str.ofString "TransferData"), [(15, .val (.int 54)), (16, .val (.bool false)), (18, .cmeth a_BaseService_request_id), (19, .cmeth a_BaseService_response_id), (20, .cmeth a_BaseService_from_request_id), (21, .cmeth a_BaseService_from_response_id), (22, .cmeth a_BaseService_use_subfunction), (23, .cmeth a_BaseService_has_response_data), (24, .cmeth a_BaseService_get_name), (29, .cmeth a_BaseService_is_supported_negative_response), (30, .val (.lst [(.int 19), (.int 36), (.int 49), (.int 113), (.int 114), (.int 115), (.int 146), (.int 147)])), (31, .val (.lst [(.int 16), (.int 17), (.int 20), (.int 33), (.int 37), (.int 38), (.int 51), (.int 52), (.int 56), (.int 57), (.int 120), (.int 127), (.int 148)]))], [a_TransferData, a_BaseService], none⟩
def c_ReadMemoryByAddress : Cl := ⟨(Str.ofString "ReadMemoryByAddress"), [(15, .val (.int 35)), (16, .val (.bool false)), (18, .cmeth a_BaseService_request_id), (19, .cmeth a_BaseService_response_id), (20, .cmeth a_BaseService_from_request_id), (21, .cmeth a_BaseService_from_response_id), (22, .cmeth a_BaseService_use_subfunction), (23, .cmeth a_BaseService_has_response_data), (24, .cmeth a_BaseService_get_name), (29, .cmeth a_BaseService_is_supported_negative_response), (30, .val (.lst [(.int 19), (.int 34), (.int 49), (.int 51)])), (31, .val (.lst [(.int 16), (.int 17), (.int 20), (.int 33), (.int 37), (.int 38), (.int 51), (.int 52), (.int 56), (.int 57), (.int 120), (.int 127), (.int 148)]))], [a_ReadMemoryByAddress, a_BaseService], none⟩
def tFs : List Nat := [a_ResponseCode_is_supported_by_standard, a_ResponseCode_get_name, a_ResponseCode_is_negative, a_BaseService_request_id, a_BaseService_response_id, a_BaseService_from_request_id, a_BaseService_from_response_id, a_BaseService_use_subfunction, a_BaseService_has_response_data, a_BaseService_get_name, a_BaseService_is_supported_negative_response, a_Response___init__, a_Response_get_payload, a_Response_from_payload, a_Response___len__, a__law_within, a__law_may, a__law_object, a__law_named, a__law_since]
def tCs : List Nat := [a_ResponseCode, a_BaseService, a_Response, a_CommunicationControl, a_LinkControl, a_TransferData, a_ReadMemoryByAddress]
def T : Tab := ⟨[(a_ResponseCode_is_supported_by_standard, f_ResponseCode_is_supported_by_standard), (a_ResponseCode_get_name, f_ResponseCode_get_name), (a_ResponseCode_is_negative, f_ResponseCode_is_negative), (a_BaseService_request_id, f_BaseService_request_id), (a_BaseService_response_id, f_BaseService_response_id), (a_BaseService_from_request_id, f_BaseService_from_request_id), (a_BaseService_from_response_id, f_BaseService_from_response_id), (a_BaseService_use_subfunction, f_BaseService_use_subfunction), (a_BaseService_has_response_data, f_BaseService_has_response_data), (a_BaseService_get_name, f_BaseService_get_name), (a_BaseService_is_supported_negative_response, f_BaseService_is_supported_negative_response), (a_Response___init__, f_Response___init__), (a_Response_get_payload, f_Response_get_payload), (a_Response_from_payload, f_Response_from_payload), (a_Response___len__, f_Response___len__), (a__law_within, f__law_within), (a__law_may, f__law_may), (a__law_object, f__law_object), (a__law_named, f__law_named), (a__law_since, f__law_since)], [(a_ResponseCode, c_ResponseCode), (a_BaseService, c_BaseService), (a_Response, c_Response), (a_CommunicationControl, c_CommunicationControl), (a_LinkControl, c_LinkControl), (a_TransferData, c_TransferData), (a_ReadMemoryByAddress, c_ReadMemoryByAddress)]⟩
end Mine

/-! Equations of the evaluator, with its continuations named, so that simp runs it from the inside (own work). -/
namespace Mine
section
variable {T : Tab} {cf : CF} {ρ : Loc} {σ : St}
theorem b_ok {α β : Type} (a : α) (σ : St) (f : α → St → R β) : (R.ok a σ).bind f = f a σ := rfl
theorem b_exc {α β : Type} (x : X) (σ : St) (f : α → St → R β) : (R.exc x σ : R α).bind f = .exc x σ := rfl
theorem b_bad {α β : Type} (f : α → St → R β) : (R.bad : R α).bind f = .bad := rfl
theorem o_ok {α : Type} (a : α) (σ : St) : (R.ok a σ).out = .ok a σ := rfl
theorem o_exc {α : Type} (x : X) (σ : St) : (R.exc x σ : R α).out = .exc x.out σ := rfl
theorem x_v : X.out .val = .val := rfl
theorem x_p : X.out .pack = .pack := rfl
theorem x_vn : X.out .valN = .val := rfl
theorem x_pn : X.out .packN = .pack := rfl
theorem c_ok {α : Type} (a : α) (σ : St) : (R.ok a σ).calm = .ok a σ := rfl
theorem of_s {α : Type} (a : α) (σ : St) : R.of σ (some a) = .ok a σ := rfl
theorem om_s {α β : Type} (f : α → β) (a : α) : (some a).map f = some (f a) := rfl
def getL : Option (Option V) → St → R V
  | some (some v), σ => .ok v σ
  | _, _ => .bad
theorem getL_s (v : V) (σ : St) : getL (some (some v)) σ = .ok v σ := rfl
theorem l_0 {α : Type} (a : α) (l : List α) : (a :: l)[0]? = some a := rfl
theorem l_s {α : Type} (a : α) (l : List α) (n : Nat) : (a :: l)[n+1]? = l[n]? := rfl
theorem e_lit (v : V) : ev T cf (.lit v) ρ σ = .ok v σ := by rw [ev]
theorem e_loc (i : Nat) : ev T cf (.loc i) ρ σ = getL (ρ[i]?) σ := by
  rw [ev]
  rcases ρ[i]? with _ | _ | _ <;> rfl
def cBin2 (o : Bop) (x : V) (y : V) (σ : St) : R V := R.of σ (vbin o (unl σ x) y)
def cBin (T : Tab) (cf : CF) (o : Bop) (b : E) (ρ : Loc) (x : V) (σ : St) : R V := (ev T cf b ρ σ).bind (cBin2 o x)
theorem e_bin (o : Bop) (a b : E) : ev T cf (.bin o a b) ρ σ = (ev T cf a ρ σ).bind (cBin T cf o b ρ) := by rw [ev]; rfl
def cInv : V → St → R V
  | .int i, σ => .ok (.int (-i - 1)) σ
  | _, _ => .bad
theorem e_inv (a : E) : ev T cf (.inv a) ρ σ = (ev T cf a ρ σ).bind cInv := by
  rw [ev]; congr 1 <;> (funext x σ; cases x <;> rfl)
theorem cInv_i (i : Int) (σ : St) : cInv (.int i) σ = .ok (.int (-i - 1)) σ := rfl
def cCmp2 (T : Tab) (o : Cop) (x : V) (y : V) (σ : St) : R V := R.of σ ((vcmp T o x y).map .bool)
def cCmp (T : Tab) (cf : CF) (o : Cop) (b : E) (ρ : Loc) (x : V) (σ : St) : R V := (ev T cf b ρ σ).bind (cCmp2 T o x)
theorem e_cmp (o : Cop) (a b : E) : ev T cf (.cmp o a b) ρ σ = (ev T cf a ρ σ).bind (cCmp T cf o b ρ) := by rw [ev]; rfl
theorem e_and (es : Es) : ev T cf (.and_ es) ρ σ = evAnd T cf es ρ σ := by rw [ev]
theorem e_or (es : Es) : ev T cf (.or_ es) ρ σ = evOr T cf es ρ σ := by rw [ev]
def cNot (x : V) (σ : St) : R V := R.of σ ((vtruth x).map fun b => .bool (!b))
theorem e_not (a : E) : ev T cf (.not_ a) ρ σ = (ev T cf a ρ σ).bind cNot := by rw [ev]; rfl
def cIte (T : Tab) (cf : CF) (a b : E) (ρ : Loc) : Bool → St → R V
  | true, σ => ev T cf a ρ σ
  | false, σ => ev T cf b ρ σ
theorem e_ite (c a b : E) : ev T cf (.ite c a b) ρ σ = (evT T cf c ρ σ).bind (cIte T cf a b ρ) := by
  rw [ev]; congr 1 <;> (funext t σ; cases t <;> rfl)
theorem cIte_t (a b : E) (ρ : Loc) (σ : St) : cIte T cf a b ρ true σ = ev T cf a ρ σ := rfl
theorem cIte_f (a b : E) (ρ : Loc) (σ : St) : cIte T cf a b ρ false σ = ev T cf b ρ σ := rfl
def cTup (vs : List V) (σ : St) : R V := .ok (.tup vs) σ
def cLst (vs : List V) (σ : St) : R V := .ok (.lst vs) σ
theorem e_tup (es : Es) : ev T cf (.tup es) ρ σ = (evs T cf es ρ σ).bind cTup := by rw [ev]; rfl
theorem e_lst (es : Es) : ev T cf (.lst es) ρ σ = (evs T cf es ρ σ).bind cLst := by rw [ev]; rfl
def cIdx2 (x y : V) (σ : St) : R V := R.of σ (vidx σ x y)
def cIdx (T : Tab) (cf : CF) (i : E) (ρ : Loc) (x : V) (σ : St) : R V := (ev T cf i ρ σ).bind (cIdx2 x)
theorem e_idx (a i : E) : ev T cf (.idx a i) ρ σ = (ev T cf a ρ σ).bind (cIdx T cf i ρ) := by rw [ev]; rfl
def cSli3 (x y z : V) (σ : St) : R V := R.of σ (vslice x y z)
def cSli2 (T : Tab) (cf : CF) (hi : E) (ρ : Loc) (x y : V) (σ : St) : R V := (ev T cf hi ρ σ).bind (cSli3 x y)
def cSli (T : Tab) (cf : CF) (lo hi : E) (ρ : Loc) (x : V) (σ : St) : R V := (ev T cf lo ρ σ).bind (cSli2 T cf hi ρ x)
theorem e_sli (a lo hi : E) : ev T cf (.sli a lo hi) ρ σ = (ev T cf a ρ σ).bind (cSli T cf lo hi ρ) := by rw [ev]; rfl
def cAttr (T : Tab) (k : Nat) (x : V) (σ : St) : R V := R.of σ (getA T σ k x)
theorem e_attr (a : E) (k : Nat) : ev T cf (.attr a k) ρ σ = (ev T cf a ρ σ).bind (cAttr T k) := by rw [ev]; rfl
def cHas (T : Tab) (k : Nat) (x : V) (σ : St) : R V := R.of σ ((hasA T k x).map .bool)
theorem e_has (a : E) (k : Nat) : ev T cf (.has a k) ρ σ = (ev T cf a ρ σ).bind (cHas T k) := by rw [ev]; rfl
def cClsOf (T : Tab) (x : V) (σ : St) : R V := R.of σ (clsA T σ x)
theorem e_clsOf (a : E) : ev T cf (.clsOf a) ρ σ = (ev T cf a ρ σ).bind (cClsOf T) := by rw [ev]; rfl
def cNameOf (T : Tab) (x : V) (σ : St) : R V := R.of σ (nameA T x)
theorem e_nameOf (a : E) : ev T cf (.nameOf a) ρ σ = (ev T cf a ρ σ).bind (cNameOf T) := by rw [ev]; rfl
def cCall (T : Tab) (cf : CF) (es : Es) (ρ : Loc) (x : V) (σ : St) : R V := (evs T cf es ρ σ).bind (callV T cf x)
theorem e_call (f : E) (es : Es) : ev T cf (.call f es) ρ σ = (ev T cf f ρ σ).bind (cCall T cf es ρ) := by rw [ev]; rfl
def cMeth3 (cf : CF) (f : Nat) (self : V) (kw : List Nat) (as kvs : List V) (σ : St) : R V := cf f (self :: as) (kw.zip kvs) σ
def cMeth2 (T : Tab) (cf : CF) (f : Nat) (self : V) (kw : List Nat) (vs : Es) (ρ : Loc) (as : List V) (σ : St) : R V := (evs T cf vs ρ σ).bind (cMeth3 cf f self kw as)
def cMeth1 (T : Tab) (cf : CF) (es : Es) (kw : List Nat) (vs : Es) (ρ : Loc) (σ : St) : Option (Nat × V) → R V
  | some (f, self) => (evs T cf es ρ σ).bind (cMeth2 T cf f self kw vs ρ)
  | none => .bad
theorem cMeth1_s (es : Es) (kw : List Nat) (vs : Es) (ρ : Loc) (σ : St) (f : Nat) (self : V) : cMeth1 T cf es kw vs ρ σ (some (f, self)) = (evs T cf es ρ σ).bind (cMeth2 T cf f self kw vs ρ) := rfl
def cMeth (T : Tab) (cf : CF) (k : Nat) (es : Es) (kw : List Nat) (vs : Es) (ρ : Loc) (x : V) (σ : St) : R V := cMeth1 T cf es kw vs ρ σ (findM T σ k x)
theorem e_meth (o : E) (k : Nat) (es : Es) (kw : List Nat) (vs : Es) : ev T cf (.meth o k es kw vs) ρ σ = (ev T cf o ρ σ).bind (cMeth T cf k es kw vs ρ) := by
  rw [ev]; congr 1
def cLen (T : Tab) (σ : St) (v : V) : Option (R V) → R V
  | some r => r
  | none => vblt T σ .len [v]
def cBlt (T : Tab) (cf : CF) (b : Bl) (vs : List V) (σ : St) : R V := match b, vs with
    | .len, [v] => cLen T σ v (lenObj T cf σ v)
    | b, vs => vblt T σ b vs
theorem e_blt (b : Bl) (es : Es) : ev T cf (.blt b es) ρ σ = (evs T cf es ρ σ).bind (cBlt T cf b) := by
  rw [ev]; congr 1
theorem k_len (v : V) (σ : St) : cBlt T cf .len [v] σ = cLen T σ v (lenObj T cf σ v) := rfl
theorem k_blt (b : Bl) (vs : List V) (σ : St) (h : b ≠ .len) : cBlt T cf b vs σ = vblt T σ b vs := by
  cases b <;> first | rfl | exact absurd rfl h
def cBltQ (T : Tab) (b : Bl) (vs : List V) (σ : St) : R V := vblt T σ b vs
theorem e_bltQ (b : Bl) (es : Es) : ev T cf (.bltQ b es) ρ σ = (evs T cf es ρ σ).bind (cBltQ T b) := by rw [ev]; rfl
def compF (T : Tab) (cf : CF) (elt : E) (ρ : Loc) (v : V) (σ : St) : R V := ev T cf elt (ρ ++ [some v]) σ
def compP (T : Tab) (cf : CF) (cond : Es) (ρ : Loc) (v : V) (σ : St) : R Bool := evIfs T cf cond (ρ ++ [some v]) σ
def cComp1 (T : Tab) (cf : CF) (elt : E) (cond : Es) (ρ : Loc) (σ : St) : Option (List V) → R V
  | some l => if room l.length then compL (compF T cf elt ρ) (compP T cf cond ρ) l σ [] else .bad
  | none => .bad
def cComp (T : Tab) (cf : CF) (elt : E) (cond : Es) (ρ : Loc) (x : V) (σ : St) : R V := cComp1 T cf elt cond ρ σ (srcC x)
theorem e_comp (elt s : E) (cond : Es) : ev T cf (.comp elt s cond) ρ σ = (ev T cf s ρ σ).calm.bind (cComp T cf elt cond ρ) := by
  rw [ev]; congr 1
theorem k_comp (elt : E) (cond : Es) (σ : St) (l : List V) (h : room l.length = true) : cComp1 T cf elt cond ρ σ (some l) = compL (compF T cf elt ρ) (compP T cf cond ρ) l σ [] := by
  show (if _ then _ else _) = _
  rw [if_pos h]
def cEvs2 (v : V) (vs : List V) (σ : St) : R (List V) := .ok (v :: vs) σ
def cEvs (T : Tab) (cf : CF) (r : Es) (ρ : Loc) (v : V) (σ : St) : R (List V) := (evs T cf r ρ σ).bind (cEvs2 v)
theorem s_nil : evs T cf .nil ρ σ = .ok [] σ := by rw [evs]
theorem s_cons (e : E) (r : Es) : evs T cf (.cons e r) ρ σ = (ev T cf e ρ σ).bind (cEvs T cf r ρ) := by rw [evs]; rfl
def cAnd1 (T : Tab) (cf : CF) (r : Es) (ρ : Loc) (v : V) (σ : St) : Option Bool → R V
  | some true => evAnd T cf r ρ σ
  | some false => .ok v σ
  | none => .bad
def cAnd (T : Tab) (cf : CF) (r : Es) (ρ : Loc) (v : V) (σ : St) : R V := cAnd1 T cf r ρ v σ (vtruth v)
theorem k_andt (r : Es) (v : V) : cAnd1 T cf r ρ v σ (some true) = evAnd T cf r ρ σ := rfl
theorem k_andf (r : Es) (v : V) : cAnd1 T cf r ρ v σ (some false) = .ok v σ := rfl
theorem a_one (e : E) : evAnd T cf (.cons e .nil) ρ σ = ev T cf e ρ σ := by rw [evAnd]
theorem a_cons (e e2 : E) (r : Es) : evAnd T cf (.cons e (.cons e2 r)) ρ σ = (ev T cf e ρ σ).bind (cAnd T cf (.cons e2 r) ρ) := by
  rw [evAnd]
  · congr 1
  · intro h; cases h
def cOr1 (T : Tab) (cf : CF) (r : Es) (ρ : Loc) (v : V) (σ : St) : Option Bool → R V
  | some false => evOr T cf r ρ σ
  | some true => .ok v σ
  | none => .bad
def cOr (T : Tab) (cf : CF) (r : Es) (ρ : Loc) (v : V) (σ : St) : R V := cOr1 T cf r ρ v σ (vtruth v)
theorem k_ort (r : Es) (v : V) : cOr1 T cf r ρ v σ (some true) = .ok v σ := rfl
theorem k_orf (r : Es) (v : V) : cOr1 T cf r ρ v σ (some false) = evOr T cf r ρ σ := rfl
theorem r_one (e : E) : evOr T cf (.cons e .nil) ρ σ = ev T cf e ρ σ := by rw [evOr]
theorem r_cons (e e2 : E) (r : Es) : evOr T cf (.cons e (.cons e2 r)) ρ σ = (ev T cf e ρ σ).bind (cOr T cf (.cons e2 r) ρ) := by
  rw [evOr]
  · congr 1
  · intro h; cases h
/-! tests -/
def cTru (v : V) (σ : St) : R Bool := R.of σ (vtruth v)
def cTNot (b : Bool) (σ : St) : R Bool := .ok (!b) σ
theorem t_not (a : E) : evT T cf (.not_ a) ρ σ = (evT T cf a ρ σ).bind cTNot := by rw [evT]; rfl
theorem t_and (es : Es) : evT T cf (.and_ es) ρ σ = evTAnd T cf es ρ σ := by rw [evT]
theorem t_or (es : Es) : evT T cf (.or_ es) ρ σ = evTOr T cf es ρ σ := by rw [evT]
def cTIte (T : Tab) (cf : CF) (a b : E) (ρ : Loc) : Bool → St → R Bool
  | true, σ => evT T cf a ρ σ
  | false, σ => evT T cf b ρ σ
theorem t_ite (c a b : E) : evT T cf (.ite c a b) ρ σ = (evT T cf c ρ σ).bind (cTIte T cf a b ρ) := by
  rw [evT]; congr 1 <;> (funext t σ; cases t <;> rfl)
theorem t_lit (v : V) : evT T cf (.lit v) ρ σ = (ev T cf (.lit v) ρ σ).bind cTru := by rw [evT] <;> first | rfl | (intros; rename_i h; cases h)
theorem t_loc (i : Nat) : evT T cf (.loc i) ρ σ = (ev T cf (.loc i) ρ σ).bind cTru := by rw [evT] <;> first | rfl | (intros; rename_i h; cases h)
theorem t_cmp (o : Cop) (a b : E) : evT T cf (.cmp o a b) ρ σ = (ev T cf (.cmp o a b) ρ σ).bind cTru := by rw [evT] <;> first | rfl | (intros; rename_i h; cases h)
theorem t_attr (a : E) (k : Nat) : evT T cf (.attr a k) ρ σ = (ev T cf (.attr a k) ρ σ).bind cTru := by rw [evT] <;> first | rfl | (intros; rename_i h; cases h)
theorem t_has (a : E) (k : Nat) : evT T cf (.has a k) ρ σ = (ev T cf (.has a k) ρ σ).bind cTru := by rw [evT] <;> first | rfl | (intros; rename_i h; cases h)
theorem t_idx (a k : E) : evT T cf (.idx a k) ρ σ = (ev T cf (.idx a k) ρ σ).bind cTru := by rw [evT] <;> first | rfl | (intros; rename_i h; cases h)
theorem t_blt (b : Bl) (es : Es) : evT T cf (.blt b es) ρ σ = (ev T cf (.blt b es) ρ σ).bind cTru := by rw [evT] <;> first | rfl | (intros; rename_i h; cases h)
theorem t_call (b : E) (es : Es) : evT T cf (.call b es) ρ σ = (ev T cf (.call b es) ρ σ).bind cTru := by rw [evT] <;> first | rfl | (intros; rename_i h; cases h)
theorem t_meth (o : E) (k : Nat) (es : Es) (kw : List Nat) (vs : Es) : evT T cf (.meth o k es kw vs) ρ σ = (ev T cf (.meth o k es kw vs) ρ σ).bind cTru := by rw [evT] <;> first | rfl | (intros; rename_i h; cases h)
def cTAnd (T : Tab) (cf : CF) (r : Es) (ρ : Loc) : Bool → St → R Bool
  | true, σ => evTAnd T cf r ρ σ
  | false, σ => .ok false σ
theorem ta_nil : evTAnd T cf .nil ρ σ = .ok true σ := by rw [evTAnd]
theorem ta_cons (e : E) (r : Es) : evTAnd T cf (.cons e r) ρ σ = (evT T cf e ρ σ).bind (cTAnd T cf r ρ) := by
  rw [evTAnd]; congr 1 <;> (funext t σ; cases t <;> rfl)
theorem cTAnd_t (r : Es) : cTAnd T cf r ρ true σ = evTAnd T cf r ρ σ := rfl
theorem cTAnd_f (r : Es) : cTAnd T cf r ρ false σ = .ok false σ := rfl
def cTOr (T : Tab) (cf : CF) (r : Es) (ρ : Loc) : Bool → St → R Bool
  | false, σ => evTOr T cf r ρ σ
  | true, σ => .ok true σ
theorem to_nil : evTOr T cf .nil ρ σ = .ok false σ := by rw [evTOr]
theorem to_cons (e : E) (r : Es) : evTOr T cf (.cons e r) ρ σ = (evT T cf e ρ σ).bind (cTOr T cf r ρ) := by
  rw [evTOr]; congr 1 <;> (funext t σ; cases t <;> rfl)
theorem cTOr_t (r : Es) : cTOr T cf r ρ true σ = .ok true σ := rfl
theorem cTOr_f (r : Es) : cTOr T cf r ρ false σ = evTOr T cf r ρ σ := rfl
theorem cTIte_t (a b : E) : cTIte T cf a b ρ true σ = evT T cf a ρ σ := rfl
theorem cTIte_f (a b : E) : cTIte T cf a b ρ false σ = evT T cf b ρ σ := rfl
theorem ti_nil : evIfs T cf .nil ρ σ = .ok true σ := by rw [evIfs]
def cTIf (T : Tab) (cf : CF) (r : Es) (ρ : Loc) : Bool → St → R Bool
  | true, σ => evIfs T cf r ρ σ
  | false, σ => .ok false σ
theorem ti_cons (e : E) (r : Es) : evIfs T cf (.cons e r) ρ σ = (evT T cf e ρ σ).bind (cTIf T cf r ρ) := by
  rw [evIfs]; congr 1 <;> (funext t σ; cases t <;> rfl)
theorem cTIf_t (r : Es) : cTIf T cf r ρ true σ = evIfs T cf r ρ σ := rfl
theorem cTIf_f (r : Es) : cTIf T cf r ρ false σ = .ok false σ := rfl
/-! statements -/
def cAsg (t : Tg) (ρ : Loc) (v : V) (σ : St) : R (Fl × Loc) := R.of σ ((setT t v ρ).map fun ρ => (.next, ρ))
theorem x_asg (t : Tg) (e : E) : ex T cf (.asg t e) ρ σ = (ev T cf e ρ σ).bind (cAsg t ρ) := by rw [ex]; rfl
theorem k_asg1 (i : Nat) (v : V) (σ : St) : cAsg (.one i) ρ v σ = .ok (.next, ρ.set i (some v)) σ := rfl
def cMls (i : Nat) (ρ : Loc) (vs : List V) (σ : St) : R (Fl × Loc) := .ok (.next, ρ.set i (some (.obj σ.length))) (σ ++ [.mls vs])
theorem x_mls (i : Nat) (es : Es) : ex T cf (.mls i es) ρ σ = (evs T cf es ρ σ).bind (cMls i ρ) := by rw [ex]; rfl
def okSt (ρ : Loc) : Option St → R (Fl × Loc)
  | some σ => .ok (.next, ρ) σ
  | none => .bad
theorem okSt_s (σ : St) : okSt ρ (some σ) = .ok (.next, ρ) σ := rfl
def cSetA2 (T : Tab) (k : Nat) (ρ : Loc) (v x : V) (σ : St) : R (Fl × Loc) := okSt ρ (setAttrV T σ x k v)
def cSetA (T : Tab) (cf : CF) (o : E) (k : Nat) (ρ : Loc) (v : V) (σ : St) : R (Fl × Loc) := (ev T cf o ρ σ).bind (cSetA2 T k ρ v)
theorem x_setA (o : E) (k : Nat) (e : E) : ex T cf (.setA o k e) ρ σ = (ev T cf e ρ σ).bind (cSetA T cf o k ρ) := by
  rw [ex]; congr 1
def cSetI3 (ρ : Loc) (v x y : V) (σ : St) : R (Fl × Loc) := okSt ρ (setItemV σ x y v)
def cSetI2 (T : Tab) (cf : CF) (i : E) (ρ : Loc) (v x : V) (σ : St) : R (Fl × Loc) := (ev T cf i ρ σ).bind (cSetI3 ρ v x)
def cSetI (T : Tab) (cf : CF) (o i : E) (ρ : Loc) (v : V) (σ : St) : R (Fl × Loc) := (ev T cf o ρ σ).bind (cSetI2 T cf i ρ v)
theorem x_setI (o i e : E) : ex T cf (.setI o i e) ρ σ = (ev T cf e ρ σ).bind (cSetI T cf o i ρ) := by
  rw [ex]; congr 1
def cAug2 (i : Nat) (op : Bop) (ρ : Loc) (x y : V) (σ : St) : R (Fl × Loc) := R.of σ ((vaug op x y).map fun v => (.next, ρ.set i (some v)))
def cAug (T : Tab) (cf : CF) (i : Nat) (op : Bop) (e : E) (ρ : Loc) (σ : St) : Option (Option V) → R (Fl × Loc)
  | some (some x) => (ev T cf e ρ σ).bind (cAug2 i op ρ x)
  | _ => .bad
theorem x_aug (i : Nat) (op : Bop) (e : E) : ex T cf (.aug i op e) ρ σ = cAug T cf i op e ρ σ (ρ[i]?) := by
  rw [ex]
  rcases ρ[i]? with _ | _ | _ <;> rfl
theorem cAug_s (i : Nat) (op : Bop) (e : E) (x : V) : cAug T cf i op e ρ σ (some (some x)) = (ev T cf e ρ σ).bind (cAug2 i op ρ x) := rfl
def cApp2 (ρ : Loc) (x v : V) (σ : St) : R (Fl × Loc) := okSt ρ (appendV σ x v)
def cApp (T : Tab) (cf : CF) (e : E) (ρ : Loc) (x : V) (σ : St) : R (Fl × Loc) := if isMls σ x then (ev T cf e ρ σ).bind (cApp2 ρ x) else .bad
theorem x_app (o e : E) : ex T cf (.app o e) ρ σ = (ev T cf o ρ σ).bind (cApp T cf e ρ) := by
  rw [ex]; congr 1
def cRet (ρ : Loc) (v : V) (σ : St) : R (Fl × Loc) := .ok (.ret v, ρ) σ
theorem x_ret (e : E) : ex T cf (.ret e) ρ σ = (ev T cf e ρ σ).bind (cRet ρ) := by rw [ex]; rfl
def cIf (T : Tab) (cf : CF) (a b : Ss) (ρ : Loc) : Bool → St → R (Fl × Loc)
  | true, σ => exs T cf a ρ σ
  | false, σ => exs T cf b ρ σ
theorem x_ite (c : E) (a b : Ss) : ex T cf (.ite c a b) ρ σ = (evT T cf c ρ σ).bind (cIf T cf a b ρ) := by
  rw [ex]; congr 1 <;> (funext t σ; cases t <;> rfl)
theorem cIf_t (a b : Ss) : cIf T cf a b ρ true σ = exs T cf a ρ σ := rfl
theorem cIf_f (a b : Ss) : cIf T cf a b ρ false σ = exs T cf b ρ σ := rfl
def cFor1 (T : Tab) (cf : CF) (t : Tg) (body : Ss) (ρ : Loc) (σ : St) : Option (List V) → R (Fl × Loc)
  | some l => if room l.length then forL (bodyF T cf t body) l ρ σ else .bad
  | none => .bad
def cForM (T : Tab) (cf : CF) (t : Tg) (body : Ss) (o : Nat) (ρ : Loc) (σ : St) : Option AO → R (Fl × Loc)
  | some (.mls l) => forM (bodyF T cf t body) o (l.length + 1) 0 ρ σ
  | _ => .bad
def cFor (T : Tab) (cf : CF) (t : Tg) (body : Ss) (ρ : Loc) (x : V) (σ : St) : R (Fl × Loc) := match x with
  | .obj o => cForM T cf t body o ρ σ (σ[o]?)
  | x => cFor1 T cf t body ρ σ (src x)
theorem x_for (t : Tg) (e : E) (body : Ss) : ex T cf (.for_ t e body) ρ σ = (ev T cf e ρ σ).bind (cFor T cf t body ρ) := by
  rw [ex]; congr 1
theorem k_for_lst (t : Tg) (body : Ss) (l : List V) (h : room l.length = true) : cFor T cf t body ρ (.lst l) σ = forL (bodyF T cf t body) l ρ σ := by
  show (if _ then _ else _) = _
  rw [if_pos h]
theorem k_for_tup (t : Tg) (body : Ss) (l : List V) (h : room l.length = true) : cFor T cf t body ρ (.tup l) σ = forL (bodyF T cf t body) l ρ σ := by
  show (if _ then _ else _) = _
  rw [if_pos h]
theorem k_for_rng (t : Tg) (body : Ss) (lo hi : Int) (h : room ((span lo hi).map V.int).length = true) : cFor T cf t body ρ (.rng lo hi) σ = forL (bodyF T cf t body) ((span lo hi).map V.int) ρ σ := by
  show (if _ then _ else _) = _
  rw [if_pos h]
theorem k_for_mls (t : Tg) (body : Ss) (o : Nat) (l : List V) (h : σ[o]? = some (.mls l)) : cFor T cf t body ρ (.obj o) σ = forM (bodyF T cf t body) o (l.length + 1) 0 ρ σ := by
  show cForM _ _ _ _ _ _ _ _ = _
  rw [h]; rfl
theorem body_one (i : Nat) (body : Ss) (v : V) : bodyF T cf (.one i) body v ρ σ = exs T cf body (ρ.set i (some v)) σ := rfl
def cCatch (ρ : Loc) (σ : St) : Option V → R (Fl × Loc)
  | some v => .ok (.ret v, ρ) σ
  | none => .bad
def cTry (ρ : Loc) (hs : List (Hk × V)) : R (Fl × Loc) → R (Fl × Loc)
  | .ok q σ => .ok q σ
  | .exc x σ => cCatch ρ σ (caught x hs)
  | .bad => .bad
theorem x_try (body : Ss) (hs : List (Hk × V)) : ex T cf (.try_ body hs) ρ σ = cTry ρ hs (exs T cf body ρ σ) := by
  rw [ex]
  rcases exs T cf body ρ σ with _ | ⟨x, _⟩ | _
  · rfl
  · show _ = cCatch _ _ (caught x hs)
    dsimp only
    rcases caught x hs with _ | _ <;> rfl
  · rfl
theorem cTry_ok (hs : List (Hk × V)) (q : Fl × Loc) : cTry ρ hs (.ok q σ) = .ok q σ := rfl
theorem cTry_exc (hs : List (Hk × V)) (x : X) : cTry ρ hs (.exc x σ) = cCatch ρ σ (caught x hs) := rfl
theorem cCatch_s (v : V) : cCatch ρ σ (some v) = .ok (.ret v, ρ) σ := rfl
def cRaise (x : X) : V → St → R (Fl × Loc)
  | .str _, σ => .exc x σ
  | .txt, σ => .exc x σ
  | _, _ => .bad
theorem x_raise (x : X) (e : E) : ex T cf (.raise x e) ρ σ = (ev T cf e ρ σ).bind (cRaise x) := by
  rw [ex]; congr 1 <;> (funext v σ; cases v <;> rfl)
theorem cRaise_s (x : X) (s : PySem.Str) : cRaise x (.str s) σ = .exc x σ := rfl
theorem cRaise_t (x : X) : cRaise x .txt σ = .exc x σ := rfl
def cAsrt (ρ : Loc) : Bool → St → R (Fl × Loc)
  | true, σ => .ok (.next, ρ) σ
  | false, _ => .bad
theorem x_asrt (c : E) : ex T cf (.asrt c) ρ σ = (evT T cf c ρ σ).bind (cAsrt ρ) := by
  rw [ex]; congr 1 <;> (funext t σ; cases t <;> rfl)
theorem cAsrt_t : cAsrt ρ true σ = .ok (.next, ρ) σ := rfl
theorem x_cont : ex T cf .cont ρ σ = .ok (.cont, ρ) σ := by rw [ex]
def cSeq (T : Tab) (cf : CF) (r : Ss) (q : Fl × Loc) (σ : St) : R (Fl × Loc) := match q with
    | (.next, ρ) => exs T cf r ρ σ
    | q => .ok q σ
theorem xs_nil : exs T cf .nil ρ σ = .ok (.next, ρ) σ := by rw [exs]
theorem xs_cons (s : S) (r : Ss) : exs T cf (.cons s r) ρ σ = (ex T cf s ρ σ).bind (cSeq T cf r) := by
  rw [exs]; congr 1
theorem q_next (r : Ss) : cSeq T cf r (.next, ρ) σ = exs T cf r ρ σ := rfl
theorem q_cont (r : Ss) : cSeq T cf r (.cont, ρ) σ = .ok (.cont, ρ) σ := rfl
theorem q_ret (r : Ss) (v : V) : cSeq T cf r (.ret v, ρ) σ = .ok (.ret v, ρ) σ := rfl
/-! calls -/
def cFin : Fl × Loc → St → R V
  | (.ret v, _), σ => .ok v σ
  | (.next, _), σ => .ok .none σ
  | (.cont, _), _ => .bad
theorem f_ret (v : V) : cFin (.ret v, ρ) σ = .ok v σ := rfl
theorem f_next : cFin (.next, ρ) σ = .ok .none σ := rfl
def run (T : Tab) (n : Nat) (F : Fn) (σ : St) : Option Loc → R V
  | some ρ => ((exs T (callN T n) F.body (ρ ++ List.replicate (F.nl - ρ.length) none) σ).bind cFin).out
  | none => .bad
theorem run_s (n : Nat) (F : Fn) : run T n F σ (some ρ) = ((exs T (callN T n) F.body (ρ ++ List.replicate (F.nl - ρ.length) none) σ).bind cFin).out := rfl
theorem open_ {a : Nat} {F : Fn} (h : T.fn a = some F) (n : Nat) (as : List V) (kw : List (Nat × V)) (σ : St) : callN T (n+1) a as kw σ = run T n F σ (bindK F.ps as kw) := by
  rw [callN, h]
  dsimp only
  unfold run
  rcases bindK F.ps as kw with _ | ρ
  · rfl
  · dsimp only
    congr 2
    funext q σ
    obtain ⟨f, ρ⟩ := q
    cases f <;> rfl
def cNew (i : Nat) (r : V) (σ : St) : R V := match r with
  | .none => .ok (.obj i) σ
  | _ => .bad
theorem cNew_n (i : Nat) : cNew i .none σ = .ok (.obj i) σ := rfl
theorem call_new {a i : Nat} {c : Cl} (h1 : T.fn a = none) (h2 : T.cl a = some c) (h3 : c.init = some i) (as : List V) : callV T cf (.cls a) as σ = (cf i (.obj σ.length :: as) [] (σ ++ [.inst a []])).bind (cNew σ.length) := by
  unfold callV
  simp only [h1, h2, h3]
  congr 1
theorem call_fn {a : Nat} {F : Fn} (h1 : T.fn a = some F) (as : List V) : callV T cf (.cls a) as σ = cf a as [] σ := by
  unfold callV
  simp only [h1]
theorem get_last {α : Type} (σ : List α) (x : α) : (σ ++ [x])[σ.length]? = some x := by simp
theorem set_last {α : Type} (σ : List α) (x y : α) : (σ ++ [x]).set σ.length y = σ ++ [y] := by simp
theorem get_old {α : Type} {σ : List α} {i : Nat} {x y : α} (h : σ[i]? = some x) : (σ ++ [y])[i]? = some x := by
  rw [List.getElem?_append_left (List.getElem?_eq_some_iff.mp h).1]; exact h
theorem bk_nil (ps : List (Nat × Option V)) (as : List V) : bindK ps as [] = bindGo ps as [] := by
  simp [bindK, kwFit, nodupN]
end
end Mine

namespace Mine
open PySem
theorem k_len0 (σ : St) (v : V) : cLen T σ v none = vblt T σ .len [v] := rfl
theorem k_len1 (σ : St) (v : V) (r : R V) : cLen T σ v (some r) = r := rfl
theorem len_b (σ : St) (l : List Int) (h : l.length ≤ 1000) : vblt T σ .len [.bytes l] = .ok (.int l.length) σ := by
  simp [vblt, room]; omega
theorem len_l (σ : St) (l : List V) (h : l.length ≤ 1000) : vblt T σ .len [.lst l] = .ok (.int l.length) σ := by
  simp [vblt, room]; omega
theorem len_t (σ : St) (l : List V) (h : l.length ≤ 1000) : vblt T σ .len [.tup l] = .ok (.int l.length) σ := by
  simp [vblt, room]; omega
theorem lo_b (cf : CF) (σ : St) (l : List Int) : lenObj T cf σ (.bytes l) = none := rfl
theorem lo_l (cf : CF) (σ : St) (l : List V) : lenObj T cf σ (.lst l) = none := rfl
theorem lo_t (cf : CF) (σ : St) (l : List V) : lenObj T cf σ (.tup l) = none := rfl
theorem w_int (σ : St) (i : Int) : vblt T σ .int [.int i] = .ok (.int i) σ := rfl
theorem w_isinst (σ : St) (a b : V) : vblt T σ .isinst [a, b] = R.of σ ((vinst T σ a b).map .bool) := rfl
theorem w_bytes (σ : St) (a : V) : vblt T σ .bytes [a] = R.of σ (vbytes a) := rfl
theorem w_list (σ : St) (a : V) : vblt T σ .list [a] = R.of σ (vlist a) := rfl
theorem w_str (σ : St) (i : Int) (h : small i = true) : vblt T σ .str [.int i] = .ok (.str (intText i)) σ := by
  show (if _ then _ else _) = _
  rw [if_pos h]
theorem w_issub {a b : Nat} {c d : Cl} (σ : St) (h1 : T.cl a = some c) (h2 : T.cl b = some d) : vblt T σ .issub [.cls a, .cls b] = .ok (.bool (c.mro.contains b)) σ := by
  simp only [vblt, h1, h2]
theorem roomL (n : Nat) (h : n ≤ 1000) : room n = true := by simp [room]; omega
theorem vb_add (a b : Int) : vbin .add (.int a) (.int b) = some (.int (a + b)) := rfl
theorem vb_sub (a b : Int) : vbin .sub (.int a) (.int b) = some (.int (a - b)) := rfl
theorem vb_mul (a b : Int) : vbin .mul (.int a) (.int b) = if small a then some (.int (a * b)) else none := rfl
theorem vb_fdiv (a b : Int) : vbin .fdiv (.int a) (.int b) = if !decide (b = 0) && decide (-1000000 ≤ b) && decide (b ≤ 1000000) then some (.int (Int.fdiv a b)) else none := rfl
theorem vb_mod (a b : Int) : vbin .mod (.int a) (.int b) = if !decide (b = 0) then some (.int (Int.fmod a b)) else none := rfl
theorem vb_bor (a b : Int) : vbin .bor (.int a) (.int b) = some (.int (Builtin.bitOr a b)) := rfl
theorem vb_band (a b : Int) : vbin .band (.int a) (.int b) = some (.int (Builtin.bitAnd a b)) := rfl
theorem vb_lst (a b : List V) : vbin .add (.lst a) (.lst b) = if room (a.length + b.length) then some (.lst (a ++ b)) else none := rfl
theorem vb_byt (a b : List Int) : vbin .add (.bytes a) (.bytes b) = if room (a.length + b.length) then some (.bytes (a ++ b)) else none := rfl
theorem vb_str (f n : Str) : vbin .mod (.str f) (.str n) = if fmtS f && decide (n.length ≤ 1000000) then some .txt else none := rfl
theorem vi_b_bool (σ : St) (b : Bool) : vinst T σ (.bool b) (.typ "bool") = some true := by rfl
theorem vi_b_int (σ : St) (b : Bool) : vinst T σ (.bool b) (.typ "int") = some true := by rfl
theorem vi_b_str (σ : St) (b : Bool) : vinst T σ (.bool b) (.typ "str") = some false := by rfl
theorem vi_b_bytes (σ : St) (b : Bool) : vinst T σ (.bool b) (.typ "bytes") = some false := by rfl
theorem vi_b_type (σ : St) (b : Bool) : vinst T σ (.bool b) (.typ "type") = some false := by rfl
theorem vi_i_bool (σ : St) (i : Int) : vinst T σ (.int i) (.typ "bool") = some false := by rfl
theorem vi_i_int (σ : St) (i : Int) : vinst T σ (.int i) (.typ "int") = some true := by rfl
theorem vi_i_str (σ : St) (i : Int) : vinst T σ (.int i) (.typ "str") = some false := by rfl
theorem vi_i_bytes (σ : St) (i : Int) : vinst T σ (.int i) (.typ "bytes") = some false := by rfl
theorem vi_i_type (σ : St) (i : Int) : vinst T σ (.int i) (.typ "type") = some false := by rfl
theorem vi_s_bool (σ : St) (s : Str) : vinst T σ (.str s) (.typ "bool") = some false := by rfl
theorem vi_s_int (σ : St) (s : Str) : vinst T σ (.str s) (.typ "int") = some false := by rfl
theorem vi_s_str (σ : St) (s : Str) : vinst T σ (.str s) (.typ "str") = some true := by rfl
theorem vi_s_bytes (σ : St) (s : Str) : vinst T σ (.str s) (.typ "bytes") = some false := by rfl
theorem vi_s_type (σ : St) (s : Str) : vinst T σ (.str s) (.typ "type") = some false := by rfl
theorem vi_y_bool (σ : St) (s : List Int) : vinst T σ (.bytes s) (.typ "bool") = some false := by rfl
theorem vi_y_int (σ : St) (s : List Int) : vinst T σ (.bytes s) (.typ "int") = some false := by rfl
theorem vi_y_str (σ : St) (s : List Int) : vinst T σ (.bytes s) (.typ "str") = some false := by rfl
theorem vi_y_bytes (σ : St) (s : List Int) : vinst T σ (.bytes s) (.typ "bytes") = some true := by rfl
theorem vi_y_type (σ : St) (s : List Int) : vinst T σ (.bytes s) (.typ "type") = some false := by rfl
theorem vi_n_bool (σ : St)  : vinst T σ .none (.typ "bool") = some false := by rfl
theorem vi_n_int (σ : St)  : vinst T σ .none (.typ "int") = some false := by rfl
theorem vi_n_str (σ : St)  : vinst T σ .none (.typ "str") = some false := by rfl
theorem vi_n_bytes (σ : St)  : vinst T σ .none (.typ "bytes") = some false := by rfl
theorem vi_n_type (σ : St)  : vinst T σ .none (.typ "type") = some false := by rfl
theorem q_nn : veq .none .none = some true := rfl
theorem q_bb (a b : Bool) : veq (.bool a) (.bool b) = some (a == b) := rfl
theorem q_ii (a b : Int) : veq (.int a) (.int b) = some (decide (a = b)) := rfl
theorem q_ss (a b : Str) : veq (.str a) (.str b) = some (a == b) := rfl
theorem q_yy (a b : List Int) : veq (.bytes a) (.bytes b) = some (decide (a = b)) := rfl
theorem q_ni (b : Int) : veq .none (.int b) = some false := rfl
theorem q_in (b : Int) : veq (.int b) .none = some false := rfl
theorem q_nb (b : Bool) : veq .none (.bool b) = some false := rfl
theorem q_bn (b : Bool) : veq (.bool b) .none = some false := rfl
theorem q_sy (a : Str) (b : List Int) : veq (.str a) (.bytes b) = some false := rfl
theorem q_ys (a : Str) (b : List Int) : veq (.bytes b) (.str a) = some false := rfl
theorem q_ny (b : List Int) : veq .none (.bytes b) = some false := rfl
theorem q_yn (b : List Int) : veq (.bytes b) .none = some false := rfl
theorem q_tt (a b : List V) : veq (.tup a) (.tup b) = veqs a b := rfl
theorem q_ts (a : Str) (b : List V) : veq (.tup b) (.str a) = some false := rfl
theorem q_st (a : Str) (b : List V) : veq (.str a) (.tup b) = some false := rfl
theorem ibeq (a b : Int) : (a == b) = decide (a = b) := rfl
inductive Sv where
  | cc | lc | td | rm
  deriving DecidableEq
def Sv.a : Sv → Nat
  | .cc => a_CommunicationControl | .lc => a_LinkControl | .td => a_TransferData | .rm => a_ReadMemoryByAddress
def Sv.id : Sv → Int
  | .cc => 40 | .lc => 135 | .td => 54 | .rm => 35
def Sv.n : Sv → Int
  | .cc => 0 | .lc => 1 | .td => 2 | .rm => 3
def Sv.sub : Sv → Bool
  | .cc => true | .lc => true | .td => false | .rm => false
def Sv.c : Sv → Cl
  | .cc => c_CommunicationControl | .lc => c_LinkControl | .td => c_TransferData | .rm => c_ReadMemoryByAddress
theorem cl_sv (v : Sv) : T.cl v.a = some v.c := by cases v <;> rfl
theorem fn_sv (v : Sv) : T.fn v.a = none := by cases v <;> rfl
theorem cl_BS : T.cl a_BaseService = some c_BaseService := by rfl
theorem cl_Res : T.cl a_Response = some c_Response := by rfl
theorem fn_Res : T.fn a_Response = none := by rfl
theorem fn_request_id : T.fn a_BaseService_request_id = some f_BaseService_request_id := by rfl
theorem fn_response_id : T.fn a_BaseService_response_id = some f_BaseService_response_id := by rfl
theorem fn_has_data : T.fn a_BaseService_has_response_data = some f_BaseService_has_response_data := by rfl
theorem fn_from_req : T.fn a_BaseService_from_request_id = some f_BaseService_from_request_id := by rfl
theorem fn_from_res : T.fn a_BaseService_from_response_id = some f_BaseService_from_response_id := by rfl
theorem fn_bs_name : T.fn a_BaseService_get_name = some f_BaseService_get_name := by rfl
theorem fn_res_init : T.fn a_Response___init__ = some f_Response___init__ := by rfl
theorem fn_res_lay : T.fn a_Response_get_payload = some f_Response_get_payload := by rfl
theorem fn_res_read : T.fn a_Response_from_payload = some f_Response_from_payload := by rfl
theorem fn_res_len : T.fn a_Response___len__ = some f_Response___len__ := by rfl
theorem fn_code_name : T.fn a_ResponseCode_get_name = some f_ResponseCode_get_name := by rfl
theorem fn_code_neg : T.fn a_ResponseCode_is_negative = some f_ResponseCode_is_negative := by rfl
/-! a service class's own methods -/
theorem m18 (v : Sv) (σ : St) : findM T σ 18 (.cls v.a) = some (a_BaseService_request_id, .cls v.a) := by cases v <;> rfl
theorem m19 (v : Sv) (σ : St) : findM T σ 19 (.cls v.a) = some (a_BaseService_response_id, .cls v.a) := by cases v <;> rfl
theorem m23 (v : Sv) (σ : St) : findM T σ 23 (.cls v.a) = some (a_BaseService_has_response_data, .cls v.a) := by cases v <;> rfl
theorem m24 (v : Sv) (σ : St) : findM T σ 24 (.cls v.a) = some (a_BaseService_get_name, .cls v.a) := by cases v <;> rfl
theorem m20 (σ : St) : findM T σ 20 (.cls a_BaseService) = some (a_BaseService_from_request_id, .cls a_BaseService) := by rfl
theorem m21 (σ : St) : findM T σ 21 (.cls a_BaseService) = some (a_BaseService_from_response_id, .cls a_BaseService) := by rfl
theorem g15 (v : Sv) (σ : St) : getA T σ 15 (.cls v.a) = some (.int v.id) := by cases v <;> rfl
theorem h17 (v : Sv) : hasA T 17 (.cls v.a) = some false := by cases v <;> rfl
theorem p_request_id (v : Sv) (n : Nat) (σ : St) : callN T (n+1) a_BaseService_request_id [.cls v.a] [] σ = .ok (.int v.id) σ := by
  rw [open_ fn_request_id]; simp [b_ok, b_exc, b_bad, o_ok, o_exc, x_v, x_p, x_vn, x_pn, c_ok, of_s, om_s, getL_s, l_0, l_s, e_lit, e_loc, cBin2, cBin, e_bin, e_inv, cInv_i, cCmp2, cCmp, e_cmp, e_and, e_or, cNot, e_not, e_ite, cIte_t, cIte_f, cTup, cLst, e_tup, e_lst, cIdx2, cIdx, e_idx, cSli3, cSli2, cSli, e_sli, cAttr, e_attr, cHas, e_has, cClsOf, e_clsOf, cNameOf, e_nameOf, cCall, e_call, cMeth3, cMeth2, cMeth1_s, cMeth, e_meth, e_blt, k_len, k_len0, k_len1, k_blt, cBltQ, e_bltQ, e_comp, cEvs2, cEvs, s_nil, s_cons, cAnd, k_andt, k_andf, a_one, a_cons, cOr, k_ort, k_orf, r_one, r_cons, cTru, cTNot, t_not, t_and, t_or, t_ite, t_lit, t_loc, t_cmp, t_attr, t_has, t_idx, t_blt, t_call, t_meth, ta_nil, ta_cons, cTAnd_t, cTAnd_f, to_nil, to_cons, cTOr_t, cTOr_f, cTIte_t, cTIte_f, ti_nil, ti_cons, cTIf_t, cTIf_f, cAsg, x_asg, setT, cMls, x_mls, okSt_s, cSetA2, cSetA, x_setA, cSetI3, cSetI2, cSetI, x_setI, cAug2, cAug_s, x_aug, cApp2, cApp, x_app, cRet, x_ret, x_ite, cIf_t, cIf_f, x_for, body_one, x_try, cTry_ok, cTry_exc, cCatch_s, caught, hit, x_raise, cRaise_s, cRaise_t, x_asrt, cAsrt_t, x_cont, xs_nil, xs_cons, q_next, q_cont, q_ret, f_ret, f_next, run_s, bindGo, bk_nil, cNew_n, get_last, set_last, setF, hasA, vtruth, vb_add, vb_sub, vb_mul, vb_fdiv, vb_mod, vb_bor, vb_band, vb_lst, vb_byt, vb_str, vaug, vcmp, q_nn, q_bb, q_ii, q_ss, q_yy, q_ni, q_in, q_nb, q_bn, q_sy, q_ys, q_ny, q_yn, q_tt, q_ts, q_st, visame, vi_b_bool, vi_b_int, vi_b_str, vi_b_bytes, vi_b_type, vi_i_bool, vi_i_int, vi_i_str, vi_i_bytes, vi_i_type, vi_s_bool, vi_s_int, vi_s_str, vi_s_bytes, vi_s_type, vi_y_bool, vi_y_int, vi_y_str, vi_y_bytes, vi_y_type, vi_n_bool, vi_n_int, vi_n_str, vi_n_bytes, vi_n_type, w_int, w_isinst, w_bytes, w_list, w_str, w_issub, lo_b, lo_l, lo_t, len_b, len_l, len_t, unl, List.lookup, ibeq, f_BaseService_request_id, g15]
theorem p_response_id (v : Sv) (n : Nat) (σ : St) : callN T (n+1) a_BaseService_response_id [.cls v.a] [] σ = .ok (.int (v.id + 64)) σ := by
  rw [open_ fn_response_id]; simp [b_ok, b_exc, b_bad, o_ok, o_exc, x_v, x_p, x_vn, x_pn, c_ok, of_s, om_s, getL_s, l_0, l_s, e_lit, e_loc, cBin2, cBin, e_bin, e_inv, cInv_i, cCmp2, cCmp, e_cmp, e_and, e_or, cNot, e_not, e_ite, cIte_t, cIte_f, cTup, cLst, e_tup, e_lst, cIdx2, cIdx, e_idx, cSli3, cSli2, cSli, e_sli, cAttr, e_attr, cHas, e_has, cClsOf, e_clsOf, cNameOf, e_nameOf, cCall, e_call, cMeth3, cMeth2, cMeth1_s, cMeth, e_meth, e_blt, k_len, k_len0, k_len1, k_blt, cBltQ, e_bltQ, e_comp, cEvs2, cEvs, s_nil, s_cons, cAnd, k_andt, k_andf, a_one, a_cons, cOr, k_ort, k_orf, r_one, r_cons, cTru, cTNot, t_not, t_and, t_or, t_ite, t_lit, t_loc, t_cmp, t_attr, t_has, t_idx, t_blt, t_call, t_meth, ta_nil, ta_cons, cTAnd_t, cTAnd_f, to_nil, to_cons, cTOr_t, cTOr_f, cTIte_t, cTIte_f, ti_nil, ti_cons, cTIf_t, cTIf_f, cAsg, x_asg, setT, cMls, x_mls, okSt_s, cSetA2, cSetA, x_setA, cSetI3, cSetI2, cSetI, x_setI, cAug2, cAug_s, x_aug, cApp2, cApp, x_app, cRet, x_ret, x_ite, cIf_t, cIf_f, x_for, body_one, x_try, cTry_ok, cTry_exc, cCatch_s, caught, hit, x_raise, cRaise_s, cRaise_t, x_asrt, cAsrt_t, x_cont, xs_nil, xs_cons, q_next, q_cont, q_ret, f_ret, f_next, run_s, bindGo, bk_nil, cNew_n, get_last, set_last, setF, hasA, vtruth, vb_add, vb_sub, vb_mul, vb_fdiv, vb_mod, vb_bor, vb_band, vb_lst, vb_byt, vb_str, vaug, vcmp, q_nn, q_bb, q_ii, q_ss, q_yy, q_ni, q_in, q_nb, q_bn, q_sy, q_ys, q_ny, q_yn, q_tt, q_ts, q_st, visame, vi_b_bool, vi_b_int, vi_b_str, vi_b_bytes, vi_b_type, vi_i_bool, vi_i_int, vi_i_str, vi_i_bytes, vi_i_type, vi_s_bool, vi_s_int, vi_s_str, vi_s_bytes, vi_s_type, vi_y_bool, vi_y_int, vi_y_str, vi_y_bytes, vi_y_type, vi_n_bool, vi_n_int, vi_n_str, vi_n_bytes, vi_n_type, w_int, w_isinst, w_bytes, w_list, w_str, w_issub, lo_b, lo_l, lo_t, len_b, len_l, len_t, unl, List.lookup, ibeq, f_BaseService_response_id, g15]
theorem p_has_data (v : Sv) (n : Nat) (σ : St) : callN T (n+1) a_BaseService_has_response_data [.cls v.a] [] σ = .ok (.bool true) σ := by
  rw [open_ fn_has_data]; cases v <;> simp [b_ok, b_exc, b_bad, o_ok, o_exc, x_v, x_p, x_vn, x_pn, c_ok, of_s, om_s, getL_s, l_0, l_s, e_lit, e_loc, cBin2, cBin, e_bin, e_inv, cInv_i, cCmp2, cCmp, e_cmp, e_and, e_or, cNot, e_not, e_ite, cIte_t, cIte_f, cTup, cLst, e_tup, e_lst, cIdx2, cIdx, e_idx, cSli3, cSli2, cSli, e_sli, cAttr, e_attr, cHas, e_has, cClsOf, e_clsOf, cNameOf, e_nameOf, cCall, e_call, cMeth3, cMeth2, cMeth1_s, cMeth, e_meth, e_blt, k_len, k_len0, k_len1, k_blt, cBltQ, e_bltQ, e_comp, cEvs2, cEvs, s_nil, s_cons, cAnd, k_andt, k_andf, a_one, a_cons, cOr, k_ort, k_orf, r_one, r_cons, cTru, cTNot, t_not, t_and, t_or, t_ite, t_lit, t_loc, t_cmp, t_attr, t_has, t_idx, t_blt, t_call, t_meth, ta_nil, ta_cons, cTAnd_t, cTAnd_f, to_nil, to_cons, cTOr_t, cTOr_f, cTIte_t, cTIte_f, ti_nil, ti_cons, cTIf_t, cTIf_f, cAsg, x_asg, setT, cMls, x_mls, okSt_s, cSetA2, cSetA, x_setA, cSetI3, cSetI2, cSetI, x_setI, cAug2, cAug_s, x_aug, cApp2, cApp, x_app, cRet, x_ret, x_ite, cIf_t, cIf_f, x_for, body_one, x_try, cTry_ok, cTry_exc, cCatch_s, caught, hit, x_raise, cRaise_s, cRaise_t, x_asrt, cAsrt_t, x_cont, xs_nil, xs_cons, q_next, q_cont, q_ret, f_ret, f_next, run_s, bindGo, bk_nil, cNew_n, get_last, set_last, setF, hasA, vtruth, vb_add, vb_sub, vb_mul, vb_fdiv, vb_mod, vb_bor, vb_band, vb_lst, vb_byt, vb_str, vaug, vcmp, q_nn, q_bb, q_ii, q_ss, q_yy, q_ni, q_in, q_nb, q_bn, q_sy, q_ys, q_ny, q_yn, q_tt, q_ts, q_st, visame, vi_b_bool, vi_b_int, vi_b_str, vi_b_bytes, vi_b_type, vi_i_bool, vi_i_int, vi_i_str, vi_i_bytes, vi_i_type, vi_s_bool, vi_s_int, vi_s_str, vi_s_bytes, vi_s_type, vi_y_bool, vi_y_int, vi_y_str, vi_y_bytes, vi_y_type, vi_n_bool, vi_n_int, vi_n_str, vi_n_bytes, vi_n_type, w_int, w_isinst, w_bytes, w_list, w_str, w_issub, lo_b, lo_l, lo_t, len_b, len_l, len_t, unl, List.lookup, ibeq, f_BaseService_has_response_data, cl_sv, Sv.c, c_CommunicationControl, c_LinkControl, c_TransferData, c_ReadMemoryByAddress]
theorem p_bs_name (v : Sv) (n : Nat) (σ : St) : callN T (n+1) a_BaseService_get_name [.cls v.a] [] σ = .ok (.str v.c.name) σ := by
  rw [open_ fn_bs_name]; simp [b_ok, b_exc, b_bad, o_ok, o_exc, x_v, x_p, x_vn, x_pn, c_ok, of_s, om_s, getL_s, l_0, l_s, e_lit, e_loc, cBin2, cBin, e_bin, e_inv, cInv_i, cCmp2, cCmp, e_cmp, e_and, e_or, cNot, e_not, e_ite, cIte_t, cIte_f, cTup, cLst, e_tup, e_lst, cIdx2, cIdx, e_idx, cSli3, cSli2, cSli, e_sli, cAttr, e_attr, cHas, e_has, cClsOf, e_clsOf, cNameOf, e_nameOf, cCall, e_call, cMeth3, cMeth2, cMeth1_s, cMeth, e_meth, e_blt, k_len, k_len0, k_len1, k_blt, cBltQ, e_bltQ, e_comp, cEvs2, cEvs, s_nil, s_cons, cAnd, k_andt, k_andf, a_one, a_cons, cOr, k_ort, k_orf, r_one, r_cons, cTru, cTNot, t_not, t_and, t_or, t_ite, t_lit, t_loc, t_cmp, t_attr, t_has, t_idx, t_blt, t_call, t_meth, ta_nil, ta_cons, cTAnd_t, cTAnd_f, to_nil, to_cons, cTOr_t, cTOr_f, cTIte_t, cTIte_f, ti_nil, ti_cons, cTIf_t, cTIf_f, cAsg, x_asg, setT, cMls, x_mls, okSt_s, cSetA2, cSetA, x_setA, cSetI3, cSetI2, cSetI, x_setI, cAug2, cAug_s, x_aug, cApp2, cApp, x_app, cRet, x_ret, x_ite, cIf_t, cIf_f, x_for, body_one, x_try, cTry_ok, cTry_exc, cCatch_s, caught, hit, x_raise, cRaise_s, cRaise_t, x_asrt, cAsrt_t, x_cont, xs_nil, xs_cons, q_next, q_cont, q_ret, f_ret, f_next, run_s, bindGo, bk_nil, cNew_n, get_last, set_last, setF, hasA, vtruth, vb_add, vb_sub, vb_mul, vb_fdiv, vb_mod, vb_bor, vb_band, vb_lst, vb_byt, vb_str, vaug, vcmp, q_nn, q_bb, q_ii, q_ss, q_yy, q_ni, q_in, q_nb, q_bn, q_sy, q_ys, q_ny, q_yn, q_tt, q_ts, q_st, visame, vi_b_bool, vi_b_int, vi_b_str, vi_b_bytes, vi_b_type, vi_i_bool, vi_i_int, vi_i_str, vi_i_bytes, vi_i_type, vi_s_bool, vi_s_int, vi_s_str, vi_s_bytes, vi_s_type, vi_y_bool, vi_y_int, vi_y_str, vi_y_bytes, vi_y_type, vi_n_bool, vi_n_int, vi_n_str, vi_n_bytes, vi_n_type, w_int, w_isinst, w_bytes, w_list, w_str, w_issub, lo_b, lo_l, lo_t, len_b, len_l, len_t, unl, List.lookup, ibeq, f_BaseService_get_name, cl_sv, nameA]
theorem in_cls (v : Sv) (σ : St) : vinst T σ (.cls v.a) (.cls a_BaseService) = some false := by simp only [vinst, cl_sv, cl_BS]
theorem in_typ (v : Sv) (σ : St) : vinst T σ (.cls v.a) (.typ "type") = some true := by simp [vinst, cl_sv]
theorem in_obj {σ : St} {v : Sv} {j : Nat} {fs : List (Nat × V)} (h : σ[j]? = some (.inst v.a fs)) : vinst T σ (.obj j) (.cls a_BaseService) = some true := by
  simp only [vinst, h, cl_sv, cl_BS]
  cases v <;> rfl
theorem cls_obj {σ : St} {v : Sv} {j : Nat} {fs : List (Nat × V)} (h : σ[j]? = some (.inst v.a fs)) : clsA T σ (.obj j) = some (.cls v.a) := by
  simp only [clsA, h, cl_sv, Option.map_some]
theorem in_int (i : Int) (σ : St) : vinst T σ (.int i) (.cls a_BaseService) = some false := by simp only [vinst, cl_BS, Option.map_some]
theorem in_intt (i : Int) (σ : St) : vinst T σ (.int i) (.typ "type") = some false := by simp [vinst]
theorem forL_find {α : Type} {f : V → Loc → St → R (Fl × Loc)} {g : α → V} {p : α → Bool} {r : α → V} {σ : St} (I : Loc → Prop) (hf : ∀ x ρ, I ρ → ∃ ρ', I ρ' ∧ f (g x) ρ σ = .ok (if p x then .ret (r x) else .next, ρ') σ) :
    ∀ (l : List α) (ρ : Loc), I ρ → ∃ ρ', I ρ' ∧ forL f (l.map g) ρ σ = .ok (match l.find? p with | some x => .ret (r x) | none => .next, ρ') σ
  | [], ρ, h => ⟨ρ, h, rfl⟩
  | x :: l, ρ, h => by
    obtain ⟨ρ', h1, h2⟩ := hf x ρ h
    obtain ⟨ρ'', h3, h4⟩ := forL_find I hf l ρ' h1
    rw [List.map_cons, forL, h2]
    cases hp : p x with
    | true => exact ⟨ρ', h1, by simp [R.calm, R.bind, hp]⟩
    | false => exact ⟨ρ'', h3, by simp [R.calm, R.bind, hp, h4]⟩
def svs (k : List Sv) : V := .lst (k.map fun v => .cls v.a)
def ofSv : Option Sv → V
  | some v => .cls v.a
  | none => .none
def findR (b : Int) (k : List Sv) : Option Sv := k.find? fun v => decide (v.id = b)
def findA (b : Int) (k : List Sv) : Option Sv := k.find? fun v => decide (v.id + 64 = b)
theorem p_from_req (b : Int) (k : List Sv) (hk : k.length ≤ 1000) (n : Nat) (σ : St) : callN T (n+2) a_BaseService_from_request_id [.cls a_BaseService, .int b, svs k] [] σ = .ok (ofSv (findR b k)) σ := by
  rw [open_ fn_from_req]
  obtain ⟨ρ', -, h⟩ := forL_find (f := bodyF T (callN T (n+1)) (.one 4) (.cons (.ite (.cmp .eq (.meth (.loc 4) 18 .nil [] .nil) (.loc 1)) (.cons (.ret (.loc 4)) .nil) .nil) .nil)) (g := fun v : Sv => V.cls v.a) (p := fun v => decide (v.id = b)) (r := fun v => V.cls v.a) (σ := σ)
    (fun ρ => ∃ x y z, ρ = [some x, some (.int b), some y, some (svs k), z]) (by
      rintro v ρ ⟨x, y, z, rfl⟩
      refine ⟨_, ⟨x, y, some (.cls v.a), rfl⟩, ?_⟩
      by_cases hb : v.id = b <;> simp [b_ok, b_exc, b_bad, o_ok, o_exc, x_v, x_p, x_vn, x_pn, c_ok, of_s, om_s, getL_s, l_0, l_s, e_lit, e_loc, cBin2, cBin, e_bin, e_inv, cInv_i, cCmp2, cCmp, e_cmp, e_and, e_or, cNot, e_not, e_ite, cIte_t, cIte_f, cTup, cLst, e_tup, e_lst, cIdx2, cIdx, e_idx, cSli3, cSli2, cSli, e_sli, cAttr, e_attr, cHas, e_has, cClsOf, e_clsOf, cNameOf, e_nameOf, cCall, e_call, cMeth3, cMeth2, cMeth1_s, cMeth, e_meth, e_blt, k_len, k_len0, k_len1, k_blt, cBltQ, e_bltQ, e_comp, cEvs2, cEvs, s_nil, s_cons, cAnd, k_andt, k_andf, a_one, a_cons, cOr, k_ort, k_orf, r_one, r_cons, cTru, cTNot, t_not, t_and, t_or, t_ite, t_lit, t_loc, t_cmp, t_attr, t_has, t_idx, t_blt, t_call, t_meth, ta_nil, ta_cons, cTAnd_t, cTAnd_f, to_nil, to_cons, cTOr_t, cTOr_f, cTIte_t, cTIte_f, ti_nil, ti_cons, cTIf_t, cTIf_f, cAsg, x_asg, setT, cMls, x_mls, okSt_s, cSetA2, cSetA, x_setA, cSetI3, cSetI2, cSetI, x_setI, cAug2, cAug_s, x_aug, cApp2, cApp, x_app, cRet, x_ret, x_ite, cIf_t, cIf_f, x_for, body_one, x_try, cTry_ok, cTry_exc, cCatch_s, caught, hit, x_raise, cRaise_s, cRaise_t, x_asrt, cAsrt_t, x_cont, xs_nil, xs_cons, q_next, q_cont, q_ret, f_ret, f_next, run_s, bindGo, bk_nil, cNew_n, get_last, set_last, setF, hasA, vtruth, vb_add, vb_sub, vb_mul, vb_fdiv, vb_mod, vb_bor, vb_band, vb_lst, vb_byt, vb_str, vaug, vcmp, q_nn, q_bb, q_ii, q_ss, q_yy, q_ni, q_in, q_nb, q_bn, q_sy, q_ys, q_ny, q_yn, q_tt, q_ts, q_st, visame, vi_b_bool, vi_b_int, vi_b_str, vi_b_bytes, vi_b_type, vi_i_bool, vi_i_int, vi_i_str, vi_i_bytes, vi_i_type, vi_s_bool, vi_s_int, vi_s_str, vi_s_bytes, vi_s_type, vi_y_bool, vi_y_int, vi_y_str, vi_y_bytes, vi_y_type, vi_n_bool, vi_n_int, vi_n_str, vi_n_bytes, vi_n_type, w_int, w_isinst, w_bytes, w_list, w_str, w_issub, lo_b, lo_l, lo_t, len_b, len_l, len_t, unl, List.lookup, ibeq, m18, p_request_id, hb]) k [some (.cls a_BaseService), some (.int b), some (svs k), some (svs k), none] ⟨_, _, _, rfl⟩
  simp [b_ok, b_exc, b_bad, o_ok, o_exc, x_v, x_p, x_vn, x_pn, c_ok, of_s, om_s, getL_s, l_0, l_s, e_lit, e_loc, cBin2, cBin, e_bin, e_inv, cInv_i, cCmp2, cCmp, e_cmp, e_and, e_or, cNot, e_not, e_ite, cIte_t, cIte_f, cTup, cLst, e_tup, e_lst, cIdx2, cIdx, e_idx, cSli3, cSli2, cSli, e_sli, cAttr, e_attr, cHas, e_has, cClsOf, e_clsOf, cNameOf, e_nameOf, cCall, e_call, cMeth3, cMeth2, cMeth1_s, cMeth, e_meth, e_blt, k_len, k_len0, k_len1, k_blt, cBltQ, e_bltQ, e_comp, cEvs2, cEvs, s_nil, s_cons, cAnd, k_andt, k_andf, a_one, a_cons, cOr, k_ort, k_orf, r_one, r_cons, cTru, cTNot, t_not, t_and, t_or, t_ite, t_lit, t_loc, t_cmp, t_attr, t_has, t_idx, t_blt, t_call, t_meth, ta_nil, ta_cons, cTAnd_t, cTAnd_f, to_nil, to_cons, cTOr_t, cTOr_f, cTIte_t, cTIte_f, ti_nil, ti_cons, cTIf_t, cTIf_f, cAsg, x_asg, setT, cMls, x_mls, okSt_s, cSetA2, cSetA, x_setA, cSetI3, cSetI2, cSetI, x_setI, cAug2, cAug_s, x_aug, cApp2, cApp, x_app, cRet, x_ret, x_ite, cIf_t, cIf_f, x_for, body_one, x_try, cTry_ok, cTry_exc, cCatch_s, caught, hit, x_raise, cRaise_s, cRaise_t, x_asrt, cAsrt_t, x_cont, xs_nil, xs_cons, q_next, q_cont, q_ret, f_ret, f_next, run_s, bindGo, bk_nil, cNew_n, get_last, set_last, setF, hasA, vtruth, vb_add, vb_sub, vb_mul, vb_fdiv, vb_mod, vb_bor, vb_band, vb_lst, vb_byt, vb_str, vaug, vcmp, q_nn, q_bb, q_ii, q_ss, q_yy, q_ni, q_in, q_nb, q_bn, q_sy, q_ys, q_ny, q_yn, q_tt, q_ts, q_st, visame, vi_b_bool, vi_b_int, vi_b_str, vi_b_bytes, vi_b_type, vi_i_bool, vi_i_int, vi_i_str, vi_i_bytes, vi_i_type, vi_s_bool, vi_s_int, vi_s_str, vi_s_bytes, vi_s_type, vi_y_bool, vi_y_int, vi_y_str, vi_y_bytes, vi_y_type, vi_n_bool, vi_n_int, vi_n_str, vi_n_bytes, vi_n_type, w_int, w_isinst, w_bytes, w_list, w_str, w_issub, lo_b, lo_l, lo_t, len_b, len_l, len_t, unl, List.lookup, ibeq, f_BaseService_from_request_id, svs] at h ⊢
  rw [k_for_lst _ _ _ (by simp [room]; omega)]
  rw [h]
  unfold findR
  cases k.find? _ <;> simp [b_ok, b_exc, b_bad, o_ok, o_exc, x_v, x_p, x_vn, x_pn, c_ok, of_s, om_s, getL_s, l_0, l_s, e_lit, e_loc, cBin2, cBin, e_bin, e_inv, cInv_i, cCmp2, cCmp, e_cmp, e_and, e_or, cNot, e_not, e_ite, cIte_t, cIte_f, cTup, cLst, e_tup, e_lst, cIdx2, cIdx, e_idx, cSli3, cSli2, cSli, e_sli, cAttr, e_attr, cHas, e_has, cClsOf, e_clsOf, cNameOf, e_nameOf, cCall, e_call, cMeth3, cMeth2, cMeth1_s, cMeth, e_meth, e_blt, k_len, k_len0, k_len1, k_blt, cBltQ, e_bltQ, e_comp, cEvs2, cEvs, s_nil, s_cons, cAnd, k_andt, k_andf, a_one, a_cons, cOr, k_ort, k_orf, r_one, r_cons, cTru, cTNot, t_not, t_and, t_or, t_ite, t_lit, t_loc, t_cmp, t_attr, t_has, t_idx, t_blt, t_call, t_meth, ta_nil, ta_cons, cTAnd_t, cTAnd_f, to_nil, to_cons, cTOr_t, cTOr_f, cTIte_t, cTIte_f, ti_nil, ti_cons, cTIf_t, cTIf_f, cAsg, x_asg, setT, cMls, x_mls, okSt_s, cSetA2, cSetA, x_setA, cSetI3, cSetI2, cSetI, x_setI, cAug2, cAug_s, x_aug, cApp2, cApp, x_app, cRet, x_ret, x_ite, cIf_t, cIf_f, x_for, body_one, x_try, cTry_ok, cTry_exc, cCatch_s, caught, hit, x_raise, cRaise_s, cRaise_t, x_asrt, cAsrt_t, x_cont, xs_nil, xs_cons, q_next, q_cont, q_ret, f_ret, f_next, run_s, bindGo, bk_nil, cNew_n, get_last, set_last, setF, hasA, vtruth, vb_add, vb_sub, vb_mul, vb_fdiv, vb_mod, vb_bor, vb_band, vb_lst, vb_byt, vb_str, vaug, vcmp, q_nn, q_bb, q_ii, q_ss, q_yy, q_ni, q_in, q_nb, q_bn, q_sy, q_ys, q_ny, q_yn, q_tt, q_ts, q_st, visame, vi_b_bool, vi_b_int, vi_b_str, vi_b_bytes, vi_b_type, vi_i_bool, vi_i_int, vi_i_str, vi_i_bytes, vi_i_type, vi_s_bool, vi_s_int, vi_s_str, vi_s_bytes, vi_s_type, vi_y_bool, vi_y_int, vi_y_str, vi_y_bytes, vi_y_type, vi_n_bool, vi_n_int, vi_n_str, vi_n_bytes, vi_n_type, w_int, w_isinst, w_bytes, w_list, w_str, w_issub, lo_b, lo_l, lo_t, len_b, len_l, len_t, unl, List.lookup, ibeq, ofSv]
theorem p_from_res (b : Int) (k : List Sv) (hk : k.length ≤ 1000) (n : Nat) (σ : St) : callN T (n+2) a_BaseService_from_response_id [.cls a_BaseService, .int b, svs k] [] σ = .ok (ofSv (findA b k)) σ := by
  rw [open_ fn_from_res]
  obtain ⟨ρ', -, h⟩ := forL_find (f := bodyF T (callN T (n+1)) (.one 4) (.cons (.ite (.cmp .eq (.meth (.loc 4) 19 .nil [] .nil) (.blt .int (.cons (.loc 1) .nil))) (.cons (.ret (.loc 4)) .nil) .nil) .nil)) (g := fun v : Sv => V.cls v.a) (p := fun v => decide (v.id + 64 = b)) (r := fun v => V.cls v.a) (σ := σ)
    (fun ρ => ∃ x y z, ρ = [some x, some (.int b), some y, some (svs k), z]) (by
      rintro v ρ ⟨x, y, z, rfl⟩
      refine ⟨_, ⟨x, y, some (.cls v.a), rfl⟩, ?_⟩
      by_cases hb : v.id + 64 = b <;> simp [b_ok, b_exc, b_bad, o_ok, o_exc, x_v, x_p, x_vn, x_pn, c_ok, of_s, om_s, getL_s, l_0, l_s, e_lit, e_loc, cBin2, cBin, e_bin, e_inv, cInv_i, cCmp2, cCmp, e_cmp, e_and, e_or, cNot, e_not, e_ite, cIte_t, cIte_f, cTup, cLst, e_tup, e_lst, cIdx2, cIdx, e_idx, cSli3, cSli2, cSli, e_sli, cAttr, e_attr, cHas, e_has, cClsOf, e_clsOf, cNameOf, e_nameOf, cCall, e_call, cMeth3, cMeth2, cMeth1_s, cMeth, e_meth, e_blt, k_len, k_len0, k_len1, k_blt, cBltQ, e_bltQ, e_comp, cEvs2, cEvs, s_nil, s_cons, cAnd, k_andt, k_andf, a_one, a_cons, cOr, k_ort, k_orf, r_one, r_cons, cTru, cTNot, t_not, t_and, t_or, t_ite, t_lit, t_loc, t_cmp, t_attr, t_has, t_idx, t_blt, t_call, t_meth, ta_nil, ta_cons, cTAnd_t, cTAnd_f, to_nil, to_cons, cTOr_t, cTOr_f, cTIte_t, cTIte_f, ti_nil, ti_cons, cTIf_t, cTIf_f, cAsg, x_asg, setT, cMls, x_mls, okSt_s, cSetA2, cSetA, x_setA, cSetI3, cSetI2, cSetI, x_setI, cAug2, cAug_s, x_aug, cApp2, cApp, x_app, cRet, x_ret, x_ite, cIf_t, cIf_f, x_for, body_one, x_try, cTry_ok, cTry_exc, cCatch_s, caught, hit, x_raise, cRaise_s, cRaise_t, x_asrt, cAsrt_t, x_cont, xs_nil, xs_cons, q_next, q_cont, q_ret, f_ret, f_next, run_s, bindGo, bk_nil, cNew_n, get_last, set_last, setF, hasA, vtruth, vb_add, vb_sub, vb_mul, vb_fdiv, vb_mod, vb_bor, vb_band, vb_lst, vb_byt, vb_str, vaug, vcmp, q_nn, q_bb, q_ii, q_ss, q_yy, q_ni, q_in, q_nb, q_bn, q_sy, q_ys, q_ny, q_yn, q_tt, q_ts, q_st, visame, vi_b_bool, vi_b_int, vi_b_str, vi_b_bytes, vi_b_type, vi_i_bool, vi_i_int, vi_i_str, vi_i_bytes, vi_i_type, vi_s_bool, vi_s_int, vi_s_str, vi_s_bytes, vi_s_type, vi_y_bool, vi_y_int, vi_y_str, vi_y_bytes, vi_y_type, vi_n_bool, vi_n_int, vi_n_str, vi_n_bytes, vi_n_type, w_int, w_isinst, w_bytes, w_list, w_str, w_issub, lo_b, lo_l, lo_t, len_b, len_l, len_t, unl, List.lookup, ibeq, m19, p_response_id, hb]) k [some (.cls a_BaseService), some (.int b), some (svs k), some (svs k), none] ⟨_, _, _, rfl⟩
  simp [b_ok, b_exc, b_bad, o_ok, o_exc, x_v, x_p, x_vn, x_pn, c_ok, of_s, om_s, getL_s, l_0, l_s, e_lit, e_loc, cBin2, cBin, e_bin, e_inv, cInv_i, cCmp2, cCmp, e_cmp, e_and, e_or, cNot, e_not, e_ite, cIte_t, cIte_f, cTup, cLst, e_tup, e_lst, cIdx2, cIdx, e_idx, cSli3, cSli2, cSli, e_sli, cAttr, e_attr, cHas, e_has, cClsOf, e_clsOf, cNameOf, e_nameOf, cCall, e_call, cMeth3, cMeth2, cMeth1_s, cMeth, e_meth, e_blt, k_len, k_len0, k_len1, k_blt, cBltQ, e_bltQ, e_comp, cEvs2, cEvs, s_nil, s_cons, cAnd, k_andt, k_andf, a_one, a_cons, cOr, k_ort, k_orf, r_one, r_cons, cTru, cTNot, t_not, t_and, t_or, t_ite, t_lit, t_loc, t_cmp, t_attr, t_has, t_idx, t_blt, t_call, t_meth, ta_nil, ta_cons, cTAnd_t, cTAnd_f, to_nil, to_cons, cTOr_t, cTOr_f, cTIte_t, cTIte_f, ti_nil, ti_cons, cTIf_t, cTIf_f, cAsg, x_asg, setT, cMls, x_mls, okSt_s, cSetA2, cSetA, x_setA, cSetI3, cSetI2, cSetI, x_setI, cAug2, cAug_s, x_aug, cApp2, cApp, x_app, cRet, x_ret, x_ite, cIf_t, cIf_f, x_for, body_one, x_try, cTry_ok, cTry_exc, cCatch_s, caught, hit, x_raise, cRaise_s, cRaise_t, x_asrt, cAsrt_t, x_cont, xs_nil, xs_cons, q_next, q_cont, q_ret, f_ret, f_next, run_s, bindGo, bk_nil, cNew_n, get_last, set_last, setF, hasA, vtruth, vb_add, vb_sub, vb_mul, vb_fdiv, vb_mod, vb_bor, vb_band, vb_lst, vb_byt, vb_str, vaug, vcmp, q_nn, q_bb, q_ii, q_ss, q_yy, q_ni, q_in, q_nb, q_bn, q_sy, q_ys, q_ny, q_yn, q_tt, q_ts, q_st, visame, vi_b_bool, vi_b_int, vi_b_str, vi_b_bytes, vi_b_type, vi_i_bool, vi_i_int, vi_i_str, vi_i_bytes, vi_i_type, vi_s_bool, vi_s_int, vi_s_str, vi_s_bytes, vi_s_type, vi_y_bool, vi_y_int, vi_y_str, vi_y_bytes, vi_y_type, vi_n_bool, vi_n_int, vi_n_str, vi_n_bytes, vi_n_type, w_int, w_isinst, w_bytes, w_list, w_str, w_issub, lo_b, lo_l, lo_t, len_b, len_l, len_t, unl, List.lookup, ibeq, f_BaseService_from_response_id, svs] at h ⊢
  rw [k_for_lst _ _ _ (by simp [room]; omega)]
  rw [h]
  unfold findA
  cases k.find? _ <;> simp [b_ok, b_exc, b_bad, o_ok, o_exc, x_v, x_p, x_vn, x_pn, c_ok, of_s, om_s, getL_s, l_0, l_s, e_lit, e_loc, cBin2, cBin, e_bin, e_inv, cInv_i, cCmp2, cCmp, e_cmp, e_and, e_or, cNot, e_not, e_ite, cIte_t, cIte_f, cTup, cLst, e_tup, e_lst, cIdx2, cIdx, e_idx, cSli3, cSli2, cSli, e_sli, cAttr, e_attr, cHas, e_has, cClsOf, e_clsOf, cNameOf, e_nameOf, cCall, e_call, cMeth3, cMeth2, cMeth1_s, cMeth, e_meth, e_blt, k_len, k_len0, k_len1, k_blt, cBltQ, e_bltQ, e_comp, cEvs2, cEvs, s_nil, s_cons, cAnd, k_andt, k_andf, a_one, a_cons, cOr, k_ort, k_orf, r_one, r_cons, cTru, cTNot, t_not, t_and, t_or, t_ite, t_lit, t_loc, t_cmp, t_attr, t_has, t_idx, t_blt, t_call, t_meth, ta_nil, ta_cons, cTAnd_t, cTAnd_f, to_nil, to_cons, cTOr_t, cTOr_f, cTIte_t, cTIte_f, ti_nil, ti_cons, cTIf_t, cTIf_f, cAsg, x_asg, setT, cMls, x_mls, okSt_s, cSetA2, cSetA, x_setA, cSetI3, cSetI2, cSetI, x_setI, cAug2, cAug_s, x_aug, cApp2, cApp, x_app, cRet, x_ret, x_ite, cIf_t, cIf_f, x_for, body_one, x_try, cTry_ok, cTry_exc, cCatch_s, caught, hit, x_raise, cRaise_s, cRaise_t, x_asrt, cAsrt_t, x_cont, xs_nil, xs_cons, q_next, q_cont, q_ret, f_ret, f_next, run_s, bindGo, bk_nil, cNew_n, get_last, set_last, setF, hasA, vtruth, vb_add, vb_sub, vb_mul, vb_fdiv, vb_mod, vb_bor, vb_band, vb_lst, vb_byt, vb_str, vaug, vcmp, q_nn, q_bb, q_ii, q_ss, q_yy, q_ni, q_in, q_nb, q_bn, q_sy, q_ys, q_ny, q_yn, q_tt, q_ts, q_st, visame, vi_b_bool, vi_b_int, vi_b_str, vi_b_bytes, vi_b_type, vi_i_bool, vi_i_int, vi_i_str, vi_i_bytes, vi_i_type, vi_s_bool, vi_s_int, vi_s_str, vi_s_bytes, vi_s_type, vi_y_bool, vi_y_int, vi_y_str, vi_y_bytes, vi_y_type, vi_n_bool, vi_n_int, vi_n_str, vi_n_bytes, vi_n_type, w_int, w_isinst, w_bytes, w_list, w_str, w_issub, lo_b, lo_l, lo_t, len_b, len_l, len_t, unl, List.lookup, ibeq, ofSv]
/-! bytes -/
theorem idx_b0 (σ : St) (b : Int) (r : List Int) (h : r.length ≤ 1000) : vidx σ (.bytes (b :: r)) (.int 0) = some (.int b) := by
  simp [vidx, room, vitem]; omega
theorem idx_b1 (σ : St) (b c : Int) (r : List Int) (h : r.length ≤ 1000) : vidx σ (.bytes (b :: c :: r)) (.int 1) = some (.int c) := by
  simp [vidx, room, vitem]; omega
theorem idx_b2 (σ : St) (b c d : Int) (r : List Int) (h : r.length ≤ 1000) : vidx σ (.bytes (b :: c :: d :: r)) (.int 2) = some (.int d) := by
  simp [vidx, room, vitem]; omega
theorem sli_bn (l : List Int) (n : Nat) (hn : n ≤ l.length) (h : l.length ≤ 1000) : vslice (.bytes l) (.int n) .none = some (.bytes (l.drop n)) := by
  have e : vclip l.length 0 (.int n) = some n := by
    show (if decide ((0 : Int) ≤ n) = true then some (min (n : Int).toNat l.length) else none) = some n
    rw [if_pos (by simp)]
    exact congrArg some (by rw [Int.toNat_natCast]; omega)
  unfold vslice
  dsimp only
  rw [e, show vclip l.length l.length .none = some l.length from rfl]
  dsimp only
  rw [if_pos (by simp [room]; omega)]
  unfold cut
  rw [List.take_of_length_le (by simp)]
theorem sli_b1 (b : Int) (r : List Int) (h : r.length ≤ 900) : vslice (.bytes (b :: r)) (.int 1) .none = some (.bytes r) := by
  have := sli_bn (b :: r) 1 (by simp) (by simp; omega)
  simpa using this
theorem sli_b2 (b c : Int) (r : List Int) (h : r.length ≤ 900) : vslice (.bytes (b :: c :: r)) (.int 2) .none = some (.bytes r) := by
  have := sli_bn (b :: c :: r) 2 (by simp) (by simp; omega)
  simpa using this
theorem sli_b3 (b c d : Int) (r : List Int) (h : r.length ≤ 900) : vslice (.bytes (b :: c :: d :: r)) (.int 3) .none = some (.bytes r) := by
  have := sli_bn (b :: c :: d :: r) 3 (by simp) (by simp; omega)
  simpa using this
/-! requests -/
def subV : Option Int → V
  | some i => .int i
  | none => .none
def datV : Option (List Int) → V
  | some i => .bytes i
  | none => .none
def askV : Option Bool → V
  | some b => .bool b
  | none => .none
def top (x : Int) (m : Bool) : Option Bool → Int
  | none => if m then Builtin.bitOr x 128 else x
  | some true => Builtin.bitOr x 128
  | some false => Builtin.bitAnd x (-129)
def dd : Option (List Int) → List Int
  | some l => l
  | none => []
inductive Lay where
  | by (l : List Int) | val | pack
def Lay.r : Lay → St → R V
  | .by l, σ => .ok (.bytes l) σ
  | .val, σ => .exc .val σ
  | .pack, σ => .exc .pack σ
theorem w_pack (σ : St) (n : Int) (h : 0 ≤ n ∧ n ≤ 255) : vblt T σ .pack [.str (Str.ofString "B"), .int n] = .ok (.bytes [n]) σ := by
  simp only [vblt]
  rw [if_pos (by decide), if_pos (by simpa using h)]
theorem w_packX (σ : St) (n : Int) (h : ¬ (0 ≤ n ∧ n ≤ 255)) (hs : small n = true) : vblt T σ .pack [.str (Str.ofString "B"), .int n] = .exc .packN σ := by
  simp only [vblt]
  rw [if_pos (by decide), if_neg (by simpa using h), if_pos hs]
theorem id_ok (v : Sv) : 0 ≤ v.id ∧ v.id ≤ 255 := by cases v <;> decide
theorem nmlen (v : Sv) : v.c.name.length ≤ 1000000 := of_decide_eq_true (by cases v <;> kernel_rfl)
theorem iss (v : Sv) (σ : St) : vblt T σ .issub [.cls v.a, .cls a_BaseService] = .ok (.bool true) σ := by
  rw [w_issub σ (cl_sv v) cl_BS]; cases v <;> rfl
theorem iss_c (v : Sv) (c : Cop) : visame T (.cls v.a) .none = some false := rfl
theorem ba (a b : List Int) (h : a.length + b.length ≤ 1000) : vaug .add (.bytes a) (.bytes b) = some (.bytes (a ++ b)) := by
  simp only [vaug]
  rw [if_pos (by simp [room]; omega)]
def Lay.n : Lay → Int
  | .by l => l.length
  | _ => 0
def cLenO : V → St → R V
  | .int n, σ => if decide (0 ≤ n) && decide (n < 9223372036854775808) then .ok (.int n) σ else .bad
  | _, _ => .bad
/-! codes -/
def codeD : List (Int × V) := match f_ResponseCode_get_name.body with
  | .cons _ (.cons (.ite (.cmp _ _ (.lit (.dct d))) _ _) _) => d
  | _ => []
theorem name_eq : f_ResponseCode_get_name.body = .cons (.ite (.cmp .is (.loc 1) (.lit .none)) (.cons (.ret (.lit (.str (Str.ofString "")))) .nil) .nil) (.cons (.ite (.cmp .isin (.loc 1) (.lit (.dct codeD))) (.cons (.ret (.idx (.lit (.dct codeD)) (.loc 1))) .nil) .nil) (.cons (.ret (.blt .str (.cons (.loc 1) .nil))) .nil)) := by rfl
def nameV (c : Int) : V := match codeD.find? fun p => decide (p.1 = c) with
  | some p => p.2
  | none => .str (intText c)
theorem p_code_name (c : Int) (hc : small c = true) (n : Nat) (σ : St) : callN T (n+1) a_ResponseCode_get_name [.cls a_ResponseCode, .int c] [] σ = .ok (nameV c) σ := by
  rw [open_ fn_code_name]
  rw [show bindK f_ResponseCode_get_name.ps [V.cls a_ResponseCode, V.int c] [] = some [some (.cls a_ResponseCode), some (.int c)] from rfl, run_s, name_eq]
  rw [show f_ResponseCode_get_name.nl = 2 from rfl]
  unfold nameV
  cases hf : codeD.find? fun p => decide (p.1 = c) with
  | none =>
    have hn : (codeD.any fun p => decide (p.1 = c)) = false := by
      rw [List.any_eq_false]
      intro p hp
      have := List.find?_eq_none.mp hf p hp
      simpa using this
    simp [b_ok, b_exc, b_bad, o_ok, o_exc, x_v, x_p, x_vn, x_pn, c_ok, of_s, om_s, getL_s, l_0, l_s, e_lit, e_loc, cBin2, cBin, e_bin, e_inv, cInv_i, cCmp2, cCmp, e_cmp, e_and, e_or, cNot, e_not, e_ite, cIte_t, cIte_f, cTup, cLst, e_tup, e_lst, cIdx2, cIdx, e_idx, cSli3, cSli2, cSli, e_sli, cAttr, e_attr, cHas, e_has, cClsOf, e_clsOf, cNameOf, e_nameOf, cCall, e_call, cMeth3, cMeth2, cMeth1_s, cMeth, e_meth, e_blt, k_len, k_len0, k_len1, k_blt, cBltQ, e_bltQ, e_comp, cEvs2, cEvs, s_nil, s_cons, cAnd, k_andt, k_andf, a_one, a_cons, cOr, k_ort, k_orf, r_one, r_cons, cTru, cTNot, t_not, t_and, t_or, t_ite, t_lit, t_loc, t_cmp, t_attr, t_has, t_idx, t_blt, t_call, t_meth, ta_nil, ta_cons, cTAnd_t, cTAnd_f, to_nil, to_cons, cTOr_t, cTOr_f, cTIte_t, cTIte_f, ti_nil, ti_cons, cTIf_t, cTIf_f, cAsg, x_asg, setT, cMls, x_mls, okSt_s, cSetA2, cSetA, x_setA, cSetI3, cSetI2, cSetI, x_setI, cAug2, cAug_s, x_aug, cApp2, cApp, x_app, cRet, x_ret, x_ite, cIf_t, cIf_f, x_for, body_one, x_try, cTry_ok, cTry_exc, cCatch_s, caught, hit, x_raise, cRaise_s, cRaise_t, x_asrt, cAsrt_t, x_cont, xs_nil, xs_cons, q_next, q_cont, q_ret, f_ret, f_next, run_s, bindGo, bk_nil, cNew_n, get_last, set_last, setF, hasA, vtruth, vb_add, vb_sub, vb_mul, vb_fdiv, vb_mod, vb_bor, vb_band, vb_lst, vb_byt, vb_str, vaug, vcmp, q_nn, q_bb, q_ii, q_ss, q_yy, q_ni, q_in, q_nb, q_bn, q_sy, q_ys, q_ny, q_yn, q_tt, q_ts, q_st, visame, vi_b_bool, vi_b_int, vi_b_str, vi_b_bytes, vi_b_type, vi_i_bool, vi_i_int, vi_i_str, vi_i_bytes, vi_i_type, vi_s_bool, vi_s_int, vi_s_str, vi_s_bytes, vi_s_type, vi_y_bool, vi_y_int, vi_y_str, vi_y_bytes, vi_y_type, vi_n_bool, vi_n_int, vi_n_str, vi_n_bytes, vi_n_type, w_int, w_isinst, w_bytes, w_list, w_str, w_issub, lo_b, lo_l, lo_t, len_b, len_l, len_t, unl, List.lookup, ibeq, hn, hc]
  | some p =>
    have hn : (codeD.any fun p => decide (p.1 = c)) = true := by
      rw [List.any_eq_true]
      exact ⟨p, List.mem_of_find?_eq_some hf, (by have := List.find?_some hf; simpa using this)⟩
    simp [b_ok, b_exc, b_bad, o_ok, o_exc, x_v, x_p, x_vn, x_pn, c_ok, of_s, om_s, getL_s, l_0, l_s, e_lit, e_loc, cBin2, cBin, e_bin, e_inv, cInv_i, cCmp2, cCmp, e_cmp, e_and, e_or, cNot, e_not, e_ite, cIte_t, cIte_f, cTup, cLst, e_tup, e_lst, cIdx2, cIdx, e_idx, cSli3, cSli2, cSli, e_sli, cAttr, e_attr, cHas, e_has, cClsOf, e_clsOf, cNameOf, e_nameOf, cCall, e_call, cMeth3, cMeth2, cMeth1_s, cMeth, e_meth, e_blt, k_len, k_len0, k_len1, k_blt, cBltQ, e_bltQ, e_comp, cEvs2, cEvs, s_nil, s_cons, cAnd, k_andt, k_andf, a_one, a_cons, cOr, k_ort, k_orf, r_one, r_cons, cTru, cTNot, t_not, t_and, t_or, t_ite, t_lit, t_loc, t_cmp, t_attr, t_has, t_idx, t_blt, t_call, t_meth, ta_nil, ta_cons, cTAnd_t, cTAnd_f, to_nil, to_cons, cTOr_t, cTOr_f, cTIte_t, cTIte_f, ti_nil, ti_cons, cTIf_t, cTIf_f, cAsg, x_asg, setT, cMls, x_mls, okSt_s, cSetA2, cSetA, x_setA, cSetI3, cSetI2, cSetI, x_setI, cAug2, cAug_s, x_aug, cApp2, cApp, x_app, cRet, x_ret, x_ite, cIf_t, cIf_f, x_for, body_one, x_try, cTry_ok, cTry_exc, cCatch_s, caught, hit, x_raise, cRaise_s, cRaise_t, x_asrt, cAsrt_t, x_cont, xs_nil, xs_cons, q_next, q_cont, q_ret, f_ret, f_next, run_s, bindGo, bk_nil, cNew_n, get_last, set_last, setF, hasA, vtruth, vb_add, vb_sub, vb_mul, vb_fdiv, vb_mod, vb_bor, vb_band, vb_lst, vb_byt, vb_str, vaug, vcmp, q_nn, q_bb, q_ii, q_ss, q_yy, q_ni, q_in, q_nb, q_bn, q_sy, q_ys, q_ny, q_yn, q_tt, q_ts, q_st, visame, vi_b_bool, vi_b_int, vi_b_str, vi_b_bytes, vi_b_type, vi_i_bool, vi_i_int, vi_i_str, vi_i_bytes, vi_i_type, vi_s_bool, vi_s_int, vi_s_str, vi_s_bytes, vi_s_type, vi_y_bool, vi_y_int, vi_y_str, vi_y_bytes, vi_y_type, vi_n_bool, vi_n_int, vi_n_str, vi_n_bytes, vi_n_type, w_int, w_isinst, w_bytes, w_list, w_str, w_issub, lo_b, lo_l, lo_t, len_b, len_l, len_t, unl, List.lookup, ibeq, hn, hf, vidx]
/-! responses -/
structure Rs where
  s : Option Sv
  pos : Bool
  code : Option Int
  name : V
  valid : Bool
  why : Str
  orig : Option (List Int)
  d : List Int
def Rs.o (r : Rs) : AO := .inst a_Response [(1, ofSv r.s), (6, .bool r.pos), (5, subV r.code), (13, r.name), (7, .bool r.valid), (8, .str r.why), (9, .none), (10, datV r.orig), (11, .bool false), (12, .none), (4, .bytes r.d)]
theorem setA_Res (σ : St) (fs : List (Nat × V)) (k : Nat) (v : V) (hk : c_Response.attrs.lookup k = none) (hl : fs.length ≤ 900) : setAttrV T (σ ++ [.inst a_Response fs]) (.obj σ.length) k v = some (σ ++ [.inst a_Response (setF k v fs)]) := by
  unfold setAttrV
  simp only [get_last, cl_Res, hk, hl, decide_true, if_true, set_last]
theorem getA_Res {σ : St} {i : Nat} {fs : List (Nat × V)} (h : σ[i]? = some (.inst a_Response fs)) (k : Nat) (hk : c_Response.attrs.lookup k = none) : getA T σ k (.obj i) = fs.lookup k := by
  unfold getA
  simp only [h, cl_Res, hk]
  cases fs.lookup k <;> rfl
theorem kr1 : c_Response.attrs.lookup 1 = none := by rfl
theorem kr4 : c_Response.attrs.lookup 4 = none := by rfl
theorem kr5 : c_Response.attrs.lookup 5 = none := by rfl
theorem kr6 : c_Response.attrs.lookup 6 = none := by rfl
theorem kr7 : c_Response.attrs.lookup 7 = none := by rfl
theorem kr8 : c_Response.attrs.lookup 8 = none := by rfl
theorem kr9 : c_Response.attrs.lookup 9 = none := by rfl
theorem kr10 : c_Response.attrs.lookup 10 = none := by rfl
theorem kr11 : c_Response.attrs.lookup 11 = none := by rfl
theorem kr12 : c_Response.attrs.lookup 12 = none := by rfl
theorem kr13 : c_Response.attrs.lookup 13 = none := by rfl
theorem g14 (σ : St) : getA T σ 14 (.cls a_Response) = some (.cls a_ResponseCode) := by rfl
theorem g28 (σ : St) : getA T σ 28 (.cls a_ResponseCode) = some (.int 0) := by rfl
theorem mc24 (σ : St) : findM T σ 24 (.cls a_ResponseCode) = some (a_ResponseCode_get_name, .cls a_ResponseCode) := by rfl
theorem mc27 (σ : St) : findM T σ 27 (.cls a_ResponseCode) = some (a_ResponseCode_is_negative, .cls a_ResponseCode) := by rfl
def rs0 : Rs := ⟨none, false, none, .str (Str.ofString ""), false, (Str.ofString "Object not initialized"), none, []⟩
theorem p_res_init0 (n : Nat) (σ : St) : callN T (n+1) a_Response___init__ [.obj σ.length] [] (σ ++ [.inst a_Response []]) = .ok .none (σ ++ [rs0.o]) := by
  rw [open_ fn_res_init]
  simp [b_ok, b_exc, b_bad, o_ok, o_exc, x_v, x_p, x_vn, x_pn, c_ok, of_s, om_s, getL_s, l_0, l_s, e_lit, e_loc, cBin2, cBin, e_bin, e_inv, cInv_i, cCmp2, cCmp, e_cmp, e_and, e_or, cNot, e_not, e_ite, cIte_t, cIte_f, cTup, cLst, e_tup, e_lst, cIdx2, cIdx, e_idx, cSli3, cSli2, cSli, e_sli, cAttr, e_attr, cHas, e_has, cClsOf, e_clsOf, cNameOf, e_nameOf, cCall, e_call, cMeth3, cMeth2, cMeth1_s, cMeth, e_meth, e_blt, k_len, k_len0, k_len1, k_blt, cBltQ, e_bltQ, e_comp, cEvs2, cEvs, s_nil, s_cons, cAnd, k_andt, k_andf, a_one, a_cons, cOr, k_ort, k_orf, r_one, r_cons, cTru, cTNot, t_not, t_and, t_or, t_ite, t_lit, t_loc, t_cmp, t_attr, t_has, t_idx, t_blt, t_call, t_meth, ta_nil, ta_cons, cTAnd_t, cTAnd_f, to_nil, to_cons, cTOr_t, cTOr_f, cTIte_t, cTIte_f, ti_nil, ti_cons, cTIf_t, cTIf_f, cAsg, x_asg, setT, cMls, x_mls, okSt_s, cSetA2, cSetA, x_setA, cSetI3, cSetI2, cSetI, x_setI, cAug2, cAug_s, x_aug, cApp2, cApp, x_app, cRet, x_ret, x_ite, cIf_t, cIf_f, x_for, body_one, x_try, cTry_ok, cTry_exc, cCatch_s, caught, hit, x_raise, cRaise_s, cRaise_t, x_asrt, cAsrt_t, x_cont, xs_nil, xs_cons, q_next, q_cont, q_ret, f_ret, f_next, run_s, bindGo, bk_nil, cNew_n, get_last, set_last, setF, hasA, vtruth, vb_add, vb_sub, vb_mul, vb_fdiv, vb_mod, vb_bor, vb_band, vb_lst, vb_byt, vb_str, vaug, vcmp, q_nn, q_bb, q_ii, q_ss, q_yy, q_ni, q_in, q_nb, q_bn, q_sy, q_ys, q_ny, q_yn, q_tt, q_ts, q_st, visame, vi_b_bool, vi_b_int, vi_b_str, vi_b_bytes, vi_b_type, vi_i_bool, vi_i_int, vi_i_str, vi_i_bytes, vi_i_type, vi_s_bool, vi_s_int, vi_s_str, vi_s_bytes, vi_s_type, vi_y_bool, vi_y_int, vi_y_str, vi_y_bytes, vi_y_type, vi_n_bool, vi_n_int, vi_n_str, vi_n_bytes, vi_n_type, w_int, w_isinst, w_bytes, w_list, w_str, w_issub, lo_b, lo_l, lo_t, len_b, len_l, len_t, unl, List.lookup, ibeq, f_Response___init__, setA_Res, kr1, kr4, kr5, kr6, kr7, kr8, kr9, kr10, kr11, kr12, kr13, getA_Res (get_last _ _), rs0, Rs.o, ofSv, subV, datV]
theorem p_res_new0 (n : Nat) (σ : St) : callV T (callN T (n+1)) (.cls a_Response) [] σ = .ok (.obj σ.length) (σ ++ [rs0.o]) := by
  rw [call_new fn_Res cl_Res (i := a_Response___init__) rfl, p_res_init0]
  rfl
def Rs.read (row : List Int) (k : List Sv) : Rs := match row with
  | [] => { rs0 with orig := some [], why := (Str.ofString "Payload is empty") }
  | b :: r => if b = 127 then match r with
    | [] => { rs0 with orig := some (b :: r), why := (Str.ofString "Incomplete invalid response service (7Fxx)") }
    | c :: r2 => match findR c k with
      | none => { rs0 with orig := some (b :: r), why := (Str.ofString "Payload second byte is not a known service request ID.") }
      | some v => match r2 with
        | [] => { rs0 with s := some v, orig := some (b :: r), why := (Str.ofString "Response code missing") }
        | e :: r3 => ⟨some v, false, some e, nameV e, true, (Str.ofString ""), some (b :: r), r3⟩
    else match findA b k with
      | none => { rs0 with orig := some (b :: r), why := (Str.ofString "Payload first byte is not a known service response ID.") }
      | some v => match r with
        | [] => { rs0 with s := some v, orig := some (b :: r), why := (Str.ofString "Payload must be at least 2 bytes long (service and response)") }
        | c :: r2 => ⟨some v, true, some 0, nameV 0, true, (Str.ofString ""), some (b :: r), c :: r2⟩
theorem small_oct {e : Int} (h : 0 ≤ e ∧ e < 256) : small e = true := by simp [small]; omega
theorem p_res_read (row : List Int) (k : List Sv) (hr : row.length ≤ 500) (ho : ∀ x ∈ row, 0 ≤ x ∧ x < 256) (hk : k.length ≤ 1000) (n : Nat) (σ : St) : callN T (n+3) a_Response_from_payload [.cls a_Response, .bytes row, svs k] [] σ = .ok (.obj σ.length) (σ ++ [(Rs.read row k).o]) := by
  rw [open_ fn_res_read]
  unfold Rs.read
  rcases row with _ | ⟨b, r⟩
  · simp [b_ok, b_exc, b_bad, o_ok, o_exc, x_v, x_p, x_vn, x_pn, c_ok, of_s, om_s, getL_s, l_0, l_s, e_lit, e_loc, cBin2, cBin, e_bin, e_inv, cInv_i, cCmp2, cCmp, e_cmp, e_and, e_or, cNot, e_not, e_ite, cIte_t, cIte_f, cTup, cLst, e_tup, e_lst, cIdx2, cIdx, e_idx, cSli3, cSli2, cSli, e_sli, cAttr, e_attr, cHas, e_has, cClsOf, e_clsOf, cNameOf, e_nameOf, cCall, e_call, cMeth3, cMeth2, cMeth1_s, cMeth, e_meth, e_blt, k_len, k_len0, k_len1, k_blt, cBltQ, e_bltQ, e_comp, cEvs2, cEvs, s_nil, s_cons, cAnd, k_andt, k_andf, a_one, a_cons, cOr, k_ort, k_orf, r_one, r_cons, cTru, cTNot, t_not, t_and, t_or, t_ite, t_lit, t_loc, t_cmp, t_attr, t_has, t_idx, t_blt, t_call, t_meth, ta_nil, ta_cons, cTAnd_t, cTAnd_f, to_nil, to_cons, cTOr_t, cTOr_f, cTIte_t, cTIte_f, ti_nil, ti_cons, cTIf_t, cTIf_f, cAsg, x_asg, setT, cMls, x_mls, okSt_s, cSetA2, cSetA, x_setA, cSetI3, cSetI2, cSetI, x_setI, cAug2, cAug_s, x_aug, cApp2, cApp, x_app, cRet, x_ret, x_ite, cIf_t, cIf_f, x_for, body_one, x_try, cTry_ok, cTry_exc, cCatch_s, caught, hit, x_raise, cRaise_s, cRaise_t, x_asrt, cAsrt_t, x_cont, xs_nil, xs_cons, q_next, q_cont, q_ret, f_ret, f_next, run_s, bindGo, bk_nil, cNew_n, get_last, set_last, setF, hasA, vtruth, vb_add, vb_sub, vb_mul, vb_fdiv, vb_mod, vb_bor, vb_band, vb_lst, vb_byt, vb_str, vaug, vcmp, q_nn, q_bb, q_ii, q_ss, q_yy, q_ni, q_in, q_nb, q_bn, q_sy, q_ys, q_ny, q_yn, q_tt, q_ts, q_st, visame, vi_b_bool, vi_b_int, vi_b_str, vi_b_bytes, vi_b_type, vi_i_bool, vi_i_int, vi_i_str, vi_i_bytes, vi_i_type, vi_s_bool, vi_s_int, vi_s_str, vi_s_bytes, vi_s_type, vi_y_bool, vi_y_int, vi_y_str, vi_y_bytes, vi_y_type, vi_n_bool, vi_n_int, vi_n_str, vi_n_bytes, vi_n_type, w_int, w_isinst, w_bytes, w_list, w_str, w_issub, lo_b, lo_l, lo_t, len_b, len_l, len_t, unl, List.lookup, ibeq, f_Response_from_payload, p_res_new0, setA_Res, kr1, kr4, kr5, kr6, kr7, kr8, kr9, kr10, kr11, kr12, kr13, getA_Res (get_last _ _), rs0, Rs.o, ofSv, subV, datV, m20, m21, m23, p_from_req, p_from_res, p_has_data, hk, g14, g28, mc24]
  · have hr' : r.length ≤ 499 := by simpa using hr
    have e1 : ¬ ((r.length : Int) + 1 < 1) := by omega
    by_cases hb : b = 127
    · subst hb
      rcases r with _ | ⟨c, r2⟩
      · simp [b_ok, b_exc, b_bad, o_ok, o_exc, x_v, x_p, x_vn, x_pn, c_ok, of_s, om_s, getL_s, l_0, l_s, e_lit, e_loc, cBin2, cBin, e_bin, e_inv, cInv_i, cCmp2, cCmp, e_cmp, e_and, e_or, cNot, e_not, e_ite, cIte_t, cIte_f, cTup, cLst, e_tup, e_lst, cIdx2, cIdx, e_idx, cSli3, cSli2, cSli, e_sli, cAttr, e_attr, cHas, e_has, cClsOf, e_clsOf, cNameOf, e_nameOf, cCall, e_call, cMeth3, cMeth2, cMeth1_s, cMeth, e_meth, e_blt, k_len, k_len0, k_len1, k_blt, cBltQ, e_bltQ, e_comp, cEvs2, cEvs, s_nil, s_cons, cAnd, k_andt, k_andf, a_one, a_cons, cOr, k_ort, k_orf, r_one, r_cons, cTru, cTNot, t_not, t_and, t_or, t_ite, t_lit, t_loc, t_cmp, t_attr, t_has, t_idx, t_blt, t_call, t_meth, ta_nil, ta_cons, cTAnd_t, cTAnd_f, to_nil, to_cons, cTOr_t, cTOr_f, cTIte_t, cTIte_f, ti_nil, ti_cons, cTIf_t, cTIf_f, cAsg, x_asg, setT, cMls, x_mls, okSt_s, cSetA2, cSetA, x_setA, cSetI3, cSetI2, cSetI, x_setI, cAug2, cAug_s, x_aug, cApp2, cApp, x_app, cRet, x_ret, x_ite, cIf_t, cIf_f, x_for, body_one, x_try, cTry_ok, cTry_exc, cCatch_s, caught, hit, x_raise, cRaise_s, cRaise_t, x_asrt, cAsrt_t, x_cont, xs_nil, xs_cons, q_next, q_cont, q_ret, f_ret, f_next, run_s, bindGo, bk_nil, cNew_n, get_last, set_last, setF, hasA, vtruth, vb_add, vb_sub, vb_mul, vb_fdiv, vb_mod, vb_bor, vb_band, vb_lst, vb_byt, vb_str, vaug, vcmp, q_nn, q_bb, q_ii, q_ss, q_yy, q_ni, q_in, q_nb, q_bn, q_sy, q_ys, q_ny, q_yn, q_tt, q_ts, q_st, visame, vi_b_bool, vi_b_int, vi_b_str, vi_b_bytes, vi_b_type, vi_i_bool, vi_i_int, vi_i_str, vi_i_bytes, vi_i_type, vi_s_bool, vi_s_int, vi_s_str, vi_s_bytes, vi_s_type, vi_y_bool, vi_y_int, vi_y_str, vi_y_bytes, vi_y_type, vi_n_bool, vi_n_int, vi_n_str, vi_n_bytes, vi_n_type, w_int, w_isinst, w_bytes, w_list, w_str, w_issub, lo_b, lo_l, lo_t, len_b, len_l, len_t, unl, List.lookup, ibeq, f_Response_from_payload, p_res_new0, setA_Res, kr1, kr4, kr5, kr6, kr7, kr8, kr9, kr10, kr11, kr12, kr13, getA_Res (get_last _ _), rs0, Rs.o, ofSv, subV, datV, m20, m21, m23, p_from_req, p_from_res, p_has_data, hk, g14, g28, mc24, e1, idx_b0]
      · have hr2 : r2.length ≤ 498 := by simp at hr'; omega
        have e2 : ¬ ((r2.length : Int) + 1 + 1 < 1) := by omega
        have e3 : ¬ ((r2.length : Int) + 1 + 1 < 2) := by omega
        cases hf : findR c k with
        | none => simp [b_ok, b_exc, b_bad, o_ok, o_exc, x_v, x_p, x_vn, x_pn, c_ok, of_s, om_s, getL_s, l_0, l_s, e_lit, e_loc, cBin2, cBin, e_bin, e_inv, cInv_i, cCmp2, cCmp, e_cmp, e_and, e_or, cNot, e_not, e_ite, cIte_t, cIte_f, cTup, cLst, e_tup, e_lst, cIdx2, cIdx, e_idx, cSli3, cSli2, cSli, e_sli, cAttr, e_attr, cHas, e_has, cClsOf, e_clsOf, cNameOf, e_nameOf, cCall, e_call, cMeth3, cMeth2, cMeth1_s, cMeth, e_meth, e_blt, k_len, k_len0, k_len1, k_blt, cBltQ, e_bltQ, e_comp, cEvs2, cEvs, s_nil, s_cons, cAnd, k_andt, k_andf, a_one, a_cons, cOr, k_ort, k_orf, r_one, r_cons, cTru, cTNot, t_not, t_and, t_or, t_ite, t_lit, t_loc, t_cmp, t_attr, t_has, t_idx, t_blt, t_call, t_meth, ta_nil, ta_cons, cTAnd_t, cTAnd_f, to_nil, to_cons, cTOr_t, cTOr_f, cTIte_t, cTIte_f, ti_nil, ti_cons, cTIf_t, cTIf_f, cAsg, x_asg, setT, cMls, x_mls, okSt_s, cSetA2, cSetA, x_setA, cSetI3, cSetI2, cSetI, x_setI, cAug2, cAug_s, x_aug, cApp2, cApp, x_app, cRet, x_ret, x_ite, cIf_t, cIf_f, x_for, body_one, x_try, cTry_ok, cTry_exc, cCatch_s, caught, hit, x_raise, cRaise_s, cRaise_t, x_asrt, cAsrt_t, x_cont, xs_nil, xs_cons, q_next, q_cont, q_ret, f_ret, f_next, run_s, bindGo, bk_nil, cNew_n, get_last, set_last, setF, hasA, vtruth, vb_add, vb_sub, vb_mul, vb_fdiv, vb_mod, vb_bor, vb_band, vb_lst, vb_byt, vb_str, vaug, vcmp, q_nn, q_bb, q_ii, q_ss, q_yy, q_ni, q_in, q_nb, q_bn, q_sy, q_ys, q_ny, q_yn, q_tt, q_ts, q_st, visame, vi_b_bool, vi_b_int, vi_b_str, vi_b_bytes, vi_b_type, vi_i_bool, vi_i_int, vi_i_str, vi_i_bytes, vi_i_type, vi_s_bool, vi_s_int, vi_s_str, vi_s_bytes, vi_s_type, vi_y_bool, vi_y_int, vi_y_str, vi_y_bytes, vi_y_type, vi_n_bool, vi_n_int, vi_n_str, vi_n_bytes, vi_n_type, w_int, w_isinst, w_bytes, w_list, w_str, w_issub, lo_b, lo_l, lo_t, len_b, len_l, len_t, unl, List.lookup, ibeq, f_Response_from_payload, p_res_new0, setA_Res, kr1, kr4, kr5, kr6, kr7, kr8, kr9, kr10, kr11, kr12, kr13, getA_Res (get_last _ _), rs0, Rs.o, ofSv, subV, datV, m20, m21, m23, p_from_req, p_from_res, p_has_data, hk, g14, g28, mc24, e2, e3, idx_b0, idx_b1, hf, show r2.length + 1 ≤ 1000 by omega, show r2.length ≤ 1000 by omega, show r2.length + 1 + 1 ≤ 1000 by omega]
        | some v =>
          rcases r2 with _ | ⟨e, r3⟩
          · simp [b_ok, b_exc, b_bad, o_ok, o_exc, x_v, x_p, x_vn, x_pn, c_ok, of_s, om_s, getL_s, l_0, l_s, e_lit, e_loc, cBin2, cBin, e_bin, e_inv, cInv_i, cCmp2, cCmp, e_cmp, e_and, e_or, cNot, e_not, e_ite, cIte_t, cIte_f, cTup, cLst, e_tup, e_lst, cIdx2, cIdx, e_idx, cSli3, cSli2, cSli, e_sli, cAttr, e_attr, cHas, e_has, cClsOf, e_clsOf, cNameOf, e_nameOf, cCall, e_call, cMeth3, cMeth2, cMeth1_s, cMeth, e_meth, e_blt, k_len, k_len0, k_len1, k_blt, cBltQ, e_bltQ, e_comp, cEvs2, cEvs, s_nil, s_cons, cAnd, k_andt, k_andf, a_one, a_cons, cOr, k_ort, k_orf, r_one, r_cons, cTru, cTNot, t_not, t_and, t_or, t_ite, t_lit, t_loc, t_cmp, t_attr, t_has, t_idx, t_blt, t_call, t_meth, ta_nil, ta_cons, cTAnd_t, cTAnd_f, to_nil, to_cons, cTOr_t, cTOr_f, cTIte_t, cTIte_f, ti_nil, ti_cons, cTIf_t, cTIf_f, cAsg, x_asg, setT, cMls, x_mls, okSt_s, cSetA2, cSetA, x_setA, cSetI3, cSetI2, cSetI, x_setI, cAug2, cAug_s, x_aug, cApp2, cApp, x_app, cRet, x_ret, x_ite, cIf_t, cIf_f, x_for, body_one, x_try, cTry_ok, cTry_exc, cCatch_s, caught, hit, x_raise, cRaise_s, cRaise_t, x_asrt, cAsrt_t, x_cont, xs_nil, xs_cons, q_next, q_cont, q_ret, f_ret, f_next, run_s, bindGo, bk_nil, cNew_n, get_last, set_last, setF, hasA, vtruth, vb_add, vb_sub, vb_mul, vb_fdiv, vb_mod, vb_bor, vb_band, vb_lst, vb_byt, vb_str, vaug, vcmp, q_nn, q_bb, q_ii, q_ss, q_yy, q_ni, q_in, q_nb, q_bn, q_sy, q_ys, q_ny, q_yn, q_tt, q_ts, q_st, visame, vi_b_bool, vi_b_int, vi_b_str, vi_b_bytes, vi_b_type, vi_i_bool, vi_i_int, vi_i_str, vi_i_bytes, vi_i_type, vi_s_bool, vi_s_int, vi_s_str, vi_s_bytes, vi_s_type, vi_y_bool, vi_y_int, vi_y_str, vi_y_bytes, vi_y_type, vi_n_bool, vi_n_int, vi_n_str, vi_n_bytes, vi_n_type, w_int, w_isinst, w_bytes, w_list, w_str, w_issub, lo_b, lo_l, lo_t, len_b, len_l, len_t, unl, List.lookup, ibeq, f_Response_from_payload, p_res_new0, setA_Res, kr1, kr4, kr5, kr6, kr7, kr8, kr9, kr10, kr11, kr12, kr13, getA_Res (get_last _ _), rs0, Rs.o, ofSv, subV, datV, m20, m21, m23, p_from_req, p_from_res, p_has_data, hk, g14, g28, mc24, idx_b0, idx_b1, hf]
          · have hr3 : r3.length ≤ 497 := by simp at hr2; omega
            have e4 : ¬ ((r3.length : Int) + 1 + 1 + 1 < 1) := by omega
            have e5 : ¬ ((r3.length : Int) + 1 + 1 + 1 < 2) := by omega
            have e6 : ¬ ((r3.length : Int) + 1 + 1 + 1 < 3) := by omega
            have hse : small e = true := small_oct (ho e (by simp))
            rcases r3 with _ | ⟨g, r4⟩
            · simp [b_ok, b_exc, b_bad, o_ok, o_exc, x_v, x_p, x_vn, x_pn, c_ok, of_s, om_s, getL_s, l_0, l_s, e_lit, e_loc, cBin2, cBin, e_bin, e_inv, cInv_i, cCmp2, cCmp, e_cmp, e_and, e_or, cNot, e_not, e_ite, cIte_t, cIte_f, cTup, cLst, e_tup, e_lst, cIdx2, cIdx, e_idx, cSli3, cSli2, cSli, e_sli, cAttr, e_attr, cHas, e_has, cClsOf, e_clsOf, cNameOf, e_nameOf, cCall, e_call, cMeth3, cMeth2, cMeth1_s, cMeth, e_meth, e_blt, k_len, k_len0, k_len1, k_blt, cBltQ, e_bltQ, e_comp, cEvs2, cEvs, s_nil, s_cons, cAnd, k_andt, k_andf, a_one, a_cons, cOr, k_ort, k_orf, r_one, r_cons, cTru, cTNot, t_not, t_and, t_or, t_ite, t_lit, t_loc, t_cmp, t_attr, t_has, t_idx, t_blt, t_call, t_meth, ta_nil, ta_cons, cTAnd_t, cTAnd_f, to_nil, to_cons, cTOr_t, cTOr_f, cTIte_t, cTIte_f, ti_nil, ti_cons, cTIf_t, cTIf_f, cAsg, x_asg, setT, cMls, x_mls, okSt_s, cSetA2, cSetA, x_setA, cSetI3, cSetI2, cSetI, x_setI, cAug2, cAug_s, x_aug, cApp2, cApp, x_app, cRet, x_ret, x_ite, cIf_t, cIf_f, x_for, body_one, x_try, cTry_ok, cTry_exc, cCatch_s, caught, hit, x_raise, cRaise_s, cRaise_t, x_asrt, cAsrt_t, x_cont, xs_nil, xs_cons, q_next, q_cont, q_ret, f_ret, f_next, run_s, bindGo, bk_nil, cNew_n, get_last, set_last, setF, hasA, vtruth, vb_add, vb_sub, vb_mul, vb_fdiv, vb_mod, vb_bor, vb_band, vb_lst, vb_byt, vb_str, vaug, vcmp, q_nn, q_bb, q_ii, q_ss, q_yy, q_ni, q_in, q_nb, q_bn, q_sy, q_ys, q_ny, q_yn, q_tt, q_ts, q_st, visame, vi_b_bool, vi_b_int, vi_b_str, vi_b_bytes, vi_b_type, vi_i_bool, vi_i_int, vi_i_str, vi_i_bytes, vi_i_type, vi_s_bool, vi_s_int, vi_s_str, vi_s_bytes, vi_s_type, vi_y_bool, vi_y_int, vi_y_str, vi_y_bytes, vi_y_type, vi_n_bool, vi_n_int, vi_n_str, vi_n_bytes, vi_n_type, w_int, w_isinst, w_bytes, w_list, w_str, w_issub, lo_b, lo_l, lo_t, len_b, len_l, len_t, unl, List.lookup, ibeq, f_Response_from_payload, p_res_new0, setA_Res, kr1, kr4, kr5, kr6, kr7, kr8, kr9, kr10, kr11, kr12, kr13, getA_Res (get_last _ _), rs0, Rs.o, ofSv, subV, datV, m20, m21, m23, p_from_req, p_from_res, p_has_data, hk, g14, g28, mc24, e4, e5, e6, idx_b0, idx_b1, idx_b2, hf, hse, p_code_name]
            · have hr4 : r4.length ≤ 496 := by simp at hr3; omega
              simp [b_ok, b_exc, b_bad, o_ok, o_exc, x_v, x_p, x_vn, x_pn, c_ok, of_s, om_s, getL_s, l_0, l_s, e_lit, e_loc, cBin2, cBin, e_bin, e_inv, cInv_i, cCmp2, cCmp, e_cmp, e_and, e_or, cNot, e_not, e_ite, cIte_t, cIte_f, cTup, cLst, e_tup, e_lst, cIdx2, cIdx, e_idx, cSli3, cSli2, cSli, e_sli, cAttr, e_attr, cHas, e_has, cClsOf, e_clsOf, cNameOf, e_nameOf, cCall, e_call, cMeth3, cMeth2, cMeth1_s, cMeth, e_meth, e_blt, k_len, k_len0, k_len1, k_blt, cBltQ, e_bltQ, e_comp, cEvs2, cEvs, s_nil, s_cons, cAnd, k_andt, k_andf, a_one, a_cons, cOr, k_ort, k_orf, r_one, r_cons, cTru, cTNot, t_not, t_and, t_or, t_ite, t_lit, t_loc, t_cmp, t_attr, t_has, t_idx, t_blt, t_call, t_meth, ta_nil, ta_cons, cTAnd_t, cTAnd_f, to_nil, to_cons, cTOr_t, cTOr_f, cTIte_t, cTIte_f, ti_nil, ti_cons, cTIf_t, cTIf_f, cAsg, x_asg, setT, cMls, x_mls, okSt_s, cSetA2, cSetA, x_setA, cSetI3, cSetI2, cSetI, x_setI, cAug2, cAug_s, x_aug, cApp2, cApp, x_app, cRet, x_ret, x_ite, cIf_t, cIf_f, x_for, body_one, x_try, cTry_ok, cTry_exc, cCatch_s, caught, hit, x_raise, cRaise_s, cRaise_t, x_asrt, cAsrt_t, x_cont, xs_nil, xs_cons, q_next, q_cont, q_ret, f_ret, f_next, run_s, bindGo, bk_nil, cNew_n, get_last, set_last, setF, hasA, vtruth, vb_add, vb_sub, vb_mul, vb_fdiv, vb_mod, vb_bor, vb_band, vb_lst, vb_byt, vb_str, vaug, vcmp, q_nn, q_bb, q_ii, q_ss, q_yy, q_ni, q_in, q_nb, q_bn, q_sy, q_ys, q_ny, q_yn, q_tt, q_ts, q_st, visame, vi_b_bool, vi_b_int, vi_b_str, vi_b_bytes, vi_b_type, vi_i_bool, vi_i_int, vi_i_str, vi_i_bytes, vi_i_type, vi_s_bool, vi_s_int, vi_s_str, vi_s_bytes, vi_s_type, vi_y_bool, vi_y_int, vi_y_str, vi_y_bytes, vi_y_type, vi_n_bool, vi_n_int, vi_n_str, vi_n_bytes, vi_n_type, w_int, w_isinst, w_bytes, w_list, w_str, w_issub, lo_b, lo_l, lo_t, len_b, len_l, len_t, unl, List.lookup, ibeq, f_Response_from_payload, p_res_new0, setA_Res, kr1, kr4, kr5, kr6, kr7, kr8, kr9, kr10, kr11, kr12, kr13, getA_Res (get_last _ _), rs0, Rs.o, ofSv, subV, datV, m20, m21, m23, p_from_req, p_from_res, p_has_data, hk, g14, g28, mc24, e4, e5, e6, idx_b0, idx_b1, idx_b2, hf, hse, p_code_name, sli_b3, show r4.length + 1 + 1 + 1 + 1 ≤ 1000 by omega, show r4.length + 1 + 1 ≤ 1000 by omega, show r4.length + 1 + 1 + 1 ≤ 1000 by omega, show r4.length + 1 ≤ 1000 by omega, show r4.length + 1 ≤ 900 by omega, show ¬ ((r4.length : Int) + 1 + 1 + 1 + 1 < 1) by omega, show ¬ ((r4.length : Int) + 1 + 1 + 1 + 1 < 2) by omega, show ¬ ((r4.length : Int) + 1 + 1 + 1 + 1 < 3) by omega, show (3 : Int) < (r4.length : Int) + 1 + 1 + 1 + 1 by omega]
    · cases hf : findA b k with
      | none => simp [b_ok, b_exc, b_bad, o_ok, o_exc, x_v, x_p, x_vn, x_pn, c_ok, of_s, om_s, getL_s, l_0, l_s, e_lit, e_loc, cBin2, cBin, e_bin, e_inv, cInv_i, cCmp2, cCmp, e_cmp, e_and, e_or, cNot, e_not, e_ite, cIte_t, cIte_f, cTup, cLst, e_tup, e_lst, cIdx2, cIdx, e_idx, cSli3, cSli2, cSli, e_sli, cAttr, e_attr, cHas, e_has, cClsOf, e_clsOf, cNameOf, e_nameOf, cCall, e_call, cMeth3, cMeth2, cMeth1_s, cMeth, e_meth, e_blt, k_len, k_len0, k_len1, k_blt, cBltQ, e_bltQ, e_comp, cEvs2, cEvs, s_nil, s_cons, cAnd, k_andt, k_andf, a_one, a_cons, cOr, k_ort, k_orf, r_one, r_cons, cTru, cTNot, t_not, t_and, t_or, t_ite, t_lit, t_loc, t_cmp, t_attr, t_has, t_idx, t_blt, t_call, t_meth, ta_nil, ta_cons, cTAnd_t, cTAnd_f, to_nil, to_cons, cTOr_t, cTOr_f, cTIte_t, cTIte_f, ti_nil, ti_cons, cTIf_t, cTIf_f, cAsg, x_asg, setT, cMls, x_mls, okSt_s, cSetA2, cSetA, x_setA, cSetI3, cSetI2, cSetI, x_setI, cAug2, cAug_s, x_aug, cApp2, cApp, x_app, cRet, x_ret, x_ite, cIf_t, cIf_f, x_for, body_one, x_try, cTry_ok, cTry_exc, cCatch_s, caught, hit, x_raise, cRaise_s, cRaise_t, x_asrt, cAsrt_t, x_cont, xs_nil, xs_cons, q_next, q_cont, q_ret, f_ret, f_next, run_s, bindGo, bk_nil, cNew_n, get_last, set_last, setF, hasA, vtruth, vb_add, vb_sub, vb_mul, vb_fdiv, vb_mod, vb_bor, vb_band, vb_lst, vb_byt, vb_str, vaug, vcmp, q_nn, q_bb, q_ii, q_ss, q_yy, q_ni, q_in, q_nb, q_bn, q_sy, q_ys, q_ny, q_yn, q_tt, q_ts, q_st, visame, vi_b_bool, vi_b_int, vi_b_str, vi_b_bytes, vi_b_type, vi_i_bool, vi_i_int, vi_i_str, vi_i_bytes, vi_i_type, vi_s_bool, vi_s_int, vi_s_str, vi_s_bytes, vi_s_type, vi_y_bool, vi_y_int, vi_y_str, vi_y_bytes, vi_y_type, vi_n_bool, vi_n_int, vi_n_str, vi_n_bytes, vi_n_type, w_int, w_isinst, w_bytes, w_list, w_str, w_issub, lo_b, lo_l, lo_t, len_b, len_l, len_t, unl, List.lookup, ibeq, f_Response_from_payload, p_res_new0, setA_Res, kr1, kr4, kr5, kr6, kr7, kr8, kr9, kr10, kr11, kr12, kr13, getA_Res (get_last _ _), rs0, Rs.o, ofSv, subV, datV, m20, m21, m23, p_from_req, p_from_res, p_has_data, hk, g14, g28, mc24, e1, hb, idx_b0, hf, show r.length + 1 ≤ 1000 by omega, show r.length ≤ 1000 by omega]
      | some v =>
        rcases r with _ | ⟨c, r2⟩
        · simp [b_ok, b_exc, b_bad, o_ok, o_exc, x_v, x_p, x_vn, x_pn, c_ok, of_s, om_s, getL_s, l_0, l_s, e_lit, e_loc, cBin2, cBin, e_bin, e_inv, cInv_i, cCmp2, cCmp, e_cmp, e_and, e_or, cNot, e_not, e_ite, cIte_t, cIte_f, cTup, cLst, e_tup, e_lst, cIdx2, cIdx, e_idx, cSli3, cSli2, cSli, e_sli, cAttr, e_attr, cHas, e_has, cClsOf, e_clsOf, cNameOf, e_nameOf, cCall, e_call, cMeth3, cMeth2, cMeth1_s, cMeth, e_meth, e_blt, k_len, k_len0, k_len1, k_blt, cBltQ, e_bltQ, e_comp, cEvs2, cEvs, s_nil, s_cons, cAnd, k_andt, k_andf, a_one, a_cons, cOr, k_ort, k_orf, r_one, r_cons, cTru, cTNot, t_not, t_and, t_or, t_ite, t_lit, t_loc, t_cmp, t_attr, t_has, t_idx, t_blt, t_call, t_meth, ta_nil, ta_cons, cTAnd_t, cTAnd_f, to_nil, to_cons, cTOr_t, cTOr_f, cTIte_t, cTIte_f, ti_nil, ti_cons, cTIf_t, cTIf_f, cAsg, x_asg, setT, cMls, x_mls, okSt_s, cSetA2, cSetA, x_setA, cSetI3, cSetI2, cSetI, x_setI, cAug2, cAug_s, x_aug, cApp2, cApp, x_app, cRet, x_ret, x_ite, cIf_t, cIf_f, x_for, body_one, x_try, cTry_ok, cTry_exc, cCatch_s, caught, hit, x_raise, cRaise_s, cRaise_t, x_asrt, cAsrt_t, x_cont, xs_nil, xs_cons, q_next, q_cont, q_ret, f_ret, f_next, run_s, bindGo, bk_nil, cNew_n, get_last, set_last, setF, hasA, vtruth, vb_add, vb_sub, vb_mul, vb_fdiv, vb_mod, vb_bor, vb_band, vb_lst, vb_byt, vb_str, vaug, vcmp, q_nn, q_bb, q_ii, q_ss, q_yy, q_ni, q_in, q_nb, q_bn, q_sy, q_ys, q_ny, q_yn, q_tt, q_ts, q_st, visame, vi_b_bool, vi_b_int, vi_b_str, vi_b_bytes, vi_b_type, vi_i_bool, vi_i_int, vi_i_str, vi_i_bytes, vi_i_type, vi_s_bool, vi_s_int, vi_s_str, vi_s_bytes, vi_s_type, vi_y_bool, vi_y_int, vi_y_str, vi_y_bytes, vi_y_type, vi_n_bool, vi_n_int, vi_n_str, vi_n_bytes, vi_n_type, w_int, w_isinst, w_bytes, w_list, w_str, w_issub, lo_b, lo_l, lo_t, len_b, len_l, len_t, unl, List.lookup, ibeq, f_Response_from_payload, p_res_new0, setA_Res, kr1, kr4, kr5, kr6, kr7, kr8, kr9, kr10, kr11, kr12, kr13, getA_Res (get_last _ _), rs0, Rs.o, ofSv, subV, datV, m20, m21, m23, p_from_req, p_from_res, p_has_data, hk, g14, g28, mc24, hb, idx_b0, hf]
        · have hr2 : r2.length ≤ 498 := by simp at hr'; omega
          simp [b_ok, b_exc, b_bad, o_ok, o_exc, x_v, x_p, x_vn, x_pn, c_ok, of_s, om_s, getL_s, l_0, l_s, e_lit, e_loc, cBin2, cBin, e_bin, e_inv, cInv_i, cCmp2, cCmp, e_cmp, e_and, e_or, cNot, e_not, e_ite, cIte_t, cIte_f, cTup, cLst, e_tup, e_lst, cIdx2, cIdx, e_idx, cSli3, cSli2, cSli, e_sli, cAttr, e_attr, cHas, e_has, cClsOf, e_clsOf, cNameOf, e_nameOf, cCall, e_call, cMeth3, cMeth2, cMeth1_s, cMeth, e_meth, e_blt, k_len, k_len0, k_len1, k_blt, cBltQ, e_bltQ, e_comp, cEvs2, cEvs, s_nil, s_cons, cAnd, k_andt, k_andf, a_one, a_cons, cOr, k_ort, k_orf, r_one, r_cons, cTru, cTNot, t_not, t_and, t_or, t_ite, t_lit, t_loc, t_cmp, t_attr, t_has, t_idx, t_blt, t_call, t_meth, ta_nil, ta_cons, cTAnd_t, cTAnd_f, to_nil, to_cons, cTOr_t, cTOr_f, cTIte_t, cTIte_f, ti_nil, ti_cons, cTIf_t, cTIf_f, cAsg, x_asg, setT, cMls, x_mls, okSt_s, cSetA2, cSetA, x_setA, cSetI3, cSetI2, cSetI, x_setI, cAug2, cAug_s, x_aug, cApp2, cApp, x_app, cRet, x_ret, x_ite, cIf_t, cIf_f, x_for, body_one, x_try, cTry_ok, cTry_exc, cCatch_s, caught, hit, x_raise, cRaise_s, cRaise_t, x_asrt, cAsrt_t, x_cont, xs_nil, xs_cons, q_next, q_cont, q_ret, f_ret, f_next, run_s, bindGo, bk_nil, cNew_n, get_last, set_last, setF, hasA, vtruth, vb_add, vb_sub, vb_mul, vb_fdiv, vb_mod, vb_bor, vb_band, vb_lst, vb_byt, vb_str, vaug, vcmp, q_nn, q_bb, q_ii, q_ss, q_yy, q_ni, q_in, q_nb, q_bn, q_sy, q_ys, q_ny, q_yn, q_tt, q_ts, q_st, visame, vi_b_bool, vi_b_int, vi_b_str, vi_b_bytes, vi_b_type, vi_i_bool, vi_i_int, vi_i_str, vi_i_bytes, vi_i_type, vi_s_bool, vi_s_int, vi_s_str, vi_s_bytes, vi_s_type, vi_y_bool, vi_y_int, vi_y_str, vi_y_bytes, vi_y_type, vi_n_bool, vi_n_int, vi_n_str, vi_n_bytes, vi_n_type, w_int, w_isinst, w_bytes, w_list, w_str, w_issub, lo_b, lo_l, lo_t, len_b, len_l, len_t, unl, List.lookup, ibeq, f_Response_from_payload, p_res_new0, setA_Res, kr1, kr4, kr5, kr6, kr7, kr8, kr9, kr10, kr11, kr12, kr13, getA_Res (get_last _ _), rs0, Rs.o, ofSv, subV, datV, m20, m21, m23, p_from_req, p_from_res, p_has_data, hk, g14, g28, mc24, hb, idx_b0, hf, p_code_name, sli_b1, show r2.length + 1 ≤ 1000 by omega, show r2.length + 1 + 1 ≤ 1000 by omega, show r2.length + 1 ≤ 900 by omega, show ¬ ((r2.length : Int) + 1 + 1 < 1) by omega, show ¬ ((r2.length : Int) + 1 + 1 < 2) by omega, show (1 : Int) < (r2.length : Int) + 1 + 1 by omega, show small 0 = true by decide]
end Mine

namespace Mine
open PySem
def Rs.lay (r : Rs) : Lay := match r.s, r.code with
  | some v, some c => if r.pos then .by ((v.id + 64) :: r.d) else if 0 ≤ c ∧ c ≤ 255 then .by (127 :: v.id :: c :: r.d) else .pack
  | _, _ => .val
theorem bsm (v : Sv) : a_BaseService ∈ v.c.mro := by cases v <;> decide
theorem id_ok64 (v : Sv) : 0 ≤ v.id + 64 ∧ v.id + 64 ≤ 255 := by cases v <;> decide
theorem m25s {σ : St} {i : Nat} {r : Rs} (h : σ[i]? = some r.o) : findM T σ 25 (.obj i) = some (a_Response_get_payload, .obj i) := by
  unfold findM
  simp only [h, Rs.o]
  rfl
theorem p_res_lay {i : Nat} (r : Rs) (n : Nat) (σ : St) (h : σ[i]? = some r.o) (hd : r.d.length ≤ 500) (hu : ∀ x, r.code = some x → small x = true) : callN T (n+2) a_Response_get_payload [.obj i] [] σ = r.lay.r σ := by
  rw [open_ fn_res_lay]
  obtain ⟨s, pos, code, name, valid, why, orig, d⟩ := r
  have h' : σ[i]? = some (.inst a_Response [(1, ofSv s), (6, .bool pos), (5, subV code), (13, name), (7, .bool valid), (8, .str why), (9, .none), (10, datV orig), (11, .bool false), (12, .none), (4, .bytes d)]) := h
  unfold Rs.lay
  dsimp only at hd hu ⊢
  cases s with
  | none => simp [b_ok, b_exc, b_bad, o_ok, o_exc, x_v, x_p, x_vn, x_pn, c_ok, of_s, om_s, getL_s, l_0, l_s, e_lit, e_loc, cBin2, cBin, e_bin, e_inv, cInv_i, cCmp2, cCmp, e_cmp, e_and, e_or, cNot, e_not, e_ite, cIte_t, cIte_f, cTup, cLst, e_tup, e_lst, cIdx2, cIdx, e_idx, cSli3, cSli2, cSli, e_sli, cAttr, e_attr, cHas, e_has, cClsOf, e_clsOf, cNameOf, e_nameOf, cCall, e_call, cMeth3, cMeth2, cMeth1_s, cMeth, e_meth, e_blt, k_len, k_len0, k_len1, k_blt, cBltQ, e_bltQ, e_comp, cEvs2, cEvs, s_nil, s_cons, cAnd, k_andt, k_andf, a_one, a_cons, cOr, k_ort, k_orf, r_one, r_cons, cTru, cTNot, t_not, t_and, t_or, t_ite, t_lit, t_loc, t_cmp, t_attr, t_has, t_idx, t_blt, t_call, t_meth, ta_nil, ta_cons, cTAnd_t, cTAnd_f, to_nil, to_cons, cTOr_t, cTOr_f, cTIte_t, cTIte_f, ti_nil, ti_cons, cTIf_t, cTIf_f, cAsg, x_asg, setT, cMls, x_mls, okSt_s, cSetA2, cSetA, x_setA, cSetI3, cSetI2, cSetI, x_setI, cAug2, cAug_s, x_aug, cApp2, cApp, x_app, cRet, x_ret, x_ite, cIf_t, cIf_f, x_for, body_one, x_try, cTry_ok, cTry_exc, cCatch_s, caught, hit, x_raise, cRaise_s, cRaise_t, x_asrt, cAsrt_t, x_cont, xs_nil, xs_cons, q_next, q_cont, q_ret, f_ret, f_next, run_s, bindGo, bk_nil, cNew_n, get_last, set_last, setF, hasA, vtruth, vb_add, vb_sub, vb_mul, vb_fdiv, vb_mod, vb_bor, vb_band, vb_lst, vb_byt, vb_str, vaug, vcmp, q_nn, q_bb, q_ii, q_ss, q_yy, q_ni, q_in, q_nb, q_bn, q_sy, q_ys, q_ny, q_yn, q_tt, q_ts, q_st, visame, vi_b_bool, vi_b_int, vi_b_str, vi_b_bytes, vi_b_type, vi_i_bool, vi_i_int, vi_i_str, vi_i_bytes, vi_i_type, vi_s_bool, vi_s_int, vi_s_str, vi_s_bytes, vi_s_type, vi_y_bool, vi_y_int, vi_y_str, vi_y_bytes, vi_y_type, vi_n_bool, vi_n_int, vi_n_str, vi_n_bytes, vi_n_type, w_int, w_isinst, w_bytes, w_list, w_str, w_issub, lo_b, lo_l, lo_t, len_b, len_l, len_t, unl, List.lookup, ibeq, f_Response_get_payload, getA_Res h', kr1, kr4, kr5, kr6, kr7, kr8, kr9, kr10, kr11, kr12, kr13, ofSv, subV, datV, Lay.r, iss, m18, m19, m23, p_request_id, p_response_id, p_has_data, w_pack, w_packX, id_ok, id_ok64, roomL, cl_sv, cl_BS, bsm, in_cls, in_cls]
  | some v =>
    cases code with
    | none => simp [b_ok, b_exc, b_bad, o_ok, o_exc, x_v, x_p, x_vn, x_pn, c_ok, of_s, om_s, getL_s, l_0, l_s, e_lit, e_loc, cBin2, cBin, e_bin, e_inv, cInv_i, cCmp2, cCmp, e_cmp, e_and, e_or, cNot, e_not, e_ite, cIte_t, cIte_f, cTup, cLst, e_tup, e_lst, cIdx2, cIdx, e_idx, cSli3, cSli2, cSli, e_sli, cAttr, e_attr, cHas, e_has, cClsOf, e_clsOf, cNameOf, e_nameOf, cCall, e_call, cMeth3, cMeth2, cMeth1_s, cMeth, e_meth, e_blt, k_len, k_len0, k_len1, k_blt, cBltQ, e_bltQ, e_comp, cEvs2, cEvs, s_nil, s_cons, cAnd, k_andt, k_andf, a_one, a_cons, cOr, k_ort, k_orf, r_one, r_cons, cTru, cTNot, t_not, t_and, t_or, t_ite, t_lit, t_loc, t_cmp, t_attr, t_has, t_idx, t_blt, t_call, t_meth, ta_nil, ta_cons, cTAnd_t, cTAnd_f, to_nil, to_cons, cTOr_t, cTOr_f, cTIte_t, cTIte_f, ti_nil, ti_cons, cTIf_t, cTIf_f, cAsg, x_asg, setT, cMls, x_mls, okSt_s, cSetA2, cSetA, x_setA, cSetI3, cSetI2, cSetI, x_setI, cAug2, cAug_s, x_aug, cApp2, cApp, x_app, cRet, x_ret, x_ite, cIf_t, cIf_f, x_for, body_one, x_try, cTry_ok, cTry_exc, cCatch_s, caught, hit, x_raise, cRaise_s, cRaise_t, x_asrt, cAsrt_t, x_cont, xs_nil, xs_cons, q_next, q_cont, q_ret, f_ret, f_next, run_s, bindGo, bk_nil, cNew_n, get_last, set_last, setF, hasA, vtruth, vb_add, vb_sub, vb_mul, vb_fdiv, vb_mod, vb_bor, vb_band, vb_lst, vb_byt, vb_str, vaug, vcmp, q_nn, q_bb, q_ii, q_ss, q_yy, q_ni, q_in, q_nb, q_bn, q_sy, q_ys, q_ny, q_yn, q_tt, q_ts, q_st, visame, vi_b_bool, vi_b_int, vi_b_str, vi_b_bytes, vi_b_type, vi_i_bool, vi_i_int, vi_i_str, vi_i_bytes, vi_i_type, vi_s_bool, vi_s_int, vi_s_str, vi_s_bytes, vi_s_type, vi_y_bool, vi_y_int, vi_y_str, vi_y_bytes, vi_y_type, vi_n_bool, vi_n_int, vi_n_str, vi_n_bytes, vi_n_type, w_int, w_isinst, w_bytes, w_list, w_str, w_issub, lo_b, lo_l, lo_t, len_b, len_l, len_t, unl, List.lookup, ibeq, f_Response_get_payload, getA_Res h', kr1, kr4, kr5, kr6, kr7, kr8, kr9, kr10, kr11, kr12, kr13, ofSv, subV, datV, Lay.r, iss, m18, m19, m23, p_request_id, p_response_id, p_has_data, w_pack, w_packX, id_ok, id_ok64, roomL, cl_sv, cl_BS, bsm, in_cls, in_cls]
    | some c =>
      have hs := hu c rfl
      cases pos with
      | true => simp [b_ok, b_exc, b_bad, o_ok, o_exc, x_v, x_p, x_vn, x_pn, c_ok, of_s, om_s, getL_s, l_0, l_s, e_lit, e_loc, cBin2, cBin, e_bin, e_inv, cInv_i, cCmp2, cCmp, e_cmp, e_and, e_or, cNot, e_not, e_ite, cIte_t, cIte_f, cTup, cLst, e_tup, e_lst, cIdx2, cIdx, e_idx, cSli3, cSli2, cSli, e_sli, cAttr, e_attr, cHas, e_has, cClsOf, e_clsOf, cNameOf, e_nameOf, cCall, e_call, cMeth3, cMeth2, cMeth1_s, cMeth, e_meth, e_blt, k_len, k_len0, k_len1, k_blt, cBltQ, e_bltQ, e_comp, cEvs2, cEvs, s_nil, s_cons, cAnd, k_andt, k_andf, a_one, a_cons, cOr, k_ort, k_orf, r_one, r_cons, cTru, cTNot, t_not, t_and, t_or, t_ite, t_lit, t_loc, t_cmp, t_attr, t_has, t_idx, t_blt, t_call, t_meth, ta_nil, ta_cons, cTAnd_t, cTAnd_f, to_nil, to_cons, cTOr_t, cTOr_f, cTIte_t, cTIte_f, ti_nil, ti_cons, cTIf_t, cTIf_f, cAsg, x_asg, setT, cMls, x_mls, okSt_s, cSetA2, cSetA, x_setA, cSetI3, cSetI2, cSetI, x_setI, cAug2, cAug_s, x_aug, cApp2, cApp, x_app, cRet, x_ret, x_ite, cIf_t, cIf_f, x_for, body_one, x_try, cTry_ok, cTry_exc, cCatch_s, caught, hit, x_raise, cRaise_s, cRaise_t, x_asrt, cAsrt_t, x_cont, xs_nil, xs_cons, q_next, q_cont, q_ret, f_ret, f_next, run_s, bindGo, bk_nil, cNew_n, get_last, set_last, setF, hasA, vtruth, vb_add, vb_sub, vb_mul, vb_fdiv, vb_mod, vb_bor, vb_band, vb_lst, vb_byt, vb_str, vaug, vcmp, q_nn, q_bb, q_ii, q_ss, q_yy, q_ni, q_in, q_nb, q_bn, q_sy, q_ys, q_ny, q_yn, q_tt, q_ts, q_st, visame, vi_b_bool, vi_b_int, vi_b_str, vi_b_bytes, vi_b_type, vi_i_bool, vi_i_int, vi_i_str, vi_i_bytes, vi_i_type, vi_s_bool, vi_s_int, vi_s_str, vi_s_bytes, vi_s_type, vi_y_bool, vi_y_int, vi_y_str, vi_y_bytes, vi_y_type, vi_n_bool, vi_n_int, vi_n_str, vi_n_bytes, vi_n_type, w_int, w_isinst, w_bytes, w_list, w_str, w_issub, lo_b, lo_l, lo_t, len_b, len_l, len_t, unl, List.lookup, ibeq, f_Response_get_payload, getA_Res h', kr1, kr4, kr5, kr6, kr7, kr8, kr9, kr10, kr11, kr12, kr13, ofSv, subV, datV, Lay.r, iss, m18, m19, m23, p_request_id, p_response_id, p_has_data, w_pack, w_packX, id_ok, id_ok64, roomL, cl_sv, cl_BS, bsm, in_cls, show 1 + d.length ≤ 1000 by omega, show d.length + 1 ≤ 1000 by omega]
      | false =>
        by_cases hy : 0 ≤ c ∧ c ≤ 255
        · simp [b_ok, b_exc, b_bad, o_ok, o_exc, x_v, x_p, x_vn, x_pn, c_ok, of_s, om_s, getL_s, l_0, l_s, e_lit, e_loc, cBin2, cBin, e_bin, e_inv, cInv_i, cCmp2, cCmp, e_cmp, e_and, e_or, cNot, e_not, e_ite, cIte_t, cIte_f, cTup, cLst, e_tup, e_lst, cIdx2, cIdx, e_idx, cSli3, cSli2, cSli, e_sli, cAttr, e_attr, cHas, e_has, cClsOf, e_clsOf, cNameOf, e_nameOf, cCall, e_call, cMeth3, cMeth2, cMeth1_s, cMeth, e_meth, e_blt, k_len, k_len0, k_len1, k_blt, cBltQ, e_bltQ, e_comp, cEvs2, cEvs, s_nil, s_cons, cAnd, k_andt, k_andf, a_one, a_cons, cOr, k_ort, k_orf, r_one, r_cons, cTru, cTNot, t_not, t_and, t_or, t_ite, t_lit, t_loc, t_cmp, t_attr, t_has, t_idx, t_blt, t_call, t_meth, ta_nil, ta_cons, cTAnd_t, cTAnd_f, to_nil, to_cons, cTOr_t, cTOr_f, cTIte_t, cTIte_f, ti_nil, ti_cons, cTIf_t, cTIf_f, cAsg, x_asg, setT, cMls, x_mls, okSt_s, cSetA2, cSetA, x_setA, cSetI3, cSetI2, cSetI, x_setI, cAug2, cAug_s, x_aug, cApp2, cApp, x_app, cRet, x_ret, x_ite, cIf_t, cIf_f, x_for, body_one, x_try, cTry_ok, cTry_exc, cCatch_s, caught, hit, x_raise, cRaise_s, cRaise_t, x_asrt, cAsrt_t, x_cont, xs_nil, xs_cons, q_next, q_cont, q_ret, f_ret, f_next, run_s, bindGo, bk_nil, cNew_n, get_last, set_last, setF, hasA, vtruth, vb_add, vb_sub, vb_mul, vb_fdiv, vb_mod, vb_bor, vb_band, vb_lst, vb_byt, vb_str, vaug, vcmp, q_nn, q_bb, q_ii, q_ss, q_yy, q_ni, q_in, q_nb, q_bn, q_sy, q_ys, q_ny, q_yn, q_tt, q_ts, q_st, visame, vi_b_bool, vi_b_int, vi_b_str, vi_b_bytes, vi_b_type, vi_i_bool, vi_i_int, vi_i_str, vi_i_bytes, vi_i_type, vi_s_bool, vi_s_int, vi_s_str, vi_s_bytes, vi_s_type, vi_y_bool, vi_y_int, vi_y_str, vi_y_bytes, vi_y_type, vi_n_bool, vi_n_int, vi_n_str, vi_n_bytes, vi_n_type, w_int, w_isinst, w_bytes, w_list, w_str, w_issub, lo_b, lo_l, lo_t, len_b, len_l, len_t, unl, List.lookup, ibeq, f_Response_get_payload, getA_Res h', kr1, kr4, kr5, kr6, kr7, kr8, kr9, kr10, kr11, kr12, kr13, ofSv, subV, datV, Lay.r, iss, m18, m19, m23, p_request_id, p_response_id, p_has_data, w_pack, w_packX, id_ok, id_ok64, roomL, cl_sv, cl_BS, bsm, in_cls, hy, show 3 + d.length ≤ 1000 by omega]
        · simp [b_ok, b_exc, b_bad, o_ok, o_exc, x_v, x_p, x_vn, x_pn, c_ok, of_s, om_s, getL_s, l_0, l_s, e_lit, e_loc, cBin2, cBin, e_bin, e_inv, cInv_i, cCmp2, cCmp, e_cmp, e_and, e_or, cNot, e_not, e_ite, cIte_t, cIte_f, cTup, cLst, e_tup, e_lst, cIdx2, cIdx, e_idx, cSli3, cSli2, cSli, e_sli, cAttr, e_attr, cHas, e_has, cClsOf, e_clsOf, cNameOf, e_nameOf, cCall, e_call, cMeth3, cMeth2, cMeth1_s, cMeth, e_meth, e_blt, k_len, k_len0, k_len1, k_blt, cBltQ, e_bltQ, e_comp, cEvs2, cEvs, s_nil, s_cons, cAnd, k_andt, k_andf, a_one, a_cons, cOr, k_ort, k_orf, r_one, r_cons, cTru, cTNot, t_not, t_and, t_or, t_ite, t_lit, t_loc, t_cmp, t_attr, t_has, t_idx, t_blt, t_call, t_meth, ta_nil, ta_cons, cTAnd_t, cTAnd_f, to_nil, to_cons, cTOr_t, cTOr_f, cTIte_t, cTIte_f, ti_nil, ti_cons, cTIf_t, cTIf_f, cAsg, x_asg, setT, cMls, x_mls, okSt_s, cSetA2, cSetA, x_setA, cSetI3, cSetI2, cSetI, x_setI, cAug2, cAug_s, x_aug, cApp2, cApp, x_app, cRet, x_ret, x_ite, cIf_t, cIf_f, x_for, body_one, x_try, cTry_ok, cTry_exc, cCatch_s, caught, hit, x_raise, cRaise_s, cRaise_t, x_asrt, cAsrt_t, x_cont, xs_nil, xs_cons, q_next, q_cont, q_ret, f_ret, f_next, run_s, bindGo, bk_nil, cNew_n, get_last, set_last, setF, hasA, vtruth, vb_add, vb_sub, vb_mul, vb_fdiv, vb_mod, vb_bor, vb_band, vb_lst, vb_byt, vb_str, vaug, vcmp, q_nn, q_bb, q_ii, q_ss, q_yy, q_ni, q_in, q_nb, q_bn, q_sy, q_ys, q_ny, q_yn, q_tt, q_ts, q_st, visame, vi_b_bool, vi_b_int, vi_b_str, vi_b_bytes, vi_b_type, vi_i_bool, vi_i_int, vi_i_str, vi_i_bytes, vi_i_type, vi_s_bool, vi_s_int, vi_s_str, vi_s_bytes, vi_s_type, vi_y_bool, vi_y_int, vi_y_str, vi_y_bytes, vi_y_type, vi_n_bool, vi_n_int, vi_n_str, vi_n_bytes, vi_n_type, w_int, w_isinst, w_bytes, w_list, w_str, w_issub, lo_b, lo_l, lo_t, len_b, len_l, len_t, unl, List.lookup, ibeq, f_Response_get_payload, getA_Res h', kr1, kr4, kr5, kr6, kr7, kr8, kr9, kr10, kr11, kr12, kr13, ofSv, subV, datV, Lay.r, iss, m18, m19, m23, p_request_id, p_response_id, p_has_data, w_pack, w_packX, id_ok, id_ok64, roomL, cl_sv, cl_BS, bsm, in_cls, hy, hs]
theorem rlay_len (r : Rs) (l : List Int) (h : r.lay = .by l) (hd : r.d.length ≤ 500) : l.length ≤ 503 := by
  unfold Rs.lay at h
  split at h
  · split at h
    · cases h; simp; omega
    · split at h
      · cases h; simp; omega
      · cases h
  · cases h
theorem p_res_len {i : Nat} (r : Rs) (n : Nat) (σ : St) (h : σ[i]? = some r.o) (hd : r.d.length ≤ 500) (hu : ∀ x, r.code = some x → small x = true) : callN T (n+3) a_Response___len__ [.obj i] [] σ = .ok (.int r.lay.n) σ := by
  rw [open_ fn_res_len]
  have := rlay_len r
  cases hl : r.lay with
  | «by» l =>
    have hz := this l hl hd
    simp [b_ok, b_exc, b_bad, o_ok, o_exc, x_v, x_p, x_vn, x_pn, c_ok, of_s, om_s, getL_s, l_0, l_s, e_lit, e_loc, cBin2, cBin, e_bin, e_inv, cInv_i, cCmp2, cCmp, e_cmp, e_and, e_or, cNot, e_not, e_ite, cIte_t, cIte_f, cTup, cLst, e_tup, e_lst, cIdx2, cIdx, e_idx, cSli3, cSli2, cSli, e_sli, cAttr, e_attr, cHas, e_has, cClsOf, e_clsOf, cNameOf, e_nameOf, cCall, e_call, cMeth3, cMeth2, cMeth1_s, cMeth, e_meth, e_blt, k_len, k_len0, k_len1, k_blt, cBltQ, e_bltQ, e_comp, cEvs2, cEvs, s_nil, s_cons, cAnd, k_andt, k_andf, a_one, a_cons, cOr, k_ort, k_orf, r_one, r_cons, cTru, cTNot, t_not, t_and, t_or, t_ite, t_lit, t_loc, t_cmp, t_attr, t_has, t_idx, t_blt, t_call, t_meth, ta_nil, ta_cons, cTAnd_t, cTAnd_f, to_nil, to_cons, cTOr_t, cTOr_f, cTIte_t, cTIte_f, ti_nil, ti_cons, cTIf_t, cTIf_f, cAsg, x_asg, setT, cMls, x_mls, okSt_s, cSetA2, cSetA, x_setA, cSetI3, cSetI2, cSetI, x_setI, cAug2, cAug_s, x_aug, cApp2, cApp, x_app, cRet, x_ret, x_ite, cIf_t, cIf_f, x_for, body_one, x_try, cTry_ok, cTry_exc, cCatch_s, caught, hit, x_raise, cRaise_s, cRaise_t, x_asrt, cAsrt_t, x_cont, xs_nil, xs_cons, q_next, q_cont, q_ret, f_ret, f_next, run_s, bindGo, bk_nil, cNew_n, get_last, set_last, setF, hasA, vtruth, vb_add, vb_sub, vb_mul, vb_fdiv, vb_mod, vb_bor, vb_band, vb_lst, vb_byt, vb_str, vaug, vcmp, q_nn, q_bb, q_ii, q_ss, q_yy, q_ni, q_in, q_nb, q_bn, q_sy, q_ys, q_ny, q_yn, q_tt, q_ts, q_st, visame, vi_b_bool, vi_b_int, vi_b_str, vi_b_bytes, vi_b_type, vi_i_bool, vi_i_int, vi_i_str, vi_i_bytes, vi_i_type, vi_s_bool, vi_s_int, vi_s_str, vi_s_bytes, vi_s_type, vi_y_bool, vi_y_int, vi_y_str, vi_y_bytes, vi_y_type, vi_n_bool, vi_n_int, vi_n_str, vi_n_bytes, vi_n_type, w_int, w_isinst, w_bytes, w_list, w_str, w_issub, lo_b, lo_l, lo_t, len_b, len_l, len_t, unl, List.lookup, ibeq, f_Response___len__, m25s h, p_res_lay r n σ h hd hu, hl, Lay.r, Lay.n, show l.length ≤ 1000 by omega]
  | val => simp [b_ok, b_exc, b_bad, o_ok, o_exc, x_v, x_p, x_vn, x_pn, c_ok, of_s, om_s, getL_s, l_0, l_s, e_lit, e_loc, cBin2, cBin, e_bin, e_inv, cInv_i, cCmp2, cCmp, e_cmp, e_and, e_or, cNot, e_not, e_ite, cIte_t, cIte_f, cTup, cLst, e_tup, e_lst, cIdx2, cIdx, e_idx, cSli3, cSli2, cSli, e_sli, cAttr, e_attr, cHas, e_has, cClsOf, e_clsOf, cNameOf, e_nameOf, cCall, e_call, cMeth3, cMeth2, cMeth1_s, cMeth, e_meth, e_blt, k_len, k_len0, k_len1, k_blt, cBltQ, e_bltQ, e_comp, cEvs2, cEvs, s_nil, s_cons, cAnd, k_andt, k_andf, a_one, a_cons, cOr, k_ort, k_orf, r_one, r_cons, cTru, cTNot, t_not, t_and, t_or, t_ite, t_lit, t_loc, t_cmp, t_attr, t_has, t_idx, t_blt, t_call, t_meth, ta_nil, ta_cons, cTAnd_t, cTAnd_f, to_nil, to_cons, cTOr_t, cTOr_f, cTIte_t, cTIte_f, ti_nil, ti_cons, cTIf_t, cTIf_f, cAsg, x_asg, setT, cMls, x_mls, okSt_s, cSetA2, cSetA, x_setA, cSetI3, cSetI2, cSetI, x_setI, cAug2, cAug_s, x_aug, cApp2, cApp, x_app, cRet, x_ret, x_ite, cIf_t, cIf_f, x_for, body_one, x_try, cTry_ok, cTry_exc, cCatch_s, caught, hit, x_raise, cRaise_s, cRaise_t, x_asrt, cAsrt_t, x_cont, xs_nil, xs_cons, q_next, q_cont, q_ret, f_ret, f_next, run_s, bindGo, bk_nil, cNew_n, get_last, set_last, setF, hasA, vtruth, vb_add, vb_sub, vb_mul, vb_fdiv, vb_mod, vb_bor, vb_band, vb_lst, vb_byt, vb_str, vaug, vcmp, q_nn, q_bb, q_ii, q_ss, q_yy, q_ni, q_in, q_nb, q_bn, q_sy, q_ys, q_ny, q_yn, q_tt, q_ts, q_st, visame, vi_b_bool, vi_b_int, vi_b_str, vi_b_bytes, vi_b_type, vi_i_bool, vi_i_int, vi_i_str, vi_i_bytes, vi_i_type, vi_s_bool, vi_s_int, vi_s_str, vi_s_bytes, vi_s_type, vi_y_bool, vi_y_int, vi_y_str, vi_y_bytes, vi_y_type, vi_n_bool, vi_n_int, vi_n_str, vi_n_bytes, vi_n_type, w_int, w_isinst, w_bytes, w_list, w_str, w_issub, lo_b, lo_l, lo_t, len_b, len_l, len_t, unl, List.lookup, ibeq, f_Response___len__, m25s h, p_res_lay r n σ h hd hu, hl, Lay.r, Lay.n]
  | pack => simp [b_ok, b_exc, b_bad, o_ok, o_exc, x_v, x_p, x_vn, x_pn, c_ok, of_s, om_s, getL_s, l_0, l_s, e_lit, e_loc, cBin2, cBin, e_bin, e_inv, cInv_i, cCmp2, cCmp, e_cmp, e_and, e_or, cNot, e_not, e_ite, cIte_t, cIte_f, cTup, cLst, e_tup, e_lst, cIdx2, cIdx, e_idx, cSli3, cSli2, cSli, e_sli, cAttr, e_attr, cHas, e_has, cClsOf, e_clsOf, cNameOf, e_nameOf, cCall, e_call, cMeth3, cMeth2, cMeth1_s, cMeth, e_meth, e_blt, k_len, k_len0, k_len1, k_blt, cBltQ, e_bltQ, e_comp, cEvs2, cEvs, s_nil, s_cons, cAnd, k_andt, k_andf, a_one, a_cons, cOr, k_ort, k_orf, r_one, r_cons, cTru, cTNot, t_not, t_and, t_or, t_ite, t_lit, t_loc, t_cmp, t_attr, t_has, t_idx, t_blt, t_call, t_meth, ta_nil, ta_cons, cTAnd_t, cTAnd_f, to_nil, to_cons, cTOr_t, cTOr_f, cTIte_t, cTIte_f, ti_nil, ti_cons, cTIf_t, cTIf_f, cAsg, x_asg, setT, cMls, x_mls, okSt_s, cSetA2, cSetA, x_setA, cSetI3, cSetI2, cSetI, x_setI, cAug2, cAug_s, x_aug, cApp2, cApp, x_app, cRet, x_ret, x_ite, cIf_t, cIf_f, x_for, body_one, x_try, cTry_ok, cTry_exc, cCatch_s, caught, hit, x_raise, cRaise_s, cRaise_t, x_asrt, cAsrt_t, x_cont, xs_nil, xs_cons, q_next, q_cont, q_ret, f_ret, f_next, run_s, bindGo, bk_nil, cNew_n, get_last, set_last, setF, hasA, vtruth, vb_add, vb_sub, vb_mul, vb_fdiv, vb_mod, vb_bor, vb_band, vb_lst, vb_byt, vb_str, vaug, vcmp, q_nn, q_bb, q_ii, q_ss, q_yy, q_ni, q_in, q_nb, q_bn, q_sy, q_ys, q_ny, q_yn, q_tt, q_ts, q_st, visame, vi_b_bool, vi_b_int, vi_b_str, vi_b_bytes, vi_b_type, vi_i_bool, vi_i_int, vi_i_str, vi_i_bytes, vi_i_type, vi_s_bool, vi_s_int, vi_s_str, vi_s_bytes, vi_s_type, vi_y_bool, vi_y_int, vi_y_str, vi_y_bytes, vi_y_type, vi_n_bool, vi_n_int, vi_n_str, vi_n_bytes, vi_n_type, w_int, w_isinst, w_bytes, w_list, w_str, w_issub, lo_b, lo_l, lo_t, len_b, len_l, len_t, unl, List.lookup, ibeq, f_Response___len__, m25s h, p_res_lay r n σ h hd hu, hl, Lay.r, Lay.n]
theorem lo_s {i : Nat} {r : Rs} {σ : St} (cf : CF) (h : σ[i]? = some r.o) : lenObj T cf σ (.obj i) = some ((cf a_Response___len__ [.obj i] [] σ).bind cLenO) := by
  unfold lenObj
  simp only [h, Rs.o, cl_Res]
  show some _ = some _
  congr 2
  funext r σ
  cases r <;> rfl
theorem lo_S {i : Nat} (r : Rs) (n : Nat) (σ : St) (h : σ[i]? = some r.o) (hd : r.d.length ≤ 500) (hu : ∀ x, r.code = some x → small x = true) : lenObj T (callN T (n+3)) σ (.obj i) = some (.ok (.int r.lay.n) σ) := by
  rw [lo_s _ h, p_res_len r n σ h hd hu, b_ok]
  have : 0 ≤ r.lay.n ∧ r.lay.n < 9223372036854775808 := by
    have := rlay_len r
    cases hl : r.lay with
    | «by» l => have := this l hl hd; simp only [Lay.n]; omega
    | val => simp [Lay.n]
    | pack => simp [Lay.n]
  simp [cLenO, this]
end Mine

namespace Mine
open PySem
theorem cFL_k (f : V → Loc → St → R (Fl × Loc)) (r : List V) (ρ : Loc) (σ : St) : True := trivial
theorem sv_eq (v w : Sv) : (v.a == w.a) = decide (v = w) := by cases v <;> cases w <;> decide
def tb : List Sv := [.cc, .lc, .td, .rm]
theorem tb0 (σ : St) : vidx σ (svs tb) (.int 0) = some (.cls Sv.cc.a) := by rfl
theorem tb1 (σ : St) : vidx σ (svs tb) (.int 1) = some (.cls Sv.lc.a) := by rfl
theorem tb2 (σ : St) : vidx σ (svs tb) (.int 2) = some (.cls Sv.td.a) := by rfl
theorem tb3 (σ : St) : vidx σ (svs tb) (.int 3) = some (.cls Sv.rm.a) := by rfl
theorem sids (v : Sv) (σ : St) : vidx σ (.tup [.int 40, .int 135, .int 54, .int 35]) (.int v.n) = some (.int v.id) := by cases v <;> rfl
def wn : Option Sv → Int
  | some v => v.n
  | none => 4
theorem w_range4 (σ : St) : vblt T σ .range [.int 4] = .ok (.rng 0 4) σ := by rfl
theorem for4 {cf : CF} {ρ : Loc} {σ : St} (t : Tg) (body : Ss) : cFor T cf t body ρ (.rng 0 4) σ = forL (bodyF T cf t body) [.int 0, .int 1, .int 2, .int 3] ρ σ := by
  rw [k_for_rng t body 0 4 (by decide)]; rfl
theorem forL_n (f : V → Loc → St → R (Fl × Loc)) (ρ : Loc) (σ : St) : forL f [] ρ σ = .ok (.next, ρ) σ := rfl
def cFL (f : V → Loc → St → R (Fl × Loc)) (r : List V) (q : Fl × Loc) (σ : St) : R (Fl × Loc) := match q with
    | (.ret u, ρ) => .ok (.ret u, ρ) σ
    | (_, ρ) => forL f r ρ σ
theorem forL_c (f : V → Loc → St → R (Fl × Loc)) (v : V) (r : List V) (ρ : Loc) (σ : St) : forL f (v :: r) ρ σ = (f v ρ σ).calm.bind (cFL f r) := by
  rw [forL]; congr 1
theorem cFL_r (f : V → Loc → St → R (Fl × Loc)) (r : List V) (u : V) (ρ : Loc) (σ : St) : cFL f r (.ret u, ρ) σ = .ok (.ret u, ρ) σ := rfl
theorem cFL_n (f : V → Loc → St → R (Fl × Loc)) (r : List V) (ρ : Loc) (σ : St) : cFL f r (.next, ρ) σ = forL f r ρ σ := rfl
def layV : Lay → V
  | .by l => .bytes l
  | _ => .str (Str.ofString "refused")
def il (l : List Int) : V := .lst (l.map V.int)
def nvs (k : List Sv) : V := .lst (k.map fun v => .int v.n)
theorem intsOf_map : ∀ (l : List Int), intsOf (l.map V.int) = some l
  | [] => rfl
  | a :: r => by simp [intsOf, intsOf_map r]
def Oct (l : List Int) : Prop := ∀ x ∈ l, 0 ≤ x ∧ x < 256
theorem octs_ok {l : List Int} (h : Oct l) : octs l = true := by
  simp only [octs, List.all_eq_true, Bool.and_eq_true, decide_eq_true_eq]
  exact h
theorem vb_il {l : List Int} (h : Oct l) (hl : l.length ≤ 1000) : vbytes (il l) = some (.bytes l) := by
  simp [vbytes, il, intsOf_map, octs_ok h, roomL _ hl]
theorem len_il (σ : St) (l : List Int) (h : l.length ≤ 1000) : vblt T σ .len [il l] = .ok (.int l.length) σ := by
  have := len_l σ (l.map V.int) (by simpa using h)
  simpa [il] using this
theorem lo_il (cf : CF) (σ : St) (l : List Int) : lenObj T cf σ (il l) = none := rfl
theorem idx_l0 (σ : St) (b : Int) (r : List Int) : vidx σ (il (b :: r)) (.int 0) = some (.int b) := by
  simp [il, vidx, vitem]
theorem idx_l1 (σ : St) (b c : Int) (r : List Int) : vidx σ (il (b :: c :: r)) (.int 1) = some (.int c) := by
  simp [il, vidx, vitem]
theorem idx_l2 (σ : St) (b c d : Int) (r : List Int) : vidx σ (il (b :: c :: d :: r)) (.int 2) = some (.int d) := by
  simp [il, vidx, vitem]
theorem sli_ln (l : List Int) (n : Nat) (hn : n ≤ l.length) (h : l.length ≤ 1000) : vslice (il l) (.int n) .none = some (il (l.drop n)) := by
  have e : vclip (l.map V.int).length 0 (.int n) = some n := by
    show (if decide ((0 : Int) ≤ n) = true then some (min (n : Int).toNat (l.map V.int).length) else none) = some n
    rw [if_pos (by simp)]
    exact congrArg some (by rw [Int.toNat_natCast, List.length_map]; omega)
  unfold il vslice
  dsimp only
  rw [e, show vclip (l.map V.int).length (l.map V.int).length .none = some (l.map V.int).length from rfl]
  dsimp only
  rw [if_pos (roomL _ (by simpa using h))]
  unfold cut
  rw [List.take_of_length_le (by simp), List.map_drop]
theorem sli_l1 (b : Int) (r : List Int) (h : r.length ≤ 900) : vslice (il (b :: r)) (.int 1) .none = some (il r) := by
  have := sli_ln (b :: r) 1 (by simp) (by simp; omega)
  simpa using this
theorem sli_l2 (b c : Int) (r : List Int) (h : r.length ≤ 900) : vslice (il (b :: c :: r)) (.int 2) .none = some (il r) := by
  have := sli_ln (b :: c :: r) 2 (by simp) (by simp; omega)
  simpa using this
theorem sli_l3 (b c d : Int) (r : List Int) (h : r.length ≤ 900) : vslice (il (b :: c :: d :: r)) (.int 3) .none = some (il r) := by
  have := sli_ln (b :: c :: d :: r) 3 (by simp) (by simp; omega)
  simpa using this
theorem veqs_il : ∀ (a b : List Int), a.length = b.length → veqs (a.map V.int) (b.map V.int) = some (decide (a = b))
  | [], [], _ => rfl
  | [], _ :: _, h => by simp at h
  | _ :: _, [], h => by simp at h
  | x :: r, y :: t, h => by
    simp only [List.map_cons, veqs, veqF, veqs_il r t (by simpa using h), ibeq]
    by_cases h1 : x = y <;> by_cases h2 : r = t <;> simp [h1, h2]
theorem veq_il (a b : List Int) : veq (il a) (.lst (b.map V.int)) = some (decide (a = b)) := by
  unfold il veq
  dsimp only
  by_cases h : a.length = b.length
  · rw [if_pos (by simpa using h), veqs_il a b h]
  · rw [if_neg (by simpa using h)]
    have : a ≠ b := fun q => h (by rw [q])
    simp [this]
theorem veq_nil (a : List Int) : veq (il a) (.lst []) = some (decide (a = [])) := veq_il a []
theorem veq_127 (a : List Int) : veq (il a) (.lst [.int 127]) = some (decide (a = [127])) := veq_il a [127]
theorem oct_all (P : Int → Bool) (h : ((List.range 256).all fun n => P n) = true) : ∀ c : Int, 0 ≤ c ∧ c < 256 → P c = true := fun c hc => by
  have := List.all_eq_true.mp h c.toNat (List.mem_range.mpr (by omega))
  rwa [show ((c.toNat : Nat) : Int) = c from by omega] at this
theorem bits (c : Int) (h : 0 ≤ c ∧ c < 256) : Builtin.bitAnd c 127 = Int.fmod c 128 ∧ decide (0 < Builtin.bitAnd c 128) = decide (Int.fdiv c 128 = 1) ∧ top (Builtin.bitAnd c 127) (decide (0 < Builtin.bitAnd c 128)) none = c ∧
    (∀ m, top (Builtin.bitAnd c 127) m (some true) = Int.fmod c 128 + 128) ∧ (∀ m, top (Builtin.bitAnd c 127) m (some false) = Int.fmod c 128) ∧ (0 ≤ Int.fmod c 128 ∧ Int.fmod c 128 < 128) := by
  have := oct_all (fun c => decide (Builtin.bitAnd c 127 = Int.fmod c 128) && (decide (0 < Builtin.bitAnd c 128) == decide (Int.fdiv c 128 = 1)) && decide (top (Builtin.bitAnd c 127) (decide (0 < Builtin.bitAnd c 128)) none = c) && decide (Builtin.bitOr (Builtin.bitAnd c 127) 128 = Int.fmod c 128 + 128) && decide (Builtin.bitAnd (Builtin.bitAnd c 127) (-129) = Int.fmod c 128) && decide (0 ≤ Int.fmod c 128 ∧ Int.fmod c 128 < 128)) (by kernel_rfl) c h
  simp only [Bool.and_eq_true, decide_eq_true_eq, beq_iff_eq] at this
  obtain ⟨⟨⟨⟨⟨h1, h2⟩, h3⟩, h4⟩, h5⟩, h6⟩ := this
  exact ⟨h1, h2, h3, fun m => h4, fun m => h5, h6⟩
theorem forL_fold {α β : Type} {f : V → Loc → St → R (Fl × Loc)} {g : α → V} {σ : St} (step : β → α → β) (I : β → Loc → Prop) (hf : ∀ x b ρ, I b ρ → ∃ ρ', I (step b x) ρ' ∧ f (g x) ρ σ = .ok (.next, ρ') σ) : ∀ (l : List α) (b : β) (ρ : Loc), I b ρ → ∃ ρ', I (l.foldl step b) ρ' ∧ forL f (l.map g) ρ σ = .ok (.next, ρ') σ
  | [], b, ρ, h => ⟨ρ, h, rfl⟩
  | x :: l, b, ρ, h => by
    obtain ⟨ρ', h1, h2⟩ := hf x b ρ h
    obtain ⟨ρ'', h3, h4⟩ := forL_fold step I hf l (step b x) ρ' h1
    refine ⟨ρ'', h3, ?_⟩
    rw [List.map_cons, forL, h2]
    exact h4
theorem id_inj {v w : Sv} (h : v.id = w.id) : v = w := by cases v <;> cases w <;> first | rfl | simp [Sv.id] at h
theorem fold_same {p : Sv → Bool} {v : Sv} (hp : ∀ w, p w = true → w = v) : ∀ k : List Sv, k.foldl (fun w x => if p x = true then x.n else w) v.n = v.n
  | [] => rfl
  | x :: r => by
    rw [List.foldl_cons]
    by_cases hx : p x = true
    · rw [if_pos hx, hp x hx]; exact fold_same hp r
    · rw [if_neg hx]; exact fold_same hp r
theorem fold_find {p : Sv → Bool} (hp : ∀ v w, p v = true → p w = true → v = w) : ∀ k : List Sv, k.foldl (fun w x => if p x = true then x.n else w) 4 = wn (k.find? p)
  | [] => rfl
  | x :: r => by
    rw [List.foldl_cons, List.find?_cons]
    cases hx : p x with
    | true =>
      rw [if_pos rfl]
      exact fold_same (v := x) (fun w hw => hp w x hw hx) r
    | false =>
      rw [if_neg (by simp)]
      exact fold_find hp r
theorem nn0 : Sv.cc.n = 0 := rfl
theorem ii0 : Sv.cc.id = 40 := rfl
theorem ss0 : Sv.cc.sub = true := rfl
theorem nn1 : Sv.lc.n = 1 := rfl
theorem ii1 : Sv.lc.id = 135 := rfl
theorem ss1 : Sv.lc.sub = true := rfl
theorem nn2 : Sv.td.n = 2 := rfl
theorem ii2 : Sv.td.id = 54 := rfl
theorem ss2 : Sv.td.sub = false := rfl
theorem nn3 : Sv.rm.n = 3 := rfl
theorem ii3 : Sv.rm.id = 35 := rfl
theorem ss3 : Sv.rm.sub = false := rfl
def nthS : Ss → Nat → S
  | .cons s _, 0 => s
  | .cons _ r, n + 1 => nthS r n
  | .nil, _ => .cont
def forB : S → Ss
  | .for_ _ _ b => b
  | _ => .nil
theorem k_nvs {cf : CF} {ρ : Loc} {σ : St} (t : Tg) (body : Ss) (k : List Sv) (hk : k.length ≤ 1000) : cFor T cf t body ρ (nvs k) σ = forL (bodyF T cf t body) (k.map fun v => .int v.n) ρ σ := k_for_lst t body _ (roomL _ (by simpa using hk))
theorem foldl_const {β : Type} (l : List Sv) (x : β) : l.foldl (fun w _ => w) x = x := by
  induction l with
  | nil => rfl
  | cons a r ih => exact ih
theorem id127 (v : Sv) : ¬ (127 = 64 + v.id) := by cases v <;> decide
def takeS : Ss → Nat → Ss
  | _, 0 => .nil
  | .nil, _ => .nil
  | .cons s r, n + 1 => .cons s (takeS r n)
def dropS : Ss → Nat → Ss
  | b, 0 => b
  | .nil, _ => .nil
  | .cons _ r, n + 1 => dropS r n
theorem exs_app {T : Tab} {cf : CF} : ∀ (B : Ss) (i : Nat) (ρ : Loc) (σ : St), exs T cf B ρ σ = (exs T cf (takeS B i) ρ σ).bind (cSeq T cf (dropS B i))
  | B, 0, ρ, σ => by
    cases B <;> simp only [takeS, dropS, xs_nil, b_ok, q_next]
  | .nil, i + 1, ρ, σ => by simp only [takeS, dropS]; rw [xs_nil, b_ok, q_next, xs_nil]
  | .cons s r, i + 1, ρ, σ => by
    simp only [takeS, dropS]
    rw [xs_cons, xs_cons]
    cases h : ex T cf s ρ σ with
    | exc x σ' => rfl
    | bad => rfl
    | ok q σ' =>
      obtain ⟨fl, ρ'⟩ := q
      cases fl with
      | next => rw [b_ok, b_ok, q_next, q_next]; exact exs_app r i ρ' σ'
      | cont => rfl
      | ret v => rfl
theorem exs_then {T : Tab} {cf : CF} {B : Ss} (i : Nat) {ρ ρ' : Loc} {σ σ' : St} (h : exs T cf (takeS B i) ρ σ = .ok (.next, ρ') σ') : exs T cf B ρ σ = exs T cf (dropS B i) ρ' σ' := by
  rw [exs_app B i, h]; rfl
theorem vidx_il (σ : St) (l : List Int) (i : Int) (h : 0 ≤ i) (h2 : i < l.length) (h3 : l.length ≤ 1000) : vidx σ (il l) (.int i) = some (.int (l.getD i.toNat 0)) := by
  have hi : i.toNat < l.length := by omega
  have e : (decide (0 ≤ i) && decide (i ≤ 100000)) = true := by simp; omega
  simp only [il, vidx, vitem]
  rw [if_pos e, List.getElem?_map, List.getElem?_eq_getElem hi, List.getD_eq_getElem?_getD, List.getElem?_eq_getElem hi]
  rfl
theorem sv_of (x : Int) : ∃ v : Sv, Int.fmod x 4 = v.n := by
  have h1 : Int.fmod x 4 = x % 4 := Int.fmod_eq_emod_of_nonneg x (by decide)
  rw [h1]
  have := Int.emod_nonneg x (show (4 : Int) ≠ 0 by decide)
  have := Int.emod_lt_of_pos x (show (0 : Int) < 4 by decide)
  have : x % 4 = 0 ∨ x % 4 = 1 ∨ x % 4 = 2 ∨ x % 4 = 3 := by omega
  rcases this with h | h | h | h
  · exact ⟨.cc, h⟩
  · exact ⟨.lc, h⟩
  · exact ⟨.td, h⟩
  · exact ⟨.rm, h⟩
theorem fm (x : Int) (n : Int) (h : 0 < n) : 0 ≤ Int.fmod x n ∧ Int.fmod x n < n := by
  rw [Int.fmod_eq_emod_of_nonneg x (by omega)]
  exact ⟨Int.emod_nonneg x (by omega), Int.emod_lt_of_pos x h⟩
theorem sli_to (l : List Int) (m : Int) (h : 0 ≤ m) (hm : m ≤ l.length) (hl : l.length ≤ 1000) : vslice (il l) .none (.int m) = some (il (l.take m.toNat)) := by
  have e : vclip (l.map V.int).length (l.map V.int).length (.int m) = some m.toNat := by
    show (if decide ((0 : Int) ≤ m) = true then some (min m.toNat (l.map V.int).length) else none) = _
    rw [if_pos (by simpa using h), List.length_map, Nat.min_eq_left (by omega)]
  unfold il vslice
  dsimp only
  rw [e, show vclip (l.map V.int).length 0 .none = some 0 from rfl]
  dsimp only
  rw [if_pos (roomL _ (by simpa using hl))]
  simp [cut, List.map_take]
theorem compL_map {α : Type} {f : V → St → R V} {p : V → St → R Bool} {g : α → V} {h : α → V} {σ : St} (hp : ∀ x, p (g x) σ = .ok true σ) (hf : ∀ x, f (g x) σ = .ok (h x) σ) : ∀ (l : List α) (acc : List V), compL f p (l.map g) σ acc = .ok (.lst (acc ++ l.map h)) σ
  | [], acc => by simp [compL]
  | x :: r, acc => by
    rw [List.map_cons, compL, hp]
    dsimp only
    rw [hf]
    dsimp only
    rw [compL_map hp hf r]
    simp
theorem compP_nil {cf : CF} (ρ : Loc) (v : V) (σ : St) : compP T cf .nil ρ v σ = .ok true σ := by unfold compP; rw [ti_nil]
theorem tbl : V.lst [.cls a_CommunicationControl, .cls a_LinkControl, .cls a_TransferData, .cls a_ReadMemoryByAddress] = svs tb := rfl
theorem comp4 {cf : CF} (elt : E) (ρ : Loc) (σ : St) : cComp T cf elt .nil ρ (.rng 0 4) σ = compL (compF T cf elt ρ) (compP T cf .nil ρ) [.int 0, .int 1, .int 2, .int 3] σ [] := k_comp elt .nil σ _ (by decide)
theorem compL_n (f : V → St → R V) (p : V → St → R Bool) (σ : St) (acc : List V) : compL f p [] σ acc = .ok (.lst acc) σ := rfl
theorem compL_c {cf : CF} {ρ : Loc} (f : V → St → R V) (v u : V) (r : List V) (σ : St) (acc : List V) (h : f v σ = .ok u σ) : compL f (compP T cf .nil ρ) (v :: r) σ acc = compL f (compP T cf .nil ρ) r σ (acc ++ [u]) := by
  rw [compL, compP_nil]
  dsimp only
  rw [h]
theorem sli_to' (l : List Int) (n : Nat) (hl : l.length ≤ 1000) : vslice (il l) .none (.int n) = some (il (l.take n)) := by
  have e : vclip (l.map V.int).length (l.map V.int).length (.int n) = some (min n l.length) := by
    show (if decide ((0 : Int) ≤ n) = true then some (min (n : Int).toNat (l.map V.int).length) else none) = _
    rw [if_pos (by simp), List.length_map, Int.toNat_natCast]
  unfold il vslice
  dsimp only
  rw [e, show vclip (l.map V.int).length 0 .none = some 0 from rfl]
  dsimp only
  rw [if_pos (roomL _ (by simpa using hl))]
  have : (l.take (min n l.length)) = l.take n := by
    by_cases h : n ≤ l.length
    · rw [Nat.min_eq_left h]
    · rw [Nat.min_eq_right (by omega), List.take_of_length_le (Nat.le_refl _), List.take_of_length_le (by omega)]
  simp [cut, ← List.map_take, this]
theorem forL_inv {f : V → Loc → St → R (Fl × Loc)} (N : Nat) (I : Nat → Loc → St → Prop) : ∀ (l : List Int), (∀ x ∈ l, ∀ n ρ σ, n < N → I n ρ σ → ∃ ρ' σ', I (n+1) ρ' σ' ∧ ∃ fl, (fl = .next ∨ fl = .cont) ∧ f (.int x) ρ σ = .ok (fl, ρ') σ') → ∀ n ρ σ, n + l.length ≤ N → I n ρ σ → ∃ ρ' σ', I (n + l.length) ρ' σ' ∧ forL f (l.map V.int) ρ σ = .ok (.next, ρ') σ'
  | [], _, n, ρ, σ, _, h => ⟨ρ, σ, h, rfl⟩
  | x :: r, hf, n, ρ, σ, hN, h => by
    simp only [List.length_cons] at hN
    obtain ⟨ρ', σ', h1, fl, hfl, h2⟩ := hf x (.head _) n ρ σ (by omega) h
    obtain ⟨ρ'', σ'', h3, h4⟩ := forL_inv N I r (fun y hy => hf y (.tail _ hy)) (n+1) ρ' σ' (by omega) h1
    refine ⟨ρ'', σ'', by rw [List.length_cons, show n + (r.length + 1) = n + 1 + r.length from by omega]; exact h3, ?_⟩
    rw [List.map_cons, forL, h2]
    rcases hfl with rfl | rfl <;> exact h4
theorem forM_inv {f : V → Loc → St → R (Fl × Loc)} {σ : St} {o : Nat} {l : List V} (I : Loc → Prop) (ho : σ[o]? = some (.mls l)) (hf : ∀ v ∈ l, ∀ ρ, I ρ → ∃ ρ', I ρ' ∧ f v ρ σ = .ok (.next, ρ') σ) : ∀ (n j : Nat) (ρ : Loc), l.length - j < n → I ρ → ∃ ρ', I ρ' ∧ forM f o n j ρ σ = .ok (.next, ρ') σ
  | 0, _, _, h, _ => by omega
  | n + 1, j, ρ, h, hI => by
    rw [forM, ho]
    dsimp only
    cases hj : l[j]? with
    | none => exact ⟨ρ, hI, rfl⟩
    | some v =>
      obtain ⟨ρ', h1, h2⟩ := hf v (List.mem_of_getElem? hj) ρ hI
      have hlt : j < l.length := (List.getElem?_eq_some_iff.mp hj).1
      obtain ⟨ρ'', h3, h4⟩ := forM_inv I ho hf n (j+1) ρ' (by omega) h1
      refine ⟨ρ'', h3, ?_⟩
      dsimp only
      rw [h2]
      exact h4
theorem mem_upTo : ∀ {n : Nat} {lo x : Int}, x ∈ upTo lo n → lo ≤ x ∧ x < lo + n
  | 0, lo, x, h => nomatch h
  | n + 1, lo, x, h => by
    unfold upTo at h
    rcases List.mem_cons.mp h with rfl | h
    · omega
    · have := mem_upTo h; omega
theorem len_upTo : ∀ (n : Nat) (lo : Int), (upTo lo n).length = n
  | 0, _ => rfl
  | n + 1, lo => by unfold upTo; rw [List.length_cons, len_upTo n]
theorem keep_inst {σ : St} {i : Nat} {L L' : List V} {C : Nat} {fs : List (Nat × V)} (h0 : σ[0]? = some (.mls L)) (h : σ[i]? = some (.inst C fs)) : (σ.set 0 (.mls L'))[i]? = some (.inst C fs) := by
  have hi : i ≠ 0 := fun q => by rw [q, h0] at h; cases h
  rw [List.getElem?_set_ne (Ne.symm hi)]
  exact h
theorem add_il4 (a : List Int) (b c d e : Int) (h : a.length ≤ 500) : vbin .add (.lst (a.map V.int)) (.lst [.int b, .int c, .int d, .int e]) = some (il (a ++ [b, c, d, e])) := by
  rw [vb_lst, if_pos (roomL _ (by simp; omega))]
  simp [il]
theorem rs_code {row : List Int} {k : List Sv} (h : Oct row) {x : Int} (hx : (Rs.read row k).code = some x) : 0 ≤ x ∧ x < 256 := by
  rcases row with _ | ⟨b, r⟩
  · simp [Rs.read, rs0] at hx
  · by_cases hb : b = 127
    · subst hb
      rcases r with _ | ⟨c, r2⟩
      · simp [Rs.read, rs0] at hx
      · cases hf : findR c k with
        | none => simp [Rs.read, hf, rs0] at hx
        | some v =>
          rcases r2 with _ | ⟨e, r3⟩
          · simp [Rs.read, hf, rs0] at hx
          · simp [Rs.read, hf] at hx
            subst hx
            exact h e (by simp)
    · cases hf : findA b k with
      | none => simp [Rs.read, hb, hf, rs0] at hx
      | some v =>
        rcases r with _ | ⟨c, r2⟩
        · simp [Rs.read, hb, hf, rs0] at hx
        · simp [Rs.read, hb, hf] at hx
          omega
theorem rs_rest {row : List Int} {k : List Sv} : (Rs.read row k).d.length ≤ row.length ∧ ((Rs.read row k).why == (Str.ofString "")) = (Rs.read row k).valid ∧ ((Rs.read row k).valid = true → ∃ x, (Rs.read row k).code = some x ∧ (Rs.read row k).name = nameV x) := by
  have e1 : (((Str.ofString "Payload is empty") : Str) == (Str.ofString "")) = false := by kernel_rfl
  have e2 : (((Str.ofString "Incomplete invalid response service (7Fxx)") : Str) == (Str.ofString "")) = false := by kernel_rfl
  have e3 : (((Str.ofString "Payload second byte is not a known service request ID.") : Str) == (Str.ofString "")) = false := by kernel_rfl
  have e4 : (((Str.ofString "Response code missing") : Str) == (Str.ofString "")) = false := by kernel_rfl
  have e5 : (((Str.ofString "Payload first byte is not a known service response ID.") : Str) == (Str.ofString "")) = false := by kernel_rfl
  have e6 : (((Str.ofString "Payload must be at least 2 bytes long (service and response)") : Str) == (Str.ofString "")) = false := by kernel_rfl
  rcases row with _ | ⟨b, r⟩
  · simp only [Rs.read, rs0, e1]; simp
  · by_cases hb : b = 127
    · subst hb
      rcases r with _ | ⟨c, r2⟩
      · simp only [Rs.read, rs0, e2, if_true]; simp
      · cases hf : findR c k with
        | none => simp only [Rs.read, hf, rs0, e3, if_true]; simp
        | some v =>
          rcases r2 with _ | ⟨e, r3⟩
          · simp only [Rs.read, hf, rs0, e4, if_true]; simp
          · simp only [Rs.read, hf, if_true]; simp; omega
    · cases hf : findA b k with
      | none => simp only [Rs.read, hb, hf, rs0, e5, if_false]; simp
      | some v =>
        rcases r with _ | ⟨c, r2⟩
        · simp only [Rs.read, hb, hf, rs0, e6, if_false]; simp
        · simp only [Rs.read, hb, hf, if_false]; simp
theorem rs_pack {row : List Int} {k : List Sv} (h : Oct row) : (Rs.read row k).lay ≠ .pack := by
  unfold Rs.lay
  split
  · rename_i v c hs hc
    split
    · simp
    · rw [if_pos (by have := rs_code h hc; omega)]
      simp
  · simp
theorem m26s (σ : St) : findM T σ 26 (.cls a_Response) = some (a_Response_from_payload, .cls a_Response) := by rfl
end Mine

namespace Mine
open PySem
/-! law 4: the law's own rules, and the service's -/
theorem fn_within : T.fn a__law_within = some f__law_within := by rfl
theorem fn_may : T.fn a__law_may = some f__law_may := by rfl
theorem fn_object : T.fn a__law_object = some f__law_object := by rfl
theorem fn_named : T.fn a__law_named = some f__law_named := by rfl
theorem fn_since : T.fn a__law_since = some f__law_since := by rfl
theorem fn_std : T.fn a_ResponseCode_is_supported_by_standard = some f_ResponseCode_is_supported_by_standard := by rfl
theorem fn_snr : T.fn a_BaseService_is_supported_negative_response = some f_BaseService_is_supported_negative_response := by rfl
theorem fn_use_sub : T.fn a_BaseService_use_subfunction = some f_BaseService_use_subfunction := by rfl
theorem m22 (v : Sv) (σ : St) : findM T σ 22 (.cls v.a) = some (a_BaseService_use_subfunction, .cls v.a) := by cases v <;> rfl
theorem p_use_sub (v : Sv) (n : Nat) (σ : St) : callN T (n+1) a_BaseService_use_subfunction [.cls v.a] [] σ = .ok (.bool v.sub) σ := by
  rw [open_ fn_use_sub]; cases v <;> simp [b_ok, b_exc, b_bad, o_ok, o_exc, x_v, x_p, x_vn, x_pn, c_ok, of_s, om_s, getL_s, l_0, l_s, e_lit, e_loc, cBin2, cBin, e_bin, e_inv, cInv_i, cCmp2, cCmp, e_cmp, e_and, e_or, cNot, e_not, e_ite, cIte_t, cIte_f, cTup, cLst, e_tup, e_lst, cIdx2, cIdx, e_idx, cSli3, cSli2, cSli, e_sli, cAttr, e_attr, cHas, e_has, cClsOf, e_clsOf, cNameOf, e_nameOf, cCall, e_call, cMeth3, cMeth2, cMeth1_s, cMeth, e_meth, e_blt, k_len, k_len0, k_len1, k_blt, cBltQ, e_bltQ, e_comp, cEvs2, cEvs, s_nil, s_cons, cAnd, k_andt, k_andf, a_one, a_cons, cOr, k_ort, k_orf, r_one, r_cons, cTru, cTNot, t_not, t_and, t_or, t_ite, t_lit, t_loc, t_cmp, t_attr, t_has, t_idx, t_blt, t_call, t_meth, ta_nil, ta_cons, cTAnd_t, cTAnd_f, to_nil, to_cons, cTOr_t, cTOr_f, cTIte_t, cTIte_f, ti_nil, ti_cons, cTIf_t, cTIf_f, cAsg, x_asg, setT, cMls, x_mls, okSt_s, cSetA2, cSetA, x_setA, cSetI3, cSetI2, cSetI, x_setI, cAug2, cAug_s, x_aug, cApp2, cApp, x_app, cRet, x_ret, x_ite, cIf_t, cIf_f, x_for, body_one, x_try, cTry_ok, cTry_exc, cCatch_s, caught, hit, x_raise, cRaise_s, cRaise_t, x_asrt, cAsrt_t, x_cont, xs_nil, xs_cons, q_next, q_cont, q_ret, f_ret, f_next, run_s, bindGo, bk_nil, cNew_n, get_last, set_last, setF, hasA, vtruth, vb_add, vb_sub, vb_mul, vb_fdiv, vb_mod, vb_bor, vb_band, vb_lst, vb_byt, vb_str, vaug, vcmp, q_nn, q_bb, q_ii, q_ss, q_yy, q_ni, q_in, q_nb, q_bn, q_sy, q_ys, q_ny, q_yn, q_tt, q_ts, q_st, visame, vi_b_bool, vi_b_int, vi_b_str, vi_b_bytes, vi_b_type, vi_i_bool, vi_i_int, vi_i_str, vi_i_bytes, vi_i_type, vi_s_bool, vi_s_int, vi_s_str, vi_s_bytes, vi_s_type, vi_y_bool, vi_y_int, vi_y_str, vi_y_bytes, vi_y_type, vi_n_bool, vi_n_int, vi_n_str, vi_n_bytes, vi_n_type, w_int, w_isinst, w_bytes, w_list, w_str, w_issub, lo_b, lo_l, lo_t, len_b, len_l, len_t, unl, List.lookup, ibeq, f_BaseService_use_subfunction, cl_sv, Sv.c, c_CommunicationControl, c_LinkControl, c_TransferData, c_ReadMemoryByAddress, Sv.sub, getA]
/-! objects -/
theorem call_sv (cf : CF) (v : Sv) (σ : St) : callV T cf (.cls v.a) [] σ = .ok (.obj σ.length) (σ ++ [.inst v.a []]) := by
  unfold callV
  simp only [fn_sv, cl_sv]
  cases v <;> rfl
theorem p_object (v : Sv) (n : Nat) (σ : St) : callN T (n+1) a__law_object [.int v.n] [] σ = .ok (.obj σ.length) (σ ++ [.inst v.a []]) := by
  rw [open_ fn_object]
  cases v
  · have := call_sv (callN T n) .cc σ; simp only [Sv.a] at this; simp [b_ok, b_exc, b_bad, o_ok, o_exc, x_v, x_p, x_vn, x_pn, c_ok, of_s, om_s, getL_s, l_0, l_s, e_lit, e_loc, cBin2, cBin, e_bin, e_inv, cInv_i, cCmp2, cCmp, e_cmp, e_and, e_or, cNot, e_not, e_ite, cIte_t, cIte_f, cTup, cLst, e_tup, e_lst, cIdx2, cIdx, e_idx, cSli3, cSli2, cSli, e_sli, cAttr, e_attr, cHas, e_has, cClsOf, e_clsOf, cNameOf, e_nameOf, cCall, e_call, cMeth3, cMeth2, cMeth1_s, cMeth, e_meth, e_blt, k_len, k_len0, k_len1, k_blt, cBltQ, e_bltQ, e_comp, cEvs2, cEvs, s_nil, s_cons, cAnd, k_andt, k_andf, a_one, a_cons, cOr, k_ort, k_orf, r_one, r_cons, cTru, cTNot, t_not, t_and, t_or, t_ite, t_lit, t_loc, t_cmp, t_attr, t_has, t_idx, t_blt, t_call, t_meth, ta_nil, ta_cons, cTAnd_t, cTAnd_f, to_nil, to_cons, cTOr_t, cTOr_f, cTIte_t, cTIte_f, ti_nil, ti_cons, cTIf_t, cTIf_f, cAsg, x_asg, setT, cMls, x_mls, okSt_s, cSetA2, cSetA, x_setA, cSetI3, cSetI2, cSetI, x_setI, cAug2, cAug_s, x_aug, cApp2, cApp, x_app, cRet, x_ret, x_ite, cIf_t, cIf_f, x_for, body_one, x_try, cTry_ok, cTry_exc, cCatch_s, caught, hit, x_raise, cRaise_s, cRaise_t, x_asrt, cAsrt_t, x_cont, xs_nil, xs_cons, q_next, q_cont, q_ret, f_ret, f_next, run_s, bindGo, bk_nil, cNew_n, get_last, set_last, setF, hasA, vtruth, vb_add, vb_sub, vb_mul, vb_fdiv, vb_mod, vb_bor, vb_band, vb_lst, vb_byt, vb_str, vaug, vcmp, q_nn, q_bb, q_ii, q_ss, q_yy, q_ni, q_in, q_nb, q_bn, q_sy, q_ys, q_ny, q_yn, q_tt, q_ts, q_st, visame, vi_b_bool, vi_b_int, vi_b_str, vi_b_bytes, vi_b_type, vi_i_bool, vi_i_int, vi_i_str, vi_i_bytes, vi_i_type, vi_s_bool, vi_s_int, vi_s_str, vi_s_bytes, vi_s_type, vi_y_bool, vi_y_int, vi_y_str, vi_y_bytes, vi_y_type, vi_n_bool, vi_n_int, vi_n_str, vi_n_bytes, vi_n_type, w_int, w_isinst, w_bytes, w_list, w_str, w_issub, lo_b, lo_l, lo_t, len_b, len_l, len_t, unl, List.lookup, ibeq, f__law_object, nn0, nn1, nn2, nn3, this, Sv.a]
  · have := call_sv (callN T n) .lc σ; simp only [Sv.a] at this; simp [b_ok, b_exc, b_bad, o_ok, o_exc, x_v, x_p, x_vn, x_pn, c_ok, of_s, om_s, getL_s, l_0, l_s, e_lit, e_loc, cBin2, cBin, e_bin, e_inv, cInv_i, cCmp2, cCmp, e_cmp, e_and, e_or, cNot, e_not, e_ite, cIte_t, cIte_f, cTup, cLst, e_tup, e_lst, cIdx2, cIdx, e_idx, cSli3, cSli2, cSli, e_sli, cAttr, e_attr, cHas, e_has, cClsOf, e_clsOf, cNameOf, e_nameOf, cCall, e_call, cMeth3, cMeth2, cMeth1_s, cMeth, e_meth, e_blt, k_len, k_len0, k_len1, k_blt, cBltQ, e_bltQ, e_comp, cEvs2, cEvs, s_nil, s_cons, cAnd, k_andt, k_andf, a_one, a_cons, cOr, k_ort, k_orf, r_one, r_cons, cTru, cTNot, t_not, t_and, t_or, t_ite, t_lit, t_loc, t_cmp, t_attr, t_has, t_idx, t_blt, t_call, t_meth, ta_nil, ta_cons, cTAnd_t, cTAnd_f, to_nil, to_cons, cTOr_t, cTOr_f, cTIte_t, cTIte_f, ti_nil, ti_cons, cTIf_t, cTIf_f, cAsg, x_asg, setT, cMls, x_mls, okSt_s, cSetA2, cSetA, x_setA, cSetI3, cSetI2, cSetI, x_setI, cAug2, cAug_s, x_aug, cApp2, cApp, x_app, cRet, x_ret, x_ite, cIf_t, cIf_f, x_for, body_one, x_try, cTry_ok, cTry_exc, cCatch_s, caught, hit, x_raise, cRaise_s, cRaise_t, x_asrt, cAsrt_t, x_cont, xs_nil, xs_cons, q_next, q_cont, q_ret, f_ret, f_next, run_s, bindGo, bk_nil, cNew_n, get_last, set_last, setF, hasA, vtruth, vb_add, vb_sub, vb_mul, vb_fdiv, vb_mod, vb_bor, vb_band, vb_lst, vb_byt, vb_str, vaug, vcmp, q_nn, q_bb, q_ii, q_ss, q_yy, q_ni, q_in, q_nb, q_bn, q_sy, q_ys, q_ny, q_yn, q_tt, q_ts, q_st, visame, vi_b_bool, vi_b_int, vi_b_str, vi_b_bytes, vi_b_type, vi_i_bool, vi_i_int, vi_i_str, vi_i_bytes, vi_i_type, vi_s_bool, vi_s_int, vi_s_str, vi_s_bytes, vi_s_type, vi_y_bool, vi_y_int, vi_y_str, vi_y_bytes, vi_y_type, vi_n_bool, vi_n_int, vi_n_str, vi_n_bytes, vi_n_type, w_int, w_isinst, w_bytes, w_list, w_str, w_issub, lo_b, lo_l, lo_t, len_b, len_l, len_t, unl, List.lookup, ibeq, f__law_object, nn0, nn1, nn2, nn3, this, Sv.a]
  · have := call_sv (callN T n) .td σ; simp only [Sv.a] at this; simp [b_ok, b_exc, b_bad, o_ok, o_exc, x_v, x_p, x_vn, x_pn, c_ok, of_s, om_s, getL_s, l_0, l_s, e_lit, e_loc, cBin2, cBin, e_bin, e_inv, cInv_i, cCmp2, cCmp, e_cmp, e_and, e_or, cNot, e_not, e_ite, cIte_t, cIte_f, cTup, cLst, e_tup, e_lst, cIdx2, cIdx, e_idx, cSli3, cSli2, cSli, e_sli, cAttr, e_attr, cHas, e_has, cClsOf, e_clsOf, cNameOf, e_nameOf, cCall, e_call, cMeth3, cMeth2, cMeth1_s, cMeth, e_meth, e_blt, k_len, k_len0, k_len1, k_blt, cBltQ, e_bltQ, e_comp, cEvs2, cEvs, s_nil, s_cons, cAnd, k_andt, k_andf, a_one, a_cons, cOr, k_ort, k_orf, r_one, r_cons, cTru, cTNot, t_not, t_and, t_or, t_ite, t_lit, t_loc, t_cmp, t_attr, t_has, t_idx, t_blt, t_call, t_meth, ta_nil, ta_cons, cTAnd_t, cTAnd_f, to_nil, to_cons, cTOr_t, cTOr_f, cTIte_t, cTIte_f, ti_nil, ti_cons, cTIf_t, cTIf_f, cAsg, x_asg, setT, cMls, x_mls, okSt_s, cSetA2, cSetA, x_setA, cSetI3, cSetI2, cSetI, x_setI, cAug2, cAug_s, x_aug, cApp2, cApp, x_app, cRet, x_ret, x_ite, cIf_t, cIf_f, x_for, body_one, x_try, cTry_ok, cTry_exc, cCatch_s, caught, hit, x_raise, cRaise_s, cRaise_t, x_asrt, cAsrt_t, x_cont, xs_nil, xs_cons, q_next, q_cont, q_ret, f_ret, f_next, run_s, bindGo, bk_nil, cNew_n, get_last, set_last, setF, hasA, vtruth, vb_add, vb_sub, vb_mul, vb_fdiv, vb_mod, vb_bor, vb_band, vb_lst, vb_byt, vb_str, vaug, vcmp, q_nn, q_bb, q_ii, q_ss, q_yy, q_ni, q_in, q_nb, q_bn, q_sy, q_ys, q_ny, q_yn, q_tt, q_ts, q_st, visame, vi_b_bool, vi_b_int, vi_b_str, vi_b_bytes, vi_b_type, vi_i_bool, vi_i_int, vi_i_str, vi_i_bytes, vi_i_type, vi_s_bool, vi_s_int, vi_s_str, vi_s_bytes, vi_s_type, vi_y_bool, vi_y_int, vi_y_str, vi_y_bytes, vi_y_type, vi_n_bool, vi_n_int, vi_n_str, vi_n_bytes, vi_n_type, w_int, w_isinst, w_bytes, w_list, w_str, w_issub, lo_b, lo_l, lo_t, len_b, len_l, len_t, unl, List.lookup, ibeq, f__law_object, nn0, nn1, nn2, nn3, this, Sv.a]
  · have := call_sv (callN T n) .rm σ; simp only [Sv.a] at this; simp [b_ok, b_exc, b_bad, o_ok, o_exc, x_v, x_p, x_vn, x_pn, c_ok, of_s, om_s, getL_s, l_0, l_s, e_lit, e_loc, cBin2, cBin, e_bin, e_inv, cInv_i, cCmp2, cCmp, e_cmp, e_and, e_or, cNot, e_not, e_ite, cIte_t, cIte_f, cTup, cLst, e_tup, e_lst, cIdx2, cIdx, e_idx, cSli3, cSli2, cSli, e_sli, cAttr, e_attr, cHas, e_has, cClsOf, e_clsOf, cNameOf, e_nameOf, cCall, e_call, cMeth3, cMeth2, cMeth1_s, cMeth, e_meth, e_blt, k_len, k_len0, k_len1, k_blt, cBltQ, e_bltQ, e_comp, cEvs2, cEvs, s_nil, s_cons, cAnd, k_andt, k_andf, a_one, a_cons, cOr, k_ort, k_orf, r_one, r_cons, cTru, cTNot, t_not, t_and, t_or, t_ite, t_lit, t_loc, t_cmp, t_attr, t_has, t_idx, t_blt, t_call, t_meth, ta_nil, ta_cons, cTAnd_t, cTAnd_f, to_nil, to_cons, cTOr_t, cTOr_f, cTIte_t, cTIte_f, ti_nil, ti_cons, cTIf_t, cTIf_f, cAsg, x_asg, setT, cMls, x_mls, okSt_s, cSetA2, cSetA, x_setA, cSetI3, cSetI2, cSetI, x_setI, cAug2, cAug_s, x_aug, cApp2, cApp, x_app, cRet, x_ret, x_ite, cIf_t, cIf_f, x_for, body_one, x_try, cTry_ok, cTry_exc, cCatch_s, caught, hit, x_raise, cRaise_s, cRaise_t, x_asrt, cAsrt_t, x_cont, xs_nil, xs_cons, q_next, q_cont, q_ret, f_ret, f_next, run_s, bindGo, bk_nil, cNew_n, get_last, set_last, setF, hasA, vtruth, vb_add, vb_sub, vb_mul, vb_fdiv, vb_mod, vb_bor, vb_band, vb_lst, vb_byt, vb_str, vaug, vcmp, q_nn, q_bb, q_ii, q_ss, q_yy, q_ni, q_in, q_nb, q_bn, q_sy, q_ys, q_ny, q_yn, q_tt, q_ts, q_st, visame, vi_b_bool, vi_b_int, vi_b_str, vi_b_bytes, vi_b_type, vi_i_bool, vi_i_int, vi_i_str, vi_i_bytes, vi_i_type, vi_s_bool, vi_s_int, vi_s_str, vi_s_bytes, vi_s_type, vi_y_bool, vi_y_int, vi_y_str, vi_y_bytes, vi_y_type, vi_n_bool, vi_n_int, vi_n_str, vi_n_bytes, vi_n_type, w_int, w_isinst, w_bytes, w_list, w_str, w_issub, lo_b, lo_l, lo_t, len_b, len_l, len_t, unl, List.lookup, ibeq, f__law_object, nn0, nn1, nn2, nn3, this, Sv.a]
/-! spans -/
def spV (l : List (Int × Int)) : V := .tup (l.map fun p => .tup [.int p.1, .int p.2])
def within (c : Int) (l : List (Int × Int)) : Bool := l.any fun p => decide (p.1 ≤ c) && decide (c ≤ p.2)
theorem within_find (c : Int) : ∀ l : List (Int × Int), within c l = (l.find? fun p => decide (p.1 ≤ c) && decide (c ≤ p.2)).isSome
  | [] => rfl
  | p :: r => by
    have ih := within_find c r
    unfold within at ih ⊢
    rw [List.any_cons, List.find?_cons, ih]
    cases decide (p.1 ≤ c) && decide (c ≤ p.2) <;> rfl
theorem body_two {cf : CF} {ρ : Loc} {σ : St} (i j : Nat) (body : Ss) (a b : V) : bodyF T cf (.many [i, j]) body (.tup [a, b]) ρ σ = exs T cf body ((ρ.set i (some a)).set j (some b)) σ := rfl
theorem p_within (c : Int) (l : List (Int × Int)) (hl : l.length ≤ 1000) (n : Nat) (σ : St) : callN T (n+1) a__law_within [.int c, spV l] [] σ = .ok (.bool (within c l)) σ := by
  rw [open_ fn_within]
  obtain ⟨ρ', -, h⟩ := forL_find (f := bodyF T (callN T n) (.many [2, 3]) (.cons (.ite (.and_ (.cons (.cmp .le (.loc 2) (.loc 0)) (.cons (.cmp .le (.loc 0) (.loc 3)) .nil))) (.cons (.ret (.lit (.bool true))) .nil) .nil) .nil)) (g := fun p : Int × Int => V.tup [.int p.1, .int p.2]) (p := fun p => decide (p.1 ≤ c) && decide (c ≤ p.2)) (r := fun _ => V.bool true) (σ := σ)
    (fun ρ => ∃ x y, ρ = [some (.int c), some (spV l), x, y]) (by
      rintro p ρ ⟨x, y, rfl⟩
      refine ⟨_, ⟨some (.int p.1), some (.int p.2), rfl⟩, ?_⟩
      rw [body_two]
      by_cases h1 : p.1 ≤ c <;> by_cases h2 : c ≤ p.2 <;> simp [b_ok, b_exc, b_bad, o_ok, o_exc, x_v, x_p, x_vn, x_pn, c_ok, of_s, om_s, getL_s, l_0, l_s, e_lit, e_loc, cBin2, cBin, e_bin, e_inv, cInv_i, cCmp2, cCmp, e_cmp, e_and, e_or, cNot, e_not, e_ite, cIte_t, cIte_f, cTup, cLst, e_tup, e_lst, cIdx2, cIdx, e_idx, cSli3, cSli2, cSli, e_sli, cAttr, e_attr, cHas, e_has, cClsOf, e_clsOf, cNameOf, e_nameOf, cCall, e_call, cMeth3, cMeth2, cMeth1_s, cMeth, e_meth, e_blt, k_len, k_len0, k_len1, k_blt, cBltQ, e_bltQ, e_comp, cEvs2, cEvs, s_nil, s_cons, cAnd, k_andt, k_andf, a_one, a_cons, cOr, k_ort, k_orf, r_one, r_cons, cTru, cTNot, t_not, t_and, t_or, t_ite, t_lit, t_loc, t_cmp, t_attr, t_has, t_idx, t_blt, t_call, t_meth, ta_nil, ta_cons, cTAnd_t, cTAnd_f, to_nil, to_cons, cTOr_t, cTOr_f, cTIte_t, cTIte_f, ti_nil, ti_cons, cTIf_t, cTIf_f, cAsg, x_asg, setT, cMls, x_mls, okSt_s, cSetA2, cSetA, x_setA, cSetI3, cSetI2, cSetI, x_setI, cAug2, cAug_s, x_aug, cApp2, cApp, x_app, cRet, x_ret, x_ite, cIf_t, cIf_f, x_for, body_one, x_try, cTry_ok, cTry_exc, cCatch_s, caught, hit, x_raise, cRaise_s, cRaise_t, x_asrt, cAsrt_t, x_cont, xs_nil, xs_cons, q_next, q_cont, q_ret, f_ret, f_next, run_s, bindGo, bk_nil, cNew_n, get_last, set_last, setF, hasA, vtruth, vb_add, vb_sub, vb_mul, vb_fdiv, vb_mod, vb_bor, vb_band, vb_lst, vb_byt, vb_str, vaug, vcmp, q_nn, q_bb, q_ii, q_ss, q_yy, q_ni, q_in, q_nb, q_bn, q_sy, q_ys, q_ny, q_yn, q_tt, q_ts, q_st, visame, vi_b_bool, vi_b_int, vi_b_str, vi_b_bytes, vi_b_type, vi_i_bool, vi_i_int, vi_i_str, vi_i_bytes, vi_i_type, vi_s_bool, vi_s_int, vi_s_str, vi_s_bytes, vi_s_type, vi_y_bool, vi_y_int, vi_y_str, vi_y_bytes, vi_y_type, vi_n_bool, vi_n_int, vi_n_str, vi_n_bytes, vi_n_type, w_int, w_isinst, w_bytes, w_list, w_str, w_issub, lo_b, lo_l, lo_t, len_b, len_l, len_t, unl, List.lookup, ibeq, h1, h2]) l [some (.int c), some (spV l), none, none] ⟨_, _, rfl⟩
  have hf := k_for_tup (T := T) (cf := callN T n) (ρ := [some (.int c), some (spV l), none, none]) (σ := σ) (.many [2, 3]) (.cons (.ite (.and_ (.cons (.cmp .le (.loc 2) (.loc 0)) (.cons (.cmp .le (.loc 0) (.loc 3)) .nil))) (.cons (.ret (.lit (.bool true))) .nil) .nil) .nil) (l.map fun p => .tup [.int p.1, .int p.2]) (roomL _ (by simpa using hl))
  rw [h] at hf
  have hf' : cFor T (callN T n) (.many [2, 3]) (.cons (.ite (.and_ (.cons (.cmp .le (.loc 2) (.loc 0)) (.cons (.cmp .le (.loc 0) (.loc 3)) .nil))) (.cons (.ret (.lit (.bool true))) .nil) .nil) .nil) [some (.int c), some (spV l), none, none] (spV l) σ = _ := hf
  rw [within_find]
  cases hx : l.find? fun p => decide (p.1 ≤ c) && decide (c ≤ p.2) with
  | none =>
    rw [hx] at hf'
    dsimp only at hf'
    simp only [b_ok, b_exc, b_bad, o_ok, o_exc, x_v, x_p, x_vn, x_pn, c_ok, of_s, om_s, getL_s, l_0, l_s, e_lit, e_loc, cBin2, cBin, e_bin, e_inv, cInv_i, cCmp2, cCmp, e_cmp, e_and, e_or, cNot, e_not, e_ite, cIte_t, cIte_f, cTup, cLst, e_tup, e_lst, cIdx2, cIdx, e_idx, cSli3, cSli2, cSli, e_sli, cAttr, e_attr, cHas, e_has, cClsOf, e_clsOf, cNameOf, e_nameOf, cCall, e_call, cMeth3, cMeth2, cMeth1_s, cMeth, e_meth, e_blt, k_len, k_len0, k_len1, k_blt, cBltQ, e_bltQ, e_comp, cEvs2, cEvs, s_nil, s_cons, cAnd, k_andt, k_andf, a_one, a_cons, cOr, k_ort, k_orf, r_one, r_cons, cTru, cTNot, t_not, t_and, t_or, t_ite, t_lit, t_loc, t_cmp, t_attr, t_has, t_idx, t_blt, t_call, t_meth, ta_nil, ta_cons, cTAnd_t, cTAnd_f, to_nil, to_cons, cTOr_t, cTOr_f, cTIte_t, cTIte_f, ti_nil, ti_cons, cTIf_t, cTIf_f, cAsg, x_asg, setT, cMls, x_mls, okSt_s, cSetA2, cSetA, x_setA, cSetI3, cSetI2, cSetI, x_setI, cAug2, cAug_s, x_aug, cApp2, cApp, x_app, cRet, x_ret, x_ite, cIf_t, cIf_f, x_for, body_one, x_try, cTry_ok, cTry_exc, cCatch_s, caught, hit, x_raise, cRaise_s, cRaise_t, x_asrt, cAsrt_t, x_cont, xs_nil, xs_cons, q_next, q_cont, q_ret, f_ret, f_next, run_s, bindGo, bk_nil, cNew_n, get_last, set_last, setF, hasA, vtruth, vb_add, vb_sub, vb_mul, vb_fdiv, vb_mod, vb_bor, vb_band, vb_lst, vb_byt, vb_str, vaug, vcmp, q_nn, q_bb, q_ii, q_ss, q_yy, q_ni, q_in, q_nb, q_bn, q_sy, q_ys, q_ny, q_yn, q_tt, q_ts, q_st, visame, vi_b_bool, vi_b_int, vi_b_str, vi_b_bytes, vi_b_type, vi_i_bool, vi_i_int, vi_i_str, vi_i_bytes, vi_i_type, vi_s_bool, vi_s_int, vi_s_str, vi_s_bytes, vi_s_type, vi_y_bool, vi_y_int, vi_y_str, vi_y_bytes, vi_y_type, vi_n_bool, vi_n_int, vi_n_str, vi_n_bytes, vi_n_type, w_int, w_isinst, w_bytes, w_list, w_str, w_issub, lo_b, lo_l, lo_t, len_b, len_l, len_t, unl, List.lookup, ibeq, f__law_within, List.length_cons, List.length_nil, List.replicate, List.cons_append, List.nil_append, Option.map_some, Nat.reduceAdd, Nat.reduceSub, hf']
    rfl
  | some p =>
    rw [hx] at hf'
    dsimp only at hf'
    simp only [b_ok, b_exc, b_bad, o_ok, o_exc, x_v, x_p, x_vn, x_pn, c_ok, of_s, om_s, getL_s, l_0, l_s, e_lit, e_loc, cBin2, cBin, e_bin, e_inv, cInv_i, cCmp2, cCmp, e_cmp, e_and, e_or, cNot, e_not, e_ite, cIte_t, cIte_f, cTup, cLst, e_tup, e_lst, cIdx2, cIdx, e_idx, cSli3, cSli2, cSli, e_sli, cAttr, e_attr, cHas, e_has, cClsOf, e_clsOf, cNameOf, e_nameOf, cCall, e_call, cMeth3, cMeth2, cMeth1_s, cMeth, e_meth, e_blt, k_len, k_len0, k_len1, k_blt, cBltQ, e_bltQ, e_comp, cEvs2, cEvs, s_nil, s_cons, cAnd, k_andt, k_andf, a_one, a_cons, cOr, k_ort, k_orf, r_one, r_cons, cTru, cTNot, t_not, t_and, t_or, t_ite, t_lit, t_loc, t_cmp, t_attr, t_has, t_idx, t_blt, t_call, t_meth, ta_nil, ta_cons, cTAnd_t, cTAnd_f, to_nil, to_cons, cTOr_t, cTOr_f, cTIte_t, cTIte_f, ti_nil, ti_cons, cTIf_t, cTIf_f, cAsg, x_asg, setT, cMls, x_mls, okSt_s, cSetA2, cSetA, x_setA, cSetI3, cSetI2, cSetI, x_setI, cAug2, cAug_s, x_aug, cApp2, cApp, x_app, cRet, x_ret, x_ite, cIf_t, cIf_f, x_for, body_one, x_try, cTry_ok, cTry_exc, cCatch_s, caught, hit, x_raise, cRaise_s, cRaise_t, x_asrt, cAsrt_t, x_cont, xs_nil, xs_cons, q_next, q_cont, q_ret, f_ret, f_next, run_s, bindGo, bk_nil, cNew_n, get_last, set_last, setF, hasA, vtruth, vb_add, vb_sub, vb_mul, vb_fdiv, vb_mod, vb_bor, vb_band, vb_lst, vb_byt, vb_str, vaug, vcmp, q_nn, q_bb, q_ii, q_ss, q_yy, q_ni, q_in, q_nb, q_bn, q_sy, q_ys, q_ny, q_yn, q_tt, q_ts, q_st, visame, vi_b_bool, vi_b_int, vi_b_str, vi_b_bytes, vi_b_type, vi_i_bool, vi_i_int, vi_i_str, vi_i_bytes, vi_i_type, vi_s_bool, vi_s_int, vi_s_str, vi_s_bytes, vi_s_type, vi_y_bool, vi_y_int, vi_y_str, vi_y_bytes, vi_y_type, vi_n_bool, vi_n_int, vi_n_str, vi_n_bytes, vi_n_type, w_int, w_isinst, w_bytes, w_list, w_str, w_issub, lo_b, lo_l, lo_t, len_b, len_l, len_t, unl, List.lookup, ibeq, f__law_within, List.length_cons, List.length_nil, List.replicate, List.cons_append, List.nil_append, Option.map_some, Nat.reduceAdd, Nat.reduceSub, hf']
    rfl
/-! membership -/
def hasC : List Int → Int → Bool
  | [], _ => false
  | x :: r, c => x == c || hasC r c
theorem vin_map (c : Int) : ∀ l : List Int, vin c (l.map V.int) = some (hasC l c)
  | [] => rfl
  | x :: r => by
    rw [List.map_cons, vin, vin_map c r]
    rfl
def own : Sv → List Int
  | .cc => [18, 19, 34, 49] | .lc => [18, 19, 34, 36, 49] | .td => [19, 36, 49, 113, 114, 115, 146, 147] | .rm => [19, 34, 49, 51]
def every : List Int := [16, 17, 20, 33, 37, 38, 51, 52, 56, 57, 120, 127, 148]
theorem g30 (v : Sv) (σ : St) : getA T σ 30 (.cls v.a) = some (.lst ((own v).map V.int)) := by cases v <;> rfl
theorem g31 (v : Sv) (σ : St) : getA T σ 31 (.cls v.a) = some (.lst (every.map V.int)) := by cases v <;> rfl
theorem g33 (σ : St) : getA T σ 33 (.cls a_ResponseCode) = some (.int 34) := by rfl
theorem g34 (σ : St) : getA T σ 34 (.cls a_ResponseCode) = some (.int 126) := by rfl
theorem vc_inl (c : Int) (l : List Int) : vcmp T .isin (.int c) (.lst (l.map V.int)) = some (hasC l c) := vin_map c l
theorem vc_int (c : Int) (l : List Int) : vcmp T .isin (.int c) (.tup (l.map V.int)) = some (hasC l c) := vin_map c l
def snr (v : Sv) (c : Int) : Bool := hasC (own v) c || hasC every c || (decide (128 ≤ c) && decide (c < 255) && hasC (own v) 34) || (decide (c = 126) && v.sub)
theorem vge (a b : Int) : vcmp T .ge (.int a) (.int b) = some (decide (b ≤ a)) := rfl
theorem vlt (a b : Int) : vcmp T .lt (.int a) (.int b) = some (decide (a < b)) := rfl
theorem veq' (a b : V) : vcmp T .eq a b = veq a b := rfl
theorem p_snr (v : Sv) (c : Int) (n : Nat) (σ : St) : callN T (n+2) a_BaseService_is_supported_negative_response [.cls v.a, .int c] [] σ = .ok (.bool (snr v c)) σ := by
  rw [open_ fn_snr]
  unfold snr
  rw [show bindK f_BaseService_is_supported_negative_response.ps [V.cls v.a, V.int c] [] = some [some (.cls v.a), some (.int c)] from rfl, run_s]
  rw [show f_BaseService_is_supported_negative_response.nl = 3 from rfl]
  show ((exs T _ f_BaseService_is_supported_negative_response.body [some (.cls v.a), some (.int c), none] σ).bind cFin).out = _
  cases h1 : hasC (own v) c <;> cases h2 : hasC every c <;> cases h3 : decide (128 ≤ c) <;> cases h4 : decide (c < 255) <;> cases h5 : hasC (own v) 34 <;> cases h6 : decide (c = 126) <;> cases h7 : v.sub <;>
    simp only [b_ok, o_ok, c_ok, of_s, om_s, getL_s, l_0, l_s, e_lit, e_loc, cCmp2, cCmp, e_cmp, cAttr, e_attr, cMeth3, cMeth2, cMeth1_s, cMeth, e_meth, cEvs2, cEvs, s_nil, s_cons, cTru, t_and, t_cmp, t_meth, ta_nil, ta_cons, cTAnd_t, cTAnd_f, cAsg, x_asg, setT, cRet, x_ret, x_ite, cIf_t, cIf_f, xs_nil, xs_cons, q_next, q_ret, f_ret, vtruth, q_ii, f_BaseService_is_supported_negative_response, g30, g31, g33, g34, vc_inl, vge, vlt, veq', m22, p_use_sub, h1, h2, h3, h4, h5, h6, h7, List.set_cons_zero, List.set_cons_succ, List.zip_nil_left, List.zip_nil_right, Bool.or_true, Bool.true_or, Bool.or_false, Bool.false_or, Bool.and_true, Bool.true_and, Bool.and_false, Bool.false_and]
def may (v : Sv) (c : Int) : Bool := if hasC (own v) c || hasC every c then true else if decide (c = 126) then v.sub else hasC (own v) 34 && within c [(128, 254)]
theorem may_snr (v : Sv) (c : Int) : may v c = snr v c := by
  unfold may snr within
  cases h1 : hasC (own v) c <;> cases h2 : hasC every c <;> simp
  by_cases h6 : c = 126
  · subst h6; simp
  · simp [h6]
    cases hasC (own v) 34 <;> simp
    by_cases h3 : 128 ≤ c <;> simp [h3]
    omega
end Mine

namespace Mine
open PySem
/-! law 4: names, spans, years -/
def spans : List (Int × Int) := [(16, 20), (33, 34), (36, 38), (49, 49), (51, 64), (80, 93), (112, 115), (120, 120), (126, 127), (129, 141), (143, 148)]
def late : List (Int × Int) := [(52, 52), (80, 93), (148, 148)]
theorem ownT (v : Sv) (σ : St) : vidx σ (.tup [.tup [.int 18, .int 19, .int 34, .int 49], .tup [.int 18, .int 19, .int 34, .int 36, .int 49], .tup [.int 19, .int 36, .int 49, .int 113, .int 114, .int 115, .int 146, .int 147], .tup [.int 19, .int 34, .int 49, .int 51]]) (.int v.n) = some (.tup ((own v).map V.int)) := by cases v <;> rfl
theorem everyT : V.tup [.int 16, .int 17, .int 20, .int 33, .int 37, .int 38, .int 51, .int 52, .int 56, .int 57, .int 120, .int 127, .int 148] = .tup (every.map V.int) := rfl
theorem sp1 : V.tup [.tup [.int 128, .int 254]] = spV [(128, 254)] := rfl
theorem nlt (v : Sv) : decide (v.n < 2) = v.sub := by cases v <;> rfl
theorem p_may (v : Sv) (c : Int) (n : Nat) (σ : St) : callN T (n+2) a__law_may [.int v.n, .int c] [] σ = .ok (.bool (may v c)) σ := by
  rw [open_ fn_may]
  unfold may
  rw [show bindK f__law_may.ps [V.int v.n, V.int c] [] = some [some (.int v.n), some (.int c)] from rfl, run_s]
  rw [show f__law_may.nl = 2 from rfl]
  show ((exs T _ f__law_may.body [some (.int v.n), some (.int c)] σ).bind cFin).out = _
  cases h1 : hasC (own v) c <;> cases h2 : hasC every c <;> cases h3 : decide (c = 126) <;> cases h4 : hasC (own v) 34 <;>
    simp only [b_ok, b_exc, b_bad, o_ok, o_exc, x_v, x_p, x_vn, x_pn, c_ok, of_s, om_s, getL_s, l_0, l_s, e_lit, e_loc, cBin2, cBin, e_bin, e_inv, cInv_i, cCmp2, cCmp, e_cmp, e_and, e_or, cNot, e_not, e_ite, cIte_t, cIte_f, cTup, cLst, e_tup, e_lst, cIdx2, cIdx, e_idx, cSli3, cSli2, cSli, e_sli, cAttr, e_attr, cHas, e_has, cClsOf, e_clsOf, cNameOf, e_nameOf, cCall, e_call, cMeth3, cMeth2, cMeth1_s, cMeth, e_meth, e_blt, k_len, k_len0, k_len1, k_blt, cBltQ, e_bltQ, e_comp, cEvs2, cEvs, s_nil, s_cons, cAnd, k_andt, k_andf, a_one, a_cons, cOr, k_ort, k_orf, r_one, r_cons, cTru, cTNot, t_not, t_and, t_or, t_ite, t_lit, t_loc, t_cmp, t_attr, t_has, t_idx, t_blt, t_call, t_meth, ta_nil, ta_cons, cTAnd_t, cTAnd_f, to_nil, to_cons, cTOr_t, cTOr_f, cTIte_t, cTIte_f, ti_nil, ti_cons, cTIf_t, cTIf_f, cAsg, x_asg, setT, cMls, x_mls, okSt_s, cSetA2, cSetA, x_setA, cSetI3, cSetI2, cSetI, x_setI, cAug2, cAug_s, x_aug, cApp2, cApp, x_app, cRet, x_ret, x_ite, cIf_t, cIf_f, x_for, body_one, x_try, cTry_ok, cTry_exc, cCatch_s, caught, hit, x_raise, cRaise_s, cRaise_t, x_asrt, cAsrt_t, x_cont, xs_nil, xs_cons, q_next, q_cont, q_ret, f_ret, f_next, run_s, bindGo, bk_nil, cNew_n, get_last, set_last, setF, hasA, vtruth, vb_add, vb_sub, vb_mul, vb_fdiv, vb_mod, vb_bor, vb_band, vb_lst, vb_byt, vb_str, vaug, vcmp, q_nn, q_bb, q_ii, q_ss, q_yy, q_ni, q_in, q_nb, q_bn, q_sy, q_ys, q_ny, q_yn, q_tt, q_ts, q_st, visame, vi_b_bool, vi_b_int, vi_b_str, vi_b_bytes, vi_b_type, vi_i_bool, vi_i_int, vi_i_str, vi_i_bytes, vi_i_type, vi_s_bool, vi_s_int, vi_s_str, vi_s_bytes, vi_s_type, vi_y_bool, vi_y_int, vi_y_str, vi_y_bytes, vi_y_type, vi_n_bool, vi_n_int, vi_n_str, vi_n_bytes, vi_n_type, w_int, w_isinst, w_bytes, w_list, w_str, w_issub, lo_b, lo_l, lo_t, len_b, len_l, len_t, unl, List.lookup, ibeq, f__law_may, vin_map, ownT, everyT, sp1, nlt, vc_int, vge, vlt, veq', call_fn fn_within, p_within c [(128, 254)] (by decide), h1, h2, h3, h4, decide_true, decide_false, List.set_cons_zero, List.set_cons_succ, if_true, if_false, Bool.false_eq_true, Bool.or_true, Bool.true_or, Bool.or_false, Bool.false_or, Bool.and_true, Bool.true_and, Bool.and_false, Bool.false_and]
/-! is_negative -/
def neg (c : Int) : Bool := !decide (c = 0) && codeD.any fun p => decide (p.1 = c)
theorem neg_eq : f_ResponseCode_is_negative.body = .cons (.ite (.cmp .isin (.loc 1) (.lst (.cons (.lit .none) (.cons (.attr (.loc 0) 28) .nil)))) (.cons (.ret (.lit (.bool false))) .nil) .nil) (.cons (.ret (.cmp .isin (.loc 1) (.lit (.dct codeD)))) .nil) := by rfl
theorem p_code_neg (c : Int) (n : Nat) (σ : St) : callN T (n+1) a_ResponseCode_is_negative [.cls a_ResponseCode, .int c] [] σ = .ok (.bool (neg c)) σ := by
  rw [open_ fn_code_neg]
  rw [show bindK f_ResponseCode_is_negative.ps [V.cls a_ResponseCode, V.int c] [] = some [some (.cls a_ResponseCode), some (.int c)] from rfl, run_s, neg_eq]
  rw [show f_ResponseCode_is_negative.nl = 2 from rfl]
  unfold neg
  by_cases hc : c = 0
  · subst hc
    simp [b_ok, b_exc, b_bad, o_ok, o_exc, x_v, x_p, x_vn, x_pn, c_ok, of_s, om_s, getL_s, l_0, l_s, e_lit, e_loc, cBin2, cBin, e_bin, e_inv, cInv_i, cCmp2, cCmp, e_cmp, e_and, e_or, cNot, e_not, e_ite, cIte_t, cIte_f, cTup, cLst, e_tup, e_lst, cIdx2, cIdx, e_idx, cSli3, cSli2, cSli, e_sli, cAttr, e_attr, cHas, e_has, cClsOf, e_clsOf, cNameOf, e_nameOf, cCall, e_call, cMeth3, cMeth2, cMeth1_s, cMeth, e_meth, e_blt, k_len, k_len0, k_len1, k_blt, cBltQ, e_bltQ, e_comp, cEvs2, cEvs, s_nil, s_cons, cAnd, k_andt, k_andf, a_one, a_cons, cOr, k_ort, k_orf, r_one, r_cons, cTru, cTNot, t_not, t_and, t_or, t_ite, t_lit, t_loc, t_cmp, t_attr, t_has, t_idx, t_blt, t_call, t_meth, ta_nil, ta_cons, cTAnd_t, cTAnd_f, to_nil, to_cons, cTOr_t, cTOr_f, cTIte_t, cTIte_f, ti_nil, ti_cons, cTIf_t, cTIf_f, cAsg, x_asg, setT, cMls, x_mls, okSt_s, cSetA2, cSetA, x_setA, cSetI3, cSetI2, cSetI, x_setI, cAug2, cAug_s, x_aug, cApp2, cApp, x_app, cRet, x_ret, x_ite, cIf_t, cIf_f, x_for, body_one, x_try, cTry_ok, cTry_exc, cCatch_s, caught, hit, x_raise, cRaise_s, cRaise_t, x_asrt, cAsrt_t, x_cont, xs_nil, xs_cons, q_next, q_cont, q_ret, f_ret, f_next, run_s, bindGo, bk_nil, cNew_n, get_last, set_last, setF, hasA, vtruth, vb_add, vb_sub, vb_mul, vb_fdiv, vb_mod, vb_bor, vb_band, vb_lst, vb_byt, vb_str, vaug, vcmp, q_nn, q_bb, q_ii, q_ss, q_yy, q_ni, q_in, q_nb, q_bn, q_sy, q_ys, q_ny, q_yn, q_tt, q_ts, q_st, visame, vi_b_bool, vi_b_int, vi_b_str, vi_b_bytes, vi_b_type, vi_i_bool, vi_i_int, vi_i_str, vi_i_bytes, vi_i_type, vi_s_bool, vi_s_int, vi_s_str, vi_s_bytes, vi_s_type, vi_y_bool, vi_y_int, vi_y_str, vi_y_bytes, vi_y_type, vi_n_bool, vi_n_int, vi_n_str, vi_n_bytes, vi_n_type, w_int, w_isinst, w_bytes, w_list, w_str, w_issub, lo_b, lo_l, lo_t, len_b, len_l, len_t, unl, List.lookup, ibeq, g28, vin]
  · simp [b_ok, b_exc, b_bad, o_ok, o_exc, x_v, x_p, x_vn, x_pn, c_ok, of_s, om_s, getL_s, l_0, l_s, e_lit, e_loc, cBin2, cBin, e_bin, e_inv, cInv_i, cCmp2, cCmp, e_cmp, e_and, e_or, cNot, e_not, e_ite, cIte_t, cIte_f, cTup, cLst, e_tup, e_lst, cIdx2, cIdx, e_idx, cSli3, cSli2, cSli, e_sli, cAttr, e_attr, cHas, e_has, cClsOf, e_clsOf, cNameOf, e_nameOf, cCall, e_call, cMeth3, cMeth2, cMeth1_s, cMeth, e_meth, e_blt, k_len, k_len0, k_len1, k_blt, cBltQ, e_bltQ, e_comp, cEvs2, cEvs, s_nil, s_cons, cAnd, k_andt, k_andf, a_one, a_cons, cOr, k_ort, k_orf, r_one, r_cons, cTru, cTNot, t_not, t_and, t_or, t_ite, t_lit, t_loc, t_cmp, t_attr, t_has, t_idx, t_blt, t_call, t_meth, ta_nil, ta_cons, cTAnd_t, cTAnd_f, to_nil, to_cons, cTOr_t, cTOr_f, cTIte_t, cTIte_f, ti_nil, ti_cons, cTIf_t, cTIf_f, cAsg, x_asg, setT, cMls, x_mls, okSt_s, cSetA2, cSetA, x_setA, cSetI3, cSetI2, cSetI, x_setI, cAug2, cAug_s, x_aug, cApp2, cApp, x_app, cRet, x_ret, x_ite, cIf_t, cIf_f, x_for, body_one, x_try, cTry_ok, cTry_exc, cCatch_s, caught, hit, x_raise, cRaise_s, cRaise_t, x_asrt, cAsrt_t, x_cont, xs_nil, xs_cons, q_next, q_cont, q_ret, f_ret, f_next, run_s, bindGo, bk_nil, cNew_n, get_last, set_last, setF, hasA, vtruth, vb_add, vb_sub, vb_mul, vb_fdiv, vb_mod, vb_bor, vb_band, vb_lst, vb_byt, vb_str, vaug, vcmp, q_nn, q_bb, q_ii, q_ss, q_yy, q_ni, q_in, q_nb, q_bn, q_sy, q_ys, q_ny, q_yn, q_tt, q_ts, q_st, visame, vi_b_bool, vi_b_int, vi_b_str, vi_b_bytes, vi_b_type, vi_i_bool, vi_i_int, vi_i_str, vi_i_bytes, vi_i_type, vi_s_bool, vi_s_int, vi_s_str, vi_s_bytes, vi_s_type, vi_y_bool, vi_y_int, vi_y_str, vi_y_bytes, vi_y_type, vi_n_bool, vi_n_int, vi_n_str, vi_n_bytes, vi_n_type, w_int, w_isinst, w_bytes, w_list, w_str, w_issub, lo_b, lo_l, lo_t, len_b, len_l, len_t, unl, List.lookup, ibeq, g28, vin, hc, show ¬ 0 = c from fun q => hc q.symm]
/-! names -/
def strOf : V → Str
  | .str s => s
  | _ => (Str.ofString "")
def isStr : V → Bool
  | .str _ => true
  | _ => false
theorem isStr_eq {v : V} (h : isStr v = true) : v = .str (strOf v) := by cases v <;> first | rfl | cases h
theorem codeD_str : (codeD.all fun p => isStr p.2) = true := by rfl
def nameS (c : Int) : Str := strOf (nameV c)
theorem nameV_eq (c : Int) : nameV c = .str (nameS c) := by
  unfold nameS nameV
  cases hf : codeD.find? fun p => decide (p.1 = c) with
  | none => rfl
  | some p => exact isStr_eq (List.all_eq_true.mp codeD_str p (List.mem_of_find?_eq_some hf))
def nmV (l : List (Int × Str)) : V := .tup (l.map fun p => .tup [.int p.1, .str p.2])
def namesV : V := match f__law_named.body with
  | .cons _ (.cons (.for_ _ (.lit v) _) _) => v
  | _ => .none
def unP : V → List (Int × Str)
  | .tup [.int i, .str s] => [(i, s)]
  | _ => []
def unL : List V → List (Int × Str)
  | [] => []
  | v :: r => unP v ++ unL r
def namesL : List (Int × Str) := match namesV with
  | .tup l => unL l
  | _ => []
theorem namesV_eq : namesV = nmV namesL := by rfl
theorem namesL_len : namesL.length ≤ 1000 := by decide +kernel
theorem spL : V.tup [.tup [.int 16, .int 20], .tup [.int 33, .int 34], .tup [.int 36, .int 38], .tup [.int 49, .int 49], .tup [.int 51, .int 64], .tup [.int 80, .int 93], .tup [.int 112, .int 115], .tup [.int 120, .int 120], .tup [.int 126, .int 127], .tup [.int 129, .int 141], .tup [.int 143, .int 148]] = spV spans := rfl
theorem spLate : V.tup [.tup [.int 52, .int 52], .tup [.int 80, .int 93], .tup [.int 148, .int 148]] = spV late := rfl
theorem named_eq : f__law_named.body = .cons (.ite (.and_ (.cons (.cmp .ne (.loc 0) (.lit (.int 0))) (.cons (.not_ (.call (.lit (.cls a__law_within)) (.cons (.loc 0) (.cons (.lit (spV spans)) .nil)))) .nil))) (.cons (.ret (.blt .str (.cons (.loc 0) .nil))) .nil) .nil)
  (.cons (.for_ (.many [1, 2]) (.lit namesV) (.cons (.ite (.cmp .eq (.loc 1) (.loc 0)) (.cons (.ret (.loc 2)) .nil) .nil) .nil)) (.cons (.ret (.lit (.str (Str.ofString "")))) .nil)) := by rfl
def named (c : Int) : Str := if !decide (c = 0) && !within c spans then intText c else match namesL.find? fun p => decide (p.1 = c) with
  | some p => p.2
  | none => (Str.ofString "")
theorem named_loop (c : Int) (cf : CF) (σ : St) : ∃ ρ', cFor T cf (.many [1, 2]) (.cons (.ite (.cmp .eq (.loc 1) (.loc 0)) (.cons (.ret (.loc 2)) .nil) .nil) .nil) [some (.int c), none, none] namesV σ = .ok (match namesL.find? fun p => decide (p.1 = c) with | some p => .ret (.str p.2) | none => .next, ρ') σ := by
  obtain ⟨ρ', -, h⟩ := forL_find (f := bodyF T cf (.many [1, 2]) (.cons (.ite (.cmp .eq (.loc 1) (.loc 0)) (.cons (.ret (.loc 2)) .nil) .nil) .nil)) (g := fun p : Int × Str => V.tup [.int p.1, .str p.2]) (p := fun p => decide (p.1 = c)) (r := fun p => V.str p.2) (σ := σ)
    (fun ρ => ∃ x y, ρ = [some (.int c), x, y]) (by
      rintro p ρ ⟨x, y, rfl⟩
      refine ⟨_, ⟨some (.int p.1), some (.str p.2), rfl⟩, ?_⟩
      rw [body_two]
      by_cases h1 : p.1 = c <;> simp [b_ok, b_exc, b_bad, o_ok, o_exc, x_v, x_p, x_vn, x_pn, c_ok, of_s, om_s, getL_s, l_0, l_s, e_lit, e_loc, cBin2, cBin, e_bin, e_inv, cInv_i, cCmp2, cCmp, e_cmp, e_and, e_or, cNot, e_not, e_ite, cIte_t, cIte_f, cTup, cLst, e_tup, e_lst, cIdx2, cIdx, e_idx, cSli3, cSli2, cSli, e_sli, cAttr, e_attr, cHas, e_has, cClsOf, e_clsOf, cNameOf, e_nameOf, cCall, e_call, cMeth3, cMeth2, cMeth1_s, cMeth, e_meth, e_blt, k_len, k_len0, k_len1, k_blt, cBltQ, e_bltQ, e_comp, cEvs2, cEvs, s_nil, s_cons, cAnd, k_andt, k_andf, a_one, a_cons, cOr, k_ort, k_orf, r_one, r_cons, cTru, cTNot, t_not, t_and, t_or, t_ite, t_lit, t_loc, t_cmp, t_attr, t_has, t_idx, t_blt, t_call, t_meth, ta_nil, ta_cons, cTAnd_t, cTAnd_f, to_nil, to_cons, cTOr_t, cTOr_f, cTIte_t, cTIte_f, ti_nil, ti_cons, cTIf_t, cTIf_f, cAsg, x_asg, setT, cMls, x_mls, okSt_s, cSetA2, cSetA, x_setA, cSetI3, cSetI2, cSetI, x_setI, cAug2, cAug_s, x_aug, cApp2, cApp, x_app, cRet, x_ret, x_ite, cIf_t, cIf_f, x_for, body_one, x_try, cTry_ok, cTry_exc, cCatch_s, caught, hit, x_raise, cRaise_s, cRaise_t, x_asrt, cAsrt_t, x_cont, xs_nil, xs_cons, q_next, q_cont, q_ret, f_ret, f_next, run_s, bindGo, bk_nil, cNew_n, get_last, set_last, setF, hasA, vtruth, vb_add, vb_sub, vb_mul, vb_fdiv, vb_mod, vb_bor, vb_band, vb_lst, vb_byt, vb_str, vaug, vcmp, q_nn, q_bb, q_ii, q_ss, q_yy, q_ni, q_in, q_nb, q_bn, q_sy, q_ys, q_ny, q_yn, q_tt, q_ts, q_st, visame, vi_b_bool, vi_b_int, vi_b_str, vi_b_bytes, vi_b_type, vi_i_bool, vi_i_int, vi_i_str, vi_i_bytes, vi_i_type, vi_s_bool, vi_s_int, vi_s_str, vi_s_bytes, vi_s_type, vi_y_bool, vi_y_int, vi_y_str, vi_y_bytes, vi_y_type, vi_n_bool, vi_n_int, vi_n_str, vi_n_bytes, vi_n_type, w_int, w_isinst, w_bytes, w_list, w_str, w_issub, lo_b, lo_l, lo_t, len_b, len_l, len_t, unl, List.lookup, ibeq, veq', h1]) namesL [some (.int c), none, none] ⟨_, _, rfl⟩
  refine ⟨ρ', ?_⟩
  rw [namesV_eq]
  have hf := k_for_tup (T := T) (cf := cf) (ρ := [some (.int c), none, none]) (σ := σ) (.many [1, 2]) (.cons (.ite (.cmp .eq (.loc 1) (.loc 0)) (.cons (.ret (.loc 2)) .nil) .nil) .nil) (namesL.map fun p => .tup [.int p.1, .str p.2]) (roomL _ (by simpa using namesL_len))
  rw [h] at hf
  unfold nmV
  rw [hf]
  cases namesL.find? fun p => decide (p.1 = c) <;> rfl
theorem vne' (a b : V) : vcmp T .ne a b = (veq a b).map (!·) := rfl
theorem p_named (c : Int) (hc : small c = true) (n : Nat) (σ : St) : callN T (n+2) a__law_named [.int c] [] σ = .ok (.str (named c)) σ := by
  rw [open_ fn_named]
  rw [show bindK f__law_named.ps [V.int c] [] = some [some (.int c)] from rfl, run_s, named_eq]
  rw [show f__law_named.nl = 3 from rfl]
  show ((exs T _ _ [some (.int c), none, none] σ).bind cFin).out = _
  obtain ⟨ρ', h⟩ := named_loop c (callN T (n+1)) σ
  unfold named
  by_cases h0 : c = 0
  · cases hf : namesL.find? fun p => decide (p.1 = c) with
    | none => rw [hf] at h; simp [b_ok, b_exc, b_bad, o_ok, o_exc, x_v, x_p, x_vn, x_pn, c_ok, of_s, om_s, getL_s, l_0, l_s, e_lit, e_loc, cBin2, cBin, e_bin, e_inv, cInv_i, cCmp2, cCmp, e_cmp, e_and, e_or, cNot, e_not, e_ite, cIte_t, cIte_f, cTup, cLst, e_tup, e_lst, cIdx2, cIdx, e_idx, cSli3, cSli2, cSli, e_sli, cAttr, e_attr, cHas, e_has, cClsOf, e_clsOf, cNameOf, e_nameOf, cCall, e_call, cMeth3, cMeth2, cMeth1_s, cMeth, e_meth, e_blt, k_len, k_len0, k_len1, k_blt, cBltQ, e_bltQ, e_comp, cEvs2, cEvs, s_nil, s_cons, cAnd, k_andt, k_andf, a_one, a_cons, cOr, k_ort, k_orf, r_one, r_cons, cTru, cTNot, t_not, t_and, t_or, t_ite, t_lit, t_loc, t_cmp, t_attr, t_has, t_idx, t_blt, t_call, t_meth, ta_nil, ta_cons, cTAnd_t, cTAnd_f, to_nil, to_cons, cTOr_t, cTOr_f, cTIte_t, cTIte_f, ti_nil, ti_cons, cTIf_t, cTIf_f, cAsg, x_asg, setT, cMls, x_mls, okSt_s, cSetA2, cSetA, x_setA, cSetI3, cSetI2, cSetI, x_setI, cAug2, cAug_s, x_aug, cApp2, cApp, x_app, cRet, x_ret, x_ite, cIf_t, cIf_f, x_for, body_one, x_try, cTry_ok, cTry_exc, cCatch_s, caught, hit, x_raise, cRaise_s, cRaise_t, x_asrt, cAsrt_t, x_cont, xs_nil, xs_cons, q_next, q_cont, q_ret, f_ret, f_next, run_s, bindGo, bk_nil, cNew_n, get_last, set_last, setF, hasA, vtruth, vb_add, vb_sub, vb_mul, vb_fdiv, vb_mod, vb_bor, vb_band, vb_lst, vb_byt, vb_str, vaug, vcmp, q_nn, q_bb, q_ii, q_ss, q_yy, q_ni, q_in, q_nb, q_bn, q_sy, q_ys, q_ny, q_yn, q_tt, q_ts, q_st, visame, vi_b_bool, vi_b_int, vi_b_str, vi_b_bytes, vi_b_type, vi_i_bool, vi_i_int, vi_i_str, vi_i_bytes, vi_i_type, vi_s_bool, vi_s_int, vi_s_str, vi_s_bytes, vi_s_type, vi_y_bool, vi_y_int, vi_y_str, vi_y_bytes, vi_y_type, vi_n_bool, vi_n_int, vi_n_str, vi_n_bytes, vi_n_type, w_int, w_isinst, w_bytes, w_list, w_str, w_issub, lo_b, lo_l, lo_t, len_b, len_l, len_t, unl, List.lookup, ibeq, call_fn fn_within, p_within c spans (by decide), vne', h0] ; subst h0; rw [h]; simp [b_ok, b_exc, b_bad, o_ok, o_exc, x_v, x_p, x_vn, x_pn, c_ok, of_s, om_s, getL_s, l_0, l_s, e_lit, e_loc, cBin2, cBin, e_bin, e_inv, cInv_i, cCmp2, cCmp, e_cmp, e_and, e_or, cNot, e_not, e_ite, cIte_t, cIte_f, cTup, cLst, e_tup, e_lst, cIdx2, cIdx, e_idx, cSli3, cSli2, cSli, e_sli, cAttr, e_attr, cHas, e_has, cClsOf, e_clsOf, cNameOf, e_nameOf, cCall, e_call, cMeth3, cMeth2, cMeth1_s, cMeth, e_meth, e_blt, k_len, k_len0, k_len1, k_blt, cBltQ, e_bltQ, e_comp, cEvs2, cEvs, s_nil, s_cons, cAnd, k_andt, k_andf, a_one, a_cons, cOr, k_ort, k_orf, r_one, r_cons, cTru, cTNot, t_not, t_and, t_or, t_ite, t_lit, t_loc, t_cmp, t_attr, t_has, t_idx, t_blt, t_call, t_meth, ta_nil, ta_cons, cTAnd_t, cTAnd_f, to_nil, to_cons, cTOr_t, cTOr_f, cTIte_t, cTIte_f, ti_nil, ti_cons, cTIf_t, cTIf_f, cAsg, x_asg, setT, cMls, x_mls, okSt_s, cSetA2, cSetA, x_setA, cSetI3, cSetI2, cSetI, x_setI, cAug2, cAug_s, x_aug, cApp2, cApp, x_app, cRet, x_ret, x_ite, cIf_t, cIf_f, x_for, body_one, x_try, cTry_ok, cTry_exc, cCatch_s, caught, hit, x_raise, cRaise_s, cRaise_t, x_asrt, cAsrt_t, x_cont, xs_nil, xs_cons, q_next, q_cont, q_ret, f_ret, f_next, run_s, bindGo, bk_nil, cNew_n, get_last, set_last, setF, hasA, vtruth, vb_add, vb_sub, vb_mul, vb_fdiv, vb_mod, vb_bor, vb_band, vb_lst, vb_byt, vb_str, vaug, vcmp, q_nn, q_bb, q_ii, q_ss, q_yy, q_ni, q_in, q_nb, q_bn, q_sy, q_ys, q_ny, q_yn, q_tt, q_ts, q_st, visame, vi_b_bool, vi_b_int, vi_b_str, vi_b_bytes, vi_b_type, vi_i_bool, vi_i_int, vi_i_str, vi_i_bytes, vi_i_type, vi_s_bool, vi_s_int, vi_s_str, vi_s_bytes, vi_s_type, vi_y_bool, vi_y_int, vi_y_str, vi_y_bytes, vi_y_type, vi_n_bool, vi_n_int, vi_n_str, vi_n_bytes, vi_n_type, w_int, w_isinst, w_bytes, w_list, w_str, w_issub, lo_b, lo_l, lo_t, len_b, len_l, len_t, unl, List.lookup, ibeq]
    | some p => rw [hf] at h; simp [b_ok, b_exc, b_bad, o_ok, o_exc, x_v, x_p, x_vn, x_pn, c_ok, of_s, om_s, getL_s, l_0, l_s, e_lit, e_loc, cBin2, cBin, e_bin, e_inv, cInv_i, cCmp2, cCmp, e_cmp, e_and, e_or, cNot, e_not, e_ite, cIte_t, cIte_f, cTup, cLst, e_tup, e_lst, cIdx2, cIdx, e_idx, cSli3, cSli2, cSli, e_sli, cAttr, e_attr, cHas, e_has, cClsOf, e_clsOf, cNameOf, e_nameOf, cCall, e_call, cMeth3, cMeth2, cMeth1_s, cMeth, e_meth, e_blt, k_len, k_len0, k_len1, k_blt, cBltQ, e_bltQ, e_comp, cEvs2, cEvs, s_nil, s_cons, cAnd, k_andt, k_andf, a_one, a_cons, cOr, k_ort, k_orf, r_one, r_cons, cTru, cTNot, t_not, t_and, t_or, t_ite, t_lit, t_loc, t_cmp, t_attr, t_has, t_idx, t_blt, t_call, t_meth, ta_nil, ta_cons, cTAnd_t, cTAnd_f, to_nil, to_cons, cTOr_t, cTOr_f, cTIte_t, cTIte_f, ti_nil, ti_cons, cTIf_t, cTIf_f, cAsg, x_asg, setT, cMls, x_mls, okSt_s, cSetA2, cSetA, x_setA, cSetI3, cSetI2, cSetI, x_setI, cAug2, cAug_s, x_aug, cApp2, cApp, x_app, cRet, x_ret, x_ite, cIf_t, cIf_f, x_for, body_one, x_try, cTry_ok, cTry_exc, cCatch_s, caught, hit, x_raise, cRaise_s, cRaise_t, x_asrt, cAsrt_t, x_cont, xs_nil, xs_cons, q_next, q_cont, q_ret, f_ret, f_next, run_s, bindGo, bk_nil, cNew_n, get_last, set_last, setF, hasA, vtruth, vb_add, vb_sub, vb_mul, vb_fdiv, vb_mod, vb_bor, vb_band, vb_lst, vb_byt, vb_str, vaug, vcmp, q_nn, q_bb, q_ii, q_ss, q_yy, q_ni, q_in, q_nb, q_bn, q_sy, q_ys, q_ny, q_yn, q_tt, q_ts, q_st, visame, vi_b_bool, vi_b_int, vi_b_str, vi_b_bytes, vi_b_type, vi_i_bool, vi_i_int, vi_i_str, vi_i_bytes, vi_i_type, vi_s_bool, vi_s_int, vi_s_str, vi_s_bytes, vi_s_type, vi_y_bool, vi_y_int, vi_y_str, vi_y_bytes, vi_y_type, vi_n_bool, vi_n_int, vi_n_str, vi_n_bytes, vi_n_type, w_int, w_isinst, w_bytes, w_list, w_str, w_issub, lo_b, lo_l, lo_t, len_b, len_l, len_t, unl, List.lookup, ibeq, call_fn fn_within, p_within c spans (by decide), vne', h0]; subst h0; rw [h]; simp [b_ok, b_exc, b_bad, o_ok, o_exc, x_v, x_p, x_vn, x_pn, c_ok, of_s, om_s, getL_s, l_0, l_s, e_lit, e_loc, cBin2, cBin, e_bin, e_inv, cInv_i, cCmp2, cCmp, e_cmp, e_and, e_or, cNot, e_not, e_ite, cIte_t, cIte_f, cTup, cLst, e_tup, e_lst, cIdx2, cIdx, e_idx, cSli3, cSli2, cSli, e_sli, cAttr, e_attr, cHas, e_has, cClsOf, e_clsOf, cNameOf, e_nameOf, cCall, e_call, cMeth3, cMeth2, cMeth1_s, cMeth, e_meth, e_blt, k_len, k_len0, k_len1, k_blt, cBltQ, e_bltQ, e_comp, cEvs2, cEvs, s_nil, s_cons, cAnd, k_andt, k_andf, a_one, a_cons, cOr, k_ort, k_orf, r_one, r_cons, cTru, cTNot, t_not, t_and, t_or, t_ite, t_lit, t_loc, t_cmp, t_attr, t_has, t_idx, t_blt, t_call, t_meth, ta_nil, ta_cons, cTAnd_t, cTAnd_f, to_nil, to_cons, cTOr_t, cTOr_f, cTIte_t, cTIte_f, ti_nil, ti_cons, cTIf_t, cTIf_f, cAsg, x_asg, setT, cMls, x_mls, okSt_s, cSetA2, cSetA, x_setA, cSetI3, cSetI2, cSetI, x_setI, cAug2, cAug_s, x_aug, cApp2, cApp, x_app, cRet, x_ret, x_ite, cIf_t, cIf_f, x_for, body_one, x_try, cTry_ok, cTry_exc, cCatch_s, caught, hit, x_raise, cRaise_s, cRaise_t, x_asrt, cAsrt_t, x_cont, xs_nil, xs_cons, q_next, q_cont, q_ret, f_ret, f_next, run_s, bindGo, bk_nil, cNew_n, get_last, set_last, setF, hasA, vtruth, vb_add, vb_sub, vb_mul, vb_fdiv, vb_mod, vb_bor, vb_band, vb_lst, vb_byt, vb_str, vaug, vcmp, q_nn, q_bb, q_ii, q_ss, q_yy, q_ni, q_in, q_nb, q_bn, q_sy, q_ys, q_ny, q_yn, q_tt, q_ts, q_st, visame, vi_b_bool, vi_b_int, vi_b_str, vi_b_bytes, vi_b_type, vi_i_bool, vi_i_int, vi_i_str, vi_i_bytes, vi_i_type, vi_s_bool, vi_s_int, vi_s_str, vi_s_bytes, vi_s_type, vi_y_bool, vi_y_int, vi_y_str, vi_y_bytes, vi_y_type, vi_n_bool, vi_n_int, vi_n_str, vi_n_bytes, vi_n_type, w_int, w_isinst, w_bytes, w_list, w_str, w_issub, lo_b, lo_l, lo_t, len_b, len_l, len_t, unl, List.lookup, ibeq]
  · cases hw : within c spans with
    | false => simp [b_ok, b_exc, b_bad, o_ok, o_exc, x_v, x_p, x_vn, x_pn, c_ok, of_s, om_s, getL_s, l_0, l_s, e_lit, e_loc, cBin2, cBin, e_bin, e_inv, cInv_i, cCmp2, cCmp, e_cmp, e_and, e_or, cNot, e_not, e_ite, cIte_t, cIte_f, cTup, cLst, e_tup, e_lst, cIdx2, cIdx, e_idx, cSli3, cSli2, cSli, e_sli, cAttr, e_attr, cHas, e_has, cClsOf, e_clsOf, cNameOf, e_nameOf, cCall, e_call, cMeth3, cMeth2, cMeth1_s, cMeth, e_meth, e_blt, k_len, k_len0, k_len1, k_blt, cBltQ, e_bltQ, e_comp, cEvs2, cEvs, s_nil, s_cons, cAnd, k_andt, k_andf, a_one, a_cons, cOr, k_ort, k_orf, r_one, r_cons, cTru, cTNot, t_not, t_and, t_or, t_ite, t_lit, t_loc, t_cmp, t_attr, t_has, t_idx, t_blt, t_call, t_meth, ta_nil, ta_cons, cTAnd_t, cTAnd_f, to_nil, to_cons, cTOr_t, cTOr_f, cTIte_t, cTIte_f, ti_nil, ti_cons, cTIf_t, cTIf_f, cAsg, x_asg, setT, cMls, x_mls, okSt_s, cSetA2, cSetA, x_setA, cSetI3, cSetI2, cSetI, x_setI, cAug2, cAug_s, x_aug, cApp2, cApp, x_app, cRet, x_ret, x_ite, cIf_t, cIf_f, x_for, body_one, x_try, cTry_ok, cTry_exc, cCatch_s, caught, hit, x_raise, cRaise_s, cRaise_t, x_asrt, cAsrt_t, x_cont, xs_nil, xs_cons, q_next, q_cont, q_ret, f_ret, f_next, run_s, bindGo, bk_nil, cNew_n, get_last, set_last, setF, hasA, vtruth, vb_add, vb_sub, vb_mul, vb_fdiv, vb_mod, vb_bor, vb_band, vb_lst, vb_byt, vb_str, vaug, vcmp, q_nn, q_bb, q_ii, q_ss, q_yy, q_ni, q_in, q_nb, q_bn, q_sy, q_ys, q_ny, q_yn, q_tt, q_ts, q_st, visame, vi_b_bool, vi_b_int, vi_b_str, vi_b_bytes, vi_b_type, vi_i_bool, vi_i_int, vi_i_str, vi_i_bytes, vi_i_type, vi_s_bool, vi_s_int, vi_s_str, vi_s_bytes, vi_s_type, vi_y_bool, vi_y_int, vi_y_str, vi_y_bytes, vi_y_type, vi_n_bool, vi_n_int, vi_n_str, vi_n_bytes, vi_n_type, w_int, w_isinst, w_bytes, w_list, w_str, w_issub, lo_b, lo_l, lo_t, len_b, len_l, len_t, unl, List.lookup, ibeq, call_fn fn_within, p_within c spans (by decide), vne', h0, hw, hc]
    | true =>
      cases hf : namesL.find? fun p => decide (p.1 = c) with
      | none => rw [hf] at h; simp [b_ok, b_exc, b_bad, o_ok, o_exc, x_v, x_p, x_vn, x_pn, c_ok, of_s, om_s, getL_s, l_0, l_s, e_lit, e_loc, cBin2, cBin, e_bin, e_inv, cInv_i, cCmp2, cCmp, e_cmp, e_and, e_or, cNot, e_not, e_ite, cIte_t, cIte_f, cTup, cLst, e_tup, e_lst, cIdx2, cIdx, e_idx, cSli3, cSli2, cSli, e_sli, cAttr, e_attr, cHas, e_has, cClsOf, e_clsOf, cNameOf, e_nameOf, cCall, e_call, cMeth3, cMeth2, cMeth1_s, cMeth, e_meth, e_blt, k_len, k_len0, k_len1, k_blt, cBltQ, e_bltQ, e_comp, cEvs2, cEvs, s_nil, s_cons, cAnd, k_andt, k_andf, a_one, a_cons, cOr, k_ort, k_orf, r_one, r_cons, cTru, cTNot, t_not, t_and, t_or, t_ite, t_lit, t_loc, t_cmp, t_attr, t_has, t_idx, t_blt, t_call, t_meth, ta_nil, ta_cons, cTAnd_t, cTAnd_f, to_nil, to_cons, cTOr_t, cTOr_f, cTIte_t, cTIte_f, ti_nil, ti_cons, cTIf_t, cTIf_f, cAsg, x_asg, setT, cMls, x_mls, okSt_s, cSetA2, cSetA, x_setA, cSetI3, cSetI2, cSetI, x_setI, cAug2, cAug_s, x_aug, cApp2, cApp, x_app, cRet, x_ret, x_ite, cIf_t, cIf_f, x_for, body_one, x_try, cTry_ok, cTry_exc, cCatch_s, caught, hit, x_raise, cRaise_s, cRaise_t, x_asrt, cAsrt_t, x_cont, xs_nil, xs_cons, q_next, q_cont, q_ret, f_ret, f_next, run_s, bindGo, bk_nil, cNew_n, get_last, set_last, setF, hasA, vtruth, vb_add, vb_sub, vb_mul, vb_fdiv, vb_mod, vb_bor, vb_band, vb_lst, vb_byt, vb_str, vaug, vcmp, q_nn, q_bb, q_ii, q_ss, q_yy, q_ni, q_in, q_nb, q_bn, q_sy, q_ys, q_ny, q_yn, q_tt, q_ts, q_st, visame, vi_b_bool, vi_b_int, vi_b_str, vi_b_bytes, vi_b_type, vi_i_bool, vi_i_int, vi_i_str, vi_i_bytes, vi_i_type, vi_s_bool, vi_s_int, vi_s_str, vi_s_bytes, vi_s_type, vi_y_bool, vi_y_int, vi_y_str, vi_y_bytes, vi_y_type, vi_n_bool, vi_n_int, vi_n_str, vi_n_bytes, vi_n_type, w_int, w_isinst, w_bytes, w_list, w_str, w_issub, lo_b, lo_l, lo_t, len_b, len_l, len_t, unl, List.lookup, ibeq, call_fn fn_within, p_within c spans (by decide), vne', h0, hw, h]
      | some p => rw [hf] at h; simp [b_ok, b_exc, b_bad, o_ok, o_exc, x_v, x_p, x_vn, x_pn, c_ok, of_s, om_s, getL_s, l_0, l_s, e_lit, e_loc, cBin2, cBin, e_bin, e_inv, cInv_i, cCmp2, cCmp, e_cmp, e_and, e_or, cNot, e_not, e_ite, cIte_t, cIte_f, cTup, cLst, e_tup, e_lst, cIdx2, cIdx, e_idx, cSli3, cSli2, cSli, e_sli, cAttr, e_attr, cHas, e_has, cClsOf, e_clsOf, cNameOf, e_nameOf, cCall, e_call, cMeth3, cMeth2, cMeth1_s, cMeth, e_meth, e_blt, k_len, k_len0, k_len1, k_blt, cBltQ, e_bltQ, e_comp, cEvs2, cEvs, s_nil, s_cons, cAnd, k_andt, k_andf, a_one, a_cons, cOr, k_ort, k_orf, r_one, r_cons, cTru, cTNot, t_not, t_and, t_or, t_ite, t_lit, t_loc, t_cmp, t_attr, t_has, t_idx, t_blt, t_call, t_meth, ta_nil, ta_cons, cTAnd_t, cTAnd_f, to_nil, to_cons, cTOr_t, cTOr_f, cTIte_t, cTIte_f, ti_nil, ti_cons, cTIf_t, cTIf_f, cAsg, x_asg, setT, cMls, x_mls, okSt_s, cSetA2, cSetA, x_setA, cSetI3, cSetI2, cSetI, x_setI, cAug2, cAug_s, x_aug, cApp2, cApp, x_app, cRet, x_ret, x_ite, cIf_t, cIf_f, x_for, body_one, x_try, cTry_ok, cTry_exc, cCatch_s, caught, hit, x_raise, cRaise_s, cRaise_t, x_asrt, cAsrt_t, x_cont, xs_nil, xs_cons, q_next, q_cont, q_ret, f_ret, f_next, run_s, bindGo, bk_nil, cNew_n, get_last, set_last, setF, hasA, vtruth, vb_add, vb_sub, vb_mul, vb_fdiv, vb_mod, vb_bor, vb_band, vb_lst, vb_byt, vb_str, vaug, vcmp, q_nn, q_bb, q_ii, q_ss, q_yy, q_ni, q_in, q_nb, q_bn, q_sy, q_ys, q_ny, q_yn, q_tt, q_ts, q_st, visame, vi_b_bool, vi_b_int, vi_b_str, vi_b_bytes, vi_b_type, vi_i_bool, vi_i_int, vi_i_str, vi_i_bytes, vi_i_type, vi_s_bool, vi_s_int, vi_s_str, vi_s_bytes, vi_s_type, vi_y_bool, vi_y_int, vi_y_str, vi_y_bytes, vi_y_type, vi_n_bool, vi_n_int, vi_n_str, vi_n_bytes, vi_n_type, w_int, w_isinst, w_bytes, w_list, w_str, w_issub, lo_b, lo_l, lo_t, len_b, len_l, len_t, unl, List.lookup, ibeq, call_fn fn_within, p_within c spans (by decide), vne', h0, hw, h]
end Mine

namespace Mine
open PySem
/-! law 4: since which year -/
def cDict (kvs : List (Nat × Int)) (σ : St) : Option (Option V) → R V
  | some (some a) => R.of σ ((keysOf T σ a kvs).bind fun l => (goV l [] none).map .dct)
  | _ => .bad
theorem e_dict {cf : CF} {ρ : Loc} {σ : St} (i : Nat) (kvs : List (Nat × Int)) : ev T cf (.dict i kvs) ρ σ = cDict kvs σ (ρ[i]?) := by
  rw [ev]
  rcases ρ[i]? with _ | _ | _ <;> rfl
def stdK : List (Nat × Int) := match f_ResponseCode_is_supported_by_standard.body with
  | .cons _ (.cons _ (.cons (.asg _ (.dict _ l)) _)) => l
  | _ => []
theorem std_eq : f_ResponseCode_is_supported_by_standard.body = .cons (.ite (.not_ (.blt .isinst (.cons (.loc 1) (.cons (.lit (.typ "int")) .nil)))) (.cons (.raise .valN (.bin .mod (.lit (.str (Str.ofString "given code must be an integer value, not %s"))) (.nameOf (.clsOf (.loc 1))))) .nil) .nil)
  (.cons (.ite (.not_ (.blt .isinst (.cons (.loc 2) (.cons (.lit (.typ "int")) .nil)))) (.cons (.raise .valN (.bin .mod (.lit (.str (Str.ofString "given standard_version must be an integer value, not %s"))) (.nameOf (.clsOf (.loc 2))))) .nil) .nil)
  (.cons (.asg (.one 3) (.dict 0 stdK))
  (.cons (.ite (.cmp .nin (.loc 1) (.loc 3)) (.cons (.raise .valN (.bin .mod (.lit (.str (Str.ofString "Do not know the standard version in which this code has been introduced: %s"))) (.loc 1))) .nil) .nil)
  (.cons (.ret (.cmp .ge (.loc 2) (.idx (.loc 3) (.loc 1)))) .nil)))) := by rfl
def unI : V → Int
  | .int i => i
  | _ => 0
def stdI : List (Int × V) := match keysOf T [] (.cls a_ResponseCode) stdK with
  | some l => l
  | none => []
def stdD : List (Int × V) := match goV stdI [] none with
  | some l => l
  | none => []
theorem getA_cls (σ : St) (k : Nat) (a : Nat) : getA T σ k (.cls a) = getA T [] k (.cls a) := rfl
theorem keysOf_cls (σ : St) (a : Nat) : ∀ l : List (Nat × Int), keysOf T σ (.cls a) l = keysOf T [] (.cls a) l
  | [] => rfl
  | (k, n) :: r => by simp only [keysOf, getA_cls σ, keysOf_cls σ a r]
theorem keys_some : (keysOf T [] (.cls a_ResponseCode) stdK).isSome = true := by decide +kernel
theorem go_some : (goV stdI [] none).isSome = true := by decide +kernel
theorem k_keys (σ : St) : keysOf T σ (.cls a_ResponseCode) stdK = some stdI := by
  rw [keysOf_cls]
  have := keys_some
  unfold stdI
  cases h : keysOf T [] (.cls a_ResponseCode) stdK with
  | none => rw [h] at this; cases this
  | some l => rfl
theorem k_go : goV stdI [] none = some stdD := by
  have := go_some
  unfold stdD
  cases h : goV stdI [] none with
  | none => rw [h] at this; cases this
  | some l => rfl
theorem k_dict (σ : St) : cDict stdK σ (some (some (.cls a_ResponseCode))) = .ok (.dct stdD) σ := by
  unfold cDict
  dsimp only
  rw [k_keys, Option.bind_some, k_go]
  rfl
def isInt : V → Bool
  | .int _ => true
  | _ => false
theorem isInt_eq {v : V} (h : isInt v = true) : v = .int (unI v) := by cases v <;> first | rfl | cases h
theorem stdD_int : (stdD.all fun p => isInt p.2) = true := by decide +kernel
def known (c : Int) : Bool := stdD.any fun p => decide (p.1 = c)
def yearOf (c : Int) : Int := match stdD.find? fun p => decide (p.1 = c) with
  | some p => unI p.2
  | none => 0
theorem k_at (σ : St) (c : Int) (h : known c = true) : vidx σ (.dct stdD) (.int c) = some (.int (yearOf c)) := by
  unfold yearOf
  show (stdD.find? fun p => decide (p.1 = c)).map (·.2) = _
  cases hf : stdD.find? fun p => decide (p.1 = c) with
  | none =>
    unfold known at h
    obtain ⟨p, h1, h2⟩ := List.any_eq_true.mp h
    have := List.find?_eq_none.mp hf p h1
    exact absurd h2 this
  | some p => exact congrArg some (isInt_eq (List.all_eq_true.mp stdD_int p (List.mem_of_find?_eq_some hf)))
theorem k_nin (c : Int) : vcmp T .nin (.int c) (.dct stdD) = some (!known c) := rfl
theorem k_f4 (c : Int) (hc : small c = true) : vbin .mod (.str (Str.ofString "Do not know the standard version in which this code has been introduced: %s")) (.int c) = some .txt := by
  show (if ((Str.ofString "Do not know the standard version in which this code has been introduced: %s") == fmt4 && small c) = true then some V.txt else none) = _
  rw [hc, show ((Str.ofString "Do not know the standard version in which this code has been introduced: %s") == fmt4) = true from by kernel_rfl]
  rfl
theorem k_f2 : vbin .mod (.str (Str.ofString "given code must be an integer value, not %s")) (.str (Str.ofString "str")) = some .txt := by
  show (if (fmtS (Str.ofString "given code must be an integer value, not %s") && decide (((Str.ofString "str")).length ≤ 1000000)) = true then some V.txt else none) = _
  rw [show (fmtS (Str.ofString "given code must be an integer value, not %s") && decide (((Str.ofString "str")).length ≤ 1000000)) = true from by kernel_rfl]
  rfl
theorem k_f3 : vbin .mod (.str (Str.ofString "given standard_version must be an integer value, not %s")) (.str (Str.ofString "str")) = some .txt := by
  show (if (fmtS (Str.ofString "given standard_version must be an integer value, not %s") && decide (((Str.ofString "str")).length ≤ 1000000)) = true then some V.txt else none) = _
  rw [show (fmtS (Str.ofString "given standard_version must be an integer value, not %s") && decide (((Str.ofString "str")).length ≤ 1000000)) = true from by kernel_rfl]
  rfl
theorem cls_str (σ : St) (s : Str) : clsA T σ (.str s) = some (.typ "str") := rfl
theorem name_str : nameA T (.typ "str") = some (.str (Str.ofString "str")) := by rfl
theorem p_std (c y : Int) (hc : small c = true) (n : Nat) (σ : St) : callN T (n+1) a_ResponseCode_is_supported_by_standard [.cls a_ResponseCode, .int c, .int y] [] σ = if known c then .ok (.bool (decide (yearOf c ≤ y))) σ else .exc .val σ := by
  rw [open_ fn_std]
  rw [show bindK f_ResponseCode_is_supported_by_standard.ps [V.cls a_ResponseCode, V.int c, V.int y] [] = some [some (.cls a_ResponseCode), some (.int c), some (.int y)] from rfl, run_s, std_eq]
  rw [show f_ResponseCode_is_supported_by_standard.nl = 4 from rfl]
  show ((exs T _ _ [some (.cls a_ResponseCode), some (.int c), some (.int y), none] σ).bind cFin).out = _
  have hn := k_nin c
  have hg : vcmp T .ge (.int y) (.int (yearOf c)) = some (decide (yearOf c ≤ y)) := rfl
  have hf := k_f4 c hc
  have hd := k_dict σ
  have ha := k_at σ c
  generalize stdD = D at *
  generalize stdK = KK at *
  generalize (Str.ofString "Do not know the standard version in which this code has been introduced: %s") = z at *
  cases hk : known c with
  | true =>
    have ha := ha hk
    rw [hk] at hn
    simp only [b_ok, o_ok, o_exc, x_vn, c_ok, of_s, om_s, getL_s, l_0, l_s, e_lit, e_loc, cBin2, cBin, e_bin, cCmp2, cCmp, e_cmp, cIdx2, cIdx, e_idx, e_blt, cEvs2, cEvs, s_nil, s_cons, cTru, cTNot, t_not, t_blt, t_cmp, cAsg, x_asg, setT, cRet, x_ret, x_ite, cIf_t, cIf_f, xs_nil, xs_cons, q_next, q_ret, f_ret, vtruth, w_isinst, vi_i_int, k_blt _ _ _ (show Bl.isinst ≠ Bl.len from nofun), e_dict, hd, hn, ha, hg, Bool.not_true, Bool.not_false, List.set_cons_zero, List.set_cons_succ, if_true]
  | false =>
    rw [hk] at hn
    simp only [b_ok, b_exc, o_ok, o_exc, x_vn, c_ok, of_s, om_s, getL_s, l_0, l_s, e_lit, e_loc, cBin2, cBin, e_bin, cCmp2, cCmp, e_cmp, cIdx2, cIdx, e_idx, e_blt, cEvs2, cEvs, s_nil, s_cons, cTru, cTNot, t_not, t_blt, t_cmp, cAsg, x_asg, setT, cRet, x_ret, x_ite, x_raise, cRaise_t, cIf_t, cIf_f, xs_nil, xs_cons, q_next, q_ret, f_ret, vtruth, w_isinst, vi_i_int, unl, k_blt _ _ _ (show Bl.isinst ≠ Bl.len from nofun), e_dict, hd, hn, hf, Bool.not_true, Bool.not_false, List.set_cons_zero, List.set_cons_succ, if_false, Bool.false_eq_true]
theorem p_std_x (s : Str) (y : V) (n : Nat) (σ : St) : callN T (n+1) a_ResponseCode_is_supported_by_standard [.cls a_ResponseCode, .str s, y] [] σ = .exc .val σ := by
  rw [open_ fn_std]
  rw [show bindK f_ResponseCode_is_supported_by_standard.ps [V.cls a_ResponseCode, V.str s, y] [] = some [some (.cls a_ResponseCode), some (.str s), some y] from rfl, run_s, std_eq]
  rw [show f_ResponseCode_is_supported_by_standard.nl = 4 from rfl]
  show ((exs T _ _ [some (.cls a_ResponseCode), some (.str s), some y, none] σ).bind cFin).out = _
  have hf := k_f2
  have hnm := name_str
  generalize (Str.ofString "given code must be an integer value, not %s") = z at *
  simp only [b_ok, b_exc, o_ok, o_exc, x_vn, c_ok, of_s, om_s, getL_s, l_0, l_s, e_lit, e_loc, cBin2, cBin, e_bin, cClsOf, e_clsOf, cNameOf, e_nameOf, e_blt, cEvs2, cEvs, s_nil, s_cons, cTru, cTNot, t_not, t_blt, x_ite, x_raise, cRaise_t, cIf_t, cIf_f, xs_nil, xs_cons, q_next, q_ret, vtruth, w_isinst, vi_s_int, unl, k_blt _ _ _ (show Bl.isinst ≠ Bl.len from nofun), cls_str, hnm, hf, Bool.not_true, Bool.not_false]
theorem p_std_y (c : Int) (s : Str) (n : Nat) (σ : St) : callN T (n+1) a_ResponseCode_is_supported_by_standard [.cls a_ResponseCode, .int c, .str s] [] σ = .exc .val σ := by
  rw [open_ fn_std]
  rw [show bindK f_ResponseCode_is_supported_by_standard.ps [V.cls a_ResponseCode, V.int c, V.str s] [] = some [some (.cls a_ResponseCode), some (.int c), some (.str s)] from rfl, run_s, std_eq]
  rw [show f_ResponseCode_is_supported_by_standard.nl = 4 from rfl]
  show ((exs T _ _ [some (.cls a_ResponseCode), some (.int c), some (.str s), none] σ).bind cFin).out = _
  have hf := k_f3
  have hnm := name_str
  generalize (Str.ofString "given standard_version must be an integer value, not %s") = z at *
  simp only [b_ok, b_exc, o_ok, o_exc, x_vn, c_ok, of_s, om_s, getL_s, l_0, l_s, e_lit, e_loc, cBin2, cBin, e_bin, cClsOf, e_clsOf, cNameOf, e_nameOf, e_blt, cEvs2, cEvs, s_nil, s_cons, cTru, cTNot, t_not, t_blt, x_ite, x_raise, cRaise_t, cIf_t, cIf_f, xs_nil, xs_cons, q_next, q_ret, vtruth, w_isinst, vi_s_int, vi_i_int, unl, k_blt _ _ _ (show Bl.isinst ≠ Bl.len from nofun), cls_str, hnm, hf, Bool.not_true, Bool.not_false]
theorem mc32 (σ : St) : findM T σ 32 (.cls a_ResponseCode) = some (a_ResponseCode_is_supported_by_standard, .cls a_ResponseCode) := by rfl
def since (c y : Int) : V := if known c then .bool (decide (yearOf c ≤ y)) else .str (Str.ofString "refused")
theorem p_since (c y : Int) (hc : small c = true) (n : Nat) (σ : St) : callN T (n+2) a__law_since [.int c, .int y] [] σ = .ok (since c y) σ := by
  rw [open_ fn_since]
  unfold since
  cases hk : known c <;> simp [b_ok, b_exc, b_bad, o_ok, o_exc, x_v, x_p, x_vn, x_pn, c_ok, of_s, om_s, getL_s, l_0, l_s, e_lit, e_loc, cBin2, cBin, e_bin, e_inv, cInv_i, cCmp2, cCmp, e_cmp, e_and, e_or, cNot, e_not, e_ite, cIte_t, cIte_f, cTup, cLst, e_tup, e_lst, cIdx2, cIdx, e_idx, cSli3, cSli2, cSli, e_sli, cAttr, e_attr, cHas, e_has, cClsOf, e_clsOf, cNameOf, e_nameOf, cCall, e_call, cMeth3, cMeth2, cMeth1_s, cMeth, e_meth, e_blt, k_len, k_len0, k_len1, k_blt, cBltQ, e_bltQ, e_comp, cEvs2, cEvs, s_nil, s_cons, cAnd, k_andt, k_andf, a_one, a_cons, cOr, k_ort, k_orf, r_one, r_cons, cTru, cTNot, t_not, t_and, t_or, t_ite, t_lit, t_loc, t_cmp, t_attr, t_has, t_idx, t_blt, t_call, t_meth, ta_nil, ta_cons, cTAnd_t, cTAnd_f, to_nil, to_cons, cTOr_t, cTOr_f, cTIte_t, cTIte_f, ti_nil, ti_cons, cTIf_t, cTIf_f, cAsg, x_asg, setT, cMls, x_mls, okSt_s, cSetA2, cSetA, x_setA, cSetI3, cSetI2, cSetI, x_setI, cAug2, cAug_s, x_aug, cApp2, cApp, x_app, cRet, x_ret, x_ite, cIf_t, cIf_f, x_for, body_one, x_try, cTry_ok, cTry_exc, cCatch_s, caught, hit, x_raise, cRaise_s, cRaise_t, x_asrt, cAsrt_t, x_cont, xs_nil, xs_cons, q_next, q_cont, q_ret, f_ret, f_next, run_s, bindGo, bk_nil, cNew_n, get_last, set_last, setF, hasA, vtruth, vb_add, vb_sub, vb_mul, vb_fdiv, vb_mod, vb_bor, vb_band, vb_lst, vb_byt, vb_str, vaug, vcmp, q_nn, q_bb, q_ii, q_ss, q_yy, q_ni, q_in, q_nb, q_bn, q_sy, q_ys, q_ny, q_yn, q_tt, q_ts, q_st, visame, vi_b_bool, vi_b_int, vi_b_str, vi_b_bytes, vi_b_type, vi_i_bool, vi_i_int, vi_i_str, vi_i_bytes, vi_i_type, vi_s_bool, vi_s_int, vi_s_str, vi_s_bytes, vi_s_type, vi_y_bool, vi_y_int, vi_y_str, vi_y_bytes, vi_y_type, vi_n_bool, vi_n_int, vi_n_str, vi_n_bytes, vi_n_type, w_int, w_isinst, w_bytes, w_list, w_str, w_issub, lo_b, lo_l, lo_t, len_b, len_l, len_t, unl, List.lookup, ibeq, f__law_since, mc32, p_std c y hc, hk]
theorem p_since_x (s : Str) (y : V) (n : Nat) (σ : St) : callN T (n+2) a__law_since [.str s, y] [] σ = .ok (.str (Str.ofString "refused")) σ := by
  rw [open_ fn_since]
  simp [b_ok, b_exc, b_bad, o_ok, o_exc, x_v, x_p, x_vn, x_pn, c_ok, of_s, om_s, getL_s, l_0, l_s, e_lit, e_loc, cBin2, cBin, e_bin, e_inv, cInv_i, cCmp2, cCmp, e_cmp, e_and, e_or, cNot, e_not, e_ite, cIte_t, cIte_f, cTup, cLst, e_tup, e_lst, cIdx2, cIdx, e_idx, cSli3, cSli2, cSli, e_sli, cAttr, e_attr, cHas, e_has, cClsOf, e_clsOf, cNameOf, e_nameOf, cCall, e_call, cMeth3, cMeth2, cMeth1_s, cMeth, e_meth, e_blt, k_len, k_len0, k_len1, k_blt, cBltQ, e_bltQ, e_comp, cEvs2, cEvs, s_nil, s_cons, cAnd, k_andt, k_andf, a_one, a_cons, cOr, k_ort, k_orf, r_one, r_cons, cTru, cTNot, t_not, t_and, t_or, t_ite, t_lit, t_loc, t_cmp, t_attr, t_has, t_idx, t_blt, t_call, t_meth, ta_nil, ta_cons, cTAnd_t, cTAnd_f, to_nil, to_cons, cTOr_t, cTOr_f, cTIte_t, cTIte_f, ti_nil, ti_cons, cTIf_t, cTIf_f, cAsg, x_asg, setT, cMls, x_mls, okSt_s, cSetA2, cSetA, x_setA, cSetI3, cSetI2, cSetI, x_setI, cAug2, cAug_s, x_aug, cApp2, cApp, x_app, cRet, x_ret, x_ite, cIf_t, cIf_f, x_for, body_one, x_try, cTry_ok, cTry_exc, cCatch_s, caught, hit, x_raise, cRaise_s, cRaise_t, x_asrt, cAsrt_t, x_cont, xs_nil, xs_cons, q_next, q_cont, q_ret, f_ret, f_next, run_s, bindGo, bk_nil, cNew_n, get_last, set_last, setF, hasA, vtruth, vb_add, vb_sub, vb_mul, vb_fdiv, vb_mod, vb_bor, vb_band, vb_lst, vb_byt, vb_str, vaug, vcmp, q_nn, q_bb, q_ii, q_ss, q_yy, q_ni, q_in, q_nb, q_bn, q_sy, q_ys, q_ny, q_yn, q_tt, q_ts, q_st, visame, vi_b_bool, vi_b_int, vi_b_str, vi_b_bytes, vi_b_type, vi_i_bool, vi_i_int, vi_i_str, vi_i_bytes, vi_i_type, vi_s_bool, vi_s_int, vi_s_str, vi_s_bytes, vi_s_type, vi_y_bool, vi_y_int, vi_y_str, vi_y_bytes, vi_y_type, vi_n_bool, vi_n_int, vi_n_str, vi_n_bytes, vi_n_type, w_int, w_isinst, w_bytes, w_list, w_str, w_issub, lo_b, lo_l, lo_t, len_b, len_l, len_t, unl, List.lookup, ibeq, f__law_since, mc32, p_std_x]
theorem p_since_y (c : Int) (s : Str) (n : Nat) (σ : St) : callN T (n+2) a__law_since [.int c, .str s] [] σ = .ok (.str (Str.ofString "refused")) σ := by
  rw [open_ fn_since]
  simp [b_ok, b_exc, b_bad, o_ok, o_exc, x_v, x_p, x_vn, x_pn, c_ok, of_s, om_s, getL_s, l_0, l_s, e_lit, e_loc, cBin2, cBin, e_bin, e_inv, cInv_i, cCmp2, cCmp, e_cmp, e_and, e_or, cNot, e_not, e_ite, cIte_t, cIte_f, cTup, cLst, e_tup, e_lst, cIdx2, cIdx, e_idx, cSli3, cSli2, cSli, e_sli, cAttr, e_attr, cHas, e_has, cClsOf, e_clsOf, cNameOf, e_nameOf, cCall, e_call, cMeth3, cMeth2, cMeth1_s, cMeth, e_meth, e_blt, k_len, k_len0, k_len1, k_blt, cBltQ, e_bltQ, e_comp, cEvs2, cEvs, s_nil, s_cons, cAnd, k_andt, k_andf, a_one, a_cons, cOr, k_ort, k_orf, r_one, r_cons, cTru, cTNot, t_not, t_and, t_or, t_ite, t_lit, t_loc, t_cmp, t_attr, t_has, t_idx, t_blt, t_call, t_meth, ta_nil, ta_cons, cTAnd_t, cTAnd_f, to_nil, to_cons, cTOr_t, cTOr_f, cTIte_t, cTIte_f, ti_nil, ti_cons, cTIf_t, cTIf_f, cAsg, x_asg, setT, cMls, x_mls, okSt_s, cSetA2, cSetA, x_setA, cSetI3, cSetI2, cSetI, x_setI, cAug2, cAug_s, x_aug, cApp2, cApp, x_app, cRet, x_ret, x_ite, cIf_t, cIf_f, x_for, body_one, x_try, cTry_ok, cTry_exc, cCatch_s, caught, hit, x_raise, cRaise_s, cRaise_t, x_asrt, cAsrt_t, x_cont, xs_nil, xs_cons, q_next, q_cont, q_ret, f_ret, f_next, run_s, bindGo, bk_nil, cNew_n, get_last, set_last, setF, hasA, vtruth, vb_add, vb_sub, vb_mul, vb_fdiv, vb_mod, vb_bor, vb_band, vb_lst, vb_byt, vb_str, vaug, vcmp, q_nn, q_bb, q_ii, q_ss, q_yy, q_ni, q_in, q_nb, q_bn, q_sy, q_ys, q_ny, q_yn, q_tt, q_ts, q_st, visame, vi_b_bool, vi_b_int, vi_b_str, vi_b_bytes, vi_b_type, vi_i_bool, vi_i_int, vi_i_str, vi_i_bytes, vi_i_type, vi_s_bool, vi_s_int, vi_s_str, vi_s_bytes, vi_s_type, vi_y_bool, vi_y_int, vi_y_str, vi_y_bytes, vi_y_type, vi_n_bool, vi_n_int, vi_n_str, vi_n_bytes, vi_n_type, w_int, w_isinst, w_bytes, w_list, w_str, w_issub, lo_b, lo_l, lo_t, len_b, len_l, len_t, unl, List.lookup, ibeq, f__law_since, mc32, p_std_y]
/-! the codes in spans -/
def expand (l : List (Int × Int)) : List Int := l.flatMap fun p => upTo p.1 (p.2 - p.1 + 1).toNat
theorem any_upTo (c : Int) : ∀ (n : Nat) (lo : Int), ((upTo lo n).any fun x => decide (x = c)) = (decide (lo ≤ c) && decide (c < lo + n))
  | 0, lo => by
    rw [Bool.eq_iff_iff]
    simp [upTo] <;> omega
  | n + 1, lo => by
    rw [upTo, List.any_cons, any_upTo c n (lo + 1), Bool.eq_iff_iff]
    simp only [Bool.or_eq_true, Bool.and_eq_true, decide_eq_true_eq]
    omega
theorem any_expand (c : Int) : ∀ l : List (Int × Int), ((expand l).any fun x => decide (x = c)) = within c l
  | [] => rfl
  | p :: r => by
    have ih := any_expand c r
    unfold expand at ih ⊢
    unfold within at ih ⊢
    rw [List.flatMap_cons, List.any_append, List.any_cons, ih, any_upTo]
    congr 1
    rw [Bool.eq_iff_iff]
    simp only [Bool.and_eq_true, decide_eq_true_eq]
    omega
theorem any_key {D : List (Int × V)} {l : List (Int × Int)} (h : D.map (·.1) = expand l) (c : Int) : (D.any fun p => decide (p.1 = c)) = within c l := by
  rw [← any_expand, ← h, List.any_map]; rfl
theorem code_keys : codeD.map (·.1) = expand ((0, 0) :: spans) := by decide +kernel
def spansS : List (Int × Int) := [(0, 0), (16, 20), (33, 34), (36, 38), (49, 49), (51, 58), (80, 93), (112, 115), (120, 120), (126, 127), (129, 141), (143, 148), (59, 64)]
theorem std_keys : stdD.map (·.1) = expand spansS := by decide +kernel
theorem zero_span (c : Int) : (decide (0 ≤ c) && decide (c ≤ 0)) = decide (c = 0) := by
  rw [Bool.eq_iff_iff]; simp only [Bool.and_eq_true, decide_eq_true_eq]; omega
theorem code_any (c : Int) : (codeD.any fun p => decide (p.1 = c)) = (decide (c = 0) || within c spans) := by
  rw [any_key code_keys]
  show ((decide (0 ≤ c) && decide (c ≤ 0)) || within c spans) = _
  rw [zero_span]
theorem neg_ok (c : Int) : neg c = within c spans := by
  unfold neg
  rw [code_any]
  by_cases h : c = 0
  · subst h; decide
  · simp [h]
theorem known_ok' (c : Int) : known c = (decide (c = 0) || within c spans) := by
  unfold known
  rw [any_key std_keys]
  have h : (decide (51 ≤ c) && decide (c ≤ 64)) = ((decide (51 ≤ c) && decide (c ≤ 58)) || (decide (59 ≤ c) && decide (c ≤ 64))) := by
    rw [Bool.eq_iff_iff]; simp only [Bool.and_eq_true, Bool.or_eq_true, decide_eq_true_eq]; omega
  unfold within spansS spans
  simp only [List.any_cons, List.any_nil, h, zero_span]
  simp only [Bool.or_assoc, Bool.or_comm, Bool.or_left_comm]
theorem std_years : (stdD.all fun p => decide (unI p.2 = if within p.1 late then 2020 else 2006)) = true := by decide +kernel
theorem year_ok {c : Int} (h : known c = true) : yearOf c = if within c late then 2020 else 2006 := by
  unfold yearOf
  cases hf : stdD.find? fun p => decide (p.1 = c) with
  | none =>
    unfold known at h
    obtain ⟨p, h1, h2⟩ := List.any_eq_true.mp h
    exact absurd h2 (List.find?_eq_none.mp hf p h1)
  | some p =>
    have e : p.1 = c := of_decide_eq_true (List.find?_some (p := fun p : Int × V => decide (p.1 = c)) hf)
    have := of_decide_eq_true (List.all_eq_true.mp std_years p (List.mem_of_find?_eq_some hf))
    rw [e] at this
    exact this
end Mine

namespace Mine
open PySem
/-! law 4: names tell the codes apart -/
def headN (s : Str) : Nat := s.cps.toList.headD 0
def hsh (s : Str) : Nat := s.cps.toList.foldl (fun n c => (n * 131 + c) % 1000003) 7
def nodupH : List Nat → Bool
  | [] => true
  | x :: r => r.all (fun y => !(Nat.beq x y)) && nodupH r
theorem ck_head : (codeD.all fun p => Nat.ble 58 (headN (strOf p.2))) = true := by decide +kernel
theorem ck_hash : nodupH (codeD.map fun p => hsh (strOf p.2)) = true := by decide +kernel
theorem ck_names : (namesL.all fun p => nameS p.1 == p.2) = true := by decide +kernel
theorem hash_inj {α : Type} {f : α → Nat} : ∀ {l : List α}, nodupH (l.map f) = true → ∀ p ∈ l, ∀ q ∈ l, f p = f q → p = q
  | [], _, p, hp, _, _, _ => nomatch hp
  | x :: r, h, p, hp, q, hq, e => by
    rw [List.map_cons, nodupH, Bool.and_eq_true] at h
    have off : ∀ y ∈ r, f x ≠ f y := fun y hy z => by
      have := List.all_eq_true.mp h.1 (f y) (List.mem_map_of_mem hy)
      rw [z] at this
      simp at this
    rcases List.mem_cons.mp hp with h1 | h1
    · rcases List.mem_cons.mp hq with h2 | h2
      · rw [h1, h2]
      · exact absurd (h1 ▸ e) (off q h2)
    · rcases List.mem_cons.mp hq with h2 | h2
      · exact absurd (h2 ▸ e).symm (off p h1)
      · exact hash_inj h.2 p h1 q h2 e
theorem text_list (c : Int) : (intText c).cps.toList = (toString c).toList.map Char.toNat := by
  unfold intText
  rw [Str.ofString_eq_toList]
theorem text_inj {c d : Int} (h : intText c = intText d) : c = d := by
  have h1 : (toString c).toList.map Char.toNat = (toString d).toList.map Char.toNat := by rw [← text_list, ← text_list, h]
  have h2 : (toString c).toList = (toString d).toList := by
    have key : ∀ (l k : List Char), l.map Char.toNat = k.map Char.toNat → l = k := by
      intro l
      induction l with
      | nil => intro k hk; cases k with | nil => rfl | cons _ _ => simp at hk
      | cons a r ih =>
        intro k hk
        cases k with
        | nil => simp at hk
        | cons b t =>
          simp only [List.map_cons, List.cons.injEq] at hk
          rw [ih t hk.2, Char.toNat_inj.mp hk.1]
    exact key _ _ h1
  exact Int.repr_injective (String.toList_injective h2)
theorem text_head (c : Int) : 0 < headN (intText c) ∧ headN (intText c) < 58 := by
  unfold headN
  rw [text_list]
  cases c with
  | ofNat n =>
    rw [show toString (Int.ofNat n) = Nat.repr n from rfl, Nat.toList_repr]
    cases hd : Nat.toDigits 10 n with
    | nil => exact absurd hd Nat.toDigits_ne_nil
    | cons a r =>
      have : a.isDigit = true := Nat.isDigit_of_mem_toDigits (b := 10) (n := n) (by decide) (by decide) (by rw [hd]; exact .head _)
      simp only [List.map_cons, List.headD_cons]
      simp only [Char.isDigit, Bool.and_eq_true, decide_eq_true_eq] at this
      have h1 := UInt32.le_iff_toNat_le.mp this.1
      have h2 := UInt32.le_iff_toNat_le.mp this.2
      have h3 : 48 ≤ a.val.toNat := by simpa using h1
      have h4 : a.val.toNat ≤ 57 := by simpa using h2
      show 0 < a.val.toNat ∧ a.val.toNat < 58
      omega
  | negSucc n =>
    rw [show toString (Int.negSucc n) = "-" ++ Nat.repr (n + 1) from rfl, String.toList_append]
    have : ("-" : String).toList = ['-'] := by decide
    rw [this]
    show 0 < Char.toNat '-' ∧ Char.toNat '-' < 58
    decide
/-- a code's name: of the list, or its number -/
theorem name_cases (c : Int) : (∃ p ∈ codeD, p.1 = c ∧ nameS c = strOf p.2) ∨ ((codeD.any fun p => decide (p.1 = c)) = false ∧ nameS c = intText c) := by
  unfold nameS nameV
  cases hf : codeD.find? fun p => decide (p.1 = c) with
  | none =>
    refine .inr ⟨?_, rfl⟩
    rw [List.any_eq_false]
    intro p hp
    exact List.find?_eq_none.mp hf p hp
  | some p => exact .inl ⟨p, List.mem_of_find?_eq_some hf, of_decide_eq_true (List.find?_some (p := fun p : Int × V => decide (p.1 = c)) hf), rfl⟩
theorem head_code {p : Int × V} (h : p ∈ codeD) : 58 ≤ headN (strOf p.2) := Nat.le_of_ble_eq_true (List.all_eq_true.mp ck_head p h)
theorem name_inj (c d : Int) : (nameS c == nameS d) = decide (c = d) := by
  by_cases h : c = d
  · subst h; simp
  · rw [decide_eq_false h]
    refine beq_eq_false_iff_ne.mpr fun q => h ?_
    rcases name_cases c with ⟨p, h1, h2, h3⟩ | ⟨_, h3⟩ <;> rcases name_cases d with ⟨p', h4, h5, h6⟩ | ⟨_, h6⟩
    · rw [h3, h6] at q
      have := hash_inj (f := fun p : Int × V => hsh (strOf p.2)) ck_hash p h1 p' h4 (congrArg hsh q)
      rw [← h2, ← h5, this]
    · have := head_code h1
      have := text_head d
      rw [h3, h6] at q
      rw [q] at *
      omega
    · have := head_code h4
      have := text_head c
      rw [h3, h6] at q
      rw [← q] at *
      omega
    · rw [h3, h6] at q
      exact text_inj q
theorem name_ne (c : Int) : (nameS c == (Str.ofString "")) = false := by
  refine beq_eq_false_iff_ne.mpr fun q => ?_
  have e : headN (Str.ofString "") = 0 := by decide +kernel
  rcases name_cases c with ⟨p, h1, h2, h3⟩ | ⟨_, h3⟩
  · have := head_code h1
    rw [← h3, q, e] at this
    omega
  · have := text_head c
    rw [← h3, q, e] at this
    omega
/-- what the law asks of a name -/
theorem named_ok (c : Int) : (named c == (Str.ofString "")) = true ∨ (nameS c == named c) = true := by
  unfold named
  split
  · rename_i h
    simp only [Bool.and_eq_true, Bool.not_eq_true'] at h
    rcases name_cases c with ⟨p, h1, h2, h3⟩ | ⟨_, h3⟩
    · have : (codeD.any fun p => decide (p.1 = c)) = true := List.any_eq_true.mpr ⟨p, h1, decide_eq_true h2⟩
      rw [code_any, h.1, h.2] at this
      cases this
    · rw [h3]; exact .inr (by simp)
  · split
    · rename_i p hp
      have := List.all_eq_true.mp ck_names p (List.mem_of_find?_eq_some hp)
      rw [of_decide_eq_true (List.find?_some (p := fun p : Int × Str => decide (p.1 = c)) hp)] at this
      exact .inr this
    · exact .inl (by simp)
end Mine

namespace Mine
open PySem
/-! law 4: the phases of a turn -/
/-- the body of the law's loop -/
def lb : Ss := forB (nthS f_law.body 4)
theorem tbi (v : Sv) (σ : St) : vidx σ (svs tb) (.int v.n) = some (.cls v.a) := by cases v <;> rfl
theorem findR_tb (v : Sv) : findR v.id tb = some v := by cases v <;> rfl
theorem findA_tb (v : Sv) : findA (v.id + 64) tb = some v := by cases v <;> rfl
theorem w_rangeQ (n : Int) (h : small n = true) (σ : St) : vblt T σ .range [.int n] = .ok (.rng 0 n) σ := by
  show (if _ then _ else _) = _
  rw [if_pos h]
section
variable {cf : CF} {σ : St} {scr : V} {sL : List Int} {i a b c q : Int} {v : Sv} {ex : List Int} {j : Nat} {x5 x6 x7 x8 x9 x10 x11 x12 x13 x14 x15 x16 x17 x18 x19 x20 x21 x22 x23 : Option V}
theorem ph_abc (h0 : 0 ≤ i) (h1 : i < sL.length) (h2 : sL.length ≤ 100) : exs T cf (takeS lb 3) [some scr, some (svs tb), some (il sL), some (.int sL.length), some (.obj 0), some (.int i), x6, x7, x8, x9, x10, x11, x12, x13, x14, x15, x16, x17, x18, x19, x20, x21, x22, x23] σ =
    .ok (.next, [some scr, some (svs tb), some (il sL), some (.int sL.length), some (.obj 0), some (.int i), some (.int (sL.getD i.toNat 0)), some (.int (sL.getD (Int.fmod (i + 1) sL.length).toNat 0)), some (.int (sL.getD (Int.fmod (i + 2) sL.length).toNat 0)), x9, x10, x11, x12, x13, x14, x15, x16, x17, x18, x19, x20, x21, x22, x23]) σ := by
  have hp : (0 : Int) < sL.length := by omega
  have f1 := fm (i + 1) sL.length hp
  have f2 := fm (i + 2) sL.length hp
  have hne : ¬ ((sL.length : Int) = 0) := by omega
  have hne' : ¬ (sL = []) := by intro q; rw [q] at hp; simp at hp
  simp [b_ok, b_exc, b_bad, o_ok, o_exc, x_v, x_p, x_vn, x_pn, c_ok, of_s, om_s, getL_s, l_0, l_s, e_lit, e_loc, cBin2, cBin, e_bin, e_inv, cInv_i, cCmp2, cCmp, e_cmp, e_and, e_or, cNot, e_not, e_ite, cIte_t, cIte_f, cTup, cLst, e_tup, e_lst, cIdx2, cIdx, e_idx, cSli3, cSli2, cSli, e_sli, cAttr, e_attr, cHas, e_has, cClsOf, e_clsOf, cNameOf, e_nameOf, cCall, e_call, cMeth3, cMeth2, cMeth1_s, cMeth, e_meth, e_blt, k_len, k_len0, k_len1, k_blt, cBltQ, e_bltQ, e_comp, cEvs2, cEvs, s_nil, s_cons, cAnd, k_andt, k_andf, a_one, a_cons, cOr, k_ort, k_orf, r_one, r_cons, cTru, cTNot, t_not, t_and, t_or, t_ite, t_lit, t_loc, t_cmp, t_attr, t_has, t_idx, t_blt, t_call, t_meth, ta_nil, ta_cons, cTAnd_t, cTAnd_f, to_nil, to_cons, cTOr_t, cTOr_f, cTIte_t, cTIte_f, ti_nil, ti_cons, cTIf_t, cTIf_f, cAsg, x_asg, setT, cMls, x_mls, okSt_s, cSetA2, cSetA, x_setA, cSetI3, cSetI2, cSetI, x_setI, cAug2, cAug_s, x_aug, cApp2, cApp, x_app, cRet, x_ret, x_ite, cIf_t, cIf_f, x_for, body_one, x_try, cTry_ok, cTry_exc, cCatch_s, caught, hit, x_raise, cRaise_s, cRaise_t, x_asrt, cAsrt_t, x_cont, xs_nil, xs_cons, q_next, q_cont, q_ret, f_ret, f_next, run_s, bindGo, bk_nil, cNew_n, get_last, set_last, setF, hasA, vtruth, vb_add, vb_sub, vb_mul, vb_fdiv, vb_mod, vb_bor, vb_band, vb_lst, vb_byt, vb_str, vaug, vcmp, q_nn, q_bb, q_ii, q_ss, q_yy, q_ni, q_in, q_nb, q_bn, q_sy, q_ys, q_ny, q_yn, q_tt, q_ts, q_st, visame, vi_b_bool, vi_b_int, vi_b_str, vi_b_bytes, vi_b_type, vi_i_bool, vi_i_int, vi_i_str, vi_i_bytes, vi_i_type, vi_s_bool, vi_s_int, vi_s_str, vi_s_bytes, vi_s_type, vi_y_bool, vi_y_int, vi_y_str, vi_y_bytes, vi_y_type, vi_n_bool, vi_n_int, vi_n_str, vi_n_bytes, vi_n_type, w_int, w_isinst, w_bytes, w_list, w_str, w_issub, lo_b, lo_l, lo_t, len_b, len_l, len_t, unl, List.lookup, ibeq, lb, forB, nthS, takeS, f_law, vidx_il _ sL i h0 h1 (by omega), vidx_il _ sL _ f1.1 f1.2 (by omega), vidx_il _ sL _ f2.1 f2.2 (by omega), hne, hne']
theorem ph_w (hv : Int.fmod a 4 = v.n) : exs T cf (takeS (dropS lb 3) 2) [some scr, some (svs tb), some (il sL), some (.int sL.length), some (.obj 0), some (.int i), some (.int a), some (.int b), some (.int c), x9, x10, x11, x12, x13, x14, x15, x16, x17, x18, x19, x20, x21, x22, x23] σ =
    .ok (.next, [some scr, some (svs tb), some (il sL), some (.int sL.length), some (.obj 0), some (.int i), some (.int a), some (.int b), some (.int c), some (.int v.n), some (.int (Int.fmod b 256)), x11, x12, x13, x14, x15, x16, x17, x18, x19, x20, x21, x22, x23]) σ := by
  simp [b_ok, b_exc, b_bad, o_ok, o_exc, x_v, x_p, x_vn, x_pn, c_ok, of_s, om_s, getL_s, l_0, l_s, e_lit, e_loc, cBin2, cBin, e_bin, e_inv, cInv_i, cCmp2, cCmp, e_cmp, e_and, e_or, cNot, e_not, e_ite, cIte_t, cIte_f, cTup, cLst, e_tup, e_lst, cIdx2, cIdx, e_idx, cSli3, cSli2, cSli, e_sli, cAttr, e_attr, cHas, e_has, cClsOf, e_clsOf, cNameOf, e_nameOf, cCall, e_call, cMeth3, cMeth2, cMeth1_s, cMeth, e_meth, e_blt, k_len, k_len0, k_len1, k_blt, cBltQ, e_bltQ, e_comp, cEvs2, cEvs, s_nil, s_cons, cAnd, k_andt, k_andf, a_one, a_cons, cOr, k_ort, k_orf, r_one, r_cons, cTru, cTNot, t_not, t_and, t_or, t_ite, t_lit, t_loc, t_cmp, t_attr, t_has, t_idx, t_blt, t_call, t_meth, ta_nil, ta_cons, cTAnd_t, cTAnd_f, to_nil, to_cons, cTOr_t, cTOr_f, cTIte_t, cTIte_f, ti_nil, ti_cons, cTIf_t, cTIf_f, cAsg, x_asg, setT, cMls, x_mls, okSt_s, cSetA2, cSetA, x_setA, cSetI3, cSetI2, cSetI, x_setI, cAug2, cAug_s, x_aug, cApp2, cApp, x_app, cRet, x_ret, x_ite, cIf_t, cIf_f, x_for, body_one, x_try, cTry_ok, cTry_exc, cCatch_s, caught, hit, x_raise, cRaise_s, cRaise_t, x_asrt, cAsrt_t, x_cont, xs_nil, xs_cons, q_next, q_cont, q_ret, f_ret, f_next, run_s, bindGo, bk_nil, cNew_n, get_last, set_last, setF, hasA, vtruth, vb_add, vb_sub, vb_mul, vb_fdiv, vb_mod, vb_bor, vb_band, vb_lst, vb_byt, vb_str, vaug, vcmp, q_nn, q_bb, q_ii, q_ss, q_yy, q_ni, q_in, q_nb, q_bn, q_sy, q_ys, q_ny, q_yn, q_tt, q_ts, q_st, visame, vi_b_bool, vi_b_int, vi_b_str, vi_b_bytes, vi_b_type, vi_i_bool, vi_i_int, vi_i_str, vi_i_bytes, vi_i_type, vi_s_bool, vi_s_int, vi_s_str, vi_s_bytes, vi_s_type, vi_y_bool, vi_y_int, vi_y_str, vi_y_bytes, vi_y_type, vi_n_bool, vi_n_int, vi_n_str, vi_n_bytes, vi_n_type, w_int, w_isinst, w_bytes, w_list, w_str, w_issub, lo_b, lo_l, lo_t, len_b, len_l, len_t, unl, List.lookup, ibeq, lb, forB, nthS, takeS, dropS, f_law, hv]
theorem ph_frame (hq : 0 ≤ q ∧ q < 256) : ∃ ex : List Int, Oct ex ∧ ex.length ≤ 3 ∧ exs T cf (takeS (dropS lb 5) 2) [some scr, some (svs tb), some (il sL), some (.int sL.length), some (.obj 0), some (.int i), some (.int a), some (.int b), some (.int c), some (.int v.n), some (.int q), x11, x12, x13, x14, x15, x16, x17, x18, x19, x20, x21, x22, x23] σ =
    .ok (.next, [some scr, some (svs tb), some (il sL), some (.int sL.length), some (.obj 0), some (.int i), some (.int a), some (.int b), some (.int c), some (.int v.n), some (.int q), some (.bytes ex), some (.bytes (127 :: v.id :: q :: ex)), x13, x14, x15, x16, x17, x18, x19, x20, x21, x22, x23]) σ := by
  have f4 := fm c 4 (by omega)
  have hid : 0 ≤ v.id ∧ v.id < 256 := by cases v <;> decide
  have hlen : (span 0 (Int.fmod c 4)).length ≤ 3 := by unfold span; rw [len_upTo]; omega
  have ho : Oct ((span 0 (Int.fmod c 4)).map fun j => Int.fmod (a + c + 47 * j) 256) := fun x hx => by
    obtain ⟨y, _, rfl⟩ := List.mem_map.mp hx
    exact fm _ 256 (by omega)
  have hc : cComp T cf (.bin .mod (.bin .add (.bin .add (.loc 6) (.loc 8)) (.bin .mul (.lit (.int 47)) (.loc 24))) (.lit (.int 256))) .nil [some scr, some (svs tb), some (il sL), some (.int sL.length), some (.obj 0), some (.int i), some (.int a), some (.int b), some (.int c), some (.int v.n), some (.int q), x11, x12, x13, x14, x15, x16, x17, x18, x19, x20, x21, x22, x23] (.rng 0 (Int.fmod c 4)) σ = .ok (il ((span 0 (Int.fmod c 4)).map fun j => Int.fmod (a + c + 47 * j) 256)) σ := by
    show cComp1 T _ _ .nil _ _ (some ((span 0 (Int.fmod c 4)).map V.int)) = _
    rw [k_comp _ _ _ _ (roomL _ (by rw [List.length_map]; omega)), compL_map (h := fun j => V.int (Int.fmod (a + c + 47 * j) 256)) (fun v => compP_nil _ _ _) (fun v => ?_)]
    · rw [List.nil_append, il, List.map_map]; rfl
    · unfold compF
      simp [b_ok, b_exc, b_bad, o_ok, o_exc, x_v, x_p, x_vn, x_pn, c_ok, of_s, om_s, getL_s, l_0, l_s, e_lit, e_loc, cBin2, cBin, e_bin, e_inv, cInv_i, cCmp2, cCmp, e_cmp, e_and, e_or, cNot, e_not, e_ite, cIte_t, cIte_f, cTup, cLst, e_tup, e_lst, cIdx2, cIdx, e_idx, cSli3, cSli2, cSli, e_sli, cAttr, e_attr, cHas, e_has, cClsOf, e_clsOf, cNameOf, e_nameOf, cCall, e_call, cMeth3, cMeth2, cMeth1_s, cMeth, e_meth, e_blt, k_len, k_len0, k_len1, k_blt, cBltQ, e_bltQ, e_comp, cEvs2, cEvs, s_nil, s_cons, cAnd, k_andt, k_andf, a_one, a_cons, cOr, k_ort, k_orf, r_one, r_cons, cTru, cTNot, t_not, t_and, t_or, t_ite, t_lit, t_loc, t_cmp, t_attr, t_has, t_idx, t_blt, t_call, t_meth, ta_nil, ta_cons, cTAnd_t, cTAnd_f, to_nil, to_cons, cTOr_t, cTOr_f, cTIte_t, cTIte_f, ti_nil, ti_cons, cTIf_t, cTIf_f, cAsg, x_asg, setT, cMls, x_mls, okSt_s, cSetA2, cSetA, x_setA, cSetI3, cSetI2, cSetI, x_setI, cAug2, cAug_s, x_aug, cApp2, cApp, x_app, cRet, x_ret, x_ite, cIf_t, cIf_f, x_for, body_one, x_try, cTry_ok, cTry_exc, cCatch_s, caught, hit, x_raise, cRaise_s, cRaise_t, x_asrt, cAsrt_t, x_cont, xs_nil, xs_cons, q_next, q_cont, q_ret, f_ret, f_next, run_s, bindGo, bk_nil, cNew_n, get_last, set_last, setF, hasA, vtruth, vb_add, vb_sub, vb_mul, vb_fdiv, vb_mod, vb_bor, vb_band, vb_lst, vb_byt, vb_str, vaug, vcmp, q_nn, q_bb, q_ii, q_ss, q_yy, q_ni, q_in, q_nb, q_bn, q_sy, q_ys, q_ny, q_yn, q_tt, q_ts, q_st, visame, vi_b_bool, vi_b_int, vi_b_str, vi_b_bytes, vi_b_type, vi_i_bool, vi_i_int, vi_i_str, vi_i_bytes, vi_i_type, vi_s_bool, vi_s_int, vi_s_str, vi_s_bytes, vi_s_type, vi_y_bool, vi_y_int, vi_y_str, vi_y_bytes, vi_y_type, vi_n_bool, vi_n_int, vi_n_str, vi_n_bytes, vi_n_type, w_int, w_isinst, w_bytes, w_list, w_str, w_issub, lo_b, lo_l, lo_t, len_b, len_l, len_t, unl, List.lookup, ibeq, show small 47 = true from by decide]
  have hr := w_rangeQ (Int.fmod c 4) (by simp [small]; omega) σ
  have o3 : Oct [127, v.id, q] := fun x hx => by
    simp only [List.mem_cons, List.not_mem_nil, or_false] at hx
    rcases hx with rfl | rfl | rfl <;> omega
  have h3 : vbytes (.lst [.int 127, .int v.id, .int q]) = some (.bytes [127, v.id, q]) := vb_il o3 (by simp)
  have hlen' : ((span 0 (Int.fmod c 4)).map fun j => Int.fmod (a + c + 47 * j) 256).length ≤ 3 := by rw [List.length_map]; exact hlen
  have hb := vb_il ho (by omega)
  refine ⟨_, ho, hlen', ?_⟩
  generalize ((span 0 (Int.fmod c 4)).map fun j => Int.fmod (a + c + 47 * j) 256) = ex at *
  have ha : vbin .add (.bytes [127, v.id, q]) (.bytes ex) = some (.bytes (127 :: v.id :: q :: ex)) := by
    rw [vb_byt, if_pos (roomL _ (by simp; omega))]; rfl
  simp [b_ok, b_exc, b_bad, o_ok, o_exc, x_v, x_p, x_vn, x_pn, c_ok, of_s, om_s, getL_s, l_0, l_s, e_lit, e_loc, cBin2, cBin, e_bin, e_inv, cInv_i, cCmp2, cCmp, e_cmp, e_and, e_or, cNot, e_not, e_ite, cIte_t, cIte_f, cTup, cLst, e_tup, e_lst, cIdx2, cIdx, e_idx, cSli3, cSli2, cSli, e_sli, cAttr, e_attr, cHas, e_has, cClsOf, e_clsOf, cNameOf, e_nameOf, cCall, e_call, cMeth3, cMeth2, cMeth1_s, cMeth, e_meth, e_blt, k_len, k_len0, k_len1, k_blt, cBltQ, e_bltQ, e_comp, cEvs2, cEvs, s_nil, s_cons, cAnd, k_andt, k_andf, a_one, a_cons, cOr, k_ort, k_orf, r_one, r_cons, cTru, cTNot, t_not, t_and, t_or, t_ite, t_lit, t_loc, t_cmp, t_attr, t_has, t_idx, t_blt, t_call, t_meth, ta_nil, ta_cons, cTAnd_t, cTAnd_f, to_nil, to_cons, cTOr_t, cTOr_f, cTIte_t, cTIte_f, ti_nil, ti_cons, cTIf_t, cTIf_f, cAsg, x_asg, setT, cMls, x_mls, okSt_s, cSetA2, cSetA, x_setA, cSetI3, cSetI2, cSetI, x_setI, cAug2, cAug_s, x_aug, cApp2, cApp, x_app, cRet, x_ret, x_ite, cIf_t, cIf_f, x_for, body_one, x_try, cTry_ok, cTry_exc, cCatch_s, caught, hit, x_raise, cRaise_s, cRaise_t, x_asrt, cAsrt_t, x_cont, xs_nil, xs_cons, q_next, q_cont, q_ret, f_ret, f_next, run_s, bindGo, bk_nil, cNew_n, get_last, set_last, setF, hasA, vtruth, vb_add, vb_sub, vb_mul, vb_fdiv, vb_mod, vb_bor, vb_band, vb_lst, vb_byt, vb_str, vaug, vcmp, q_nn, q_bb, q_ii, q_ss, q_yy, q_ni, q_in, q_nb, q_bn, q_sy, q_ys, q_ny, q_yn, q_tt, q_ts, q_st, visame, vi_b_bool, vi_b_int, vi_b_str, vi_b_bytes, vi_b_type, vi_i_bool, vi_i_int, vi_i_str, vi_i_bytes, vi_i_type, vi_s_bool, vi_s_int, vi_s_str, vi_s_bytes, vi_s_type, vi_y_bool, vi_y_int, vi_y_str, vi_y_bytes, vi_y_type, vi_n_bool, vi_n_int, vi_n_str, vi_n_bytes, vi_n_type, w_int, w_isinst, w_bytes, w_list, w_str, w_issub, lo_b, lo_l, lo_t, len_b, len_l, len_t, unl, List.lookup, ibeq, lb, forB, nthS, takeS, dropS, f_law, hc, hr, hb, h3, ha, sids]
def ans (v : Sv) (q : Int) (ex : List Int) : Rs := ⟨some v, false, some q, nameV q, true, (Str.ofString ""), some (127 :: v.id :: q :: ex), ex⟩
theorem read_ans (v : Sv) (q : Int) (ex : List Int) : Rs.read (127 :: v.id :: q :: ex) tb = ans v q ex := by
  unfold Rs.read
  simp only [if_true, findR_tb]
  rfl
theorem ph_answer {m : Nat} (hq : 0 ≤ q ∧ q < 256) (ho : Oct ex) (hl : ex.length ≤ 3) : exs T (callN T (m+8)) (takeS (dropS lb 7) 1) [some scr, some (svs tb), some (il sL), some (.int sL.length), some (.obj 0), some (.int i), some (.int a), some (.int b), some (.int c), some (.int v.n), some (.int q), some (.bytes ex), some (.bytes (127 :: v.id :: q :: ex)), x13, x14, x15, x16, x17, x18, x19, x20, x21, x22, x23] σ =
    .ok (.next, [some scr, some (svs tb), some (il sL), some (.int sL.length), some (.obj 0), some (.int i), some (.int a), some (.int b), some (.int c), some (.int v.n), some (.int q), some (.bytes ex), some (.bytes (127 :: v.id :: q :: ex)), some (.obj σ.length), x14, x15, x16, x17, x18, x19, x20, x21, x22, x23]) (σ ++ [(ans v q ex).o]) := by
  have hid : 0 ≤ v.id ∧ v.id < 256 := by cases v <;> decide
  have h := p_res_read (127 :: v.id :: q :: ex) tb (by simp; omega) (fun x hx => by
    rcases List.mem_cons.mp hx with rfl | hx
    · omega
    · rcases List.mem_cons.mp hx with rfl | hx
      · omega
      · rcases List.mem_cons.mp hx with rfl | hx
        · omega
        · exact ho x hx) (by decide) (m+5) σ
  rw [read_ans] at h
  simp [b_ok, b_exc, b_bad, o_ok, o_exc, x_v, x_p, x_vn, x_pn, c_ok, of_s, om_s, getL_s, l_0, l_s, e_lit, e_loc, cBin2, cBin, e_bin, e_inv, cInv_i, cCmp2, cCmp, e_cmp, e_and, e_or, cNot, e_not, e_ite, cIte_t, cIte_f, cTup, cLst, e_tup, e_lst, cIdx2, cIdx, e_idx, cSli3, cSli2, cSli, e_sli, cAttr, e_attr, cHas, e_has, cClsOf, e_clsOf, cNameOf, e_nameOf, cCall, e_call, cMeth3, cMeth2, cMeth1_s, cMeth, e_meth, e_blt, k_len, k_len0, k_len1, k_blt, cBltQ, e_bltQ, e_comp, cEvs2, cEvs, s_nil, s_cons, cAnd, k_andt, k_andf, a_one, a_cons, cOr, k_ort, k_orf, r_one, r_cons, cTru, cTNot, t_not, t_and, t_or, t_ite, t_lit, t_loc, t_cmp, t_attr, t_has, t_idx, t_blt, t_call, t_meth, ta_nil, ta_cons, cTAnd_t, cTAnd_f, to_nil, to_cons, cTOr_t, cTOr_f, cTIte_t, cTIte_f, ti_nil, ti_cons, cTIf_t, cTIf_f, cAsg, x_asg, setT, cMls, x_mls, okSt_s, cSetA2, cSetA, x_setA, cSetI3, cSetI2, cSetI, x_setI, cAug2, cAug_s, x_aug, cApp2, cApp, x_app, cRet, x_ret, x_ite, cIf_t, cIf_f, x_for, body_one, x_try, cTry_ok, cTry_exc, cCatch_s, caught, hit, x_raise, cRaise_s, cRaise_t, x_asrt, cAsrt_t, x_cont, xs_nil, xs_cons, q_next, q_cont, q_ret, f_ret, f_next, run_s, bindGo, bk_nil, cNew_n, get_last, set_last, setF, hasA, vtruth, vb_add, vb_sub, vb_mul, vb_fdiv, vb_mod, vb_bor, vb_band, vb_lst, vb_byt, vb_str, vaug, vcmp, q_nn, q_bb, q_ii, q_ss, q_yy, q_ni, q_in, q_nb, q_bn, q_sy, q_ys, q_ny, q_yn, q_tt, q_ts, q_st, visame, vi_b_bool, vi_b_int, vi_b_str, vi_b_bytes, vi_b_type, vi_i_bool, vi_i_int, vi_i_str, vi_i_bytes, vi_i_type, vi_s_bool, vi_s_int, vi_s_str, vi_s_bytes, vi_s_type, vi_y_bool, vi_y_int, vi_y_str, vi_y_bytes, vi_y_type, vi_n_bool, vi_n_int, vi_n_str, vi_n_bytes, vi_n_type, w_int, w_isinst, w_bytes, w_list, w_str, w_issub, lo_b, lo_l, lo_t, len_b, len_l, len_t, unl, List.lookup, ibeq, lb, forB, nthS, takeS, dropS, f_law, m26s, h]
theorem ans_o (v : Sv) (q : Int) (ex : List Int) : (ans v q ex).o = .inst a_Response [(1, .cls v.a), (6, .bool false), (5, .int q), (13, nameV q), (7, .bool true), (8, .str (Str.ofString "")), (9, .none), (10, .bytes (127 :: v.id :: q :: ex)), (11, .bool false), (12, .none), (4, .bytes ex)] := rfl
theorem ans_lay (v : Sv) (q : Int) (ex : List Int) (hq : 0 ≤ q ∧ q < 256) : (ans v q ex).lay = .by (127 :: v.id :: q :: ex) := by
  unfold Rs.lay ans
  dsimp only
  rw [if_neg (by simp), if_pos (by omega)]
theorem vnis (v : Sv) : visame T (.cls v.a) (.cls v.a) = some true := by
  simp only [visame, cl_sv]
  simp
theorem vc_nis (v : Sv) : vcmp T .nis (.cls v.a) (.cls v.a) = some false := by
  show (visame T _ _).map (!·) = _
  rw [vnis]; rfl
theorem vc_nes (s t : Str) : vcmp T .ne (.str s) (.str t) = some (!(s == t)) := rfl
theorem vc_neb (s t : Bool) : vcmp T .ne (.bool s) (.bool t) = some (!(s == t)) := rfl
theorem vc_nei (s t : Int) : vcmp T .ne (.int s) (.int t) = some (!decide (s = t)) := rfl
theorem vc_ney (s t : List Int) : vcmp T .ne (.bytes s) (.bytes t) = some (!decide (s = t)) := rfl
theorem vc_eqs (s t : Str) : vcmp T .eq (.str s) (.str t) = some (s == t) := rfl
theorem vc_eqi (s t : Int) : vcmp T .eq (.int s) (.int t) = some (decide (s = t)) := rfl
theorem ph_checks {m : Nat} (hq : 0 ≤ q ∧ q < 256) (hl : ex.length ≤ 3) (hj : σ[j]? = some (ans v q ex).o) : exs T (callN T (m+8)) (takeS (dropS lb 8) 4) [some scr, some (svs tb), some (il sL), some (.int sL.length), some (.obj 0), some (.int i), some (.int a), some (.int b), some (.int c), some (.int v.n), some (.int q), some (.bytes ex), some (.bytes (127 :: v.id :: q :: ex)), some (.obj j), x14, x15, x16, x17, x18, x19, x20, x21, x22, x23] σ =
    .ok (.next, [some scr, some (svs tb), some (il sL), some (.int sL.length), some (.obj 0), some (.int i), some (.int a), some (.int b), some (.int c), some (.int v.n), some (.int q), some (.bytes ex), some (.bytes (127 :: v.id :: q :: ex)), some (.obj j), x14, x15, x16, x17, x18, x19, x20, x21, x22, x23]) σ := by
  have hj' := hj
  rw [ans_o] at hj'
  have hlay := p_res_lay (ans v q ex) (m+6) σ hj (by show ex.length ≤ 500; omega) (fun x hx => by cases hx; exact small_oct hq)
  rw [ans_lay v q ex hq] at hlay
  have hreq := p_from_req v.id tb (by decide) (m+6) σ
  have hres := p_from_res (v.id + 64) tb (by decide) (m+6) σ
  rw [findR_tb] at hreq
  rw [findA_tb] at hres
  have hm := m25s hj
  have g1 := getA_Res hj' 1 kr1
  have g4 := getA_Res hj' 4 kr4
  have g5 := getA_Res hj' 5 kr5
  have g6 := getA_Res hj' 6 kr6
  have g7 := getA_Res hj' 7 kr7
  simp [List.lookup] at g1 g4 g5 g6 g7
  simp [b_ok, b_exc, b_bad, o_ok, o_exc, x_v, x_p, x_vn, x_pn, c_ok, of_s, om_s, getL_s, l_0, l_s, e_lit, e_loc, cBin2, cBin, e_bin, e_inv, cInv_i, cCmp2, cCmp, e_cmp, e_and, e_or, cNot, e_not, e_ite, cIte_t, cIte_f, cTup, cLst, e_tup, e_lst, cIdx2, cIdx, e_idx, cSli3, cSli2, cSli, e_sli, cAttr, e_attr, cHas, e_has, cClsOf, e_clsOf, cNameOf, e_nameOf, cCall, e_call, cMeth3, cMeth2, cMeth1_s, cMeth, e_meth, e_blt, k_len, k_len0, k_len1, k_blt, cBltQ, e_bltQ, e_comp, cEvs2, cEvs, s_nil, s_cons, cAnd, k_andt, k_andf, a_one, a_cons, cOr, k_ort, k_orf, r_one, r_cons, cTru, cTNot, t_not, t_and, t_or, t_ite, t_lit, t_loc, t_cmp, t_attr, t_has, t_idx, t_blt, t_call, t_meth, ta_nil, ta_cons, cTAnd_t, cTAnd_f, to_nil, to_cons, cTOr_t, cTOr_f, cTIte_t, cTIte_f, ti_nil, ti_cons, cTIf_t, cTIf_f, cAsg, x_asg, setT, cMls, x_mls, okSt_s, cSetA2, cSetA, x_setA, cSetI3, cSetI2, cSetI, x_setI, cAug2, cAug_s, x_aug, cApp2, cApp, x_app, cRet, x_ret, x_ite, cIf_t, cIf_f, x_for, body_one, x_try, cTry_ok, cTry_exc, cCatch_s, caught, hit, x_raise, cRaise_s, cRaise_t, x_asrt, cAsrt_t, x_cont, xs_nil, xs_cons, q_next, q_cont, q_ret, f_ret, f_next, run_s, bindGo, bk_nil, cNew_n, get_last, set_last, setF, hasA, vtruth, vb_add, vb_sub, vb_mul, vb_fdiv, vb_mod, vb_bor, vb_band, vb_lst, vb_byt, vb_str, vaug, vcmp, q_nn, q_bb, q_ii, q_ss, q_yy, q_ni, q_in, q_nb, q_bn, q_sy, q_ys, q_ny, q_yn, q_tt, q_ts, q_st, visame, vi_b_bool, vi_b_int, vi_b_str, vi_b_bytes, vi_b_type, vi_i_bool, vi_i_int, vi_i_str, vi_i_bytes, vi_i_type, vi_s_bool, vi_s_int, vi_s_str, vi_s_bytes, vi_s_type, vi_y_bool, vi_y_int, vi_y_str, vi_y_bytes, vi_y_type, vi_n_bool, vi_n_int, vi_n_str, vi_n_bytes, vi_n_type, w_int, w_isinst, w_bytes, w_list, w_str, w_issub, lo_b, lo_l, lo_t, len_b, len_l, len_t, unl, List.lookup, ibeq, lb, forB, nthS, takeS, dropS, f_law, hm, hlay, hreq, hres, g1, g4, g5, g6, g7, tbi, sids, cl_sv, m20, m21, Lay.r, ofSv]
end
end Mine

namespace Mine
open PySem
/-! law 4: the inner loop -/
def ib : Ss := forB (nthS lb 13)
theorem m29 (v : Sv) (σ : St) : findM T σ 29 (.cls v.a) = some (a_BaseService_is_supported_negative_response, .cls v.a) := by cases v <;> rfl
theorem m29o {σ : St} {i : Nat} {v : Sv} (h : σ[i]? = some (.inst v.a [])) : findM T σ 29 (.obj i) = some (a_BaseService_is_supported_negative_response, .cls v.a) := by
  unfold findM
  simp only [h]
  cases v <;> rfl
theorem for3 {cf : CF} {ρ : Loc} {σ : St} (t : Tg) (body : Ss) (a b c : V) : cFor T cf t body ρ (.tup [a, b, c]) σ = forL (bodyF T cf t body) [a, b, c] ρ σ := k_for_tup t body _ (by show room 3 = true; decide)
theorem for2 {cf : CF} {ρ : Loc} {σ : St} (t : Tg) (body : Ss) (a b : V) : cFor T cf t body ρ (.tup [a, b]) σ = forL (bodyF T cf t body) [a, b] ρ σ := k_for_tup t body _ (by show room 2 = true; decide)
section
variable {σ : St} {scr : V} {sL : List Int} {q : Int} {v : Sv} {j : Nat} {x5 x6 x7 x8 x9 x10 x11 x12 x13 x14 x15 x16 x17 x18 x19 x20 x21 x22 x23 : Option V}
theorem in_may {m : Nat} : exs T (callN T (m+8)) (takeS ib 1) [some scr, some (svs tb), some (il sL), some (.int sL.length), some (.obj 0), x5, x6, x7, x8, some (.int v.n), x10, x11, x12, some (.obj j), x14, some (.int q), x16, x17, x18, x19, x20, x21, x22, x23] σ =
    .ok (.next, [some scr, some (svs tb), some (il sL), some (.int sL.length), some (.obj 0), x5, x6, x7, x8, some (.int v.n), x10, x11, x12, some (.obj j), x14, some (.int q), some (.bool (may v q)), x17, x18, x19, x20, x21, x22, x23]) σ := by
  simp [b_ok, b_exc, b_bad, o_ok, o_exc, x_v, x_p, x_vn, x_pn, c_ok, of_s, om_s, getL_s, l_0, l_s, e_lit, e_loc, cBin2, cBin, e_bin, e_inv, cInv_i, cCmp2, cCmp, e_cmp, e_and, e_or, cNot, e_not, e_ite, cIte_t, cIte_f, cTup, cLst, e_tup, e_lst, cIdx2, cIdx, e_idx, cSli3, cSli2, cSli, e_sli, cAttr, e_attr, cHas, e_has, cClsOf, e_clsOf, cNameOf, e_nameOf, cCall, e_call, cMeth3, cMeth2, cMeth1_s, cMeth, e_meth, e_blt, k_len, k_len0, k_len1, k_blt, cBltQ, e_bltQ, e_comp, cEvs2, cEvs, s_nil, s_cons, cAnd, k_andt, k_andf, a_one, a_cons, cOr, k_ort, k_orf, r_one, r_cons, cTru, cTNot, t_not, t_and, t_or, t_ite, t_lit, t_loc, t_cmp, t_attr, t_has, t_idx, t_blt, t_call, t_meth, ta_nil, ta_cons, cTAnd_t, cTAnd_f, to_nil, to_cons, cTOr_t, cTOr_f, cTIte_t, cTIte_f, ti_nil, ti_cons, cTIf_t, cTIf_f, cAsg, x_asg, setT, cMls, x_mls, okSt_s, cSetA2, cSetA, x_setA, cSetI3, cSetI2, cSetI, x_setI, cAug2, cAug_s, x_aug, cApp2, cApp, x_app, cRet, x_ret, x_ite, cIf_t, cIf_f, x_for, body_one, x_try, cTry_ok, cTry_exc, cCatch_s, caught, hit, x_raise, cRaise_s, cRaise_t, x_asrt, cAsrt_t, x_cont, xs_nil, xs_cons, q_next, q_cont, q_ret, f_ret, f_next, run_s, bindGo, bk_nil, cNew_n, get_last, set_last, setF, hasA, vtruth, vb_add, vb_sub, vb_mul, vb_fdiv, vb_mod, vb_bor, vb_band, vb_lst, vb_byt, vb_str, vaug, vcmp, q_nn, q_bb, q_ii, q_ss, q_yy, q_ni, q_in, q_nb, q_bn, q_sy, q_ys, q_ny, q_yn, q_tt, q_ts, q_st, visame, vi_b_bool, vi_b_int, vi_b_str, vi_b_bytes, vi_b_type, vi_i_bool, vi_i_int, vi_i_str, vi_i_bytes, vi_i_type, vi_s_bool, vi_s_int, vi_s_str, vi_s_bytes, vi_s_type, vi_y_bool, vi_y_int, vi_y_str, vi_y_bytes, vi_y_type, vi_n_bool, vi_n_int, vi_n_str, vi_n_bytes, vi_n_type, w_int, w_isinst, w_bytes, w_list, w_str, w_issub, lo_b, lo_l, lo_t, len_b, len_l, len_t, unl, List.lookup, ibeq, ib, lb, forB, nthS, takeS, dropS, f_law, call_fn fn_may, p_may v q (m+6)]
theorem in_verd {m : Nat} (hg : getA T σ 1 (.obj j) = some (.cls v.a)) : exs T (callN T (m+8)) (takeS (dropS ib 1) 1) [some scr, some (svs tb), some (il sL), some (.int sL.length), some (.obj 0), x5, x6, x7, x8, some (.int v.n), x10, x11, x12, some (.obj j), x14, some (.int q), some (.bool (may v q)), x17, x18, x19, x20, x21, x22, x23] σ =
    .ok (.next, [some scr, some (svs tb), some (il sL), some (.int sL.length), some (.obj 0), x5, x6, x7, x8, some (.int v.n), x10, x11, x12, some (.obj j), x14, some (.int q), some (.bool (may v q)), some (.bool (may v q)), x18, x19, x20, x21, x22, x23]) (σ ++ [.inst v.a []]) := by
  have ho : findM T (σ ++ [.inst v.a []]) 29 (.obj σ.length) = some (a_BaseService_is_supported_negative_response, .cls v.a) := m29o (get_last _ _)
  have hp := p_object v (m+7) σ
  have h1 := p_snr v q (m+6) σ
  have h2 := p_snr v q (m+6) (σ ++ [.inst v.a []])
  rw [← may_snr] at h1 h2
  simp [b_ok, b_exc, b_bad, o_ok, o_exc, x_v, x_p, x_vn, x_pn, c_ok, of_s, om_s, getL_s, l_0, l_s, e_lit, e_loc, cBin2, cBin, e_bin, e_inv, cInv_i, cCmp2, cCmp, e_cmp, e_and, e_or, cNot, e_not, e_ite, cIte_t, cIte_f, cTup, cLst, e_tup, e_lst, cIdx2, cIdx, e_idx, cSli3, cSli2, cSli, e_sli, cAttr, e_attr, cHas, e_has, cClsOf, e_clsOf, cNameOf, e_nameOf, cCall, e_call, cMeth3, cMeth2, cMeth1_s, cMeth, e_meth, e_blt, k_len, k_len0, k_len1, k_blt, cBltQ, e_bltQ, e_comp, cEvs2, cEvs, s_nil, s_cons, cAnd, k_andt, k_andf, a_one, a_cons, cOr, k_ort, k_orf, r_one, r_cons, cTru, cTNot, t_not, t_and, t_or, t_ite, t_lit, t_loc, t_cmp, t_attr, t_has, t_idx, t_blt, t_call, t_meth, ta_nil, ta_cons, cTAnd_t, cTAnd_f, to_nil, to_cons, cTOr_t, cTOr_f, cTIte_t, cTIte_f, ti_nil, ti_cons, cTIf_t, cTIf_f, cAsg, x_asg, setT, cMls, x_mls, okSt_s, cSetA2, cSetA, x_setA, cSetI3, cSetI2, cSetI, x_setI, cAug2, cAug_s, x_aug, cApp2, cApp, x_app, cRet, x_ret, x_ite, cIf_t, cIf_f, x_for, body_one, x_try, cTry_ok, cTry_exc, cCatch_s, caught, hit, x_raise, cRaise_s, cRaise_t, x_asrt, cAsrt_t, x_cont, xs_nil, xs_cons, q_next, q_cont, q_ret, f_ret, f_next, run_s, bindGo, bk_nil, cNew_n, get_last, set_last, setF, hasA, vtruth, vb_add, vb_sub, vb_mul, vb_fdiv, vb_mod, vb_bor, vb_band, vb_lst, vb_byt, vb_str, vaug, vcmp, q_nn, q_bb, q_ii, q_ss, q_yy, q_ni, q_in, q_nb, q_bn, q_sy, q_ys, q_ny, q_yn, q_tt, q_ts, q_st, visame, vi_b_bool, vi_b_int, vi_b_str, vi_b_bytes, vi_b_type, vi_i_bool, vi_i_int, vi_i_str, vi_i_bytes, vi_i_type, vi_s_bool, vi_s_int, vi_s_str, vi_s_bytes, vi_s_type, vi_y_bool, vi_y_int, vi_y_str, vi_y_bytes, vi_y_type, vi_n_bool, vi_n_int, vi_n_str, vi_n_bytes, vi_n_type, w_int, w_isinst, w_bytes, w_list, w_str, w_issub, lo_b, lo_l, lo_t, len_b, len_l, len_t, unl, List.lookup, ibeq, ib, lb, forB, nthS, takeS, dropS, f_law, hg, m29, tbi, call_fn fn_object, hp, ho, h1, h2, for3, forL_c, cFL_n, forL_n]
theorem in_neg {m : Nat} : exs T (callN T (m+8)) (takeS (dropS ib 2) 1) [some scr, some (svs tb), some (il sL), some (.int sL.length), some (.obj 0), x5, x6, x7, x8, some (.int v.n), x10, x11, x12, some (.obj j), x14, some (.int q), some (.bool (may v q)), some (.bool (may v q)), x18, x19, x20, x21, x22, x23] σ =
    .ok (.next, [some scr, some (svs tb), some (il sL), some (.int sL.length), some (.obj 0), x5, x6, x7, x8, some (.int v.n), x10, x11, x12, some (.obj j), x14, some (.int q), some (.bool (may v q)), some (.bool (may v q)), x18, x19, x20, x21, x22, x23]) σ := by
  have hw := p_within q spans (by decide) (m+7) σ
  have hn := p_code_neg q (m+7) σ
  rw [neg_ok] at hn
  simp [b_ok, b_exc, b_bad, o_ok, o_exc, x_v, x_p, x_vn, x_pn, c_ok, of_s, om_s, getL_s, l_0, l_s, e_lit, e_loc, cBin2, cBin, e_bin, e_inv, cInv_i, cCmp2, cCmp, e_cmp, e_and, e_or, cNot, e_not, e_ite, cIte_t, cIte_f, cTup, cLst, e_tup, e_lst, cIdx2, cIdx, e_idx, cSli3, cSli2, cSli, e_sli, cAttr, e_attr, cHas, e_has, cClsOf, e_clsOf, cNameOf, e_nameOf, cCall, e_call, cMeth3, cMeth2, cMeth1_s, cMeth, e_meth, e_blt, k_len, k_len0, k_len1, k_blt, cBltQ, e_bltQ, e_comp, cEvs2, cEvs, s_nil, s_cons, cAnd, k_andt, k_andf, a_one, a_cons, cOr, k_ort, k_orf, r_one, r_cons, cTru, cTNot, t_not, t_and, t_or, t_ite, t_lit, t_loc, t_cmp, t_attr, t_has, t_idx, t_blt, t_call, t_meth, ta_nil, ta_cons, cTAnd_t, cTAnd_f, to_nil, to_cons, cTOr_t, cTOr_f, cTIte_t, cTIte_f, ti_nil, ti_cons, cTIf_t, cTIf_f, cAsg, x_asg, setT, cMls, x_mls, okSt_s, cSetA2, cSetA, x_setA, cSetI3, cSetI2, cSetI, x_setI, cAug2, cAug_s, x_aug, cApp2, cApp, x_app, cRet, x_ret, x_ite, cIf_t, cIf_f, x_for, body_one, x_try, cTry_ok, cTry_exc, cCatch_s, caught, hit, x_raise, cRaise_s, cRaise_t, x_asrt, cAsrt_t, x_cont, xs_nil, xs_cons, q_next, q_cont, q_ret, f_ret, f_next, run_s, bindGo, bk_nil, cNew_n, get_last, set_last, setF, hasA, vtruth, vb_add, vb_sub, vb_mul, vb_fdiv, vb_mod, vb_bor, vb_band, vb_lst, vb_byt, vb_str, vaug, vcmp, q_nn, q_bb, q_ii, q_ss, q_yy, q_ni, q_in, q_nb, q_bn, q_sy, q_ys, q_ny, q_yn, q_tt, q_ts, q_st, visame, vi_b_bool, vi_b_int, vi_b_str, vi_b_bytes, vi_b_type, vi_i_bool, vi_i_int, vi_i_str, vi_i_bytes, vi_i_type, vi_s_bool, vi_s_int, vi_s_str, vi_s_bytes, vi_s_type, vi_y_bool, vi_y_int, vi_y_str, vi_y_bytes, vi_y_type, vi_n_bool, vi_n_int, vi_n_str, vi_n_bytes, vi_n_type, w_int, w_isinst, w_bytes, w_list, w_str, w_issub, lo_b, lo_l, lo_t, len_b, len_l, len_t, unl, List.lookup, ibeq, ib, lb, forB, nthS, takeS, dropS, f_law, mc27, spL, call_fn fn_within, hw, hn]
theorem in_name {m : Nat} (hq : small q = true) : exs T (callN T (m+8)) (takeS (dropS ib 3) 3) [some scr, some (svs tb), some (il sL), some (.int sL.length), some (.obj 0), x5, x6, x7, x8, some (.int v.n), x10, x11, x12, some (.obj j), x14, some (.int q), some (.bool (may v q)), some (.bool (may v q)), x18, x19, x20, x21, x22, x23] σ =
    .ok (.next, [some scr, some (svs tb), some (il sL), some (.int sL.length), some (.obj 0), x5, x6, x7, x8, some (.int v.n), x10, x11, x12, some (.obj j), x14, some (.int q), some (.bool (may v q)), some (.bool (may v q)), some (.str (nameS q)), some (.str (named q)), x20, x21, x22, x23]) σ := by
  have hn := p_code_name q hq (m+7) σ
  have hd := p_named q hq (m+6) σ
  rw [nameV_eq] at hn
  have h0 := name_ne q
  rcases named_ok q with h1 | h1
  · simp [b_ok, b_exc, b_bad, o_ok, o_exc, x_v, x_p, x_vn, x_pn, c_ok, of_s, om_s, getL_s, l_0, l_s, e_lit, e_loc, cBin2, cBin, e_bin, e_inv, cInv_i, cCmp2, cCmp, e_cmp, e_and, e_or, cNot, e_not, e_ite, cIte_t, cIte_f, cTup, cLst, e_tup, e_lst, cIdx2, cIdx, e_idx, cSli3, cSli2, cSli, e_sli, cAttr, e_attr, cHas, e_has, cClsOf, e_clsOf, cNameOf, e_nameOf, cCall, e_call, cMeth3, cMeth2, cMeth1_s, cMeth, e_meth, e_blt, k_len, k_len0, k_len1, k_blt, cBltQ, e_bltQ, e_comp, cEvs2, cEvs, s_nil, s_cons, cAnd, k_andt, k_andf, a_one, a_cons, cOr, k_ort, k_orf, r_one, r_cons, cTru, cTNot, t_not, t_and, t_or, t_ite, t_lit, t_loc, t_cmp, t_attr, t_has, t_idx, t_blt, t_call, t_meth, ta_nil, ta_cons, cTAnd_t, cTAnd_f, to_nil, to_cons, cTOr_t, cTOr_f, cTIte_t, cTIte_f, ti_nil, ti_cons, cTIf_t, cTIf_f, cAsg, x_asg, setT, cMls, x_mls, okSt_s, cSetA2, cSetA, x_setA, cSetI3, cSetI2, cSetI, x_setI, cAug2, cAug_s, x_aug, cApp2, cApp, x_app, cRet, x_ret, x_ite, cIf_t, cIf_f, x_for, body_one, x_try, cTry_ok, cTry_exc, cCatch_s, caught, hit, x_raise, cRaise_s, cRaise_t, x_asrt, cAsrt_t, x_cont, xs_nil, xs_cons, q_next, q_cont, q_ret, f_ret, f_next, run_s, bindGo, bk_nil, cNew_n, get_last, set_last, setF, hasA, vtruth, vb_add, vb_sub, vb_mul, vb_fdiv, vb_mod, vb_bor, vb_band, vb_lst, vb_byt, vb_str, vaug, vcmp, q_nn, q_bb, q_ii, q_ss, q_yy, q_ni, q_in, q_nb, q_bn, q_sy, q_ys, q_ny, q_yn, q_tt, q_ts, q_st, visame, vi_b_bool, vi_b_int, vi_b_str, vi_b_bytes, vi_b_type, vi_i_bool, vi_i_int, vi_i_str, vi_i_bytes, vi_i_type, vi_s_bool, vi_s_int, vi_s_str, vi_s_bytes, vi_s_type, vi_y_bool, vi_y_int, vi_y_str, vi_y_bytes, vi_y_type, vi_n_bool, vi_n_int, vi_n_str, vi_n_bytes, vi_n_type, w_int, w_isinst, w_bytes, w_list, w_str, w_issub, lo_b, lo_l, lo_t, len_b, len_l, len_t, unl, List.lookup, ibeq, ib, lb, forB, nthS, takeS, dropS, f_law, mc24, call_fn fn_named, hn, hd, h0, h1]
  · cases h2 : named q == (Str.ofString "") <;> simp [b_ok, b_exc, b_bad, o_ok, o_exc, x_v, x_p, x_vn, x_pn, c_ok, of_s, om_s, getL_s, l_0, l_s, e_lit, e_loc, cBin2, cBin, e_bin, e_inv, cInv_i, cCmp2, cCmp, e_cmp, e_and, e_or, cNot, e_not, e_ite, cIte_t, cIte_f, cTup, cLst, e_tup, e_lst, cIdx2, cIdx, e_idx, cSli3, cSli2, cSli, e_sli, cAttr, e_attr, cHas, e_has, cClsOf, e_clsOf, cNameOf, e_nameOf, cCall, e_call, cMeth3, cMeth2, cMeth1_s, cMeth, e_meth, e_blt, k_len, k_len0, k_len1, k_blt, cBltQ, e_bltQ, e_comp, cEvs2, cEvs, s_nil, s_cons, cAnd, k_andt, k_andf, a_one, a_cons, cOr, k_ort, k_orf, r_one, r_cons, cTru, cTNot, t_not, t_and, t_or, t_ite, t_lit, t_loc, t_cmp, t_attr, t_has, t_idx, t_blt, t_call, t_meth, ta_nil, ta_cons, cTAnd_t, cTAnd_f, to_nil, to_cons, cTOr_t, cTOr_f, cTIte_t, cTIte_f, ti_nil, ti_cons, cTIf_t, cTIf_f, cAsg, x_asg, setT, cMls, x_mls, okSt_s, cSetA2, cSetA, x_setA, cSetI3, cSetI2, cSetI, x_setI, cAug2, cAug_s, x_aug, cApp2, cApp, x_app, cRet, x_ret, x_ite, cIf_t, cIf_f, x_for, body_one, x_try, cTry_ok, cTry_exc, cCatch_s, caught, hit, x_raise, cRaise_s, cRaise_t, x_asrt, cAsrt_t, x_cont, xs_nil, xs_cons, q_next, q_cont, q_ret, f_ret, f_next, run_s, bindGo, bk_nil, cNew_n, get_last, set_last, setF, hasA, vtruth, vb_add, vb_sub, vb_mul, vb_fdiv, vb_mod, vb_bor, vb_band, vb_lst, vb_byt, vb_str, vaug, vcmp, q_nn, q_bb, q_ii, q_ss, q_yy, q_ni, q_in, q_nb, q_bn, q_sy, q_ys, q_ny, q_yn, q_tt, q_ts, q_st, visame, vi_b_bool, vi_b_int, vi_b_str, vi_b_bytes, vi_b_type, vi_i_bool, vi_i_int, vi_i_str, vi_i_bytes, vi_i_type, vi_s_bool, vi_s_int, vi_s_str, vi_s_bytes, vi_s_type, vi_y_bool, vi_y_int, vi_y_str, vi_y_bytes, vi_y_type, vi_n_bool, vi_n_int, vi_n_str, vi_n_bytes, vi_n_type, w_int, w_isinst, w_bytes, w_list, w_str, w_issub, lo_b, lo_l, lo_t, len_b, len_l, len_t, unl, List.lookup, ibeq, ib, lb, forB, nthS, takeS, dropS, f_law, mc24, call_fn fn_named, hn, hd, h0, h1, h2]
theorem in_app {m : Nat} {L : List V} (hL : σ[0]? = some (.mls L)) (hr : L.length ≤ 1000) : exs T (callN T (m+8)) (dropS ib 6) [some scr, some (svs tb), some (il sL), some (.int sL.length), some (.obj 0), x5, x6, x7, x8, some (.int v.n), x10, x11, x12, some (.obj j), x14, some (.int q), some (.bool (may v q)), some (.bool (may v q)), some (.str (nameS q)), some (.str (named q)), x20, x21, x22, x23] σ =
    .ok (.next, [some scr, some (svs tb), some (il sL), some (.int sL.length), some (.obj 0), x5, x6, x7, x8, some (.int v.n), x10, x11, x12, some (.obj j), x14, some (.int q), some (.bool (may v q)), some (.bool (may v q)), some (.str (nameS q)), some (.str (named q)), x20, x21, x22, x23]) (σ.set 0 (.mls (L ++ [.tup [.int q, .str (nameS q)]]))) := by
  have h1 : isMls σ (.obj 0) = true := by unfold isMls; simp only [hL]
  have h2 : ∀ v, appendV σ (.obj 0) v = some (σ.set 0 (.mls (L ++ [v]))) := fun v => by
    unfold appendV
    simp only [hL]
    rw [if_pos (roomL _ hr)]
  simp [b_ok, b_exc, b_bad, o_ok, o_exc, x_v, x_p, x_vn, x_pn, c_ok, of_s, om_s, getL_s, l_0, l_s, e_lit, e_loc, cBin2, cBin, e_bin, e_inv, cInv_i, cCmp2, cCmp, e_cmp, e_and, e_or, cNot, e_not, e_ite, cIte_t, cIte_f, cTup, cLst, e_tup, e_lst, cIdx2, cIdx, e_idx, cSli3, cSli2, cSli, e_sli, cAttr, e_attr, cHas, e_has, cClsOf, e_clsOf, cNameOf, e_nameOf, cCall, e_call, cMeth3, cMeth2, cMeth1_s, cMeth, e_meth, e_blt, k_len, k_len0, k_len1, k_blt, cBltQ, e_bltQ, e_comp, cEvs2, cEvs, s_nil, s_cons, cAnd, k_andt, k_andf, a_one, a_cons, cOr, k_ort, k_orf, r_one, r_cons, cTru, cTNot, t_not, t_and, t_or, t_ite, t_lit, t_loc, t_cmp, t_attr, t_has, t_idx, t_blt, t_call, t_meth, ta_nil, ta_cons, cTAnd_t, cTAnd_f, to_nil, to_cons, cTOr_t, cTOr_f, cTIte_t, cTIte_f, ti_nil, ti_cons, cTIf_t, cTIf_f, cAsg, x_asg, setT, cMls, x_mls, okSt_s, cSetA2, cSetA, x_setA, cSetI3, cSetI2, cSetI, x_setI, cAug2, cAug_s, x_aug, cApp2, cApp, x_app, cRet, x_ret, x_ite, cIf_t, cIf_f, x_for, body_one, x_try, cTry_ok, cTry_exc, cCatch_s, caught, hit, x_raise, cRaise_s, cRaise_t, x_asrt, cAsrt_t, x_cont, xs_nil, xs_cons, q_next, q_cont, q_ret, f_ret, f_next, run_s, bindGo, bk_nil, cNew_n, get_last, set_last, setF, hasA, vtruth, vb_add, vb_sub, vb_mul, vb_fdiv, vb_mod, vb_bor, vb_band, vb_lst, vb_byt, vb_str, vaug, vcmp, q_nn, q_bb, q_ii, q_ss, q_yy, q_ni, q_in, q_nb, q_bn, q_sy, q_ys, q_ny, q_yn, q_tt, q_ts, q_st, visame, vi_b_bool, vi_b_int, vi_b_str, vi_b_bytes, vi_b_type, vi_i_bool, vi_i_int, vi_i_str, vi_i_bytes, vi_i_type, vi_s_bool, vi_s_int, vi_s_str, vi_s_bytes, vi_s_type, vi_y_bool, vi_y_int, vi_y_str, vi_y_bytes, vi_y_type, vi_n_bool, vi_n_int, vi_n_str, vi_n_bytes, vi_n_type, w_int, w_isinst, w_bytes, w_list, w_str, w_issub, lo_b, lo_l, lo_t, len_b, len_l, len_t, unl, List.lookup, ibeq, ib, lb, forB, nthS, takeS, dropS, f_law, h1, h2]
theorem inner {m : Nat} {L : List V} (hq : small q = true) (hg : getA T σ 1 (.obj j) = some (.cls v.a)) (hL : σ[0]? = some (.mls L)) (hr : L.length ≤ 1000) : bodyF T (callN T (m+8)) (.one 15) ib (.int q) [some scr, some (svs tb), some (il sL), some (.int sL.length), some (.obj 0), x5, x6, x7, x8, some (.int v.n), x10, x11, x12, some (.obj j), x14, x15, x16, x17, x18, x19, x20, x21, x22, x23] σ =
    .ok (.next, [some scr, some (svs tb), some (il sL), some (.int sL.length), some (.obj 0), x5, x6, x7, x8, some (.int v.n), x10, x11, x12, some (.obj j), x14, some (.int q), some (.bool (may v q)), some (.bool (may v q)), some (.str (nameS q)), some (.str (named q)), x20, x21, x22, x23]) ((σ ++ [AO.inst v.a []]).set 0 (AO.mls (L ++ [V.tup [.int q, .str (nameS q)]]))) := by
  rw [body_one]
  simp only [List.set_cons_succ, List.set_cons_zero]
  rw [exs_then 1 in_may, exs_then 1 (in_verd hg), show dropS (dropS ib 1) 1 = dropS ib 2 from rfl, exs_then 1 in_neg, show dropS (dropS ib 2) 1 = dropS ib 3 from rfl, exs_then 3 (in_name hq), show dropS (dropS ib 3) 3 = dropS ib 6 from rfl]
  exact in_app (get_old hL) hr
end
end Mine

namespace Mine
open PySem
/-! law 4: the rest of a turn -/
def tn (q : Int) : V := .tup [.int q, .str (nameS q)]
theorem idx_t1 (σ : St) (a b : V) : vidx σ (.tup [a, b]) (.int 1) = some b := by rfl
theorem keep_set {σ : St} {i : Nat} {L L' : List V} {C : Nat} {fs : List (Nat × V)} (h0 : σ[0]? = some (.mls L)) (h : σ[i]? = some (.inst C fs)) (x : AO) : ((σ ++ [x]).set 0 (.mls L'))[i]? = some (.inst C fs) :=
  keep_inst (get_old h0) (get_old h)
theorem set_zero {σ : St} {L L' : List V} (h0 : σ[0]? = some (.mls L)) (x : AO) : ((σ ++ [x]).set 0 (.mls L'))[0]? = some (.mls L') := by
  have hlt := (List.getElem?_eq_some_iff.mp (get_old (y := x) h0)).1
  rw [List.getElem?_set_self hlt]
theorem get1_ans {σ : St} {j : Nat} {v : Sv} {q : Int} {ex : List Int} (h : σ[j]? = some (ans v q ex).o) : getA T σ 1 (.obj j) = some (.cls v.a) := by
  have hj := h
  rw [ans_o] at hj
  have := getA_Res hj 1 kr1
  simpa [List.lookup] using this
theorem get13_ans {σ : St} {j : Nat} {v : Sv} {q : Int} {ex : List Int} (h : σ[j]? = some (ans v q ex).o) : getA T σ 13 (.obj j) = some (.str (nameS q)) := by
  have hj := h
  rw [ans_o] at hj
  have := getA_Res hj 13 kr13
  rw [← nameV_eq]
  simpa [List.lookup] using this
section
variable {σ : St} {scr : V} {sL : List Int} {i a b c q e z y : Int} {v : Sv} {ex : List Int} {j : Nat} {x5 x6 x7 x8 x9 x10 x11 x12 x13 x14 x15 x16 x17 x18 x19 x20 x21 x22 x23 : Option V}
theorem ph_other {cf : CF} : exs T cf (takeS (dropS lb 12) 1) [some scr, some (svs tb), some (il sL), some (.int sL.length), some (.obj 0), some (.int i), some (.int a), some (.int b), some (.int c), some (.int v.n), some (.int q), some (.bytes ex), some (.bytes (127 :: v.id :: q :: ex)), some (.obj j), x14, x15, x16, x17, x18, x19, x20, x21, x22, x23] σ =
    .ok (.next, [some scr, some (svs tb), some (il sL), some (.int sL.length), some (.obj 0), some (.int i), some (.int a), some (.int b), some (.int c), some (.int v.n), some (.int q), some (.bytes ex), some (.bytes (127 :: v.id :: q :: ex)), some (.obj j), some (.int (Int.fmod (b + 7 * c) 361 - 30)), x15, x16, x17, x18, x19, x20, x21, x22, x23]) σ := by
  simp [b_ok, b_exc, b_bad, o_ok, o_exc, x_v, x_p, x_vn, x_pn, c_ok, of_s, om_s, getL_s, l_0, l_s, e_lit, e_loc, cBin2, cBin, e_bin, e_inv, cInv_i, cCmp2, cCmp, e_cmp, e_and, e_or, cNot, e_not, e_ite, cIte_t, cIte_f, cTup, cLst, e_tup, e_lst, cIdx2, cIdx, e_idx, cSli3, cSli2, cSli, e_sli, cAttr, e_attr, cHas, e_has, cClsOf, e_clsOf, cNameOf, e_nameOf, cCall, e_call, cMeth3, cMeth2, cMeth1_s, cMeth, e_meth, e_blt, k_len, k_len0, k_len1, k_blt, cBltQ, e_bltQ, e_comp, cEvs2, cEvs, s_nil, s_cons, cAnd, k_andt, k_andf, a_one, a_cons, cOr, k_ort, k_orf, r_one, r_cons, cTru, cTNot, t_not, t_and, t_or, t_ite, t_lit, t_loc, t_cmp, t_attr, t_has, t_idx, t_blt, t_call, t_meth, ta_nil, ta_cons, cTAnd_t, cTAnd_f, to_nil, to_cons, cTOr_t, cTOr_f, cTIte_t, cTIte_f, ti_nil, ti_cons, cTIf_t, cTIf_f, cAsg, x_asg, setT, cMls, x_mls, okSt_s, cSetA2, cSetA, x_setA, cSetI3, cSetI2, cSetI, x_setI, cAug2, cAug_s, x_aug, cApp2, cApp, x_app, cRet, x_ret, x_ite, cIf_t, cIf_f, x_for, body_one, x_try, cTry_ok, cTry_exc, cCatch_s, caught, hit, x_raise, cRaise_s, cRaise_t, x_asrt, cAsrt_t, x_cont, xs_nil, xs_cons, q_next, q_cont, q_ret, f_ret, f_next, run_s, bindGo, bk_nil, cNew_n, get_last, set_last, setF, hasA, vtruth, vb_add, vb_sub, vb_mul, vb_fdiv, vb_mod, vb_bor, vb_band, vb_lst, vb_byt, vb_str, vaug, vcmp, q_nn, q_bb, q_ii, q_ss, q_yy, q_ni, q_in, q_nb, q_bn, q_sy, q_ys, q_ny, q_yn, q_tt, q_ts, q_st, visame, vi_b_bool, vi_b_int, vi_b_str, vi_b_bytes, vi_b_type, vi_i_bool, vi_i_int, vi_i_str, vi_i_bytes, vi_i_type, vi_s_bool, vi_s_int, vi_s_str, vi_s_bytes, vi_s_type, vi_y_bool, vi_y_int, vi_y_str, vi_y_bytes, vi_y_type, vi_n_bool, vi_n_int, vi_n_str, vi_n_bytes, vi_n_type, w_int, w_isinst, w_bytes, w_list, w_str, w_issub, lo_b, lo_l, lo_t, len_b, len_l, len_t, unl, List.lookup, ibeq, lb, forB, nthS, takeS, dropS, f_law, show small 7 = true from by decide]
theorem ph_for {m : Nat} {L : List V} (hq : small q = true) (he : small e = true) (hj : σ[j]? = some (ans v q ex).o) (hL : σ[0]? = some (.mls L)) (hr : L.length ≤ 900) : ∃ σ', exs T (callN T (m+8)) (takeS (dropS lb 13) 1) [some scr, some (svs tb), some (il sL), some (.int sL.length), some (.obj 0), some (.int i), some (.int a), some (.int b), some (.int c), some (.int v.n), some (.int q), some (.bytes ex), some (.bytes (127 :: v.id :: q :: ex)), some (.obj j), some (.int e), x15, x16, x17, x18, x19, x20, x21, x22, x23] σ =
    .ok (.next, [some scr, some (svs tb), some (il sL), some (.int sL.length), some (.obj 0), some (.int i), some (.int a), some (.int b), some (.int c), some (.int v.n), some (.int q), some (.bytes ex), some (.bytes (127 :: v.id :: q :: ex)), some (.obj j), some (.int e), some (.int e), some (.bool (may v e)), some (.bool (may v e)), some (.str (nameS e)), some (.str (named e)), x20, x21, x22, x23]) σ' ∧ σ'[0]? = some (.mls (L ++ [tn q, tn e])) ∧ σ'[j]? = some (ans v q ex).o := by
  have hg := get1_ans hj
  have h1 := inner (m := m) (scr := scr) (sL := sL) (x5 := some (.int i)) (x6 := some (.int a)) (x7 := some (.int b)) (x8 := some (.int c)) (x10 := some (.int q)) (x11 := some (.bytes ex)) (x12 := some (.bytes (127 :: v.id :: q :: ex))) (x14 := some (.int e)) (x15 := x15) (x16 := x16) (x17 := x17) (x18 := x18) (x19 := x19) (x20 := x20) (x21 := x21) (x22 := x22) (x23 := x23) hq hg hL (by omega)
  have hL1 := set_zero (L' := L ++ [tn q]) hL (AO.inst v.a [])
  have hj1 : ((σ ++ [AO.inst v.a []]).set 0 (.mls (L ++ [tn q])))[j]? = some (ans v q ex).o := keep_set hL hj _
  have hg1 := get1_ans hj1
  have h2 := inner (m := m) (scr := scr) (sL := sL) (x5 := some (.int i)) (x6 := some (.int a)) (x7 := some (.int b)) (x8 := some (.int c)) (x10 := some (.int q)) (x11 := some (.bytes ex)) (x12 := some (.bytes (127 :: v.id :: q :: ex))) (x14 := some (.int e)) (x15 := some (.int q)) (x16 := some (.bool (may v q))) (x17 := some (.bool (may v q))) (x18 := some (.str (nameS q))) (x19 := some (.str (named q))) (x20 := x20) (x21 := x21) (x22 := x22) (x23 := x23) he hg1 hL1 (by simp; omega)
  have hL2 := set_zero (L' := L ++ [tn q] ++ [tn e]) hL1 (AO.inst v.a [])
  have hj2 := keep_set (L' := L ++ [tn q] ++ [tn e]) hL1 hj1 (AO.inst v.a [])
  rw [List.append_assoc] at hL2
  refine ⟨_, ?_, hL2, by rw [List.append_assoc] at hj2; exact hj2⟩
  have hfor : cFor T (callN T (m+8)) (.one 15) ib [some scr, some (svs tb), some (il sL), some (.int sL.length), some (.obj 0), some (.int i), some (.int a), some (.int b), some (.int c), some (.int v.n), some (.int q), some (.bytes ex), some (.bytes (127 :: v.id :: q :: ex)), some (.obj j), some (.int e), x15, x16, x17, x18, x19, x20, x21, x22, x23] (.tup [.int q, .int e]) σ = .ok (.next, [some scr, some (svs tb), some (il sL), some (.int sL.length), some (.obj 0), some (.int i), some (.int a), some (.int b), some (.int c), some (.int v.n), some (.int q), some (.bytes ex), some (.bytes (127 :: v.id :: q :: ex)), some (.obj j), some (.int e), some (.int e), some (.bool (may v e)), some (.bool (may v e)), some (.str (nameS e)), some (.str (named e)), x20, x21, x22, x23]) (((σ ++ [AO.inst v.a []]).set 0 (.mls (L ++ [tn q])) ++ [AO.inst v.a []]).set 0 (.mls (L ++ [tn q] ++ [tn e]))) := by
    rw [for2, forL_c, h1, c_ok, b_ok, cFL_n, forL_c]
    have h2' := h2
    unfold tn at h2' ⊢
    rw [h2', c_ok, b_ok, cFL_n, forL_n]
  simp only [ib, lb, forB, nthS, f_law] at hfor
  rw [List.append_assoc] at hfor
  simp [b_ok, b_exc, b_bad, o_ok, o_exc, x_v, x_p, x_vn, x_pn, c_ok, of_s, om_s, getL_s, l_0, l_s, e_lit, e_loc, cBin2, cBin, e_bin, e_inv, cInv_i, cCmp2, cCmp, e_cmp, e_and, e_or, cNot, e_not, e_ite, cIte_t, cIte_f, cTup, cLst, e_tup, e_lst, cIdx2, cIdx, e_idx, cSli3, cSli2, cSli, e_sli, cAttr, e_attr, cHas, e_has, cClsOf, e_clsOf, cNameOf, e_nameOf, cCall, e_call, cMeth3, cMeth2, cMeth1_s, cMeth, e_meth, e_blt, k_len, k_len0, k_len1, k_blt, cBltQ, e_bltQ, e_comp, cEvs2, cEvs, s_nil, s_cons, cAnd, k_andt, k_andf, a_one, a_cons, cOr, k_ort, k_orf, r_one, r_cons, cTru, cTNot, t_not, t_and, t_or, t_ite, t_lit, t_loc, t_cmp, t_attr, t_has, t_idx, t_blt, t_call, t_meth, ta_nil, ta_cons, cTAnd_t, cTAnd_f, to_nil, to_cons, cTOr_t, cTOr_f, cTIte_t, cTIte_f, ti_nil, ti_cons, cTIf_t, cTIf_f, cAsg, x_asg, setT, cMls, x_mls, okSt_s, cSetA2, cSetA, x_setA, cSetI3, cSetI2, cSetI, x_setI, cAug2, cAug_s, x_aug, cApp2, cApp, x_app, cRet, x_ret, x_ite, cIf_t, cIf_f, x_for, body_one, x_try, cTry_ok, cTry_exc, cCatch_s, caught, hit, x_raise, cRaise_s, cRaise_t, x_asrt, cAsrt_t, x_cont, xs_nil, xs_cons, q_next, q_cont, q_ret, f_ret, f_next, run_s, bindGo, bk_nil, cNew_n, get_last, set_last, setF, hasA, vtruth, vb_add, vb_sub, vb_mul, vb_fdiv, vb_mod, vb_bor, vb_band, vb_lst, vb_byt, vb_str, vaug, vcmp, q_nn, q_bb, q_ii, q_ss, q_yy, q_ni, q_in, q_nb, q_bn, q_sy, q_ys, q_ny, q_yn, q_tt, q_ts, q_st, visame, vi_b_bool, vi_b_int, vi_b_str, vi_b_bytes, vi_b_type, vi_i_bool, vi_i_int, vi_i_str, vi_i_bytes, vi_i_type, vi_s_bool, vi_s_int, vi_s_str, vi_s_bytes, vi_s_type, vi_y_bool, vi_y_int, vi_y_str, vi_y_bytes, vi_y_type, vi_n_bool, vi_n_int, vi_n_str, vi_n_bytes, vi_n_type, w_int, w_isinst, w_bytes, w_list, w_str, w_issub, lo_b, lo_l, lo_t, len_b, len_l, len_t, unl, List.lookup, ibeq, lb, forB, nthS, takeS, dropS, f_law, hfor]
theorem ph_cn {cf : CF} {L : List V} {n : Nat} (hj : σ[j]? = some (ans v q ex).o) (hL : σ[0]? = some (.mls (L ++ [tn q, tn e]))) (hi : i = (n : Int)) (hn : L.length = 2 * n) (hr : L.length ≤ 900) : exs T cf (takeS (dropS lb 14) 1) [some scr, some (svs tb), some (il sL), some (.int sL.length), some (.obj 0), some (.int i), some (.int a), some (.int b), some (.int c), some (.int v.n), some (.int q), some (.bytes ex), some (.bytes (127 :: v.id :: q :: ex)), some (.obj j), some (.int e), some (.int e), some (.bool (may v e)), some (.bool (may v e)), some (.str (nameS e)), some (.str (named e)), x20, x21, x22, x23] σ =
    .ok (.next, [some scr, some (svs tb), some (il sL), some (.int sL.length), some (.obj 0), some (.int i), some (.int a), some (.int b), some (.int c), some (.int v.n), some (.int q), some (.bytes ex), some (.bytes (127 :: v.id :: q :: ex)), some (.obj j), some (.int e), some (.int e), some (.bool (may v e)), some (.bool (may v e)), some (.str (nameS e)), some (.str (named e)), x20, x21, x22, x23]) σ := by
  have h1 : vidx σ (.obj 0) (.int (2 * i)) = some (.tup [.int q, .str (nameS q)]) := by
    unfold vidx
    simp only [hL]
    unfold vitem
    rw [if_pos (by simp; omega), show (2 * i).toNat = L.length from by omega]
    simp [tn]
  have h2 := get13_ans hj
  simp [b_ok, b_exc, b_bad, o_ok, o_exc, x_v, x_p, x_vn, x_pn, c_ok, of_s, om_s, getL_s, l_0, l_s, e_lit, e_loc, cBin2, cBin, e_bin, e_inv, cInv_i, cCmp2, cCmp, e_cmp, e_and, e_or, cNot, e_not, e_ite, cIte_t, cIte_f, cTup, cLst, e_tup, e_lst, cIdx2, cIdx, e_idx, cSli3, cSli2, cSli, e_sli, cAttr, e_attr, cHas, e_has, cClsOf, e_clsOf, cNameOf, e_nameOf, cCall, e_call, cMeth3, cMeth2, cMeth1_s, cMeth, e_meth, e_blt, k_len, k_len0, k_len1, k_blt, cBltQ, e_bltQ, e_comp, cEvs2, cEvs, s_nil, s_cons, cAnd, k_andt, k_andf, a_one, a_cons, cOr, k_ort, k_orf, r_one, r_cons, cTru, cTNot, t_not, t_and, t_or, t_ite, t_lit, t_loc, t_cmp, t_attr, t_has, t_idx, t_blt, t_call, t_meth, ta_nil, ta_cons, cTAnd_t, cTAnd_f, to_nil, to_cons, cTOr_t, cTOr_f, cTIte_t, cTIte_f, ti_nil, ti_cons, cTIf_t, cTIf_f, cAsg, x_asg, setT, cMls, x_mls, okSt_s, cSetA2, cSetA, x_setA, cSetI3, cSetI2, cSetI, x_setI, cAug2, cAug_s, x_aug, cApp2, cApp, x_app, cRet, x_ret, x_ite, cIf_t, cIf_f, x_for, body_one, x_try, cTry_ok, cTry_exc, cCatch_s, caught, hit, x_raise, cRaise_s, cRaise_t, x_asrt, cAsrt_t, x_cont, xs_nil, xs_cons, q_next, q_cont, q_ret, f_ret, f_next, run_s, bindGo, bk_nil, cNew_n, get_last, set_last, setF, hasA, vtruth, vb_add, vb_sub, vb_mul, vb_fdiv, vb_mod, vb_bor, vb_band, vb_lst, vb_byt, vb_str, vaug, vcmp, q_nn, q_bb, q_ii, q_ss, q_yy, q_ni, q_in, q_nb, q_bn, q_sy, q_ys, q_ny, q_yn, q_tt, q_ts, q_st, visame, vi_b_bool, vi_b_int, vi_b_str, vi_b_bytes, vi_b_type, vi_i_bool, vi_i_int, vi_i_str, vi_i_bytes, vi_i_type, vi_s_bool, vi_s_int, vi_s_str, vi_s_bytes, vi_s_type, vi_y_bool, vi_y_int, vi_y_str, vi_y_bytes, vi_y_type, vi_n_bool, vi_n_int, vi_n_str, vi_n_bytes, vi_n_type, w_int, w_isinst, w_bytes, w_list, w_str, w_issub, lo_b, lo_l, lo_t, len_b, len_l, len_t, unl, List.lookup, ibeq, lb, forB, nthS, takeS, dropS, f_law, h1, h2, idx_t1, show small 2 = true from by decide]
theorem ph_num {cf : CF} (hq : small q = true) (he : small e = true) : ∃ z, small z = true ∧ exs T cf (takeS (dropS lb 15) 1) [some scr, some (svs tb), some (il sL), some (.int sL.length), some (.obj 0), some (.int i), some (.int a), some (.int b), some (.int c), some (.int v.n), some (.int q), some (.bytes ex), some (.bytes (127 :: v.id :: q :: ex)), some (.obj j), some (.int e), some (.int e), some (.bool (may v e)), some (.bool (may v e)), some (.str (nameS e)), some (.str (named e)), x20, x21, x22, x23] σ =
    .ok (.next, [some scr, some (svs tb), some (il sL), some (.int sL.length), some (.obj 0), some (.int i), some (.int a), some (.int b), some (.int c), some (.int v.n), some (.int q), some (.bytes ex), some (.bytes (127 :: v.id :: q :: ex)), some (.obj j), some (.int e), some (.int z), some (.bool (may v e)), some (.bool (may v e)), some (.str (nameS e)), some (.str (named e)), x20, x21, x22, x23]) σ := by
  by_cases h : Int.fmod a 3 = 0
  · exact ⟨e, he, by simp [b_ok, b_exc, b_bad, o_ok, o_exc, x_v, x_p, x_vn, x_pn, c_ok, of_s, om_s, getL_s, l_0, l_s, e_lit, e_loc, cBin2, cBin, e_bin, e_inv, cInv_i, cCmp2, cCmp, e_cmp, e_and, e_or, cNot, e_not, e_ite, cIte_t, cIte_f, cTup, cLst, e_tup, e_lst, cIdx2, cIdx, e_idx, cSli3, cSli2, cSli, e_sli, cAttr, e_attr, cHas, e_has, cClsOf, e_clsOf, cNameOf, e_nameOf, cCall, e_call, cMeth3, cMeth2, cMeth1_s, cMeth, e_meth, e_blt, k_len, k_len0, k_len1, k_blt, cBltQ, e_bltQ, e_comp, cEvs2, cEvs, s_nil, s_cons, cAnd, k_andt, k_andf, a_one, a_cons, cOr, k_ort, k_orf, r_one, r_cons, cTru, cTNot, t_not, t_and, t_or, t_ite, t_lit, t_loc, t_cmp, t_attr, t_has, t_idx, t_blt, t_call, t_meth, ta_nil, ta_cons, cTAnd_t, cTAnd_f, to_nil, to_cons, cTOr_t, cTOr_f, cTIte_t, cTIte_f, ti_nil, ti_cons, cTIf_t, cTIf_f, cAsg, x_asg, setT, cMls, x_mls, okSt_s, cSetA2, cSetA, x_setA, cSetI3, cSetI2, cSetI, x_setI, cAug2, cAug_s, x_aug, cApp2, cApp, x_app, cRet, x_ret, x_ite, cIf_t, cIf_f, x_for, body_one, x_try, cTry_ok, cTry_exc, cCatch_s, caught, hit, x_raise, cRaise_s, cRaise_t, x_asrt, cAsrt_t, x_cont, xs_nil, xs_cons, q_next, q_cont, q_ret, f_ret, f_next, run_s, bindGo, bk_nil, cNew_n, get_last, set_last, setF, hasA, vtruth, vb_add, vb_sub, vb_mul, vb_fdiv, vb_mod, vb_bor, vb_band, vb_lst, vb_byt, vb_str, vaug, vcmp, q_nn, q_bb, q_ii, q_ss, q_yy, q_ni, q_in, q_nb, q_bn, q_sy, q_ys, q_ny, q_yn, q_tt, q_ts, q_st, visame, vi_b_bool, vi_b_int, vi_b_str, vi_b_bytes, vi_b_type, vi_i_bool, vi_i_int, vi_i_str, vi_i_bytes, vi_i_type, vi_s_bool, vi_s_int, vi_s_str, vi_s_bytes, vi_s_type, vi_y_bool, vi_y_int, vi_y_str, vi_y_bytes, vi_y_type, vi_n_bool, vi_n_int, vi_n_str, vi_n_bytes, vi_n_type, w_int, w_isinst, w_bytes, w_list, w_str, w_issub, lo_b, lo_l, lo_t, len_b, len_l, len_t, unl, List.lookup, ibeq, lb, forB, nthS, takeS, dropS, f_law, h]⟩
  · exact ⟨q, hq, by simp [b_ok, b_exc, b_bad, o_ok, o_exc, x_v, x_p, x_vn, x_pn, c_ok, of_s, om_s, getL_s, l_0, l_s, e_lit, e_loc, cBin2, cBin, e_bin, e_inv, cInv_i, cCmp2, cCmp, e_cmp, e_and, e_or, cNot, e_not, e_ite, cIte_t, cIte_f, cTup, cLst, e_tup, e_lst, cIdx2, cIdx, e_idx, cSli3, cSli2, cSli, e_sli, cAttr, e_attr, cHas, e_has, cClsOf, e_clsOf, cNameOf, e_nameOf, cCall, e_call, cMeth3, cMeth2, cMeth1_s, cMeth, e_meth, e_blt, k_len, k_len0, k_len1, k_blt, cBltQ, e_bltQ, e_comp, cEvs2, cEvs, s_nil, s_cons, cAnd, k_andt, k_andf, a_one, a_cons, cOr, k_ort, k_orf, r_one, r_cons, cTru, cTNot, t_not, t_and, t_or, t_ite, t_lit, t_loc, t_cmp, t_attr, t_has, t_idx, t_blt, t_call, t_meth, ta_nil, ta_cons, cTAnd_t, cTAnd_f, to_nil, to_cons, cTOr_t, cTOr_f, cTIte_t, cTIte_f, ti_nil, ti_cons, cTIf_t, cTIf_f, cAsg, x_asg, setT, cMls, x_mls, okSt_s, cSetA2, cSetA, x_setA, cSetI3, cSetI2, cSetI, x_setI, cAug2, cAug_s, x_aug, cApp2, cApp, x_app, cRet, x_ret, x_ite, cIf_t, cIf_f, x_for, body_one, x_try, cTry_ok, cTry_exc, cCatch_s, caught, hit, x_raise, cRaise_s, cRaise_t, x_asrt, cAsrt_t, x_cont, xs_nil, xs_cons, q_next, q_cont, q_ret, f_ret, f_next, run_s, bindGo, bk_nil, cNew_n, get_last, set_last, setF, hasA, vtruth, vb_add, vb_sub, vb_mul, vb_fdiv, vb_mod, vb_bor, vb_band, vb_lst, vb_byt, vb_str, vaug, vcmp, q_nn, q_bb, q_ii, q_ss, q_yy, q_ni, q_in, q_nb, q_bn, q_sy, q_ys, q_ny, q_yn, q_tt, q_ts, q_st, visame, vi_b_bool, vi_b_int, vi_b_str, vi_b_bytes, vi_b_type, vi_i_bool, vi_i_int, vi_i_str, vi_i_bytes, vi_i_type, vi_s_bool, vi_s_int, vi_s_str, vi_s_bytes, vi_s_type, vi_y_bool, vi_y_int, vi_y_str, vi_y_bytes, vi_y_type, vi_n_bool, vi_n_int, vi_n_str, vi_n_bytes, vi_n_type, w_int, w_isinst, w_bytes, w_list, w_str, w_issub, lo_b, lo_l, lo_t, len_b, len_l, len_t, unl, List.lookup, ibeq, lb, forB, nthS, takeS, dropS, f_law, h]⟩
theorem ph_year {cf : CF} : exs T cf (takeS (dropS lb 16) 1) [some scr, some (svs tb), some (il sL), some (.int sL.length), some (.obj 0), some (.int i), some (.int a), some (.int b), some (.int c), some (.int v.n), some (.int q), some (.bytes ex), some (.bytes (127 :: v.id :: q :: ex)), some (.obj j), some (.int e), some (.int z), some (.bool (may v e)), some (.bool (may v e)), some (.str (nameS e)), some (.str (named e)), x20, x21, x22, x23] σ =
    .ok (.next, [some scr, some (svs tb), some (il sL), some (.int sL.length), some (.obj 0), some (.int i), some (.int a), some (.int b), some (.int c), some (.int v.n), some (.int q), some (.bytes ex), some (.bytes (127 :: v.id :: q :: ex)), some (.obj j), some (.int e), some (.int z), some (.bool (may v e)), some (.bool (may v e)), some (.str (nameS e)), some (.str (named e)), some (.int (2000 + Int.fmod (a + c) 31)), x21, x22, x23]) σ := by
  simp [b_ok, b_exc, b_bad, o_ok, o_exc, x_v, x_p, x_vn, x_pn, c_ok, of_s, om_s, getL_s, l_0, l_s, e_lit, e_loc, cBin2, cBin, e_bin, e_inv, cInv_i, cCmp2, cCmp, e_cmp, e_and, e_or, cNot, e_not, e_ite, cIte_t, cIte_f, cTup, cLst, e_tup, e_lst, cIdx2, cIdx, e_idx, cSli3, cSli2, cSli, e_sli, cAttr, e_attr, cHas, e_has, cClsOf, e_clsOf, cNameOf, e_nameOf, cCall, e_call, cMeth3, cMeth2, cMeth1_s, cMeth, e_meth, e_blt, k_len, k_len0, k_len1, k_blt, cBltQ, e_bltQ, e_comp, cEvs2, cEvs, s_nil, s_cons, cAnd, k_andt, k_andf, a_one, a_cons, cOr, k_ort, k_orf, r_one, r_cons, cTru, cTNot, t_not, t_and, t_or, t_ite, t_lit, t_loc, t_cmp, t_attr, t_has, t_idx, t_blt, t_call, t_meth, ta_nil, ta_cons, cTAnd_t, cTAnd_f, to_nil, to_cons, cTOr_t, cTOr_f, cTIte_t, cTIte_f, ti_nil, ti_cons, cTIf_t, cTIf_f, cAsg, x_asg, setT, cMls, x_mls, okSt_s, cSetA2, cSetA, x_setA, cSetI3, cSetI2, cSetI, x_setI, cAug2, cAug_s, x_aug, cApp2, cApp, x_app, cRet, x_ret, x_ite, cIf_t, cIf_f, x_for, body_one, x_try, cTry_ok, cTry_exc, cCatch_s, caught, hit, x_raise, cRaise_s, cRaise_t, x_asrt, cAsrt_t, x_cont, xs_nil, xs_cons, q_next, q_cont, q_ret, f_ret, f_next, run_s, bindGo, bk_nil, cNew_n, get_last, set_last, setF, hasA, vtruth, vb_add, vb_sub, vb_mul, vb_fdiv, vb_mod, vb_bor, vb_band, vb_lst, vb_byt, vb_str, vaug, vcmp, q_nn, q_bb, q_ii, q_ss, q_yy, q_ni, q_in, q_nb, q_bn, q_sy, q_ys, q_ny, q_yn, q_tt, q_ts, q_st, visame, vi_b_bool, vi_b_int, vi_b_str, vi_b_bytes, vi_b_type, vi_i_bool, vi_i_int, vi_i_str, vi_i_bytes, vi_i_type, vi_s_bool, vi_s_int, vi_s_str, vi_s_bytes, vi_s_type, vi_y_bool, vi_y_int, vi_y_str, vi_y_bytes, vi_y_type, vi_n_bool, vi_n_int, vi_n_str, vi_n_bytes, vi_n_type, w_int, w_isinst, w_bytes, w_list, w_str, w_issub, lo_b, lo_l, lo_t, len_b, len_l, len_t, unl, List.lookup, ibeq, lb, forB, nthS, takeS, dropS, f_law]
theorem ph_first {m : Nat} : exs T (callN T (m+8)) (takeS (dropS lb 17) 1) [some scr, some (svs tb), some (il sL), some (.int sL.length), some (.obj 0), some (.int i), some (.int a), some (.int b), some (.int c), some (.int v.n), some (.int q), some (.bytes ex), some (.bytes (127 :: v.id :: q :: ex)), some (.obj j), some (.int e), some (.int z), some (.bool (may v e)), some (.bool (may v e)), some (.str (nameS e)), some (.str (named e)), some (.int y), x21, x22, x23] σ =
    .ok (.next, [some scr, some (svs tb), some (il sL), some (.int sL.length), some (.obj 0), some (.int i), some (.int a), some (.int b), some (.int c), some (.int v.n), some (.int q), some (.bytes ex), some (.bytes (127 :: v.id :: q :: ex)), some (.obj j), some (.int e), some (.int z), some (.bool (may v e)), some (.bool (may v e)), some (.str (nameS e)), some (.str (named e)), some (.int y), some (.int (if within z late then 2020 else 2006)), x22, x23]) σ := by
  have hw := p_within z late (by decide) (m+7) σ
  cases h : within z late <;> simp [b_ok, b_exc, b_bad, o_ok, o_exc, x_v, x_p, x_vn, x_pn, c_ok, of_s, om_s, getL_s, l_0, l_s, e_lit, e_loc, cBin2, cBin, e_bin, e_inv, cInv_i, cCmp2, cCmp, e_cmp, e_and, e_or, cNot, e_not, e_ite, cIte_t, cIte_f, cTup, cLst, e_tup, e_lst, cIdx2, cIdx, e_idx, cSli3, cSli2, cSli, e_sli, cAttr, e_attr, cHas, e_has, cClsOf, e_clsOf, cNameOf, e_nameOf, cCall, e_call, cMeth3, cMeth2, cMeth1_s, cMeth, e_meth, e_blt, k_len, k_len0, k_len1, k_blt, cBltQ, e_bltQ, e_comp, cEvs2, cEvs, s_nil, s_cons, cAnd, k_andt, k_andf, a_one, a_cons, cOr, k_ort, k_orf, r_one, r_cons, cTru, cTNot, t_not, t_and, t_or, t_ite, t_lit, t_loc, t_cmp, t_attr, t_has, t_idx, t_blt, t_call, t_meth, ta_nil, ta_cons, cTAnd_t, cTAnd_f, to_nil, to_cons, cTOr_t, cTOr_f, cTIte_t, cTIte_f, ti_nil, ti_cons, cTIf_t, cTIf_f, cAsg, x_asg, setT, cMls, x_mls, okSt_s, cSetA2, cSetA, x_setA, cSetI3, cSetI2, cSetI, x_setI, cAug2, cAug_s, x_aug, cApp2, cApp, x_app, cRet, x_ret, x_ite, cIf_t, cIf_f, x_for, body_one, x_try, cTry_ok, cTry_exc, cCatch_s, caught, hit, x_raise, cRaise_s, cRaise_t, x_asrt, cAsrt_t, x_cont, xs_nil, xs_cons, q_next, q_cont, q_ret, f_ret, f_next, run_s, bindGo, bk_nil, cNew_n, get_last, set_last, setF, hasA, vtruth, vb_add, vb_sub, vb_mul, vb_fdiv, vb_mod, vb_bor, vb_band, vb_lst, vb_byt, vb_str, vaug, vcmp, q_nn, q_bb, q_ii, q_ss, q_yy, q_ni, q_in, q_nb, q_bn, q_sy, q_ys, q_ny, q_yn, q_tt, q_ts, q_st, visame, vi_b_bool, vi_b_int, vi_b_str, vi_b_bytes, vi_b_type, vi_i_bool, vi_i_int, vi_i_str, vi_i_bytes, vi_i_type, vi_s_bool, vi_s_int, vi_s_str, vi_s_bytes, vi_s_type, vi_y_bool, vi_y_int, vi_y_str, vi_y_bytes, vi_y_type, vi_n_bool, vi_n_int, vi_n_str, vi_n_bytes, vi_n_type, w_int, w_isinst, w_bytes, w_list, w_str, w_issub, lo_b, lo_l, lo_t, len_b, len_l, len_t, unl, List.lookup, ibeq, lb, forB, nthS, takeS, dropS, f_law, spLate, call_fn fn_within, hw, h]
theorem ph_due {m : Nat} : exs T (callN T (m+8)) (takeS (dropS lb 18) 1) [some scr, some (svs tb), some (il sL), some (.int sL.length), some (.obj 0), some (.int i), some (.int a), some (.int b), some (.int c), some (.int v.n), some (.int q), some (.bytes ex), some (.bytes (127 :: v.id :: q :: ex)), some (.obj j), some (.int e), some (.int z), some (.bool (may v e)), some (.bool (may v e)), some (.str (nameS e)), some (.str (named e)), some (.int y), some (.int (if within z late then 2020 else 2006)), x22, x23] σ =
    .ok (.next, [some scr, some (svs tb), some (il sL), some (.int sL.length), some (.obj 0), some (.int i), some (.int a), some (.int b), some (.int c), some (.int v.n), some (.int q), some (.bytes ex), some (.bytes (127 :: v.id :: q :: ex)), some (.obj j), some (.int e), some (.int z), some (.bool (may v e)), some (.bool (may v e)), some (.str (nameS e)), some (since z y), some (.int y), some (.int (if within z late then 2020 else 2006)), x22, x23]) σ := by
  have hw := p_within z spans (by decide) (m+7) σ
  have hk := known_ok' z
  unfold since
  cases hkn : known z with
  | true =>
    rw [year_ok hkn]
    rw [hkn] at hk
    generalize (if within z late = true then (2020 : Int) else 2006) = f
    by_cases h0 : z = 0
    · simp [b_ok, b_exc, b_bad, o_ok, o_exc, x_v, x_p, x_vn, x_pn, c_ok, of_s, om_s, getL_s, l_0, l_s, e_lit, e_loc, cBin2, cBin, e_bin, e_inv, cInv_i, cCmp2, cCmp, e_cmp, e_and, e_or, cNot, e_not, e_ite, cIte_t, cIte_f, cTup, cLst, e_tup, e_lst, cIdx2, cIdx, e_idx, cSli3, cSli2, cSli, e_sli, cAttr, e_attr, cHas, e_has, cClsOf, e_clsOf, cNameOf, e_nameOf, cCall, e_call, cMeth3, cMeth2, cMeth1_s, cMeth, e_meth, e_blt, k_len, k_len0, k_len1, k_blt, cBltQ, e_bltQ, e_comp, cEvs2, cEvs, s_nil, s_cons, cAnd, k_andt, k_andf, a_one, a_cons, cOr, k_ort, k_orf, r_one, r_cons, cTru, cTNot, t_not, t_and, t_or, t_ite, t_lit, t_loc, t_cmp, t_attr, t_has, t_idx, t_blt, t_call, t_meth, ta_nil, ta_cons, cTAnd_t, cTAnd_f, to_nil, to_cons, cTOr_t, cTOr_f, cTIte_t, cTIte_f, ti_nil, ti_cons, cTIf_t, cTIf_f, cAsg, x_asg, setT, cMls, x_mls, okSt_s, cSetA2, cSetA, x_setA, cSetI3, cSetI2, cSetI, x_setI, cAug2, cAug_s, x_aug, cApp2, cApp, x_app, cRet, x_ret, x_ite, cIf_t, cIf_f, x_for, body_one, x_try, cTry_ok, cTry_exc, cCatch_s, caught, hit, x_raise, cRaise_s, cRaise_t, x_asrt, cAsrt_t, x_cont, xs_nil, xs_cons, q_next, q_cont, q_ret, f_ret, f_next, run_s, bindGo, bk_nil, cNew_n, get_last, set_last, setF, hasA, vtruth, vb_add, vb_sub, vb_mul, vb_fdiv, vb_mod, vb_bor, vb_band, vb_lst, vb_byt, vb_str, vaug, vcmp, q_nn, q_bb, q_ii, q_ss, q_yy, q_ni, q_in, q_nb, q_bn, q_sy, q_ys, q_ny, q_yn, q_tt, q_ts, q_st, visame, vi_b_bool, vi_b_int, vi_b_str, vi_b_bytes, vi_b_type, vi_i_bool, vi_i_int, vi_i_str, vi_i_bytes, vi_i_type, vi_s_bool, vi_s_int, vi_s_str, vi_s_bytes, vi_s_type, vi_y_bool, vi_y_int, vi_y_str, vi_y_bytes, vi_y_type, vi_n_bool, vi_n_int, vi_n_str, vi_n_bytes, vi_n_type, w_int, w_isinst, w_bytes, w_list, w_str, w_issub, lo_b, lo_l, lo_t, len_b, len_l, len_t, unl, List.lookup, ibeq, lb, forB, nthS, takeS, dropS, f_law, spL, call_fn fn_within, hw, h0]
    · have h1 : within z spans = true := by simpa [h0] using hk.symm
      simp [b_ok, b_exc, b_bad, o_ok, o_exc, x_v, x_p, x_vn, x_pn, c_ok, of_s, om_s, getL_s, l_0, l_s, e_lit, e_loc, cBin2, cBin, e_bin, e_inv, cInv_i, cCmp2, cCmp, e_cmp, e_and, e_or, cNot, e_not, e_ite, cIte_t, cIte_f, cTup, cLst, e_tup, e_lst, cIdx2, cIdx, e_idx, cSli3, cSli2, cSli, e_sli, cAttr, e_attr, cHas, e_has, cClsOf, e_clsOf, cNameOf, e_nameOf, cCall, e_call, cMeth3, cMeth2, cMeth1_s, cMeth, e_meth, e_blt, k_len, k_len0, k_len1, k_blt, cBltQ, e_bltQ, e_comp, cEvs2, cEvs, s_nil, s_cons, cAnd, k_andt, k_andf, a_one, a_cons, cOr, k_ort, k_orf, r_one, r_cons, cTru, cTNot, t_not, t_and, t_or, t_ite, t_lit, t_loc, t_cmp, t_attr, t_has, t_idx, t_blt, t_call, t_meth, ta_nil, ta_cons, cTAnd_t, cTAnd_f, to_nil, to_cons, cTOr_t, cTOr_f, cTIte_t, cTIte_f, ti_nil, ti_cons, cTIf_t, cTIf_f, cAsg, x_asg, setT, cMls, x_mls, okSt_s, cSetA2, cSetA, x_setA, cSetI3, cSetI2, cSetI, x_setI, cAug2, cAug_s, x_aug, cApp2, cApp, x_app, cRet, x_ret, x_ite, cIf_t, cIf_f, x_for, body_one, x_try, cTry_ok, cTry_exc, cCatch_s, caught, hit, x_raise, cRaise_s, cRaise_t, x_asrt, cAsrt_t, x_cont, xs_nil, xs_cons, q_next, q_cont, q_ret, f_ret, f_next, run_s, bindGo, bk_nil, cNew_n, get_last, set_last, setF, hasA, vtruth, vb_add, vb_sub, vb_mul, vb_fdiv, vb_mod, vb_bor, vb_band, vb_lst, vb_byt, vb_str, vaug, vcmp, q_nn, q_bb, q_ii, q_ss, q_yy, q_ni, q_in, q_nb, q_bn, q_sy, q_ys, q_ny, q_yn, q_tt, q_ts, q_st, visame, vi_b_bool, vi_b_int, vi_b_str, vi_b_bytes, vi_b_type, vi_i_bool, vi_i_int, vi_i_str, vi_i_bytes, vi_i_type, vi_s_bool, vi_s_int, vi_s_str, vi_s_bytes, vi_s_type, vi_y_bool, vi_y_int, vi_y_str, vi_y_bytes, vi_y_type, vi_n_bool, vi_n_int, vi_n_str, vi_n_bytes, vi_n_type, w_int, w_isinst, w_bytes, w_list, w_str, w_issub, lo_b, lo_l, lo_t, len_b, len_l, len_t, unl, List.lookup, ibeq, lb, forB, nthS, takeS, dropS, f_law, spL, call_fn fn_within, hw, h0, h1]
  | false =>
    rw [hkn] at hk
    generalize (if within z late = true then (2020 : Int) else 2006) = f
    have h0 : ¬ z = 0 := fun q => by rw [q] at hk; simp at hk
    have h1 : within z spans = false := by
      cases h : within z spans with
      | false => rfl
      | true => rw [h] at hk; simp at hk
    simp [b_ok, b_exc, b_bad, o_ok, o_exc, x_v, x_p, x_vn, x_pn, c_ok, of_s, om_s, getL_s, l_0, l_s, e_lit, e_loc, cBin2, cBin, e_bin, e_inv, cInv_i, cCmp2, cCmp, e_cmp, e_and, e_or, cNot, e_not, e_ite, cIte_t, cIte_f, cTup, cLst, e_tup, e_lst, cIdx2, cIdx, e_idx, cSli3, cSli2, cSli, e_sli, cAttr, e_attr, cHas, e_has, cClsOf, e_clsOf, cNameOf, e_nameOf, cCall, e_call, cMeth3, cMeth2, cMeth1_s, cMeth, e_meth, e_blt, k_len, k_len0, k_len1, k_blt, cBltQ, e_bltQ, e_comp, cEvs2, cEvs, s_nil, s_cons, cAnd, k_andt, k_andf, a_one, a_cons, cOr, k_ort, k_orf, r_one, r_cons, cTru, cTNot, t_not, t_and, t_or, t_ite, t_lit, t_loc, t_cmp, t_attr, t_has, t_idx, t_blt, t_call, t_meth, ta_nil, ta_cons, cTAnd_t, cTAnd_f, to_nil, to_cons, cTOr_t, cTOr_f, cTIte_t, cTIte_f, ti_nil, ti_cons, cTIf_t, cTIf_f, cAsg, x_asg, setT, cMls, x_mls, okSt_s, cSetA2, cSetA, x_setA, cSetI3, cSetI2, cSetI, x_setI, cAug2, cAug_s, x_aug, cApp2, cApp, x_app, cRet, x_ret, x_ite, cIf_t, cIf_f, x_for, body_one, x_try, cTry_ok, cTry_exc, cCatch_s, caught, hit, x_raise, cRaise_s, cRaise_t, x_asrt, cAsrt_t, x_cont, xs_nil, xs_cons, q_next, q_cont, q_ret, f_ret, f_next, run_s, bindGo, bk_nil, cNew_n, get_last, set_last, setF, hasA, vtruth, vb_add, vb_sub, vb_mul, vb_fdiv, vb_mod, vb_bor, vb_band, vb_lst, vb_byt, vb_str, vaug, vcmp, q_nn, q_bb, q_ii, q_ss, q_yy, q_ni, q_in, q_nb, q_bn, q_sy, q_ys, q_ny, q_yn, q_tt, q_ts, q_st, visame, vi_b_bool, vi_b_int, vi_b_str, vi_b_bytes, vi_b_type, vi_i_bool, vi_i_int, vi_i_str, vi_i_bytes, vi_i_type, vi_s_bool, vi_s_int, vi_s_str, vi_s_bytes, vi_s_type, vi_y_bool, vi_y_int, vi_y_str, vi_y_bytes, vi_y_type, vi_n_bool, vi_n_int, vi_n_str, vi_n_bytes, vi_n_type, w_int, w_isinst, w_bytes, w_list, w_str, w_issub, lo_b, lo_l, lo_t, len_b, len_l, len_t, unl, List.lookup, ibeq, lb, forB, nthS, takeS, dropS, f_law, spL, call_fn fn_within, hw, h0, h1]
theorem veq_since (z y : Int) : veq (since z y) (since z y) = some true := by
  unfold since
  cases known z
  · simp only [Bool.false_eq_true, if_false, q_ss, beq_self_eq_true]
  · simp only [if_true, q_bb, beq_self_eq_true]
theorem ph_since {m : Nat} (hz : small z = true) : exs T (callN T (m+8)) (dropS lb 19) [some scr, some (svs tb), some (il sL), some (.int sL.length), some (.obj 0), some (.int i), some (.int a), some (.int b), some (.int c), some (.int v.n), some (.int q), some (.bytes ex), some (.bytes (127 :: v.id :: q :: ex)), some (.obj j), some (.int e), some (.int z), some (.bool (may v e)), some (.bool (may v e)), some (.str (nameS e)), some (since z y), some (.int y), some (.int (if within z late then 2020 else 2006)), x22, x23] σ =
    .ok (.next, [some scr, some (svs tb), some (il sL), some (.int sL.length), some (.obj 0), some (.int i), some (.int a), some (.int b), some (.int c), some (.int v.n), some (.int q), some (.bytes ex), some (.bytes (127 :: v.id :: q :: ex)), some (.obj j), some (.int e), some (.int z), some (.bool (may v e)), some (.bool (may v e)), some (.str (nameS e)), some (since z y), some (.int y), some (.int (if within z late then 2020 else 2006)), x22, x23]) σ := by
  have h1 := p_since z y hz (m+6) σ
  have h2 := veq_since z y
  have h3 := p_since_x (Str.ofString "x") (.int y) (m+6) σ
  have h4 := p_since_y 16 (Str.ofString "x") (m+6) σ
  generalize since z y = w at *
  by_cases h5 : Int.fmod a 5 = 1
  · simp [b_ok, b_exc, b_bad, o_ok, o_exc, x_v, x_p, x_vn, x_pn, c_ok, of_s, om_s, getL_s, l_0, l_s, e_lit, e_loc, cBin2, cBin, e_bin, e_inv, cInv_i, cCmp2, cCmp, e_cmp, e_and, e_or, cNot, e_not, e_ite, cIte_t, cIte_f, cTup, cLst, e_tup, e_lst, cIdx2, cIdx, e_idx, cSli3, cSli2, cSli, e_sli, cAttr, e_attr, cHas, e_has, cClsOf, e_clsOf, cNameOf, e_nameOf, cCall, e_call, cMeth3, cMeth2, cMeth1_s, cMeth, e_meth, e_blt, k_len, k_len0, k_len1, k_blt, cBltQ, e_bltQ, e_comp, cEvs2, cEvs, s_nil, s_cons, cAnd, k_andt, k_andf, a_one, a_cons, cOr, k_ort, k_orf, r_one, r_cons, cTru, cTNot, t_not, t_and, t_or, t_ite, t_lit, t_loc, t_cmp, t_attr, t_has, t_idx, t_blt, t_call, t_meth, ta_nil, ta_cons, cTAnd_t, cTAnd_f, to_nil, to_cons, cTOr_t, cTOr_f, cTIte_t, cTIte_f, ti_nil, ti_cons, cTIf_t, cTIf_f, cAsg, x_asg, setT, cMls, x_mls, okSt_s, cSetA2, cSetA, x_setA, cSetI3, cSetI2, cSetI, x_setI, cAug2, cAug_s, x_aug, cApp2, cApp, x_app, cRet, x_ret, x_ite, cIf_t, cIf_f, x_for, body_one, x_try, cTry_ok, cTry_exc, cCatch_s, caught, hit, x_raise, cRaise_s, cRaise_t, x_asrt, cAsrt_t, x_cont, xs_nil, xs_cons, q_next, q_cont, q_ret, f_ret, f_next, run_s, bindGo, bk_nil, cNew_n, get_last, set_last, setF, hasA, vtruth, vb_add, vb_sub, vb_mul, vb_fdiv, vb_mod, vb_bor, vb_band, vb_lst, vb_byt, vb_str, vaug, vcmp, q_nn, q_bb, q_ii, q_ss, q_yy, q_ni, q_in, q_nb, q_bn, q_sy, q_ys, q_ny, q_yn, q_tt, q_ts, q_st, visame, vi_b_bool, vi_b_int, vi_b_str, vi_b_bytes, vi_b_type, vi_i_bool, vi_i_int, vi_i_str, vi_i_bytes, vi_i_type, vi_s_bool, vi_s_int, vi_s_str, vi_s_bytes, vi_s_type, vi_y_bool, vi_y_int, vi_y_str, vi_y_bytes, vi_y_type, vi_n_bool, vi_n_int, vi_n_str, vi_n_bytes, vi_n_type, w_int, w_isinst, w_bytes, w_list, w_str, w_issub, lo_b, lo_l, lo_t, len_b, len_l, len_t, unl, List.lookup, ibeq, lb, forB, nthS, takeS, dropS, f_law, call_fn fn_since, h1, h2, h3, h4, h5]
  · simp [b_ok, b_exc, b_bad, o_ok, o_exc, x_v, x_p, x_vn, x_pn, c_ok, of_s, om_s, getL_s, l_0, l_s, e_lit, e_loc, cBin2, cBin, e_bin, e_inv, cInv_i, cCmp2, cCmp, e_cmp, e_and, e_or, cNot, e_not, e_ite, cIte_t, cIte_f, cTup, cLst, e_tup, e_lst, cIdx2, cIdx, e_idx, cSli3, cSli2, cSli, e_sli, cAttr, e_attr, cHas, e_has, cClsOf, e_clsOf, cNameOf, e_nameOf, cCall, e_call, cMeth3, cMeth2, cMeth1_s, cMeth, e_meth, e_blt, k_len, k_len0, k_len1, k_blt, cBltQ, e_bltQ, e_comp, cEvs2, cEvs, s_nil, s_cons, cAnd, k_andt, k_andf, a_one, a_cons, cOr, k_ort, k_orf, r_one, r_cons, cTru, cTNot, t_not, t_and, t_or, t_ite, t_lit, t_loc, t_cmp, t_attr, t_has, t_idx, t_blt, t_call, t_meth, ta_nil, ta_cons, cTAnd_t, cTAnd_f, to_nil, to_cons, cTOr_t, cTOr_f, cTIte_t, cTIte_f, ti_nil, ti_cons, cTIf_t, cTIf_f, cAsg, x_asg, setT, cMls, x_mls, okSt_s, cSetA2, cSetA, x_setA, cSetI3, cSetI2, cSetI, x_setI, cAug2, cAug_s, x_aug, cApp2, cApp, x_app, cRet, x_ret, x_ite, cIf_t, cIf_f, x_for, body_one, x_try, cTry_ok, cTry_exc, cCatch_s, caught, hit, x_raise, cRaise_s, cRaise_t, x_asrt, cAsrt_t, x_cont, xs_nil, xs_cons, q_next, q_cont, q_ret, f_ret, f_next, run_s, bindGo, bk_nil, cNew_n, get_last, set_last, setF, hasA, vtruth, vb_add, vb_sub, vb_mul, vb_fdiv, vb_mod, vb_bor, vb_band, vb_lst, vb_byt, vb_str, vaug, vcmp, q_nn, q_bb, q_ii, q_ss, q_yy, q_ni, q_in, q_nb, q_bn, q_sy, q_ys, q_ny, q_yn, q_tt, q_ts, q_st, visame, vi_b_bool, vi_b_int, vi_b_str, vi_b_bytes, vi_b_type, vi_i_bool, vi_i_int, vi_i_str, vi_i_bytes, vi_i_type, vi_s_bool, vi_s_int, vi_s_str, vi_s_bytes, vi_s_type, vi_y_bool, vi_y_int, vi_y_str, vi_y_bytes, vi_y_type, vi_n_bool, vi_n_int, vi_n_str, vi_n_bytes, vi_n_type, w_int, w_isinst, w_bytes, w_list, w_str, w_issub, lo_b, lo_l, lo_t, len_b, len_l, len_t, unl, List.lookup, ibeq, lb, forB, nthS, takeS, dropS, f_law, call_fn fn_since, h1, h2, h3, h4, h5]
end
end Mine

namespace Mine
open PySem
/-! law 4: the turn, the loops, the plain law -/
theorem forU {f : V → Loc → St → R (Fl × Loc)} (N : Nat) (I : Nat → Loc → St → Prop) (hf : ∀ n ρ σ, n < N → I n ρ σ → ∃ ρ' σ', I (n+1) ρ' σ' ∧ f (.int n) ρ σ = .ok (.next, ρ') σ') :
    ∀ (k n : Nat) (ρ : Loc) (σ : St), n + k ≤ N → I n ρ σ → ∃ ρ' σ', I (n + k) ρ' σ' ∧ forL f ((upTo n k).map V.int) ρ σ = .ok (.next, ρ') σ'
  | 0, n, ρ, σ, _, h => ⟨ρ, σ, h, rfl⟩
  | k + 1, n, ρ, σ, hN, h => by
    obtain ⟨ρ', σ', h1, h2⟩ := hf n ρ σ (by omega) h
    obtain ⟨ρ'', σ'', h3, h4⟩ := forU N I hf k (n+1) ρ' σ' (by omega) h1
    refine ⟨ρ'', σ'', by rw [show n + (k + 1) = n + 1 + k from by omega]; exact h3, ?_⟩
    rw [upTo, List.map_cons, forL, h2]
    rw [show ((n + 1 : Nat) : Int) = (n : Int) + 1 from by omega] at h4
    exact h4
def Inv (scr : V) (sL : List Int) (n : Nat) (ρ : Loc) (σ : St) : Prop := (∃ x5 x6 x7 x8 x9 x10 x11 x12 x13 x14 x15 x16 x17 x18 x19 x20 x21 x22 x23, ρ = [some scr, some (svs tb), some (il sL), some (.int sL.length), some (.obj 0), x5, x6, x7, x8, x9, x10, x11, x12, x13, x14, x15, x16, x17, x18, x19, x20, x21, x22, x23]) ∧ ∃ L, σ[0]? = some (.mls L) ∧ L.length = 2 * n ∧ ∀ e ∈ L, ∃ c, e = tn c
theorem turn {m : Nat} {scr : V} {sL : List Int} (hL : sL.length ≤ 100) {n : Nat} (hn : n < sL.length) {ρ : Loc} {σ : St} (h : Inv scr sL n ρ σ) : ∃ ρ' σ', Inv scr sL (n+1) ρ' σ' ∧ bodyF T (callN T (m+8)) (.one 5) lb (.int n) ρ σ = .ok (.next, ρ') σ' := by
  obtain ⟨⟨x5, x6, x7, x8, x9, x10, x11, x12, x13, x14, x15, x16, x17, x18, x19, x20, x21, x22, x23, rfl⟩, L, h0, hLn, hE⟩ := h
  rw [body_one]
  simp only [List.set_cons_succ, List.set_cons_zero]
  rw [exs_then 3 (ph_abc (i := (n : Int)) (by omega) (by omega) hL)]
  generalize sL.getD (n : Int).toNat 0 = a
  generalize sL.getD (Int.fmod ((n : Int) + 1) sL.length).toNat 0 = b
  generalize sL.getD (Int.fmod ((n : Int) + 2) sL.length).toNat 0 = c
  obtain ⟨v, hv⟩ := sv_of a
  rw [exs_then 2 (ph_w hv), show dropS (dropS lb 3) 2 = dropS lb 5 from rfl]
  have hq := fm b 256 (by omega)
  generalize Int.fmod b 256 = q at hq
  obtain ⟨ex, ho, hl, e1⟩ := ph_frame (cf := callN T (m+8)) (σ := σ) (scr := scr) (sL := sL) (i := (n : Int)) (a := a) (b := b) (c := c) (q := q) (v := v) (x13 := x13) (x14 := x14) (x15 := x15) (x16 := x16) (x17 := x17) (x18 := x18) (x19 := x19) (x20 := x20) (x21 := x21) (x22 := x22) (x23 := x23) hq
  rw [exs_then 2 e1, show dropS (dropS lb 5) 2 = dropS lb 7 from rfl]
  rw [exs_then 1 (ph_answer hq ho hl), show dropS (dropS lb 7) 1 = dropS lb 8 from rfl]
  have hj : (σ ++ [(ans v q ex).o])[σ.length]? = some (ans v q ex).o := get_last _ _
  have h0' : (σ ++ [(ans v q ex).o])[0]? = some (.mls L) := get_old h0
  rw [exs_then 4 (ph_checks hq hl hj), show dropS (dropS lb 8) 4 = dropS lb 12 from rfl]
  rw [exs_then 1 ph_other, show dropS (dropS lb 12) 1 = dropS lb 13 from rfl]
  have he := fm (b + 7 * c) 361 (by omega)
  have hes : small (Int.fmod (b + 7 * c) 361 - 30) = true := by simp [small]; omega
  generalize Int.fmod (b + 7 * c) 361 - 30 = e at hes
  obtain ⟨σ', e2, hL', hj'⟩ := ph_for (m := m) (σ := σ ++ [(ans v q ex).o]) (scr := scr) (sL := sL) (i := (n : Int)) (a := a) (b := b) (c := c) (q := q) (e := e) (v := v) (ex := ex) (j := σ.length) (x15 := x15) (x16 := x16) (x17 := x17) (x18 := x18) (x19 := x19) (x20 := x20) (x21 := x21) (x22 := x22) (x23 := x23) (small_oct hq) hes hj h0' (by omega)
  rw [exs_then 1 e2, show dropS (dropS lb 13) 1 = dropS lb 14 from rfl]
  rw [exs_then 1 (ph_cn hj' hL' rfl hLn (by omega)), show dropS (dropS lb 14) 1 = dropS lb 15 from rfl]
  obtain ⟨z, hz, e3⟩ := ph_num (cf := callN T (m+8)) (σ := σ') (scr := scr) (sL := sL) (i := (n : Int)) (a := a) (b := b) (c := c) (q := q) (e := e) (v := v) (ex := ex) (j := σ.length) (x20 := x20) (x21 := x21) (x22 := x22) (x23 := x23) (small_oct hq) hes
  rw [exs_then 1 e3, show dropS (dropS lb 15) 1 = dropS lb 16 from rfl]
  rw [exs_then 1 ph_year, show dropS (dropS lb 16) 1 = dropS lb 17 from rfl]
  generalize 2000 + Int.fmod (a + c) 31 = y
  rw [exs_then 1 ph_first, show dropS (dropS lb 17) 1 = dropS lb 18 from rfl]
  rw [exs_then 1 ph_due, show dropS (dropS lb 18) 1 = dropS lb 19 from rfl]
  rw [ph_since hz]
  refine ⟨_, _, ⟨⟨_, _, _, _, _, _, _, _, _, _, _, _, _, _, _, _, _, _, _, rfl⟩, L ++ [tn q, tn e], hL', by simp; omega, fun x hx => ?_⟩, rfl⟩
  rcases List.mem_append.mp hx with hx | hx
  · exact hE x hx
  · simp only [List.mem_cons, List.not_mem_nil, or_false] at hx
    rcases hx with rfl | rfl
    · exact ⟨q, rfl⟩
    · exact ⟨e, rfl⟩
def lb2 : Ss := forB (nthS f_law.body 5)
def lb3 : Ss := forB (nthS lb2 0)
theorem last_in {cf : CF} {scr : V} {sL : List Int} {c d : Int} {ρ : Loc} {σ : St} (h : ∃ x5 x6 x7 x8 x9 x10 x11 x12 x13 x14 x16 x17 x19 x20 x21 x22 x23, ρ = [some scr, some (svs tb), some (il sL), some (.int sL.length), some (.obj 0), x5, x6, x7, x8, x9, x10, x11, x12, x13, x14, some (.int c), x16, x17, some (.str (nameS c)), x19, x20, x21, x22, x23]) : ∃ ρ', (∃ x5 x6 x7 x8 x9 x10 x11 x12 x13 x14 x16 x17 x19 x20 x21 x22 x23, ρ' = [some scr, some (svs tb), some (il sL), some (.int sL.length), some (.obj 0), x5, x6, x7, x8, x9, x10, x11, x12, x13, x14, some (.int c), x16, x17, some (.str (nameS c)), x19, x20, x21, x22, x23]) ∧ bodyF T cf (.many [22, 23]) lb3 (tn d) ρ σ = .ok (.next, ρ') σ := by
  obtain ⟨x5, x6, x7, x8, x9, x10, x11, x12, x13, x14, x16, x17, x19, x20, x21, x22, x23, rfl⟩ := h
  refine ⟨_, ⟨x5, x6, x7, x8, x9, x10, x11, x12, x13, x14, x16, x17, x19, x20, x21, some (.int d), some (.str (nameS d)), rfl⟩, ?_⟩
  unfold tn
  rw [body_two]
  have h1 := name_inj c d
  have h2 : vcmp T .ne (.bool (decide (c = d))) (.bool (decide (c = d))) = some false := by
    rw [vc_neb]; simp
  simp only [List.set_cons_succ, List.set_cons_zero]
  simp only [lb3, lb2, forB, nthS, f_law, b_ok, c_ok, of_s, om_s, getL_s, l_0, l_s, e_lit, e_loc, cCmp2, cCmp, e_cmp, cTru, t_cmp, cRet, x_ret, x_ite, cIf_t, cIf_f, xs_nil, xs_cons, q_next, vtruth, vc_eqi, vc_eqs, h1, h2]
theorem last_out {cf : CF} {scr : V} {sL : List Int} {L : List V} {c : Int} {ρ : Loc} {σ : St} (h0 : σ[0]? = some (.mls L)) (hE : ∀ e ∈ L, ∃ c, e = tn c) (h : ∃ x5 x6 x7 x8 x9 x10 x11 x12 x13 x14 x15 x16 x17 x18 x19 x20 x21 x22 x23, ρ = [some scr, some (svs tb), some (il sL), some (.int sL.length), some (.obj 0), x5, x6, x7, x8, x9, x10, x11, x12, x13, x14, x15, x16, x17, x18, x19, x20, x21, x22, x23]) : ∃ ρ', (∃ x5 x6 x7 x8 x9 x10 x11 x12 x13 x14 x15 x16 x17 x18 x19 x20 x21 x22 x23, ρ' = [some scr, some (svs tb), some (il sL), some (.int sL.length), some (.obj 0), x5, x6, x7, x8, x9, x10, x11, x12, x13, x14, x15, x16, x17, x18, x19, x20, x21, x22, x23]) ∧ bodyF T cf (.many [15, 18]) lb2 (tn c) ρ σ = .ok (.next, ρ') σ := by
  obtain ⟨x5, x6, x7, x8, x9, x10, x11, x12, x13, x14, x15, x16, x17, x18, x19, x20, x21, x22, x23, rfl⟩ := h
  have go := forM_inv (f := bodyF T cf (.many [22, 23]) lb3) (σ := σ) (o := 0) (l := L) (fun ρ => ∃ x5 x6 x7 x8 x9 x10 x11 x12 x13 x14 x16 x17 x19 x20 x21 x22 x23, ρ = [some scr, some (svs tb), some (il sL), some (.int sL.length), some (.obj 0), x5, x6, x7, x8, x9, x10, x11, x12, x13, x14, some (.int c), x16, x17, some (.str (nameS c)), x19, x20, x21, x22, x23]) h0 (fun e he ρ hρ => by
    obtain ⟨d, rfl⟩ := hE e he
    exact last_in hρ) (L.length + 1) 0 [some scr, some (svs tb), some (il sL), some (.int sL.length), some (.obj 0), x5, x6, x7, x8, x9, x10, x11, x12, x13, x14, some (.int c), x16, x17, some (.str (nameS c)), x19, x20, x21, x22, x23] (by omega) ⟨x5, x6, x7, x8, x9, x10, x11, x12, x13, x14, x16, x17, x19, x20, x21, x22, x23, rfl⟩
  obtain ⟨ρ', hρ', hf⟩ := go
  have hk := k_for_mls (T := T) (cf := cf) (ρ := [some scr, some (svs tb), some (il sL), some (.int sL.length), some (.obj 0), x5, x6, x7, x8, x9, x10, x11, x12, x13, x14, some (.int c), x16, x17, some (.str (nameS c)), x19, x20, x21, x22, x23]) (σ := σ) (.many [22, 23]) lb3 0 L h0
  rw [hf] at hk
  obtain ⟨y0, y1, y2, y3, y4, y5, y6, y7, y8, y9, y10, y11, y12, y13, y14, y15, y16, rfl⟩ := hρ'
  refine ⟨_, ⟨y0, y1, y2, y3, y4, y5, y6, y7, y8, y9, some (.int c), y10, y11, some (.str (nameS c)), y12, y13, y14, y15, y16, rfl⟩, ?_⟩
  unfold tn
  rw [body_two]
  simp only [List.set_cons_succ, List.set_cons_zero]
  simp only [lb3, lb2, forB, nthS, f_law] at hk
  simp only [lb2, forB, nthS, f_law, b_ok, getL_s, l_0, l_s, e_loc, x_for, xs_nil, xs_cons, q_next, hk]
theorem add_il3 (a : List Int) (b c d : Int) (h : a.length ≤ 500) : vbin .add (.lst (a.map V.int)) (.lst [.int b, .int c, .int d]) = some (il (a ++ [b, c, d])) := by
  rw [vb_lst, if_pos (roomL _ (by simp; omega))]
  simp [il]
theorem pre_ok {B A : List Int} {scr : V} (hA : A.length ≤ 500) (hsl : vslice scr .none (.int 9) = some (il B))
    (hc : cComp T (callN T 12) (.bin .mod (.loc 24) (.lit (.int 65536))) .nil [some scr, some (svs tb), none, none, none, none, none, none, none, none, none, none, none, none, none, none, none, none, none, none, none, none, none, none] (il B) [] = .ok (.lst (A.map V.int)) []) :
    exs T (callN T 12) (takeS f_law.body 4) [some scr, none, none, none, none, none, none, none, none, none, none, none, none, none, none, none, none, none, none, none, none, none, none, none] [] =
      .ok (.next, [some scr, some (svs tb), some (il (A ++ [5, 128, 14])), some (.int (A ++ [5, 128, 14]).length), some (.obj 0), none, none, none, none, none, none, none, none, none, none, none, none, none, none, none, none, none, none, none]) [.mls []] := by
  have hl := len_il [] (A ++ [5, 128, 14]) (by simp; omega)
  generalize hz : (A ++ [5, 128, 14]) = Z at *
  have ha : vbin .add (.lst (A.map V.int)) (.lst [.int 5, .int 128, .int 14]) = some (il Z) := by rw [add_il3 A 5 128 14 hA, hz]
  simp [b_ok, b_exc, b_bad, o_ok, o_exc, x_v, x_p, x_vn, x_pn, c_ok, of_s, om_s, getL_s, l_0, l_s, e_lit, e_loc, cBin2, cBin, e_bin, e_inv, cInv_i, cCmp2, cCmp, e_cmp, e_and, e_or, cNot, e_not, e_ite, cIte_t, cIte_f, cTup, cLst, e_tup, e_lst, cIdx2, cIdx, e_idx, cSli3, cSli2, cSli, e_sli, cAttr, e_attr, cHas, e_has, cClsOf, e_clsOf, cNameOf, e_nameOf, cCall, e_call, cMeth3, cMeth2, cMeth1_s, cMeth, e_meth, e_blt, k_len, k_len0, k_len1, k_blt, cBltQ, e_bltQ, e_comp, cEvs2, cEvs, s_nil, s_cons, cAnd, k_andt, k_andf, a_one, a_cons, cOr, k_ort, k_orf, r_one, r_cons, cTru, cTNot, t_not, t_and, t_or, t_ite, t_lit, t_loc, t_cmp, t_attr, t_has, t_idx, t_blt, t_call, t_meth, ta_nil, ta_cons, cTAnd_t, cTAnd_f, to_nil, to_cons, cTOr_t, cTOr_f, cTIte_t, cTIte_f, ti_nil, ti_cons, cTIf_t, cTIf_f, cAsg, x_asg, setT, cMls, x_mls, okSt_s, cSetA2, cSetA, x_setA, cSetI3, cSetI2, cSetI, x_setI, cAug2, cAug_s, x_aug, cApp2, cApp, x_app, cRet, x_ret, x_ite, cIf_t, cIf_f, x_for, body_one, x_try, cTry_ok, cTry_exc, cCatch_s, caught, hit, x_raise, cRaise_s, cRaise_t, x_asrt, cAsrt_t, x_cont, xs_nil, xs_cons, q_next, q_cont, q_ret, f_ret, f_next, run_s, bindGo, bk_nil, cNew_n, get_last, set_last, setF, hasA, vtruth, vb_add, vb_sub, vb_mul, vb_fdiv, vb_mod, vb_bor, vb_band, vb_lst, vb_byt, vb_str, vaug, vcmp, q_nn, q_bb, q_ii, q_ss, q_yy, q_ni, q_in, q_nb, q_bn, q_sy, q_ys, q_ny, q_yn, q_tt, q_ts, q_st, visame, vi_b_bool, vi_b_int, vi_b_str, vi_b_bytes, vi_b_type, vi_i_bool, vi_i_int, vi_i_str, vi_i_bytes, vi_i_type, vi_s_bool, vi_s_int, vi_s_str, vi_s_bytes, vi_s_type, vi_y_bool, vi_y_int, vi_y_str, vi_y_bytes, vi_y_type, vi_n_bool, vi_n_int, vi_n_str, vi_n_bytes, vi_n_type, w_int, w_isinst, w_bytes, w_list, w_str, w_issub, lo_b, lo_l, lo_t, len_b, len_l, len_t, unl, List.lookup, ibeq, takeS, f_law, tbl, hsl, hc, ha, lo_il, hl]
theorem H4 (script : List Int) (hs : script.length ≤ 63) : ∃ ρ' σ', exs T (callN T 12) f_law.body (some (.lst (script.map V.int)) :: List.replicate (f_law.nl - 1) none) [] = .ok (.ret (.bool true), ρ') σ' := by
  have hsl : vslice (il script) .none (.int 9) = some (il (script.take 9)) := sli_to' script 9 (by omega)
  have hcomp : cComp T (callN T 12) (.bin .mod (.loc 24) (.lit (.int 65536))) .nil [some (il script), some (svs tb), none, none, none, none, none, none, none, none, none, none, none, none, none, none, none, none, none, none, none, none, none, none] (il (script.take 9)) [] = .ok (.lst (((script.take 9).map fun x => Int.fmod x 65536).map V.int)) [] := by
    show cComp1 T _ _ .nil _ _ (some ((script.take 9).map V.int)) = _
    rw [k_comp _ _ _ _ (roomL _ (by simp; omega)), compL_map (h := fun x => V.int (Int.fmod x 65536)) (fun v => compP_nil _ _ _) (fun v => ?_)]
    · rw [List.nil_append, List.map_map]; rfl
    · unfold compF
      simp [b_ok, b_exc, b_bad, o_ok, o_exc, x_v, x_p, x_vn, x_pn, c_ok, of_s, om_s, getL_s, l_0, l_s, e_lit, e_loc, cBin2, cBin, e_bin, e_inv, cInv_i, cCmp2, cCmp, e_cmp, e_and, e_or, cNot, e_not, e_ite, cIte_t, cIte_f, cTup, cLst, e_tup, e_lst, cIdx2, cIdx, e_idx, cSli3, cSli2, cSli, e_sli, cAttr, e_attr, cHas, e_has, cClsOf, e_clsOf, cNameOf, e_nameOf, cCall, e_call, cMeth3, cMeth2, cMeth1_s, cMeth, e_meth, e_blt, k_len, k_len0, k_len1, k_blt, cBltQ, e_bltQ, e_comp, cEvs2, cEvs, s_nil, s_cons, cAnd, k_andt, k_andf, a_one, a_cons, cOr, k_ort, k_orf, r_one, r_cons, cTru, cTNot, t_not, t_and, t_or, t_ite, t_lit, t_loc, t_cmp, t_attr, t_has, t_idx, t_blt, t_call, t_meth, ta_nil, ta_cons, cTAnd_t, cTAnd_f, to_nil, to_cons, cTOr_t, cTOr_f, cTIte_t, cTIte_f, ti_nil, ti_cons, cTIf_t, cTIf_f, cAsg, x_asg, setT, cMls, x_mls, okSt_s, cSetA2, cSetA, x_setA, cSetI3, cSetI2, cSetI, x_setI, cAug2, cAug_s, x_aug, cApp2, cApp, x_app, cRet, x_ret, x_ite, cIf_t, cIf_f, x_for, body_one, x_try, cTry_ok, cTry_exc, cCatch_s, caught, hit, x_raise, cRaise_s, cRaise_t, x_asrt, cAsrt_t, x_cont, xs_nil, xs_cons, q_next, q_cont, q_ret, f_ret, f_next, run_s, bindGo, bk_nil, cNew_n, get_last, set_last, setF, hasA, vtruth, vb_add, vb_sub, vb_mul, vb_fdiv, vb_mod, vb_bor, vb_band, vb_lst, vb_byt, vb_str, vaug, vcmp, q_nn, q_bb, q_ii, q_ss, q_yy, q_ni, q_in, q_nb, q_bn, q_sy, q_ys, q_ny, q_yn, q_tt, q_ts, q_st, visame, vi_b_bool, vi_b_int, vi_b_str, vi_b_bytes, vi_b_type, vi_i_bool, vi_i_int, vi_i_str, vi_i_bytes, vi_i_type, vi_s_bool, vi_s_int, vi_s_str, vi_s_bytes, vi_s_type, vi_y_bool, vi_y_int, vi_y_str, vi_y_bytes, vi_y_type, vi_n_bool, vi_n_int, vi_n_str, vi_n_bytes, vi_n_type, w_int, w_isinst, w_bytes, w_list, w_str, w_issub, lo_b, lo_l, lo_t, len_b, len_l, len_t, unl, List.lookup, ibeq]
  have hA : ((script.take 9).map fun x => Int.fmod x 65536).length ≤ 9 := by simp; omega
  generalize (script.take 9).map (fun x => Int.fmod x 65536) = A at hcomp hA
  show ∃ ρ' σ', exs T (callN T 12) f_law.body [some (il script), none, none, none, none, none, none, none, none, none, none, none, none, none, none, none, none, none, none, none, none, none, none, none] [] = .ok (.ret (.bool true), ρ') σ'
  rw [exs_then 4 (pre_ok (by omega) hsl hcomp)]
  have hZ : (A ++ [5, 128, 14]).length ≤ 100 := by simp; omega
  generalize (A ++ [5, 128, 14]) = Z at hZ
  have hspan : (span 0 (Z.length : Int)) = upTo ((0 : Nat) : Int) Z.length := by unfold span; rw [show ((Z.length : Int) - 0).toNat = Z.length from by omega]; rfl
  obtain ⟨ρ₁, σ₁, hI, h1⟩ := forU (f := bodyF T (callN T (4+8)) (.one 5) lb) Z.length (fun n ρ σ => Inv (il script) Z n ρ σ) (fun n ρ σ hn h => turn hZ hn h) Z.length 0 [some (il script), some (svs tb), some (il Z), some (.int Z.length), some (.obj 0), none, none, none, none, none, none, none, none, none, none, none, none, none, none, none, none, none, none, none] [.mls []] (by omega) ⟨⟨_, _, _, _, _, _, _, _, _, _, _, _, _, _, _, _, _, _, _, rfl⟩, [], rfl, rfl, fun e he => nomatch he⟩
  obtain ⟨hρ, L, h0, hLn, hE⟩ := hI
  have hrng : exs T (callN T 12) (takeS (dropS f_law.body 4) 1) [some (il script), some (svs tb), some (il Z), some (.int Z.length), some (.obj 0), none, none, none, none, none, none, none, none, none, none, none, none, none, none, none, none, none, none, none] [.mls []] = .ok (.next, ρ₁) σ₁ := by
    have hsm : small (Z.length : Int) = true := by simp [small]; omega
    have hw : vblt T [AO.mls []] .range [.int Z.length] = .ok (.rng 0 Z.length) [AO.mls []] := by
      show (if _ then _ else _) = _
      rw [if_pos hsm]
    have hf := k_for_rng (T := T) (cf := callN T 12) (ρ := [some (il script), some (svs tb), some (il Z), some (.int Z.length), some (.obj 0), none, none, none, none, none, none, none, none, none, none, none, none, none, none, none, none, none, none, none]) (σ := [AO.mls []]) (.one 5) lb 0 Z.length (roomL _ (by rw [List.length_map, hspan, len_upTo]; omega))
    rw [hspan, h1] at hf
    simp only [lb, forB, nthS, f_law] at hf
    simp [b_ok, b_exc, b_bad, o_ok, o_exc, x_v, x_p, x_vn, x_pn, c_ok, of_s, om_s, getL_s, l_0, l_s, e_lit, e_loc, cBin2, cBin, e_bin, e_inv, cInv_i, cCmp2, cCmp, e_cmp, e_and, e_or, cNot, e_not, e_ite, cIte_t, cIte_f, cTup, cLst, e_tup, e_lst, cIdx2, cIdx, e_idx, cSli3, cSli2, cSli, e_sli, cAttr, e_attr, cHas, e_has, cClsOf, e_clsOf, cNameOf, e_nameOf, cCall, e_call, cMeth3, cMeth2, cMeth1_s, cMeth, e_meth, e_blt, k_len, k_len0, k_len1, k_blt, cBltQ, e_bltQ, e_comp, cEvs2, cEvs, s_nil, s_cons, cAnd, k_andt, k_andf, a_one, a_cons, cOr, k_ort, k_orf, r_one, r_cons, cTru, cTNot, t_not, t_and, t_or, t_ite, t_lit, t_loc, t_cmp, t_attr, t_has, t_idx, t_blt, t_call, t_meth, ta_nil, ta_cons, cTAnd_t, cTAnd_f, to_nil, to_cons, cTOr_t, cTOr_f, cTIte_t, cTIte_f, ti_nil, ti_cons, cTIf_t, cTIf_f, cAsg, x_asg, setT, cMls, x_mls, okSt_s, cSetA2, cSetA, x_setA, cSetI3, cSetI2, cSetI, x_setI, cAug2, cAug_s, x_aug, cApp2, cApp, x_app, cRet, x_ret, x_ite, cIf_t, cIf_f, x_for, body_one, x_try, cTry_ok, cTry_exc, cCatch_s, caught, hit, x_raise, cRaise_s, cRaise_t, x_asrt, cAsrt_t, x_cont, xs_nil, xs_cons, q_next, q_cont, q_ret, f_ret, f_next, run_s, bindGo, bk_nil, cNew_n, get_last, set_last, setF, hasA, vtruth, vb_add, vb_sub, vb_mul, vb_fdiv, vb_mod, vb_bor, vb_band, vb_lst, vb_byt, vb_str, vaug, vcmp, q_nn, q_bb, q_ii, q_ss, q_yy, q_ni, q_in, q_nb, q_bn, q_sy, q_ys, q_ny, q_yn, q_tt, q_ts, q_st, visame, vi_b_bool, vi_b_int, vi_b_str, vi_b_bytes, vi_b_type, vi_i_bool, vi_i_int, vi_i_str, vi_i_bytes, vi_i_type, vi_s_bool, vi_s_int, vi_s_str, vi_s_bytes, vi_s_type, vi_y_bool, vi_y_int, vi_y_str, vi_y_bytes, vi_y_type, vi_n_bool, vi_n_int, vi_n_str, vi_n_bytes, vi_n_type, w_int, w_isinst, w_bytes, w_list, w_str, w_issub, lo_b, lo_l, lo_t, len_b, len_l, len_t, unl, List.lookup, ibeq, takeS, dropS, f_law, hw, hf]
  rw [exs_then 1 hrng, show dropS (dropS f_law.body 4) 1 = dropS f_law.body 5 from rfl]
  obtain ⟨ρ₂, hρ₂, h2⟩ := forM_inv (f := bodyF T (callN T 12) (.many [15, 18]) lb2) (fun ρ => ∃ x5 x6 x7 x8 x9 x10 x11 x12 x13 x14 x15 x16 x17 x18 x19 x20 x21 x22 x23, ρ = [some (il script), some (svs tb), some (il Z), some (.int Z.length), some (.obj 0), x5, x6, x7, x8, x9, x10, x11, x12, x13, x14, x15, x16, x17, x18, x19, x20, x21, x22, x23]) h0 (fun v hv ρ h => by
    obtain ⟨c, rfl⟩ := hE v hv
    exact last_out h0 hE h) (L.length + 1) 0 ρ₁ (by omega) hρ
  obtain ⟨x5, x6, x7, x8, x9, x10, x11, x12, x13, x14, x15, x16, x17, x18, x19, x20, x21, x22, x23, rfl⟩ := hρ
  have hf2 := k_for_mls (T := T) (cf := callN T 12) (ρ := [some (il script), some (svs tb), some (il Z), some (.int Z.length), some (.obj 0), x5, x6, x7, x8, x9, x10, x11, x12, x13, x14, x15, x16, x17, x18, x19, x20, x21, x22, x23]) (σ := σ₁) (.many [15, 18]) lb2 0 L h0
  rw [h2] at hf2
  simp only [lb2, forB, nthS, f_law] at hf2
  refine ⟨ρ₂, σ₁, ?_⟩
  simp [b_ok, b_exc, b_bad, o_ok, o_exc, x_v, x_p, x_vn, x_pn, c_ok, of_s, om_s, getL_s, l_0, l_s, e_lit, e_loc, cBin2, cBin, e_bin, e_inv, cInv_i, cCmp2, cCmp, e_cmp, e_and, e_or, cNot, e_not, e_ite, cIte_t, cIte_f, cTup, cLst, e_tup, e_lst, cIdx2, cIdx, e_idx, cSli3, cSli2, cSli, e_sli, cAttr, e_attr, cHas, e_has, cClsOf, e_clsOf, cNameOf, e_nameOf, cCall, e_call, cMeth3, cMeth2, cMeth1_s, cMeth, e_meth, e_blt, k_len, k_len0, k_len1, k_blt, cBltQ, e_bltQ, e_comp, cEvs2, cEvs, s_nil, s_cons, cAnd, k_andt, k_andf, a_one, a_cons, cOr, k_ort, k_orf, r_one, r_cons, cTru, cTNot, t_not, t_and, t_or, t_ite, t_lit, t_loc, t_cmp, t_attr, t_has, t_idx, t_blt, t_call, t_meth, ta_nil, ta_cons, cTAnd_t, cTAnd_f, to_nil, to_cons, cTOr_t, cTOr_f, cTIte_t, cTIte_f, ti_nil, ti_cons, cTIf_t, cTIf_f, cAsg, x_asg, setT, cMls, x_mls, okSt_s, cSetA2, cSetA, x_setA, cSetI3, cSetI2, cSetI, x_setI, cAug2, cAug_s, x_aug, cApp2, cApp, x_app, cRet, x_ret, x_ite, cIf_t, cIf_f, x_for, body_one, x_try, cTry_ok, cTry_exc, cCatch_s, caught, hit, x_raise, cRaise_s, cRaise_t, x_asrt, cAsrt_t, x_cont, xs_nil, xs_cons, q_next, q_cont, q_ret, f_ret, f_next, run_s, bindGo, bk_nil, cNew_n, get_last, set_last, setF, hasA, vtruth, vb_add, vb_sub, vb_mul, vb_fdiv, vb_mod, vb_bor, vb_band, vb_lst, vb_byt, vb_str, vaug, vcmp, q_nn, q_bb, q_ii, q_ss, q_yy, q_ni, q_in, q_nb, q_bn, q_sy, q_ys, q_ny, q_yn, q_tt, q_ts, q_st, visame, vi_b_bool, vi_b_int, vi_b_str, vi_b_bytes, vi_b_type, vi_i_bool, vi_i_int, vi_i_str, vi_i_bytes, vi_i_type, vi_s_bool, vi_s_int, vi_s_str, vi_s_bytes, vi_s_type, vi_y_bool, vi_y_int, vi_y_str, vi_y_bytes, vi_y_type, vi_n_bool, vi_n_int, vi_n_str, vi_n_bytes, vi_n_type, w_int, w_isinst, w_bytes, w_list, w_str, w_issub, lo_b, lo_l, lo_t, len_b, len_l, len_t, unl, List.lookup, ibeq, dropS, f_law, hf2]
end Mine

namespace Mine.hd
def tw9004152026720179330 : Unit := ()
def tw14015909994521340511 : Unit := ()
def tw4190029591869429352 : Unit := ()
def tw546849290413069935 : Unit := ()
def tw3087839972623345592 : Unit := ()
def tw4228232961094324005 : Unit := ()
def tw3701269116315151894 : Unit := ()
def tw10084341405910041544 : Unit := ()
def tw7928895219064977999 : Unit := ()
def tw9018831573092110256 : Unit := ()
def tw2025544915355626295 : Unit := ()
def tw4082835657187024401 : Unit := ()
def tw17005810275401276282 : Unit := ()
def tw9013388210190529773 : Unit := ()
def tw10351202340386048777 : Unit := ()
def tw7615569780526240018 : Unit := ()
def tw3786430491256914623 : Unit := ()
def tw180250358704556663 : Unit := ()
def tw14182229006566876298 : Unit := ()
def tw13437302318768402701 : Unit := ()
def tw6329026251626060993 : Unit := ()
def tw11611254532205267744 : Unit := ()
def tw15890378047532165470 : Unit := ()
def tw12605945284095218330 : Unit := ()
def tw7816577550770918932 : Unit := ()
def tw18365316880180530911 : Unit := ()
def tw14511892006539256324 : Unit := ()
def tw2433896429465211905 : Unit := ()
def tw4269090493497326775 : Unit := ()
def tw16265876889757901814 : Unit := ()
def tw2287538903915706968 : Unit := ()
def tw5774194578861674302 : Unit := ()
def tw7817076514286800858 : Unit := ()
def tw5255129649276563380 : Unit := ()
def tw11825125669949760198 : Unit := ()
def tw13203070781363026996 : Unit := ()
def tw5789966658648311818 : Unit := ()
def tw16020767089813251324 : Unit := ()
def tw11601021388043426607 : Unit := ()
def tw7991616584573983765 : Unit := ()
def tw6911536046886962085 : Unit := ()
def tw2714041021682017941 : Unit := ()
def tw14854111194947513741 : Unit := ()
def tw18329537563038834521 : Unit := ()
def tw10961692224320415784 : Unit := ()
def tw14470715104583439021 : Unit := ()
def tw8900704765297303300 : Unit := ()
def tw13250348803186406453 : Unit := ()
def tw5093118826074036667 : Unit := ()
def tw3578233752703307132 : Unit := ()
def tw16012758752848043837 : Unit := ()
def tw882569935641713534 : Unit := ()
def tw13482609890046062014 : Unit := ()
def tw5960554456566553001 : Unit := ()
def tw17254167314142363673 : Unit := ()
def tw2903450573484250672 : Unit := ()
def tw6116689665211724099 : Unit := ()
def tw13756048793227407314 : Unit := ()
def tw8757026097133523720 : Unit := ()
def tw17136497758984944912 : Unit := ()
def tw17891891396850662092 : Unit := ()
def tw11403871683150891113 : Unit := ()
def tw1957969224413487246 : Unit := ()
def tw13222567847904503868 : Unit := ()
def tw8511861463442490502 : Unit := ()
def tw17633055489366247791 : Unit := ()
def tw4674101444737127339 : Unit := ()
def tw16802672201638887498 : Unit := ()
def tw8381206215396838099 : Unit := ()
def tw5023010453998631303 : Unit := ()
def tw2119361713864775818 : Unit := ()
def tw2113738893080072749 : Unit := ()
def tw17985884188601790547 : Unit := ()
def tw15492074433999234093 : Unit := ()
def tw10097655064532363812 : Unit := ()
def tw14268935582663976050 : Unit := ()
def tw16996915472630922493 : Unit := ()
def tw10727248033764811480 : Unit := ()
def tw8932379737872766869 : Unit := ()
def tw7840326933701101316 : Unit := ()
def tw393878600970922202 : Unit := ()
def tw17565088757675015639 : Unit := ()
def tw1373435975965715303 : Unit := ()
def tw5289860390075091350 : Unit := ()
def tw6174276253857804227 : Unit := ()
def tw17801557936811229922 : Unit := ()
def tw11315326830828617562 : Unit := ()
def tw13613514774524669350 : Unit := ()
def tw15837808822205442426 : Unit := ()
def tw7804506494952869521 : Unit := ()
def tw12963625248745546125 : Unit := ()
def tw8732188552807035984 : Unit := ()
def tw443574899657153147 : Unit := ()
def tw14727110085682223627 : Unit := ()
def tw7294075314067506599 : Unit := ()
def tw3350844169311001129 : Unit := ()
def tw3673089383077640791 : Unit := ()
def tw7341446936096073017 : Unit := ()
def tw464777395874653626 : Unit := ()
def tw16797087567981958157 : Unit := ()
def tw1353933474123613458 : Unit := ()
def tw5827460560813165371 : Unit := ()
def tw17316778381555349529 : Unit := ()
def tw15942758641608750438 : Unit := ()
def tw9582238327629474750 : Unit := ()
def tw1328441176631391577 : Unit := ()
def tw9623886841239527219 : Unit := ()
def tw4891967159121764437 : Unit := ()
def tw6564418779218607436 : Unit := ()
def tw15147031407603920564 : Unit := ()
def tw13515867656399454236 : Unit := ()
def tw16479911357150541194 : Unit := ()
def tw2641799114124571417 : Unit := ()
def tw2674237358095579387 : Unit := ()
def tw16970122242302032192 : Unit := ()
def tw14428166223498887604 : Unit := ()
def tw13514359493905995313 : Unit := ()
def tw6233125575255722671 : Unit := ()
def tw9918788798289627436 : Unit := ()
def tw7012772348997790671 : Unit := ()
def tw11149407913341048200 : Unit := ()
def tw482338936835181299 : Unit := ()
def tw6726342588429418155 : Unit := ()
def tw1629875756585949484 : Unit := ()
def tw1878737405954674963 : Unit := ()
def tw10616191873726401345 : Unit := ()
def tw1452929260906041252 : Unit := ()
def tw10293343138410793649 : Unit := ()
def tw18271122033195421345 : Unit := ()
def tw139560125970790157 : Unit := ()
def tw2711891404203595365 : Unit := ()
def tw2232063844517802892 : Unit := ()
def tw1505947169401259447 : Unit := ()
def tw9128974338122982648 : Unit := ()
def tw361874862225718299 : Unit := ()
def tw3290049930286045153 : Unit := ()
def tw16353284522026333675 : Unit := ()
def tw16799317314342211293 : Unit := ()
def tw11334062482582688307 : Unit := ()
def tw7762615721169606023 : Unit := ()
def tw2444328922836773594 : Unit := ()
def tw3462702350737211693 : Unit := ()
def tw15014912738361607707 : Unit := ()
def tw3020821785867171217 : Unit := ()
def tw15779803642129426244 : Unit := ()
def tw9799524031424448615 : Unit := ()
def tw3895155069099318072 : Unit := ()
def tw701251727300343745 : Unit := ()
def tw14346525914970070588 : Unit := ()
def tw1673930711015175961 : Unit := ()
def tw1869635642477389258 : Unit := ()
def tw5201384275714778543 : Unit := ()
def tw10957212852122400357 : Unit := ()
def tw10849272910044215975 : Unit := ()
def tw1778080364554679531 : Unit := ()
def tw8848264031932549635 : Unit := ()
def tw11158734012529747993 : Unit := ()
def tw15180620607861819605 : Unit := ()
def tw1837858325275280287 : Unit := ()
def tw1554215534184937751 : Unit := ()
def tw3356348503547310380 : Unit := ()
def tw701957132916908730 : Unit := ()
def tw1518305811592690382 : Unit := ()
def tw11228292238239915703 : Unit := ()
def tw14294344414604881677 : Unit := ()
def tw9488414504988203351 : Unit := ()
def tw8324504678176258764 : Unit := ()
def tw12799359030073662813 : Unit := ()
def tw13402062226832612404 : Unit := ()
def tw268283402221611258 : Unit := ()
def tw5355321495217300903 : Unit := ()
def tw17469800364647435590 : Unit := ()
def tw8764295480008022083 : Unit := ()
def tw11581226680782681208 : Unit := ()
def tw8105295227477018077 : Unit := ()
def tw10483735573607032671 : Unit := ()
def tw6231332230080974397 : Unit := ()
def tw16146668399337416215 : Unit := ()
def tw15238134620097496406 : Unit := ()
def tw2404042015088455216 : Unit := ()
def tw221497870779424605 : Unit := ()
def tw3911142488494284809 : Unit := ()
def tw2815220025927836654 : Unit := ()
def tw428602275181503728 : Unit := ()
def tw4218054939716304509 : Unit := ()
def tw12823844012656133503 : Unit := ()
def tw7943647380988272828 : Unit := ()
def tw12508083217039251230 : Unit := ()
def tw8244750085871347745 : Unit := ()
def tw8459264734319271496 : Unit := ()
def tw6116078890732820446 : Unit := ()
def tw15513954506232059405 : Unit := ()
def tw11869253278440568778 : Unit := ()
def tw7983671191443676847 : Unit := ()
def tw8683769744966906989 : Unit := ()
def tw8885608514882205507 : Unit := ()
def tw2605216425844631887 : Unit := ()
def tw9469884520372928956 : Unit := ()
def tw3026753882482905222 : Unit := ()
def tw7126743418576285828 : Unit := ()
def tw2701402951725559080 : Unit := ()
def tw2814427579268633157 : Unit := ()
def tw6529707622633924500 : Unit := ()
def tw2779717908032135707 : Unit := ()
def tw7752216883906862206 : Unit := ()
def tw2165774394141344270 : Unit := ()
def tw9014375795449043846 : Unit := ()
def tw15080880326476981911 : Unit := ()
def tw14708807125848044605 : Unit := ()
def tw14672667230348187957 : Unit := ()
def tw10522781889535271158 : Unit := ()
def tw10781749900435386218 : Unit := ()
def tw5688689073270430877 : Unit := ()
def tw15093861674599402780 : Unit := ()
def tw17413551345404909392 : Unit := ()
def tw13883411176795829080 : Unit := ()
def tw1017328040139425936 : Unit := ()
def tw1341361625714400615 : Unit := ()
def tw11715181796007767841 : Unit := ()
def tw9280972027756841722 : Unit := ()
def tw4425926697756232486 : Unit := ()
def tw12362481682523951071 : Unit := ()
def tw13133211045375063716 : Unit := ()
def tw16504857702413748742 : Unit := ()
def tw14052039701678915610 : Unit := ()
def tw1879074797912537156 : Unit := ()
def tw16301706205554447908 : Unit := ()
def tw1617572545051087979 : Unit := ()
def tw2276098100821748038 : Unit := ()
def tw3542195639804623556 : Unit := ()
def tw17387984336315359219 : Unit := ()
def tw10912810938377935195 : Unit := ()
def tw15955140184888088701 : Unit := ()
def tw1197292309560684901 : Unit := ()
def tw14091984216438838776 : Unit := ()
def tw6581865421942667071 : Unit := ()
def tw515116654868589033 : Unit := ()
def tw6268580003633785543 : Unit := ()
def tw3301654171414802437 : Unit := ()
def tw17187782598700532200 : Unit := ()
def tw6279134481916445100 : Unit := ()
def tw4117167882892783384 : Unit := ()
def tw13723031510162244379 : Unit := ()
def tw1560648209693349877 : Unit := ()
def tw12970310613348327589 : Unit := ()
def tw11991855367823623124 : Unit := ()
def tw15539972788704006969 : Unit := ()
def tw2272632649587894275 : Unit := ()
def tw7269190750281295013 : Unit := ()
def tw1005990825517874861 : Unit := ()
def tw10737712728331077403 : Unit := ()
def tw9520637311627488914 : Unit := ()
def tw10779200252408728858 : Unit := ()
def tw2000059445049104804 : Unit := ()
def tw4467709538675631592 : Unit := ()
def tw15588184763159101869 : Unit := ()
def tw14310624532144728618 : Unit := ()
def tw16175842269887989526 : Unit := ()
def tw7822882547125802209 : Unit := ()
def tw11486557690684935972 : Unit := ()
def tw10361463201686427433 : Unit := ()
def tw9251897876830613752 : Unit := ()
def tw6820112392323778065 : Unit := ()
def tw4508914634660617185 : Unit := ()
def tw2497886572913372520 : Unit := ()
def tw7085923850786031542 : Unit := ()
def tw4535880929033905797 : Unit := ()
def tw8656885645692614526 : Unit := ()
def tw7184745663730752293 : Unit := ()
def tw16013645534020725072 : Unit := ()
def tw740920337575284248 : Unit := ()
def tw6921042755253150340 : Unit := ()
def tw2483235414948986876 : Unit := ()
def tw9744805664503756899 : Unit := ()
def tw3410444493855829464 : Unit := ()
def tw15079378872190493122 : Unit := ()
def tw525622484199402719 : Unit := ()
def tw18314715711874384947 : Unit := ()
def tw11026324117731225655 : Unit := ()
def tw14316441754711083904 : Unit := ()
def tw13599939671180243173 : Unit := ()
def tw559745845254224937 : Unit := ()
def tw11619667482565300699 : Unit := ()
def tw2245329025017929209 : Unit := ()
def tw4233181963852624665 : Unit := ()
def tw7328306158947201177 : Unit := ()
def tw15298718440444336668 : Unit := ()
def tw10052369107061984745 : Unit := ()
def tw4585743438046781466 : Unit := ()
def tw14673372122242918477 : Unit := ()
def tw8974332556005633416 : Unit := ()
def tw1198659119484318754 : Unit := ()
def tw3782262067481160510 : Unit := ()
def tw15632534501145112460 : Unit := ()
def tw5745151349083500127 : Unit := ()
def tw15107870816482449019 : Unit := ()
def tw1678445128465124528 : Unit := ()
def tw6180860399203207088 : Unit := ()
def tw7062935652884303519 : Unit := ()
def tw17021755576493616759 : Unit := ()
def tw7854111351294004744 : Unit := ()
def tw1569256427920914881 : Unit := ()
def tw2463646050095909150 : Unit := ()
def tw2586763669115774464 : Unit := ()
def tw3846061349045661252 : Unit := ()
def tw44455169121510197 : Unit := ()
def tw18414764529967284870 : Unit := ()
def tw2305337028012788072 : Unit := ()
def tw16781597205703756006 : Unit := ()
def tw3628622382460026184 : Unit := ()
def tw244737055928404615 : Unit := ()
def tw11925406488590660725 : Unit := ()
def tw15665482370847157851 : Unit := ()
def tw4193794528909263259 : Unit := ()
def tw4185656317496899905 : Unit := ()
def tw13330636643319131320 : Unit := ()
def tw6756286927057158279 : Unit := ()
def tw9527588689944665934 : Unit := ()
def tw1654005544900583800 : Unit := ()
def tw11780462410004769752 : Unit := ()
def tw2617190388676272812 : Unit := ()
def tw1187088749090362574 : Unit := ()
def tw265207839604002054 : Unit := ()
def tw617338062233584031 : Unit := ()
def tw8118217656686572654 : Unit := ()
def tw13296096977655599598 : Unit := ()
def tw16967832588854946220 : Unit := ()
def tw15657074554936405744 : Unit := ()
def tw17740048764370220076 : Unit := ()
def tw3989033064712381228 : Unit := ()
def tw18213853141812975785 : Unit := ()
def tw511226430569429703 : Unit := ()
def tw18351126306069267617 : Unit := ()
def tw4877248633479823271 : Unit := ()
def tw8674980644004459391 : Unit := ()
def tw16893678948864407533 : Unit := ()
def tw9724358948501437256 : Unit := ()
def tw7939649692498130589 : Unit := ()
def tw10655696196156170337 : Unit := ()
def tw201091262330806516 : Unit := ()
def tw11368210281261276936 : Unit := ()
def tw10252768441750240440 : Unit := ()
def tw1953177486944487603 : Unit := ()
def tw9691420841919994194 : Unit := ()
def tw5791856155091588825 : Unit := ()
def tw17660269130245758681 : Unit := ()
def tw12801095385675086049 : Unit := ()
def tw14585705057947284145 : Unit := ()
def tw2404053395309592108 : Unit := ()
def tw5631631786602558770 : Unit := ()
def tw12173540411733591300 : Unit := ()
def tw137018098183370514 : Unit := ()
def tw8912803164822033684 : Unit := ()
def tw13864998097662199764 : Unit := ()
def tw11041590408114104254 : Unit := ()
def tw8943638576539356737 : Unit := ()
def tw2312034457802059207 : Unit := ()
def tw6621657298519444541 : Unit := ()
def tw5268376606809103941 : Unit := ()
def tw10125589475264959297 : Unit := ()
def tw4766966732403459265 : Unit := ()
def tw17096064922765204443 : Unit := ()
def tw12472140842598129695 : Unit := ()
def tw17286937814653887170 : Unit := ()
def tw7679216977031593725 : Unit := ()
def tw2229432615723902870 : Unit := ()
def tw4513884756475024261 : Unit := ()
def tw14747105943602037286 : Unit := ()
def tw10390121572340787421 : Unit := ()
def tw9606994680203680532 : Unit := ()
def tw11157305236449619246 : Unit := ()
def tw13394054242869275147 : Unit := ()
def tw12693339787485243540 : Unit := ()
def tw6409707207589635457 : Unit := ()
def tw17449393022594162991 : Unit := ()
def tw4879112808743524895 : Unit := ()
def tw3435673168844421263 : Unit := ()
def tw3145016695904519360 : Unit := ()
def tw9942979801534940709 : Unit := ()
def tw11373033944781899018 : Unit := ()
def tw16829038064831673031 : Unit := ()
def tw3842559406268812742 : Unit := ()
def tw12929554957347739149 : Unit := ()
def tw7439254424268819114 : Unit := ()
def tw13353348626548451038 : Unit := ()
def tw11707766384636148284 : Unit := ()
def tw18293269684757346571 : Unit := ()
def tw12526314155360957875 : Unit := ()
def tw5387394851084113601 : Unit := ()
def tw5337938567206797511 : Unit := ()
def tw14260913966351254405 : Unit := ()
def tw12502336011527676242 : Unit := ()
def tw17502677235029458409 : Unit := ()
def tw6647645995692252628 : Unit := ()
def tw18013068918886956962 : Unit := ()
def tw16466171597884216088 : Unit := ()
def tw10117281507310766616 : Unit := ()
def tw14053701567141840471 : Unit := ()
def tw12003250920018769726 : Unit := ()
def tw7708851031701227082 : Unit := ()
def tw8247946778945825095 : Unit := ()
def tw3018622142811749818 : Unit := ()
def tw14359937706829736625 : Unit := ()
def tw5943301691186516711 : Unit := ()
def tw17495400312846734522 : Unit := ()
def tw6686005424456931984 : Unit := ()
def tw17157681369570327122 : Unit := ()
def tw9763830734729632615 : Unit := ()
def tw12114786419227108663 : Unit := ()
def tw8094508288325199544 : Unit := ()
def tw5294713352500268953 : Unit := ()
def tw4001706777442101418 : Unit := ()
def tw13854782639130846226 : Unit := ()
def tw17731716942136863193 : Unit := ()
def tw7022753741928958675 : Unit := ()
def tw2090812446233266069 : Unit := ()
def tw8626733159069985888 : Unit := ()
def tw4633406823021007565 : Unit := ()
def tw17012040316742504577 : Unit := ()
def tw6979187353278096426 : Unit := ()
def tw16225743686406366006 : Unit := ()
def tw1553961457981410710 : Unit := ()
def tw12471131715012749390 : Unit := ()
def tw5567169091687667082 : Unit := ()
def tw4626208715939980372 : Unit := ()
def tw6406644386923934932 : Unit := ()
def tw8071622481548722988 : Unit := ()
def tw6944754164910487741 : Unit := ()
def tw3418944747029953165 : Unit := ()
def tw12693109506927022610 : Unit := ()
def tw17252343639133405964 : Unit := ()
def tw11800552546371387661 : Unit := ()
def tw7053684537722995226 : Unit := ()
def tw12343024363660630713 : Unit := ()
def tw2019206820559194160 : Unit := ()
def tw8862850328688574389 : Unit := ()
def tw10328675519437393325 : Unit := ()
def tw15187589449387988946 : Unit := ()
def tw7151981184983211207 : Unit := ()
def tw5674985142155283768 : Unit := ()
def tw10542889226490290971 : Unit := ()
def tw2872694682076720529 : Unit := ()
def tw3880626646640942013 : Unit := ()
def tw6177693892111208139 : Unit := ()
def tw12785904962493847673 : Unit := ()
def tw11838921778215370375 : Unit := ()
def tw10523690957637341471 : Unit := ()
def tw4167216681022064470 : Unit := ()
def tw18141817174179626276 : Unit := ()
def tw16173607993109294834 : Unit := ()
def tw10416423209093676788 : Unit := ()
def tw9645206066336460845 : Unit := ()
def tw991500863812532542 : Unit := ()
def tw17915180828222531935 : Unit := ()
def tw11470795383141926799 : Unit := ()
def tw4701229354795203506 : Unit := ()
def tw7018817170145543343 : Unit := ()
def tw1610231985418273788 : Unit := ()
def tw14461795720631691437 : Unit := ()
def tw3804904564751611501 : Unit := ()
def tw5857384340933288121 : Unit := ()
def tw2269691832284737014 : Unit := ()
def tw17579296083999419209 : Unit := ()
def tw13253432591100522946 : Unit := ()
def tw14384831891827904934 : Unit := ()
def tw2118014620769117972 : Unit := ()
def tw13844380318115746083 : Unit := ()
def tw13352488978153668352 : Unit := ()
def tw15341807382193498959 : Unit := ()
def tw6437922449896047106 : Unit := ()
def tw11449328733155803182 : Unit := ()
def tw4497830722541842637 : Unit := ()
def tw6643560872069290437 : Unit := ()
def tw4833046766796162749 : Unit := ()
def tw13384067686631765065 : Unit := ()
def tw5738140035329530303 : Unit := ()
def tw5085467469062529664 : Unit := ()
def tw4843944421089013928 : Unit := ()
def tw6780663918824090400 : Unit := ()
def tw15744486384204925490 : Unit := ()
def tw12945789673552169428 : Unit := ()
def tw4119841877333959674 : Unit := ()
def tw3947710232987724695 : Unit := ()
def tw13435278696943221974 : Unit := ()
def tw2380272775587480882 : Unit := ()
def tw267690933658035852 : Unit := ()
def tw6580447716519360249 : Unit := ()
def tw970532665250005675 : Unit := ()
def tw10208501265060282424 : Unit := ()
def tw3279029449911389043 : Unit := ()
def tw15874275526800837692 : Unit := ()
def tw2148774780003667686 : Unit := ()
def tw7438314255253156184 : Unit := ()
def tw15217904744085225015 : Unit := ()
def tw16213748851167669294 : Unit := ()
def tw9415109127450397830 : Unit := ()
def tw15873201084814846863 : Unit := ()
def tw17052436754867035129 : Unit := ()
def tw9762872527117769658 : Unit := ()
def tw6037527755705181640 : Unit := ()
def tw3221592705415737273 : Unit := ()
def tw17776190744840240246 : Unit := ()
def tw404451572033071931 : Unit := ()
def tw12188749987104890427 : Unit := ()
def tw8117722118643159343 : Unit := ()
def tw12603968392283769387 : Unit := ()
def tw8937217757347908520 : Unit := ()
def tw3367403092884902644 : Unit := ()
def tw12104829723263167379 : Unit := ()
def tw14739674413477310720 : Unit := ()
def tw14896162953220447183 : Unit := ()
def tw7907362198971657335 : Unit := ()
def tw909924351560934390 : Unit := ()
def tw13619752394399300481 : Unit := ()
def tw16631945168110365508 : Unit := ()
def tw14607332378594304760 : Unit := ()
def tw8902478645137244967 : Unit := ()
def tw17134546804617137983 : Unit := ()
def tw1860875286674626437 : Unit := ()
def tw771630397572087174 : Unit := ()
def tw10052582895069201126 : Unit := ()
def tw12009662285891007807 : Unit := ()
def tw4481051177388795877 : Unit := ()
def tw14890619550291024156 : Unit := ()
def tw8037109435796230573 : Unit := ()
def tw17934260522980374132 : Unit := ()
def tw17703440808498902325 : Unit := ()
def tw11209274098100503200 : Unit := ()
def tw2287590429203783052 : Unit := ()
def tw12840218947590593205 : Unit := ()
def tw14589601179579921912 : Unit := ()
def tw13790192002577828512 : Unit := ()
def tw4269800648957611565 : Unit := ()
def tw3321852310120083992 : Unit := ()
def tw8001178428526945343 : Unit := ()
def tw7384076590628547219 : Unit := ()
def tw8308617851876039765 : Unit := ()
def tw11487855182510710183 : Unit := ()
def tw11090319565365981192 : Unit := ()
def tw1830931047759833879 : Unit := ()
def tw7088347810185603475 : Unit := ()
def tw2149307377775194886 : Unit := ()
def tw9502423252354950708 : Unit := ()
def tw18139056210347407225 : Unit := ()
def tw5508247431718736764 : Unit := ()
def tw17475975755248757877 : Unit := ()
def tw9292802415728713258 : Unit := ()
def tw5687280642609112851 : Unit := ()
def tw4049167362943961905 : Unit := ()
def tw5664946588671871174 : Unit := ()
def tw11161378853769524075 : Unit := ()
def tw13995706385305567279 : Unit := ()
def tw859339990237843724 : Unit := ()
def tw7815493832980496464 : Unit := ()
def tw17724851100772029859 : Unit := ()
def tw4944183772692895767 : Unit := ()
def tw10772546034069785438 : Unit := ()
def tw15416830554246444837 : Unit := ()
def tw9699921096746590425 : Unit := ()
def tw16940878187488747647 : Unit := ()
def tw15650184460060549375 : Unit := ()
def tw4643343135526413205 : Unit := ()
def tw5369885014425254255 : Unit := ()
def tw9377346753818125334 : Unit := ()
def tw3650960628870763488 : Unit := ()
def tw4164392290792248488 : Unit := ()
def tw7268811288439504891 : Unit := ()
def tw942860219663348409 : Unit := ()
def tw17377124274276065709 : Unit := ()
def tw12109968657666201070 : Unit := ()
def tw9702202555907925646 : Unit := ()
def tw4235970728967190064 : Unit := ()
def tw11902302402261749642 : Unit := ()
def tw15734244357337067707 : Unit := ()
def tw8869990164376384126 : Unit := ()
def tw3312811668275127713 : Unit := ()
def tw18205930039965385902 : Unit := ()
def tw4784257796431171402 : Unit := ()
def tw12925607291903140011 : Unit := ()
def tw5186255770813291138 : Unit := ()
def tw14194692369981509116 : Unit := ()
def tw4239020461898371880 : Unit := ()
def tw16391229813045661084 : Unit := ()
def tw7990981358683762588 : Unit := ()
def tw7935466954021709139 : Unit := ()
def tw8742882283464728869 : Unit := ()
def tw8601863261814581103 : Unit := ()
def tw4751639152162146468 : Unit := ()
def tw2888306203540662325 : Unit := ()
def tw6272261610651170204 : Unit := ()
def tw12038256508788140161 : Unit := ()
def tw1639808169725812198 : Unit := ()
def tw15492977051215013132 : Unit := ()
def tw10204598703102402691 : Unit := ()
def tw1789384378930872249 : Unit := ()
def tw15260018828403497537 : Unit := ()
def tw17846660462469342289 : Unit := ()
def tw12275709643346139532 : Unit := ()
def tw12307468782608717224 : Unit := ()
def tw11677500747672739147 : Unit := ()
def tw13278266679757069043 : Unit := ()
def tw13132252242611242036 : Unit := ()
def tw15430367267962946696 : Unit := ()
def tw1146108706608077994 : Unit := ()
def tw4944386906409230657 : Unit := ()
def tw17648484452832014192 : Unit := ()
def tw3143712602261400420 : Unit := ()
def tw9434204838461420646 : Unit := ()
def tw1168947359784239393 : Unit := ()
def tw15895246786897044415 : Unit := ()
def tw2319242062444301091 : Unit := ()
def tw5404552678877545229 : Unit := ()
def tw535892090144202126 : Unit := ()
def tw16664887222716184544 : Unit := ()
def tw8539849791538168078 : Unit := ()
def tw13408071945980479802 : Unit := ()
def tw7759468741731315421 : Unit := ()
def tw9659300254469076365 : Unit := ()
def tw16005092535978360704 : Unit := ()
def tw5234625908286767820 : Unit := ()
def tw8238929830477363962 : Unit := ()
def tw7731729875226887284 : Unit := ()
def tw14651995955325526982 : Unit := ()
def tw10768035899735846767 : Unit := ()
def tw13577268844572318106 : Unit := ()
def tw4644189339147223574 : Unit := ()
def tw10889348797400549130 : Unit := ()
def tw6359843407232990881 : Unit := ()
def tw13531480815435691940 : Unit := ()
def tw17268179763301770246 : Unit := ()
def tw3861751355019981504 : Unit := ()
def tw6711433654481068112 : Unit := ()
def tw658494146261299958 : Unit := ()
def tw16443869835285904474 : Unit := ()
def tw8177151238355350360 : Unit := ()
def tw17362197098120624222 : Unit := ()
def tw11184233589655437745 : Unit := ()
def tw3865526038288456263 : Unit := ()
def tw15979992855486846200 : Unit := ()
def tw10822876110321605738 : Unit := ()
def tw5858630264745516266 : Unit := ()
def tw6945245109370752625 : Unit := ()
def tw11918464104331161477 : Unit := ()
def tw12202685949323238431 : Unit := ()
def tw5367187694478559379 : Unit := ()
def tw10269440347320898816 : Unit := ()
def tw4972139816212722202 : Unit := ()
def tw2449664421397587444 : Unit := ()
def tw4740767245239349402 : Unit := ()
def tw4596754829109894973 : Unit := ()
def tw4025436138054765562 : Unit := ()
def tw5049678666596984668 : Unit := ()
def tw11876181655626548425 : Unit := ()
def tw13161654524126213592 : Unit := ()
def tw5002733208593748779 : Unit := ()
def tw13593610365587701439 : Unit := ()
def tw7679452656841897225 : Unit := ()
def tw10208126315673787963 : Unit := ()
def tw16540589490461094875 : Unit := ()
def tw4618079409071246263 : Unit := ()
def tw8189064311535668238 : Unit := ()
def tw16139742505164873337 : Unit := ()
def tw18227519186394308793 : Unit := ()
def tw10821024547588380741 : Unit := ()
def tw10471273241005507999 : Unit := ()
def tw2851843404972467576 : Unit := ()
def tw8481889019746583477 : Unit := ()
def tw17290357292595613232 : Unit := ()
def tw1656537784543397195 : Unit := ()
def tw17140985068089313831 : Unit := ()
def tw2735741816244006784 : Unit := ()
def tw10838164176166872871 : Unit := ()
def tw4521480514310152432 : Unit := ()
def tw9744246198900065361 : Unit := ()
def tw11975651509544506050 : Unit := ()
def tw12918565142340964572 : Unit := ()
def tw9598574009544915381 : Unit := ()
def tw7955801640893357016 : Unit := ()
def tw6054887891708285561 : Unit := ()
def tw3845275331022174499 : Unit := ()
def tw12213352325604421381 : Unit := ()
def tw12376726549213476105 : Unit := ()
def tw6081201349915205085 : Unit := ()
def tw13408497657026043792 : Unit := ()
def tw3903698998495071657 : Unit := ()
def tw1981381015553393387 : Unit := ()
def tw1268587187398252353 : Unit := ()
def tw11443453964536914879 : Unit := ()
def tw5095010599579401659 : Unit := ()
def tw6756908009481219310 : Unit := ()
def tw2352982987946734526 : Unit := ()
def tw3906498720857994915 : Unit := ()
def tw7135375499430469523 : Unit := ()
def tw218414558451469964 : Unit := ()
def tw11053918530259517922 : Unit := ()
def tw16964417098067445894 : Unit := ()
def tw4582214911144424667 : Unit := ()
def tw15245341859033236255 : Unit := ()
def tw2352750151352029642 : Unit := ()
def tw10722899579522609359 : Unit := ()
def tw5526644824583589147 : Unit := ()
def tw8209744406713638554 : Unit := ()
def tw8516396586173555454 : Unit := ()
def tw18203175087933702362 : Unit := ()
def tw4390796290334881974 : Unit := ()
def tw14509684111545639676 : Unit := ()
def tw8702455923862866355 : Unit := ()
def tw10010282143573800322 : Unit := ()
def tw2680946903519809774 : Unit := ()
def tw8099045149967017993 : Unit := ()
def tw9606253495797119724 : Unit := ()
def tw9862927772687320780 : Unit := ()
def tw9886212827616641653 : Unit := ()
def tw16507004829965264671 : Unit := ()
def tw17901807376057305687 : Unit := ()
def tw6531826845647821493 : Unit := ()
def tw12410138535482941034 : Unit := ()
def tw7336948291278966396 : Unit := ()
def tw15424127671925324577 : Unit := ()
def tw3863256132387359600 : Unit := ()
def tw17394231825005217808 : Unit := ()
def tw18216055361729779112 : Unit := ()
def tw13619402905963910902 : Unit := ()
def tw3273344482883276262 : Unit := ()
def tw940411108121529565 : Unit := ()
def tw15977224753632997660 : Unit := ()
def tw11449282263905321334 : Unit := ()
def tw10204336904841285252 : Unit := ()
def tw1414735120719159333 : Unit := ()
def tw16923495036455162215 : Unit := ()
def tw13576001757907426199 : Unit := ()
def tw156958453911849892 : Unit := ()
def tw2125676567915665837 : Unit := ()
def tw10068276086402255794 : Unit := ()
def tw6935196080544352101 : Unit := ()
def tw8526211997579220057 : Unit := ()
def tw2225492998660141991 : Unit := ()
def tw6930921747860261121 : Unit := ()
def tw9465213581472480440 : Unit := ()
def tw16787755462059924576 : Unit := ()
def tw16039824993472781790 : Unit := ()
def tw4068966253942763623 : Unit := ()
def tw4551110910371200005 : Unit := ()
def tw11294200991473406493 : Unit := ()
def tw16900609317406935518 : Unit := ()
def tw4979955325745466619 : Unit := ()
def tw15360030459910354571 : Unit := ()
def tw12277357849045629752 : Unit := ()
def tw11254508552101053245 : Unit := ()
def tw10452993550375191926 : Unit := ()
def tw5898368674579511748 : Unit := ()
def tw7791865995514172477 : Unit := ()
def tw5195904104168929581 : Unit := ()
def tw7856877369712578105 : Unit := ()
def tw18433733373944582078 : Unit := ()
def tw9629019414779538267 : Unit := ()
def tw6529220759360494435 : Unit := ()
def tw6978229722355594835 : Unit := ()
def tw14835919218567510360 : Unit := ()
def tw1401383392768555017 : Unit := ()
def tw6031030000289801897 : Unit := ()
def tw12365732956720068229 : Unit := ()
def tw12767517992797551901 : Unit := ()
def tw9066207464761197838 : Unit := ()
def tw6714988634119878173 : Unit := ()
def tw13196356265644077702 : Unit := ()
def tw11682748685660544111 : Unit := ()
def tw13261122449701723459 : Unit := ()
def tw3513179230801503054 : Unit := ()
def tw8203705829052914795 : Unit := ()
def tw17583777857740559676 : Unit := ()
def tw7462013388510063880 : Unit := ()
def tw8415998984832696270 : Unit := ()
def tw17909669534860728596 : Unit := ()
def tw1895953908935734384 : Unit := ()
def tw17744119286692617727 : Unit := ()
def tw2012604805713927918 : Unit := ()
def tw8821485856339938433 : Unit := ()
def tw1476953355023367494 : Unit := ()
def tw15118009306161042563 : Unit := ()
def tw11579183775450819847 : Unit := ()
def tw18396495126707443601 : Unit := ()
def tw4877497464389501135 : Unit := ()
def tw6337023364080659106 : Unit := ()
def tw14530927132654537054 : Unit := ()
def tw4603505819159220834 : Unit := ()
def tw13029831319620015485 : Unit := ()
def tw795864820955253978 : Unit := ()
def tw6103063771097309860 : Unit := ()
def tw14086644422200866502 : Unit := ()
def tw1834576870787037144 : Unit := ()
def tw4599242540312563030 : Unit := ()
def tw16244189857310113590 : Unit := ()
def tw3750202026753859632 : Unit := ()
def tw17863302656999482806 : Unit := ()
def tw7046763479081853656 : Unit := ()
def tw9613716715934051335 : Unit := ()
def tw372904611660321518 : Unit := ()
def tw17935226425611649559 : Unit := ()
def tw14581280868089281917 : Unit := ()
def tw6551450704038468237 : Unit := ()
def tw14494420056950316080 : Unit := ()
def tw637465710220233769 : Unit := ()
def tw5935357597643337413 : Unit := ()
def tw18402139038575964673 : Unit := ()
def tw14243732026868911806 : Unit := ()
def tw12706454586588949735 : Unit := ()
def tw15096529287881537887 : Unit := ()
def tw4382473783012875800 : Unit := ()
def tw13752009241910657765 : Unit := ()
def tw13632086890793258935 : Unit := ()
def tw2779119545550325716 : Unit := ()
def tw10626445513448377649 : Unit := ()
def tw9685620183578798742 : Unit := ()
def tw3560358224912976901 : Unit := ()
def tw3824785445482651213 : Unit := ()
def tw18282886421538689439 : Unit := ()
def tw9280346821522870360 : Unit := ()
def tw17907119631360928549 : Unit := ()
def tw2445553280955428553 : Unit := ()
def tw4040972080148754881 : Unit := ()
def tw17344538067507525986 : Unit := ()
def tw2674002104343415650 : Unit := ()
def tw3334744987090369021 : Unit := ()
def tw5685143178939927108 : Unit := ()
def tw2306680668521489817 : Unit := ()
def tw8824441977032169737 : Unit := ()
def tw4673600648618629893 : Unit := ()
def tw9265740137363391064 : Unit := ()
def tw635059676922197816 : Unit := ()
def tw10710382070026781887 : Unit := ()
def tw3830495021800159684 : Unit := ()
def tw2040699094819691630 : Unit := ()
def tw8436007985268722441 : Unit := ()
def tw1361877798171713420 : Unit := ()
def tw10070671029696752936 : Unit := ()
def tw14626971507154073935 : Unit := ()
def tw624596074992586298 : Unit := ()
def tw4365409018781482717 : Unit := ()
def tw7235851596456489952 : Unit := ()
def tw17811857907434863601 : Unit := ()
def tw17264389195196475494 : Unit := ()
def tw12322772790019986935 : Unit := ()
def tw1771153747555333606 : Unit := ()
def tw17007115810718279150 : Unit := ()
def tw13972333088691879658 : Unit := ()
def tw208794232270334677 : Unit := ()
def tw18429057377724362430 : Unit := ()
def tw8537826242697300014 : Unit := ()
def tw17166387258885130568 : Unit := ()
def tw1007915042366553198 : Unit := ()
def tw11523763595553949223 : Unit := ()
def tw17824972565232928905 : Unit := ()
def tw10628272509119054119 : Unit := ()
def tw18227894937965515208 : Unit := ()
def tw15012574995624899440 : Unit := ()
def tw506717569212085965 : Unit := ()
def tw6668989308158243873 : Unit := ()
def tw10062127864464572529 : Unit := ()
def tw11704870204928733010 : Unit := ()
def tw18222885742249583189 : Unit := ()
def tw911984361383283675 : Unit := ()
def tw5468376393175150590 : Unit := ()
def tw5539168085777112964 : Unit := ()
def tw2579454770575251584 : Unit := ()
def tw14263497591967484514 : Unit := ()
def tw13510399790794764400 : Unit := ()
def tw11183018911951395423 : Unit := ()
def tw10757452443647449178 : Unit := ()
def tw6282881421665031310 : Unit := ()
def tw13451422244519142123 : Unit := ()
def tw8817659997075734451 : Unit := ()
def tw15708541367759985602 : Unit := ()
def tw5991430300370485588 : Unit := ()
def tw6359486999720377990 : Unit := ()
def tw14940015179993215987 : Unit := ()
def tw3930940297936929747 : Unit := ()
def tw18001514499289169150 : Unit := ()
def tw7736312573900173165 : Unit := ()
def tw13187020610384297961 : Unit := ()
def tw1652717081866841025 : Unit := ()
def tw6820178308398730642 : Unit := ()
def tw17789176322338366841 : Unit := ()
def tw805922575547980540 : Unit := ()
def tw2213181580616183961 : Unit := ()
def tw10509193012170014302 : Unit := ()
def tw5814283452226095208 : Unit := ()
def tw16086077400296299586 : Unit := ()
def tw6993616743467081660 : Unit := ()
def tw4002493501384797513 : Unit := ()
def tw4867347097404171291 : Unit := ()
def tw6635907007934388625 : Unit := ()
def tw6896469178606551848 : Unit := ()
def tw8310842240540681626 : Unit := ()
def tw6580291421010603419 : Unit := ()
def tw18225103614735366141 : Unit := ()
def tw8585376936270615527 : Unit := ()
def tw15265414499548499490 : Unit := ()
def tw1890871552101091170 : Unit := ()
def tw649561313105293829 : Unit := ()
def tw10201441571146165990 : Unit := ()
def tw11289582425461965745 : Unit := ()
def tw9085318903019213062 : Unit := ()
def tw17628569074751918711 : Unit := ()
def tw6816204898703644334 : Unit := ()
def tw10448753124588625356 : Unit := ()
def tw9773617502366885129 : Unit := ()
def tw5060160797539748359 : Unit := ()
def tw799355135909283525 : Unit := ()
def tw15411465118527376207 : Unit := ()
def tw361575752280415930 : Unit := ()
def tw4083980593857727521 : Unit := ()
def tw12442425952204914282 : Unit := ()
def tw11949253952600355929 : Unit := ()
def tw2350349309619206374 : Unit := ()
def tw13528742787630063562 : Unit := ()
def tw11079590131829733770 : Unit := ()
def tw13461927788568473923 : Unit := ()
def tw13250765402290087314 : Unit := ()
def tw16585823087435616739 : Unit := ()
def tw8683543433012000357 : Unit := ()
def tw10795125430864473381 : Unit := ()
def tw1384543813281530044 : Unit := ()
def tw12616522011724791992 : Unit := ()
def tw17629270745964329407 : Unit := ()
def tw11798725947941353279 : Unit := ()
def tw7625327780235807044 : Unit := ()
def tw16073546535540828864 : Unit := ()
def tw6900783270533439432 : Unit := ()
def tw14490753871281386867 : Unit := ()
def tw8233751984651354168 : Unit := ()
def tw12626966931514528487 : Unit := ()
def tw5391431472348687022 : Unit := ()
def tw13488888528670789105 : Unit := ()
def tw14864646467605168035 : Unit := ()
def tw12806969313605629095 : Unit := ()
def tw779136966391866353 : Unit := ()
def tw9175253535744910301 : Unit := ()
def tw7568185435610096027 : Unit := ()
def tw12945690640364519158 : Unit := ()
def tw3578793298874791812 : Unit := ()
def tw7407972978393227850 : Unit := ()
def tw15657480282248853141 : Unit := ()
def tw1572360984717153472 : Unit := ()
def tw382887314551105615 : Unit := ()
def tw8798518748022955806 : Unit := ()
def tw10508133024638518461 : Unit := ()
def tw10783144863009397871 : Unit := ()
def tw7825657160107401850 : Unit := ()
def tw9122119859317427290 : Unit := ()
def tw1486356043385980881 : Unit := ()
def tw3492303642515978334 : Unit := ()
def tw13933652083044930433 : Unit := ()
def tw12743215561354578050 : Unit := ()
def tw14219765250121188176 : Unit := ()
def tw5365595915000135202 : Unit := ()
def tw12423421440243004742 : Unit := ()
def tw8434480475457530406 : Unit := ()
def tw6464188683182040397 : Unit := ()
def tw3083167409570047742 : Unit := ()
def tw8134406980325145850 : Unit := ()
def tw5813644099724873827 : Unit := ()
def tw9602920947052083033 : Unit := ()
def tw7172589381044910348 : Unit := ()
def tw2493985911018215709 : Unit := ()
def tw6141567890918209978 : Unit := ()
def tw1762220295487893987 : Unit := ()
def tw5219178287137466175 : Unit := ()
def tw3437686538108195901 : Unit := ()
def tw16363958261687757724 : Unit := ()
def tw12923183920290404411 : Unit := ()
def tw15212703822869941128 : Unit := ()
def tw7451428367024993598 : Unit := ()
def tw1034005020727421879 : Unit := ()
def tw12046597982971013887 : Unit := ()
def tw1612579225096552900 : Unit := ()
def tw16740174149368742834 : Unit := ()
def tw8091962400308939844 : Unit := ()
def tw12486720848796965907 : Unit := ()
def tw1714723826037361385 : Unit := ()
def tw266627367137399047 : Unit := ()
def tw15371269306720811930 : Unit := ()
def tw15400726358817843085 : Unit := ()
def tw2290457801724958494 : Unit := ()
def tw379174527631434529 : Unit := ()
def tw12864709411144279913 : Unit := ()
def tw1640179252394036143 : Unit := ()
def tw18216991992659828111 : Unit := ()
def tw14639135246785715743 : Unit := ()
def tw18128360118226476867 : Unit := ()
def tw8061450827663939861 : Unit := ()
def tw11199385260063743249 : Unit := ()
def tw6777908505215106953 : Unit := ()
def tw14413978767138986449 : Unit := ()
def tw757023831726929577 : Unit := ()
def tw11007652491060275244 : Unit := ()
def tw9609788390727539227 : Unit := ()
def tw12088240855525504431 : Unit := ()
def tw6464495981786294532 : Unit := ()
def tw10883431082396972011 : Unit := ()
def tw2837274855818539781 : Unit := ()
def tw8560047280011956059 : Unit := ()
def tw18437946751001850788 : Unit := ()
def tw5541369684952304433 : Unit := ()
def tw5595918842973271245 : Unit := ()
def tw13321405658709239934 : Unit := ()
def tw4763451143398169428 : Unit := ()
def tw7779311116454856929 : Unit := ()
def tw8662294711777555239 : Unit := ()
def tw15550104193449796794 : Unit := ()
def tw16650738400726616396 : Unit := ()
def tw10960036856050940071 : Unit := ()
def tw13820451137229368939 : Unit := ()
def tw6993768734467282797 : Unit := ()
def tw5057992037070297843 : Unit := ()
def tw10929521632079066287 : Unit := ()
def tw3706650247557058162 : Unit := ()
def tw638911837420215082 : Unit := ()
def tw18103739167541040201 : Unit := ()
def tw7301396068371407107 : Unit := ()
def tw7547452568850923285 : Unit := ()
def tw5609198595850965944 : Unit := ()
def tw1213985386368065218 : Unit := ()
def tw10965613297867335363 : Unit := ()
def tw4887133946634172015 : Unit := ()
def tw8993269867853520367 : Unit := ()
def tw4236039668172988028 : Unit := ()
def tw7609441296619081235 : Unit := ()
def tw14861140272068304995 : Unit := ()
def tw14532453336875839715 : Unit := ()
def tw17869498258381001651 : Unit := ()
def tw756309965700141844 : Unit := ()
def tw5373751490086994478 : Unit := ()
def tw18426544791761045762 : Unit := ()
def tw13437812931772313286 : Unit := ()
def tw12095249980020491069 : Unit := ()
def tw14032303710251760311 : Unit := ()
def tw13652222073742286997 : Unit := ()
def tw5910842154454792130 : Unit := ()
def tw4215020934723204240 : Unit := ()
def tw9128771937076168289 : Unit := ()
def tw13714467688469197308 : Unit := ()
def tw16322961234291917855 : Unit := ()
def tw14353353413908896519 : Unit := ()
def tw8271738721435924559 : Unit := ()
def tw12535540000046325670 : Unit := ()
def tw10112999265790385998 : Unit := ()
def tw6057447667523611723 : Unit := ()
def tw7023034057667863975 : Unit := ()
def tw15399030708630340825 : Unit := ()
def tw12228760424905384129 : Unit := ()
def tw17805203519841751280 : Unit := ()
def tw10155235664658247307 : Unit := ()
def tw17371998780572491299 : Unit := ()
def tw7188374417158125373 : Unit := ()
def tw16447779921088985005 : Unit := ()
def tw14463523764311415789 : Unit := ()
def tw17780539862262114369 : Unit := ()
def tw17493908284791518351 : Unit := ()
def tw7064372210429866824 : Unit := ()
def tw9955209858657692705 : Unit := ()
def tw3731485850797047239 : Unit := ()
def tw3980925258115493943 : Unit := ()
def tw10258961057858330257 : Unit := ()
def tw14556912332899702596 : Unit := ()
def tw6110407494183942722 : Unit := ()
def tw14147866220447708227 : Unit := ()
def tw17850695798813042391 : Unit := ()
def tw17699033467910553154 : Unit := ()
def tw2749496762285796567 : Unit := ()
def tw10409065472786389249 : Unit := ()
def tw10042064328988086632 : Unit := ()
def tw10883786394301105576 : Unit := ()
def tw7384112240381278173 : Unit := ()
def tw10472018719410664625 : Unit := ()
def tw1432518160949111895 : Unit := ()
def tw5363116716869082496 : Unit := ()
def tw1130926190847997568 : Unit := ()
def tw6423788790717744660 : Unit := ()
def tw8886674118605766096 : Unit := ()
def tw7951154912783665155 : Unit := ()
def tw6361807836636943927 : Unit := ()
def tw9223920413712330314 : Unit := ()
def tw17131658936927564479 : Unit := ()
def tw9707819087739362317 : Unit := ()
def tw140273363834453309 : Unit := ()
def tw7528090204519254293 : Unit := ()
def tw6889850128229022262 : Unit := ()
def tw1962506444172862802 : Unit := ()
def tw13540686035588053629 : Unit := ()
def tw611909796895871117 : Unit := ()
def tw11450708339005153928 : Unit := ()
def tw12292276401802421502 : Unit := ()
def tw7777898797418933882 : Unit := ()
def tw8857068133792860847 : Unit := ()
def tw10715940730921527339 : Unit := ()
def tw4968526502096005782 : Unit := ()
def tw17169525291218050308 : Unit := ()
def tw13958120312559236348 : Unit := ()
def tw16390276364824076780 : Unit := ()
def tw8096613928993691855 : Unit := ()
def tw9971130289182206944 : Unit := ()
def tw759686208852226782 : Unit := ()
def tw17920484782248803868 : Unit := ()
def tw10126750691676969038 : Unit := ()
def tw8301555971658089161 : Unit := ()
def tw16114801073306886617 : Unit := ()
def tw10005976993788586763 : Unit := ()
def tw16466144469519276583 : Unit := ()
def tw10826247510962116316 : Unit := ()
def tw14488336819298241945 : Unit := ()
def tw2457441469355222255 : Unit := ()
def tw9813476730208780421 : Unit := ()
def tw7484989603696423435 : Unit := ()
def tw5123450804561740386 : Unit := ()
def tw8080473380829572820 : Unit := ()
def tw1563243489668339170 : Unit := ()
def tw10717489445106708585 : Unit := ()
def tw876422389191416028 : Unit := ()
def tw12004075752664682579 : Unit := ()
def tw9736546385927885227 : Unit := ()
def tw8299920232498081344 : Unit := ()
def tw16612016013026323051 : Unit := ()
def tw8238926242640446845 : Unit := ()
def tw12374041931403950375 : Unit := ()
def tw5484622247906918568 : Unit := ()
def tw10773125474200672486 : Unit := ()
def tw8331419159793512752 : Unit := ()
def tw7957351464481857508 : Unit := ()
def tw8223133821995702699 : Unit := ()
def tw10049082858989184355 : Unit := ()
def tw5266957119930586475 : Unit := ()
def tw1102719854795613173 : Unit := ()
def tw15875407101082034593 : Unit := ()
def tw6636469400152089910 : Unit := ()
def tw2585191334688414243 : Unit := ()
def tw10489413803772117021 : Unit := ()
def tw5509046351528537999 : Unit := ()
def tw1608453256928411877 : Unit := ()
def tw2078373114790919327 : Unit := ()
def tw9932287769889038123 : Unit := ()
def tw3533825963347980043 : Unit := ()
def tw14256263135024787601 : Unit := ()
def tw3054184243896374075 : Unit := ()
def tw17843416644853070463 : Unit := ()
def tw9130167290188110802 : Unit := ()
def tw978014153386294347 : Unit := ()
def tw514455981212419089 : Unit := ()
def tw14242175395732777974 : Unit := ()
def tw4565807899478943309 : Unit := ()
def tw16393493315030741486 : Unit := ()
def tw9450299700529096100 : Unit := ()
def tw15348815342697509953 : Unit := ()
def tw2312410974350049387 : Unit := ()
def tw11038495425325230296 : Unit := ()
def tw728904010328947111 : Unit := ()
def tw17839154500774822884 : Unit := ()
def tw16259742291528815585 : Unit := ()
def tw3559371740216917588 : Unit := ()
def tw12766741340676731132 : Unit := ()
def tw1250091587452036731 : Unit := ()
def tw16043910285934307715 : Unit := ()
def tw13131943244659133196 : Unit := ()
def tw959343034742483651 : Unit := ()
def tw2081544021108705427 : Unit := ()
def tw11696919484441501049 : Unit := ()
def tw8265809664898901654 : Unit := ()
def tw249713781605145141 : Unit := ()
def tw16367509166517325345 : Unit := ()
def tw5947934457844319416 : Unit := ()
def tw2440592905100669153 : Unit := ()
def tw10050330310941473328 : Unit := ()
def tw7668181498733406534 : Unit := ()
def tw10614358658641095626 : Unit := ()
def tw15627493991649845272 : Unit := ()
def tw5580822875634628533 : Unit := ()
def tw1429355676904276588 : Unit := ()
def tw15397068274354708982 : Unit := ()
def tw6875355717438233227 : Unit := ()
def tw14848780563843583815 : Unit := ()
def tw14116897105196384771 : Unit := ()
def tw8601296211920468417 : Unit := ()
def tw6324589003567309517 : Unit := ()
def tw12812868666810581811 : Unit := ()
def tw6002513971871402140 : Unit := ()
def tw6418241592513041588 : Unit := ()
def tw10838410872621293473 : Unit := ()
def tw15797602058368058442 : Unit := ()
def tw17665311703635508150 : Unit := ()
def tw1464975379223865699 : Unit := ()
def tw2898070501236239869 : Unit := ()
def tw3287279583539170013 : Unit := ()
def tw14713601330101548304 : Unit := ()
def tw8031314433607086095 : Unit := ()
def tw1387947217392218043 : Unit := ()
def tw11957236010532802340 : Unit := ()
def tw4026639947936660626 : Unit := ()
def tw7209277764226751799 : Unit := ()
def tw585102452552623015 : Unit := ()
def tw8264153301730181218 : Unit := ()
def tw4560424822364553533 : Unit := ()
def tw18008417852363218966 : Unit := ()
def tw15801637453660337897 : Unit := ()
def tw15188833380803179482 : Unit := ()
def tw10552574844327859949 : Unit := ()
def tw18085526154659333246 : Unit := ()
def tw11005561430357413609 : Unit := ()
def tw17746628872757509000 : Unit := ()
def tw14255689763932634584 : Unit := ()
def tw362129275369032650 : Unit := ()
def tw6224325737271954842 : Unit := ()
def tw5251196195000269281 : Unit := ()
def tw16619899343871320964 : Unit := ()
def tw317438207404982475 : Unit := ()
def tw4832075414478813256 : Unit := ()
def tw11453337170805244720 : Unit := ()
def tw11500503743379525006 : Unit := ()
def tw12715575740951451390 : Unit := ()
def tw2658371784675547251 : Unit := ()
def tw6972764793829468243 : Unit := ()
def tw6067372596601214235 : Unit := ()
def tw9151072020471935824 : Unit := ()
def tw8277578564454854310 : Unit := ()
def tw7618839834802901398 : Unit := ()
def tw7145769029896464299 : Unit := ()
def tw658497437600315811 : Unit := ()
def tw8040704754734896634 : Unit := ()
def tw10618479700470323419 : Unit := ()
def tw3708379670096615023 : Unit := ()
def tw2738724334677758661 : Unit := ()
def tw14243000110752803332 : Unit := ()
def tw12659529039999753739 : Unit := ()
def tw4790547091431630005 : Unit := ()
def tw4203723572265718226 : Unit := ()
def tw8920659734516437415 : Unit := ()
def tw5089847521404142353 : Unit := ()
def tw15015030017634654800 : Unit := ()
def tw1651372862330396205 : Unit := ()
def tw6656706159465290804 : Unit := ()
def tw5249529148058228869 : Unit := ()
def tw970969322248707465 : Unit := ()
def tw16662531320372297691 : Unit := ()
def tw11882545898705644456 : Unit := ()
def tw11455826507097208248 : Unit := ()
def tw2654366588389875493 : Unit := ()
def tw8465123791409665187 : Unit := ()
def tw13658302737389116760 : Unit := ()
def tw10023633244662280214 : Unit := ()
def tw12273058598527411343 : Unit := ()
def tw17426130872129570567 : Unit := ()
def tw8912860774499055247 : Unit := ()
def tw1613196537268177641 : Unit := ()
def tw10751454150562587465 : Unit := ()
def tw756657425761210847 : Unit := ()
def tw12911378686095457520 : Unit := ()
def tw18158278081297837616 : Unit := ()
def tw4575437327598812868 : Unit := ()
def tw8765585366846027327 : Unit := ()
def tw9131167426837262232 : Unit := ()
def tw3537734016028306872 : Unit := ()
def tw10881853352548266009 : Unit := ()
def tw14212079312519616099 : Unit := ()
def tw295042630055866759 : Unit := ()
def tw18078133632349072139 : Unit := ()
def tw14061768893426073819 : Unit := ()
def tw11542505189826313905 : Unit := ()
def tw17688779612395485551 : Unit := ()
def tw3321571591446274556 : Unit := ()
def tw11435306503888081074 : Unit := ()
def tw237176833883582486 : Unit := ()
def tw17503360405731688432 : Unit := ()
def tw1797217933788778521 : Unit := ()
def tw10373486401436799106 : Unit := ()
def tw3433487150053990675 : Unit := ()
def tw14678209027938369040 : Unit := ()
def tw11556955999555815855 : Unit := ()
def tw8810149144160419634 : Unit := ()
def tw138276719214225385 : Unit := ()
def tw12722841401902220113 : Unit := ()
def tw7420767939501941700 : Unit := ()
def tw10272267587312932973 : Unit := ()
def tw8577924205644691559 : Unit := ()
def tw8102418011510753217 : Unit := ()
def tw13050919819289672556 : Unit := ()
def tw15233327916222325270 : Unit := ()
def tw5698709176682917761 : Unit := ()
def tw14698943820582933439 : Unit := ()
def tw603431082125393767 : Unit := ()
def tw12079599178630881963 : Unit := ()
def tw732515880790459218 : Unit := ()
def tw9883711273135993794 : Unit := ()
def tw12670474489511195343 : Unit := ()
def tw8495065727682065937 : Unit := ()
def tw16163437752259127324 : Unit := ()
def tw16936136154773448436 : Unit := ()
def tw3448853995256629083 : Unit := ()
def tw13263762954130075895 : Unit := ()
def tw8887259415504384312 : Unit := ()
def tw9887637860340737837 : Unit := ()
def tw7084995374322263941 : Unit := ()
def tw3291281947507527901 : Unit := ()
def tw5646927083114240164 : Unit := ()
def tw3182686827377200529 : Unit := ()
def tw5341252731332001901 : Unit := ()
def tw8557720439512000009 : Unit := ()
def tw12936719604728469068 : Unit := ()
def tw7561156446497217366 : Unit := ()
def tw846194442515241098 : Unit := ()
def tw5305798400847462844 : Unit := ()
def tw3341365579762319400 : Unit := ()
def tw8941397038133226642 : Unit := ()
def tw17928295033423073354 : Unit := ()
def tw11810488352746199185 : Unit := ()
def tw4568437893676322077 : Unit := ()
def tw5940121870281237432 : Unit := ()
def tw545064586951073945 : Unit := ()
def tw16246349783247904111 : Unit := ()
def tw5660010580839045856 : Unit := ()
def tw15837126551826949158 : Unit := ()
def tw3737870001570585730 : Unit := ()
def tw9525452488782058459 : Unit := ()
def tw14598223080327800275 : Unit := ()
def tw16085158723969306702 : Unit := ()
def tw11248928161136124538 : Unit := ()
def tw9670673519109624972 : Unit := ()
def tw9391195819466957272 : Unit := ()
def tw4511701632830243264 : Unit := ()
def tw1746159561618978698 : Unit := ()
def tw10393663353328721598 : Unit := ()
def tw8661032223349744789 : Unit := ()
def tw4883613257557613307 : Unit := ()
def tw12372806283962160411 : Unit := ()
def tw14052297564155719136 : Unit := ()
def tw12606864800306864688 : Unit := ()
def tw18320066246396331634 : Unit := ()
def tw6434523787272371025 : Unit := ()
def tw15762743386357708290 : Unit := ()
def tw10874616305246782381 : Unit := ()
def tw11752467884777980105 : Unit := ()
def tw9042949087139161714 : Unit := ()
def tw16200623403803356285 : Unit := ()
def tw14564911813994130195 : Unit := ()
def tw2116866144845905953 : Unit := ()
def tw2995675070409729727 : Unit := ()
def tw1626546999972836498 : Unit := ()
def tw13044757484344245189 : Unit := ()
def tw14461616232737346394 : Unit := ()
def tw10981589688392887010 : Unit := ()
def tw326636678423571210 : Unit := ()
def tw14816701142964765946 : Unit := ()
def tw11694937313917106138 : Unit := ()
def tw17756930972512295925 : Unit := ()
def tw84519696092419186 : Unit := ()
def tw6171437816157892739 : Unit := ()
def tw876696051765687494 : Unit := ()
def tw5706992459305527002 : Unit := ()
def tw14851293442969957182 : Unit := ()
def tw15582787796036367366 : Unit := ()
def tw2522691599459588374 : Unit := ()
def tw14554094923662329286 : Unit := ()
def tw10041521911028215161 : Unit := ()
def tw16937758522973970373 : Unit := ()
def tw16877572437106014846 : Unit := ()
def tw44295229823312074 : Unit := ()
def tw17881450898074093203 : Unit := ()
def tw17512429302664543288 : Unit := ()
def tw7567354028667482104 : Unit := ()
def tw1842083449377922863 : Unit := ()
def tw8945247964463312950 : Unit := ()
def tw12174343921075014170 : Unit := ()
def tw1305637015185417346 : Unit := ()
def tw1932531298351041422 : Unit := ()
def tw7634515778581822779 : Unit := ()
def tw17343898897043979294 : Unit := ()
def tw6781338283326393682 : Unit := ()
def tw8822069221461649485 : Unit := ()
def tw3490610803038915059 : Unit := ()
def tw14574188249326674665 : Unit := ()
def tw14538752355820707825 : Unit := ()
def tw10702546673805579590 : Unit := ()
def tw18281850538092046467 : Unit := ()
def tw9999920258401292013 : Unit := ()
def tw13297550312455915276 : Unit := ()
def tw11033485809489044775 : Unit := ()
def tw16741379797250062883 : Unit := ()
def tw7348435331769946881 : Unit := ()
def tw16556957296900989635 : Unit := ()
def tw5388170109886264794 : Unit := ()
def tw6760311859785483511 : Unit := ()
def tw11123634789905147307 : Unit := ()
def tw440768308683368708 : Unit := ()
def tw16688903056022620496 : Unit := ()
def tw7913724409751068003 : Unit := ()
def tw6406536786383081743 : Unit := ()
def tw17481043832863051963 : Unit := ()
def tw9828517219036685456 : Unit := ()
def tw4502381215501654381 : Unit := ()
def tw17671973068868499402 : Unit := ()
def tw1249846841319170215 : Unit := ()
def tw14350402905261399589 : Unit := ()
def tw4898149091671451737 : Unit := ()
def tw16292272579974046154 : Unit := ()
def tw10914352517091768544 : Unit := ()
def tw6910365472195321327 : Unit := ()
def tw9832717264467108858 : Unit := ()
def tw14255121013902332049 : Unit := ()
def tw1229314977024774762 : Unit := ()
def tw8765863255177242308 : Unit := ()
def tw17387085533687275522 : Unit := ()
def tw17662599039355711688 : Unit := ()
def tw11275094898678878271 : Unit := ()
def tw6892211349410973037 : Unit := ()
def tw9137512424538612511 : Unit := ()
def tw9727838045505035250 : Unit := ()
def tw5878478951762656079 : Unit := ()
def tw10589644532669637418 : Unit := ()
def tw15320221400302559415 : Unit := ()
def tw10179919098379647500 : Unit := ()
def tw9741966583888296062 : Unit := ()
def tw7328075140354401028 : Unit := ()
def tw5494293020794390752 : Unit := ()
def tw16106994598290530226 : Unit := ()
def tw17468125925587384906 : Unit := ()
def tw3885271811834365892 : Unit := ()
def tw979102147026127112 : Unit := ()
def tw6292877796588543580 : Unit := ()
def tw12458712390092923566 : Unit := ()
def tw11504290075372003639 : Unit := ()
def tw5797579720489195210 : Unit := ()
def tw11182010242151391725 : Unit := ()
def tw6919301186622283592 : Unit := ()
def tw4419127004228891891 : Unit := ()
def tw9917049931354899413 : Unit := ()
def tw5280058147038818656 : Unit := ()
def tw4270505626580661771 : Unit := ()
def tw14042129745393784389 : Unit := ()
def tw3453542296344581817 : Unit := ()
def tw17472853910507675803 : Unit := ()
def tw13451351990800920917 : Unit := ()
def tw13838712657948885542 : Unit := ()
def tw8543747110792727883 : Unit := ()
def tw9794442064190684337 : Unit := ()
def tw1969208074967243228 : Unit := ()
def tw11916631849172879873 : Unit := ()
def tw3355736667022203565 : Unit := ()
def tw17753888717225676135 : Unit := ()
def tw18093387381490521874 : Unit := ()
def tw7480123009380308424 : Unit := ()
def tw10456316707723869470 : Unit := ()
def tw6565224225529957735 : Unit := ()
def tw15489380296098332079 : Unit := ()
def tw14708340644370076568 : Unit := ()
def tw14310990316257045121 : Unit := ()
def tw9755548753928637624 : Unit := ()
def tw18355956095166494838 : Unit := ()
def tw1699380979696743389 : Unit := ()
def tw6278074695473865243 : Unit := ()
def tw2967944500868265398 : Unit := ()
def tw7844939574554770707 : Unit := ()
def tw5885101685403523757 : Unit := ()
def tw6492395905823917156 : Unit := ()
def tw5862685705864262794 : Unit := ()
def tw15936003120906949360 : Unit := ()
def tw12133124956635551317 : Unit := ()
def tw2857934150171401120 : Unit := ()
def tw6326196018254145168 : Unit := ()
def tw11973739491136674113 : Unit := ()
def tw3084954092850500348 : Unit := ()
def tw6612187479435668541 : Unit := ()
def tw17128719019124785593 : Unit := ()
def tw16518625400603885517 : Unit := ()
def tw4246154789023276130 : Unit := ()
def tw6353847161142903872 : Unit := ()
def tw3893486723531910737 : Unit := ()
def tw6465913693859258597 : Unit := ()
def tw15833614097223827040 : Unit := ()
def tw5877141610890800631 : Unit := ()
def tw1696891967642279338 : Unit := ()
def tw14143962318596072753 : Unit := ()
def tw4192778107311152728 : Unit := ()
def tw15086507016231809432 : Unit := ()
def tw9707234387635562188 : Unit := ()
def tw3561700280108222079 : Unit := ()
def tw3705743508270367280 : Unit := ()
def tw3811592773271367157 : Unit := ()
def tw7896444489670518367 : Unit := ()
def tw15489633557177193180 : Unit := ()
def tw10207981826643643539 : Unit := ()
def tw3912419438527551063 : Unit := ()
def tw5158269413533718875 : Unit := ()
def tw8837756919194374244 : Unit := ()
def tw8175023138858025242 : Unit := ()
def tw5775812938939191780 : Unit := ()
def tw1517820593327866616 : Unit := ()
def tw2619054349758303149 : Unit := ()
def tw13288285882615381994 : Unit := ()
def tw6539292009479989668 : Unit := ()
def tw11951932754502877656 : Unit := ()
def tw13629619172449357372 : Unit := ()
def tw9654127589519314821 : Unit := ()
def tw3143878266117962332 : Unit := ()
def tw11747275561380068635 : Unit := ()
def tw14771855746804232765 : Unit := ()
def tw16658279356893141881 : Unit := ()
def tw8438522148716505817 : Unit := ()
def tw10798103307070440672 : Unit := ()
def tw11624460397694020560 : Unit := ()
def tw7647566038648565228 : Unit := ()
def tw5804364932265272930 : Unit := ()
def tw14657274223484086818 : Unit := ()
def tw3908008828416456254 : Unit := ()
def tw4983605942280250867 : Unit := ()
def tw14242128485768327908 : Unit := ()
def tw11009965230617776420 : Unit := ()
def tw8904636015532397355 : Unit := ()
def tw12226762091839854774 : Unit := ()
def tw17245122621420947353 : Unit := ()
def tw8276907861557237359 : Unit := ()
def tw7436338863632668701 : Unit := ()
def tw16827446281025697291 : Unit := ()
def tw4098362415840021955 : Unit := ()
def tw12792443157478866080 : Unit := ()
def tw8116116954698963610 : Unit := ()
def tw12109710987232999518 : Unit := ()
def tw17353292581356140935 : Unit := ()
def tw4957391328163108580 : Unit := ()
def tw10575599099925551659 : Unit := ()
def tw7691175302982300678 : Unit := ()
def tw170577836214467028 : Unit := ()
def tw3154846284449791112 : Unit := ()
def tw17103042934961309479 : Unit := ()
def tw8819776958057797458 : Unit := ()
def tw4504419501361008355 : Unit := ()
def tw1367879968841509217 : Unit := ()
def tw2052814700819665805 : Unit := ()
def tw5931644266881158606 : Unit := ()
def tw4194723162650851015 : Unit := ()
def tw13491998345740335215 : Unit := ()
def tw682088195822020138 : Unit := ()
def tw4821967481945770996 : Unit := ()
def tw10632458379032903183 : Unit := ()
def tw9445155009633955987 : Unit := ()
def tw1673367760932833798 : Unit := ()
def tw13100110661532021483 : Unit := ()
def tw15703826688255432312 : Unit := ()
def tw3074755503535637851 : Unit := ()
def tw14865394789452777675 : Unit := ()
def tw16249571341023882574 : Unit := ()
def tw6978618863983926322 : Unit := ()
def tw5890609100462744335 : Unit := ()
def tw2770651114192669555 : Unit := ()
def tw4962782364603098154 : Unit := ()
def tw3966326544868389200 : Unit := ()
def tw8792634598686973574 : Unit := ()
def tw5473238436807586722 : Unit := ()
def tw18063220709577816459 : Unit := ()
def tw360005236342240761 : Unit := ()
def tw9203625042125968678 : Unit := ()
def tw13447125933783991466 : Unit := ()
def tw16837215618570935449 : Unit := ()
def tw1625806103527704957 : Unit := ()
def tw2765275190931722131 : Unit := ()
def tw2071065973214961318 : Unit := ()
def tw12760473256505384248 : Unit := ()
def tw11767976778520718283 : Unit := ()
def tw701994942265714558 : Unit := ()
def tw10114362635825693787 : Unit := ()
def tw7101811938992341860 : Unit := ()
def tw7611566840279018639 : Unit := ()
def tw16350823893716164736 : Unit := ()
def tw7787725231311386244 : Unit := ()
def tw2714114185251789538 : Unit := ()
def tw11419897168645086397 : Unit := ()
def tw13853544317457119560 : Unit := ()
def tw7355942630369457854 : Unit := ()
def tw1983773572566905197 : Unit := ()
def tw1032897675154438637 : Unit := ()
def tw2955605003016680478 : Unit := ()
def tw1365801648042143879 : Unit := ()
def tw2963022963776979961 : Unit := ()
def tw12677348761684209422 : Unit := ()
def tw10053330373076668871 : Unit := ()
def tw602767948455487509 : Unit := ()
def tw6710078568028135598 : Unit := ()
def tw14547738321960009305 : Unit := ()
def tw841073385643361113 : Unit := ()
def tw17678892676462384843 : Unit := ()
def tw9730565507423695805 : Unit := ()
def tw16192261307278809468 : Unit := ()
def tw11427671660079505481 : Unit := ()
def tw17238950712881123350 : Unit := ()
def tw9142158394215544404 : Unit := ()
def tw13593915470901494111 : Unit := ()
def tw3920654814016675930 : Unit := ()
def tw8650977682594302123 : Unit := ()
def tw241891565687866875 : Unit := ()
def tw5149956267321005627 : Unit := ()
def tw16980326236043361137 : Unit := ()
def tw9857393182710283340 : Unit := ()
def tw5905836921785102278 : Unit := ()
def tw2984673159018891963 : Unit := ()
def tw948148703212806340 : Unit := ()
def tw9507622343938183044 : Unit := ()
def tw173499572525703045 : Unit := ()
def tw12004634451282584302 : Unit := ()
def tw2373151279053943300 : Unit := ()
def tw5412792607806067344 : Unit := ()
def tw12786629270930780906 : Unit := ()
def tw13064592750173068379 : Unit := ()
def tw16255853900101915004 : Unit := ()
def tw15212605336921212581 : Unit := ()
def tw9184937214172932282 : Unit := ()
def tw16446790561942363669 : Unit := ()
def tw4570117599140701695 : Unit := ()
def tw16922344198503927458 : Unit := ()
def tw5822788659278004530 : Unit := ()
def tw3212571192583754236 : Unit := ()
def tw14512594485004860726 : Unit := ()
def tw12531075251540345353 : Unit := ()
def tw10089429385370944074 : Unit := ()
def tw12274583820390217901 : Unit := ()
def tw14025477980397611182 : Unit := ()
def tw9082468222926285599 : Unit := ()
def tw6157558435793956309 : Unit := ()
def tw8523295559442261996 : Unit := ()
def tw12975122674916579299 : Unit := ()
def tw12736428759040340287 : Unit := ()
def tw2266054371178474420 : Unit := ()
def tw17979112520590173179 : Unit := ()
def tw2284534723637150734 : Unit := ()
def tw13650053098672550668 : Unit := ()
def tw16789304008558914766 : Unit := ()
def tw3415780608434026743 : Unit := ()
def tw8753931433317199956 : Unit := ()
def tw141229755549890648 : Unit := ()
def tw12389575235939099751 : Unit := ()
def tw11647497273582707112 : Unit := ()
def tw10111004736659918953 : Unit := ()
def tw7986290449207727809 : Unit := ()
def tw6031201637166780950 : Unit := ()
def tw18276357021438483686 : Unit := ()
def tw8551829557568735084 : Unit := ()
def tw11943477663328021970 : Unit := ()
def tw6721623177709634899 : Unit := ()
def tw12222116006421967020 : Unit := ()
def tw7800337284626720624 : Unit := ()
def tw16575926881162592496 : Unit := ()
def tw12031091572760372716 : Unit := ()
def tw12715290954939671609 : Unit := ()
def tw3287454300574159726 : Unit := ()
def tw17230750143080123999 : Unit := ()
def tw11971110590526175599 : Unit := ()
def tw9911463972057689458 : Unit := ()
def tw10678324227548506543 : Unit := ()
def tw11256090449914621168 : Unit := ()
def tw14590784230198361734 : Unit := ()
def tw10622131457182744673 : Unit := ()
def tw8267853101117656222 : Unit := ()
def tw11152791736790738694 : Unit := ()
def tw14665394602611141081 : Unit := ()
def tw5053793787067438842 : Unit := ()
def tw450753019528943285 : Unit := ()
def tw13976046186653969900 : Unit := ()
def tw8717757369768384516 : Unit := ()
def tw177422321972123086 : Unit := ()
def tw16103281263227940832 : Unit := ()
def tw3383556878581593091 : Unit := ()
def tw11610172549513246725 : Unit := ()
def tw7230316843727836020 : Unit := ()
def tw18116474564396148054 : Unit := ()
def tw2746136085690254247 : Unit := ()
def tw1118921762392188728 : Unit := ()
def tw2646871970372073404 : Unit := ()
def tw10546659126958377641 : Unit := ()
def tw13986541588201334227 : Unit := ()
def tw10368952392298961755 : Unit := ()
def tw10578580824946766668 : Unit := ()
def tw1168861797118143377 : Unit := ()
def tw3481261680137367002 : Unit := ()
def tw17183258118801545161 : Unit := ()
def tw5638076889948573785 : Unit := ()
def tw11393528713215270380 : Unit := ()
def tw3510980238559043118 : Unit := ()
def tw13541843719997949623 : Unit := ()
def tw14401807687718306748 : Unit := ()
def tw8510722077564815083 : Unit := ()
def tw13779237791589564278 : Unit := ()
def tw2843923123047709139 : Unit := ()
def tw13854573162848686387 : Unit := ()
def tw14892278471847914109 : Unit := ()
def tw13359192464523009816 : Unit := ()
def tw7299981266974293515 : Unit := ()
def tw4126045976151532286 : Unit := ()
def tw7122116393394358677 : Unit := ()
def tw2400206964158358034 : Unit := ()
def tw115887800171939606 : Unit := ()
def tw4310031271478352653 : Unit := ()
def tw16854615518213619879 : Unit := ()
def tw17817282136336807974 : Unit := ()
def tw7040806423197963378 : Unit := ()
def tw4298161677043687527 : Unit := ()
def tw9522448816534972045 : Unit := ()
def tw5555242405213081108 : Unit := ()
def tw14288304803243502692 : Unit := ()
def tw8494195583236617984 : Unit := ()
def tw702008341788261898 : Unit := ()
def tw10162613168920436665 : Unit := ()
def tw11681775791310570071 : Unit := ()
def tw16586154707042036113 : Unit := ()
def tw10928791566508561232 : Unit := ()
def tw7121563811056040697 : Unit := ()
def tw14959666296261006697 : Unit := ()
def tw15267262664429841522 : Unit := ()
def tw16004210028859925150 : Unit := ()
def tw2464740170502395326 : Unit := ()
def tw8923664856510504754 : Unit := ()
def tw18067741883639830147 : Unit := ()
def tw16340212083312694827 : Unit := ()
def tw15527123077182705108 : Unit := ()
def tw2389236673359978984 : Unit := ()
def tw1718880338905013384 : Unit := ()
def tw10566911442832946198 : Unit := ()
def tw3321996219485915692 : Unit := ()
def tw9954478787939343387 : Unit := ()
def tw9124265346937455464 : Unit := ()
def tw8827719787405515851 : Unit := ()
def tw10301801988043819606 : Unit := ()
def tw12091005191618761430 : Unit := ()
def tw15970666758778356346 : Unit := ()
def tw6163057753248730936 : Unit := ()
def tw6357836590164462398 : Unit := ()
def tw2263028419314655997 : Unit := ()
def tw7335359272283513048 : Unit := ()
def tw17695526420721276508 : Unit := ()
def tw18420414347239270537 : Unit := ()
def tw5219010033979956809 : Unit := ()
def tw16936856274547049314 : Unit := ()
def tw4902233870700627082 : Unit := ()
def tw14909680081332682108 : Unit := ()
def tw12341843554245631340 : Unit := ()
def tw2859021708956892586 : Unit := ()
def tw7440422988769254146 : Unit := ()
def tw15342534925296498473 : Unit := ()
def tw1661201362501570963 : Unit := ()
def tw2692222686402206622 : Unit := ()
def tw18417754323823417534 : Unit := ()
def tw2354604845856871618 : Unit := ()
def tw3247887880581787433 : Unit := ()
def tw18394873898091527117 : Unit := ()
def tw16468132224181386841 : Unit := ()
def tw4515013334143614264 : Unit := ()
def tw494994280719777134 : Unit := ()
def tw10815687359251902143 : Unit := ()
def tw7784870312491720174 : Unit := ()
def tw4541989651271479744 : Unit := ()
def tw6144922245596043927 : Unit := ()
def tw16502118755832986065 : Unit := ()
def tw11118120910036334123 : Unit := ()
def tw1339208944850295502 : Unit := ()
def tw15430432413065600006 : Unit := ()
def tw13481084687333161198 : Unit := ()
def tw8842941762477376900 : Unit := ()
def tw2137772212399059262 : Unit := ()
def tw10467347189488461891 : Unit := ()
def tw17332286549532740043 : Unit := ()
def tw5571191516112400551 : Unit := ()
def tw13400009195319515184 : Unit := ()
def tw10798447335524751423 : Unit := ()
def tw12681725875008307348 : Unit := ()
def tw8451189653627690682 : Unit := ()
def tw10953424211689256117 : Unit := ()
def tw5156482887781170973 : Unit := ()
def tw1480119597018530552 : Unit := ()
def tw15701855499394270491 : Unit := ()
def tw14055545924929928160 : Unit := ()
def tw1400473765909177526 : Unit := ()
def tw3229320678910624544 : Unit := ()
def tw4460241837713539965 : Unit := ()
def tw10312892547728781810 : Unit := ()
def tw17353917926481480364 : Unit := ()
def tw1779329888486165629 : Unit := ()
def tw9129844624944607656 : Unit := ()
def tw10154603938050804473 : Unit := ()
def tw11602627145038716711 : Unit := ()
def tw2372203768776136332 : Unit := ()
def tw11733904727193324949 : Unit := ()
def tw15891492129113211923 : Unit := ()
def tw8731643622517791366 : Unit := ()
def tw7144693031159200931 : Unit := ()
def tw14115282835258764317 : Unit := ()
def tw38830055753783384 : Unit := ()
def tw16426268916042569222 : Unit := ()
def tw9135094705627611597 : Unit := ()
def tw16520317464321428270 : Unit := ()
def tw5606014014838825647 : Unit := ()
def tw10680909956487748469 : Unit := ()
def tw4181365082872693817 : Unit := ()
def tw7041881172284622810 : Unit := ()
def tw354705607566174911 : Unit := ()
def tw4615716503810493467 : Unit := ()
def tw12527779409474927092 : Unit := ()
def tw18295677879814646783 : Unit := ()
def tw16645720282701215070 : Unit := ()
def tw2389062203018595709 : Unit := ()
def tw78013101421917788 : Unit := ()
def tw15346126732304590485 : Unit := ()
def tw6944254716217146218 : Unit := ()
def tw2410641755077409518 : Unit := ()
def tw4107044993408954063 : Unit := ()
def tw13694840166091404843 : Unit := ()
def tw2895019672242215742 : Unit := ()
def tw12365273913586936263 : Unit := ()
def tw5972152646836171707 : Unit := ()
def tw5011904589716989275 : Unit := ()
def tw15423373190635406706 : Unit := ()
def tw3337201187396946394 : Unit := ()
def tw18045160492289511397 : Unit := ()
def tw12061458370085286072 : Unit := ()
def tw16027967260591485269 : Unit := ()
def tw7150303985049214066 : Unit := ()
def tw2724068974179496088 : Unit := ()
def tw12135089962166384794 : Unit := ()
def tw1798728101399967580 : Unit := ()
def tw13788691991788022840 : Unit := ()
def tw10212389442531696501 : Unit := ()
def tw17923364994763492956 : Unit := ()
def tw6205757298983154926 : Unit := ()
def tw9371418646743202028 : Unit := ()
def tw17551428446930582176 : Unit := ()
def tw15588598181199645775 : Unit := ()
def tw7524551569780493960 : Unit := ()
def tw16709471540170291312 : Unit := ()
def tw8311094193870103915 : Unit := ()
def tw4522273785072290454 : Unit := ()
def tw7203090732872221147 : Unit := ()
def tw10513519540616858554 : Unit := ()
def tw10132157971275152084 : Unit := ()
def tw16290922829856586364 : Unit := ()
def tw4268169805033862679 : Unit := ()
def tw15366321246850454743 : Unit := ()
def tw5645013508041368607 : Unit := ()
def tw10289137489167483810 : Unit := ()
def tw1415891422023803571 : Unit := ()
def tw16647911108689999833 : Unit := ()
def tw4423705229513230594 : Unit := ()
def tw14754805428009184798 : Unit := ()
def tw389722577979006812 : Unit := ()
def tw3261855378860164814 : Unit := ()
def tw5778430778243502421 : Unit := ()
def tw1006016837776802334 : Unit := ()
def tw1252633410257548954 : Unit := ()
def tw8750065150706771632 : Unit := ()
def tw15196483476954247563 : Unit := ()
def tw11610066743690500064 : Unit := ()
def tw5947561901478003832 : Unit := ()
def tw15856691014318082076 : Unit := ()
def tw13540140411694542859 : Unit := ()
def tw8664099572186857858 : Unit := ()
def tw12767170311460710787 : Unit := ()
def tw3464758924189683503 : Unit := ()
def tw10895264958247595452 : Unit := ()
def tw12600223862283494014 : Unit := ()
def tw3625682410889870493 : Unit := ()
def tw15078991961180042886 : Unit := ()
def tw3341776385487635968 : Unit := ()
def tw3905146468459695160 : Unit := ()
def tw2480115287762879521 : Unit := ()
def tw11433540921409167945 : Unit := ()
def tw9448462454171038112 : Unit := ()
def tw1890507351860344492 : Unit := ()
def tw11546794813071737295 : Unit := ()
def tw14986942025895742017 : Unit := ()
def tw14279657266035213608 : Unit := ()
def tw2166856923338960725 : Unit := ()
def tw17307098819719619330 : Unit := ()
def tw16124428342598061888 : Unit := ()
def tw15826014557914729019 : Unit := ()
def tw7491831742072500127 : Unit := ()
def tw12899846354604001410 : Unit := ()
def tw4751533733695377144 : Unit := ()
def tw14083255868642722218 : Unit := ()
def tw2706119562409109727 : Unit := ()
def tw7962095576458551196 : Unit := ()
def tw714096212980365539 : Unit := ()
def tw8326128118092456544 : Unit := ()
def tw10271608740435846491 : Unit := ()
def tw2731447403869805098 : Unit := ()
def tw14872298105400003634 : Unit := ()
def tw6813919038997210431 : Unit := ()
def tw2915727038923087905 : Unit := ()
def tw11775551913768146077 : Unit := ()
def tw5133333393685504031 : Unit := ()
def tw4732233593237158696 : Unit := ()
def tw1777386418132275584 : Unit := ()
def tw10217079751583641481 : Unit := ()
def tw16483582358591902740 : Unit := ()
def tw8482755401141838468 : Unit := ()
def tw4278229921715423342 : Unit := ()
def tw2042122900567883604 : Unit := ()
def tw9114040154067001661 : Unit := ()
def tw609848342959210659 : Unit := ()
def tw3309543816529893915 : Unit := ()
def tw13234811391865401302 : Unit := ()
def tw7617512226423379114 : Unit := ()
def tw17265738369068824589 : Unit := ()
def tw17305572488534453102 : Unit := ()
def tw6975569028235372958 : Unit := ()
def tw12109462406949408883 : Unit := ()
def tw12279228133920021341 : Unit := ()
def tw16959886922056008609 : Unit := ()
def tw15969087562643684719 : Unit := ()
def tw17684461317647630042 : Unit := ()
def tw8650829950939358254 : Unit := ()
def tw2217418542073675381 : Unit := ()
def tw7178945377550221690 : Unit := ()
def tw10270030693308470216 : Unit := ()
def tw1155645982982548006 : Unit := ()
def tw16622790232430140758 : Unit := ()
def tw8929708508624851053 : Unit := ()
def tw7279390343535563974 : Unit := ()
def tw16861914782487885521 : Unit := ()
def tw14774126204534277945 : Unit := ()
def tw13915417613099795869 : Unit := ()
def tw5763223324632057284 : Unit := ()
def tw11151493826126557119 : Unit := ()
def tw900638054478522456 : Unit := ()
def tw8042025463638437929 : Unit := ()
def tw496097290436879199 : Unit := ()
def tw9102772427456996325 : Unit := ()
def tw10989803724228934260 : Unit := ()
def tw93396834228777220 : Unit := ()
def tw4400115516135189092 : Unit := ()
def tw8148353615067309252 : Unit := ()
def tw16758976182430259067 : Unit := ()
def tw14475811252699575461 : Unit := ()
def tw9708296827666859115 : Unit := ()
def tw5927261373498026823 : Unit := ()
def tw7083340806664956735 : Unit := ()
def tw3864843757460799747 : Unit := ()
def tw3367323521143964304 : Unit := ()
def tw18316137242611734952 : Unit := ()
def tw9312369300949851271 : Unit := ()
def tw262960671295939746 : Unit := ()
def tw2817393539634840989 : Unit := ()
def tw15255805674088587712 : Unit := ()
def tw3890983611599526754 : Unit := ()
def tw1002152362649783393 : Unit := ()
def tw1236496659225968553 : Unit := ()
def tw12668487864102721656 : Unit := ()
def tw2203726080274706606 : Unit := ()
def tw15766259241364953331 : Unit := ()
def tw6339919238400503193 : Unit := ()
def tw2028080291713461394 : Unit := ()
def tw6313574805431927312 : Unit := ()
def tw1771065673167922378 : Unit := ()
def tw5002772624998906105 : Unit := ()
def tw7488271640366301521 : Unit := ()
def tw1713148502166425300 : Unit := ()
def tw12487091752034442420 : Unit := ()
def tw12432215493127044315 : Unit := ()
def tw4436941084341937812 : Unit := ()
def tw7589206100694585653 : Unit := ()
def tw13492181014429156549 : Unit := ()
def tw16316471438061729847 : Unit := ()
def tw16740792243129393148 : Unit := ()
def tw3551857619617885032 : Unit := ()
def tw11664487919431532739 : Unit := ()
def tw7007071207844272194 : Unit := ()
def tw13955727244428466083 : Unit := ()
def tw5232193297907838967 : Unit := ()
def tw16320664025727721233 : Unit := ()
def tw11916654054311743220 : Unit := ()
def tw14093285776187200200 : Unit := ()
def tw7017088699519741930 : Unit := ()
def tw2002463928767361399 : Unit := ()
def tw11688257982659353327 : Unit := ()
def tw11974932258839001763 : Unit := ()
def tw16513609499017178951 : Unit := ()
def tw6563143717978901596 : Unit := ()
def tw1752727176420529766 : Unit := ()
def tw979089748773626828 : Unit := ()
def tw15652949911422180438 : Unit := ()
def tw6575455958538490 : Unit := ()
def tw4807973459386300668 : Unit := ()
def tw2219565719715255378 : Unit := ()
def tw8280952772520059630 : Unit := ()
def tw6889617224148353981 : Unit := ()
def tw14887320668462695111 : Unit := ()
def tw1954808003864357339 : Unit := ()
def tw7239231563524321004 : Unit := ()
def tw16430356329601596411 : Unit := ()
def tw3730821836264249375 : Unit := ()
def tw14143440724895482407 : Unit := ()
def tw6201966686044011756 : Unit := ()
def tw14906804760824097369 : Unit := ()
def tw1723778221470366027 : Unit := ()
def tw5653915003159907988 : Unit := ()
def tw13294346133507963730 : Unit := ()
def tw1298254639083541195 : Unit := ()
def tw13330511517571767557 : Unit := ()
def tw3155544918168251483 : Unit := ()
def tw6243970037597070950 : Unit := ()
def tw550347630530553372 : Unit := ()
def tw15313089703046454375 : Unit := ()
def tw6659070485670591308 : Unit := ()
def tw7259941504746131249 : Unit := ()
def tw582827884928060077 : Unit := ()
def tw5636943757623957983 : Unit := ()
def tw11403843857237163928 : Unit := ()
def tw3654121687609739461 : Unit := ()
def tw17131548636456373450 : Unit := ()
def tw9020058860743292114 : Unit := ()
def tw10501684987696457342 : Unit := ()
def tw13328060364365415210 : Unit := ()
def tw14454395111910616485 : Unit := ()
def tw11073996896284990286 : Unit := ()
def tw3423329046566309994 : Unit := ()
def tw12836421721834161667 : Unit := ()
def tw13924840526234639354 : Unit := ()
def tw13197156393542211057 : Unit := ()
def tw9166795109234000422 : Unit := ()
def tw13633402790368191968 : Unit := ()
def tw434324873100844763 : Unit := ()
def tw14779704904347767479 : Unit := ()
def tw855295440516085640 : Unit := ()
def tw6375027718231434558 : Unit := ()
def tw2712736395085177888 : Unit := ()
def tw2655201789067659888 : Unit := ()
def tw4584751452080607649 : Unit := ()
def tw4635661866535104954 : Unit := ()
def tw9775352789116551227 : Unit := ()
def tw16799462609124929242 : Unit := ()
def tw14548643789831527511 : Unit := ()
def tw2291159359031693268 : Unit := ()
def tw2935766130428491251 : Unit := ()
def tw15011427119061178399 : Unit := ()
def tw16644914380743305649 : Unit := ()
def tw8393350828345078256 : Unit := ()
def tw17442440038993205814 : Unit := ()
def tw18023750870767624882 : Unit := ()
def tw1386823515303788150 : Unit := ()
def tw17823133822478232169 : Unit := ()
def tw4611309088772787019 : Unit := ()
def tw718987000398120903 : Unit := ()
def tw12669015651921231928 : Unit := ()
def tw16647940157423492334 : Unit := ()
def tw10964406908196614907 : Unit := ()
def tw11528049664535937722 : Unit := ()
def tw10516568530972986169 : Unit := ()
def tw8067006067858306248 : Unit := ()
def tw17010233519960619102 : Unit := ()
def tw9628311634074458283 : Unit := ()
def tw2215419537991232589 : Unit := ()
def tw12441496610462791852 : Unit := ()
def tw4816052908417844278 : Unit := ()
def tw17933521592315607225 : Unit := ()
def tw9772175153400340374 : Unit := ()
def tw9403153390528946547 : Unit := ()
def tw5374601912917788701 : Unit := ()
def tw5325142794549893028 : Unit := ()
def tw547630866999615362 : Unit := ()
def tw7048543604210186296 : Unit := ()
def tw14156176529662553298 : Unit := ()
def tw2338034964829232877 : Unit := ()
def tw2278119957841055166 : Unit := ()
def tw4577388195476243973 : Unit := ()
def tw4867526186647251615 : Unit := ()
def tw2070465775343831601 : Unit := ()
def tw2351155452901813700 : Unit := ()
def tw12460380741567875061 : Unit := ()
def tw411048907564693220 : Unit := ()
def tw14986829692612402023 : Unit := ()
def tw12999138247759500199 : Unit := ()
def tw18188215774643997764 : Unit := ()
def tw17212921628622557429 : Unit := ()
def tw5654548013603069839 : Unit := ()
def tw305807249116505184 : Unit := ()
def tw17947183439891424924 : Unit := ()
def tw9950606684082342240 : Unit := ()
def tw14231747443854445440 : Unit := ()
def tw6877259040850676962 : Unit := ()
def tw11100288961543551068 : Unit := ()
def tw15919588324698730496 : Unit := ()
def tw15188289458737465767 : Unit := ()
def tw1848775335000833691 : Unit := ()
def tw16564364944813300103 : Unit := ()
def tw16484173461330857357 : Unit := ()
def tw2542799123612518702 : Unit := ()
def tw15606596725942863602 : Unit := ()
def tw4517698606433863270 : Unit := ()
def tw2803602274411672815 : Unit := ()
def tw13016477396368262307 : Unit := ()
def tw18048303946913911919 : Unit := ()
def tw8611517500685700142 : Unit := ()
def tw5329240090532326246 : Unit := ()
def tw10708781869770020125 : Unit := ()
def tw14862579622091999657 : Unit := ()
def tw16374215874293666933 : Unit := ()
def tw8735439470984438652 : Unit := ()
def tw9679458557377995325 : Unit := ()
def tw12468615324687160756 : Unit := ()
def tw5040951157916031845 : Unit := ()
def tw4266741192598854041 : Unit := ()
def tw9126524431189099228 : Unit := ()
def tw4584035498664382463 : Unit := ()
def tw9163325306073832521 : Unit := ()
def tw8322969626628133435 : Unit := ()
def tw5679778776220362788 : Unit := ()
def tw11657935722488395390 : Unit := ()
def tw10127235128405352972 : Unit := ()
def tw461495536980931365 : Unit := ()
def tw12238395689804794048 : Unit := ()
def tw13944965875395327685 : Unit := ()
def tw5326550146465698223 : Unit := ()
def tw9090460630172853189 : Unit := ()
def tw301103962186617394 : Unit := ()
def tw5802308918014334467 : Unit := ()
def tw8088023046830729441 : Unit := ()
def tw11093408010170105170 : Unit := ()
def tw12636835327408766972 : Unit := ()
def tw8484435306634848397 : Unit := ()
def tw16828662820484618922 : Unit := ()
def tw4769168496982474125 : Unit := ()
def tw16066859377265129358 : Unit := ()
def tw15153622941274161037 : Unit := ()
def tw483612338795720485 : Unit := ()
def tw4479480825957296061 : Unit := ()
def tw4088751606563149252 : Unit := ()
def tw17480944064648191246 : Unit := ()
def tw16423073905880111508 : Unit := ()
def tw10693273971655334444 : Unit := ()
def tw13927832100657476390 : Unit := ()
def tw9015120594892650770 : Unit := ()
def tw16782868335566037089 : Unit := ()
def tw8211384405938104136 : Unit := ()
def tw2710252575764030102 : Unit := ()
def tw6811026765375691673 : Unit := ()
def tw12315840520737296796 : Unit := ()
def tw8609042004850268716 : Unit := ()
def tw7563641570988238572 : Unit := ()
def tw11016692250980378545 : Unit := ()
def tw14995561347603702757 : Unit := ()
def tw14897118293552085349 : Unit := ()
def tw10490431002369909503 : Unit := ()
def tw929058802841822762 : Unit := ()
def tw16260108918188840806 : Unit := ()
def tw15415191866313429237 : Unit := ()
def tw3815139653180279029 : Unit := ()
def tw15738793588347690455 : Unit := ()
def tw7432124382642174379 : Unit := ()
def tw5587440605795279889 : Unit := ()
def tw1829950287735720891 : Unit := ()
def tw704277666084467114 : Unit := ()
def tw2415731085913267154 : Unit := ()
def tw18177519536073286397 : Unit := ()
def tw13060121041845849462 : Unit := ()
def tw12422910364396171709 : Unit := ()
def tw2890581907856449406 : Unit := ()
def tw893649638884504383 : Unit := ()
def tw15120989371317275873 : Unit := ()
def tw7135881778739340450 : Unit := ()
def tw10386710345661202379 : Unit := ()
def tw9360783148688960015 : Unit := ()
def tw15616526737630180939 : Unit := ()
def tw8630493809936573512 : Unit := ()
def tw1651937945522476737 : Unit := ()
def tw11925424187919199356 : Unit := ()
def tw14267467062064062701 : Unit := ()
def tw12122936223826400577 : Unit := ()
def tw1219473439963734361 : Unit := ()
def tw18022831032735864356 : Unit := ()
def tw8636687558925571727 : Unit := ()
def tw3683844413590923471 : Unit := ()
def tw2877505966678543959 : Unit := ()
def tw9712303461743390231 : Unit := ()
def tw6845434632390474926 : Unit := ()
def tw3649010338984066799 : Unit := ()
def tw2825350718687652172 : Unit := ()
def tw9862665523015663065 : Unit := ()
def tw11154318488715787018 : Unit := ()
def tw12013802625712100935 : Unit := ()
def tw9413417146827061846 : Unit := ()
def tw438773868365637454 : Unit := ()
def tw4154400620724332224 : Unit := ()
def tw6723989346759009860 : Unit := ()
def tw16215801540459926068 : Unit := ()
def tw12283969542063830291 : Unit := ()
def tw2097826625631724881 : Unit := ()
def tw11385601140240722984 : Unit := ()
def tw13874051016876584399 : Unit := ()
def tw17159668400989385352 : Unit := ()
def tw2120413019035741302 : Unit := ()
def tw13126927101611056881 : Unit := ()
def tw16931401114248988421 : Unit := ()
def tw12837550173392918577 : Unit := ()
def tw15485099925027800711 : Unit := ()
def tw7875261630774012009 : Unit := ()
def tw2058233892736851438 : Unit := ()
def tw8447011216604283594 : Unit := ()
def tw4564405658132452394 : Unit := ()
def tw6386109314294812923 : Unit := ()
def tw15853123398090389942 : Unit := ()
def tw11476289252869269743 : Unit := ()
def tw12572988732553657424 : Unit := ()
def tw6117099855131614702 : Unit := ()
def tw5314789588671665887 : Unit := ()
def tw4044637326763881763 : Unit := ()
def tw7848903437568912502 : Unit := ()
def tw1733021024590120568 : Unit := ()
def tw1336753804621846264 : Unit := ()
def tw15506428574739721224 : Unit := ()
def tw14432250546834599072 : Unit := ()
def tw16077871235693524980 : Unit := ()
def tw15513890091569709534 : Unit := ()
def tw11009480947453127740 : Unit := ()
def tw13540270352308232060 : Unit := ()
def tw7326242583292779041 : Unit := ()
def tw3489655831278246680 : Unit := ()
def tw15039783778834923524 : Unit := ()
def tw10216556679454680002 : Unit := ()
def tw15804984289484631460 : Unit := ()
def tw1787540175053664213 : Unit := ()
def tw16224457164544064741 : Unit := ()
def tw16822923228700074005 : Unit := ()
def tw10624563099918937281 : Unit := ()
def tw5727532243843545811 : Unit := ()
def tw16216506739005251721 : Unit := ()
def tw11828121544039663548 : Unit := ()
def tw13594413647631098770 : Unit := ()
def tw2400272025280592433 : Unit := ()
def tw1132866233592152976 : Unit := ()
def tw5445896403682163136 : Unit := ()
def tw5066505453815140689 : Unit := ()
def tw379270311209050702 : Unit := ()
def tw12458913649547883377 : Unit := ()
def tw3788631321926141762 : Unit := ()
def tw13116648468122694418 : Unit := ()
def tw6334739171059399403 : Unit := ()
def tw8872683223941718361 : Unit := ()
def tw6958818337532934008 : Unit := ()
def tw3722113530107879704 : Unit := ()
def tw15386365241288230235 : Unit := ()
def tw15020223755801018542 : Unit := ()
def tw15514084005969536430 : Unit := ()
def tw14382815872369452968 : Unit := ()
def tw479346168679962233 : Unit := ()
def tw15838264134265902879 : Unit := ()
def tw11884099126502275185 : Unit := ()
def tw13383806328079838319 : Unit := ()
def tw15032801677109853604 : Unit := ()
def tw14525711261754624267 : Unit := ()
def tw2480505738272338977 : Unit := ()
def tw9404701078214404287 : Unit := ()
def tw4341096229145355771 : Unit := ()
def tw5838798749469777461 : Unit := ()
def tw2853051274492801180 : Unit := ()
def tw4634679823708773345 : Unit := ()
def tw1513234999627770799 : Unit := ()
def tw6448485902249920692 : Unit := ()
def tw229552314494752288 : Unit := ()
def tw16901702188551787459 : Unit := ()
def tw2036716237298558025 : Unit := ()
def tw8137365394746422623 : Unit := ()
def tw5422050647403077956 : Unit := ()
def tw8468512149196298494 : Unit := ()
def tw10447344017140104018 : Unit := ()
def tw12374511876456332266 : Unit := ()
def tw2078918392664750943 : Unit := ()
def tw2520547789009102003 : Unit := ()
def tw13757006713916180651 : Unit := ()
def tw1890244657878817354 : Unit := ()
def tw9919477347836989124 : Unit := ()
def tw5090221605877427350 : Unit := ()
def tw2444467877567494794 : Unit := ()
def tw2140991558795027242 : Unit := ()
def tw13026462784096205689 : Unit := ()
def tw10758123238140785630 : Unit := ()
def tw8691072665122716963 : Unit := ()
def tw421090589869386186 : Unit := ()
def tw8605959656803379988 : Unit := ()
def tw12108500267889079208 : Unit := ()
def tw2082280885643892664 : Unit := ()
def tw9408297855965678578 : Unit := ()
def tw2830313762810839938 : Unit := ()
def tw9463783230416486886 : Unit := ()
def tw17518909788756960191 : Unit := ()
def tw1905405397951419166 : Unit := ()
def tw10636574851983803609 : Unit := ()
def tw6511713065289655464 : Unit := ()
def tw17473420483891398013 : Unit := ()
def tw2171766931917314818 : Unit := ()
def tw17489814887086793553 : Unit := ()
def tw11649762642437741248 : Unit := ()
def tw2830389000567112007 : Unit := ()
def tw5085588622516650873 : Unit := ()
def tw3318622263486370529 : Unit := ()
def tw2129285341546783681 : Unit := ()
def tw13379537198823146264 : Unit := ()
def tw7410529203726677101 : Unit := ()
def tw7531959440633023962 : Unit := ()
def tw14963912182908399473 : Unit := ()
def tw4150890838305095982 : Unit := ()
def tw14852202502864160589 : Unit := ()
def tw13563182842485428164 : Unit := ()
def tw13944198198466600453 : Unit := ()
def tw6461018623369484726 : Unit := ()
def tw6885289447975202357 : Unit := ()
def tw3949542140516319710 : Unit := ()
def tw9069127720591512084 : Unit := ()
def tw15662935843158698447 : Unit := ()
def tw5504161597005229283 : Unit := ()
def tw7055901349516512453 : Unit := ()
def tw5836946425013909868 : Unit := ()
def tw12866292878975300092 : Unit := ()
def tw3981308629567638847 : Unit := ()
def tw10633361900571133833 : Unit := ()
def tw5408725614273754718 : Unit := ()
def tw8782798485689025104 : Unit := ()
def tw18106644861538592887 : Unit := ()
def tw1161997718915332916 : Unit := ()
def tw2895478300573126990 : Unit := ()
def tw142904818931648691 : Unit := ()
def tw8010269634811039783 : Unit := ()
def tw4376018863153096218 : Unit := ()
def tw11989115745444340534 : Unit := ()
def tw7285268975874293606 : Unit := ()
def tw4574960329747819747 : Unit := ()
def tw12942643868684655894 : Unit := ()
def tw2585611740971241294 : Unit := ()
def tw7790313068547483560 : Unit := ()
def tw12075773181635398687 : Unit := ()
def tw3810213873509932332 : Unit := ()
def tw8269183780740322709 : Unit := ()
def tw8434977461519154904 : Unit := ()
def tw13315304624776755853 : Unit := ()
def tw3306731860394259009 : Unit := ()
def tw11084498439511906226 : Unit := ()
def tw12657565254213533784 : Unit := ()
def tw12659887813214467275 : Unit := ()
def tw11736639990287451647 : Unit := ()
def tw15161072408522626560 : Unit := ()
def tw6661752028963295804 : Unit := ()
def tw13839223207747287757 : Unit := ()
def tw15582729401587670090 : Unit := ()
def tw11425919449921108762 : Unit := ()
def tw1891150823320897142 : Unit := ()
def tw8639370459767297895 : Unit := ()
def tw13236463902022445811 : Unit := ()
def tw3412950054264278029 : Unit := ()
def tw12576430482537713164 : Unit := ()
def tw13754944679662636066 : Unit := ()
def tw17158046391721702831 : Unit := ()
def tw17613940384588404126 : Unit := ()
def tw368140138848195717 : Unit := ()
def tw13431711793519619739 : Unit := ()
def tw15618632505120871802 : Unit := ()
def tw6863908755163788682 : Unit := ()
def tw16671707101743968638 : Unit := ()
def tw3135586652155563648 : Unit := ()
def tw9437719303854800293 : Unit := ()
def tw14113659368449957645 : Unit := ()
def tw10475382885848738933 : Unit := ()
def tw4149543652603142416 : Unit := ()
def tw7484006249958141891 : Unit := ()
def tw16036835895785123253 : Unit := ()
def tw11056699524387037104 : Unit := ()
def tw8100839570337242658 : Unit := ()
def tw6155772079076665364 : Unit := ()
def tw8537221436171954403 : Unit := ()
def tw3127943212080083275 : Unit := ()
def tw17519162275325611395 : Unit := ()
def tw2534900931950305806 : Unit := ()
def tw17014829204567967107 : Unit := ()
def tw13604191957119289051 : Unit := ()
def tw13668907381374884189 : Unit := ()
def tw13894506988587643862 : Unit := ()
def tw4468249632195274437 : Unit := ()
def tw7874297548472053339 : Unit := ()
def tw119285745000621152 : Unit := ()
def tw17862443457296649634 : Unit := ()
def tw11495511452185176947 : Unit := ()
def tw4654634613741694940 : Unit := ()
def tw672521403576247348 : Unit := ()
def tw6044798318344859431 : Unit := ()
def tw7849156055694600194 : Unit := ()
def tw17141999089187857257 : Unit := ()
def tw7914744436752029447 : Unit := ()
def tw9191959735114789754 : Unit := ()
def tw5572221785173645675 : Unit := ()
def tw12606899604761522934 : Unit := ()
def tw3224430403843778292 : Unit := ()
def tw10421815299710393050 : Unit := ()
def tw15071016373390962315 : Unit := ()
def tw5377013746581216710 : Unit := ()
def tw5027970970262343069 : Unit := ()
def tw915635838977413290 : Unit := ()
def tw16001596919367076444 : Unit := ()
def tw9757319237131246026 : Unit := ()
def tw10265875082975208146 : Unit := ()
def tw8018957482773318117 : Unit := ()
def tw327757751557750099 : Unit := ()
def tw8098595190854877544 : Unit := ()
def tw14234739204190943460 : Unit := ()
def tw8503992017078591127 : Unit := ()
def tw17507516945869327965 : Unit := ()
def tw9245125450178565216 : Unit := ()
def tw7531144773239016999 : Unit := ()
def tw15459347815906674351 : Unit := ()
def tw7870058845865201437 : Unit := ()
def tw2349587826517892172 : Unit := ()
def tw4267557013636171763 : Unit := ()
def tw9305427600198598550 : Unit := ()
def tw14039888450555530598 : Unit := ()
def tw5722050256702529706 : Unit := ()
def tw6761050335367097457 : Unit := ()
def tw2078721134937575698 : Unit := ()
def tw268479312741641074 : Unit := ()
def tw3274583681310440684 : Unit := ()
def tw910069992457552134 : Unit := ()
def tw7783209804131797817 : Unit := ()
def tw3354817982754805858 : Unit := ()
def tw10742302322636365399 : Unit := ()
def tw13823883338254049932 : Unit := ()
def tw10946761880523752058 : Unit := ()
def tw13018308715359220543 : Unit := ()
def tw14255774112173564976 : Unit := ()
def tw8235409398405932684 : Unit := ()
def tw17489962187332453756 : Unit := ()
def tw1067567596045187065 : Unit := ()
def tw7747355129922372537 : Unit := ()
def tw275105761751823885 : Unit := ()
def tw12108697113982018109 : Unit := ()
def tw10492822194049148480 : Unit := ()
def tw4991817091542465837 : Unit := ()
def tw2259500985695526413 : Unit := ()
def tw13930343755951295133 : Unit := ()
def tw15335555129368940849 : Unit := ()
def tw8736739928774227204 : Unit := ()
def tw6939318852210261305 : Unit := ()
def tw3305056517820010830 : Unit := ()
def tw8372928848005640975 : Unit := ()
def tw4445902555060057715 : Unit := ()
def tw14799574398933689955 : Unit := ()
def tw9810390769517619505 : Unit := ()
def tw7783648314737982259 : Unit := ()
def tw8961567958241056715 : Unit := ()
def tw8439760128341787941 : Unit := ()
def tw7764010392100170202 : Unit := ()
def tw2537221217413732735 : Unit := ()
def tw6471145946789171941 : Unit := ()
def tw720451198259331604 : Unit := ()
def tw16547815381287772555 : Unit := ()
def tw7655175358880308525 : Unit := ()
def tw6906507516326557193 : Unit := ()
def tw8573362606970783577 : Unit := ()
def tw10178815088543452454 : Unit := ()
def tw1841518484523942534 : Unit := ()
def tw17589569923976136431 : Unit := ()
def tw10229805826793662693 : Unit := ()
def tw15611852089984427805 : Unit := ()
def tw5930266393137462267 : Unit := ()
def tw13851084796993288564 : Unit := ()
def tw4109407080134397727 : Unit := ()
def tw7009392819086699944 : Unit := ()
def tw17678377880832513930 : Unit := ()
def tw11101515553415427066 : Unit := ()
def tw4662312157139175244 : Unit := ()
def tw16753315358820202808 : Unit := ()
def tw13020477889464506976 : Unit := ()
def tw18199634516880244958 : Unit := ()
def tw17843236008999681986 : Unit := ()
def tw14841270635865650709 : Unit := ()
def tw8522162237627439796 : Unit := ()
def tw7586463575129216362 : Unit := ()
def tw3662302193164451804 : Unit := ()
def tw1171152119769146027 : Unit := ()
def tw1983418560594488843 : Unit := ()
def tw18178737513286901624 : Unit := ()
def tw3673637578373572567 : Unit := ()
def tw8215527385054068117 : Unit := ()
def tw14142122312502312650 : Unit := ()
def tw13372078161886605627 : Unit := ()
def tw4205241612328752584 : Unit := ()
def tw5167821751289248081 : Unit := ()
def tw6005963606602729720 : Unit := ()
def tw14731351130731236265 : Unit := ()
def tw14522556039044535566 : Unit := ()
def tw5882681607829758634 : Unit := ()
def tw15461403809372993596 : Unit := ()
def tw311826220505784374 : Unit := ()
def tw14439669058120951715 : Unit := ()
def tw5157452421578993645 : Unit := ()
def tw1010046679102907301 : Unit := ()
def tw1764050570261208563 : Unit := ()
def tw18097850539093226378 : Unit := ()
def tw3524983396386072860 : Unit := ()
def tw10041472749637172331 : Unit := ()
def tw8055422746666064084 : Unit := ()
def tw11860841518875182086 : Unit := ()
def tw3799527294741597712 : Unit := ()
def tw7514803076594563873 : Unit := ()
def tw6373928796562889577 : Unit := ()
def tw13424764609757168950 : Unit := ()
def tw11321017240542236982 : Unit := ()
def tw4808316265601902151 : Unit := ()
def tw3057358646720873068 : Unit := ()
def tw6914440972201231215 : Unit := ()
def tw17762831657080006991 : Unit := ()
def tw7003807237193464683 : Unit := ()
def tw10134075072766233343 : Unit := ()
def tw15911763523706453447 : Unit := ()
def tw5941722010943532062 : Unit := ()
def tw15695737759835747271 : Unit := ()
def tw10858981415401594951 : Unit := ()
def tw3461278022420108110 : Unit := ()
def tw599212246040101139 : Unit := ()
def tw18360395170990003915 : Unit := ()
def tw7713180955346532380 : Unit := ()
def tw6834889102091611420 : Unit := ()
def tw2835945797392061305 : Unit := ()
def tw13165497730499013491 : Unit := ()
def tw2089827409419046989 : Unit := ()
def tw16074506601408594357 : Unit := ()
def tw9567169633496740714 : Unit := ()
def tw1383871802546835238 : Unit := ()
def tw9483374455620536407 : Unit := ()
def tw8280925889962037998 : Unit := ()
def tw11242506102730054208 : Unit := ()
def tw11229851380876098469 : Unit := ()
def tw5494434355108273129 : Unit := ()
def tw16255042042065336398 : Unit := ()
def tw1785801529527230797 : Unit := ()
def tw1442034426974482377 : Unit := ()
def tw2445174813537394477 : Unit := ()
def tw6974796465896086275 : Unit := ()
def tw180160500023447134 : Unit := ()
def tw17128134227218299529 : Unit := ()
def tw6517017382658681722 : Unit := ()
def tw9290580381591922422 : Unit := ()
def tw9390823862639848090 : Unit := ()
def tw17222046976707968319 : Unit := ()
def tw3383575609064972448 : Unit := ()
def tw7043244367880539466 : Unit := ()
def tw2759369190584473199 : Unit := ()
def tw3351243064061966995 : Unit := ()
def tw1335926461907815666 : Unit := ()
def tw10411407992926422115 : Unit := ()
def tw5583956741376776963 : Unit := ()
def tw11606226291444797662 : Unit := ()
def tw12693575420876682664 : Unit := ()
def tw1321594814036436583 : Unit := ()
def tw12926363938315126621 : Unit := ()
def tw13592911173617656027 : Unit := ()
def tw14165482429842869258 : Unit := ()
def tw17624568736032185834 : Unit := ()
def tw17868695607049570497 : Unit := ()
def tw13094081367426628357 : Unit := ()
def tw1533006947362890044 : Unit := ()
def tw3240729154252626498 : Unit := ()
def tw7066977880201068399 : Unit := ()
def tw1289562870276855104 : Unit := ()
def tw16418736280991360766 : Unit := ()
def tw17252069701342802821 : Unit := ()
def tw3568696200836662407 : Unit := ()
def tw7892796252161832078 : Unit := ()
def tw18026418506616181993 : Unit := ()
def tw5864522192247630819 : Unit := ()
def tw4854099735545667797 : Unit := ()
def tw9457106290797452412 : Unit := ()
def tw2797882622040097445 : Unit := ()
def tw5264603502818865925 : Unit := ()
def tw4241924372153410824 : Unit := ()
def tw10543700056033980828 : Unit := ()
def tw14558816190322846627 : Unit := ()
def tw1854534034470087089 : Unit := ()
def tw5727720525287540950 : Unit := ()
def tw8555574703372598874 : Unit := ()
def tw14787945038974844166 : Unit := ()
def tw1100708940842588744 : Unit := ()
def tw1204690696872884922 : Unit := ()
def tw5098158316631879855 : Unit := ()
def tw13556194957842781956 : Unit := ()
def tw7947375822352953993 : Unit := ()
def tw15310107973809501416 : Unit := ()
def tw14533466111104986476 : Unit := ()
def tw1966958425980254549 : Unit := ()
def tw11593659504634088250 : Unit := ()
def tw8411447611137293462 : Unit := ()
def tw6497583113430423479 : Unit := ()
def tw15048873628739524041 : Unit := ()
def tw12252701557458275018 : Unit := ()
def tw5341821772811540949 : Unit := ()
def tw786691342282874560 : Unit := ()
def tw589982047434655195 : Unit := ()
def tw15739258195666442489 : Unit := ()
def tw2313931287346035798 : Unit := ()
def tw8295765668003810471 : Unit := ()
def tw12032390773244930353 : Unit := ()
def tw15664294781933534167 : Unit := ()
def tw4443865090668369814 : Unit := ()
def tw16596890719556971275 : Unit := ()
def tw9118144871233104328 : Unit := ()
def tw7863545391345280428 : Unit := ()
def tw15370727924210622458 : Unit := ()
def tw17304811202462609625 : Unit := ()
def tw1116210068695265140 : Unit := ()
def tw4895835493091994763 : Unit := ()
def tw13880887390891942266 : Unit := ()
def tw13249136487155810973 : Unit := ()
def tw13534028980251653309 : Unit := ()
def tw1442979259482581688 : Unit := ()
def tw11724485443244545969 : Unit := ()
def tw2333693131826023295 : Unit := ()
def tw8499181084034429063 : Unit := ()
def tw3899945864435227505 : Unit := ()
def tw18084769170259822300 : Unit := ()
def tw14469584773372063831 : Unit := ()
def tw5040652787794017207 : Unit := ()
def tw14670322876888812673 : Unit := ()
def tw15881169369278598400 : Unit := ()
def tw15196805684393002565 : Unit := ()
def tw3150061152066362559 : Unit := ()
def tw10234322631603672495 : Unit := ()
def tw15948855110065618683 : Unit := ()
def tw345974514934569969 : Unit := ()
def tw16618697355182118741 : Unit := ()
def tw528294856998629103 : Unit := ()
def tw444945790972656038 : Unit := ()
def tw953432450681559161 : Unit := ()
def tw8143738606406447799 : Unit := ()
def tw8648769356567611393 : Unit := ()
def tw6092072139312751928 : Unit := ()
def tw5797433432624097314 : Unit := ()
def tw17627625236975606524 : Unit := ()
def tw13716769386451195371 : Unit := ()
def tw8031916586362319098 : Unit := ()
def tw18237937685005581857 : Unit := ()
def tw11008090722674113996 : Unit := ()
def tw2873608463805964853 : Unit := ()
def tw5589689913577038732 : Unit := ()
def tw15526587654878503902 : Unit := ()
def tw8695088900124241979 : Unit := ()
def tw3347796294601123470 : Unit := ()
def tw14003765797626462256 : Unit := ()
def tw11555591917103754974 : Unit := ()
def tw9994064948817863924 : Unit := ()
def tw5743955573851955184 : Unit := ()
def tw11244435096409383103 : Unit := ()
def tw9964678160948488003 : Unit := ()
def tw5986745094929625229 : Unit := ()
def tw17793906946992818436 : Unit := ()
def tw9139935666336734177 : Unit := ()
def tw12912209906344350281 : Unit := ()
def tw17475775223300311161 : Unit := ()
def tw8158104758559485606 : Unit := ()
def tw14614954369863157350 : Unit := ()
def tw11490415238827338777 : Unit := ()
def tw1717111363749810950 : Unit := ()
def tw1914776575575915894 : Unit := ()
def tw1154801424537406331 : Unit := ()
def tw18155588186719254904 : Unit := ()
def tw12357702891151486645 : Unit := ()
def tw7750477164304352153 : Unit := ()
def tw13931073611715952074 : Unit := ()
def tw8634997040579665315 : Unit := ()
def tw16404367474651667266 : Unit := ()
def tw10317780733053147373 : Unit := ()
def tw1945452389420114427 : Unit := ()
def tw16255876135932322686 : Unit := ()
def tw9244371284001153996 : Unit := ()
def tw8615946480415515088 : Unit := ()
def tw2626854902193343968 : Unit := ()
def tw9752595893007177229 : Unit := ()
def tw4806350317618219386 : Unit := ()
def tw14421316780106648335 : Unit := ()
def tw18362458635645887881 : Unit := ()
def tw7484411782568963132 : Unit := ()
def tw352912113944237912 : Unit := ()
def tw1919030591405891201 : Unit := ()
def tw6551655489083816485 : Unit := ()
def tw7918322968873244466 : Unit := ()
def tw698394606078117130 : Unit := ()
def tw8372459888545380845 : Unit := ()
def tw13084747839026464630 : Unit := ()
def tw1409499432954038522 : Unit := ()
def tw3678438793946466376 : Unit := ()
def tw10578713140910548572 : Unit := ()
def tw15345023737072748769 : Unit := ()
def tw5481828252087589823 : Unit := ()
def tw13265781344229654716 : Unit := ()
def tw14969656758113653353 : Unit := ()
def tw14850281859092096008 : Unit := ()
def tw12283114400498239426 : Unit := ()
def tw13592364196828414680 : Unit := ()
def tw6966197367859771207 : Unit := ()
def tw9283077206500133078 : Unit := ()
def tw8208675770452005815 : Unit := ()
def tw9694288957738665756 : Unit := ()
def tw1524459391606826010 : Unit := ()
def tw13592065094016729844 : Unit := ()
def tw987629651587746078 : Unit := ()
def tw506545083123084849 : Unit := ()
def tw14241849282835735110 : Unit := ()
def tw14235421483522185477 : Unit := ()
def tw9014629932772982427 : Unit := ()
def tw8860384408791873242 : Unit := ()
def tw1448423291025066659 : Unit := ()
def tw3310061017349773834 : Unit := ()
def tw7361146020926269831 : Unit := ()
def tw12183324750808672715 : Unit := ()
def tw3651772083173522056 : Unit := ()
def tw18052569045622589836 : Unit := ()
def tw6312280744530384578 : Unit := ()
def tw3502912194144643309 : Unit := ()
def tw18351415078439624309 : Unit := ()
def tw17798484547840974505 : Unit := ()
def tw887467866000617826 : Unit := ()
def tw1910448751487011235 : Unit := ()
def tw13760262952692872565 : Unit := ()
def tw3070162061511966689 : Unit := ()
def tw7460195703768537125 : Unit := ()
def tw7067374548280066815 : Unit := ()
def tw5778867856367427336 : Unit := ()
def tw143868036553161656 : Unit := ()
def tw6396622511660632155 : Unit := ()
def tw12455690641856498509 : Unit := ()
def tw2441444044980192836 : Unit := ()
def tw15146398506681882115 : Unit := ()
def tw13857343500919168215 : Unit := ()
def tw4420605143423348204 : Unit := ()
def tw2539609716071690500 : Unit := ()
def tw17273421576202182561 : Unit := ()
def tw1405592371453225063 : Unit := ()
def tw12441750946869547907 : Unit := ()
def tw7250086517731571076 : Unit := ()
def tw9886176410197092778 : Unit := ()
def tw15661947827640153321 : Unit := ()
def tw5486767203729808647 : Unit := ()
def tw12516031205372710738 : Unit := ()
def tw14803570838805256569 : Unit := ()
def tw8536736435057551238 : Unit := ()
def tw3031590414695521100 : Unit := ()
def tw2963139391257366001 : Unit := ()
def tw8241113626707034146 : Unit := ()
def tw9388154116164381813 : Unit := ()
def tw3040589176844710770 : Unit := ()
def tw7028852623692368684 : Unit := ()
def tw1970687133343842671 : Unit := ()
def tw8927525038215907226 : Unit := ()
def tw9893460081476887349 : Unit := ()
def tw3833327548491367835 : Unit := ()
def tw17220866374782257858 : Unit := ()
def tw5884760612028907762 : Unit := ()
def tw18236988744885152168 : Unit := ()
def tw17116779776413598806 : Unit := ()
def tw16135185611758316439 : Unit := ()
def tw7865815782831421995 : Unit := ()
def tw12179984298422791410 : Unit := ()
def tw11302486800045377918 : Unit := ()
def tw11834194846921766485 : Unit := ()
def tw9453733921615676023 : Unit := ()
def tw426539421940278186 : Unit := ()
def tw2991650980592511775 : Unit := ()
def tw8483739073223065780 : Unit := ()
def tw10823805588411094043 : Unit := ()
def tw7221278053007251952 : Unit := ()
def tw18322840637313133639 : Unit := ()
def tw13937702029108404993 : Unit := ()
def tw3958582082106151162 : Unit := ()
def tw3038020535051257850 : Unit := ()
def tw1203448582405232857 : Unit := ()
def tw18421806949940831475 : Unit := ()
def tw9369252852622352201 : Unit := ()
def tw7659731844038459528 : Unit := ()
def tw4761784104726829751 : Unit := ()
def tw14592096163881213268 : Unit := ()
def tw1174592851220664795 : Unit := ()
def tw17648288966885289802 : Unit := ()
def tw12303475874559268600 : Unit := ()
def tw10091531477401729326 : Unit := ()
def tw17770822157858818611 : Unit := ()
def tw4005681289409761402 : Unit := ()
def tw5424843840111818010 : Unit := ()
def tw8934435285231636031 : Unit := ()
def tw8377674353007642819 : Unit := ()
def tw17395404281250353855 : Unit := ()
def tw11681450657448553669 : Unit := ()
def tw12967266635988021029 : Unit := ()
def tw10706170465244359388 : Unit := ()
def tw9791682375611641876 : Unit := ()
def tw10506430641307776541 : Unit := ()
def tw13796384788334942002 : Unit := ()
def tw9771618075263538116 : Unit := ()
def tw6349655704434119654 : Unit := ()
def tw9502734599358990315 : Unit := ()
def tw6856571771905070274 : Unit := ()
def tw3487105102085830943 : Unit := ()
def tw1068395598195381030 : Unit := ()
def tw12044037322088575286 : Unit := ()
def tw16257535893045235022 : Unit := ()
def tw11705485924828162053 : Unit := ()
def tw9484642899920968689 : Unit := ()
def tw5476067441443443615 : Unit := ()
def tw13849798713000740674 : Unit := ()
def tw13321432517208132952 : Unit := ()
def tw518922635407941644 : Unit := ()
def tw4469713195409530889 : Unit := ()
def tw17722639016776577359 : Unit := ()
def tw12886791399504256577 : Unit := ()
def tw5955506470223337312 : Unit := ()
def tw6569457421057648476 : Unit := ()
def tw12742070942275476827 : Unit := ()
def tw18203199878698669065 : Unit := ()
def tw18041079901229458402 : Unit := ()
def tw9827871491327765605 : Unit := ()
def tw16521607325689990350 : Unit := ()
def tw6196253673600434104 : Unit := ()
def tw1024666912798849198 : Unit := ()
def tw17889535695919446024 : Unit := ()
def tw14189825864651431355 : Unit := ()
def tw14314603270127236809 : Unit := ()
def tw10099409703290844530 : Unit := ()
def tw15461225047304203272 : Unit := ()
def tw11454773533481881094 : Unit := ()
def tw16386232973833219773 : Unit := ()
def tw8028443046144245907 : Unit := ()
def tw3810627165162067908 : Unit := ()
def tw12893076505130485008 : Unit := ()
def tw8631544695339296466 : Unit := ()
def tw8278291172122752186 : Unit := ()
def tw14340550749101992576 : Unit := ()
def tw6947843420507799977 : Unit := ()
def tw7973550119107128859 : Unit := ()
def tw9711376399287439418 : Unit := ()
def tw1474453222900806986 : Unit := ()
def tw3910888358695557487 : Unit := ()
def tw9511267250126082249 : Unit := ()
def tw18065143056444106680 : Unit := ()
def tw1330954286162103480 : Unit := ()
def tw2702058752047537746 : Unit := ()
def tw16228456227666819784 : Unit := ()
def tw14084910598443293042 : Unit := ()
def tw1333232281651681011 : Unit := ()
def tw4603335293769821435 : Unit := ()
def tw844454113641010441 : Unit := ()
def tw14313920560204627929 : Unit := ()
def tw876757356168013937 : Unit := ()
def tw13434083541731623397 : Unit := ()
def tw431663062938280185 : Unit := ()
def tw8782992594252811903 : Unit := ()
def tw16711616764599604094 : Unit := ()
def tw17887234070574164455 : Unit := ()
def tw2948098112476549844 : Unit := ()
def tw12569009150201794078 : Unit := ()
def tw5235864362797521378 : Unit := ()
def tw8782845755251953576 : Unit := ()
def tw9291183231760945099 : Unit := ()
def tw14849272136378399785 : Unit := ()
def tw9673905688427801951 : Unit := ()
def tw501253057171671106 : Unit := ()
def tw12981939290745870237 : Unit := ()
def tw15244728643519194641 : Unit := ()
def tw2383465660341134662 : Unit := ()
def tw8376624560184703687 : Unit := ()
def tw15736786996336201467 : Unit := ()
def tw2730576963764675071 : Unit := ()
def tw17603233766372892316 : Unit := ()
def tw1867611443206042819 : Unit := ()
def tw1421266605352829712 : Unit := ()
def tw5727884426446302008 : Unit := ()
def tw17824209548781728351 : Unit := ()
def tw4038349939454822343 : Unit := ()
def tw16413848905753563754 : Unit := ()
def tw15496401116176142880 : Unit := ()
def tw5583771829063562101 : Unit := ()
def tw5336028349055880279 : Unit := ()
def tw9856076609091502283 : Unit := ()
def tw5688535830437775773 : Unit := ()
def tw13526234928678159038 : Unit := ()
def tw921231783465448721 : Unit := ()
def tw7863002427124770423 : Unit := ()
def tw11768670527323303843 : Unit := ()
def tw3245680437417831241 : Unit := ()
def tw11999488269183022838 : Unit := ()
def tw10742086197431524097 : Unit := ()
def tw4836797971514876660 : Unit := ()
def tw10314088207596747050 : Unit := ()
def tw509412239037981461 : Unit := ()
def tw2568668741214167400 : Unit := ()
def tw4097650320702495014 : Unit := ()
def tw3625486077664747867 : Unit := ()
def tw3352018213765404256 : Unit := ()
def tw3994317931022086603 : Unit := ()
def tw3157186371522267280 : Unit := ()
def tw3275921459951326261 : Unit := ()
def tw10223111907772023956 : Unit := ()
def tw8420012022570869532 : Unit := ()
def tw12086051123593523563 : Unit := ()
def tw57172981591744584 : Unit := ()
def tw14689342227020592632 : Unit := ()
def tw3561898416095071950 : Unit := ()
def tw7120157953617805955 : Unit := ()
def tw1527624580187611598 : Unit := ()
def tw9371005517113506263 : Unit := ()
def tw14306799661916421280 : Unit := ()
def tw10793232074971203299 : Unit := ()
def tw113833337584455834 : Unit := ()
def tw17932942118974396317 : Unit := ()
def tw2973305888367417635 : Unit := ()
def tw2218196594223169359 : Unit := ()
def tw7841482606195961801 : Unit := ()
def tw17112618468832355538 : Unit := ()
def tw17042127469401951884 : Unit := ()
def tw2519285493141268958 : Unit := ()
def tw1205412491286061097 : Unit := ()
def tw5749169302951393752 : Unit := ()
def tw8931692679765644880 : Unit := ()
def tw2541673111404193645 : Unit := ()
def tw692030841738120126 : Unit := ()
def tw1215618730542902998 : Unit := ()
def tw11439020296304366145 : Unit := ()
def tw7150008743572011293 : Unit := ()
def tw15886077535882638110 : Unit := ()
def tw12912044102026727061 : Unit := ()
def tw10185585757203709587 : Unit := ()
def tw2222051867194889927 : Unit := ()
def tw8611966885689826449 : Unit := ()
def tw6326078182779979777 : Unit := ()
def tw8404901026856666946 : Unit := ()
def tw13672510800482105167 : Unit := ()
def tw5177414187049929029 : Unit := ()
def tw10272853917490631413 : Unit := ()
def tw3120003603299454579 : Unit := ()
def tw11194691037526640676 : Unit := ()
def tw10796658946268026991 : Unit := ()
def tw3136849961460801809 : Unit := ()
def tw16222313170607110356 : Unit := ()
def tw1396281784254445611 : Unit := ()
def tw406395832486461867 : Unit := ()
def tw7621497062208914269 : Unit := ()
def tw17375384466995430968 : Unit := ()
def tw17239955160828156943 : Unit := ()
def tw11589725331034447131 : Unit := ()
def tw4755302489009032964 : Unit := ()
def tw10318562209002032737 : Unit := ()
def tw128933177331736975 : Unit := ()
def tw4236939551973088646 : Unit := ()
def tw17793170258657707139 : Unit := ()
def tw16717124610585707100 : Unit := ()
def tw11393027609729979011 : Unit := ()
def tw7890425638150203423 : Unit := ()
def tw2692617420513717987 : Unit := ()
def tw10482595064297125460 : Unit := ()
def tw7454565693635497874 : Unit := ()
def tw6531146844720864006 : Unit := ()
def tw17244094962697337695 : Unit := ()
def tw8169427731384031792 : Unit := ()
def tw7834499069902304008 : Unit := ()
def tw11399846159697312846 : Unit := ()
def tw15708765143205438373 : Unit := ()
def tw18159583340796038533 : Unit := ()
def tw15374485035177328258 : Unit := ()
def tw11980337997380408332 : Unit := ()
def tw11271506274865577374 : Unit := ()
def tw5950433157152917871 : Unit := ()
def tw17244092847381723907 : Unit := ()
def tw5183643059803768456 : Unit := ()
def tw12111444157057293832 : Unit := ()
def tw10585609294911261024 : Unit := ()
def tw6761396186080054786 : Unit := ()
def tw11765965325757050006 : Unit := ()
def tw15518095620330445980 : Unit := ()
def tw1885274449108297399 : Unit := ()
def tw17447780467260053703 : Unit := ()
def tw3372473842723580901 : Unit := ()
def tw15421295745645786820 : Unit := ()
def tw2996202136694937262 : Unit := ()
def tw13768537394873276382 : Unit := ()
def tw38009068637776845 : Unit := ()
def tw5961792366824321305 : Unit := ()
def tw8767075193426645572 : Unit := ()
def tw4776406395784957240 : Unit := ()
def tw11559289333815585541 : Unit := ()
def tw16708769169637100825 : Unit := ()
def tw2494756979846338387 : Unit := ()
def tw16776996182054419498 : Unit := ()
def tw15271836975722400564 : Unit := ()
def tw8180829553553496033 : Unit := ()
def tw10988662585949334943 : Unit := ()
def tw17754011893802631956 : Unit := ()
def tw8568723466399229393 : Unit := ()
def tw4694721066951051989 : Unit := ()
def tw12899037345604142648 : Unit := ()
def tw8518242938310760852 : Unit := ()
def tw17660206321574329507 : Unit := ()
def tw8411328584185753612 : Unit := ()
def tw9198953845048150876 : Unit := ()
def tw10886004079229075364 : Unit := ()

end Mine.hd
set_option Elab.async true
namespace Mine
open PySem PySem.W PyProof.Rows
def att0 : List Str := ((["__len__", "service", "subfunction", "suppress_positive_response", "data", "code", "positive", "valid", "invalid_reason", "service_data", "original_payload", "unexpected", "original_request", "code_name", "Code", "_sid", "_use_subfunction", "_no_response_data", "request_id", "response_id", "from_request_id", "from_response_id", "use_subfunction", "has_response_data", "get_name", "get_payload", "from_payload", "is_negative", "PositiveResponse", "is_supported_negative_response", "supported_negative_response", "always_valid_negative_response", "is_supported_by_standard", "ConditionsNotCorrect", "SubFunctionNotSupportedInActiveSession", "GeneralReject", "ServiceNotSupported", "SubFunctionNotSupported", "IncorrectMessageLengthOrInvalidFormat", "ResponseTooLong", "BusyRepeatRequest", "RequestSequenceError", "NoResponseFromSubnetComponent", "FailurePreventsExecutionOfRequestedAction", "RequestOutOfRange", "SecurityAccessDenied", "AuthenticationRequired", "InvalidKey", "ExceedNumberOfAttempts", "RequiredTimeDelayNotExpired", "SecureDataTransmissionRequired", "SecureDataTransmissionNotAllowed", "SecureDataVerificationFailed", "CertificateVerificationFailed_InvalidTimePeriod", "CertificateVerificationFailed_InvalidSignature", "CertificateVerificationFailed_InvalidChainOfTrust", "CertificateVerificationFailed_InvalidType", "CertificateVerificationFailed_InvalidFormat", "CertificateVerificationFailed_InvalidContent", "CertificateVerificationFailed_InvalidScope", "CertificateVerificationFailed_InvalidCertificate", "OwnershipVerificationFailed", "ChallengeCalculationFailed", "SettingAccessRightsFailed", "SessionKeyCreationDerivationFailed", "ConfigurationDataUsageFailed", "DeAuthenticationFailed", "UploadDownloadNotAccepted", "TransferDataSuspended", "GeneralProgrammingFailure", "WrongBlockSequenceCounter", "RequestCorrectlyReceived_ResponsePending", "ServiceNotSupportedInActiveSession", "RpmTooHigh", "RpmTooLow", "EngineIsRunning", "EngineIsNotRunning", "EngineRunTimeTooLow", "TemperatureTooHigh", "TemperatureTooLow", "VehicleSpeedTooHigh", "VehicleSpeedTooLow", "ThrottlePedalTooHigh", "ThrottlePedalTooLow", "TransmissionRangeNotInNeutral", "TransmissionRangeNotInGear", "BrakeSwitchNotClosed", "ShifterLeverNotInPark", "TorqueConverterClutchLocked", "VoltageTooHigh", "VoltageTooLow", "ResourceTemporarilyNotAvailable", "GeneralSecurityViolation", "SecuredModeRequested", "InsufficientProtection", "TerminationWithSignatureRequested", "AccessDenied", "VersionNotSupported", "SecuredLinkNotSupported", "CertificateNotAvailable", "AuditTrailInformationNotAvailable"] : List String).map Str.ofString)
theorem ndk (n : Nat) {o0 o1 : Obj} : (([(n + 1 + 1, o0), (n + 1, o1)] : List (Addr × Obj)).map (·.1)).Nodup := by
  simp <;> omega
set_option maxHeartbeats 8000000 in
theorem hd : PySem.Challenge.rw_ea5009_04.Holds := by
  w_on; o_law; k_head; (case hw => w_witness2)
  k_go0
  first
  | refine law_join (c := ⟨_, _, _root_.Mine.hd.heap_1_39 ?zpp, att0, ["seen"], T, ?zp1, ?zp2, ?zp3, ?zp4, ?zp5, _⟩) (x := "script") (vs := ?zvs) (cells := ?zcs) (m := ?zmm) (a := ?zaa) (script := ?zscr) ⟨?zkin, ?ztop, mkTab_ok (fs := tFs) (cs := tCs) ?zmk, rfl⟩ (n := 12) (F := f_law) rfl ?zK0 ?zF ?zN0 (by decide) (kc := 2) ?zhkc ?zhcn ?zcov ?znd ?znc ?zsc ?zm (script_list (P := ?zPP) (l := ?zll) ?zw ?zL) ?zI ?zcomp ?znl ?zrun ?zQ
  | refine law_join (c := ⟨_, _, ?zKK, att0, ["seen"], T, ?zp1, ?zp2, ?zp3, ?zp4, ?zp5, _⟩) (x := "script") (vs := ?zvs) (cells := ?zcs) (m := ?zmm) (a := ?zaa) (script := ?zscr) ⟨?zkin, ?ztop, mkTab_ok (fs := tFs) (cs := tCs) ?zmk, rfl⟩ (n := 12) (F := f_law) rfl ?zK0 ?zF ?zN0 (by decide) (kc := 2) ?zhkc ?zhcn ?zcov ?znd ?znc ?zsc ?zm (script_list (P := ?zPP) (l := ?zll) ?zw ?zL) ?zI ?zcomp ?znl ?zrun ?zQ
  case zkin => assumption
  case ztop => assumption
  case zmk => kernel_rfl
  case zK0 => assumption
  case zF => assumption
  case zN0 => assumption
  case zw => assumption
  case zL => assumption
  case zI => assumption
  case znd => exact ndk _
  case znc => kernel_rfl
  case zhkc => kernel_rfl
  case zhcn => kernel_rfl
  case zsc => kernel_rfl
  case zm => kernel_rfl
  case zcomp => kernel_rfl
  case znl => rfl
  case zcov =>
    intro i hi
    match i, hi with
    | 0, _ => exact ⟨_, _, .tail _ (.head _), by assumption⟩
    | 1, _ => exact ⟨_, _, .head _, by assumption⟩
  case zQ => exact fun h' tk m' F => goodW_bool F (by assumption) (fun _ => by kernel_rfl) (by kernel_rfl)
  case zrun => exact H4 _ (by omega)
end Mine
theorem PySem.Challenge.cw_ea5009_04_holds : PySem.Challenge.rw_ea5009_04.Holds :=
  Mine.hd
