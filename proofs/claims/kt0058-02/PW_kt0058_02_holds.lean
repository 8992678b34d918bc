import PyProof.Rows.All
import Wide.All
import OpenK.AllK
import Wide.FinOn
import PySem.Challenge.RW_kt0058_02
set_option Elab.async false
set_option linter.unusedVariables false
set_option linter.unusedSimpArgs false
set_option genSizeOf false
set_option genInjectivity false
set_option maxRecDepth 100000
theorem nN {α : Type _} {x : α} {C : Prop} (h : none = some x) : C := by cases h
theorem sN {α : Type _} {x : α} {C : Prop} (h : some x = none) : C := by cases h
theorem fB {C : Prop} (h : false = true) : C := by cases h
theorem tF {C : Prop} (h : true = false) : C := by cases h
theorem nL {α : Type _} {x : α} {C : Prop} (h : x ∈ ([] : List α)) : C := by cases h
theorem zN {n : Nat} {C : Prop} (h : n < 0) : C := absurd h (Nat.not_lt_zero n)
theorem sJ {α : Type _} {a b : α} (h : some a = some b) : a = b := Option.some.inj h
theorem aT {a b : Bool} (h : (a && b) = true) : a = true ∧ b = true := Bool.and_eq_true_iff.mp h
theorem aI {a b : Bool} (h : a = true ∧ b = true) : (a && b) = true := Bool.and_eq_true_iff.mpr h
namespace Ev
noncomputable abbrev Tx := List Nat
inductive TyN where | int | str | list | range | zip | type | object
  deriving DecidableEq
inductive BF where | len | max | min | sum
  deriving DecidableEq
inductive AV where
  | none
  | bool (b : Bool)
  | int (i : Int)
  | str (s : Tx)
  | tup (xs : List AV)
  | lst (xs : List AV)
  | ref (i : Nat)
  | fn (n : Nat)
  | cls
  | re (n : Nat)
  | bi (b : BF)
  | ty (t : TyN)
  | app (i : Nat)
  | lam
inductive BOp where | add | sub | mul | fdiv | mod | pow | shr
  deriving DecidableEq
inductive COp where | eq | ne | lt | le | gt | ge | is | isnot | in_ | notin
  deriving DecidableEq
inductive MN where | append | pop | join | lower | upper | replace | index | split | search | sub | find | other
  deriving DecidableEq
inductive AObj where
  | list (xs : List AV)
  | dict (es : List (Tx × AV))
  | idict (es : List (Tx × AV))
  | inst (d : Nat)
  | plain
noncomputable abbrev Cells := List AObj
noncomputable abbrev Fr := List (Option AV)
noncomputable def lim : Nat := 100000
noncomputable def natTx (n : Nat) : Tx := if n < 10 then [48 + n] else if n < 100 then [48 + n / 10, 48 + n % 10] else []
noncomputable def intTx : Tx → Option Int
  | [c] => if 48 ≤ c ∧ c ≤ 57 then some ((c - 48 : Nat) : Int) else none
  | _ => none
noncomputable def lowC (c : Nat) : Nat := if 65 ≤ c ∧ c ≤ 90 then c + 32 else c
noncomputable def upC (c : Nat) : Nat := if 97 ≤ c ∧ c ≤ 122 then c - 32 else c
noncomputable def ascii (s : Tx) : Bool := s.all (· < 128)
noncomputable def ltTx : Tx → Tx → Bool
  | [], [] => false
  | [], _ :: _ => true
  | _ :: _, [] => false
  | a :: r, b :: q => if a < b then true else if b < a then false else ltTx r q
noncomputable def replC (c : Nat) (y : Tx) (s : Tx) : Tx := s.flatMap fun x => if x = c then y else [x]
noncomputable def idxC (c : Nat) : Tx → Nat → Option Nat
  | [], _ => none
  | x :: r, i => if x = c then some i else idxC c r (i + 1)
noncomputable def joinTx (sep : Tx) : List Tx → Tx
  | [] => []
  | [x] => x
  | x :: r => x ++ sep ++ joinTx sep r
noncomputable def fromZ (n : Nat) (i : Int) : Nat := (max 0 (if i < 0 then i + n else i)).toNat
noncomputable def findTx (s p : Tx) (i j : Int) : Int := (PySem.Builtin.Str.occurrences ⟨s.toArray⟩ ⟨p.toArray⟩ (fromZ s.length i) (min (fromZ s.length j) s.length) 1).head?.elim (-1) fun k => (k : Int)
noncomputable def okSign (c : Nat) : Bool := 32 ≤ c && c < 127
noncomputable def noAmp (c : Nat) : Bool := c < 128 && c != 38 && c != 124 && c != 126
noncomputable def idxZ (n : Nat) (i : Int) : Option Nat := if 0 ≤ i then (if i < n then some i.toNat else none) else if 0 ≤ i + n then some (i + n).toNat else none
noncomputable def clampZ (n : Nat) (i : Int) : Nat := (max 0 (min (if i < 0 then i + n else i) (n : Int))).toNat
noncomputable def cut {α : Type} (xs : List α) (lo hi : Nat) : List α := (xs.take hi).drop lo
noncomputable def AV.int? : AV → Option Int
  | .int i => .some i
  | _ => .none
noncomputable def AV.str? : AV → Option Tx
  | .str s => .some s
  | _ => .none
noncomputable def AV.tup? : AV → Option (List AV)
  | .tup xs => .some xs
  | _ => .none
noncomputable def AV.lst? : AV → Option (List AV)
  | .lst xs => .some xs
  | _ => .none
noncomputable def AV.bool? : AV → Option Bool
  | .bool b => .some b
  | _ => .none
noncomputable def AV.ref? : AV → Option Nat
  | .ref i => .some i
  | _ => .none
noncomputable def AV.re? : AV → Option Nat
  | .re i => .some i
  | _ => .none
noncomputable def AV.ty? : AV → Option TyN
  | .ty t => .some t
  | _ => .none
noncomputable def AV.none? : AV → Bool
  | .none => true
  | _ => false
noncomputable def AV.bi? : AV → Bool
  | .bi _ => true
  | _ => false
noncomputable def AV.lam? : AV → Bool
  | .lam => true
  | _ => false
noncomputable def allStr : List AV → Option (List Tx)
  | [] => some []
  | x :: r => x.str?.bind fun s => (allStr r).map (s :: ·)
noncomputable def allInt : List AV → Option (List Int)
  | [] => some []
  | x :: r => x.int?.bind fun i => (allInt r).map (i :: ·)
mutual
noncomputable def below (n : Nat) : AV → Bool
  | .tup xs => belows n xs
  | .lst xs => belows n xs
  | .ref i => i < n
  | .app i => i < n
  | _ => true
noncomputable def belows (n : Nat) : List AV → Bool
  | [] => true
  | x :: r => below n x && belows n r
end
noncomputable def AObj.list? : AObj → Option (List AV)
  | .list xs => some xs
  | _ => none
noncomputable def AObj.dict? : AObj → Option (List (Tx × AV))
  | .dict es => some es
  | _ => none
noncomputable def AObj.inst? : AObj → Option Nat
  | .inst d => some d
  | _ => none
noncomputable def AObj.idict? : AObj → Option (List (Tx × AV))
  | .idict es => some es
  | _ => none
noncomputable def listAt (cs : Cells) (i : Nat) : Option (List AV) := (cs[i]?).bind AObj.list?
noncomputable def dictAt (cs : Cells) (i : Nat) : Option (List (Tx × AV)) := (cs[i]?).bind AObj.dict?
noncomputable def instAt (cs : Cells) (i : Nat) : Option Nat := (cs[i]?).bind AObj.inst?
noncomputable def idictAt (cs : Cells) (d : Nat) : Option (List (Tx × AV)) := (cs[d]?).bind AObj.idict?
noncomputable abbrev orElse {α β : Type} (a : Option α) (f : α → β) (d : β) : β := Option.elim a d f
noncomputable def one? {α : Type} : List α → Option α
  | [a] => some a
  | _ => none
noncomputable def three? {α : Type} : List α → Option (α × α × α)
  | [a, b, c] => some (a, b, c)
  | _ => none
noncomputable def two? {α : Type} : List α → Option (α × α)
  | [a, b] => some (a, b)
  | _ => none
noncomputable def listOf (cs : Cells) (a : AV) : Option (List AV) := orElse a.lst? some (a.ref?.bind (listAt cs))
noncomputable def eqvs (f : AV → AV → Option Bool) : List AV → List AV → Option Bool
  | [], ys => some ys.isEmpty
  | _ :: _, [] => some false
  | x :: xs, y :: ys => (f x y).bind fun a => (eqvs f xs ys).map (a && ·)
noncomputable def eqv (cs : Cells) : Nat → AV → AV → Option Bool
  | 0, _, _ => none
  | n + 1, a, b => orElse a.int? (fun x => b.int?.map (x == ·)) (orElse a.str? (fun x => b.str?.map (x == ·)) (orElse a.tup? (fun xs => b.tup?.bind (eqvs (eqv cs n) xs))
      ((listOf cs a).bind fun xs => (listOf cs b).bind fun ys => if xs.length = ys.length then eqvs (eqv cs n) xs ys else some false)))
noncomputable def ltvs (e f : AV → AV → Option Bool) : List AV → List AV → Option Bool
  | [], ys => some (!ys.isEmpty)
  | _ :: _, [] => some false
  | x :: xs, y :: ys => (e x y).bind fun t => if t then ltvs e f xs ys else f x y
noncomputable def ltv (cs : Cells) : Nat → AV → AV → Option Bool
  | 0, _, _ => none
  | n + 1, a, b => orElse a.int? (fun x => b.int?.map fun y => decide (x < y)) (orElse a.str? (fun x => b.str?.map (ltTx x)) (a.tup?.bind fun xs => b.tup?.bind (ltvs (eqv cs n) (ltv cs n) xs)))
noncomputable def fuelEq : Nat := 8
noncomputable def isv (a b : AV) : Option Bool := if b.none? then (if a.bi? then none else some a.none?) else orElse a.ref? (fun i => b.ref?.map (i == ·)) (orElse a.str? (fun _ => b.ref?.map fun _ => false) (a.ty?.bind fun x => b.ty?.map (x == ·)))
noncomputable def membv (cs : Cells) (a : AV) : List AV → Option Bool
  | [] => some false
  | y :: r => (eqv cs fuelEq y a).bind fun t => (membv cs a r).map (t || ·)
noncomputable def inv (cs : Cells) (a b : AV) : Option Bool := orElse b.str? (fun s => (a.str?.bind one?).map s.contains) (orElse b.tup? (membv cs a) ((listOf cs b).bind (membv cs a)))
noncomputable def ordv (f : Int → Int → Bool) (g : Tx → Tx → Bool) (a b : AV) : Option Bool := orElse a.int? (fun x => b.int?.map (f x)) (a.str?.bind fun x => b.str?.map (g x))
noncomputable def cmpv (cs : Cells) (op : COp) (a b : AV) : Option Bool := match op with
  | .eq => orElse a.bool? (fun x => b.bool?.map (x == ·)) (eqv cs fuelEq a b)
  | .ne => orElse a.bool? (fun x => b.bool?.map (x != ·)) (if a.none? then b.str?.map fun _ => true else (eqv cs fuelEq a b).map (!·))
  | .lt => ltv cs fuelEq a b
  | .gt => ordv (fun x y => decide (y < x)) (fun x y => ltTx y x) a b
  | .le => ordv (fun x y => decide (x ≤ y)) (fun x y => !ltTx y x) a b
  | .ge => a.int?.bind fun x => b.int?.map fun y => decide (y ≤ x)
  | .is => isv a b
  | .isnot => (isv a b).map (!·)
  | .in_ => inv cs a b
  | .notin => (inv cs a b).map (!·)
noncomputable def truthy (cs : Cells) (a : AV) : Option Bool := orElse a.bool? some (orElse a.int? (fun i => some (i != 0)) (orElse a.str? (fun s => some (!s.isEmpty)) (if a.none? then some false else (listOf cs a).map (!·.isEmpty))))
noncomputable def mk (m : Bool) (xs : List AV) (cs : Cells) : Option (AV × Cells) := if xs.length ≤ lim then some (if m then (.ref cs.length, cs ++ [.list xs]) else (.lst xs, cs)) else none
noncomputable def rep {α : Type} (n : Nat) (xs : List α) : List α := match n with
  | 0 => []
  | n + 1 => xs ++ rep n xs
noncomputable def powZ (a : Int) (b : Nat) : Int := a ^ b
noncomputable def intv (a b : AV) (cs : Cells) (f : Int → Int → Option Int) : Option (AV × Cells) := a.int?.bind fun x => b.int?.bind fun y => (f x y).map fun z => (.int z, cs)
noncomputable def binv (m : Bool) (op : BOp) (a b : AV) (cs : Cells) : Option (AV × Cells) := match op with
  | .add => orElse a.int? (fun x => b.int?.map fun y => (.int (x + y), cs)) (orElse a.str? (fun x => b.str?.bind fun y => if x.length + y.length ≤ lim then some (.str (x ++ y), cs) else none)
      ((listOf cs a).bind fun xs => (listOf cs b).bind fun ys => mk m (xs ++ ys) cs))
  | .sub => intv a b cs fun x y => some (x - y)
  | .mul => orElse a.int? (fun x => b.int?.bind fun y => if x.natAbs < 2 ^ 64 ∧ y.natAbs < 2 ^ 64 then some (.int (x * y), cs) else none)
      ((listOf cs a).bind fun xs => b.int?.bind fun n => if 0 ≤ n ∧ n ≤ 16 then mk m (rep n.toNat xs) cs else none)
  | .fdiv => intv a b cs fun x y => if 0 < y ∧ y.natAbs < 2 ^ 64 then some (x / y) else none
  | .mod => intv a b cs fun x y => if 0 < y then some (x % y) else none
  | .pow => intv a b cs fun x y => if 0 ≤ y ∧ y ≤ 16 ∧ 0 ≤ x ∧ x ≤ 16 then some (powZ x y.toNat) else none
  | .shr => intv a b cs fun x y => if y = 1 ∧ 0 ≤ x then some (x / 2) else none
noncomputable def augv (op : BOp) (a b : AV) : Option AV := match op with
  | .add => orElse a.int? (fun x => b.int?.map fun y => .int (x + y)) (a.str?.bind fun x => b.str?.bind fun y => if x.length + y.length ≤ lim then some (.str (x ++ y)) else none)
  | .fdiv => a.int?.bind fun x => b.int?.bind fun y => if 0 < y ∧ y.natAbs < 2 ^ 64 then some (.int (x / y)) else none
  | _ => none
noncomputable def idxv (cs : Cells) (o i : AV) : Option AV := orElse i.int? (fun i => orElse o.str? (fun s => (idxZ s.length i).bind fun k => (s[k]?).map fun c => .str [c])
    (orElse o.tup? (fun xs => (idxZ xs.length i).bind fun k => xs[k]?) ((listOf cs o).bind fun xs => (idxZ xs.length i).bind fun k => xs[k]?)))
  (i.str?.bind fun k => (o.ref?.bind (dictAt cs)).bind fun es => es.lookup k)
noncomputable def boundv (n d : Nat) (a : AV) : Option Nat := if a.none? then some d else a.int?.map (clampZ n)
noncomputable def slcv (m : Bool) (cs : Cells) (o lo hi : AV) : Option (AV × Cells) :=
  orElse o.str? (fun s => (boundv s.length 0 lo).bind fun l => (boundv s.length s.length hi).map fun h => (.str (cut s l h), cs))
    ((listOf cs o).bind fun xs => (boundv xs.length 0 lo).bind fun l => (boundv xs.length xs.length hi).bind fun h => mk m (cut xs l h) cs)
noncomputable def maxL : Int → List Int → Int
  | a, [] => a
  | a, x :: r => maxL (if a < x then x else a) r
noncomputable def minL : Int → List Int → Int
  | a, [] => a
  | a, x :: r => minL (if x < a then x else a) r
noncomputable def maxOf : List Int → Option Int
  | [] => none
  | x :: r => some (maxL x r)
noncomputable def minOf : List Int → Option Int
  | [] => none
  | x :: r => some (minL x r)
noncomputable def intsOf (cs : Cells) (args : List AV) : Option (List Int) := (one? args).bind fun a => (listOf cs a).bind allInt
noncomputable def bicall (f : BF) (args : List AV) (cs : Cells) : Option (AV × Cells) := match f with
  | .len => (one? args).bind fun a => orElse a.str? (fun s => some (.int s.length, cs)) ((listOf cs a).map fun xs => (.int xs.length, cs))
  | .max => orElse (two? args) (fun p => p.1.int?.bind fun a => p.2.int?.map fun b => (.int (if a < b then b else a), cs)) ((intsOf cs args).bind fun xs => (maxOf xs).map fun x => (.int x, cs))
  | .min => orElse (two? args) (fun p => p.1.int?.bind fun a => p.2.int?.map fun b => (.int (if b < a then b else a), cs)) none
  | .sum => none
noncomputable def tycall (t : TyN) (args : List AV) (cs : Cells) : Option (AV × Cells) := match t with
  | .int => (one? args).bind fun a => (a.str?.bind intTx).map fun i => (.int i, cs)
  | .str => (one? args).bind fun a => a.int?.bind fun i => if 0 ≤ i ∧ i < 100 then some (.str (natTx i.toNat), cs) else none
  | .type => (one? args).bind fun a => orElse a.str? (fun _ => some (.ty .str, cs)) ((listOf cs a).map fun _ => (.ty .list, cs))
  | .object => if args.isEmpty then some (.ref cs.length, cs ++ [.plain]) else none
  | _ => none
noncomputable def bcall (f : AV) (args : List AV) (cs : Cells) : Option (AV × Cells) := match f with
  | .bi b => bicall b args cs
  | .ty t => tycall t args cs
  | _ => none
noncomputable def put (n : Nat) (i : Nat) (v : AV) : Bool := n ≤ i || below 0 v
noncomputable def appendv (n : Nat) (i : Nat) (v : AV) (cs : Cells) : Option (AV × Cells) := (listAt cs i).bind fun xs => if put n i v && xs.length < lim then some (.none, cs.set i (.list (xs ++ [v]))) else none
noncomputable def MN.ofStr : MN → Bool
  | .join => true | .lower => true | .upper => true | .replace => true | .index => true
  | .find => true
  | _ => false
noncomputable def MN.ofList : MN → Bool
  | .append => true | .pop => true
  | _ => false
noncomputable def MN.ofRe : MN → Bool
  | .search => true | .sub => true
  | _ => false
noncomputable def methOk (cs : Cells) (o : AV) (nm : MN) : Bool := orElse o.str? (fun _ => nm.ofStr) (orElse o.ref? (fun i => (listAt cs i).isSome && nm.ofList) (o.re?.isSome && nm.ofRe))
noncomputable def strCall (nm : MN) (s : Tx) (args : List AV) (cs : Cells) : Option (AV × Cells) := match nm with
  | .join => (one? args).bind fun a => ((listOf cs a).bind allStr).bind fun xs => if (joinTx s xs).length ≤ lim then some (.str (joinTx s xs), cs) else none
  | .lower => if args.isEmpty && ascii s then some (.str (s.map lowC), cs) else none
  | .upper => if args.isEmpty && ascii s then some (.str (s.map upC), cs) else none
  | .replace => (two? args).bind fun p => (p.1.str?.bind one?).bind fun c => p.2.str?.bind fun _ => if c ∉ s then some (.str s, cs) else none
  | .index => (one? args).bind fun a => ((a.str?.bind one?).bind fun c => idxC c s 0).map fun (k : Nat) => (.int (k : Int), cs)
  | .find => (three? args).bind fun p => p.1.str?.bind fun y => p.2.1.int?.bind fun i => p.2.2.int?.map fun j => (.int (findTx s y i j), cs)
  | _ => none
noncomputable def listCall (n : Nat) (nm : MN) (i : Nat) (args : List AV) (cs : Cells) : Option (AV × Cells) := match nm with
  | .append => (one? args).bind fun v => appendv n i v cs
  | .pop => if args.isEmpty then (listAt cs i).bind fun xs => (xs.getLast?).map fun v => (v, cs.set i (.list xs.dropLast)) else none
  | _ => none
noncomputable def reCall (nm : MN) (k : Nat) (args : List AV) (cs : Cells) : Option (AV × Cells) := match nm with
  | .search => (one? args).bind fun a => a.str?.bind fun s => if k < 2 ∧ s.all okSign then some (.none, cs) else none
  | .sub => (two? args).bind fun p => if p.1.lam? then p.2.str?.bind fun s => if k = 2 ∧ s.all noAmp then some (.str s, cs) else none else none
  | _ => none
noncomputable def mcall (n : Nat) (o : AV) (nm : MN) (args : List AV) (cs : Cells) : Option (AV × Cells) := orElse o.str? (fun s => strCall nm s args cs) (orElse o.ref? (fun i => listCall n nm i args cs) (o.re?.bind fun k => reCall nm k args cs))
noncomputable def dput (k : Tx) (v : AV) (es : List (Tx × AV)) : List (Tx × AV) :=
  if es.any (fun kv => decide (kv.1 = k)) then es.map (fun kv => if kv.1 = k then (kv.1, v) else kv) else es ++ [(k, v)]
noncomputable def setIdx (n : Nat) (o i v : AV) (cs : Cells) : Option Cells := o.ref?.bind fun j =>
  orElse i.int? (fun k => (listAt cs j).bind fun xs => if put n j v ∧ 0 ≤ k ∧ k < xs.length then some (cs.set j (.list (xs.set k.toNat v))) else none)
    (i.str?.bind fun k => (dictAt cs j).bind fun es => if put n j v ∧ es.length < lim then some (cs.set j (.dict (dput k v es))) else none)
noncomputable def instOf (cs : Cells) (o : AV) : Option (Nat × List (Tx × AV)) := o.ref?.bind fun i => (instAt cs i).bind fun d => (idictAt cs d).map fun es => (d, es)
noncomputable def attrv (cs : Cells) (o : AV) (nm : Tx) : Option AV := (instOf cs o).bind fun p => p.2.lookup nm
noncomputable def isInst (cs : Cells) (o : AV) : Bool := (instOf cs o).isSome
noncomputable def rangeL (a c : Int) : Nat → List AV
  | 0 => []
  | n + 1 => .int a :: rangeL (a + c) c n
inductive It where
  | items (xs : List AV)
  | cell (i : Nat)
noncomputable def itv (cs : Cells) (a : AV) : Option It := orElse a.str? (fun s => if ascii s then some (.items (s.map fun c => .str [c])) else none) (orElse a.tup? (fun xs => some (.items xs)) (orElse a.lst? (fun xs => some (.items xs))
  (a.ref?.bind fun i => (listAt cs i).map fun _ => .cell i)))
noncomputable def zipIt (a : AV) : Option (List AV) := orElse a.str? (fun s => if ascii s then some (s.map fun c => .str [c]) else none) a.lst?
noncomputable def zipL : List AV → List AV → List AV
  | [], _ => []
  | _ :: _, [] => []
  | x :: xs, y :: ys => .tup [x, y] :: zipL xs ys
inductive Fl where
  | next | brk | cont
  | ret (v : AV)
noncomputable def setAll (is : List Nat) (xs : List AV) (fr : Fr) : Fr := (is.zip xs).foldl (fun fr p => fr.set p.1 (some p.2)) fr
noncomputable def bindT (is : List Nat) (v : AV) (fr : Fr) : Option Fr := orElse (one? is) (fun i => if i < fr.length then some (fr.set i (some v)) else none)
  (v.tup?.bind fun xs => if is.length = xs.length ∧ is.all (· < fr.length) then some (setAll is xs fr) else none)
noncomputable def bindN (t : List Nat) (x : AV) (fr : Fr) : Option Fr := if t.all (fun i => decide (i < fr.length) && ((fr[i]?).join).isNone) then bindT t x fr else none
noncomputable abbrev CF := Nat → List AV → Option AV → Cells → Option (AV × Cells)
structure Wd where
  cf : CF
  setN : Nat
  delN : Nat
  new : Cells → Option (AV × Cells)
noncomputable def callv (W : Wd) (f : AV) (args : List AV) (n : Nat) (cs : Cells) : Option (AV × Cells) := match f with
  | .fn k => W.cf k args none cs
  | .app i => (one? args).bind fun v => appendv n i v cs
  | f => bcall f args cs
noncomputable def goItems {σ : Type} (st : AV → σ → Option σ) : List AV → σ → Option σ
  | [], s => some s
  | x :: r, s => (st x s).bind (goItems st r)
noncomputable def goCell {σ : Type} (cells : σ → Cells) (i : Nat) (st : AV → σ → Option σ) : Nat → Nat → σ → Option σ
  | 0, _, _ => none
  | f + 1, k, s => (listAt (cells s) i).bind fun xs => orElse xs[k]? (fun x => (st x s).bind (goCell cells i st f (k + 1))) (some s)
noncomputable def goIt {σ : Type} (cells : σ → Cells) (st : AV → σ → Option σ) (fuel : Nat) (it : It) (s : σ) : Option σ := match it with
  | .items xs => goItems st xs s
  | .cell i => goCell cells i st fuel 0 s
noncomputable def loopFuel : Nat := 4000
noncomputable abbrev Pc (α : Type) := Wd → Nat → Fr → Cells → Option (α × Cells)
noncomputable abbrev ME := Pc AV
noncomputable abbrev MB := Pc Bool
noncomputable def evEs (W : Wd) (n : Nat) : List ME → Fr → Cells → Option (List AV × Cells)
  | [], _, cs => some ([], cs)
  | e :: r, fr, cs => (e W n fr cs).bind fun q => (evEs W n r fr q.2).map fun p => (q.1 :: p.1, p.2)
noncomputable def evAO (W : Wd) (n : Nat) (o : Bool) : List MB → Fr → Cells → Option (Bool × Cells)
  | [], _, cs => some (o, cs)
  | e :: r, fr, cs => (e W n fr cs).bind fun q => if q.1 = o then evAO W n o r fr q.2 else some q
noncomputable def evAOV (W : Wd) (n : Nat) (o : Bool) : List ME → Fr → Cells → Option (AV × Cells)
  | [], _, _ => none
  | e :: r, fr, cs => (e W n fr cs).bind fun q => q.1.bool?.bind fun b => if r.isEmpty then some (.bool b, q.2) else if b = o then evAOV W n o r fr q.2 else some (.bool b, q.2)
structure MI where
  zip : Bool
  run : Pc It
structure Cl where
  k : Nat
  t : List Nat
  it : MI
  ifs : List MB
noncomputable def evC (W : Wd) (n : Nat) (elt : ME) : List Cl → Fr → Cells → List AV → Option (List AV × Cells)
  | [], fr, cs, acc => (elt W n fr cs).bind fun r => if acc.length < lim then some (acc ++ [r.1], r.2) else none
  | c :: r, fr, cs, acc => (c.it.run W n fr cs).bind fun q =>
      goIt (fun s : List AV × Cells => s.2) (fun x s => (bindN c.t x (fr ++ List.replicate c.k none)).bind fun fr' => (evAO W n true c.ifs fr' s.2).bind fun p =>
        if p.1 then evC W n elt r fr' p.2 s.1 else some (s.1, p.2)) loopFuel q.1 (acc, q.2)
noncomputable def eFail {α : Type} : Pc α := fun _ _ _ _ => none
noncomputable def eLit (v : AV) : ME := fun _ _ _ cs => some (v, cs)
noncomputable def eVar (i : Nat) : ME := fun _ _ fr cs => ((fr[i]?).join).map fun v => (v, cs)
noncomputable def eBin (m : Bool) (op : BOp) (a b : ME) : ME := fun W n fr cs => (a W n fr cs).bind fun r => (b W n fr r.2).bind fun q => binv m op r.1 q.1 q.2
noncomputable def eNeg (a : ME) : ME := fun W n fr cs => (a W n fr cs).bind fun r => r.1.int?.map fun i => (.int (-i), r.2)
noncomputable def eNot (a : ME) : ME := fun W n fr cs => (a W n fr cs).bind fun r => (truthy r.2 r.1).map fun b => (.bool (!b), r.2)
noncomputable def eAO (o : Bool) (es : List ME) : ME := fun W n fr cs => evAOV W n o es fr cs
noncomputable def eIte (c : MB) (a b : ME) : ME := fun W n fr cs => (c W n fr cs).bind fun r => if r.1 then a W n fr r.2 else b W n fr r.2
noncomputable def eCmp (op : COp) (a b : ME) : ME := fun W n fr cs => (a W n fr cs).bind fun r => (b W n fr r.2).bind fun q => (cmpv q.2 op r.1 q.1).map fun x => (.bool x, q.2)
noncomputable def eTup (es : List ME) : ME := fun W n fr cs => (evEs W n es fr cs).bind fun r => if r.1.length ≤ lim then some (.tup r.1, r.2) else none
noncomputable def eList (m : Bool) (es : List ME) : ME := fun W n fr cs => (evEs W n es fr cs).bind fun r => mk m r.1 r.2
noncomputable def eDict : ME := fun _ _ _ cs => some (.ref cs.length, cs ++ [.dict []])
noncomputable def eComp (m : Bool) (elt : ME) (c : List Cl) : ME := fun W n fr cs => (evC W n elt c fr cs []).bind fun r => mk m r.1 r.2
noncomputable def eCall (f : ME) (as : List ME) : ME := fun W n fr cs => (f W n fr cs).bind fun r => (evEs W n as fr r.2).bind fun q => callv W r.1 q.1 n q.2
noncomputable def eMeth (o : ME) (nm : MN) (own : Option Nat) (as : List ME) : ME := fun W n fr cs => (o W n fr cs).bind fun r => (evEs W n as fr r.2).bind fun q =>
  if isInst r.2 r.1 then own.bind fun k => W.cf k (r.1 :: q.1) none q.2 else if methOk r.2 r.1 nm then mcall n r.1 nm q.1 q.2 else none
noncomputable def eMethk (o : ME) (k : Nat) (as : List ME) (kw : ME) : ME := fun W n fr cs => (o W n fr cs).bind fun r => (evEs W n as fr r.2).bind fun q => (kw W n fr q.2).bind fun p => if isInst r.2 r.1 then W.cf k (r.1 :: q.1) (some p.1) p.2 else none
noncomputable def eNew : ME := fun W _ _ cs => W.new cs
noncomputable def eAttr (o : ME) (nm : Tx) : ME := fun W n fr cs => (o W n fr cs).bind fun r => (attrv r.2 r.1 nm).map fun v => (v, r.2)
noncomputable def eAttrApp (o : ME) : ME := fun W n fr cs => (o W n fr cs).bind fun r => r.1.ref?.bind fun i => (listAt r.2 i).map fun _ => (.app i, r.2)
noncomputable def eIdx (o i : ME) : ME := fun W n fr cs => (o W n fr cs).bind fun r => (i W n fr r.2).bind fun q => (idxv q.2 r.1 q.1).map fun v => (v, q.2)
noncomputable def eSlc (m : Bool) (o lo hi : ME) : ME := fun W n fr cs => (o W n fr cs).bind fun r => (lo W n fr r.2).bind fun p => (hi W n fr p.2).bind fun q => slcv m q.2 r.1 p.1 q.1
noncomputable def eFstr (es : List ME) : ME := fun W n fr cs => (evEs W n es fr cs).bind fun r => (allStr r.1).bind fun xs => if (joinTx [] xs).length ≤ lim then some (.str (joinTx [] xs), r.2) else none
noncomputable def eLam : ME := fun _ _ _ cs => some (.lam, cs)
noncomputable def eGJ (ban : List Nat) (sep : Tx) (it : ME) : ME := fun W n fr cs => (it W n fr cs).bind fun r => ((listOf r.2 r.1).bind allStr).bind fun ts =>
  if (ts.all (fun t => ban.all fun c => !(t.contains c)) && decide ((joinTx sep ts).length ≤ lim)) = true then some (.str (joinTx sep ts), r.2) else none
noncomputable def bOf (e : ME) : MB := fun W n fr cs => (e W n fr cs).bind fun r => (truthy r.2 r.1).map fun b => (b, r.2)
noncomputable def bNot (a : MB) : MB := fun W n fr cs => (a W n fr cs).map fun r => (!r.1, r.2)
noncomputable def bAO (o : Bool) (es : List MB) : MB := fun W n fr cs => evAO W n o es fr cs
noncomputable def bIte (c a b : MB) : MB := fun W n fr cs => (c W n fr cs).bind fun r => if r.1 then a W n fr r.2 else b W n fr r.2
noncomputable def bCmp (op : COp) (a b : ME) : MB := fun W n fr cs => (a W n fr cs).bind fun r => (b W n fr r.2).bind fun q => (cmpv q.2 op r.1 q.1).map fun x => (x, q.2)
noncomputable def bCmp2 (o1 o2 : COp) (a b c : ME) : MB := fun W n fr cs => (a W n fr cs).bind fun r => (b W n fr r.2).bind fun q => (cmpv q.2 o1 r.1 q.1).bind fun x =>
  if x then (c W n fr q.2).bind fun p => (cmpv p.2 o2 q.1 p.1).map fun y => (y, p.2) else some (false, q.2)
noncomputable def iVal (e : ME) : MI := ⟨false, fun W n fr cs => (e W n fr cs).bind fun r => (itv r.2 r.1).map fun i => (i, r.2)⟩
noncomputable def near (i : Int) : Bool := decide (-1000 ≤ i ∧ i ≤ 1000)
noncomputable def rangeOf : List Int → Option (List AV)
  | [k] => if near k then some (rangeL 0 1 k.toNat) else none
  | [i, j] => if near i && near j then some (rangeL i 1 (j - i).toNat) else none
  | [i, j, k] => if near i && near j && decide (k = -1) then some (rangeL i (-1) (i - j).toNat) else none
  | _ => none
noncomputable def iRange (es : List ME) : MI := ⟨false, fun W n fr cs => (evEs W n es fr cs).bind fun q => ((allInt q.1).bind rangeOf).map fun xs => (.items xs, q.2)⟩
noncomputable def iZip (es : List ME) : MI := ⟨true, fun W n fr cs => (evEs W n es fr cs).bind fun q => (two? q.1).bind fun p => (zipIt p.1).bind fun xs => (zipIt p.2).map fun ys => (.items (zipL xs ys), q.2)⟩
set_option genInjectivity true in
structure Ou where
  fl : Fl
  fr : Fr
  cs : Cells
noncomputable abbrev MS := Wd → Nat → Fr → Cells → Option Ou
noncomputable abbrev MT := AV → Wd → Nat → Fr → Cells → Option (Fr × Cells)
noncomputable def tVar (i : Nat) : MT := fun v _ _ fr cs => if i < fr.length then some (fr.set i (some v), cs) else none
noncomputable def tIdx (o i : ME) : MT := fun v W n fr cs => (o W n fr cs).bind fun r => (i W n fr r.2).bind fun q => if isInst q.2 r.1 then (W.cf W.setN [r.1, q.1, v] none q.2).map fun z => (fr, z.2)
    else (setIdx n r.1 q.1 v q.2).map fun cs => (fr, cs)
noncomputable def tAttr (o : ME) (nm : Tx) : MT := fun v W n fr cs => (o W n fr cs).bind fun r => (instOf r.2 r.1).bind fun p => if put n p.1 v then some (fr, r.2.set p.1 (.idict (dput nm v p.2))) else none
noncomputable def Ou.then (o : Ou) (k : Fr → Cells → Option Ou) : Option Ou := match o.fl with
  | .next => k o.fr o.cs
  | .cont => k o.fr o.cs
  | .brk => some ⟨.next, o.fr, o.cs⟩
  | .ret v => some ⟨.ret v, o.fr, o.cs⟩
noncomputable def whileGo (st : Fr → Cells → Option Ou) : Nat → Fr → Cells → Option Ou
  | 0, _, _ => none
  | f + 1, fr, cs => (st fr cs).bind fun o => o.then (whileGo st f)
noncomputable def forItems (st : AV → Fr → Cells → Option Ou) : List AV → Fr → Cells → Option Ou
  | [], fr, cs => some ⟨.next, fr, cs⟩
  | x :: r, fr, cs => (st x fr cs).bind fun o => o.then (forItems st r)
noncomputable def forCell (st : AV → Fr → Cells → Option Ou) (i : Nat) : Nat → Nat → Fr → Cells → Option Ou
  | 0, _, _, _ => none
  | f + 1, k, fr, cs => (listAt cs i).bind fun xs => orElse xs[k]? (fun x => (st x fr cs).bind fun o => o.then (forCell st i f (k + 1))) (some ⟨.next, fr, cs⟩)
noncomputable def forGo (st : AV → Fr → Cells → Option Ou) (it : It) (fr : Fr) (cs : Cells) : Option Ou := match it with
  | .items xs => forItems st xs fr cs
  | .cell i => forCell st i loopFuel 0 fr cs
noncomputable def extendv (n : Nat) (a b : AV) (cs : Cells) : Option Cells := a.ref?.bind fun i => (listAt cs i).bind fun xs => (listOf cs b).bind fun ys => if (n ≤ i || belows 0 ys) && xs.length + ys.length ≤ lim then some (cs.set i (.list (xs ++ ys))) else none
noncomputable def evSs (W : Wd) (n : Nat) : List MS → Fr → Cells → Option Ou
  | [], fr, cs => some ⟨.next, fr, cs⟩
  | s :: r, fr, cs => (s W n fr cs).bind fun o => match o.fl with
    | .next => evSs W n r o.fr o.cs
    | .brk => some o
    | .cont => some o
    | .ret _ => some o
noncomputable def sFail : MS := fun _ _ _ _ => none
noncomputable def sExpr (e : ME) : MS := fun W n fr cs => (e W n fr cs).bind fun r => if r.1.none? then some ⟨.next, fr, r.2⟩ else none
noncomputable def sAssign (t : MT) (e : ME) : MS := fun W n fr cs => (e W n fr cs).bind fun r => (t r.1 W n fr r.2).map fun q => ⟨.next, q.1, q.2⟩
noncomputable def sAsgT (is : List Nat) (e : ME) : MS := fun W n fr cs => (e W n fr cs).bind fun r => (orElse r.1.tup? some r.1.lst?).bind fun xs => if is.length = xs.length then some ⟨.next, setAll is xs fr, r.2⟩ else none
noncomputable def sAug (i : Nat) (op : BOp) (e : ME) : MS := fun W n fr cs => ((fr[i]?).join).bind fun a => (e W n fr cs).bind fun r =>
  if a.ref?.isSome then (match op with | .add => (extendv n a r.1 r.2).map fun cs => ⟨.next, fr, cs⟩ | _ => none) else (augv op a r.1).map fun q => ⟨.next, fr.set i (some q), r.2⟩
noncomputable def sIte (c : MB) (a b : List MS) : MS := fun W n fr cs => (c W n fr cs).bind fun r => if r.1 then evSs W n a fr r.2 else evSs W n b fr r.2
noncomputable def sWhile (c : MB) (b : List MS) : MS := fun W n fr cs => whileGo (fun fr cs => (c W n fr cs).bind fun r => if r.1 then evSs W n b fr r.2 else some ⟨.brk, fr, r.2⟩) loopFuel fr cs
noncomputable def sFor (t : List Nat) (it : MI) (b : List MS) : MS := fun W n fr cs => (it.run W n fr cs).bind fun q => forGo (fun x fr cs => (bindT t x fr).bind fun fr' => evSs W n b fr' cs) q.1 fr q.2
noncomputable def sItems (a : ME) : MS := fun W n fr cs => (a W n fr cs).bind fun r => (r.1.ref?.bind (dictAt r.2)).bind fun es => if es.isEmpty then some ⟨.next, fr, r.2⟩ else none
noncomputable def sRet (e : ME) : MS := fun W n fr cs => (e W n fr cs).map fun r => ⟨.ret r.1, fr, r.2⟩
noncomputable def sBrk : MS := fun _ _ fr cs => some ⟨.brk, fr, cs⟩
noncomputable def sCont : MS := fun _ _ fr cs => some ⟨.cont, fr, cs⟩
noncomputable def sAssert (c : MB) : MS := fun W n fr cs => (c W n fr cs).bind fun r => if r.1 then some ⟨.next, fr, r.2⟩ else none
structure Fn where
  np : Nat
  dfl : List AV
  ko : Bool
  kd : Bool
  slots : Nat
  body : List MS
noncomputable def Fn.bind (F : Fn) (args : List AV) (kw : Option AV) (cs : Cells) : Option (List AV × Cells) :=
  if args.length ≤ F.np ∧ F.np ≤ args.length + F.dfl.length then
    let as := args ++ F.dfl.drop (F.dfl.length - (F.np - args.length))
    orElse kw (fun v => if F.ko && !F.kd then some (as ++ [v], cs) else none) (if F.ko then none else if F.kd then some (as ++ [.ref cs.length], cs ++ [.dict []]) else some (as, cs))
  else none
noncomputable def retv : Fl → Option AV
  | .ret v => some v
  | .next => some .none
  | .brk => none
  | .cont => none
noncomputable def shut (n : Nat) (v : AV) (cs : Cells) : AV × Cells := if below 0 v then (v, cs.take n) else (v, cs)
noncomputable def Fn.run (F : Fn) (W : Wd) (n : Nat) (args : List AV) (kw : Option AV) (cs : Cells) : Option (AV × Cells) :=
  (F.bind args kw cs).bind fun r => (evSs W n F.body (r.1.map some ++ List.replicate (F.slots - r.1.length) none) r.2).bind fun o => (retv o.fl).map fun v => (v, o.cs)
structure Prog where
  fs : List Fn
  initN : Nat
  setN : Nat
  delN : Nat
noncomputable def openRun (W : Wd) (F : Fn) (args : List AV) (kw : Option AV) (cs : Cells) : Option (AV × Cells) := (F.run W cs.length args kw cs).map fun r => shut cs.length r.1 r.2
noncomputable def closed (W : Wd) (F : Fn) (args : List AV) (kw : Option AV) (cs : Cells) : Option (AV × Cells) :=
  orElse (if belows 0 args && kw.all (below 0) then (F.run W 0 args kw []).bind fun r => if below 0 r.1 then some r.1 else none else none) (fun v => some (v, cs)) (openRun W F args kw cs)
noncomputable def callAt (P : Prog) : Nat → Wd
  | 0 => ⟨fun _ _ _ _ => none, P.setN, P.delN, fun _ => none⟩
  | k + 1 => ⟨fun f args kw cs => (P.fs[f]?).bind fun F => closed (callAt P k) F args kw cs, P.setN, P.delN,
      fun cs => (P.fs[P.initN]?).bind fun F => (F.run (callAt P k) cs.length [.ref cs.length] none (cs ++ [.inst (cs.length + 1), .idict []])).bind fun r => if r.1.none? then some (.ref cs.length, r.2) else none⟩
end Ev
namespace Ev
open PySem (Expr Stmt Str NameKind Scope Comprehension Pos Const Operator CmpOp UnaryOp)
noncomputable def tx (s : Str) : Tx := s.cps.toList
structure Cx where
  globs : List (Tx × AV)
  meths : List (Tx × Nat)
  marks : List (Nat × Nat)
  kinds : List (Str × NameKind)
  slots : List (Tx × Nat)
  n : Nat
  lamOk : Bool := true
noncomputable def Cx.mark (cx : Cx) (p : Pos) : Bool := cx.marks.contains (p.line, p.col)
noncomputable def kindOf (cx : Cx) (x : Str) : Option NameKind := cx.kinds.lookup x
noncomputable def classdictTx : Tx := [95, 95, 99, 108, 97, 115, 115, 100, 105, 99, 116, 95, 95]
noncomputable def isVar : Option NameKind → Bool
  | some .local => true
  | some .cell => true
  | some .free => true
  | _ => false
set_option genInjectivity true in
inductive NV where
  | lit (v : AV)
  | var (i : Nat)
  | no
noncomputable def nameV (cx : Cx) (x : Str) : NV :=
  if tx x = [95, 95, 100, 101, 98, 117, 103, 95, 95] then .lit (.bool true) else
  if kindOf cx x = some .globalImplicit then (cx.globs.lookup (tx x)).elim .no .lit
  else if isVar (kindOf cx x) && tx x != classdictTx then (cx.slots.lookup (tx x)).elim .no .var else .no
noncomputable def eName : NV → ME
  | .lit v => eLit v
  | .var i => eVar i
  | .no => eFail
noncomputable def NV.ty? : NV → Option TyN
  | .lit v => v.ty?
  | .var _ => none
  | .no => none
noncomputable def NV.cls? : NV → Bool
  | .lit .cls => true
  | _ => false
noncomputable def trSlot (cx : Cx) (x : Str) : Option Nat := if kindOf cx x = some .local ∨ kindOf cx x = some .cell then cx.slots.lookup (tx x) else none
noncomputable def mnames : List (Tx × MN) := [
  ([97, 112, 112, 101, 110, 100], .append), ([112, 111, 112], .pop), ([106, 111, 105, 110], .join), ([108, 111, 119, 101, 114], .lower), ([117, 112, 112, 101, 114], .upper),
  ([114, 101, 112, 108, 97, 99, 101], .replace), ([105, 110, 100, 101, 120], .index),
  ([102, 105, 110, 100], .find),
  ([115, 101, 97, 114, 99, 104], .search), ([115, 117, 98], .sub)]
noncomputable def mnOf (x : Str) : MN := (mnames.lookup (tx x)).getD .other
noncomputable def trBOp : Operator → Option BOp
  | .Add => some .add | .Sub => some .sub | .Mult => some .mul | .FloorDiv => some .fdiv | .Mod => some .mod | .Pow => some .pow | .RShift => some .shr
  | _ => none
noncomputable def trCOp : CmpOp → COp
  | .Eq => .eq | .NotEq => .ne | .Lt => .lt | .LtE => .le | .Gt => .gt | .GtE => .ge | .Is => .is | .IsNot => .isnot | .In => .in_ | .NotIn => .notin
noncomputable def trConst : Const → ME
  | .none => eLit .none
  | .bool b => eLit (.bool b)
  | .int i => eLit (.int i)
  | .str s => if (tx s).length ≤ lim then eLit (.str (tx s)) else eFail
  | _ => eFail
noncomputable def ownNames (sc : Scope) : List Tx := (sc.names.filter fun p => (p.2 == .local || p.2 == .cell) && tx p.1 != [46, 48]).map fun p => tx p.1
noncomputable def numbered (n : Nat) : List Tx → List (Tx × Nat)
  | [] => []
  | x :: r => (x, n) :: numbered (n + 1) r
noncomputable def Cx.inner (cx : Cx) (sc : Scope) : Cx :=
  { cx with lamOk := false, kinds := sc.names.map (fun p => if p.2 == .free && kindOf cx p.1 == some .cell then (p.1, .cell) else p), slots := numbered cx.n (ownNames sc) ++ (sc.names.filterMap fun p => if p.2 == .free then (cx.slots.lookup (tx p.1)).map fun i => (tx p.1, i) else none), n := cx.n + (ownNames sc).length }
noncomputable def nameOf : Expr → Option Str
  | .Name x _ => some x
  | _ => none
noncomputable def tupleOf : Expr → Option (List Expr)
  | .Tuple es _ _ => some es
  | _ => none
noncomputable def trTarget (cx : Cx) (t : Expr) : Option (List Nat) := orElse (nameOf t) (fun x => (trSlot cx x).map fun i => [i])
  ((tupleOf t).bind fun es => (es.mapM fun e => (nameOf e).bind (trSlot cx)).bind fun is => if 2 ≤ is.length then some is else none)
noncomputable def globIs (cx : Cx) (x : Str) (v : TyN) : Bool := decide ((nameV cx x).ty? = some v)
noncomputable def appendTx : Tx := [97, 112, 112, 101, 110, 100]
noncomputable def itemsName : Tx := [105, 116, 101, 109, 115]
noncomputable def noFree (sc : Scope) : Bool := sc.names.all fun p => p.2 != .free
noncomputable def plainLam (a : PySem.Arguments) : Bool := a.kw_defaults.isEmpty && a.defaults.isEmpty
noncomputable def scopeOk (cx : Cx) (sc : Scope) : Bool :=
  sc.kind == .function && !sc.isCoroutine && decide ((sc.names.map (·.1)).Nodup) && sc.names.all fun p => p.2 != .free || ((kindOf cx p.1 == some .cell || kindOf cx p.1 == some .free) && (cx.slots.lookup (tx p.1)).isSome && tx p.1 != classdictTx)
noncomputable def notSet : Expr → Bool
  | .Set .. => false
  | _ => true
noncomputable def nameTx : Tx := [110, 97, 109, 101]
noncomputable def headersName : Tx := [95, 104, 101, 97, 100, 101, 114, 115]
noncomputable def callOf : Expr → Option (Expr × List Expr)
  | .Call f as [] _ => some (f, as)
  | _ => none
noncomputable def plainBase (e : Expr) : Bool := (callOf e).all fun p => (nameOf p.1).isNone || !p.2.isEmpty
noncomputable def methOf : Expr → Option (Expr × Str × Pos × List Expr × Pos)
  | .Call f as [] p => match f with
    | .Attribute o nm q => some (o, nm, q, as, p)
    | _ => none
  | _ => none
noncomputable def litOf : Expr → Option Tx
  | .Constant c _ _ => match c with
    | .str t => if (tx t).length ≤ lim then some (tx t) else none
    | _ => none
  | _ => none
noncomputable def replOf (e : Expr) : Option (Expr × Tx) := (methOf e).bind fun q => (two? q.2.2.2.1).bind fun p => (litOf p.1).bind fun t => (litOf p.2).bind fun _ => if mnOf q.2.1 = .replace ∧ q.2.2.1.endLine = q.2.2.2.2.line ∧ plainBase q.1 = true then some (q.1, t) else none
noncomputable def gScope (sc : Scope) (x : Str) : Bool := !sc.isCoroutine && (sc.names.all (fun p => p.2 == .local) && (decide (sc.names.lookup (".0" : Str) = some NameKind.local) && (decide (sc.names.lookup x = some NameKind.local) && (sc.kind == .function && !(x == ("__debug__" : Str))))))
noncomputable def genEx : Expr → Option (Expr × List Comprehension × Scope × Pos)
  | .GeneratorExp elt gs sc p => some (elt, gs, sc, p)
  | _ => none
noncomputable def genOf1 (cx : Cx) (e : Expr) : Option (List Nat × Expr) := (genEx e).bind fun z => (one? z.2.1).bind fun g => (nameOf g.target).bind fun x => (nameOf g.iter).bind fun _ => if (cx.lamOk && (gScope z.2.2.1 x && (g.ifs.isEmpty && decide (g.is_async = 0)))) = true then
  (replOf z.1).bind fun q => (one? q.2).bind fun c => (replOf q.1).bind fun q' => (one? q'.2).bind fun d => if nameOf q'.1 = some x then some ([c, d], g.iter) else none else none
noncomputable def genOf (cx : Cx) (o : Expr) (as : List Expr) : Option (List Nat × Tx × Expr) := (litOf o).bind fun t => (one? as).bind fun e => (genOf1 cx e).map fun q => (q.1, t, q.2)
structure TrF where
  e : Cx → Expr → ME
  b : Cx → Expr → MB
noncomputable def trI (r : TrF) (cx : Cx) (e : Expr) : MI := orElse ((callOf e).bind fun p => (nameOf p.1).map fun x => (x, p.2))
  (fun p => if globIs cx p.1 .range then iRange (p.2.map (r.e cx)) else if globIs cx p.1 .zip then iZip (p.2.map (r.e cx)) else iVal (r.e cx e)) (iVal (r.e cx e))
noncomputable def tgtOk (t : Expr) (z : Bool) : Bool := !z || (tupleOf t).isSome
noncomputable def clOk (inn : Cx) (base : Nat) (z : Bool) (g : Comprehension) : Bool := g.is_async == 0 && (notSet g.iter && ((trTarget inn g.target).any (·.all fun i => decide (base ≤ i)) && tgtOk g.target z))
noncomputable def trCl (r : TrF) (cx inn : Cx) (k base : Nat) (g : Comprehension) : Option Cl :=
  if clOk inn base (trI r cx g.iter).zip g then some ⟨k, (trTarget inn g.target).getD [], trI r cx g.iter, g.ifs.map (r.b inn)⟩ else none
noncomputable def trCs (r : TrF) (cx inn : Cx) : List Comprehension → Option (List Cl)
  | [] => none
  | g :: gs => (trCl r cx inn (inn.n - cx.n) cx.n g).bind fun c => (gs.mapM (trCl r inn inn 0 cx.n)).map (c :: ·)
noncomputable def trComp (r : TrF) (cx : Cx) (m : Bool) (elt : Expr) (gens : List Comprehension) (sc : Scope) : ME :=
  if scopeOk cx sc then (trCs r cx (cx.inner sc) gens).elim eFail (eComp m (r.e (cx.inner sc) elt)) else eFail
noncomputable def trUn (op : UnaryOp) (a : ME) : ME := match op with
  | .USub => eNeg a
  | .Not => eNot a
  | _ => eFail
noncomputable def trKw (r : TrF) (cx : Cx) (o : Expr) (nm : Str) (as : List Expr) (k : PySem.Keyword) : ME :=
  if k.arg.map tx = some nameTx then (cx.meths.lookup (tx nm)).elim eFail fun m => eMethk (r.e cx o) m (as.map (r.e cx)) (r.e cx k.value) else eFail
noncomputable def trMeth (r : TrF) (cx : Cx) (o : Expr) (nm : Str) (ap : Pos) (as : List Expr) (ks : List PySem.Keyword) (p : Pos) : ME :=
  if plainBase o ∧ ap.endLine = p.line ∧ as.length < 20 then match ks with
    | [] =>
      orElse (if mnOf nm = .join then genOf cx o as else none) (fun q => eGJ q.1 q.2.1 (r.e cx q.2.2)) <|
      eMeth (r.e cx o) (mnOf nm) (cx.meths.lookup (tx nm)) (as.map (r.e cx))
    | k :: ks => if ks.isEmpty then trKw r cx o nm as k else eFail
  else eFail
noncomputable def trCall (r : TrF) (cx : Cx) (f : Expr) (as : List Expr) (ks : List PySem.Keyword) (p : Pos) : ME := match f with
  | .Name x _ => if ks.isEmpty && decide (as.length < 20) then (if (nameV cx x).cls? then (if as.isEmpty then eNew else eFail) else eCall (eName (nameV cx x)) (as.map (r.e cx))) else eFail
  | .Attribute o nm ap => trMeth r cx o nm ap as ks p
  | _ => eFail
noncomputable def trAttr (o : Expr) (a : ME) (nm : Str) : ME := if plainBase o then (if tx nm = appendTx then eAttrApp a else if tx nm = headersName then eAttr a (tx nm) else eFail) else eFail
noncomputable def trO (r : TrF) (cx : Cx) : Option Expr → ME
  | none => eLit .none
  | some e => r.e cx e
noncomputable def trSub (r : TrF) (cx : Cx) (m : Bool) (o : ME) (i : Expr) : ME := match i with
  | .Slice lo hi st _ => if st.isNone then eSlc m o (trO r cx lo) (trO r cx hi) else eFail
  | i => eIdx o (r.e cx i)
noncomputable def trF (r : TrF) (cx : Cx) : Expr → ME
  | .FormattedValue v c f _ => if c = -1 ∧ f.isNone then r.e cx v else eFail
  | .Constant (.str s) _ _ => if (tx s).length ≤ lim then eLit (.str (tx s)) else eFail
  | _ => eFail
noncomputable def trCmp (r : TrF) (cx : Cx) (ops : List CmpOp) (bs : List Expr) : Option (COp × ME) := (one? ops).bind fun op => (one? bs).bind fun b => if notSet b then some (trCOp op, r.e cx b) else none
noncomputable def trCmp2 (r : TrF) (cx : Cx) (ops : List CmpOp) (bs : List Expr) : Option (COp × COp × ME × ME) := (two? ops).bind fun op => (two? bs).bind fun b => if notSet b.2 then some (trCOp op.1, trCOp op.2, r.e cx b.1, r.e cx b.2) else none
noncomputable def boolOf : PySem.BoolOp → Bool
  | .And => true
  | .Or => false
noncomputable def stepE (r : TrF) (cx : Cx) (e : Expr) : ME := match e with
  | .Constant c _ _ => trConst c
  | .Name x _ => eName (nameV cx x)
  | .BoolOp op vs _ => eAO (boolOf op) (vs.map (r.e cx))
  | .IfExp c a b _ => eIte (r.b cx c) (r.e cx a) (r.e cx b)
  | .BinOp a op b p => (trBOp op).elim eFail fun o => eBin (cx.mark p) o (r.e cx a) (r.e cx b)
  | .UnaryOp op a _ => trUn op (r.e cx a)
  | .Compare a ops bs _ => (trCmp r cx ops bs).elim eFail fun q => eCmp q.1 (r.e cx a) q.2
  | .Tuple es _ _ => if es.isEmpty then eFail else eTup (es.map (r.e cx))
  | .List es p => eList (cx.mark p) (es.map (r.e cx))
  | .Dict ks vs _ => if ks.isEmpty && vs.isEmpty then eDict else eFail
  | .ListComp elt gens sc p => trComp r cx (cx.mark p) elt gens sc
  | .Call f as ks p => trCall r cx f as ks p
  | .Attribute o nm _ => trAttr o (r.e cx o) nm
  | .Subscript o i p => trSub r cx (cx.mark p) (r.e cx o) i
  | .JoinedStr vs _ => eFstr (vs.map (trF r cx))
  | .Lambda as _ sc _ => if noFree sc ∧ plainLam as ∧ cx.lamOk then eLam else eFail
  | _ => eFail
noncomputable def stepB (r : TrF) (cx : Cx) (e : Expr) : MB := match e with
  | .UnaryOp op a _ => match op with
    | .Not => bNot (r.b cx a)
    | _ => bOf (trUn op (r.e cx a))
  | .BoolOp op vs _ => bAO (boolOf op) (vs.map (r.b cx))
  | .IfExp c a b _ => bIte (r.b cx c) (r.b cx a) (r.b cx b)
  | .Compare a ops bs _ => (trCmp r cx ops bs).elim ((trCmp2 r cx ops bs).elim eFail fun q => bCmp2 q.1 q.2.1 (r.e cx a) q.2.2.1 q.2.2.2) fun q => bCmp q.1 (r.e cx a) q.2
  | e => bOf (stepE r cx e)
noncomputable def tr : Nat → TrF
  | 0 => ⟨fun _ _ => eFail, fun _ _ => eFail⟩
  | f + 1 => ⟨stepE (tr f), stepB (tr f)⟩
noncomputable def foldOk (e : Expr) : Bool := (tupleOf e).all fun vs => !(vs.all (PySem.constantsAlone 8)) || vs.all (PySem.foldedForSure 8)
noncomputable def trTSub (r : TrF) (cx : Cx) (o : Expr) : Expr → Option MT
  | .Slice _ _ _ _ => none
  | i => some (tIdx (r.e cx o) (r.e cx i))
noncomputable def trT (r : TrF) (cx : Cx) : Expr → Option MT
  | .Name x _ => (trSlot cx x).map tVar
  | .Subscript o i _ => trTSub r cx o i
  | .Attribute o nm _ => if tx nm = headersName then some (tAttr (r.e cx o) (tx nm)) else none
  | _ => none
noncomputable def trAsg (r : TrF) (cx : Cx) (t e : Expr) : MS := orElse (tupleOf t) (fun ts => (ts.mapM fun e => (nameOf e).bind (trSlot cx)).elim sFail fun is => if is.Nodup ∧ foldOk e = true then sAsgT is (r.e cx e) else sFail)
  ((trT r cx t).elim sFail fun c => sAssign c (r.e cx e))
noncomputable def trAug (r : TrF) (cx : Cx) (t : Expr) (op : BOp) (e : Expr) : MS := (nameOf t).elim sFail fun x => (trSlot cx x).elim sFail fun i => sAug i op (r.e cx e)
noncomputable def trDel (r : TrF) (cx : Cx) (ts : List Expr) : MS := sFail
noncomputable def itemsOf (e : Expr) : Option (Expr × Str × Pos × Pos) := (methOf e).bind fun q => if q.2.2.2.1.isEmpty = true then some (q.1, q.2.1, q.2.2.1, q.2.2.2.2) else none
noncomputable def itemsSrc (it : Expr) : Option Expr := (itemsOf it).bind fun q => if tx q.2.1 = itemsName ∧ plainBase q.1 = true ∧ q.2.2.1.endLine = q.2.2.2.line then some q.1 else none
noncomputable def trFor (r : TrF) (cx : Cx) (t it : Expr) (b : List MS) : MS := (trTarget cx t).elim sFail fun is =>
  orElse (itemsSrc it) (fun o => sItems (r.e cx o)) (if tgtOk t (trI r cx it).zip && notSet it then sFor is (trI r cx it) b else sFail)
noncomputable def isLC : Expr → Bool
  | .ListComp .. => true
  | _ => false
noncomputable def isSC : Expr → Bool
  | .SetComp .. => true
  | .DictComp .. => true
  | _ => false
noncomputable def stepS (r : TrF) (ss : Cx → List Stmt → List MS) (cx : Cx) (s : Stmt) : MS := match s with
  | .Expr e _ => if isLC e || isSC e then sFail else sExpr (r.e cx e)
  | .Assign ts e _ => if isSC e then sFail else (one? ts).elim sFail fun t => trAsg r cx t e
  | .AugAssign t op e _ => (trBOp op).elim sFail fun o => trAug r cx t o e
  | .Delete ts _ => trDel r cx ts
  | .If c a b _ => sIte (r.b cx c) (ss cx a) (ss cx b)
  | .While c b els _ => if els.isEmpty then sWhile (r.b cx c) (ss cx b) else sFail
  | .For t it b els _ => if els.isEmpty then trFor r cx t it (ss cx b) else sFail
  | .Return e _ => e.elim sFail fun e => sRet (r.e cx e)
  | .Break _ => sBrk
  | .Continue _ => sCont
  | .Assert c _ _ => sAssert (r.b cx c)
  | _ => sFail
noncomputable def trSs (r : TrF) : Nat → Cx → List Stmt → List MS
  | 0, _, _ => [sFail]
  | f + 1, cx, ss => ss.map (stepS r (trSs r f) cx)
noncomputable def Cx.top (globs : List (Tx × AV)) (meths : List (Tx × Nat)) (marks : List (Nat × Nat)) (sc : Scope) : Cx :=
  { globs, meths, marks, kinds := sc.names, slots := numbered 0 (ownNames sc), n := (ownNames sc).length }
end Ev
namespace Ev
open PySem
noncomputable def headersTx : Tx := [95, 104, 101, 97, 100, 101, 114, 115]
noncomputable def headersStr : Str := "_headers"
noncomputable abbrev hObj (hsh : Int) (tk : PySem.Tok) (v : PySem.Value) (n : Nat) : PySem.Obj := { cls := .type "dict", data := .dict #[⟨hsh, .str headersStr tk, v⟩] n }
noncomputable def HObj (o : PySem.Obj) : Prop := o = { cls := .type "dict", data := .dict #[] } ∨ ∃ hsh tk v n, o = hObj hsh tk v n
structure Base where
  prog : Program
  w : PySem.World
  h₀ : Heap
  tabs : List (Addr × Addr)
  ps : Addr → Array Value
  fnA : Nat → Addr
  clsA : Addr
  reA : Nat → Addr
  mg : Str → Option Value
  mb : Str → Option Value
  K : PySem.W.Frag
noncomputable def Base.isTab (B : Base) (a : Addr) : Prop := a ∈ B.tabs.map (·.2)
noncomputable def tyS : TyN → String
  | .int => "int" | .str => "str" | .list => "list" | .range => "range" | .zip => "zip" | .type => "type" | .object => "object"
noncomputable def bfS : BF → String
  | .len => "len" | .max => "max" | .min => "min" | .sum => "sum"
noncomputable def PTup (h : Heap) (a : Addr) (items : Array Value) : Prop := ∃ n, h.get? a = some { cls := .type "tuple", data := .seq items n }
theorem PTup.isTuple {h : Heap} {a : Addr} {items : Array Value} (x : PTup h a items) : h.IsTuple a items := let ⟨n, e⟩ := x; ⟨_, e, rfl, n, rfl⟩
mutual
inductive VRel (B : Base) (h : Heap) (W : Addr → Prop) (ρ : List Addr) : AV → Value → Prop
  | none : VRel B h W ρ .none .none
  | bool (b : Bool) : VRel B h W ρ (.bool b) (.bool b)
  | int (i : Int) (t : Tok) : VRel B h W ρ (.int i) (.int i t)
  | str (s : Tx) (t : Tok) (b : s.length ≤ lim) : VRel B h W ρ (.str s) (.str ⟨s.toArray⟩ t)
  | tup {xs : List AV} {vs : List Value} {a : Addr} (l : PTup h a vs.toArray) (b : xs.length ≤ lim) (w : ¬ W a) (r : VRels B h W ρ xs vs) : VRel B h W ρ (.tup xs) (.ref a)
  | lst {xs : List AV} {vs : List Value} {a : Addr} (l : h.PlainList a vs.toArray) (b : xs.length ≤ lim) (w : ¬ W a) (r : VRels B h W ρ xs vs) : VRel B h W ρ (.lst xs) (.ref a)
  | ref {i : Nat} {a : Addr} (e : ρ[i]? = some a) : VRel B h W ρ (.ref i) (.ref a)
  | fn (n : Nat) : VRel B h W ρ (.fn n) (.ref (B.fnA n))
  | cls : VRel B h W ρ .cls (.ref B.clsA)
  | re (n : Nat) : VRel B h W ρ (.re n) (.ref (B.reA n))
  | bi (b : BF) : VRel B h W ρ (.bi b) (.builtin (bfS b))
  | ty (t : TyN) : VRel B h W ρ (.ty t) (.type (tyS t))
  | app {i : Nat} {a f : Addr} {o : Obj} (e : ρ[i]? = some a) (g : h.get? f = some o) (w : ¬ W f) (c : o.cls = .type "builtin_function_or_method") (d : o.data = .fields #[.builtin "list.append", .ref a]) : VRel B h W ρ (.app i) (.ref f)
  | lam {f : Addr} {o : Obj} (g : h.get? f = some o) (w : ¬ W f) (c : o.cls = .type "function") : VRel B h W ρ .lam (.ref f)
inductive VRels (B : Base) (h : Heap) (W : Addr → Prop) (ρ : List Addr) : List AV → List Value → Prop
  | nil : VRels B h W ρ [] []
  | cons {x : AV} {v : Value} {xs : List AV} {vs : List Value} (hd : VRel B h W ρ x v) (tl : VRels B h W ρ xs vs) : VRels B h W ρ (x :: xs) (v :: vs)
end
section
variable {B : Base} {h h' : Heap} {W W' : Addr → Prop} {ρ ρ' : List Addr}
noncomputable def VInv (B : Base) (h : Heap) (W : Addr → Prop) (ρ : List Addr) (x : AV) (v : Value) : Prop := match x with
  | .none => v = .none
  | .bool b => v = .bool b
  | .int i => ∃ t, v = .int i t
  | .str s => ∃ t, v = .str ⟨s.toArray⟩ t ∧ s.length ≤ lim
  | .tup xs => ∃ vs a, v = .ref a ∧ PTup h a (List.toArray vs) ∧ xs.length ≤ lim ∧ ¬ W a ∧ VRels B h W ρ xs vs
  | .lst xs => ∃ vs a, v = .ref a ∧ h.PlainList a (List.toArray vs) ∧ xs.length ≤ lim ∧ ¬ W a ∧ VRels B h W ρ xs vs
  | .ref i => ∃ a, v = .ref a ∧ ρ[i]? = some a
  | .fn n => v = .ref (B.fnA n)
  | .cls => v = .ref B.clsA
  | .re n => v = .ref (B.reA n)
  | .bi b => v = .builtin (bfS b)
  | .ty t => v = .type (tyS t)
  | .app i => ∃ f a o, v = .ref f ∧ ρ[i]? = some a ∧ h.get? f = some o ∧ ¬ W f ∧ o.cls = .type "builtin_function_or_method" ∧ o.data = .fields #[.builtin "list.append", .ref a]
  | .lam => ∃ f o, v = .ref f ∧ h.get? f = some o ∧ ¬ W f ∧ o.cls = .type "function"
theorem VRel.inv {x : AV} {v : Value} (r : VRel B h W ρ x v) : VInv B h W ρ x v :=
  r.rec (motive_1 := fun x v _ => VInv B h W ρ x v) (motive_2 := fun _ _ _ => True) rfl (fun _ => rfl) (fun _ t => ⟨t, rfl⟩) (fun _ t b => ⟨t, rfl, b⟩) (fun l b w r _ => ⟨_, _, rfl, l, b, w, r⟩) (fun l b w r _ => ⟨_, _, rfl, l, b, w, r⟩) (fun e => ⟨_, rfl, e⟩) (fun _ => rfl) rfl (fun _ => rfl) (fun _ => rfl) (fun _ => rfl)
    (fun e g w c d => ⟨_, _, _, rfl, e, g, w, c, d⟩) (fun g w c => ⟨_, _, rfl, g, w, c⟩) trivial fun _ _ _ _ => trivial
theorem VRels.ind {P : List AV → List Value → Prop} (n : P [] []) (c : ∀ {x : AV} {v : Value} {xs : List AV} {vs : List Value}, VRel B h W ρ x v → VRels B h W ρ xs vs → P xs vs → P (x :: xs) (v :: vs)) {xs : List AV} {vs : List Value} (r : VRels B h W ρ xs vs) : P xs vs :=
  r.rec (motive_1 := fun _ _ _ => True) (motive_2 := fun xs vs _ => P xs vs) trivial (fun _ => trivial) (fun _ _ => trivial) (fun _ _ _ => trivial) (fun _ _ _ _ _ => trivial) (fun _ _ _ _ _ => trivial) (fun _ => trivial) (fun _ => trivial) trivial (fun _ => trivial) (fun _ => trivial) (fun _ => trivial)
    (fun _ _ _ _ _ => trivial) (fun _ _ _ => trivial) n fun q r _ ih => c q r ih
noncomputable def VsInv (B : Base) (h : Heap) (W : Addr → Prop) (ρ : List Addr) (xs : List AV) (vs : List Value) : Prop := match xs with
  | [] => vs = []
  | x :: xs => ∃ v us, vs = v :: us ∧ VRel B h W ρ x v ∧ VRels B h W ρ xs us
theorem VRels.inv {xs : List AV} {vs : List Value} (r : VRels B h W ρ xs vs) : VsInv B h W ρ xs vs := r.ind rfl fun q r _ => ⟨_, _, rfl, q, r⟩
theorem VRel.mono (hk : ∀ a o, h.get? a = some o → ¬ W a → h'.get? a = some o) (hW : ∀ a, a < h.objs.size → W' a → W a) (hρ : ∀ (i : Nat) (a : Addr), ρ[i]? = some a → ρ'[i]? = some a)
    {x : AV} {v : Value} (r : VRel B h W ρ x v) : VRel B h' W' ρ' x v :=
  r.rec (motive_1 := fun x v _ => VRel B h' W' ρ' x v) (motive_2 := fun xs vs _ => VRels B h' W' ρ' xs vs) .none .bool .int .str (fun ⟨o, ho⟩ b w _ q => .tup ⟨o, hk _ _ ho w⟩ b (fun z => w (hW _ (Heap.lt_size ho) z)) q)
    (fun ⟨o, ho⟩ b w _ q => .lst ⟨o, hk _ _ ho w⟩ b (fun z => w (hW _ (Heap.lt_size ho) z)) q) (fun e => .ref (hρ _ _ e)) .fn .cls .re .bi .ty (fun e g w c d => .app (hρ _ _ e) (hk _ _ g w) (fun z => w (hW _ (Heap.lt_size g) z)) c d)
    (fun g w c => .lam (hk _ _ g w) (fun z => w (hW _ (Heap.lt_size g) z)) c) .nil fun _ _ q r => .cons q r
theorem VRels.mono (hk : ∀ a o, h.get? a = some o → ¬ W a → h'.get? a = some o) (hW : ∀ a, a < h.objs.size → W' a → W a) (hρ : ∀ (i : Nat) (a : Addr), ρ[i]? = some a → ρ'[i]? = some a)
    {xs : List AV} {vs : List Value} (r : VRels B h W ρ xs vs) : VRels B h' W' ρ' xs vs := r.ind .nil fun q _ r => .cons (q.mono hk hW hρ) r
theorem VRels.length {xs : List AV} {vs : List Value} (r : VRels B h W ρ xs vs) : xs.length = vs.length := r.ind (P := fun xs vs => xs.length = vs.length) rfl fun _ _ e => congrArg (· + 1) e
theorem VRels.get {xs : List AV} {vs : List Value} (r : VRels B h W ρ xs vs) : ∀ {k : Nat} {x : AV}, xs[k]? = some x → ∃ v, vs[k]? = some v ∧ VRel B h W ρ x v :=
  r.ind (P := fun xs vs => ∀ {k : Nat} {x : AV}, xs[k]? = some x → ∃ v, vs[k]? = some v ∧ VRel B h W ρ x v) (fun e => nomatch e) fun q _ ih k => match k with
    | 0 => fun e => ⟨_, rfl, sJ e ▸ q⟩
    | k + 1 => fun e => ih (k := k) e
theorem VRels.append {xs ys : List AV} {vs us : List Value} (r : VRels B h W ρ xs vs) (z : VRels B h W ρ ys us) : VRels B h W ρ (xs ++ ys) (vs ++ us) := r.ind (P := fun xs vs => VRels B h W ρ (xs ++ ys) (vs ++ us)) z fun q _ r => .cons q r
theorem VRels.take {xs : List AV} {vs : List Value} (r : VRels B h W ρ xs vs) : ∀ k : Nat, VRels B h W ρ (xs.take k) (vs.take k) :=
  r.ind (P := fun xs vs => ∀ k : Nat, VRels B h W ρ (xs.take k) (vs.take k)) (fun k => by cases k <;> exact .nil) fun q _ ih k => match k with
    | 0 => .nil
    | k + 1 => .cons q (ih k)
theorem VRels.drop {xs : List AV} {vs : List Value} (r : VRels B h W ρ xs vs) : ∀ k : Nat, VRels B h W ρ (xs.drop k) (vs.drop k) :=
  r.ind (P := fun xs vs => ∀ k : Nat, VRels B h W ρ (xs.drop k) (vs.drop k)) (fun k => by cases k <;> exact .nil) fun q r ih k => match k with
    | 0 => .cons q r
    | k + 1 => ih k
theorem VRels.set {xs : List AV} {vs : List Value} (r : VRels B h W ρ xs vs) : ∀ (k : Nat) {x : AV} {v : Value}, VRel B h W ρ x v → VRels B h W ρ (xs.set k x) (vs.set k v) :=
  r.ind (P := fun xs vs => ∀ (k : Nat) {x : AV} {v : Value}, VRel B h W ρ x v → VRels B h W ρ (xs.set k x) (vs.set k v)) (fun _ _ _ _ => .nil) fun q r ih k => match k with
    | 0 => fun z => .cons z r
    | k + 1 => fun z => .cons q (ih k z)
theorem take_get {n i : Nat} {a : Addr} (e : decide (i < n) = true) (g : ρ[i]? = some a) : (ρ.take n)[i]? = some a := by
  rw [List.getElem?_take, if_pos (of_decide_eq_true e)]; exact g
theorem VRel.low {n : Nat} {x : AV} {v : Value} (e : Ev.below n x = true) (r : VRel B h W ρ x v) : VRel B h W (ρ.take n) x v :=
  r.rec (motive_1 := fun x v _ => Ev.below n x = true → VRel B h W (ρ.take n) x v) (motive_2 := fun xs vs _ => Ev.belows n xs = true → VRels B h W (ρ.take n) xs vs) (fun _ => .none) (fun b _ => .bool b) (fun i t _ => .int i t) (fun s t b _ => .str s t b)
    (fun l b w _ q e => .tup l b w (q e)) (fun l b w _ q e => .lst l b w (q e)) (fun g e => .ref (take_get e g)) (fun n _ => .fn n) (fun _ => .cls) (fun n _ => .re n) (fun b _ => .bi b) (fun t _ => .ty t) (fun g a w c d e => .app (take_get e g) a w c d) (fun g w c _ => .lam g w c)
    (fun _ => .nil) (fun _ _ q r e => .cons (q (aT e).1) (r (aT e).2)) e
theorem VRels.low {n : Nat} {xs : List AV} {vs : List Value} (e : Ev.belows n xs = true) (r : VRels B h W ρ xs vs) : VRels B h W (ρ.take n) xs vs :=
  r.ind (P := fun xs vs => Ev.belows n xs = true → VRels B h W (ρ.take n) xs vs) (fun _ => .nil) (fun q _ r e => .cons (q.low (aT e).1) (r (aT e).2)) e
end
inductive KVs (B : Base) (h : Heap) (W : Addr → Prop) (ρ : List Addr) : List (Tx × AV) → List (Str × Value) → Prop
  | nil : KVs B h W ρ [] []
  | cons {k : Tx} {x : AV} {v : Value} {es : List (Tx × AV)} {kvs : List (Str × Value)} (r : VRel B h W ρ x v) (t : KVs B h W ρ es kvs) : KVs B h W ρ ((k, x) :: es) ((⟨k.toArray⟩, v) :: kvs)
noncomputable def OptRel (B : Base) (h : Heap) (W : Addr → Prop) (ρ : List Addr) : Option AV → Option Value → Prop
  | some x, v => ∃ y, v = some y ∧ VRel B h W ρ x y
  | none, v => True
noncomputable def CRel (B : Base) (h : Heap) (W : Addr → Prop) (ρ : List Addr) (a : Addr) (o : AObj) : Prop := match o with
  | .list xs => ∃ vs, h.PlainList a (List.toArray vs) ∧ xs.length ≤ lim ∧ VRels B h W ρ xs vs
  | .dict es => ∃ kvs, h.DictOf (strKind B.prog B.w) a kvs ∧ KVs B h W ρ es kvs
  | .idict es => (es = [] ∧ h.get? a = some { cls := .type "dict", data := .dict #[] }) ∨ ∃ x v hsh tk n, es = [(headersTx, x)] ∧ h.get? a = some (hObj hsh tk v n) ∧ VRel B h W ρ x v
  | .inst d => ∃ dx, h.get? a = some { cls := .ref B.clsA, dict := some dx, data := .plain } ∧ ρ[d]? = some dx
  | .plain => ∃ o, h.get? a = some o ∧ o.cls = .type "object"
section
variable {B : Base} {h h' : Heap} {W W' : Addr → Prop} {ρ ρ' : List Addr}
theorem KVs.mono (hk : ∀ a o, h.get? a = some o → ¬ W a → h'.get? a = some o) (hW : ∀ a, a < h.objs.size → W' a → W a) (hρ : ∀ (i : Nat) (a : Addr), ρ[i]? = some a → ρ'[i]? = some a)
    {es : List (Tx × AV)} {kvs : List (Str × Value)} (r : KVs B h W ρ es kvs) : KVs B h' W' ρ' es kvs := by
  induction r with
  | nil => exact .nil
  | cons r _ ih => exact .cons (r.mono hk hW hρ) ih
theorem OptRel.mono (hk : ∀ a o, h.get? a = some o → ¬ W a → h'.get? a = some o) (hW : ∀ a, a < h.objs.size → W' a → W a) (hρ : ∀ (i : Nat) (a : Addr), ρ[i]? = some a → ρ'[i]? = some a) :
    ∀ {x : Option AV} {v : Option Value}, OptRel B h W ρ x v → OptRel B h' W' ρ' x v
  | some _, _, ⟨y, e, r⟩ => ⟨y, e, r.mono hk hW hρ⟩
  | none, _, _ => trivial
theorem CRel.mono {a : Addr} {o : AObj} (ha : h'.get? a = h.get? a) (hk : ∀ a o, h.get? a = some o → ¬ W a → h'.get? a = some o) (hW : ∀ a, a < h.objs.size → W' a → W a) (hρ : ∀ (i : Nat) (a : Addr), ρ[i]? = some a → ρ'[i]? = some a)
    (c : CRel B h W ρ a o) : CRel B h' W' ρ' a o := by
  cases o with
  | list => obtain ⟨vs, ⟨k, l⟩, b, r⟩ := c; exact ⟨vs, ⟨k, ha.trans l⟩, b, r.mono hk hW hρ⟩
  | dict => obtain ⟨kvs, ⟨x, y, z, l, q⟩, r⟩ := c; exact ⟨kvs, ⟨x, y, z, ha.trans l, q⟩, r.mono hk hW hρ⟩
  | idict =>
    rcases c with c | ⟨x, v, hsh, tk, n, e, ho, r⟩
    · exact .inl ⟨c.1, ha.trans c.2⟩
    · exact .inr ⟨x, v, hsh, tk, n, e, ha.trans ho, r.mono hk hW hρ⟩
  | inst => exact c.imp fun dx c => ⟨ha.trans c.1, hρ _ _ c.2⟩
  | plain => exact c.imp fun o c => ⟨ha.trans c.1, c.2⟩
theorem CRel.getSome {a : Addr} {o : AObj} (c : CRel B h W ρ a o) : ∃ ob, h.get? a = some ob := by
  cases o with
  | list => obtain ⟨_, ⟨_, l⟩, _⟩ := c; exact ⟨_, l⟩
  | dict => obtain ⟨_, ⟨_, _, _, l, _⟩, _⟩ := c; exact ⟨_, l⟩
  | idict =>
    rcases c with c | ⟨x, v, hsh, tk, n, e, ho, r⟩
    · exact ⟨_, c.2⟩
    · exact ⟨_, ho⟩
  | inst => exact c.elim fun _ c => ⟨_, c.1⟩
  | plain => exact c.elim fun _ c => ⟨_, c.1⟩
end
noncomputable def TabOk (B : Base) (h : Heap) (p : Addr × Addr) : Prop := ∃ ps : Array Value, h.get? p.2 = some { cls := .none, data := .fields ps } ∧ TriplesOk ps.toList ∧ ∃ more, ps = B.ps p.2 ++ more
section
variable {B : Base} {h : Heap} {W : Addr → Prop} {ρ : List Addr}
theorem VRel.bound {x : AV} {v : Value} (r : VRel B h W ρ x v) : Ev.below ρ.length x = true :=
  r.rec (motive_1 := fun x v _ => Ev.below ρ.length x = true) (motive_2 := fun xs vs _ => Ev.belows ρ.length xs = true) rfl (fun _ => rfl) (fun _ _ => rfl) (fun _ _ _ => rfl) (fun _ _ _ _ q => q) (fun _ _ _ _ q => q) (fun e => decide_eq_true (List.getElem?_eq_some_iff.mp e).1) (fun _ => rfl) rfl (fun _ => rfl) (fun _ => rfl) (fun _ => rfl)
    (fun e _ _ _ _ => decide_eq_true (List.getElem?_eq_some_iff.mp e).1) (fun _ _ _ => rfl) rfl fun _ _ q r => aI ⟨q, r⟩
theorem VRels.bound {xs : List AV} {vs : List Value} (r : VRels B h W ρ xs vs) : Ev.belows ρ.length xs = true := r.ind (P := fun xs vs => Ev.belows ρ.length xs = true) rfl fun q _ r => aI ⟨q.bound, r⟩
theorem KVs.low {n : Nat} {es : List (Tx × AV)} {kvs : List (Str × Value)} (e : (es.all fun p => Ev.below n p.2) = true) (r : KVs B h W ρ es kvs) : KVs B h W (ρ.take n) es kvs := by
  induction r with
  | nil => exact .nil
  | cons r _ ih => exact .cons (r.low (aT e).1) (ih (aT e).2)
theorem KVs.bound {es : List (Tx × AV)} {kvs : List (Str × Value)} (r : KVs B h W ρ es kvs) : (es.all fun p => Ev.below ρ.length p.2) = true := by
  induction r with
  | nil => rfl
  | cons r _ ih => exact aI ⟨r.bound, ih⟩
end
noncomputable def belowO (k : Nat) : AObj → Bool
  | .list xs => belows k xs
  | .dict es => es.all fun p => below k p.2
  | .idict es => es.all fun p => below k p.2
  | .inst d => d < k
  | .plain => true
noncomputable def Low (k : Nat) (cs : Cells) : Prop := ∀ (i : Nat) (o : AObj), i < k → cs[i]? = some o → belowO k o = true
noncomputable def LowTo (n : Nat) (cs cs' : Cells) : Prop := ∀ k, k ≤ n → Low k cs → Low k cs'
theorem LowTo.refl (n : Nat) (cs : Cells) : LowTo n cs cs := fun _ _ l => l
theorem LowTo.trans {n : Nat} {a b c : Cells} (x : LowTo n a b) (y : LowTo n b c) : LowTo n a c := fun k hk l => y k hk (x k hk l)
section
variable {B : Base} {h : Heap} {W : Addr → Prop} {ρ : List Addr}
theorem CRel.low {n : Nat} {a : Addr} {o : AObj} (e : belowO n o = true) (c : CRel B h W ρ a o) : CRel B h W (ρ.take n) a o := by
  cases o with
  | list => exact c.imp fun vs c => ⟨c.1, c.2.1, c.2.2.low e⟩
  | dict => exact c.imp fun vs c => ⟨c.1, c.2.low e⟩
  | idict =>
    rcases c with c | ⟨x, v, hsh, tk, n, q, ho, r⟩
    · exact .inl c
    · exact .inr ⟨x, v, hsh, tk, n, q, ho, r.low (by rw [q] at e; exact (aT e).1)⟩
  | inst => exact c.imp fun dx c => ⟨c.1, take_get e c.2⟩
  | plain => exact c
theorem CRel.bound {a : Addr} {o : AObj} (c : CRel B h W ρ a o) : belowO ρ.length o = true := by
  cases o with
  | list => exact c.elim fun vs c => c.2.2.bound
  | dict => exact c.elim fun vs c => c.2.bound
  | idict =>
    rcases c with c | ⟨x, v, hsh, tk, n, e, ho, r⟩
    · rw [c.1]; rfl
    · rw [e]; exact aI ⟨r.bound, rfl⟩
  | inst => exact c.elim fun _ c => decide_eq_true (List.getElem?_eq_some_iff.mp c.2).1
  | plain => rfl
end
structure Mem (B : Base) (W : Addr → Prop) (ρ : List Addr) (cs : Cells) (h : Heap) : Prop where
  len : cs.length = ρ.length
  cell : ∀ (i : Nat) (o : AObj) (a : Addr), cs[i]? = some o → ρ[i]? = some a → CRel B h W ρ a o
  inj : ρ.Nodup
  own : ∀ a ∈ ρ, W a ∧ B.h₀.objs.size ≤ a
  wlt : ∀ a, W a → a < h.objs.size
  base : ∀ a o, B.h₀.get? a = some o → h.get? a = some o ∧ ¬ W a
  tab : ∀ p ∈ B.tabs, TabOk B h p ∧ W p.2 ∧ p.2 < B.h₀.objs.size
  size : B.h₀.objs.size ≤ h.objs.size
structure Step (B : Base) (X : Addr → Prop) (ρ : List Addr) (W : Addr → Prop) (h : Heap) (ρ' : List Addr) (W' : Addr → Prop) (h' : Heap) : Prop where
  kept : ∀ a o, h.get? a = some o → a ∉ ρ → ¬ B.isTab a → ¬ X a → h'.get? a = some o
  wiff : ∀ a, a < h.objs.size → (W' a ↔ W a)
  pre : ∀ (i : Nat) (a : Addr), ρ[i]? = some a → ρ'[i]? = some a
  fresh : ∀ a ∈ ρ', a ∈ ρ ∨ h.objs.size ≤ a
  size : h.objs.size ≤ h'.objs.size
theorem Step.refl (B : Base) (X : Addr → Prop) (ρ : List Addr) (W : Addr → Prop) (h : Heap) : Step B X ρ W h ρ W h := ⟨fun _ _ e _ _ _ => e, fun _ _ => Iff.rfl, fun _ _ e => e, fun _ m => .inl m, Nat.le_refl _⟩
theorem Step.trans {B : Base} {X : Addr → Prop} {ρ ρ₁ ρ₂ : List Addr} {W W₁ W₂ : Addr → Prop} {h h₁ h₂ : Heap} (a : Step B X ρ W h ρ₁ W₁ h₁) (b : Step B X ρ₁ W₁ h₁ ρ₂ W₂ h₂) : Step B X ρ W h ρ₂ W₂ h₂ where
  kept := fun x o e n t y => b.kept x o (a.kept x o e n t y) (fun m => (a.fresh x m).elim n fun z => absurd (Heap.lt_size e) (Nat.not_lt.mpr z)) t y
  wiff := fun x l => (b.wiff x (Nat.lt_of_lt_of_le l a.size)).trans (a.wiff x l)
  pre := fun i x e => b.pre i x (a.pre i x e)
  fresh := fun x m => (b.fresh x m).elim (fun z => a.fresh x z) fun z => .inr (Nat.le_trans a.size z)
  size := Nat.le_trans a.size b.size
theorem Step.weaken {B : Base} {X Y : Addr → Prop} {ρ ρ₁ : List Addr} {W W₁ : Addr → Prop} {h h₁ : Heap} (a : Step B X ρ W h ρ₁ W₁ h₁) (k : ∀ x, x < h.objs.size → X x → Y x) : Step B Y ρ W h ρ₁ W₁ h₁ :=
  ⟨fun x o e n t y => a.kept x o e n t fun z => y (k x (Heap.lt_size e) z), a.wiff, a.pre, a.fresh, a.size⟩
section
variable {B : Base} {n : Nat} {X : Addr → Prop} {ρ ρ' : List Addr} {W W' : Addr → Prop} {cs cs' : Cells} {h h' : Heap}
theorem Mem.notW (m : Mem B W ρ cs h) {a : Addr} (w : ¬ W a) : a ∉ ρ ∧ ¬ B.isTab a :=
  ⟨fun z => w (m.own a z).1, fun z => by obtain ⟨p, hp, rfl⟩ := List.mem_map.mp z; exact w (m.tab p hp).2.1⟩
theorem Step.keptW (st : Step B X ρ W h ρ' W' h') (m : Mem B W ρ cs h) (hX : ∀ a, X a → W a) : ∀ a o, h.get? a = some o → ¬ W a → h'.get? a = some o :=
  fun a o e w => st.kept a o e (m.notW w).1 (m.notW w).2 fun x => w (hX a x)
theorem Step.val (st : Step B X ρ W h ρ' W' h') (m : Mem B W ρ cs h) (hX : ∀ a, X a → W a) {x : AV} {v : Value} (r : VRel B h W ρ x v) : VRel B h' W' ρ' x v :=
  r.mono (st.keptW m hX) (fun a l w => (st.wiff a l).mp w) st.pre
theorem Step.vals (st : Step B X ρ W h ρ' W' h') (m : Mem B W ρ cs h) (hX : ∀ a, X a → W a) {xs : List AV} {vs : List Value} (r : VRels B h W ρ xs vs) : VRels B h' W' ρ' xs vs :=
  r.mono (st.keptW m hX) (fun a l w => (st.wiff a l).mp w) st.pre
theorem Mem.cellAt (m : Mem B W ρ cs h) {i : Nat} {o : AObj} {a : Addr} (e : cs[i]? = some o) (g : ρ[i]? = some a) : CRel B h W ρ a o := m.cell i o a e g
theorem Mem.addrOf (m : Mem B W ρ cs h) {i : Nat} {o : AObj} (e : cs[i]? = some o) : ∃ a, ρ[i]? = some a := by
  have : i < ρ.length := m.len ▸ (List.getElem?_eq_some_iff.mp e).1
  exact ⟨ρ[i], by simp [this]⟩
theorem Mem.other (m : Mem B W ρ cs h) (hsz : h.objs.size ≤ h'.objs.size) (D : Addr → Prop) (hk : ∀ a o, h.get? a = some o → ¬ D a → h'.get? a = some o) (hD : ∀ a, D a → a < h.objs.size → W a) (hDρ : ∀ a ∈ ρ, ¬ D a) (hDt : ∀ a, B.isTab a → ¬ D a)
    (hW : ∀ a, a < h.objs.size → (W' a ↔ W a)) (hW' : ∀ a, W' a → a < h'.objs.size) : Mem B W' ρ cs h' := by
  have hk' : ∀ a o, h.get? a = some o → ¬ W a → h'.get? a = some o := fun a o e w => hk a o e fun d => w (hD a d (Heap.lt_size e))
  have hw : ∀ a, a < h.objs.size → W' a → W a := fun a l => (hW a l).mp
  have ρlt : ∀ a ∈ ρ, a < h.objs.size := fun a z => m.wlt a (m.own a z).1
  refine ⟨m.len, fun i o a e g => ?_, m.inj, fun a z => ⟨(hW a (ρlt a z)).mpr (m.own a z).1, (m.own a z).2⟩, hW', fun a o e => ?_, fun p hp => ?_, Nat.le_trans m.size hsz⟩
  · have c := m.cell i o a e g
    have ha : a ∈ ρ := List.mem_of_getElem? g
    have get : ∀ o, h.get? a = some o → h'.get? a = some o := fun o e => hk a o e (hDρ a ha)
    have : h'.get? a = h.get? a := by
      obtain ⟨o, ho⟩ := c.getSome
      rw [ho]; exact get o ho
    exact c.mono this hk' hw fun _ _ e => e
  · have z := m.base a o e
    exact ⟨hk' a o z.1 z.2, fun w => z.2 (hw a (Heap.lt_size z.1) w)⟩
  · obtain ⟨⟨ps, c, t⟩, w, l⟩ := m.tab p hp
    exact ⟨⟨ps, hk _ _ c (hDt _ (List.mem_map_of_mem hp)), t⟩, (hW _ (Nat.lt_of_lt_of_le l m.size)).mpr w, l⟩
end
theorem int?_eq {x : AV} {i : Int} (e : x.int? = some i) : x = .int i := (show x.int?.elim x .int = x by cases x <;> rfl).symm.trans (congrArg (Option.elim · x .int) e)
theorem str?_eq {x : AV} {i : Tx} (e : x.str? = some i) : x = .str i := (show x.str?.elim x .str = x by cases x <;> rfl).symm.trans (congrArg (Option.elim · x .str) e)
theorem tup?_eq {x : AV} {i : List AV} (e : x.tup? = some i) : x = .tup i := (show x.tup?.elim x .tup = x by cases x <;> rfl).symm.trans (congrArg (Option.elim · x .tup) e)
theorem lst?_eq {x : AV} {i : List AV} (e : x.lst? = some i) : x = .lst i := (show x.lst?.elim x .lst = x by cases x <;> rfl).symm.trans (congrArg (Option.elim · x .lst) e)
theorem bool?_eq {x : AV} {i : Bool} (e : x.bool? = some i) : x = .bool i := (show x.bool?.elim x .bool = x by cases x <;> rfl).symm.trans (congrArg (Option.elim · x .bool) e)
theorem ref?_eq {x : AV} {i : Nat} (e : x.ref? = some i) : x = .ref i := (show x.ref?.elim x .ref = x by cases x <;> rfl).symm.trans (congrArg (Option.elim · x .ref) e)
theorem re?_eq {x : AV} {i : Nat} (e : x.re? = some i) : x = .re i := (show x.re?.elim x .re = x by cases x <;> rfl).symm.trans (congrArg (Option.elim · x .re) e)
theorem ty?_eq {x : AV} {i : TyN} (e : x.ty? = some i) : x = .ty i := (show x.ty?.elim x .ty = x by cases x <;> rfl).symm.trans (congrArg (Option.elim · x .ty) e)
theorem none?_eq {x : AV} (e : x.none? = true) : x = .none := (show cond x.none? .none x = x by cases x <;> rfl).symm.trans (congrArg (cond · .none x) e)
theorem lam?_eq {x : AV} (e : x.lam? = true) : x = .lam := (show cond x.lam? .lam x = x by cases x <;> rfl).symm.trans (congrArg (cond · .lam x) e)
theorem one?_eq {α : Type} {xs : List α} {x : α} (e : one? xs = some x) : xs = [x] := match xs, e with
  | [_], e => by cases e; rfl
theorem two?_eq {α : Type} {xs : List α} {x : α × α} (e : two? xs = some x) : xs = [x.1, x.2] := match xs, e with
  | [_, _], e => by cases e; rfl
theorem orElse_eq {α β : Type} {a : Option α} {f : α → Option β} {d : Option β} {r : β} (e : orElse a f d = some r) : (∃ x, a = some x ∧ f x = some r) ∨ d = some r := by
  cases a with
  | none => exact .inr e
  | some x => exact .inl ⟨x, rfl, e⟩
theorem bind_eq {α β : Type} {a : Option α} {f : α → Option β} {r : β} (e : a.bind f = some r) : ∃ x, a = some x ∧ f x = some r := by
  cases a with
  | none => exact nN e
  | some x => exact ⟨x, rfl, e⟩
theorem map_eq {α β : Type} {a : Option α} {f : α → β} {r : β} (e : a.map f = some r) : ∃ x, a = some x ∧ f x = r := by
  cases a with
  | none => exact nN e
  | some x => exact ⟨x, rfl, sJ e⟩
theorem mapS {α β : Type} {a : Option α} {f : α → β} {r : β} (e : a.map f = some r) : ∃ x, a = some x ∧ some (f x) = some r := by
  cases a with
  | none => exact nN e
  | some x => exact ⟨x, rfl, e⟩
theorem if_eq {α : Type} {p : Prop} [Decidable p] {a : Option α} {r : α} (e : (if p then a else none) = some r) : p ∧ a = some r := by
  by_cases h : p
  · rw [if_pos h] at e; exact ⟨h, e⟩
  · rw [if_neg h] at e; exact nN e
theorem ite_eq {α : Type} {p : Prop} [Decidable p] {a b : Option α} {r : α} (e : (if p then a else b) = some r) : (p ∧ a = some r) ∨ b = some r := by
  by_cases h : p
  · rw [if_pos h] at e; exact .inl ⟨h, e⟩
  · rw [if_neg h] at e; exact .inr e
theorem nameOf_eq {t : Expr} {x : Str} (h : nameOf t = some x) : ∃ p, t = .Name x p := by
  cases t with
  | Name y p => exact ⟨p, congrArg (Expr.Name · p) (sJ h)⟩
  | _ => exact nN h
theorem methOf_eq {e : Expr} {q : Expr × Str × Pos × List Expr × Pos} (h : methOf e = some q) : e = .Call (.Attribute q.1 q.2.1 q.2.2.1) q.2.2.2.1 [] q.2.2.2.2 := by
  cases e with
  | Call f as ks p =>
    cases ks with
    | nil =>
      cases f with
      | Attribute o nm r => obtain rfl := sJ h; rfl
      | _ => exact nN h
    | cons => exact nN h
  | _ => exact nN h
theorem pair_eq {α β : Type} {a a' : α} {b b' : β} (e : some (a, b) = some (a', b')) : a = a' ∧ b = b' := Prod.mk.inj (sJ e)
section
variable {B : Base} {h : Heap} {W : Addr → Prop} {ρ : List Addr} {cs : Cells} {x : AV} {v : Value}
theorem VRel.ofInt {i : Int} (p : VRel B h W ρ x v) (e : x.int? = some i) : ∃ t, v = .int i t := by rw [int?_eq e] at p; exact p.inv
theorem VRel.ofStr {s : Tx} (p : VRel B h W ρ x v) (e : x.str? = some s) : ∃ t, v = .str ⟨s.toArray⟩ t ∧ s.length ≤ lim := by rw [str?_eq e] at p; exact p.inv
theorem VRel.ofBool {b : Bool} (p : VRel B h W ρ x v) (e : x.bool? = some b) : v = .bool b := by rw [bool?_eq e] at p; exact p.inv
theorem VRel.ofRef {i : Nat} (p : VRel B h W ρ x v) (e : x.ref? = some i) : ∃ a, v = .ref a ∧ ρ[i]? = some a := by rw [ref?_eq e] at p; exact p.inv
theorem VRel.ofTup {xs : List AV} (p : VRel B h W ρ x v) (e : x.tup? = some xs) : ∃ vs a, v = .ref a ∧ PTup h a (List.toArray vs) ∧ xs.length ≤ lim ∧ ¬ W a ∧ VRels B h W ρ xs vs := by rw [tup?_eq e] at p; exact p.inv
theorem VRel.ofLst {xs : List AV} (p : VRel B h W ρ x v) (e : x.lst? = some xs) : ∃ vs a, v = .ref a ∧ h.PlainList a (List.toArray vs) ∧ xs.length ≤ lim ∧ ¬ W a ∧ VRels B h W ρ xs vs := by rw [lst?_eq e] at p; exact p.inv
theorem VRel.ofNone (p : VRel B h W ρ x v) (e : x.none? = true) : v = .none := by rw [none?_eq e] at p; exact p.inv
theorem VRels.ofOne {xs : List AV} {vs : List Value} (p : VRels B h W ρ xs vs) (e : one? xs = some x) : ∃ v, vs = [v] ∧ VRel B h W ρ x v := by
  rw [one?_eq e] at p
  obtain ⟨v, us, rfl, q, r⟩ := p.inv
  obtain rfl := r.inv
  exact ⟨v, rfl, q⟩
theorem three?_eq {α : Type} {xs : List α} {x : α × α × α} (e : three? xs = some x) : xs = [x.1, x.2.1, x.2.2] := match xs, e with
  | [_, _, _], e => by rw [← sJ e]
theorem VRels.ofThree {xs : List AV} {vs : List Value} {y : AV × AV × AV} (p : VRels B h W ρ xs vs) (e : three? xs = some y) : ∃ v u w, vs = [v, u, w] ∧ VRel B h W ρ y.1 v ∧ VRel B h W ρ y.2.1 u ∧ VRel B h W ρ y.2.2 w := by
  rw [three?_eq e] at p
  obtain ⟨v, us, rfl, q, r⟩ := p.inv
  obtain ⟨u, us, rfl, q', r⟩ := r.inv
  obtain ⟨w, us, rfl, q'', r⟩ := r.inv
  obtain rfl := r.inv
  exact ⟨v, u, w, rfl, q, q', q''⟩
theorem VRels.ofTwo {xs : List AV} {vs : List Value} {y : AV × AV} (p : VRels B h W ρ xs vs) (e : two? xs = some y) : ∃ v u, vs = [v, u] ∧ VRel B h W ρ y.1 v ∧ VRel B h W ρ y.2 u := by
  rw [two?_eq e] at p
  obtain ⟨v, us, rfl, q, r⟩ := p.inv
  obtain ⟨u, us, rfl, q', r⟩ := r.inv
  obtain rfl := r.inv
  exact ⟨v, u, rfl, q, q'⟩
theorem listAt_eq {i : Nat} {xs : List AV} (e : listAt cs i = some xs) : cs[i]? = some (.list xs) := by
  obtain ⟨o, ho, e⟩ := bind_eq e
  rw [ho, (show o.list?.elim o .list = o by cases o <;> rfl).symm, e]; rfl
theorem dictAt_eq {i : Nat} {xs : List (Tx × AV)} (e : dictAt cs i = some xs) : cs[i]? = some (.dict xs) := by
  obtain ⟨o, ho, e⟩ := bind_eq e
  rw [ho, (show o.dict?.elim o .dict = o by cases o <;> rfl).symm, e]; rfl
theorem instAt_eq {i d : Nat} (e : instAt cs i = some d) : cs[i]? = some (.inst d) := by
  obtain ⟨o, ho, e⟩ := bind_eq e
  rw [ho, (show o.inst?.elim o .inst = o by cases o <;> rfl).symm, e]; rfl
theorem idictAt_eq {i : Nat} {xs : List (Tx × AV)} (e : idictAt cs i = some xs) : cs[i]? = some (.idict xs) := by
  obtain ⟨o, ho, e⟩ := bind_eq e
  rw [ho, (show o.idict?.elim o .idict = o by cases o <;> rfl).symm, e]; rfl
theorem Mem.listAt {i : Nat} {xs : List AV} {a : Addr} (m : Mem B W ρ cs h) (e : Ev.listAt cs i = some xs) (g : ρ[i]? = some a) : ∃ vs, h.PlainList a (List.toArray vs) ∧ xs.length ≤ lim ∧ VRels B h W ρ xs vs := m.cell i _ a (listAt_eq e) g
theorem Mem.dictAt {i : Nat} {es : List (Tx × AV)} {a : Addr} (m : Mem B W ρ cs h) (e : Ev.dictAt cs i = some es) (g : ρ[i]? = some a) : ∃ kvs, h.DictOf (strKind B.prog B.w) a kvs ∧ KVs B h W ρ es kvs := m.cell i _ a (dictAt_eq e) g
theorem Mem.instAt {i d : Nat} {a : Addr} (m : Mem B W ρ cs h) (e : Ev.instAt cs i = some d) (g : ρ[i]? = some a) : ∃ dx, h.get? a = some { cls := .ref B.clsA, dict := some dx, data := .plain } ∧ ρ[d]? = some dx := m.cell i _ a (instAt_eq e) g
theorem Mem.idictAt {i : Nat} {es : List (Tx × AV)} {a : Addr} (m : Mem B W ρ cs h) (e : Ev.idictAt cs i = some es) (g : ρ[i]? = some a) : (es = [] ∧ h.get? a = some { cls := .type "dict", data := .dict #[] }) ∨ ∃ x v hsh tk n, es = [(headersTx, x)] ∧ h.get? a = some (hObj hsh tk v n) ∧ VRel B h W ρ x v := m.cell i _ a (idictAt_eq e) g
theorem Mem.listOf {xs : List AV} (m : Mem B W ρ cs h) (p : VRel B h W ρ x v) (e : Ev.listOf cs x = some xs) : ∃ a vs, v = .ref a ∧ h.PlainList a (List.toArray vs) ∧ xs.length ≤ lim ∧ VRels B h W ρ xs vs := by
  rcases orElse_eq e with ⟨ys, hx, e⟩ | e
  · obtain ⟨vs, a, rfl, l, b, _, r⟩ := p.ofLst hx
    cases e
    exact ⟨a, vs, rfl, l, b, r⟩
  · obtain ⟨i, hi, e⟩ := bind_eq e
    obtain ⟨a, rfl, g⟩ := p.ofRef hi
    obtain ⟨vs, l, b, r⟩ := m.listAt e g
    exact ⟨a, vs, rfl, l, b, r⟩
end
end Ev
namespace Ev
open PySem PySem.W PyProof.Rows
structure Ok (B : Base) (W : Addr → Prop) (ρ : List Addr) (cs : Cells) (s : Shared) : Prop where
  mem : Mem B W ρ cs s.heap
  gens : AllBare s.gens
structure After (B : Base) (n : Nat) (X : Addr → Prop) (W : Addr → Prop) (ρ : List Addr) (cs : Cells) (s : Shared) (W' : Addr → Prop) (ρ' : List Addr) (cs' : Cells) (s' : Shared) : Prop where
  ok : Ok B W' ρ' cs' s'
  step : Step B X ρ W s.heap ρ' W' s'.heap
  os : s'.os = s.os
  low : LowTo n cs cs'
noncomputable abbrev Non : Addr → Prop := fun _ => False
section
variable {B : Base} {n : Nat} {X : Addr → Prop} {ρ ρ₁ ρ₂ : List Addr} {W W₁ W₂ : Addr → Prop} {cs cs₁ cs₂ : Cells} {s s₁ s₂ : Shared} {h h' : Heap}
theorem After.refl (o : Ok B W ρ cs s) : After B n X W ρ cs s W ρ cs s := ⟨o, Step.refl .., rfl, LowTo.refl _ _⟩
theorem After.trans (a : After B n X W ρ cs s W₁ ρ₁ cs₁ s₁) (b : After B n X W₁ ρ₁ cs₁ s₁ W₂ ρ₂ cs₂ s₂) : After B n X W ρ cs s W₂ ρ₂ cs₂ s₂ := ⟨b.ok, a.step.trans b.step, b.os.trans a.os, a.low.trans b.low⟩
theorem After.weaken {Y : Addr → Prop} (a : After B n X W ρ cs s W₁ ρ₁ cs₁ s₁) (k : ∀ x, x < s.heap.objs.size → X x → Y x) : After B n Y W ρ cs s W₁ ρ₁ cs₁ s₁ := ⟨a.ok, a.step.weaken k, a.os, a.low⟩
theorem After.up {Y : Addr → Prop} (a : After B n Non W ρ cs s W₁ ρ₁ cs₁ s₁) : After B n Y W ρ cs s W₁ ρ₁ cs₁ s₁ := a.weaken fun _ _ x => x.elim
theorem Ok.tok (o : Ok B W ρ cs s) (t : Nat) : Ok B W ρ cs { s with toks := t } := ⟨o.mem, o.gens⟩
theorem Ok.toks (o : Ok B W ρ cs s) (t : Nat) : After B n X W ρ cs s W ρ cs { s with toks := t } := ⟨o.tok t, Step.refl .., rfl, LowTo.refl _ _⟩
theorem After.val (a : After B n Non W ρ cs s W₁ ρ₁ cs₁ s₁) (o : Ok B W ρ cs s) {x : AV} {v : Value} (r : VRel B s.heap W ρ x v) : VRel B s₁.heap W₁ ρ₁ x v := a.step.val o.mem (fun _ x => x.elim) r
theorem After.vals (a : After B n Non W ρ cs s W₁ ρ₁ cs₁ s₁) (o : Ok B W ρ cs s) {x : List AV} {v : List Value} (r : VRels B s.heap W ρ x v) : VRels B s₁.heap W₁ ρ₁ x v := a.step.vals o.mem (fun _ x => x.elim) r
theorem After.length (a : After B n X W ρ cs s W₁ ρ₁ cs₁ s₁) (o : Ok B W ρ cs s) : cs.length ≤ cs₁.length := by
  rw [o.mem.len, a.ok.mem.len]
  rcases Nat.lt_or_ge ρ₁.length ρ.length with h | h
  · have e : ρ[ρ₁.length]? = some ρ[ρ₁.length] := by simp [h]
    have := (List.getElem?_eq_some_iff.mp (a.step.pre _ _ e)).1
    exact absurd this (Nat.lt_irrefl _)
  · exact h
theorem Ok.other (o : Ok B W ρ cs s) {h' : Heap} {tk : Nat} (D : Addr → Prop) (hsz : s.heap.objs.size ≤ h'.objs.size) (hk : ∀ a o, s.heap.get? a = some o → ¬ D a → h'.get? a = some o) (hD : ∀ a, D a → a < s.heap.objs.size → W a)
    (hDρ : ∀ a ∈ ρ, ¬ D a) (hDt : ∀ a, B.isTab a → ¬ D a) (hW : ∀ a, a < s.heap.objs.size → (W₁ a ↔ W a)) (hW' : ∀ a, W₁ a → a < h'.objs.size) : Ok B W₁ ρ cs { s with heap := h', toks := tk } :=
  ⟨o.mem.other hsz D hk hD hDρ hDt hW hW', o.gens⟩
theorem After.other (a : After B n X W ρ cs s W₁ ρ₁ cs₁ s₁) {h' : Heap} {tk : Nat} (D : Addr → Prop) (hsz : s₁.heap.objs.size ≤ h'.objs.size) (hk : ∀ a o, s₁.heap.get? a = some o → ¬ D a → h'.get? a = some o)
    (hD : ∀ a, D a → a < s₁.heap.objs.size → W₁ a) (hDX : ∀ x, D x → x < s.heap.objs.size → X x) (hDρ : ∀ a ∈ ρ₁, ¬ D a) (hDt : ∀ a, B.isTab a → ¬ D a) (hW : ∀ a, a < s₁.heap.objs.size → (W₂ a ↔ W₁ a)) (hW' : ∀ a, W₂ a → a < h'.objs.size) :
    After B n X W ρ cs s W₂ ρ₁ cs₁ { s₁ with heap := h', toks := tk } :=
  ⟨a.ok.other D hsz hk hD hDρ hDt hW hW', ⟨fun x o e m t y => hk x o (a.step.kept x o e m t y) fun d => y (hDX x d (Heap.lt_size e)), fun x l => (hW x (Nat.lt_of_lt_of_le l a.step.size)).trans (a.step.wiff x l), a.step.pre, a.step.fresh, Nat.le_trans a.step.size hsz⟩, a.os, a.low⟩
theorem Ok.grow (o : Ok B W ρ cs s) {h' : Heap} {tk : Nat} (hsz : s.heap.objs.size ≤ h'.objs.size) (hk : ∀ a o, s.heap.get? a = some o → h'.get? a = some o) : After B n X W ρ cs s W ρ cs { s with heap := h', toks := tk } :=
  (After.refl o).other (fun _ => False) hsz (fun a o e _ => hk a o e) (fun _ x => x.elim) (fun _ x => x.elim) (fun _ _ x => x) (fun _ _ x => x) (fun _ _ => Iff.rfl) fun a w => Nat.lt_of_lt_of_le (o.mem.wlt a w) hsz
theorem Ok.newNot (o : Ok B W ρ cs s) {a : Addr} (h : s.heap.objs.size ≤ a) : ¬ W a := fun w => absurd (o.mem.wlt a w) (Nat.not_lt.mpr h)
theorem Ok.push (o : Ok B W ρ cs s) (ob : Obj) {tk : Nat} : After B n X W ρ cs s W ρ cs { s with heap := s.heap.push ob, toks := tk } :=
  o.grow (by rw [Heap.size_push]; exact Nat.le_succ _) fun a x e => Heap.get?_push_of_some ob e
theorem getElem?_append_some {α : Type} {l : List α} {i : Nat} {a : α} (x : List α) (e : l[i]? = some a) : (l ++ x)[i]? = some a := by
  rw [List.getElem?_append_left (List.getElem?_eq_some_iff.mp e).1]; exact e
theorem Mem.alloc (m : Mem B W ρ cs h) {ob : Obj} {o : AObj} (c : CRel B (h.push ob) (fun a => W a ∨ a = h.objs.size) (ρ ++ [h.objs.size]) h.objs.size o) :
    Mem B (fun a => W a ∨ a = h.objs.size) (ρ ++ [h.objs.size]) (cs ++ [o]) (h.push ob) := by
  have k : ∀ a o, h.get? a = some o → (h.push ob).get? a = some o := fun a o e => Heap.get?_push_of_some ob e
  have ne : ∀ a, a < h.objs.size → a ≠ h.objs.size := fun a l e => Nat.lt_irrefl _ (e ▸ l)
  have ρlt : ∀ a ∈ ρ, a < h.objs.size := fun a z => m.wlt a (m.own a z).1
  refine ⟨by simp [m.len], fun i o' a e g => ?_, ?_, fun a z => ?_, fun a z => ?_, fun a o e => ⟨k a o (m.base a o e).1, fun z => z.elim (m.base a o e).2 (ne a (Heap.lt_size (m.base a o e).1))⟩, fun p hp => ?_, by rw [Heap.size_push]; exact Nat.le_succ_of_le m.size⟩
  · by_cases hi : i < cs.length
    · rw [List.getElem?_append_left hi] at e
      rw [List.getElem?_append_left (m.len ▸ hi)] at g
      have c' := m.cell i o' a e g
      obtain ⟨ob', ho'⟩ := c'.getSome
      exact c'.mono ((k a ob' ho').trans ho'.symm) (fun a o e _ => k a o e) (fun a l w => w.elim id fun z => absurd z (ne a l)) fun j b q => getElem?_append_some _ q
    · have hi' : i = cs.length := by
        have := (List.getElem?_eq_some_iff.mp e).1
        simp at this; omega
      subst hi'
      simp at e; subst e
      rw [m.len] at g
      simp at g; subst g
      exact c
  · exact List.nodup_append.mpr ⟨m.inj, by simp, fun a ha b hb => by simp at hb; subst hb; exact ne a (ρlt a ha)⟩
  · rcases List.mem_append.mp z with z | z
    · exact ⟨.inl (m.own a z).1, (m.own a z).2⟩
    · simp at z; subst z; exact ⟨.inr rfl, m.size⟩
  · rw [Heap.size_push]
    rcases z with z | rfl
    · exact Nat.lt_succ_of_lt (m.wlt a z)
    · exact Nat.lt_succ_self _
  · obtain ⟨⟨ps, c, t⟩, w, l⟩ := m.tab p hp
    exact ⟨⟨ps, k _ _ c, t⟩, .inl w, l⟩
theorem lowTo_append (hn : n ≤ cs.length) (o : AObj) : LowTo n cs (cs ++ [o]) := fun k hk l i ob hi e => by
  rw [List.getElem?_append_left (Nat.lt_of_lt_of_le hi (Nat.le_trans hk hn))] at e
  exact l i ob hi e
theorem Ok.alloc (o : Ok B W ρ cs s) (hn : n ≤ cs.length) {ob : Obj} {co : AObj} {tk : Nat} (c : CRel B (s.heap.push ob) (fun a => W a ∨ a = s.heap.objs.size) (ρ ++ [s.heap.objs.size]) s.heap.objs.size co) :
    After B n X W ρ cs s (fun a => W a ∨ a = s.heap.objs.size) (ρ ++ [s.heap.objs.size]) (cs ++ [co]) { s with heap := s.heap.push ob, toks := tk } :=
  ⟨⟨o.mem.alloc c, o.gens⟩, ⟨fun a ob' e _ _ _ => Heap.get?_push_of_some ob e, fun a l => ⟨fun w => w.elim id fun z => absurd z (Nat.ne_of_lt l), .inl⟩, fun i a e => getElem?_append_some _ e,
    fun a m => (List.mem_append.mp m).elim .inl fun z => .inr (by simp at z; exact Nat.le_of_eq z.symm), by rw [Heap.size_push]; exact Nat.le_succ _⟩, rfl, lowTo_append hn _⟩
theorem Mem.setCell (m : Mem B W ρ cs h) {i : Nat} {a : Addr} {o : AObj} (g : ρ[i]? = some a) (hs : Heap.SameBut a h h') (c : CRel B h' W ρ a o) : Mem B W ρ (cs.set i o) h' := by
  have ha : a ∈ ρ := List.mem_of_getElem? g
  have wa := (m.own a ha).1
  have k : ∀ b o, h.get? b = some o → ¬ W b → h'.get? b = some o := fun b o e w => (hs.2 b fun z => w (z ▸ wa)).trans e
  refine ⟨by simp [m.len], fun j o' b e q => ?_, m.inj, m.own, fun b w => hs.1 ▸ m.wlt b w, fun b o e => ⟨k b o (m.base b o e).1 (m.base b o e).2, (m.base b o e).2⟩, fun p hp => ?_, by rw [hs.1]; exact m.size⟩
  · rw [List.getElem?_set] at e
    by_cases hij : i = j
    · subst hij
      rw [if_pos rfl] at e
      split at e
      · cases e
        rw [g] at q; cases q
        exact c
      · exact nN e
    · rw [if_neg hij] at e
      have hb : b ≠ a := fun z => hij (by
        subst z
        have := (List.getElem?_inj (List.getElem?_eq_some_iff.mp g).1 m.inj).mp (g.trans q.symm)
        exact this)
      exact (m.cell j o' b e q).mono (hs.2 b hb) k (fun _ _ w => w) fun _ _ z => z
  · obtain ⟨⟨ps, z, t⟩, w, l⟩ := m.tab p hp
    have hne : p.2 ≠ a := fun e => absurd l (Nat.not_lt.mpr (e ▸ (m.own a ha).2))
    exact ⟨⟨ps, (hs.2 _ hne).trans z, t⟩, w, l⟩
theorem lowTo_set {i : Nat} {co : AObj} (hl : n ≤ i ∨ ∀ k old, cs[i]? = some old → belowO k old = true → belowO k co = true) : LowTo n cs (cs.set i co) := fun k hk l j ob hj e => by
  rw [List.getElem?_set] at e
  split at e
  · rename_i hij; subst hij
    split at e
    · cases e
      rename_i hlt
      rcases hl with hl | hl
      · exact absurd (Nat.lt_of_lt_of_le hj hk) (Nat.not_lt.mpr hl)
      · have e' : cs[i]? = some cs[i] := by simp [hlt]
        exact hl k _ e' (l i _ hj e')
    · exact nN e
  · exact l j ob hj e
theorem Ok.setCell (o : Ok B W ρ cs s) {i : Nat} {a : Addr} {co : AObj} {h' : Heap} {tk : Nat} (g : ρ[i]? = some a) (hs : Heap.SameBut a s.heap h') (c : CRel B h' W ρ a co)
    (hl : n ≤ i ∨ ∀ k old, cs[i]? = some old → belowO k old = true → belowO k co = true) :
    After B n X W ρ cs s W ρ (cs.set i co) { s with heap := h', toks := tk } :=
  ⟨⟨o.mem.setCell g hs c, o.gens⟩, ⟨fun b ob e m _ _ => (hs.2 b fun z => m (z ▸ List.mem_of_getElem? g)).trans e, fun _ _ => Iff.rfl, fun _ _ e => e, fun _ m => .inl m, Nat.le_of_eq hs.1.symm⟩, rfl, lowTo_set hl⟩
end
inductive Loc where
  | ns (L : Addr) (x : Str)
  | cel (c : Addr)
noncomputable def Loc.addr : Loc → Addr
  | .ns L _ => L
  | .cel c => c
noncomputable def Loc.apart : Loc → Loc → Prop
  | .ns L x, .ns L' y => L = L' → x ≠ y
  | .cel c, .cel d => c ≠ d
  | .ns L _, .cel c => L ≠ c
  | .cel c, .ns L _ => L ≠ c
noncomputable def LocRel (B : Base) (h : Heap) (W : Addr → Prop) (ρ : List Addr) (x : Option AV) : Loc → Prop
  | .ns L y => ∃ m, h.Ns L m ∧ OptRel B h W ρ x (m y)
  | .cel c => ∃ v, h.IsCell c v ∧ OptRel B h W ρ x v
structure Frm (B : Base) (lay : List Loc) (fr : Fr) (W : Addr → Prop) (ρ : List Addr) (h : Heap) : Prop where
  len : lay.length = fr.length
  rel : ∀ (i : Nat) (l : Loc) (x : Option AV), lay[i]? = some l → fr[i]? = some x → LocRel B h W ρ x l
  own : ∀ l ∈ lay, W l.addr ∧ l.addr ∉ ρ ∧ B.h₀.objs.size ≤ l.addr
  apart : ∀ (i j : Nat) (l l' : Loc), lay[i]? = some l → lay[j]? = some l' → i ≠ j → l.apart l'
noncomputable def layX (lay : List Loc) : Addr → Prop := fun a => ∃ l ∈ lay, l.addr = a
section
variable {B : Base} {n : Nat} {X : Addr → Prop} {ρ ρ' : List Addr} {W W' : Addr → Prop} {cs cs' : Cells} {h h' : Heap} {lay : List Loc} {fr : Fr}
theorem Mem.tabLt (m : Mem B W ρ cs h) {a : Addr} (t : B.isTab a) : a < B.h₀.objs.size := by
  obtain ⟨p, hp, rfl⟩ := List.mem_map.mp t
  exact (m.tab p hp).2.2
theorem LocRel.mono {x : Option AV} {l : Loc} (ha : h'.get? l.addr = h.get? l.addr) (hk : ∀ a o, h.get? a = some o → ¬ W a → h'.get? a = some o) (hW : ∀ a, a < h.objs.size → W' a → W a) (hρ : ∀ (i : Nat) (a : Addr), ρ[i]? = some a → ρ'[i]? = some a)
    (r : LocRel B h W ρ x l) : LocRel B h' W' ρ' x l := by
  cases l with
  | ns L y => obtain ⟨m, hn, o⟩ := r; exact ⟨m, by unfold Heap.Ns; rw [show h'.get? L = h.get? L from ha]; exact hn, o.mono hk hW hρ⟩
  | cel c => obtain ⟨v, hc, o⟩ := r; exact ⟨v, by unfold Heap.IsCell; rw [show h'.get? c = h.get? c from ha]; exact hc, o.mono hk hW hρ⟩
theorem LocRel.getSome {x : Option AV} {l : Loc} (r : LocRel B h W ρ x l) : ∃ o, h.get? l.addr = some o := by
  cases l with
  | ns L y => obtain ⟨m, ⟨o, _, _, ho, _⟩, _⟩ := r; exact ⟨o, ho⟩
  | cel c => obtain ⟨v, ⟨o, ho, _⟩, _⟩ := r; exact ⟨o, ho⟩
theorem Frm.relAt (F : Frm B lay fr W ρ h) {i : Nat} {l : Loc} (e : lay[i]? = some l) : ∃ x, fr[i]? = some x ∧ LocRel B h W ρ x l := by
  have : i < fr.length := F.len ▸ (List.getElem?_eq_some_iff.mp e).1
  exact ⟨fr[i], by simp [this], F.rel i l _ e (by simp [this])⟩
theorem Frm.step (F : Frm B lay fr W ρ h) (m : Mem B W ρ cs h) (st : Step B X ρ W h ρ' W' h') (hX : ∀ l ∈ lay, ¬ X l.addr) (hXW : ∀ a, X a → W a) : Frm B lay fr W' ρ' h' := by
  have lt : ∀ l ∈ lay, l.addr < h.objs.size := fun l hl => m.wlt _ (F.own l hl).1
  refine ⟨F.len, fun i l x e g => ?_, fun l hl => ⟨(st.wiff _ (lt l hl)).mpr (F.own l hl).1, fun z => (st.fresh _ z).elim (F.own l hl).2.1 fun q => absurd (lt l hl) (Nat.not_lt.mpr q), (F.own l hl).2.2⟩, F.apart⟩
  have hl : l ∈ lay := List.mem_of_getElem? e
  have r := F.rel i l x e g
  obtain ⟨o, ho⟩ := r.getSome
  refine r.mono ((st.kept _ o ho (F.own l hl).2.1 (fun t => ?_) (hX l hl)).trans ho.symm) (st.keptW m hXW) (fun a l w => (st.wiff a l).mp w) st.pre
  exact absurd (m.tabLt t) (Nat.not_lt.mpr (F.own l hl).2.2)
end
section
variable {B : Base} {n : Nat} {ρ ρ₁ : List Addr} {W W₁ : Addr → Prop} {cs cs₁ : Cells} {s s₁ : Shared} {lay : List Loc} {fr : Fr}
theorem Frm.after (F : Frm B lay fr W ρ s.heap) (o : Ok B W ρ cs s) (a : After B n Non W ρ cs s W₁ ρ₁ cs₁ s₁) : Frm B lay fr W₁ ρ₁ s₁.heap := F.step o.mem a.step (fun _ _ x => x) fun _ x => x.elim
end
end Ev
namespace Ev
open PySem PySem.W PyProof.Rows PySem.SeqAt
open AutoSeq1 (wpAny_loadPart')
open MeetsSeq MeetsSeq2 MeetsSeq3 SeqRoads2
noncomputable def LtAt (A : Around) (s : Shared) (y x : Value) (b : Bool) : Prop :=
  ∀ (prog : Program) (w : PySem.World) (E : Value → Shared → Prop) (Q : Value → Shared → Prop), Q (.bool b) s → wpAny (model prog w) A (richCompare .Lt y x) Q E s
noncomputable def scanLt (e f : Nat → Bool) (last : Bool) : Nat → Nat → Bool
  | _, 0 => last
  | i, k + 1 => if e i then scanLt e f last (i + 1) k else f i
theorem tuple_ltAt (l b : Addr) (items items2 : Array Value) (n n2 : Nat) (dd dd2 : Option Addr) (sl sl2 : Array (Option Value)) (e f : Nat → Bool) :
    Meets (Builtin.«tuple.__lt__» ⟨[.ref l, .ref b], []⟩)
      (fun A R s => s.heap.get? l = some { cls := .type "tuple", dict := dd, data := .seq items n, slots := sl } ∧ s.heap.get? b = some { cls := .type "tuple", dict := dd2, data := .seq items2 n2, slots := sl2 } ∧
        (∀ j (h1 : j < items.size) (h2 : j < items2.size), (∀ m, m < j → e m = true) → EqAt A.in1 s items[j] items2[j] (e j)) ∧
        (∀ j (h1 : j < items.size) (h2 : j < items2.size), (∀ m, m < j → e m = true) → e j = false → LtAt A.in1 s items[j] items2[j] (f j)) ∧
        R (.ok (.ret (.bool (scanLt e f (decide (items.size < items2.size)) 0 (min items.size items2.size))))) s) :=
  .of_wp fun prog w A R s h => by
    obtain ⟨hp, g, d, tk, os⟩ := s; obtain ⟨hl, hb, he, hf, h⟩ := h
    have f2 := AutoSeq1.sub_tuple_tuple
    have hZ : (items.toList.zip items2.toList).length = min items.size items2.size := by simp
    wp_walk using wpAny_loadPart' hl, wpAny_loadPart' hb, wpAny_forIn_list _ (fun rest b s' => b.1 = none ∧ s' = ⟨hp, g, d, tk, os⟩ ∧ ∃ i, rest = (items.toList.zip items2.toList).drop i ∧ (∀ m, m < i → e m = true) ∧
      R (.ok (.ret (.bool (scanLt e f (decide (items.size < items2.size)) i (min items.size items2.size - i))))) ⟨hp, g, d, tk, os⟩) _
    case turn =>
      rintro ⟨y, x⟩ rest b s' ⟨hb', rfl, i, hz, hall, hR⟩
      have hlt : i < (items.toList.zip items2.toList).length := by
        rcases Nat.lt_or_ge i (items.toList.zip items2.toList).length with h' | h'
        · exact h'
        · rw [List.drop_of_length_le h'] at hz; cases hz
      have hm : i < min items.size items2.size := hZ ▸ hlt
      have h1 : i < items.size := Nat.lt_of_lt_of_le hm (Nat.min_le_left _ _)
      have h2 : i < items2.size := Nat.lt_of_lt_of_le hm (Nat.min_le_right _ _)
      rw [List.drop_eq_getElem_cons hlt] at hz
      injection hz with hyx hrest
      have hy : y = items[i] := by have := congrArg Prod.fst hyx; simpa using this
      have hx : x = items2[i] := by have := congrArg Prod.snd hyx; simpa using this
      subst hy hx
      have hk : min items.size items2.size - i = (min items.size items2.size - (i + 1)) + 1 := by omega
      rw [hk] at hR
      refine wpAny_bind (he i h1 h2 hall prog w _ _ ?_)
      cases hy : e i with
      | true =>
        simp only [scanLt, hy, if_true] at hR
        wp_walk
        exact ⟨rfl, rfl, i + 1, hrest, fun m hm => (Nat.lt_or_ge m i).elim (hall m) fun q => by
          have : m = i := by omega
          subst this; exact hy, hR⟩
      | false =>
        simp only [scanLt, hy, Bool.false_eq_true, if_false] at hR
        have hf' : ∀ (E Q : Value → Shared → Prop), Q (.bool (f i)) _ → wpAny (model prog w) A.in1 (richCompare .Lt items[i] items2[i]) Q E _ := hf i h1 h2 hall hy prog w
        wp_walk using hf'
        exact ⟨_, rfl, hR⟩
    case fin =>
      rintro ⟨b1, b2⟩ s' ⟨hb', rfl, i, hz, hall, hR⟩
      simp only at hb'
      subst hb'
      have hge : min items.size items2.size ≤ i := by
        rcases Nat.lt_or_ge i (items.toList.zip items2.toList).length with h' | h'
        · rw [List.drop_eq_getElem_cons h'] at hz; cases hz
        · exact hZ ▸ h'
      rw [Nat.sub_eq_zero_of_le hge] at hR
      wp_walk
      exact ⟨_, rfl, by simpa [Builtin.Tuple.tupleCompareSizes, scanLt] using hR⟩
    case h =>
      exact ⟨rfl, rfl, 0, rfl, fun m hm => absurd hm (Nat.not_lt_zero _), by simpa using h⟩
end Ev
namespace Ev
open PySem PySem.W PyProof.Rows PySem.SeqAt
open MeetsSeq MeetsSeq2 MeetsSeq3 SeqRoads2
section
variable {B : Base} {W : Addr → Prop} {ρ : List Addr} {cs : Cells} {s : Shared} {h : Heap}
theorem seq_inj {c : Value} {d : Option Addr} {xs ys : List Value} {k m : Nat} {sl : Array (Option Value)} (e : some (⟨c, d, .seq xs.toArray k, sl⟩ : Obj) = some ⟨c, d, .seq ys.toArray m, sl⟩) : xs = ys :=
  congrArg Array.toList (Data.seq.inj (Obj.mk.inj (sJ e)).2.2.1).1
theorem PlainList.inj {a : Addr} {xs ys : List Value} (x : h.PlainList a xs.toArray) (y : h.PlainList a ys.toArray) : xs = ys :=
  x.elim fun _ e => y.elim fun _ f => seq_inj (e.symm.trans f)
theorem PTup.inj {a : Addr} {xs ys : List Value} (x : PTup h a xs.toArray) (y : PTup h a ys.toArray) : xs = ys :=
  x.elim fun _ e => y.elim fun _ f => seq_inj (e.symm.trans f)
theorem strOf_beq (x y : Tx) : ((⟨x.toArray⟩ : Str) == ⟨y.toArray⟩) = (x == y) := Bool.eq_iff_iff.mpr (by rw [beq_iff_eq, beq_iff_eq]; exact ⟨fun h => congrArg (fun z : Str => z.cps.toList) h, fun h => h ▸ rfl⟩)
theorem eqvs_iff {f : AV → AV → Option Bool} : ∀ {xs ys : List AV} {b : Bool}, eqvs f xs ys = some b →
    ∃ e : Nat → Bool, (∀ (j : Nat) (x y : AV), xs[j]? = some x → ys[j]? = some y → f x y = some (e j)) ∧ b = ((List.range (min xs.length ys.length)).all e && xs.length == ys.length) := by
  intro xs
  induction xs with
  | nil =>
    intro ys b h
    refine ⟨fun _ => true, fun j x y hx _ => (Option.some_ne_none _ (hx.symm.trans List.getElem?_nil)).elim, ?_⟩
    cases h
    cases ys <;> rfl
  | cons x xs ih =>
    intro ys b h
    cases ys with
    | nil => cases h; exact ⟨fun _ => true, fun j x y _ hy => (Option.some_ne_none _ (hy.symm.trans List.getElem?_nil)).elim, rfl⟩
    | cons y ys =>
      obtain ⟨a, h1, h⟩ := bind_eq h
      obtain ⟨b', h2, rfl⟩ := map_eq h
      obtain ⟨e, he, hb⟩ := ih h2
      refine ⟨fun j => Nat.casesOn j a e, fun j x' y' hx hy => ?_, ?_⟩
      · cases j with
        | zero => cases hx; cases hy; exact h1
        | succ j => exact he j x' y' hx hy
      · rw [hb, List.length_cons, List.length_cons, Nat.succ_min_succ, List.range_succ_eq_map, List.all_cons, List.all_map, Bool.and_assoc]
        congr 2
        exact Bool.eq_iff_iff.mpr (by simp only [beq_iff_eq, Nat.add_right_cancel_iff])
theorem items_at (o : Ok B W ρ cs s) {f : AV → AV → Option Bool} {P : Value → Value → Bool → Prop} (hf : ∀ {x y : AV} {v u : Value} {b : Bool}, VRel B s.heap W ρ x v → VRel B s.heap W ρ y u → f x y = some b → P v u b)
    {xs ys : List AV} {vs us : List Value} (rx : VRels B s.heap W ρ xs vs) (ry : VRels B s.heap W ρ ys us) {b : Bool} (e : eqvs f xs ys = some b) :
    ∃ e : Nat → Bool, (∀ (j : Nat) (h1 : j < vs.toArray.size) (h2 : j < us.toArray.size), P vs.toArray[j] us.toArray[j] (e j)) ∧ b = ((List.range (min vs.toArray.size us.toArray.size)).all e && vs.toArray.size == us.toArray.size) := by
  obtain ⟨f, hf', hb⟩ := eqvs_iff e
  refine ⟨f, fun j h1 h2 => ?_, by rw [List.size_toArray, List.size_toArray, ← rx.length, ← ry.length]; exact hb⟩
  have h1' : j < xs.length := rx.length ▸ h1
  have h2' : j < ys.length := ry.length ▸ h2
  obtain ⟨v, hv, rv⟩ := rx.get (List.getElem?_eq_getElem h1')
  obtain ⟨u, hu, ru⟩ := ry.get (List.getElem?_eq_getElem h2')
  rw [show vs.toArray[j] = v from (List.getElem?_eq_some_iff.mp hv).2, show us.toArray[j] = u from (List.getElem?_eq_some_iff.mp hu).2]
  exact hf rv ru (hf' j _ _ (List.getElem?_eq_getElem h1') (List.getElem?_eq_getElem h2'))
theorem eqv_elim (o : Ok B W ρ cs s) {n : Nat} {P R : Value → Value → Bool → Prop} (ih : ∀ {x y : AV} {v u : Value} {b : Bool}, VRel B s.heap W ρ x v → VRel B s.heap W ρ y u → eqv cs n x y = some b → P v u b)
    (kInt : ∀ (i j : Int) (t t' : Tok), R (.int i t) (.int j t') (i == j)) (kStr : ∀ (i j : Tx) (t t' : Tok), R (.str ⟨i.toArray⟩ t) (.str ⟨j.toArray⟩ t') (i == j))
    (kTup : ∀ {a a' : Addr} {vs us : List Value} {f : Nat → Bool}, PTup s.heap a vs.toArray → PTup s.heap a' us.toArray → (∀ (j : Nat) (h1 : j < vs.toArray.size) (h2 : j < us.toArray.size), P vs.toArray[j] us.toArray[j] (f j)) →
      R (.ref a) (.ref a') ((List.range (min vs.toArray.size us.toArray.size)).all f && vs.toArray.size == us.toArray.size))
    (kLst : ∀ {a a' : Addr} {vs us : List Value} {f : Nat → Bool}, s.heap.PlainList a vs.toArray → s.heap.PlainList a' us.toArray → vs.toArray.size = us.toArray.size → (∀ (j : Nat) (h1 : j < vs.toArray.size) (h2 : j < us.toArray.size), P vs.toArray[j] us.toArray[j] (f j)) →
      R (.ref a) (.ref a') ((List.range vs.toArray.size).all f))
    (kLen : ∀ {a a' : Addr} {vs us : List Value}, s.heap.PlainList a vs.toArray → s.heap.PlainList a' us.toArray → (vs.toArray.size != us.toArray.size) = true → R (.ref a) (.ref a') false)
    {x y : AV} {v u : Value} {b : Bool} (p : VRel B s.heap W ρ x v) (q : VRel B s.heap W ρ y u) (e : eqv cs (n + 1) x y = some b) : R v u b := by
  rcases orElse_eq e with ⟨i, hx, e⟩ | e
  · obtain ⟨j, hy, rfl⟩ := map_eq e
    obtain ⟨t, rfl⟩ := p.ofInt hx
    obtain ⟨t', rfl⟩ := q.ofInt hy
    exact kInt ..
  rcases orElse_eq e with ⟨i, hx, e⟩ | e
  · obtain ⟨j, hy, rfl⟩ := map_eq e
    obtain ⟨t, rfl, _⟩ := p.ofStr hx
    obtain ⟨t', rfl, _⟩ := q.ofStr hy
    exact kStr ..
  rcases orElse_eq e with ⟨xs, hx, e⟩ | e
  · obtain ⟨ys, hy, e⟩ := bind_eq e
    obtain ⟨vs, a, rfl, l, _, _, r⟩ := p.ofTup hx
    obtain ⟨us, a', rfl, l', _, _, r'⟩ := q.ofTup hy
    obtain ⟨f, hf, rfl⟩ := items_at o ih r r' e
    exact kTup l l' hf
  · obtain ⟨xs, hx, e⟩ := bind_eq e
    obtain ⟨ys, hy, e⟩ := bind_eq e
    obtain ⟨a, vs, rfl, l, _, r⟩ := o.mem.listOf p hx
    obtain ⟨a', us, rfl, l', _, r'⟩ := o.mem.listOf q hy
    have hsz : (vs.toArray.size = us.toArray.size) = (xs.length = ys.length) := by rw [List.size_toArray, List.size_toArray, r.length, r'.length]
    by_cases hl : xs.length = ys.length
    · rw [if_pos hl] at e
      obtain ⟨f, hf, hb⟩ := items_at o ih r r' e
      rw [← hsz] at hl
      rw [← hl, Nat.min_self, beq_self_eq_true, Bool.and_true] at hb
      rw [hb]
      exact kLst l l' hl hf
    · rw [if_neg hl] at e
      cases e
      exact kLen l l' (bne_iff_ne.mpr fun h => hl (hsz ▸ h))
theorem all_range {f : Nat → Bool} {n : Nat} (h : ∀ j, j < n → f j = true) : (List.range n).all f = true := List.all_eq_true.mpr fun j hj => h j (List.mem_range.mp hj)
theorem eqv_same (o : Ok B W ρ cs s) (n : Nat) : ∀ {x y : AV} {v u : Value} {b : Bool}, VRel B s.heap W ρ x v → VRel B s.heap W ρ y u → eqv cs n x y = some b → v = u → b = true := by
  induction n with
  | zero => intro x y v u b p q e; exact nN e
  | succ n ih =>
    refine fun p q e => eqv_elim o (P := fun v u b => v = u → b = true) (R := fun v u b => v = u → b = true) ih (fun i j t t' h => ?_) (fun i j t t' h => ?_) (fun l l' hf h => ?_) (fun l l' hz hf h => ?_) (fun l l' hz h => ?_) p q e
    · rw [(Value.int.inj h).1]; exact beq_self_eq_true j
    · rw [show i = j from congrArg (fun z : Str => z.cps.toList) (Value.str.inj h).1]; exact beq_self_eq_true j
    · cases h
      obtain rfl := PTup.inj l l'
      rw [Nat.min_self, beq_self_eq_true, Bool.and_true]
      exact all_range fun j hj => hf j hj hj rfl
    · cases h
      obtain rfl := PlainList.inj l l'
      exact all_range fun j hj => hf j hj hj rfl
    · cases h
      obtain rfl := PlainList.inj l l'
      exact absurd rfl (bne_iff_ne.mp hz)
theorem eqv_at (o : Ok B W ρ cs s) (n : Nat) : ∀ {x y : AV} {v u : Value} {b : Bool} {A : Around}, A.units + n < cLine → VRel B s.heap W ρ x v → VRel B s.heap W ρ y u → eqv cs n x y = some b → EqAt A s v u b := by
  induction n with
  | zero => intro x y v u b A hu p q e; exact nN e
  | succ n ih =>
    intro x y v u b A hu p q e
    have hu' : A.in1.units + n < cLine := by rw [Around.in1_units, Nat.add_assoc, Nat.add_comm 1]; exact hu
    have hlt : A.units < cLine := Nat.lt_of_le_of_lt (Nat.le_add_right _ _) hu
    have fin : ∀ {a a' : Addr} {b : Bool}, RcAt A s (.ref a) (.ref a') b → (Value.ref a = .ref a' → b = true) → EqAt A s (.ref a) (.ref a') b := fun {a a' b} h hs => by
      by_cases ha : a = a'
      · rw [hs (ha ▸ rfl), ha]; exact EqAt.same _
      · exact EqAt.of_refs ha h
    refine eqv_elim o (P := fun v u b => EqAt A.in1 s v u b) (R := fun v u b => (v = u → b = true) → EqAt A s v u b) (fun rv ru e => ih hu' rv ru e) (fun i j t t' _ => (EqGives.int _ _ _ _).at A s) (fun i j t t' _ => (EqGives.str _ _ _ _).at A s)
      (fun l l' hf => fin (RcAt.tuples l.isTuple l'.isTuple hlt hf)) (fun l l' hz hf => fin (RcAt.lists l.isList l'.isList hz hlt hf)) (fun l l' hz => fin (RcAt.lists_lengths l.isList l'.isList hz hlt)) p q e (eqv_same o _ p q e)
theorem eqv_rc (o : Ok B W ρ cs s) {n : Nat} {x y : AV} {v u : Value} {b : Bool} {A : Around} (hu : A.units + n < cLine) (p : VRel B s.heap W ρ x v) (q : VRel B s.heap W ρ y u) (e : eqv cs n x y = some b) : RcAt A s v u b := by
  cases n with
  | zero => exact nN e
  | succ n =>
    have hu' : A.in1.units + n < cLine := by rw [Around.in1_units, Nat.add_assoc, Nat.add_comm 1]; exact hu
    have hlt : A.units < cLine := Nat.lt_of_le_of_lt (Nat.le_add_right _ _) hu
    exact eqv_elim o (P := fun v u b => EqAt A.in1 s v u b) (R := fun v u b => RcAt A s v u b) (fun rv ru e => eqv_at o n hu' rv ru e) (fun i j t t' => RcAt.int_int i t j t') (fun i j t t' prog w E Q h => RcAt.str_str _ t _ t' prog w E Q (by rw [strOf_beq]; exact h))
      (fun l l' hf => RcAt.tuples l.isTuple l'.isTuple hlt hf) (fun l l' hz hf => RcAt.lists l.isList l'.isList hz hlt hf) (fun l l' hz => RcAt.lists_lengths l.isList l'.isList hz hlt) p q e
end
end Ev
namespace Ev
open PySem PySem.W PyProof.Rows PySem.SeqAt
open MeetsSeq MeetsSeq2 MeetsSeq3 SeqRoads2
noncomputable def copOf : COp → CmpOp
  | .eq => .Eq | .ne => .NotEq | .lt => .Lt | .le => .LtE | .gt => .Gt | .ge => .GtE | .is => .Is | .isnot => .IsNot | .in_ => .In | .notin => .NotIn
theorem copOf_tr (o : CmpOp) : copOf (trCOp o) = o := by cases o <;> rfl
theorem ltTx_iff (a : Tx) : ∀ b : Tx, ltTx a b = decide (a < b) := by
  induction a with
  | nil => intro b; cases b <;> rfl
  | cons a r ih =>
    intro b
    cases b with
    | nil => rfl
    | cons b q =>
      rw [ltTx, ih q]
      by_cases h : a < b
      · rw [if_pos h]; exact (decide_eq_true (List.cons_lt_cons_iff.mpr (.inl h))).symm
      · rw [if_neg h]
        by_cases h' : b < a
        · rw [if_pos h']; exact (decide_eq_false fun z => (List.cons_lt_cons_iff.mp z).elim h fun z => Nat.lt_irrefl _ (z.1 ▸ h')).symm
        · rw [if_neg h']
          obtain rfl := Nat.le_antisymm (Nat.le_of_not_lt h') (Nat.le_of_not_lt h)
          exact decide_eq_decide.mpr ⟨fun z => List.cons_lt_cons_iff.mpr (.inr ⟨rfl, z⟩), fun z => (List.cons_lt_cons_iff.mp z).elim (fun z => absurd z (Nat.lt_irrefl _)) (·.2)⟩
section
variable {B : Base} {W : Addr → Prop} {ρ : List Addr} {cs : Cells} {s : Shared} {A : Around} {E : Value → Shared → Prop} {Q : Value → Shared → Prop}
theorem eqv_cmp (o : Ok B W ρ cs s) {n : Nat} (hu : A.units + n < cLine) {x y : AV} {v u : Value} {b : Bool} (p : VRel B s.heap W ρ x v) (q : VRel B s.heap W ρ y u) (e : eqv cs n x y = some b) (hQ : Q (.bool b) s) :
    wpAny (model B.prog B.w) A (compareOp .Eq v u) Q E s := eqv_rc o hu p q e _ _ _ _ hQ
theorem eqv_cmp_ne (o : Ok B W ρ cs s) {n : Nat} (hu : A.units + n < cLine) {x y : AV} {v u : Value} {b : Bool} (p : VRel B s.heap W ρ x v) (q : VRel B s.heap W ρ y u) (e : eqv cs n x y = some b) (hQ : Q (.bool (!b)) s) :
    wpAny (model B.prog B.w) A (compareOp .NotEq v u) Q E s := by
  cases n with
  | zero => exact nN e
  | succ n =>
    have hu' : A.in1.units + n < cLine := by rw [Around.in1_units, Nat.add_assoc, Nat.add_comm 1]; exact hu
    have hlt : A.units < cLine := Nat.lt_of_le_of_lt (Nat.le_add_right _ _) hu
    exact eqv_elim o (P := fun v u b => EqAt A.in1 s v u b) (R := fun v u b => Q (.bool (!b)) s → wpAny (model B.prog B.w) A (compareOp .NotEq v u) Q E s) (fun rv ru e => eqv_at o n hu' rv ru e) (fun i j t t' h => P.ne_int h) (fun i j t t' h => P.ne_str h)
      (fun l l' hf h => l.elim fun m l => l'.elim fun m' l' => richCompare_meets_room (op := .NotEq) ⟨_, l, rfl⟩ ⟨_, l', rfl⟩ F.slot_tuple_ne F.entry_tuple_ne (F.args_tuple_ne_2 _ _) (tuple_neAt _ _ _ _ _ _ _ _ _ _ _) ⟨l, l', hf, ⟨(fun x => nomatch x), h⟩⟩ hlt)
      (fun l l' hz hf h => l.elim fun m l => l'.elim fun m' l' => richCompare_meets_room (op := .NotEq) ⟨_, l, rfl⟩ ⟨_, l', rfl⟩ F.slot_list_ne F.entry_list_ne (F.args_list_ne_2 _ _) (list_neAt _ _ _ _ _ _ _ _ _ _ hz _) ⟨l, l', hf, ⟨(fun x => nomatch x), h⟩⟩ hlt)
      (fun l l' hz h => l.elim fun m l => l'.elim fun m' l' => richCompare_meets_room (op := .NotEq) ⟨_, l, rfl⟩ ⟨_, l', rfl⟩ F.slot_list_ne F.entry_list_ne (F.args_list_ne_2 _ _) (list_ne_lengthsAt _ _ _ _ _ _ _ _ _ _ hz) ⟨l, l', ⟨(fun x => nomatch x), h⟩⟩ hlt) p q e hQ
theorem get_nil {j : Nat} {x : AV} {P : Prop} (h : ([] : List AV)[j]? = some x) : P := (Option.some_ne_none _ (h.symm.trans List.getElem?_nil)).elim
theorem ltvs_scan {e f : AV → AV → Option Bool} {xs : List AV} : ∀ {ys : List AV} {b : Bool}, ltvs e f xs ys = some b →
    ∃ g k : Nat → Bool, (∀ (j : Nat) (x y : AV), xs[j]? = some x → ys[j]? = some y → (∀ m, m < j → g m = true) → e x y = some (g j)) ∧ (∀ (j : Nat) (x y : AV), xs[j]? = some x → ys[j]? = some y → (∀ m, m < j → g m = true) → g j = false → f x y = some (k j)) ∧
      ∀ i, scanLt (fun j => g (j - i)) (fun j => k (j - i)) (decide (xs.length < ys.length)) i (min xs.length ys.length) = b := by
  induction xs with
  | nil =>
    intro ys b h
    cases h
    exact ⟨fun _ => true, fun _ => true, fun j x y hx => get_nil hx, fun j x y hx => get_nil hx, fun i => by cases ys <;> rfl⟩
  | cons x xs ih =>
    intro ys b h
    cases ys with
    | nil => cases h; exact ⟨fun _ => true, fun _ => true, fun j x y _ hx => get_nil hx, fun j x y _ hx => get_nil hx, fun i => rfl⟩
    | cons y ys =>
      obtain ⟨t, h1, h⟩ := bind_eq h
      have hz : ∀ {P : Nat → Prop} {a b : AV}, (x :: xs)[0]? = some a → (y :: ys)[0]? = some b → e a b = some t := fun ha hb => by cases ha; cases hb; exact h1
      cases t with
      | true =>
        obtain ⟨g, k, hg, hk, hb⟩ := ih (show ltvs e f xs ys = some b from h)
        refine ⟨fun j => Nat.casesOn j true g, fun j => Nat.casesOn j true k, fun j x' y' hx hy hm => ?_, fun j x' y' hx hy hm hf => ?_, fun i => ?_⟩
        · cases j with
          | zero => exact hz (P := fun _ => True) hx hy
          | succ j => exact hg j x' y' hx hy fun m hm' => hm (m + 1) (Nat.succ_lt_succ hm')
        · cases j with
          | zero => exact tF hf
          | succ j => exact hk j x' y' hx hy (fun m hm' => hm (m + 1) (Nat.succ_lt_succ hm')) hf
        · rw [List.length_cons, List.length_cons, Nat.succ_min_succ, scanLt, Nat.sub_self, ← hb (i + 1), show decide (xs.length + 1 < ys.length + 1) = decide (xs.length < ys.length) from decide_eq_decide.mpr Nat.succ_lt_succ_iff]
          show scanLt _ _ _ _ _ = _
          have key : ∀ n j, i + 1 ≤ j → scanLt (fun j => Nat.casesOn (j - i) true g) (fun j => Nat.casesOn (j - i) true k) (decide (xs.length < ys.length)) j n = scanLt (fun j => g (j - (i + 1))) (fun j => k (j - (i + 1))) (decide (xs.length < ys.length)) j n := by
            intro n
            induction n with
            | zero => intro j _; rfl
            | succ n ih =>
              intro j hj
              rw [scanLt, scanLt, ih (j + 1) (Nat.le_succ_of_le hj), show j - i = (j - (i + 1)) + 1 from (Nat.succ_pred_eq_of_pos (Nat.sub_pos_of_lt hj)).symm]
          exact key _ _ (Nat.le_refl _)
      | false =>
        refine ⟨fun j => Nat.casesOn j false fun _ => true, fun j => b, fun j x' y' hx hy hm => ?_, fun j x' y' hx hy hm hf => ?_, fun i => ?_⟩
        · cases j with
          | zero => exact hz (P := fun _ => True) hx hy
          | succ j => exact nomatch hm 0 (Nat.succ_pos _)
        · cases j with
          | zero => cases hx; cases hy; exact h
          | succ j => exact tF hf
        · rw [List.length_cons, List.length_cons, Nat.succ_min_succ, scanLt, Nat.sub_self]
          rfl
theorem at_both {xs ys : List AV} {vs us : List Value} (r : VRels B s.heap W ρ xs vs) (r' : VRels B s.heap W ρ ys us) (j : Nat) (h1 : j < vs.toArray.size) (h2 : j < us.toArray.size) :
    ∃ x y, xs[j]? = some x ∧ ys[j]? = some y ∧ VRel B s.heap W ρ x vs.toArray[j] ∧ VRel B s.heap W ρ y us.toArray[j] := by
  have h1' : j < xs.length := r.length ▸ h1
  have h2' : j < ys.length := r'.length ▸ h2
  obtain ⟨v, hv, rv⟩ := r.get (List.getElem?_eq_getElem h1')
  obtain ⟨u, hu, ru⟩ := r'.get (List.getElem?_eq_getElem h2')
  exact ⟨_, _, List.getElem?_eq_getElem h1', List.getElem?_eq_getElem h2', (show vs.toArray[j] = v from (List.getElem?_eq_some_iff.mp hv).2) ▸ rv, (show us.toArray[j] = u from (List.getElem?_eq_some_iff.mp hu).2) ▸ ru⟩
theorem ltv_at (o : Ok B W ρ cs s) (n : Nat) : ∀ {A : Around} {x y : AV} {v u : Value} {b : Bool}, A.units + n < cLine → VRel B s.heap W ρ x v → VRel B s.heap W ρ y u → ltv cs n x y = some b → LtAt A s v u b := by
  induction n with
  | zero => intro A x y v u b hu p q e; exact nN e
  | succ n ih =>
    intro A x y v u b hu p q e
    have hu' : A.in1.units + n < cLine := by rw [Around.in1_units, Nat.add_assoc, Nat.add_comm 1]; exact hu
    rcases orElse_eq e with ⟨i, hx, e⟩ | e
    · obtain ⟨j, hy, rfl⟩ := map_eq e
      obtain ⟨t, rfl⟩ := p.ofInt hx
      obtain ⟨t', rfl⟩ := q.ofInt hy
      exact fun prog w E Q hq => P.lt_int hq
    rcases orElse_eq e with ⟨i, hx, e⟩ | e
    · obtain ⟨j, hy, rfl⟩ := map_eq e
      obtain ⟨t, rfl, _⟩ := p.ofStr hx
      obtain ⟨t', rfl, _⟩ := q.ofStr hy
      exact fun prog w E Q hq => P.lt_str (by rw [ltTx_iff] at hq; exact hq)
    · obtain ⟨xs, hx, e⟩ := bind_eq e
      obtain ⟨ys, hy, e⟩ := bind_eq e
      obtain ⟨vs, a, rfl, ⟨m, l⟩, _, _, r⟩ := p.ofTup hx
      obtain ⟨us, a', rfl, ⟨m', l'⟩, _, _, r'⟩ := q.ofTup hy
      obtain ⟨g, k, hg, hk, hb⟩ := ltvs_scan e
      have hb : scanLt g k (decide (vs.toArray.size < us.toArray.size)) 0 (min vs.toArray.size us.toArray.size) = b := by rw [List.size_toArray, List.size_toArray, ← r.length, ← r'.length]; exact hb 0
      refine fun prog w E Q hq => richCompare_meets_room (op := .Lt) ⟨_, l, rfl⟩ ⟨_, l', rfl⟩ F.slot_tuple_lt F.entry_tuple_lt (F.args_tuple_lt_2 _ _) (tuple_ltAt _ _ _ _ _ _ _ _ _ _ g k)
        ⟨l, l', fun j h1 h2 hm => ?_, fun j h1 h2 hm hf => ?_, (fun x => nomatch x), hb.symm ▸ hq⟩ (Nat.lt_of_le_of_lt (Nat.le_add_right _ _) hu)
      · obtain ⟨x, y, hx, hy, rx, ry⟩ := at_both r r' j h1 h2
        exact eqv_at o n hu' rx ry (hg j x y hx hy hm)
      · obtain ⟨x, y, hx, hy, rx, ry⟩ := at_both r r' j h1 h2
        exact ih hu' rx ry (hk j x y hx hy hm hf)
end
end Ev
namespace Ev
open PySem PySem.W PyProof.Rows PySem.SeqAt
open MeetsSeq MeetsSeq2 MeetsSeq3 SeqRoads2
noncomputable def tyI (s : String) : TyN := if s = "int" then .int else if s = "str" then .str else if s = "list" then .list else if s = "range" then .range else if s = "zip" then .zip else if s = "type" then .type else .object
theorem tyS_inj {x y : TyN} (h : tyS x = tyS y) : x = y :=
  have k : ∀ x, tyI (tyS x) = x := fun x => by cases x <;> kernel_rfl
  (k x).symm.trans ((congrArg tyI h).trans (k y))
theorem kvs_lookup {B : Base} {h : Heap} {W : Addr → Prop} {ρ : List Addr} {k : Tx} {es : List (Tx × AV)} {kvs : List (Str × Value)} (r : KVs B h W ρ es kvs) : OptRel B h W ρ (es.lookup k) (valueAt kvs ⟨k.toArray⟩) ∧ (es.lookup k).isSome = (valueAt kvs ⟨k.toArray⟩).isSome := by
  induction r with
  | nil => exact ⟨trivial, rfl⟩
  | @cons k' x v es kvs r t ih =>
    by_cases hk : k = k'
    · subst hk
      have e : valueAt ((⟨k.toArray⟩, v) :: kvs) ⟨k.toArray⟩ = some v := by unfold valueAt; rw [List.find?_cons, decide_eq_true rfl]; rfl
      rw [e, List.lookup_cons, beq_self_eq_true]; exact ⟨⟨v, rfl, r⟩, rfl⟩
    · have e : valueAt ((⟨k'.toArray⟩, v) :: kvs) ⟨k.toArray⟩ = valueAt kvs ⟨k.toArray⟩ := by
        unfold valueAt
        rw [List.find?_cons, decide_eq_false (fun h => hk (congrArg (fun z : Str => z.cps.toList) h).symm)]
      rw [e, List.lookup_cons, beq_false_of_ne hk]; exact ih
section
variable {B : Base} {W : Addr → Prop} {ρ : List Addr} {cs : Cells} {s : Shared} {A : Around} {E : Value → Shared → Prop} {Q : Value → Shared → Prop}
theorem notSys (hs : sysModules < B.h₀.objs.size) (o : Ok B W ρ cs s) {a : Addr} (m : a ∈ ρ) : (a == sysModules) = false := by
  have := (o.mem.own a m).2
  exact beq_false_of_ne fun e => by subst e; exact absurd hs (Nat.not_lt.mpr this)
theorem fuel8 {A : Around} (hu : A.units + 16 < cLine) : A.units + fuelEq < cLine ∧ A.in1.units + fuelEq < cLine :=
  ⟨Nat.lt_of_le_of_lt (Nat.add_le_add_left (by decide : fuelEq ≤ 16) _) hu, Nat.lt_of_le_of_lt (show A.units + 1 + 8 ≤ A.units + 16 by rw [Nat.add_assoc]; exact Nat.add_le_add_left (by decide) _) hu⟩
theorem strs_rel {h : Heap} {xs : List AV} {vs : List Value} (r : VRels B h W ρ xs vs) : ∀ {ts : List Tx}, allStr xs = some ts → ∃ l : List (Str × Tok), vs = strValues l ∧ l.map (·.1) = ts.map fun x => (⟨x.toArray⟩ : Str) :=
  r.ind (P := fun xs vs => ∀ {ts : List Tx}, allStr xs = some ts → ∃ l : List (Str × Tok), vs = strValues l ∧ l.map (·.1) = ts.map fun x => (⟨x.toArray⟩ : Str)) (fun e => ⟨[], rfl, by rw [← sJ e]; rfl⟩) fun q r ih ts e => by
    obtain ⟨t, hx, e⟩ := bind_eq e
    obtain ⟨us, hj, e⟩ := map_eq e
    obtain ⟨tk, hv, _⟩ := q.ofStr hx
    obtain ⟨l, h1, h2⟩ := ih hj
    refine ⟨(⟨t.toArray⟩, tk) :: l, by rw [hv, h1]; rfl, ?_⟩
    rw [← e, List.map_cons, List.map_cons, h2]
theorem memb_at (o : Ok B W ρ cs s) (hu : A.units + fuelEq < cLine) {x : AV} {u : Value} {ys : List AV} {vs : List Value} (rx : VRel B s.heap W ρ x u) (ry : VRels B s.heap W ρ ys vs) : ∀ {b : Bool}, membv cs x ys = some b →
    ∃ f : Value → Bool, (∀ y ∈ vs, EqAt A s y u (f y)) ∧ vs.toArray.any f = b := by
  have key : ∀ {b : Bool}, membv cs x ys = some b → ∃ bs : List Bool, bs.length = vs.length ∧ bs.any id = b ∧ ∀ (j : Nat) (v : Value) (c : Bool), vs[j]? = some v → bs[j]? = some c → EqAt A s v u c :=
    ry.ind (P := fun ys vs => ∀ {b : Bool}, membv cs x ys = some b → ∃ bs : List Bool, bs.length = vs.length ∧ bs.any id = b ∧ ∀ (j : Nat) (v : Value) (c : Bool), vs[j]? = some v → bs[j]? = some c → EqAt A s v u c)
      (fun e => ⟨[], rfl, sJ e, fun j v c h => (nomatch h)⟩) fun q r ih b e => by
        obtain ⟨t, ht, e⟩ := bind_eq e
        obtain ⟨c, hc, e⟩ := map_eq e
        obtain ⟨bs, h1, h2, h3⟩ := ih hc
        refine ⟨t :: bs, congrArg (· + 1) h1, by rw [← e, ← h2]; rfl, fun j v c hv hb => ?_⟩
        cases j with
        | zero => obtain rfl := sJ hv; obtain rfl := sJ hb; exact eqv_at o _ hu q rx ht
        | succ j => exact h3 j v c hv hb
  intro b e
  obtain ⟨bs, h1, h2, h3⟩ := key e
  classical
  refine ⟨fun y => decide (∃ j : Nat, vs[j]? = some y ∧ bs[j]? = some true), fun y hy => ?_, ?_⟩
  · show EqAt A s y u (decide (∃ j : Nat, vs[j]? = some y ∧ bs[j]? = some true))
    by_cases h : ∃ j : Nat, vs[j]? = some y ∧ bs[j]? = some true
    · obtain ⟨j, hv, hb⟩ := id h
      rw [decide_eq_true h]
      exact h3 j y true hv hb
    · rw [decide_eq_false h]
      obtain ⟨j, hj⟩ := List.mem_iff_getElem?.mp hy
      have hlt : j < bs.length := h1 ▸ (List.getElem?_eq_some_iff.mp hj).1
      have hb : bs[j]? = some bs[j] := List.getElem?_eq_getElem hlt
      cases hc : bs[j] with
      | true => exact absurd ⟨j, hj, hc ▸ hb⟩ h
      | false => exact h3 j y false hj (hc ▸ hb)
  · rw [List.any_toArray, ← h2]
    refine Bool.eq_iff_iff.mpr (List.any_eq_true.trans (Iff.trans ⟨fun ⟨y, _, h⟩ => ?_, fun ⟨t, ht, h⟩ => ?_⟩ List.any_eq_true.symm))
    · obtain ⟨j, _, hb⟩ := of_decide_eq_true h
      exact ⟨true, List.mem_of_getElem? hb, rfl⟩
    · obtain rfl : t = true := h
      obtain ⟨j, hj⟩ := List.mem_iff_getElem?.mp ht
      have hlt : j < vs.length := h1 ▸ (List.getElem?_eq_some_iff.mp hj).1
      exact ⟨vs[j], List.getElem_mem hlt, decide_eq_true ⟨j, List.getElem?_eq_getElem hlt, hj⟩⟩
theorem inv_sound (hs : sysModules < B.h₀.objs.size) (o : Ok B W ρ cs s) (hu : A.units + 16 < cLine) {x y : AV} {v u : Value} {b : Bool} (p : VRel B s.heap W ρ x v) (q : VRel B s.heap W ρ y u) (e : inv cs x y = some b) (neg : Bool)
    (hQ : ∀ t, Q (.bool (if neg then !b else b)) { s with toks := t }) : wpAny (model B.prog B.w) A (compareOp (if neg then .NotIn else .In) v u) Q E s := by
  rcases orElse_eq e with ⟨z, hy, e⟩ | e
  · obtain ⟨c, hx, rfl⟩ := map_eq e
    obtain ⟨k, hx, hk⟩ := bind_eq hx
    obtain rfl := one?_eq hk
    obtain ⟨t, rfl, _⟩ := p.ofStr hx
    obtain ⟨t', rfl, _⟩ := q.ofStr hy
    have hone := (StrLaws.found_one ⟨z.toArray⟩ c).trans (show decide (c ∈ z) = z.contains c from List.elem_eq_mem .. |>.symm)
    rw [← hone] at hQ
    cases neg
    · exact P.in_str (hQ s.toks)
    · exact P.notIn_str (hQ s.toks)
  · rcases orElse_eq e with ⟨ys, hy, e⟩ | e
    · obtain ⟨vs, a, rfl, l, _, _, r⟩ := q.ofTup hy
      obtain ⟨f, hf, rfl⟩ := memb_at o (fuel8 hu).2 p r e
      cases neg
      · exact in_tupleAt f l.isTuple (fun y hy => hf y (List.mem_toArray.mp hy)) (hQ s.toks)
      · exact notIn_tupleAt f l.isTuple (fun y hy => hf y (List.mem_toArray.mp hy)) (hQ s.toks)
    · obtain ⟨ys, hy, e⟩ := bind_eq e
      obtain ⟨a, vs, rfl, l, _, r⟩ := o.mem.listOf q hy
      obtain ⟨f, hf, rfl⟩ := memb_at o (fuel8 hu).2 p r e
      cases neg
      · exact in_listAt f l.isList (fun y hy => hf y (List.mem_toArray.mp hy)) (hQ s.toks)
      · exact notIn_listAt f l.isList (fun y hy => hf y (List.mem_toArray.mp hy)) (hQ s.toks)
theorem type_ne {a b : String} (h : a ≠ b) : Value.type a ≠ .type b := fun e => h (Value.type.inj e)
theorem CRel.cls {h : Heap} {a : Addr} {o : AObj} (c : CRel B h W ρ a o) : ∃ ob, h.get? a = some ob ∧ ob.cls ≠ .type "tuple" := by
  cases o with
  | list => obtain ⟨_, ⟨_, l⟩, _⟩ := c; exact ⟨_, l, type_ne (by decide)⟩
  | dict => obtain ⟨_, ⟨o, _, _, ho, hc, _⟩, _⟩ := c; exact ⟨o, ho, by rw [hc.1]; exact type_ne (by decide)⟩
  | idict =>
    rcases c with c | ⟨x, v, hsh, tk, n, e, ho, r⟩
    · exact ⟨_, c.2, type_ne (by decide)⟩
    · exact ⟨_, ho, type_ne (by decide)⟩
  | inst => exact c.elim fun _ c => ⟨_, c.1, nofun⟩
  | plain => exact c.elim fun _ c => ⟨_, c.1, by rw [c.2]; exact type_ne (by decide)⟩
theorem Mem.cellObj {h : Heap} (m : Mem B W ρ cs h) {i : Nat} {a : Addr} (g : ρ[i]? = some a) : ∃ ob, h.get? a = some ob ∧ ob.cls ≠ .type "tuple" :=
  (m.cell i _ a (List.getElem?_eq_getElem (m.len ▸ (List.getElem?_eq_some_iff.mp g).1)) g).cls
theorem VRel.noneB {h : Heap} {x : AV} {v : Value} (r : VRel B h W ρ x v) : x.bi? = false → plainIs v .none = true ∧ (v == .none) = x.none? :=
  r.rec (motive_1 := fun x v _ => x.bi? = false → plainIs v .none = true ∧ (v == .none) = x.none?) (motive_2 := fun _ _ _ => True) (fun _ => ⟨rfl, rfl⟩) (fun _ _ => ⟨rfl, rfl⟩) (fun _ _ _ => ⟨rfl, rfl⟩) (fun _ _ _ _ => ⟨rfl, rfl⟩) (fun _ _ _ _ _ _ => ⟨rfl, rfl⟩) (fun _ _ _ _ _ _ => ⟨rfl, rfl⟩) (fun _ _ => ⟨rfl, rfl⟩) (fun _ _ => ⟨rfl, rfl⟩) (fun _ => ⟨rfl, rfl⟩) (fun _ _ => ⟨rfl, rfl⟩)
    (fun _ e => Bool.noConfusion e) (fun _ _ => ⟨rfl, rfl⟩) (fun _ _ _ _ _ _ => ⟨rfl, rfl⟩) (fun _ _ _ _ => ⟨rfl, rfl⟩) trivial fun _ _ _ _ => trivial
theorem isSame_sound (o : Ok B W ρ cs s) {x y : AV} {v u : Value} {b : Bool} (p : VRel B s.heap W ρ x v) (q : VRel B s.heap W ρ y u) (e : isv x y = some b) {R : Bool → Shared → Prop} (hQ : R b s) :
    wpAny (model B.prog B.w) A (isSame v u) R E s := by
  rcases ite_eq e with ⟨hy, e⟩ | e
  · obtain rfl := q.ofNone hy
    cases hb : x.bi? with
    | true => rw [hb] at e; exact nN e
    | false =>
      rw [hb] at e
      refine wpAny_isSame_plain (p.noneB hb).1 ?_
      rw [(p.noneB hb).2, sJ e]; exact hQ
  rcases orElse_eq e with ⟨i, hx, e⟩ | e
  · obtain ⟨j, hy, rfl⟩ := map_eq e
    obtain ⟨a, rfl, g⟩ := p.ofRef hx
    obtain ⟨a', rfl, g'⟩ := q.ofRef hy
    by_cases hij : i = j
    · subst hij
      obtain rfl := sJ (g.symm.trans g')
      rw [beq_self_eq_true] at hQ
      exact wpAny_isSame_ref_self hQ
    · obtain ⟨ob, h1, h2⟩ := o.mem.cellObj g
      obtain ⟨ob', h1', _⟩ := o.mem.cellObj g'
      rw [beq_false_of_ne hij] at hQ
      exact wpAny_isSame_ref_other (fun z => hij ((List.getElem?_inj (List.getElem?_eq_some_iff.mp g).1 o.mem.inj).mp (g.trans (z ▸ g'.symm)))) h1 h1' h2 hQ
  rcases orElse_eq e with ⟨i, hx, e⟩ | e
  · obtain ⟨j, hy, rfl⟩ := map_eq e
    obtain ⟨t, rfl, _⟩ := p.ofStr hx
    obtain ⟨a', rfl, g'⟩ := q.ofRef hy
    exact wpAny_isSame_plain rfl hQ
  · obtain ⟨i, hx, e⟩ := bind_eq e
    obtain ⟨j, hy, rfl⟩ := map_eq e
    rw [ty?_eq hx] at p
    rw [ty?_eq hy] at q
    obtain rfl := p.inv
    obtain rfl := q.inv
    refine wpAny_isSame_plain rfl ?_
    have : (Value.type (tyS i) == Value.type (tyS j)) = (i == j) := Bool.eq_iff_iff.mpr (by rw [beq_iff_eq, beq_iff_eq]; exact ⟨fun h => tyS_inj (Value.type.inj h), fun h => h ▸ rfl⟩)
    rw [this]; exact hQ
theorem ord_sound {op : CmpOp} {f : Int → Int → Bool} {g : Tx → Tx → Bool} {x y : AV} {v u : Value} {b : Bool} (p : VRel B s.heap W ρ x v) (q : VRel B s.heap W ρ y u) (e : ordv f g x y = some b)
    (h1 : ∀ (i j : Int) (t t' : Tok), Q (.bool (f i j)) s → wpAny (model B.prog B.w) A (compareOp op (.int i t) (.int j t')) Q E s) (h2 : ∀ (i j : Tx) (t t' : Tok), Q (.bool (g i j)) s → wpAny (model B.prog B.w) A (compareOp op (.str ⟨i.toArray⟩ t) (.str ⟨j.toArray⟩ t')) Q E s)
    (hQ : Q (.bool b) s) : wpAny (model B.prog B.w) A (compareOp op v u) Q E s := by
  rcases orElse_eq e with ⟨i, hx, e⟩ | e
  · obtain ⟨j, hy, rfl⟩ := map_eq e
    obtain ⟨t, rfl⟩ := p.ofInt hx
    obtain ⟨t', rfl⟩ := q.ofInt hy
    exact h1 _ _ _ _ hQ
  · obtain ⟨i, hx, e⟩ := bind_eq e
    obtain ⟨j, hy, rfl⟩ := map_eq e
    obtain ⟨t, rfl, _⟩ := p.ofStr hx
    obtain ⟨t', rfl, _⟩ := q.ofStr hy
    exact h2 _ _ _ _ hQ
theorem bools_sound {op : CmpOp} {f : Bool → Bool → Bool} {d : Option Bool} {x y : AV} {v u : Value} {b : Bool} (p : VRel B s.heap W ρ x v) (q : VRel B s.heap W ρ y u) (e : orElse x.bool? (fun x => y.bool?.map (f x)) d = some b)
    (h1 : ∀ i j : Bool, Q (.bool (f i j)) s → wpAny (model B.prog B.w) A (compareOp op (.bool i) (.bool j)) Q E s) (h2 : d = some b → wpAny (model B.prog B.w) A (compareOp op v u) Q E s) (hQ : Q (.bool b) s) : wpAny (model B.prog B.w) A (compareOp op v u) Q E s := by
  rcases orElse_eq e with ⟨i, hx, e⟩ | e
  · obtain ⟨j, hy, rfl⟩ := map_eq e
    obtain rfl := p.ofBool hx
    obtain rfl := q.ofBool hy
    exact h1 _ _ hQ
  · exact h2 e
theorem cmpv_sound (hs : sysModules < B.h₀.objs.size) (o : Ok B W ρ cs s) (hu : A.units + 16 < cLine) {op : COp} {x y : AV} {v u : Value} {b : Bool} (p : VRel B s.heap W ρ x v) (q : VRel B s.heap W ρ y u) (e : cmpv cs op x y = some b)
    (hQ : ∀ t, Q (.bool b) { s with toks := t }) : wpAny (model B.prog B.w) A (compareOp (copOf op) v u) Q E s := by
  have hu8 := (fuel8 hu).1
  have h0 : Q (.bool b) s := hQ s.toks
  cases op with
  | eq => exact bools_sound p q e (fun i j h => eq_bool h) (fun e => eqv_cmp o hu8 p q e h0) h0
  | ne =>
    refine bools_sound p q e (fun i j h => ne_bool h) (fun e => ?_) h0
    by_cases hx : x.none? = true
    · rw [if_pos hx] at e
      obtain ⟨z, hy, rfl⟩ := map_eq e
      obtain rfl := p.ofNone hx
      obtain ⟨t, rfl, _⟩ := q.ofStr hy
      exact EqNone.ne_none_str h0
    · rw [if_neg hx] at e
      obtain ⟨c, hc, rfl⟩ := map_eq e
      exact eqv_cmp_ne o hu8 p q hc h0
  | lt => exact ltv_at o _ hu8 p q e _ _ _ _ h0
  | gt => exact ord_sound p q e (fun i j t t' h => P.gt_int h) (fun i j t t' h => P.gt_str (by rw [ltTx_iff] at h; exact h)) h0
  | le => exact ord_sound p q e (fun i j t t' h => P.le_int h) (fun i j t t' h => P.le_str (by rw [ltTx_iff] at h; exact h)) h0
  | ge =>
    obtain ⟨i, hx, e⟩ := bind_eq e
    obtain ⟨j, hy, rfl⟩ := map_eq e
    obtain ⟨t, rfl⟩ := p.ofInt hx
    obtain ⟨t', rfl⟩ := q.ofInt hy
    exact P.ge_int h0
  | is => exact wpAny_bind (m := isSame v u) (isSame_sound o p q e (wpAny_pure h0))
  | isnot =>
    obtain ⟨c, hc, rfl⟩ := map_eq e
    exact wpAny_bind (m := isSame v u) (isSame_sound o p q hc (wpAny_pure h0))
  | in_ => exact inv_sound hs o hu p q e false hQ
  | notin =>
    obtain ⟨c, hc, rfl⟩ := map_eq e
    exact inv_sound hs o hu p q hc true hQ
end
end Ev
namespace Ev
open PySem PySem.W PyProof.Rows PySem.SeqAt
open MeetsSeq MeetsSeq2 MeetsSeq3 SeqRoads2
noncomputable abbrev PostV (B : Base) (n : Nat) (W : Addr → Prop) (ρ : List Addr) (cs : Cells) (s : Shared) (cs' : Cells) (x : AV) (Q : Value → Shared → Prop) : Prop :=
  ∀ v W' ρ' s', After B n Non W ρ cs s W' ρ' cs' s' → VRel B s'.heap W' ρ' x v → Q v s'
theorem PostV.to {B : Base} {n : Nat} {W : Addr → Prop} {ρ : List Addr} {cs cs₁ cs₂ : Cells} {s : Shared} {x y : AV} {Q : Value → Shared → Prop} (hQ : PostV B n W ρ cs s cs₂ y Q) (e : some (x, cs₁) = some (y, cs₂)) : PostV B n W ρ cs s cs₁ x Q := by cases e; exact hQ
noncomputable abbrev PostT (s : Shared) (b : Bool) (R : Bool → Shared → Prop) : Prop := ∀ t, R b { s with toks := t }
theorem PostT.to {s : Shared} {b b' : Bool} {R : Bool → Shared → Prop} (hQ : PostT s b' R) (e : some b = some b') : PostT s b R := by cases e; exact hQ
noncomputable def bopOf : BOp → Operator
  | .add => .Add | .sub => .Sub | .mul => .Mult | .fdiv => .FloorDiv | .mod => .Mod | .pow => .Pow | .shr => .RShift
theorem bopOf_tr {o : Operator} {b : BOp} (h : trBOp o = some b) : bopOf b = o := by cases o <;> first | exact nN h | (obtain rfl := sJ h; rfl)
theorem lim_size {n : Nat} (h : n ≤ lim) : n ≤ sizeLine := Nat.le_trans h (by decide)
theorem lim_63 {n : Nat} (h : n ≤ lim) : (n : Int) < 2 ^ 63 := Int.lt_of_le_of_lt (Int.ofNat_le.mpr h) (by decide)
theorem not_63 {n : Nat} (h : n ≤ lim) : ¬ (n : Int) ≥ 2 ^ 63 := Int.not_le.mpr (lim_63 h)
theorem pos_ne {y : Int} (h : 0 < y) : y ≠ 0 := fun e => Int.lt_irrefl _ (e ▸ h)
theorem strOf_append (x y : Tx) : (⟨x.toArray⟩ : Str) ++ ⟨y.toArray⟩ = ⟨(x ++ y).toArray⟩ := by
  show (⟨x.toArray ++ y.toArray⟩ : Str) = _
  simp
theorem strOf_len (x : Tx) : (⟨x.toArray⟩ : Str).length = x.length := by simp [Str.length]
section
variable {B : Base} {n : Nat} {W : Addr → Prop} {ρ : List Addr} {cs cs' : Cells} {s : Shared} {A : Around} {E : Value → Shared → Prop} {Q : Value → Shared → Prop}
theorem mk_post (o : Ok B W ρ cs s) (hn : n ≤ cs.length) {m : Bool} {xs : List AV} {vs : List Value} {x : AV} (r : VRels B s.heap W ρ xs vs) (e : mk m xs cs = some (x, cs')) (hQ : PostV B n W ρ cs s cs' x Q) {k : Nat} (tk : Nat) :
    Q (.ref s.heap.objs.size) { s with heap := s.heap.push { cls := .type "list", data := .seq vs.toArray k }, toks := tk } := by
  obtain ⟨hb, e⟩ := if_eq e
  cases m with
  | false =>
    obtain ⟨rfl, rfl⟩ := pair_eq e
    have a : After B n Non W ρ cs s W ρ cs { s with heap := s.heap.push { cls := .type "list", data := .seq vs.toArray k }, toks := tk } := o.push _
    exact hQ _ _ _ _ a (.lst ⟨k, Heap.get?_push_size _ rfl⟩ hb (o.newNot (Nat.le_refl _)) (a.vals o r))
  | true =>
    obtain ⟨rfl, rfl⟩ := pair_eq e
    refine hQ _ _ _ _ (o.alloc hn ⟨vs, ⟨k, Heap.get?_push_size _ rfl⟩, hb, ?_⟩) (.ref ?_)
    · exact r.mono (fun a o e _ => Heap.get?_push_of_some _ e) (fun a l w => w.elim id fun z => absurd z (Nat.ne_of_lt l)) fun _ _ e => getElem?_append_some _ e
    · rw [o.mem.len]; exact List.getElem?_concat_length
theorem VRels.empty {h : Heap} {xs : List AV} {vs : List Value} (r : VRels B h W ρ xs vs) : xs.isEmpty = vs.isEmpty := r.ind (P := fun xs vs => xs.isEmpty = vs.isEmpty) rfl fun _ _ _ => rfl
theorem len_ne {α : Type} (z : List α) : ((z.length : Int) != 0) = !z.isEmpty := by cases z <;> rfl
theorem truthy_sound (o : Ok B W ρ cs s) {x : AV} {v : Value} {b : Bool} (p : VRel B s.heap W ρ x v) (e : truthy cs x = some b) {R : Bool → Shared → Prop} (hQ : PostT s b R) :
    wpAny (model B.prog B.w) A (PySem.truthy v) R E s := by
  rcases orElse_eq e with ⟨z, hx, h⟩ | e
  · rw [p.ofBool hx]; exact wpAny_truthy_bool (hQ.to h s.toks)
  rcases orElse_eq e with ⟨z, hx, h⟩ | e
  · obtain ⟨t, hv⟩ := p.ofInt hx; rw [hv]; exact P.truthy_int (hQ.to h s.toks)
  rcases orElse_eq e with ⟨z, hx, h⟩ | e
  · obtain ⟨t, hv, bd⟩ := p.ofStr hx
    rw [hv]
    refine P.truthy_str (by rw [strOf_len]; exact not_63 bd) ?_
    rw [strOf_len, len_ne]; exact hQ.to h _
  rcases ite_eq e with ⟨hx, h⟩ | e
  · rw [p.ofNone hx]; exact truthy_none (hQ.to h s.toks)
  · obtain ⟨xs, hx, hb⟩ := map_eq e
    obtain ⟨a, vs, hv, l, bd, r⟩ := o.mem.listOf p hx
    rw [hv]
    refine wpAny_truthy_list l.isList (by rw [List.size_toArray, ← r.length]; exact lim_63 bd) ?_
    rw [← hb, show xs.isEmpty = vs.toArray.isEmpty from r.empty.trans (List.isEmpty_toArray ..).symm] at hQ
    exact hQ _
theorem neg_sound {i : Int} {v : Value} (o : Ok B W ρ cs s) {x : AV} (p : VRel B s.heap W ρ x v) (hx : x.int? = some i) (hQ : PostV B n W ρ cs s cs (.int (-i)) Q) : wpAny (model B.prog B.w) A (unaryOp .USub v) Q E s := by
  obtain ⟨t, hv⟩ := p.ofInt hx
  rw [hv]
  exact P.neg_int (hQ _ _ _ _ (o.toks _) (.int _ _))
theorem not_sound (o : Ok B W ρ cs s) {x : AV} {v : Value} {b : Bool} (p : VRel B s.heap W ρ x v) (e : truthy cs x = some b) (hQ : PostV B n W ρ cs s cs (.bool (!b)) Q) : wpAny (model B.prog B.w) A (unaryOp .Not v) Q E s := by
  unfold unaryOp
  refine wpAny_holding ?_
  show wpAny _ A (do return .bool (!(← PySem.truthy v))) Q E s
  exact wpAny_bind (truthy_sound o p e fun t => wpAny_pure (hQ _ _ _ _ (o.toks t) (.bool _)))
theorem rep_rel {h : Heap} : ∀ (k : Nat) {xs : List AV} {vs : List Value}, VRels B h W ρ xs vs → VRels B h W ρ (rep k xs) (List.replicate k vs).flatten
  | 0, _, _, _ => by simp [rep]; exact .nil
  | k + 1, xs, vs, r => by
    rw [rep, List.replicate_succ, List.flatten_cons]
    exact r.append (rep_rel k r)
theorem foldl_flat (k : Nat) (vs : List Value) : ∀ acc : Array Value, List.foldl (fun x1 x2 => x1 ++ x2) acc (List.replicate k vs.toArray) = acc ++ (List.replicate k vs).flatten.toArray := by
  induction k with
  | zero => intro acc; simp
  | succ k ih => intro acc; rw [List.replicate_succ, List.foldl_cons, ih, List.replicate_succ, List.flatten_cons]; simp
theorem noPylong {a b : Int} (h : b.natAbs < 2 ^ 64) : Builtin.divisionGoesByPylong a b = false := by
  unfold Builtin.divisionGoesByPylong
  rw [Bool.and_eq_false_iff]
  left
  apply decide_eq_false
  intro hgt
  dsimp only at hgt
  split at hgt
  · exact absurd hgt (by decide)
  · rename_i hb
    have hb0 : b.natAbs ≠ 0 := by simpa using hb
    have := (Nat.log2_lt hb0).mpr h
    omega
theorem mulOk {a b : Int} (h : a.natAbs < 2 ^ 64) : IntMulOk a b := by
  refine IntMulOk.of_left ?_
  unfold Builtin.Int.intBits
  split
  · decide
  · rename_i ha
    have ha0 : a.natAbs ≠ 0 := by simpa using ha
    have := (Nat.log2_lt ha0).mpr h
    omega
theorem powI {a : Int} {b : Nat} (t u : Tok) (ha : 0 ≤ a) (ha' : a ≤ 16) (hb : b ≤ 16) (h : ∀ t, Q (.int (a ^ b) t) { s with toks := s.toks + 1 }) : wpAny (model B.prog B.w) A (binaryOp .Pow (.int a t) (.int (b : Int) u)) Q E s := by
  have hb0 : (b : Int) ≥ 0 := Int.natCast_nonneg b
  by_cases h0 : b = 0
  · subst h0
    refine AutoIntOps.pow_0 hb0 (by simp) ?_
    show Q _ _
    simpa using h _
  · have h0' : ¬((b : Int) == 0) = true := by simpa using h0
    by_cases h1 : (a == 0 || a == 1) = true
    · refine AutoIntOps.pow_1 hb0 h0' h1 ?_
      show Q _ _
      have : a ^ b = a := by
        rcases Bool.or_eq_true_iff.mp h1 with z | z
        · rw [beq_iff_eq.mp z]; exact Int.zero_pow h0
        · rw [beq_iff_eq.mp z]; exact Int.one_pow
      rw [← this]; exact h _
    · refine AutoIntOps.pow_4 hb0 h0' h1 (by simp; omega) ?_ ?_
      · unfold Builtin.Int.intTooBig
        have hbits : Builtin.Int.intBits a ≤ 5 := by
          unfold Builtin.Int.intBits
          split
          · decide
          · rename_i hz
            have hz0 : a.natAbs ≠ 0 := by simpa using hz
            have := (Nat.log2_lt (k := 5) hz0).mpr (by omega)
            omega
        have : (Builtin.Int.intBits a : Int) * (b : Int) ≤ 5 * 16 := by
          have h1 : (Builtin.Int.intBits a : Int) ≤ 5 := by omega
          have h2 : (b : Int) ≤ 16 := by omega
          exact Int.mul_le_mul h1 h2 (Int.natCast_nonneg _) (by omega)
        simp only [gt_iff_lt, decide_eq_true_eq]
        have hl : (80 : Int) ≤ bitsLine := by decide
        omega
      · show Q _ _
        simpa using h _
theorem list_mul {l : Addr} {items : Array Value} {k : Nat} {x : Int} {u : Tok} (hl : s.heap.get? l = some { cls := .type "list", dict := none, data := .seq items k, slots := #[] })
    (hlo : -(2 ^ 63 : Int) ≤ x) (hhi : x < 2 ^ 63) (hsz : items.size * x.toNat ≤ 2 ^ 24)
    (h : Q (.ref s.heap.objs.size) { s with heap := s.heap.push { cls := .type "list", data := .seq (List.foldl (fun x1 x2 => x1 ++ x2) #[] (List.replicate (if items.isEmpty = true then 0 else x.toNat) items)) } }) :
    wpAny (model B.prog B.w) A (binaryOp .Mult (.ref l) (.int x u)) Q E s :=
  wpAny_binaryOp_repeat_ref (T := "list") (U := "int") (by decide) ⟨_, hl, rfl⟩ (fun s' => typeIs_int s' x u) noFill_list_mul F.fills_int_mul F.slot_int_rmul repeat_list F.slot_int_index.lookup
    (call_meets F.slot_int_rmul (typeIs_int s x u) F.entry_int_rmul (F.args_int_rmul_2 _ _) (int___rmul___int_list x u l items k)
      ⟨hl, rfl, ⟨_, hl, rfl⟩, call_meets F.slot_list_mul ⟨_, hl, rfl⟩ F.entry_list_mul (F.args_list_mul_2 _ _)
        (AutoListH.list___mul___list_int_3 l items k x u (by simp [Builtin.List.listFitsIndex]; omega) (by omega) (by simp [Builtin.List.listTooLong, sizeLine]; omega))
        ⟨hl, h⟩⟩)
theorem rep_fold (vs : List Value) (k : Nat) : List.foldl (fun x1 x2 => x1 ++ x2) (#[] : Array Value) (List.replicate (if vs.toArray.isEmpty = true then 0 else k) vs.toArray) = (List.replicate k vs).flatten.toArray := by
  rw [foldl_flat]
  by_cases hv : vs = []
  · subst hv; simp
  · rw [if_neg (by simpa using hv)]; simp
theorem intv_sound {f : Int → Int → Option Int} {op : Operator} (o : Ok B W ρ cs s) {x y z : AV} {v u : Value} (p : VRel B s.heap W ρ x v) (q : VRel B s.heap W ρ y u) (e : intv x y cs f = some (z, cs')) (hQ : PostV B n W ρ cs s cs' z Q)
    (h : ∀ (i j k : Int) (t t' : Tok), f i j = some k → (∀ t tk, Q (.int k t) { s with toks := tk }) → wpAny (model B.prog B.w) A (binaryOp op (.int i t) (.int j t')) Q E s) : wpAny (model B.prog B.w) A (binaryOp op v u) Q E s := by
  obtain ⟨i, hx, e⟩ := bind_eq e
  obtain ⟨j, hy, e⟩ := bind_eq e
  obtain ⟨k, hk, e⟩ := mapS e
  obtain ⟨t, rfl⟩ := p.ofInt hx
  obtain ⟨t', rfl⟩ := q.ofInt hy
  exact h _ _ _ _ _ hk fun t tk => hQ.to e _ _ _ _ (o.toks _) (.int _ _)
theorem nat_of {n : Int} (h : 0 ≤ n ∧ n ≤ 16) : n.toNat ≤ 16 := Int.toNat_le.mpr h.2
theorem binv_sound (o : Ok B W ρ cs s) (hn : n ≤ cs.length) {m : Bool} {op : BOp} {x y z : AV} {v u : Value} (p : VRel B s.heap W ρ x v) (q : VRel B s.heap W ρ y u) (e : binv m op x y cs = some (z, cs')) (hQ : PostV B n W ρ cs s cs' z Q) :
    wpAny (model B.prog B.w) A (binaryOp (bopOf op) v u) Q E s := by
  cases op with
  | add =>
    rcases orElse_eq e with ⟨i, hx, e⟩ | e
    · obtain ⟨j, hy, e⟩ := mapS e
      obtain ⟨t, hv⟩ := p.ofInt hx
      obtain ⟨t', hu⟩ := q.ofInt hy
      rw [hv, hu]
      exact P.add_int (hQ.to e _ _ _ _ (o.toks _) (.int _ _))
    rcases orElse_eq e with ⟨i, hx, e⟩ | e
    · obtain ⟨j, hy, e⟩ := bind_eq e
      obtain ⟨h, e⟩ := if_eq e
      obtain ⟨t, hv, _⟩ := p.ofStr hx
      obtain ⟨t', hu, _⟩ := q.ofStr hy
      rw [hv, hu]
      refine PyProof.Rows.add_str (fun t' tk => ?_) (by rw [strOf_len, strOf_len]; exact lim_size h)
      rw [strOf_append]
      exact hQ.to e _ _ _ _ (o.toks _) (.str _ _ (by rw [List.length_append]; exact h))
    · obtain ⟨xs, hx, e⟩ := bind_eq e
      obtain ⟨ys, hy, e⟩ := bind_eq e
      obtain ⟨a, vs, hv, ⟨_, l⟩, bd, r⟩ := o.mem.listOf p hx
      obtain ⟨a', us, hu, ⟨_, l'⟩, bd', r'⟩ := o.mem.listOf q hy
      rw [hv, hu]
      refine P.add_list l l' ?_ ?_
      · rw [show vs.toArray ++ us.toArray = (vs ++ us).toArray from List.append_toArray ..]
        exact mk_post o hn (r.append r') e hQ _
      · rw [List.size_toArray, List.size_toArray, ← r.length, ← r'.length]
        exact Nat.le_trans (Nat.add_le_add bd bd') (by decide)
  | sub => exact intv_sound o p q e hQ fun i j k t t' hk h => P.sub_int (sJ hk ▸ h _ _)
  | mul =>
    rcases orElse_eq e with ⟨i, hx, e⟩ | e
    · obtain ⟨j, hy, e⟩ := bind_eq e
      obtain ⟨h, e⟩ := if_eq e
      obtain ⟨t, hv⟩ := p.ofInt hx
      obtain ⟨t', hu⟩ := q.ofInt hy
      rw [hv, hu]
      exact P.mul_int (hQ.to e _ _ _ _ (o.toks _) (.int _ _)) (mulOk h.1)
    · obtain ⟨xs, hx, e⟩ := bind_eq e
      obtain ⟨k, hy, e⟩ := bind_eq e
      obtain ⟨h, e⟩ := if_eq e
      obtain ⟨a, vs, hv, ⟨_, l⟩, bd, r⟩ := o.mem.listOf p hx
      obtain ⟨t', hu⟩ := q.ofInt hy
      rw [hv, hu]
      refine list_mul l (Int.le_trans (by decide) h.1) (Int.lt_of_le_of_lt h.2 (by decide)) ?_ ?_
      · rw [List.size_toArray, ← r.length]
        exact Nat.le_trans (Nat.mul_le_mul bd (nat_of h)) (by decide)
      · rw [rep_fold]
        exact mk_post o hn (rep_rel k.toNat r) e hQ _
  | fdiv =>
    refine intv_sound o p q e hQ fun i j k t t' hk h => ?_
    obtain ⟨h0, hk⟩ := if_eq hk
    refine floordiv_int (pos_ne h0.1) ?_ (Or.inl (noPylong h0.2))
    rw [Int.fdiv_eq_ediv_of_nonneg _ (Int.le_of_lt h0.1), sJ hk]
    exact h _ _
  | mod =>
    refine intv_sound o p q e hQ fun i j k t t' hk h => ?_
    obtain ⟨h0, hk⟩ := if_eq hk
    refine mod_int (pos_ne h0) ?_
    rw [Int.fmod_eq_emod_of_nonneg _ (Int.le_of_lt h0), sJ hk]
    exact h _ _
  | pow =>
    refine intv_sound o p q e hQ fun i j k t t' hk h => ?_
    obtain ⟨h0, hk⟩ := if_eq hk
    have hj : j = (j.toNat : Int) := (Int.toNat_of_nonneg h0.1).symm
    rw [hj]
    exact powI t t' h0.2.2.1 h0.2.2.2 (nat_of ⟨h0.1, h0.2.1⟩) fun t => (sJ hk : i ^ j.toNat = k) ▸ h t _
  | shr =>
    refine intv_sound o p q e hQ fun i j k t t' hk h => ?_
    obtain ⟨⟨h1, h0⟩, e⟩ := if_eq hk
    rw [h1]
    exact wpAny_rshift1_int h0 (sJ e ▸ h _ _)
theorem augv_sound (o : Ok B W ρ cs s) {op : BOp} {x y z : AV} {v u : Value} (p : VRel B s.heap W ρ x v) (q : VRel B s.heap W ρ y u) (e : augv op x y = some z) (hQ : PostV B n W ρ cs s cs z Q) :
    wpAny (model B.prog B.w) A (inplaceOp (bopOf op) v u) Q E s := by
  cases op with
  | add =>
    rcases orElse_eq e with ⟨i, hx, e⟩ | e
    · obtain ⟨j, hy, e⟩ := mapS e
      obtain ⟨t, hv⟩ := p.ofInt hx
      obtain ⟨t', hu⟩ := q.ofInt hy
      rw [hv, hu]
      rw [← sJ e] at hQ
      exact P.iadd_int (hQ _ _ _ _ (o.toks _) (.int _ _))
    · obtain ⟨i, hx, e⟩ := bind_eq e
      obtain ⟨j, hy, e⟩ := bind_eq e
      obtain ⟨h, e⟩ := if_eq e
      obtain ⟨t, hv, _⟩ := p.ofStr hx
      obtain ⟨t', hu, _⟩ := q.ofStr hy
      rw [hv, hu]
      refine PyProof.Rows.iadd_str (fun t' tk => ?_) (by rw [strOf_len, strOf_len]; exact lim_size h)
      rw [strOf_append]
      rw [← sJ e] at hQ
      exact hQ _ _ _ _ (o.toks _) (.str _ _ (by rw [List.length_append]; exact h))
  | fdiv =>
    obtain ⟨i, hx, e⟩ := bind_eq e
    obtain ⟨j, hy, e⟩ := bind_eq e
    obtain ⟨h, e⟩ := if_eq e
    obtain ⟨t, hv⟩ := p.ofInt hx
    obtain ⟨t', hu⟩ := q.ofInt hy
    rw [hv, hu]
    refine ifloordiv_int (pos_ne h.1) ?_ (Or.inl (noPylong h.2))
    rw [Int.fdiv_eq_ediv_of_nonneg _ (Int.le_of_lt h.1)]
    rw [← sJ e] at hQ
    exact hQ _ _ _ _ (o.toks (s.toks + 1)) (.int _ s.toks)
  | _ => exact nN e
end
end Ev
namespace Ev
open PySem PySem.W PyProof.Rows PySem.SeqAt
open MeetsSeq MeetsSeq2 MeetsSeq3 SeqRoads2
theorem idxZ_seq {n : Nat} {i : Int} {k : Nat} (h : idxZ n i = some k) : seqIndex? i n = some k ∧ -(n : Int) ≤ i ∧ i < n ∧ ((0 ≤ i ∧ k = i.toNat) ∨ (i < 0 ∧ k = (i + n).toNat)) := by
  unfold idxZ at h
  by_cases h0 : 0 ≤ i
  · rw [if_pos h0] at h
    obtain ⟨h1, h⟩ := if_eq h
    cases h
    refine ⟨?_, Int.le_trans (Int.neg_nonpos_of_nonneg (Int.natCast_nonneg n)) h0, h1, .inl ⟨h0, rfl⟩⟩
    unfold seqIndex?
    simp [Int.not_lt.mpr h0, h0, h1]
  · rw [if_neg h0] at h
    obtain ⟨h1, h⟩ := if_eq h
    cases h
    have h2 := Int.not_le.mp h0
    refine ⟨?_, Int.neg_le_of_neg_le (Int.sub_nonneg.mp (by rw [Int.sub_neg, Int.add_comm]; exact h1)), Int.lt_of_lt_of_le h2 (Int.natCast_nonneg n), .inr ⟨h2, rfl⟩⟩
    unfold seqIndex?
    have h3 : i + n < n := Int.lt_of_lt_of_le (Int.add_lt_add_right h2 n) (Int.le_of_eq (Int.zero_add _))
    simp [h1, h2, h3]
noncomputable def clip (n d : Nat) (o : Option Int) : Int := o.elim d fun i => max 0 (min (if i < 0 then i + n else i) n)
theorem bound_rel {B : Base} {h : Heap} {W : Addr → Prop} {ρ : List Addr} {x : AV} {v : Value} {n d k : Nat} (hd : d ≤ n) (r : VRel B h W ρ x v) (e : boundv n d x = some k) :
    ∃ o : Option (Int × Tok), v = o.elim .none (fun p => .int p.1 p.2) ∧ clip n d (o.map (·.1)) = k ∧ k ≤ n := by
  rcases ite_eq e with ⟨hx, e⟩ | e
  · cases e; exact ⟨none, r.ofNone hx, rfl, hd⟩
  · obtain ⟨i, hx, rfl⟩ := map_eq e
    obtain ⟨t, rfl⟩ := r.ofInt hx
    refine ⟨some (i, t), rfl, ?_⟩
    exact ⟨(Int.toNat_of_nonneg (Int.le_max_left _ _)).symm, Int.toNat_le.mpr (Int.max_le.mpr ⟨Int.natCast_nonneg n, Int.min_le_right _ _⟩)⟩
theorem cut_length {α : Type} (xs : List α) (a b : Nat) : (cut xs a b).length ≤ xs.length := Nat.le_trans (List.length_drop ▸ Nat.sub_le _ _) (List.length_take_le' ..)
theorem clip_le {n d : Nat} (hd : d ≤ n) (o : Option Int) : clip n d o ≤ n := by
  cases o with
  | none => exact Int.ofNat_le.mpr hd
  | some i => exact Int.max_le.mpr ⟨Int.natCast_nonneg n, Int.min_le_right _ _⟩
theorem pick_cut {α : Type} (xs : List α) (a b : Nat) : (sliceRange a b 1).filterMap (xs.toArray[·]?) = cut xs a b := by
  rw [sliceRange_one, pick_run]
  unfold cut
  rw [List.drop_take]
theorem strSlice_cut (x : Tx) {l u : Option Int} {a b : Nat} (hl : clip x.length 0 l = a) (hu : clip x.length x.length u = b) : Txt.slice ⟨x.toArray⟩ l u = ⟨(cut x a b).toArray⟩ := by
  have e : Builtin.Str.strSliceIndices l u 1 (⟨x.toArray⟩ : Str).length = sliceRange a b 1 := by
    rw [← hl, ← hu, strOf_len]
    cases l <;> cases u <;> rfl
  unfold Txt.slice
  rw [e]
  have hp := pick_cut x a b
  split
  · rename_i h
    have hlen : (sliceRange (a : Int) b 1).length = x.length := by
      have : ((sliceRange (a : Int) b 1).length == (⟨x.toArray⟩ : Str).length) = true := by simpa using h
      rw [strOf_len] at this
      exact beq_iff_eq.mp this
    rw [sliceRange_one, List.length_map, List.length_range] at hlen
    have hb : b ≤ x.length := Int.ofNat_le.mp (hu ▸ clip_le (Nat.le_refl _) u)
    have : cut x a b = x := by
      have h1 : (cut x a b).length = x.length := by unfold cut; rw [List.length_drop, List.length_take, Nat.min_eq_left hb]; exact hlen
      exact (List.Sublist.trans (List.drop_sublist _ _) (List.take_sublist _ _)).eq_of_length h1
    rw [this]
  · show (⟨(List.filterMap (fun k => x.toArray[k]?) (sliceRange (a : Int) b 1)).toArray⟩ : Str) = _
    rw [hp]
theorem listSlice_cut (vs : List Value) {l u : Option Int} {a b : Nat} (hl : clip vs.length 0 l = a) (hu : clip vs.length vs.length u = b) : slicePick vs.toArray l u none = (cut vs a b).toArray := by
  unfold slicePick
  have e : sliceBounds l u none vs.toArray.size = ((a : Int), (b : Int), 1) := by
    rw [← hl, ← hu]
    cases l <;> cases u <;> rfl
  rw [e, pick_cut]
section
variable {B : Base} {n : Nat} {W : Addr → Prop} {ρ : List Addr} {cs cs' : Cells} {s : Shared} {A : Around} {E : Value → Shared → Prop} {Q : Value → Shared → Prop}
theorem cut_rel {h : Heap} {xs : List AV} {vs : List Value} (r : VRels B h W ρ xs vs) (a b : Nat) : VRels B h W ρ (cut xs a b) (cut vs a b) := (r.take b).drop a
theorem part_of (o : Option (Int × Tok)) : IsPart (o.elim .none fun p => .int p.1 p.2) (o.map (·.1)) := by
  cases o with
  | none => exact .none
  | some p => exact .int _ _
theorem fits_of {i : Int} (h1 : -(2 ^ 63 : Int) ≤ i) (h2 : i < 2 ^ 63) : (decide (i < -(2 ^ 63 : Int)) || decide (i ≥ 2 ^ 63)) = false := by rw [decide_eq_false (Int.not_lt.mpr h1), decide_eq_false (Int.not_le.mpr h2)]; rfl
theorem neg_63 {n : Nat} (h : n ≤ lim) : -(2 ^ 63 : Int) ≤ -(n : Int) := Int.neg_le_neg (Int.le_of_lt (lim_63 h))
theorem idxv_sound (o : Ok B W ρ cs s) {x i z : AV} {v u : Value} (p : VRel B s.heap W ρ x v) (q : VRel B s.heap W ρ i u) (e : idxv cs x i = some z) (hQ : PostV B n W ρ cs s cs z Q) :
    wpAny (model B.prog B.w) A (getItem v u) Q E s := by
  rcases orElse_eq e with ⟨i, hi, e⟩ | e
  · obtain ⟨tk', hu⟩ := q.ofInt hi
    rw [hu]
    rcases orElse_eq e with ⟨t, hx, e⟩ | e
    · obtain ⟨tk, hv, bd⟩ := p.ofStr hx
      obtain ⟨k, hk, e⟩ := bind_eq e
      obtain ⟨c, hc, e⟩ := map_eq e
      obtain ⟨h1, h3, h4, _⟩ := idxZ_seq hk
      rw [hv]
      refine P.getItem_str (c := c) (fits_of (Int.le_trans (neg_63 bd) h3) (Int.lt_trans h4 (lim_63 bd))) ?_ ?_
      · rw [strOf_len, h1]; exact (List.getElem?_toArray ..).trans hc
      · exact hQ _ _ _ _ (o.toks _) (e ▸ .str [c] _ (Nat.succ_le_succ (Nat.zero_le _)))
    have seq : ∀ {xs : List AV} {vs : List Value} {z : AV}, ((idxZ xs.length i).bind fun k => xs[k]?) = some z → VRels B s.heap W ρ xs vs → xs.length ≤ lim →
        ∃ k y, seqIndex? i vs.toArray.size = some k ∧ vs.toArray[k]? = some y ∧ VRel B s.heap W ρ z y ∧ -(2 ^ 63 : Int) ≤ i ∧ i < 2 ^ 63 ∧ ((0 ≤ i ∧ k = i.toNat) ∨ (i < 0 ∧ k = (i + vs.toArray.size).toNat)) ∧ -(vs.toArray.size : Int) ≤ i := fun e r bd => by
      obtain ⟨k, hk, hz⟩ := bind_eq e
      obtain ⟨h1, h3, h4, h5⟩ := idxZ_seq hk
      obtain ⟨y, hy, ry⟩ := r.get hz
      rw [List.size_toArray, ← r.length]
      exact ⟨k, y, h1, (List.getElem?_toArray ..).trans hy, ry, Int.le_trans (neg_63 bd) h3, Int.lt_trans h4 (lim_63 bd), h5, h3⟩
    rcases orElse_eq e with ⟨xs, hx, e⟩ | e
    · obtain ⟨vs, a, hv, ⟨m, l⟩, bd, _, r⟩ := p.ofTup hx
      rw [hv]
      obtain ⟨k, y, h1, hy, ry, h2, h3, _⟩ := seq e r bd
      exact P.getItem_tuple l h2 h3 h1 hy (hQ _ _ _ _ (After.refl o) ry)
    · obtain ⟨xs, hx, e⟩ := bind_eq e
      obtain ⟨a, vs, hv, l, bd, r⟩ := o.mem.listOf p hx
      obtain ⟨k, y, h1, hy, ry, h2, h3, h5, h6⟩ := seq e r bd
      have hq := hQ _ _ _ _ (After.refl o) ry
      rw [hv]
      rcases h5 with ⟨h0, hk⟩ | ⟨h0, hk⟩
      · exact wpAny_getItem_list l.isList h0 h3 (hk ▸ hy) hq
      · exact wpAny_getItem_list_neg l.isList h0 h6 h2 (hk ▸ hy) hq
  · obtain ⟨k, hi, e⟩ := bind_eq e
    obtain ⟨es, hx, e⟩ := bind_eq e
    obtain ⟨j, hx, hc⟩ := bind_eq hx
    obtain ⟨t, hu, _⟩ := q.ofStr hi
    obtain ⟨a, hv, g⟩ := p.ofRef hx
    obtain ⟨kvs, l, r⟩ := o.mem.dictAt hc g
    have hk := (kvs_lookup (k := k) r).1
    rw [e] at hk
    obtain ⟨y, hy, ry⟩ := hk
    rw [hu, hv]
    exact wpAny_getItem_of (strKind_is B.prog B.w _ _) l.mapOf hy (hQ _ _ _ _ (o.toks _) ry)
theorem slcv_sound (o : Ok B W ρ cs s) (hn : n ≤ cs.length) {m : Bool} {x lo hi z : AV} {v vl vu : Value} (p : VRel B s.heap W ρ x v) (pl : VRel B s.heap W ρ lo vl) (pu : VRel B s.heap W ρ hi vu) (e : slcv m cs x lo hi = some (z, cs')) (hQ : PostV B n W ρ cs s cs' z Q) :
    wpAny (model B.prog B.w) A (getItem v (.ref s.heap.objs.size)) Q E { s with heap := s.heap.push { cls := .type "slice", data := .fields #[vl, vu, .none] } } := by
  have a0 : After B n Non W ρ cs s W ρ cs { s with heap := s.heap.push { cls := .type "slice", data := .fields #[vl, vu, .none] } } := o.push _ (tk := s.toks)
  rcases orElse_eq e with ⟨t, hx, e⟩ | e
  · obtain ⟨tk, hv, bd⟩ := p.ofStr hx
    obtain ⟨l, hl, e⟩ := bind_eq e
    obtain ⟨h, hh, e⟩ := mapS e
    obtain ⟨ol, h1, c1, _⟩ := bound_rel (Nat.zero_le _) pl hl
    obtain ⟨ou, h2, c2, _⟩ := bound_rel (Nat.le_refl _) pu hh
    have hcut := strSlice_cut t c1 c2
    rw [hv]
    refine wpAny_getItem_str_slice (l := ol) (u := ou) (st := none) ⟨_, Heap.get?_push_size _ rfl, rfl, ?_⟩ rfl (post_val_or_str ⟨?_, fun t' k => ?_⟩)
    · rw [h1, h2]; cases ol <;> cases ou <;> rfl
    · show (Txt.slice ⟨t.toArray⟩ (ol.map (·.1)) (ou.map (·.1))).length ≤ sizeLine
      rw [hcut, strOf_len]
      exact lim_size (Nat.le_trans (cut_length _ _ _) bd)
    · show Q (.str (Txt.slice ⟨t.toArray⟩ (ol.map (·.1)) (ou.map (·.1))) t') _
      rw [hcut]
      exact hQ.to e _ _ _ _ (a0.trans (a0.ok.toks k)) (.str _ _ (Nat.le_trans (cut_length _ _ _) bd))
  · obtain ⟨xs, hx, e⟩ := bind_eq e
    obtain ⟨l, hl, e⟩ := bind_eq e
    obtain ⟨h, hh, e⟩ := bind_eq e
    obtain ⟨a, vs, hv, pli, bd, r⟩ := o.mem.listOf p hx
    rw [r.length] at hl hh bd
    obtain ⟨ol, h1, c1, _⟩ := bound_rel (Nat.zero_le _) pl hl
    obtain ⟨ou, h2, c2, _⟩ := bound_rel (Nat.le_refl _) pu hh
    rw [hv]
    refine wpAny_getItem_list_slice (lo := ol.map (·.1)) (hi := ou.map (·.1)) (st := none) (pli.isList.push _) (Heap.IsSliceOf.new ..) (h1 ▸ part_of ol) (h2 ▸ part_of ou) .none (by decide) ?_ ?_
    · rw [listSlice_cut vs c1 c2]
      exact mk_post a0.ok hn (cut_rel (a0.vals o r) _ _) e (fun v W' ρ' s' a rv => hQ v W' ρ' s' (a0.trans a) rv) _
    · exact lim_size bd
end
end Ev
namespace Ev
open PySem PySem.W PyProof.Rows PySem.SeqAt
open MeetsSeq MeetsSeq2 MeetsSeq3 SeqRoads2
theorem size_update (h : Heap) (a : Addr) (f : Obj → Obj) : (h.update a f).objs.size = h.objs.size := (Heap.SameBut.update (h := h) (a := a) (f := f)).1
theorem runs_size {M : Model} {Γ : Ctx} {p : Pos} {t : Sem Fin} {fs : List Frame} {s s' : Shared} {e : End} (h : Runs M Γ p t fs s e s') : s.heap.objs.size ≤ s'.heap.objs.size := by
  induction h <;> (try simp only [Shared.setGen, size_update, Heap.size_push] at *) <;> omega
theorem wakes_size {M : Model} {Γ : Ctx} {p : Pos} {g : Nat} {r : Resume} {s s' : Shared} {res : GenResult} (h : Wakes M Γ p g r s res s') : s.heap.objs.size ≤ s'.heap.objs.size := by
  unfold Wakes at h
  split at h
  · exact h.elim
  · split at h
    · obtain ⟨e₁, s₁, hr, _, _, rfl⟩ := h; exact (runs_size hr : (s.setGen g .running).heap.objs.size ≤ _)
    all_goals (rw [h.2]; exact Nat.le_refl _)
  · obtain ⟨e₁, s₁, hr, _, _, rfl⟩ := h; exact (runs_size hr : (s.setGen g .running).heap.objs.size ≤ _)
  all_goals (rw [h.2]; exact Nat.le_refl _)
theorem wp_size {α : Type} (M : Model) (Γ : Ctx) (n : Nat) (t : Sem α) : ∀ (Q : α → Pos → Shared → Prop) (E : Value → Pos → Shared → Prop) (p : Pos) (s : Shared), n ≤ s.heap.objs.size → Sem.wp M Γ t Q E p s →
    Sem.wp M Γ t (fun a p' s' => n ≤ s'.heap.objs.size ∧ Q a p' s') (fun e p' s' => n ≤ s'.heap.objs.size ∧ E e p' s') p s := by
  induction t with
  | pure a => exact fun Q E p s hn h => ⟨hn, h⟩
  | raise e => exact fun Q E p s hn h => ⟨hn, h⟩
  | rule _ k ih => exact fun Q E p s hn h => ih () Q E p s hn h
  | «at» p' k ih => exact fun Q E p s hn h => ih () Q E p' s hn h
  | load a _ k ih => exact fun Q E p s hn ⟨o, ho, h⟩ => ⟨o, ho, ih o Q E p s hn h⟩
  | update a _ f k ih => exact fun Q E p s hn h => ⟨h.1, ih () Q E p _ (by simpa [size_update] using hn) h.2⟩
  | loadIfAlive a k ih => exact fun Q E p s hn h => ih _ Q E p s hn h
  | point _ k ih => exact fun Q E p s hn h => ih () Q E p s hn h
  | alloc o k ih => exact fun Q E p s hn h => ih _ Q E p _ (by rw [Heap.size_push]; omega) h
  | fresh k ih => exact fun Q E p s hn h => ih _ Q E p _ hn h
  | ask k ih => exact fun Q E p s hn h => ih _ Q E p s hn h
  | choose src m k ih => exact fun Q E p s hn h => ⟨h.1, ih _ Q E p _ hn h.2⟩
  | os q _ k ih => exact fun Q E p s hn h => ih _ Q E p _ hn h
  | call c hd _ _ k ih => exact fun Q E p s hn ⟨r, s', hr, h⟩ => ⟨r, s', hr, ih r Q E p s' (Nat.le_trans hn (runs_size hr)) h⟩
  | handled own k ih => exact fun Q E p s hn h => ih _ Q E p s hn h
  | genState g k ih => exact fun Q E p s hn ⟨st, hs, h⟩ => ⟨st, hs, ih _ Q E p s hn h⟩
  | newGen c k ih => exact fun Q E p s hn h => ih _ Q E p _ hn h
  | resume g r _ k ih => exact fun Q E p s hn ⟨res, s', hw, h⟩ => ⟨res, s', hw, ih res Q E p s' (Nat.le_trans hn (wakes_size hw)) h⟩
  | stack k ih => exact fun Q E p s hn h => ih _ Q E p s hn h
  | thread k ih => exact fun Q E p s hn h => ih _ Q E p s hn h
  | unsupported _ => exact fun Q E p s _ h => h
  | finish _ => exact fun Q E p s _ h => h
  | register _ _ => exact fun Q E p s _ h => h
  | yield _ _ _ _ => exact fun Q E p s _ h => h
  | fork _ _ => exact fun Q E p s _ h => h
  | await _ _ _ _ _ => exact fun Q E p s _ h => h
theorem with_size {α : Type} {M : Model} {A : Around} {s : Shared} {t : Sem α} {Q : α → Shared → Prop} {E : Value → Shared → Prop} (h : wpAny M A t (fun a s' => s.heap.objs.size ≤ s'.heap.objs.size → Q a s') E s) : wpAny M A t Q E s :=
  fun Γ p hΓ => Sem.wp_mono M Γ t (fun _ _ _ x => x.2 x.1) (fun _ _ _ x => x.2) p s (wp_size M Γ _ t _ _ p s (Nat.le_refl _) (h Γ p hΓ))
theorem digit_text (c : Nat) (h1 : 48 ≤ c) (h2 : c ≤ 57) : PySem.intText? ⟨#[c]⟩ = some ((c - 48 : Nat) : Int) := by
  have : ∀ k : Fin 10, PySem.intText? ⟨#[k.val + 48]⟩ = some ((k.val + 48 - 48 : Nat) : Int) := by decide +kernel
  have h := this ⟨c - 48, Nat.lt_succ_of_le (Nat.sub_le_iff_le_add.mpr h2)⟩
  rw [show c - 48 + 48 = c from Nat.sub_add_cancel h1] at h
  exact h
theorem nat_text : ∀ n : Nat, n < 100 → Str.ofString (toString (n : Int)) = ⟨(natTx n).toArray⟩ := by
  have : ∀ n : Fin 100, Str.ofString (toString (n.val : Int)) = ⟨(natTx n.val).toArray⟩ := by decide +kernel
  exact fun n h => this ⟨n, h⟩
set_option maxRecDepth 100000 in
theorem called_object : TypeCalled "object" "object.__new__" "object.__init__" :=
  ⟨by decide +kernel, by decide +kernel, ⟨_, _, F.mro_object⟩, madeBy_type F.mro_object (by rw [typeLookup_type, builtinLookup_eq_fast]; kernel_rfl) (by decide +kernel), by decide +kernel, by rw [isSubtype_type]; kernel_rfl, F.slot_object_init⟩
set_option maxRecDepth 100000 in
theorem madeHere_object : Bind.madeHere "object.__new__" (.type "object") = pure () := by kernel_rfl
set_option maxRecDepth 100000 in
theorem new_object_refuses : ((Manifest.find? "object").elim false (·.mro.any fun t => (Manifest.find? t).elim false (·.noNew))) = false := by kernel_rfl
set_option maxRecDepth 100000 in
theorem new_object_dict : typeHasDict (.type "object") = false := by kernel_rfl
set_option maxRecDepth 100000 in
theorem new_object_del : diesByItsTypesDel "object" = false := by kernel_rfl
theorem meets_object_new : Meets (Builtin.«object.__new__» ⟨[.type "object"], []⟩) (fun _ R s => R (.ok (.ret (.ref s.heap.objs.size))) { s with heap := s.heap.push { cls := .type "object", data := .plain } }) :=
  .of_wp fun prog w A R s h => by
    obtain ⟨hp, g, d, tk, os⟩ := s
    have h1 := madeHere_object
    have h2 := new_object_refuses
    have h3 := new_object_dict
    have h4 := new_object_del
    unfold Builtin.«object.__new__»
    refine wpAny_bind (wpAny_pure ?_)
    wp_walk
    exact ⟨_, rfl, h⟩
theorem meets_object_init {v : Value} : Meets (Builtin.«object.__init__» ⟨[v], []⟩) (fun _ R s => R (.ok (.ret .none)) s) :=
  .of_wp fun prog w A R s h => wpAny_pure ⟨_, rfl, h⟩
set_option maxRecDepth 100000 in
theorem call_object {prog : Program} {w : PySem.World} {A : Around} {E Q : Value → Shared → Prop} {s : Shared} (h : Q (.ref s.heap.objs.size) { s with heap := s.heap.push { cls := .type "object", data := .plain } }) :
    wpAny (model prog w) A (call (.type "object") []) Q E s :=
  callType_meets (Q₁ := fun obj s₁ => s₁.TypeIs obj "object" ∧ Q obj s₁) called_object (by kernel_rfl) (by kernel_rfl) F.entry_object_new F.entry_object_init meets_object_new ⟨⟨_, Heap.get?_push_size _ rfl, rfl⟩, h⟩
    fun obj s₁ hq => ⟨hq.1, F.args_object_init_1 _, _, meets_object_init, rfl, hq.2⟩
section
variable {B : Base} {n : Nat} {W : Addr → Prop} {ρ : List Addr} {cs cs' : Cells} {s : Shared} {A : Around} {E : Value → Shared → Prop} {Q : Value → Shared → Prop}
theorem ints_rel {h : Heap} {xs : List AV} {vs : List Value} (r : VRels B h W ρ xs vs) : ∀ {is : List Int}, allInt xs = some is → ∃ ps : Array (Int × Tok), vs.toArray = intItems ps ∧ ps.toList.map (·.1) = is :=
  r.ind (P := fun xs vs => ∀ {is : List Int}, allInt xs = some is → ∃ ps : Array (Int × Tok), vs.toArray = intItems ps ∧ ps.toList.map (·.1) = is) (fun e => ⟨#[], by simp [intItems], sJ e⟩) fun {x v xs vs} q r ih is e => by
    obtain ⟨i, hx, e⟩ := bind_eq e
    obtain ⟨js, hj, e⟩ := map_eq e
    obtain ⟨t, hv⟩ := q.ofInt hx
    obtain ⟨ps, h1, h2⟩ := ih hj
    refine ⟨#[(i, t)] ++ ps, ?_, by rw [Array.toList_append, List.map_append, h2]; exact e⟩
    rw [show (v :: vs).toArray = #[v] ++ vs.toArray by simp, h1, hv]
    simp [intItems]
theorem maxL_spec (r : List Int) : ∀ a : Int, maxL a r ∈ a :: r ∧ ∀ x ∈ a :: r, x ≤ maxL a r := by
  induction r with
  | nil => exact fun a => ⟨List.mem_cons_self, fun x hx => Int.le_of_eq (List.mem_singleton.mp hx)⟩
  | cons y r ih =>
    intro a
    have h := ih (if a < y then y else a)
    have h0 := h.2 _ List.mem_cons_self
    have ha : a ≤ (if a < y then y else a) ∧ y ≤ (if a < y then y else a) ∧ ((if a < y then y else a) = a ∨ (if a < y then y else a) = y) := by
      by_cases hy : a < y
      · rw [if_pos hy]; exact ⟨Int.le_of_lt hy, Int.le_refl _, .inr rfl⟩
      · rw [if_neg hy]; exact ⟨Int.le_refl _, Int.not_lt.mp hy, .inl rfl⟩
    refine ⟨(List.mem_cons.mp h.1).elim (fun e => ha.2.2.elim (fun q => List.mem_cons.mpr (.inl (e.trans q))) fun q => List.mem_cons_of_mem _ (List.mem_cons.mpr (.inl (e.trans q)))) fun e => List.mem_cons_of_mem _ (List.mem_cons_of_mem _ e), fun x hx => ?_⟩
    rcases List.mem_cons.mp hx with e | hx
    · exact Int.le_trans (e ▸ ha.1) h0
    · rcases List.mem_cons.mp hx with e | hx
      · exact Int.le_trans (e ▸ ha.2.1) h0
      · exact h.2 x (List.mem_cons_of_mem _ hx)
theorem grow_post (o : Ok B W ρ cs s) {x : AV} {v : Value} (hQ : PostV B n W ρ cs s cs x Q) (hv : ∀ h W ρ, VRel B h W ρ x v) {h' : Heap} {tk : Nat} (hk : ∀ a o, s.heap.get? a = some o → h'.get? a = some o) (hsz : s.heap.objs.size ≤ h'.objs.size) :
    Q v { s with heap := h', toks := tk } := hQ _ _ _ _ (o.grow hsz hk) (hv _ _ _)
theorem ints_of (o : Ok B W ρ cs s) {xs : List AV} {vs : List Value} {is : List Int} (p : VRels B s.heap W ρ xs vs) (e : intsOf cs xs = some is) : ∃ a ps, vs = [.ref a] ∧ s.heap.IsList a (intItems ps) ∧ ps.toList.map (·.1) = is := by
  obtain ⟨x, hx, e⟩ := bind_eq e
  obtain ⟨ys, hy, e⟩ := bind_eq e
  obtain ⟨v, hv, q⟩ := p.ofOne hx
  obtain ⟨a, us, hu, l, _, r⟩ := o.mem.listOf q hy
  obtain ⟨ps, h1, h2⟩ := ints_rel r e
  exact ⟨a, ps, hu ▸ hv, h1 ▸ l.isList, h2⟩
theorem best_max {ps : Array (Int × Tok)} {x : Int} {r : List Int} (h : ps.toList.map (·.1) = x :: r) : 0 < ps.size ∧ numAt ps (argBest (fun i j => decide (numAt ps i > numAt ps j)) (ps.size - 1)) = maxL x r := by
  have h0 : ps.size = r.length + 1 := by have := congrArg List.length h; rwa [List.length_map, Array.length_toList] at this
  obtain ⟨g1, g2⟩ := argBest_gt (numAt ps) (ps.size - 1)
  have hm := maxL_spec r x
  refine ⟨h0 ▸ Nat.succ_pos _, Int.le_antisymm (hm.2 _ ?_) ?_⟩
  · rw [← h, numAt_eq]; exact getD_mem (by rw [List.length_map, Array.length_toList]; omega)
  · rw [← h] at hm
    obtain ⟨j, hj, hjm⟩ := mem_getD hm.1
    rw [List.length_map, Array.length_toList] at hj
    rw [← hjm, ← numAt_eq]
    exact g2 j (Nat.le_sub_one_of_lt hj)
theorem bicall_sound (hh : A.handled = none) (hlim : s.heap.NoLimit) (o : Ok B W ρ cs s) {f : BF} {xs : List AV} {vs : List Value} {z : AV} (p : VRels B s.heap W ρ xs vs) (e : bicall f xs cs = some (z, cs'))
    (hQ : PostV B n W ρ cs s cs' z Q) : wpAny (model B.prog B.w) A (call (.builtin (bfS f)) vs) Q E s := by
  cases f with
  | len =>
    obtain ⟨x, hx, e⟩ := bind_eq e
    obtain ⟨v, hvs, q⟩ := p.ofOne hx
    rw [hvs]
    rcases orElse_eq e with ⟨t, hx, e⟩ | e
    · obtain ⟨tk, hv, bd⟩ := q.ofStr hx
      rw [hv]
      refine P.len_str (by rw [strOf_len]; exact not_63 bd) ?_
      rw [strOf_len]
      exact hQ.to e _ _ _ _ (o.toks _) (.int _ _)
    · obtain ⟨ys, hx, e⟩ := mapS e
      obtain ⟨a, us, hv, l, bd, r⟩ := o.mem.listOf q hx
      rw [hv]
      refine Calls.call_len_list l.isList (by rw [List.size_toArray, ← r.length]; exact lim_63 bd) ?_
      rw [List.size_toArray, ← r.length]
      exact hQ.to e _ _ _ _ (o.toks _) (.int _ _)
  | max =>
    rcases orElse_eq e with ⟨y, hy, e⟩ | e
    · obtain ⟨v, u, hvs, q, q'⟩ := p.ofTwo hy
      obtain ⟨i, hi, e⟩ := bind_eq e
      obtain ⟨j, hj, e⟩ := mapS e
      obtain ⟨t, hv⟩ := q.ofInt hi
      obtain ⟨t', hu⟩ := q'.ofInt hj
      rw [hvs, hv, hu]
      refine with_size (max_two_ints hh fun h' tk hk hsz => ?_)
      exact grow_post (tk := tk) o (hQ.to e) (v := if j > i then .int j t' else .int i t) (fun h W ρ => by by_cases hab : i < j <;> simp only [hab, if_true, if_false, gt_iff_lt] <;> exact .int _ _) hk hsz
    · obtain ⟨is, hi, e⟩ := bind_eq e
      obtain ⟨m, hm, e⟩ := mapS e
      obtain ⟨a, ps, hvs, l, h2⟩ := ints_of o p hi
      cases is with
      | nil => exact nN hm
      | cons x r =>
        obtain ⟨h0, h1⟩ := best_max h2
        rw [hvs]
        refine with_size (max_intList hh l h0 fun v h' tk hv hk hsz => ?_)
        obtain ⟨t, rfl⟩ := intItems_at hv
        rw [h1]
        have hQ := hQ.to e
        exact grow_post o hQ (fun _ _ _ => .int _ _) hk hsz
  | min =>
    rcases orElse_eq e with ⟨y, hy, e⟩ | e
    · obtain ⟨v, u, hvs, q, q'⟩ := p.ofTwo hy
      obtain ⟨i, hi, e⟩ := bind_eq e
      obtain ⟨j, hj, e⟩ := mapS e
      obtain ⟨t, hv⟩ := q.ofInt hi
      obtain ⟨t', hu⟩ := q'.ofInt hj
      rw [hvs, hv, hu]
      refine with_size (min_two_ints hh fun h' tk hk hsz => ?_)
      exact grow_post (tk := tk) o (hQ.to e) (v := if j < i then .int j t' else .int i t) (fun h W ρ => by by_cases hab : j < i <;> simp only [hab, if_true, if_false] <;> exact .int _ _) hk hsz
    · exact nN e
  | sum => exact nN e
theorem natTx_len (k : Nat) : (natTx k).length ≤ lim := by
  have : (natTx k).length ≤ 2 := by unfold natTx; split <;> (try split) <;> simp
  exact Nat.le_trans this (by decide)
theorem tycall_sound (o : Ok B W ρ cs s) (hn : n ≤ cs.length) {f : TyN} {xs : List AV} {vs : List Value} {z : AV} (p : VRels B s.heap W ρ xs vs) (e : tycall f xs cs = some (z, cs'))
    (hQ : PostV B n W ρ cs s cs' z Q) : wpAny (model B.prog B.w) A (call (.type (tyS f)) vs) Q E s := by
  cases f with
  | int =>
    obtain ⟨x, hx, e⟩ := bind_eq e
    obtain ⟨v, hvs, q⟩ := p.ofOne hx
    obtain ⟨i, hi, e⟩ := mapS e
    obtain ⟨t, hx, hi⟩ := bind_eq hi
    obtain ⟨tk, hv, bd⟩ := q.ofStr hx
    rw [hvs, hv]
    match t, hi with
    | [c], hi =>
      obtain ⟨hc, hi⟩ := if_eq hi
      exact PySem.W.KIN.call_text ((digit_text _ hc.1 hc.2).trans hi) (by show 1 ≤ 640; decide) (hQ.to e _ _ _ _ (o.toks _) (.int _ _))
  | str =>
    obtain ⟨x, hx, e⟩ := bind_eq e
    obtain ⟨v, hvs, q⟩ := p.ofOne hx
    obtain ⟨i, hx, e⟩ := bind_eq e
    obtain ⟨hi, e⟩ := if_eq e
    obtain ⟨tk, hv⟩ := q.ofInt hx
    have hi' : i = (i.toNat : Int) := (Int.toNat_of_nonneg hi.1).symm
    have hlt : i.toNat < 100 := (Int.toNat_lt hi.1).mpr hi.2
    rw [hvs, hv]
    refine P.str_of_int ?_ ?_
    · rw [hi', Int.natAbs_natCast]
      by_cases h0 : i.toNat = 0
      · rw [h0]; decide
      · exact Nat.lt_trans ((Nat.log2_lt (k := 7) h0).mpr (Nat.lt_trans hlt (by decide))) (by decide)
    · have e1 : (Str.ofString (toString i) : Str) = ⟨(natTx i.toNat).toArray⟩ := by
        have := nat_text i.toNat hlt
        rw [← hi'] at this; exact this
      rw [e1]
      exact hQ.to e _ _ _ _ (o.toks _) (.str _ _ (natTx_len _))
  | type =>
    obtain ⟨x, hx, e⟩ := bind_eq e
    obtain ⟨v, hvs, q⟩ := p.ofOne hx
    rw [hvs]
    rcases orElse_eq e with ⟨t, hx, e⟩ | e
    · obtain ⟨tk, hv, bd⟩ := q.ofStr hx
      rw [hv]
      exact call_type_of (Tx := "str") rfl (by decide) (hQ.to e _ _ _ _ (After.refl o) (.ty .str))
    · obtain ⟨ys, hx, e⟩ := mapS e
      obtain ⟨a, us, hv, l, bd, r⟩ := o.mem.listOf q hx
      rw [hv]
      exact call_type_of (Tx := "list") l.isList.typeIs (by decide) (hQ.to e _ _ _ _ (After.refl o) (.ty .list))
  | object =>
    obtain ⟨hx, e⟩ := if_eq e
    rw [List.isEmpty_iff.mp hx] at p
    rw [p.inv]
    refine call_object (hQ.to e _ _ _ _ (o.alloc hn ⟨_, Heap.get?_push_size _ rfl, rfl⟩) (.ref ?_))
    rw [o.mem.len]; exact List.getElem?_concat_length
  | _ => exact nN e
theorem bcall_sound (hh : A.handled = none) (hlim : s.heap.NoLimit) (o : Ok B W ρ cs s) (hn : n ≤ cs.length) {f : AV} {fv : Value} {xs : List AV} {vs : List Value} {z : AV} (pf : VRel B s.heap W ρ f fv) (p : VRels B s.heap W ρ xs vs) (e : bcall f xs cs = some (z, cs'))
    (hQ : PostV B n W ρ cs s cs' z Q) : wpAny (model B.prog B.w) A (call fv vs) Q E s := by
  cases f with
  | bi => rw [pf.inv]; exact bicall_sound hh hlim o p e hQ
  | ty => rw [pf.inv]; exact tycall_sound o hn p e hQ
  | _ => exact nN e
end
end Ev
namespace Ev
open PySem PySem.W PyProof.Rows PySem.SeqAt
open MeetsSeq MeetsSeq2 MeetsSeq3 SeqRoads2
open Builtin.Str (occurrences tooLong)
theorem occ_find (s : Str) (c hi : Nat) : ∀ (l : List Nat) (free : Nat), (∀ i ∈ l, free ≤ i) →
    (forIn l ((#[] : Array Nat), free) (StrLaws.occBody s ⟨#[c]⟩ hi 1)).run.fst = match l.find? (fun i => decide (i + 1 ≤ hi ∧ s.cps.toList[i]? = some c ∧ i + 1 ≤ s.length)) with | some k => #[k] | none => #[]
  | [], _, _ => rfl
  | a :: l, free, hf => by
    rw [List.forIn_cons]
    have ha : free ≤ a := hf a (List.mem_cons_self ..)
    have hone : (⟨#[c]⟩ : Str).length = 1 := rfl
    by_cases hc : a + 1 ≤ hi ∧ s.cps.toList[a]? = some c ∧ a + 1 ≤ s.length
    · have hs : Builtin.Str.subAt s ⟨#[c]⟩ a = true := ((StrLaws.subAt_one s c a).mpr hc.2.1).2
      have e : StrLaws.occBody s ⟨#[c]⟩ hi 1 a (#[], free) = pure (ForInStep.yield (#[a], a + 1)) := by
        unfold StrLaws.occBody
        rw [if_pos ⟨⟨⟨by simp, ha⟩, hc.1⟩, hs⟩]; rfl
      rw [e]
      have stay : ∀ (l : List Nat) (st : Array Nat × Nat), 1 ≤ st.fst.size → (forIn l st (StrLaws.occBody s ⟨#[c]⟩ hi 1)).run.fst = st.fst := by
        intro l
        induction l with
        | nil => intro st _; rfl
        | cons b l ih =>
          intro st h
          rw [List.forIn_cons]
          have : StrLaws.occBody s ⟨#[c]⟩ hi 1 b st = pure (ForInStep.yield (st.fst, st.snd)) := by
            unfold StrLaws.occBody
            rw [if_neg (fun h' => by have := h'.1.1.1; omega)]
          rw [this]
          exact ih (st.fst, st.snd) h
      rw [List.find?_cons, decide_eq_true hc]
      exact stay l (#[a], a + 1) (by simp)
    · have e : StrLaws.occBody s ⟨#[c]⟩ hi 1 a (#[], free) = pure (ForInStep.yield (#[], free)) := by
        unfold StrLaws.occBody
        rw [if_neg (fun h => hc (by
          have h3 := (StrLaws.subAt_one s c a)
          have h4 := h.2
          have h5 := h.1.2
          rw [hone] at h5
          have h6 : a + 1 ≤ s.length := by
            by_cases hx : a + 1 ≤ s.length
            · exact hx
            · exfalso
              have : s.cps.toList[a]? = none := List.getElem?_eq_none (by simp [Str.length] at hx ⊢; omega)
              rw [StrLaws.subAt_eq] at h4
              have h7 : ((s.cps.toList.drop a).take 1 == [c]) = true := h4
              rw [StrLaws.take1_drop, this] at h7
              exact nN h7
          exact ⟨h5, h3.mp ⟨by rw [hone]; exact h6, h4⟩, h6⟩))]
      rw [e, List.find?_cons, decide_eq_false hc]
      exact occ_find s c hi l free fun i hi' => hf i (List.mem_cons_of_mem _ hi')
theorem idxC_spec (c : Nat) : ∀ (s : Tx) (i k : Nat), idxC c s i = some k → i ≤ k ∧ s[k - i]? = some c ∧ ∀ j, j < k - i → s[j]? ≠ some c
  | [], _, _, h => nomatch h
  | x :: r, i, k, h => by
    rw [idxC] at h
    split at h
    · cases h
      rename_i hx
      subst hx
      exact ⟨Nat.le_refl _, by simp, fun j hj => absurd hj (by omega)⟩
    · rename_i hx
      obtain ⟨h1, h2, h3⟩ := idxC_spec c r (i + 1) k h
      have e : k - i = (k - (i + 1)) + 1 := by omega
      refine ⟨by omega, by rw [e]; simpa using h2, fun j hj => ?_⟩
      cases j with
      | zero => simpa using hx
      | succ j => have := h3 j (by omega); simpa using this
theorem occ_index {s : Tx} {c k : Nat} (h : idxC c s 0 = some k) : occurrences ⟨s.toArray⟩ ⟨#[c]⟩ 0 (⟨s.toArray⟩ : Str).length 1 = [k] := by
  obtain ⟨_, h2, h3⟩ := idxC_spec c s 0 k h
  rw [Nat.sub_zero] at h2 h3
  rw [StrLaws.occ_eq, occ_find _ _ _ _ _ (fun _ _ => Nat.zero_le _)]
  have hlt : k < s.length := (List.getElem?_eq_some_iff.mp h2).1
  have : (List.range' 0 ((⟨s.toArray⟩ : Str).length + 1 - 0)).find? (fun i => decide (i + 1 ≤ (⟨s.toArray⟩ : Str).length ∧ (⟨s.toArray⟩ : Str).cps.toList[i]? = some c ∧ i + 1 ≤ (⟨s.toArray⟩ : Str).length)) = some k := by
    rw [List.find?_range'_eq_some]
    rw [strOf_len]
    refine ⟨by simp; exact ⟨hlt, by simpa using h2, hlt⟩, by simp [List.mem_range']; omega, fun j hj1 hj2 => ?_⟩
    have := h3 j hj2
    simp
    exact .inr (.inl this)
  rw [this]
theorem strJoin (sep : Tx) : ∀ xs : List Tx, Str.join ⟨sep.toArray⟩ (xs.map fun x => (⟨x.toArray⟩ : Str)) = ⟨(joinTx sep xs).toArray⟩
  | [] => rfl
  | [x] => rfl
  | x :: y :: r => by
    show (⟨x.toArray⟩ : Str) ++ ⟨sep.toArray⟩ ++ Str.join ⟨sep.toArray⟩ ((y :: r).map fun x => (⟨x.toArray⟩ : Str)) = _
    rw [strJoin sep (y :: r), strOf_append, strOf_append]
    rfl
theorem joinTx_len (sep : Tx) : ∀ xs : List Tx, (xs.map List.length).sum + xs.length * sep.length ≤ (joinTx sep xs).length + sep.length
  | [] => by simp
  | [x] => by simp [joinTx]
  | x :: y :: r => by
    have := joinTx_len sep (y :: r)
    simp only [joinTx, List.map_cons, List.sum_cons, List.length_cons, List.length_append] at this ⊢
    have e : (r.length + 1 + 1) * sep.length = (r.length + 1) * sep.length + sep.length := by rw [Nat.add_mul, Nat.one_mul]
    omega
theorem foldl_join (k : Nat) : ∀ (l : List Str) (a : Nat), l.foldl (fun a x => a + x.length + k) a = a + (l.map Str.length).sum + l.length * k
  | [], a => by simp
  | x :: l, a => by
    rw [List.foldl_cons, foldl_join k l, List.map_cons, List.sum_cons, List.length_cons, Nat.add_mul]; omega
theorem joinOk {sep : Tx} {xs : List Tx} (hs : sep.length ≤ lim) (ht : (joinTx sep xs).length ≤ lim) : JoinOk ⟨sep.toArray⟩ (xs.map fun x => (⟨x.toArray⟩ : Str)) = true := by
  unfold JoinOk
  rw [Bool.not_eq_true']
  have h := joinTx_len sep xs
  have e : ((xs.map fun x => (⟨x.toArray⟩ : Str)).toArray.foldl (fun a x => a + x.length + (⟨sep.toArray⟩ : Str).length) 0) = (xs.map List.length).sum + xs.length * sep.length := by
    rw [List.foldl_toArray, foldl_join, strOf_len, List.map_map, List.length_map]
    have : (Str.length ∘ fun x : Tx => (⟨x.toArray⟩ : Str)) = List.length := by funext x; exact strOf_len x
    rw [this, Nat.zero_add]
  rw [e]
  apply decide_eq_false
  have h1 : lim = 100000 := rfl
  have h2 : (200000 : Nat) ≤ sizeLine := by decide
  omega
end Ev
namespace Ev
open PySem PySem.W PyProof.Rows PySem.SeqAt
open MeetsSeq MeetsSeq2 MeetsSeq3 SeqRoads2
open Builtin.Str (occurrences tooLong partsBetween)
noncomputable def mnS : MN → String
  | .append => "append" | .pop => "pop" | .join => "join" | .lower => "lower" | .upper => "upper" | .replace => "replace" | .index => "index" | .split => "split" | .search => "search" | .sub => "sub" | .other => ""
  | .find => "find"
noncomputable def midL : MN → String
  | .append => "list.append" | .pop => "list.pop" | _ => ""
noncomputable def midT : MN → String
  | .join => "str.join" | .lower => "str.lower" | .upper => "str.upper" | .replace => "str.replace" | .index => "str.index" | .split => "str.split"
  | .find => "str.find"
  | _ => ""
noncomputable def midOf (x : AV) (k : MN) : String := orElse x.str? (fun _ => midT k) (midL k)
theorem names_ok : ∀ p ∈ mnames, (⟨p.1.toArray⟩ : Str) = Str.ofString (mnS p.2) := by
  have : (mnames.all fun p => decide ((⟨p.1.toArray⟩ : Str) = Str.ofString (mnS p.2))) = true := by decide +kernel
  exact fun p hp => of_decide_eq_true (List.all_eq_true.mp this p hp)
theorem lookup_mem {α β : Type} [BEq α] [LawfulBEq α] {l : List (α × β)} {n : α} {c : β} (h : l.lookup n = some c) : (n, c) ∈ l := by
  induction l with
  | nil => exact nN h
  | cons p r ih =>
    rw [show p = (p.1, p.2) from rfl, List.lookup_cons] at h
    cases hb : n == p.1 with
    | true => rw [hb] at h; rw [beq_iff_eq.mp hb, ← sJ h]; exact List.mem_cons_self
    | false => rw [hb] at h; exact List.mem_cons_of_mem _ (ih h)
theorem mnOf_name {x : Str} {k : MN} (h : mnOf x = k) (hk : k ≠ .other) : x = Str.ofString (mnS k) := by
  unfold mnOf at h
  cases hl : mnames.lookup (tx x) with
  | none => rw [hl] at h; exact absurd h.symm hk
  | some m =>
    rw [hl] at h
    rw [← h]
    exact names_ok _ (lookup_mem hl)
section
variable {B : Base} {n : Nat} {W : Addr → Prop} {ρ : List Addr} {cs cs' : Cells} {s : Shared} {A : Around} {E : Value → Shared → Prop} {Q : Value → Shared → Prop}
theorem belows_append {k : Nat} (xs ys : List AV) : belows k (xs ++ ys) = (belows k xs && belows k ys) := by
  induction xs with
  | nil => rfl
  | cons x xs ih => rw [List.cons_append, belows, belows, ih, Bool.and_assoc]
theorem below_mono {a b : Nat} (hab : a ≤ b) {x : AV} : below a x = true → below b x = true :=
  AV.rec (motive_1 := fun x => below a x = true → below b x = true) (motive_2 := fun xs => belows a xs = true → belows b xs = true) (fun h => h) (fun _ h => h) (fun _ h => h) (fun _ h => h) (fun _ ih h => ih h) (fun _ ih h => ih h) (fun _ h => decide_eq_true (Nat.lt_of_lt_of_le (of_decide_eq_true h) hab))
    (fun _ h => h) (fun h => h) (fun _ h => h) (fun _ h => h) (fun _ h => h) (fun _ h => decide_eq_true (Nat.lt_of_lt_of_le (of_decide_eq_true h) hab)) (fun h => h) (fun h => h) (fun _ _ ih1 ih2 h => aI ⟨ih1 (aT h).1, ih2 (aT h).2⟩) x
theorem belows_mono {a b : Nat} (hab : a ≤ b) {xs : List AV} (h : belows a xs = true) : belows b xs = true := by
  induction xs with
  | nil => rfl
  | cons x xs ih => exact aI ⟨below_mono hab (aT h).1, ih (aT h).2⟩
theorem belows_take {k : Nat} {xs : List AV} (m : Nat) (h : belows k xs = true) : belows k (xs.take m) = true := by
  rw [← List.take_append_drop m xs, belows_append] at h
  exact (aT h).1
theorem put_low {i : Nat} {v : AV} (h : put n i v = true) : n ≤ i ∨ below 0 v = true := (Bool.or_eq_true_iff.mp h).imp of_decide_eq_true id
theorem turn_list (o : Ok B W ρ cs s) {i : Nat} {a : Addr} {xs : List AV} {ys : List AV} {us : List Value} (g : ρ[i]? = some a) (hc : listAt cs i = some xs) (r : VRels B s.heap W ρ ys us) (hb : ys.length ≤ lim)
    (hl : n ≤ i ∨ ∀ k, belows k xs = true → belows k ys = true) {h' : Heap} {tk : Nat} (l : h'.PlainList a us.toArray) (hs : Heap.SameBut a s.heap h') :
    After B n Non W ρ cs s W ρ (cs.set i (.list ys)) { s with heap := h', toks := tk } := by
  have wa := (o.mem.own a (List.mem_of_getElem? g)).1
  refine o.setCell g hs ⟨us, l, hb, r.mono (fun b ob e w => (hs.2 b fun z => w (z ▸ wa)).trans e) (fun _ _ w => w) fun _ _ e => e⟩ (hl.imp id fun h k old ho hold => ?_)
  rw [← sJ ((listAt_eq hc).symm.trans ho)] at hold
  exact h k hold
theorem turn_append (o : Ok B W ρ cs s) {i : Nat} {a : Addr} {xs : List AV} {vs : List Value} {x : AV} {v : Value} (g : ρ[i]? = some a) (hc : listAt cs i = some xs) (r : VRels B s.heap W ρ xs vs) (p : VRel B s.heap W ρ x v) (hg : (put n i x && decide (xs.length < lim)) = true)
    {h' : Heap} {tk : Nat} (l : h'.PlainList a (vs ++ [v]).toArray) (hs : Heap.SameBut a s.heap h') : After B n Non W ρ cs s W ρ (cs.set i (.list (xs ++ [x]))) { s with heap := h', toks := tk } := by
  have hg := aT hg
  refine turn_list o g hc (r.append (.cons p .nil)) (by rw [List.length_append]; exact of_decide_eq_true hg.2) ((put_low hg.1).imp id fun h k hk => ?_) l hs
  rw [belows_append, hk]
  exact aI ⟨rfl, aI ⟨below_mono (Nat.zero_le k) h, rfl⟩⟩
theorem appendv_sound (o : Ok B W ρ cs s) {i : Nat} {a : Addr} {x z : AV} {v : Value} (g : ρ[i]? = some a) (p : VRel B s.heap W ρ x v) (e : appendv n i x cs = some (z, cs')) (hQ : PostV B n W ρ cs s cs' z Q) :
    wpAny (model B.prog B.w) A (call (.builtin "list.append") [.ref a, v]) Q E s := by
  obtain ⟨xs, hc, e⟩ := bind_eq e
  obtain ⟨hg, e⟩ := if_eq e
  obtain ⟨vs, l, bd, r⟩ := o.mem.listAt hc g
  refine wpAny_list_append_plain l (fun h' l' hs => ?_) (by rw [List.size_toArray, ← r.length]; exact lim_size bd)
  exact hQ.to e _ _ _ _ (turn_append (tk := s.toks) o g hc r p hg (by rw [List.push_toArray] at l'; exact l') hs) .none
theorem strTab {k : MN} (h : k.ofStr = true) : Slot "str" (Str.ofString (mnS k)) (midT k) ∧ typeOf (.builtin (midT k)) = pure (.type "method_descriptor") := by
  cases k with
  | join => exact ⟨F.slot_str_join, F.type_str_join⟩
  | lower => exact ⟨F.slot_str_lower, F.type_str_lower⟩
  | upper => exact ⟨F.slot_str_upper, F.type_str_upper⟩
  | replace => exact ⟨F.slot_str_replace, F.type_str_replace⟩
  | index => exact ⟨F.slot_str_index, F.type_str_index⟩
  | find => exact ⟨F.slot_str_find, F.type_str_find⟩
  | _ => exact fB h
theorem listTab {k : MN} (h : k.ofList = true) : Slot "list" (Str.ofString (mnS k)) (midL k) ∧ typeOf (.builtin (midL k)) = pure (.type "method_descriptor") := by
  cases k with
  | append => exact ⟨F.slot_list_append, F.type_list_append⟩
  | pop => exact ⟨F.slot_list_pop, F.type_list_pop⟩
  | _ => exact fB h
theorem getm_sound (o : Ok B W ρ cs s) {x : AV} {v : Value} (p : VRel B s.heap W ρ x v) {nm : Str} {k : MN} (hk : mnOf nm = k) (e : methOk cs x k = true) (hre : x.re? = none) {pl : Sem Bool} {R : Value × List Value → Shared → Prop} (hQ : R (.builtin (midOf x k), [v]) s) :
    wpAny (model B.prog B.w) A (getMethod v nm pl) R E s := by
  have hn : k ≠ .other → nm = Str.ofString (mnS k) := mnOf_name hk
  unfold methOk at e
  unfold midOf at hQ
  cases hx : x.str? with
  | some t =>
    obtain ⟨tk, hv, _⟩ := p.ofStr hx
    rw [hx] at e hQ
    rw [hv] at hQ ⊢
    rw [hn fun h => by rw [h] at e; cases e]
    exact GM.of _ (typeIs_str _ _ _) (strTab e).1 (strTab e).2 GM.noRef hQ
  | none =>
    rw [hx] at e hQ
    cases hr : x.ref? with
    | some i =>
      rw [hr] at e
      obtain ⟨h1, h2⟩ := aT e
      obtain ⟨xs, hc⟩ := Option.isSome_iff_exists.mp h1
      obtain ⟨a, hv, g⟩ := p.ofRef hr
      obtain ⟨vs, ⟨m, l⟩, bd, r⟩ := o.mem.listAt hc g
      rw [hv] at hQ ⊢
      rw [hn fun h => by rw [h] at h2; cases h2]
      exact getMethod_list_of (listTab h2).1 (listTab h2).2 ⟨_, l, rfl, _, rfl⟩ ⟨_, l, rfl⟩ hQ
    | none => rw [hr, hre] at e; exact fB e
theorem gives_find4 (x y : Tx) (i j : Int) (t u v w : Tok) : Gives (Builtin.«str.find» ⟨[.str ⟨x.toArray⟩ t, .str ⟨y.toArray⟩ u, .int i v, .int j w], []⟩) (.int (findTx x y i j)) := by
  show Gives (match occurrences ⟨x.toArray⟩ ⟨y.toArray⟩ (fromZ x.length i) (min (fromZ x.length j) x.length) 1 with | k :: _ => PySem.retInt k | [] => (do rule "str.find.not-found"; PySem.retInt (-1))) _
  unfold findTx
  cases occurrences ⟨x.toArray⟩ ⟨y.toArray⟩ (fromZ x.length i) (min (fromZ x.length j) x.length) 1 with
  | nil => exact .rule (.of_eq rfl)
  | cons k _ => exact .of_eq rfl
theorem strCall_sound (o : Ok B W ρ cs s) (hn : n ≤ cs.length) {t : Tx} {z : AV} {k : MN} {xs : List AV} {tk : Tok} {vs : List Value} (bd : t.length ≤ lim) (q : VRels B s.heap W ρ xs vs) (e : strCall k t xs cs = some (z, cs'))
    (hQ : PostV B n W ρ cs s cs' z Q) : wpAny (model B.prog B.w) A (call (.builtin (midT k)) (.str ⟨t.toArray⟩ tk :: vs)) Q E s := by
  cases k with
  | join =>
    obtain ⟨x, hx, e⟩ := bind_eq e
    obtain ⟨ts, hts, e⟩ := bind_eq e
    obtain ⟨ys, hy, hs⟩ := bind_eq hts
    obtain ⟨hlen, e⟩ := if_eq e
    obtain ⟨v, hvs, q⟩ := q.ofOne hx
    obtain ⟨b, us, hv, l, bd', r⟩ := o.mem.listOf q hy
    obtain ⟨sl, h1, h2⟩ := strs_rel r hs
    rw [hvs, hv]
    refine SC.join (texts := ts.map fun x => (⟨x.toArray⟩ : Str)) (h1 ▸ l.isList) h2 (joinOk bd hlen) fun t' k => ?_
    rw [show Txt.join ⟨t.toArray⟩ (ts.map fun x => (⟨x.toArray⟩ : Str)) = ⟨(joinTx t ts).toArray⟩ from (StrLaws.glued_eq_join _ _).trans (strJoin t ts)]
    exact hQ.to e _ _ _ _ (o.toks _) (.str _ _ hlen)
  | lower =>
    obtain ⟨h, e⟩ := if_eq e
    obtain ⟨hx, ha⟩ := aT h
    rw [List.isEmpty_iff.mp hx] at q
    rw [q.inv]
    have hl : Txt.lower ⟨t.toArray⟩ = ⟨(t.map lowC).toArray⟩ := by
      rw [lower_ascii (fun c hc => of_decide_eq_true (List.all_eq_true.mp ha c (List.mem_toArray.mp (Array.mem_toList_iff.mp hc))))]
      simp; intro c _; rfl
    refine SC.lower ?_ ?_
    · rw [hl, strOf_len, List.length_map]; exact decide_eq_false (Nat.not_lt.mpr (lim_size bd))
    · rw [hl]; exact hQ.to e _ _ _ _ (o.toks _) (.str _ _ (by rw [List.length_map]; exact bd))
  | upper =>
    obtain ⟨h, e⟩ := if_eq e
    obtain ⟨hx, ha⟩ := aT h
    rw [List.isEmpty_iff.mp hx] at q
    rw [q.inv]
    have hl : Txt.upper ⟨t.toArray⟩ = ⟨(t.map upC).toArray⟩ := by
      rw [upper_ascii (fun c hc => of_decide_eq_true (List.all_eq_true.mp ha c (List.mem_toArray.mp (Array.mem_toList_iff.mp hc))))]
      simp; intro c _; rfl
    refine SC.upper ?_ ?_
    · rw [hl, strOf_len, List.length_map]; exact decide_eq_false (Nat.not_lt.mpr (lim_size bd))
    · rw [hl]; exact hQ.to e _ _ _ _ (o.toks _) (.str _ _ (by rw [List.length_map]; exact bd))
  | replace =>
    obtain ⟨p, hp, e⟩ := bind_eq e
    obtain ⟨c, hc, e⟩ := bind_eq e
    obtain ⟨k, h1, hk⟩ := bind_eq hc
    obtain ⟨y, h2, e⟩ := bind_eq e
    obtain ⟨hn, e⟩ := if_eq e
    obtain ⟨v, u, hvs, q, q'⟩ := q.ofTwo hp
    obtain ⟨tk2, hv, _⟩ := q.ofStr h1
    obtain ⟨tk3, hu, _⟩ := q'.ofStr h2
    rw [hvs, hv, hu, one?_eq hk]
    have hocc : occurrences ⟨t.toArray⟩ ⟨#[c]⟩ 0 (⟨t.toArray⟩ : Str).length ((⟨t.toArray⟩ : Str).length + 1) = [] :=
      List.eq_nil_iff_forall_not_mem.mpr fun i hi => hn (List.mem_of_getElem? ((StrLaws.subAt_one ⟨t.toArray⟩ c i).mp (StrLaws.occ_spec _ _ _ _ _ i hi)))
    have hg := gives_str_replace ⟨t.toArray⟩ ⟨#[c]⟩ ⟨y.toArray⟩ tk tk2 tk3 (fun h => by rw [hocc] at h; exact tF h)
    rw [hocc] at hg
    exact call_gives F.slot_str_replace (typeIs_str _ _ _) F.entry_str_replace (F.args_str_replace_3 _ _ _) hg (hQ.to e _ _ _ _ (After.refl o) (.str _ _ bd))
  | index =>
    obtain ⟨x, hx, e⟩ := bind_eq e
    obtain ⟨i, hi, e⟩ := mapS e
    obtain ⟨c, hc, hi⟩ := bind_eq hi
    obtain ⟨k, h1, hk⟩ := bind_eq hc
    obtain ⟨v, hvs, q⟩ := q.ofOne hx
    obtain ⟨tk2, hv, _⟩ := q.ofStr h1
    rw [hvs, hv, one?_eq hk]
    exact SC.index (occ_index hi) (hQ.to e _ _ _ _ (o.toks _) (.int _ _))
  | find =>
    obtain ⟨p, hp, e⟩ := bind_eq e
    obtain ⟨y, h1, e⟩ := bind_eq e
    obtain ⟨i, h2, e⟩ := bind_eq e
    obtain ⟨j, h3, e⟩ := mapS e
    obtain ⟨v, u, w, hvs, q1, q2, q3⟩ := q.ofThree hp
    obtain ⟨t1, hv, _⟩ := q1.ofStr h1
    obtain ⟨t2, hu⟩ := q2.ofInt h2
    obtain ⟨t3, hw⟩ := q3.ofInt h3
    rw [hvs, hv, hu, hw]
    refine call_gives F.slot_str_find (typeIs_str _ _ _) F.entry_str_find (F.args_str_find_4 _ _ _ _) (gives_find4 t y i j tk t1 t2 t3) ?_
    exact hQ.to e _ _ _ _ (o.toks _) (.int _ _)
  | _ => exact nN e
theorem pop_last {vs : List Value} (h : 0 < vs.length) : (vs.toArray).eraseIdxIfInBounds (vs.toArray.size - 1) = (vs.take (vs.length - 1)).toArray := by
  have h0 : vs.toArray.size - 1 < vs.toArray.size := Nat.sub_one_lt_of_lt h
  unfold Array.eraseIdxIfInBounds
  rw [dif_pos h0, List.eraseIdx_toArray, List.eraseIdx_eq_take_drop_succ, List.size_toArray, Nat.sub_one_add_one (Nat.ne_of_gt h), List.drop_length, List.append_nil]
theorem listCall_sound (o : Ok B W ρ cs s) {i : Nat} {a : Addr} {z : AV} {k : MN} {xs : List AV} {vs : List Value} (g : ρ[i]? = some a) (q : VRels B s.heap W ρ xs vs) (e : listCall n k i xs cs = some (z, cs'))
    (hQ : PostV B n W ρ cs s cs' z Q) : wpAny (model B.prog B.w) A (call (.builtin (midL k)) (.ref a :: vs)) Q E s := by
  cases k with
  | append =>
    obtain ⟨x, hx, e⟩ := bind_eq e
    obtain ⟨v, hvs, q⟩ := q.ofOne hx
    rw [hvs]
    exact appendv_sound o g q e hQ
  | pop =>
    obtain ⟨hx, e⟩ := if_eq e
    obtain ⟨xs, hc, e⟩ := bind_eq e
    obtain ⟨y, hy, e⟩ := mapS e
    rw [List.isEmpty_iff.mp hx] at q
    obtain ⟨vs, ⟨m', l⟩, bd, r⟩ := o.mem.listAt hc g
    rw [List.getLast?_eq_getElem?] at hy
    obtain ⟨u, hu, ru⟩ := r.get hy
    rw [r.length] at hu
    have hpos : 0 < vs.length := Nat.lt_of_le_of_lt (Nat.zero_le _) (List.getElem?_eq_some_iff.mp hu).1
    rw [q.inv]
    refine call_meets F.slot_list_pop ⟨_, l, rfl⟩ F.entry_list_pop (F.args_list_pop_1 _) (list_pop_last a vs.toArray m' u ((List.getElem?_toArray ..).trans hu) (by rw [List.size_toArray, ← r.length]; exact lim_size bd)) ⟨l, ?_⟩
    have l2 := IsL.update l (fun xs => xs.eraseIdxIfInBounds (vs.toArray.size - 1))
    simp only [pop_last hpos] at l2
    rw [List.dropLast_eq_take] at e
    have af := turn_list (n := n) (tk := s.toks) o g hc (r.take (xs.length - 1)) (Nat.le_trans (List.length_take_le' ..) bd) (.inr fun k hk => belows_take _ hk) ⟨_, r.length ▸ l2⟩ (Heap.SameBut.update ..)
    exact hQ.to e _ _ _ _ af (af.val o ru)
  | _ => exact nN e
theorem mcall_sound (o : Ok B W ρ cs s) (hn : n ≤ cs.length) {x z : AV} {k : MN} {xs : List AV} {v : Value} {vs : List Value} (p : VRel B s.heap W ρ x v) (q : VRels B s.heap W ρ xs vs) (hre : x.re? = none) (e : mcall n x k xs cs = some (z, cs'))
    (hQ : PostV B n W ρ cs s cs' z Q) : wpAny (model B.prog B.w) A (call (.builtin (midOf x k)) (v :: vs)) Q E s := by
  unfold mcall at e
  unfold midOf
  cases hx : x.str? with
  | some t =>
    obtain ⟨tk, hv, bd⟩ := p.ofStr hx
    rw [hx] at e
    rw [hv]
    exact strCall_sound o hn bd q e hQ
  | none =>
    rw [hx] at e
    have e : orElse x.ref? (fun i => listCall n k i xs cs) (x.re?.bind fun j => reCall k j xs cs) = some (z, cs') := e
    rcases orElse_eq e with ⟨i, hi, e⟩ | e
    · obtain ⟨a, hv, g⟩ := p.ofRef hi
      rw [hv]
      exact listCall_sound o g q e hQ
    · rw [hre] at e; exact nN e
end
end Ev
namespace Ev
open PySem PySem.W PyProof.Rows PySem.SeqAt
open MeetsSeq MeetsSeq2 MeetsSeq3 SeqRoads2
open AutoSeq1 (wpAny_loadPart')
noncomputable abbrev PostU (B : Base) (n : Nat) (W : Addr → Prop) (ρ : List Addr) (cs : Cells) (s : Shared) (cs' : Cells) (Q : Unit → Shared → Prop) : Prop :=
  ∀ W' ρ' s', After B n Non W ρ cs s W' ρ' cs' s' → Q () s'
set_option maxRecDepth 100000 in
theorem iadd_seq : seqSlot? (.type "list") (dunderI "add") = pure (some (.builtin "list.__iadd__")) := PySem.seqSlot_of F.slot_list_iadd.lookup (by decide +kernel)
set_option maxRecDepth 100000 in
theorem iadd_fills : fillsInplaceSlot (.type "list") "add" true = pure false := by
  have h := F.slot_list_iadd.lookup
  unfold fillsInplaceSlot
  show (typeLookup (.type "list") (dunderI "add") >>= fun fi => pure (fi.isSome && !isSeqSlot fi)) = pure false
  rw [h]
  show (pure _ : Sem Bool) = _
  congr 1
theorem iadd_list {prog : Program} {w : PySem.World} {A : Around} {E Q : Value → Shared → Prop} {s : Shared} {l b : Addr} {items items2 : Array Value} {n n2 : Nat} (hl : IsL s.heap l items n) (hb : IsL s.heap b items2 n2)
    (hsz : items.size + items2.size ≤ sizeLine) (h : Q (.ref l) { s with heap := s.heap.update l (Obj.mapSeq fun x => x ++ items2) }) : wpAny (model prog w) A (inplaceOp .Add (.ref l) (.ref b)) Q E s := by
  have hT : s.TypeIs (.ref l) "list" := ⟨_, hl, rfl⟩
  have hT2 : s.TypeIs (.ref b) "list" := ⟨_, hb, rfl⟩
  unfold inplaceOp
  refine wpAny_holding ?_
  refine wpAny_bind (wpAny_typeOf hT (wpAny_bind (wpAny_of_eq iadd_fills ?_)))
  show wpAny _ A (if false = true then _ else _) Q E s
  rw [if_neg Bool.false_ne_true]
  refine wpAny_bind (wpAny_binaryOp1_none (nm := "add") hT hT2 noFill_list_add ?_)
  refine wpAny_bind (wpAny_of_eq iadd_seq ?_)
  refine wpAny_bind (wpAny_rule ?_)
  exact call_meets F.slot_list_iadd hT F.entry_list_iadd (F.args_list_iadd_2 _ _) (AutoSeq1.list___iadd___list_list_0 l items n b items2 n2 (extend_door hsz) (Nat.le_trans (Nat.le_add_right _ _) hsz) (Nat.le_succ_of_le hsz)) ⟨hl, hb, h⟩
theorem list_setAt {prog : Program} {w : PySem.World} {A : Around} {E : Value → Shared → Prop} {s : Shared} {l : Addr} {items : Array Value} {n : Nat} {k : Int} {t : Tok} {v : Value} {Q : Unit → Shared → Prop} (ho : IsL s.heap l items n) (h0 : 0 ≤ k) (hfit : k < 2 ^ 63) (hn : k < items.size)
    (hQ : Q () { s with heap := s.heap.update l (Obj.mapSeq (·.setIfInBounds k.toNat v)) }) : wpAny (model prog w) A (setItem (.ref l) (.int k t) v) Q E s := PySem.W.ki_setAt ho h0 hfit hn hQ
section
variable {B : Base} {n : Nat} {W : Addr → Prop} {ρ : List Addr} {cs cs' : Cells} {s : Shared} {A : Around} {E : Value → Shared → Prop}
theorem belows_set {k : Nat} {v : AV} (hv : below k v = true) {xs : List AV} : ∀ (j : Nat), belows k xs = true → belows k (xs.set j v) = true := by
  induction xs with
  | nil => exact fun _ _ => rfl
  | cons y ys ih =>
    intro j h
    have h := aT h
    cases j with
    | zero => exact aI ⟨hv, h.2⟩
    | succ j => exact aI ⟨h.1, ih j h.2⟩
theorem all_dput {k : Nat} {key : Tx} {v : AV} (hv : below k v = true) {es : List (Tx × AV)} (h : (es.all fun p => below k p.2) = true) : ((dput key v es).all fun p => below k p.2) = true := by
  rw [List.all_eq_true] at h ⊢
  intro p hp
  unfold dput at hp
  split at hp
  · obtain ⟨q, hq, e⟩ := List.mem_map.mp hp
    rw [← e]
    split
    · exact hv
    · exact h q hq
  · rcases List.mem_append.mp hp with hp | hp
    · exact h p hp
    · rw [List.mem_singleton.mp hp]; exact hv
theorem kvs_len {h : Heap} {es : List (Tx × AV)} {kvs : List (Str × Value)} (r : KVs B h W ρ es kvs) : kvs.length = es.length := by
  induction r with
  | nil => rfl
  | cons _ _ ih => exact congrArg (· + 1) ih
theorem str_inj {a b : Tx} (h : (⟨a.toArray⟩ : Str) = ⟨b.toArray⟩) : a = b := congrArg (fun z : Str => z.cps.toList) h
theorem str_iff {a b : Tx} : ((⟨a.toArray⟩ : Str) = ⟨b.toArray⟩) = (a = b) := propext ⟨str_inj, fun h => h ▸ rfl⟩
theorem kvs_stored {h : Heap} {key : Tx} {x : AV} {v : Value} (rv : VRel B h W ρ x v) {es : List (Tx × AV)} {kvs : List (Str × Value)} (r : KVs B h W ρ es kvs) : KVs B h W ρ (dput key x es) (stored kvs ⟨key.toArray⟩ v) := by
  have hany : (kvs.any fun kv => decide (kv.1 = ⟨key.toArray⟩)) = es.any fun kv => decide (kv.1 = key) := by
    clear rv
    induction r with
    | nil => rfl
    | cons _ _ ih => rw [List.any_cons, List.any_cons, ih, decide_eq_decide.mpr (Iff.of_eq str_iff)]
  have hA : KVs B h W ρ (es.map fun kv => if kv.1 = key then (kv.1, x) else kv) (kvs.map fun kv => if kv.1 = ⟨key.toArray⟩ then (kv.1, v) else kv) := by
    clear hany
    induction r with
    | nil => exact .nil
    | @cons k _ _ _ _ r _ ih =>
      rw [List.map_cons, List.map_cons]
      by_cases hk : k = key
      · rw [if_pos hk, if_pos (str_iff.mpr hk)]; exact .cons rv ih
      · rw [if_neg hk, if_neg fun z => hk (str_inj z)]; exact .cons r ih
  have hB : KVs B h W ρ (es ++ [(key, x)]) (kvs ++ [(⟨key.toArray⟩, v)]) := by
    clear hany hA
    induction r with
    | nil => exact .cons rv .nil
    | cons r _ ih => exact .cons r ih
  unfold dput stored
  rw [hany]
  split
  · exact hA
  · exact hB
theorem setIdx_sound (o : Ok B W ρ cs s) {x i z : AV} {v u y : Value} (p : VRel B s.heap W ρ x v) (q : VRel B s.heap W ρ i u) (r : VRel B s.heap W ρ z y) (e : setIdx n x i z cs = some cs') {Q : Unit → Shared → Prop} (hQ : PostU B n W ρ cs s cs' Q) :
    wpAny (model B.prog B.w) A (setItem v u y) Q E s := by
  obtain ⟨j, hx, e⟩ := bind_eq e
  obtain ⟨a, hv, g⟩ := p.ofRef hx
  rw [hv]
  rcases orElse_eq e with ⟨k, hi, e⟩ | e
  · obtain ⟨xs, hc, e⟩ := bind_eq e
    obtain ⟨⟨hp, h0, h1⟩, e⟩ := if_eq e
    obtain ⟨vs, ⟨m, l⟩, bd, rr⟩ := o.mem.listAt hc g
    obtain ⟨t, hu⟩ := q.ofInt hi
    rw [hu]
    refine list_setAt l h0 (Int.lt_trans h1 (lim_63 bd)) (by rw [List.size_toArray, ← rr.length]; exact h1) ?_
    have l2 := IsL.update l (fun xs => xs.setIfInBounds k.toNat y)
    rw [List.setIfInBounds_toArray] at l2
    rw [← sJ e] at hQ
    exact hQ _ _ _ (turn_list (tk := s.toks) o g hc (rr.set _ r) (by rw [List.length_set]; exact bd) ((put_low hp).imp id fun h b hb => belows_set (below_mono (Nat.zero_le _) h) _ hb) ⟨_, l2⟩ (Heap.SameBut.update ..))
  · obtain ⟨k, hi, e⟩ := bind_eq e
    obtain ⟨es, hc, e⟩ := bind_eq e
    obtain ⟨⟨hp, h1⟩, e⟩ := if_eq e
    obtain ⟨kvs, l, rr⟩ := o.mem.dictAt hc g
    obtain ⟨t, hu, _⟩ := q.ofStr hi
    rw [hu]
    rw [← sJ e] at hQ
    refine wpAny_setItem_pairs (strKind_is B.prog B.w _ _) l (fun h' l' hs => ?_) (by rw [kvs_len rr]; exact lim_size (Nat.le_of_lt h1))
    have wa := (o.mem.own a (List.mem_of_getElem? g)).1
    refine hQ _ _ _ (o.setCell g hs ⟨_, l', (kvs_stored r rr).mono (fun b ob e w => (hs.2 b fun z => w (z ▸ wa)).trans e) (fun _ _ w => w) fun _ _ e => e⟩ ((put_low hp).imp id fun h b old ho hold => ?_))
    rw [← sJ ((dictAt_eq hc).symm.trans ho)] at hold
    exact all_dput (below_mono (Nat.zero_le _) h) hold
theorem extendv_sound (o : Ok B W ρ cs s) {x z : AV} {v y : Value} (p : VRel B s.heap W ρ x v) (r : VRel B s.heap W ρ z y) (e : extendv n x z cs = some cs') {Q : Value → Shared → Prop} (hQ : ∀ W' ρ' s', After B n Non W ρ cs s W' ρ' cs' s' → Q v s') :
    wpAny (model B.prog B.w) A (inplaceOp .Add v y) Q E s := by
  obtain ⟨i, hx, e⟩ := bind_eq e
  obtain ⟨xs, hc, e⟩ := bind_eq e
  obtain ⟨ys, hy, e⟩ := bind_eq e
  obtain ⟨hg, e⟩ := if_eq e
  obtain ⟨h1, h2⟩ := aT hg
  have h2 := of_decide_eq_true h2
  obtain ⟨a, hv, g⟩ := p.ofRef hx
  obtain ⟨b, us, hu, ⟨m', l'⟩, bd', r'⟩ := o.mem.listOf r hy
  obtain ⟨vs, ⟨m, l⟩, bd, rr⟩ := o.mem.listAt hc g
  rw [← sJ e, hv] at hQ
  rw [hv, hu]
  refine iadd_list l l' (by rw [List.size_toArray, List.size_toArray, ← rr.length, ← r'.length]; exact lim_size h2) ?_
  have l2 := IsL.update l (fun xs => xs ++ us.toArray)
  rw [List.append_toArray] at l2
  exact hQ _ _ _ (turn_list (tk := s.toks) o g hc (rr.append r') (by rw [List.length_append]; exact h2) ((Bool.or_eq_true_iff.mp h1).imp of_decide_eq_true fun h b hb => by rw [belows_append, hb, belows_mono (Nat.zero_le _) h]; rfl) ⟨_, l2⟩ (Heap.SameBut.update ..))
end
end Ev
namespace Ev
open PySem PySem.W PyProof.Rows PySem.SeqAt
noncomputable def GlobOk (B : Base) (p : Tx × AV) : Prop := ∃ v, (∀ h W ρ, VRel B h W ρ p.2 v) ∧ (B.mg ⟨p.1.toArray⟩ = some v ∨ (B.mg ⟨p.1.toArray⟩ = none ∧ B.mb ⟨p.1.toArray⟩ = some v))
structure Stat (B : Base) : Prop where
  sysm : sysModules < B.h₀.objs.size
  g : B.h₀.Ns mainGlobals B.mg
  b : B.h₀.Ns builtinsNs B.mb
  lim : B.h₀.NoLimit
  k : B.K.In B.h₀
structure EnvOk (B : Base) (cx : Cx) (env : Env) (lay : List Loc) : Prop where
  kind : env.scope.kind = .function
  names : cx.kinds = env.scope.names
  globals : env.globals = mainGlobals
  builtins : env.builtins = builtinsNs
  globs : ∀ p ∈ cx.globs, GlobOk B p
  loc : ∀ (x : Str) (i : Nat), kindOf cx x = some .local → cx.slots.lookup (tx x) = some i → lay[i]? = some (.ns env.locals x)
  cel : ∀ (x : Str) (i : Nat), (kindOf cx x = some .cell ∨ kindOf cx x = some .free) → cx.slots.lookup (tx x) = some i → ∃ c, env.cells.lookup x = some c ∧ lay[i]? = some (.cel c)
theorem str_tx (x : Str) : (⟨(tx x).toArray⟩ : Str) = x := rfl
theorem tx_of {x : Str} {t : Tx} (h : tx x = t) : x = ⟨t.toArray⟩ := h ▸ rfl
section
variable {B : Base} {cx : Cx} {env : Env} {lay : List Loc} {fr : Fr} {n : Nat} {W : Addr → Prop} {ρ : List Addr} {cs cs' : Cells} {s : Shared} {A : Around} {E : Value → Shared → Prop} {Q : Value → Shared → Prop} {M : Model}
theorem Mem.ns {h : Heap} {a : Addr} {m : Str → Option Value} (mm : Mem B W ρ cs h) (x : B.h₀.Ns a m) : h.Ns a m := x.at' fun o e => (mm.base a o e).1
theorem Frm.at (F : Frm B lay fr W ρ s.heap) {i : Nat} {l : Loc} {v : AV} (hl : lay[i]? = some l) (hf : (fr[i]?).join = some v) : LocRel B s.heap W ρ (some v) l := F.rel i _ _ hl (Option.join_eq_some_iff.mp hf)
theorem load_sound (X : EnvOk B cx env lay) (F : Frm B lay fr W ρ s.heap) {x : Str} {i : Nat} {v : AV} (hv : isVar (kindOf cx x) = true) (hc : kindOf cx x = some .free → tx x ≠ classdictTx) (hi : cx.slots.lookup (tx x) = some i) (hf : (fr[i]?).join = some v) (hQ : ∀ u, VRel B s.heap W ρ v u → Q u s) : wpAny M A (loadName env x) Q E s := by
  have hk : env.kindOf x = kindOf cx x := by unfold Env.kindOf kindOf; rw [X.names]
  cases h : kindOf cx x with
  | none => rw [h] at hv; exact fB hv
  | some k =>
    rw [h] at hv hk
    cases k with
    | «local» =>
      obtain ⟨m, hn, y, hy, r⟩ := F.at (X.loc x i h hi) hf
      exact wpAny_loadName_local X.kind hk hn hy (hQ _ r)
    | cell =>
      obtain ⟨c, hc, hl⟩ := X.cel x i (.inl h) hi
      obtain ⟨y, hn, z, hz, r⟩ := F.at hl hf
      exact wpAny_loadName_cell X.kind hk hc (hz ▸ hn) (hQ _ r)
    | free =>
      obtain ⟨c, hcc, hl⟩ := X.cel x i (.inr h) hi
      obtain ⟨y, hn, z, hz, r⟩ := F.at hl hf
      exact wpAny_loadName_free X.kind hk hcc (hz ▸ hn) (hQ _ r) (beq_false_of_ne fun hx => hc h (by rw [hx]; decide +kernel))
    | _ => exact fB hv
theorem nameV_lit {cx : Cx} {x : Str} {v : AV} (e : nameV cx x = .lit v) : (tx x = [95, 95, 100, 101, 98, 117, 103, 95, 95] ∧ v = .bool true) ∨ (tx x ≠ [95, 95, 100, 101, 98, 117, 103, 95, 95] ∧ kindOf cx x = some .globalImplicit ∧ cx.globs.lookup (tx x) = some v) := by
  unfold nameV at e
  by_cases hd : tx x = [95, 95, 100, 101, 98, 117, 103, 95, 95]
  · rw [if_pos hd] at e; exact .inl ⟨hd, (NV.lit.inj e).symm⟩
  · rw [if_neg hd] at e
    by_cases hg : kindOf cx x = some .globalImplicit
    · rw [if_pos hg] at e
      cases hl : cx.globs.lookup (tx x) with
      | none => rw [hl] at e; cases e
      | some u => rw [hl] at e; exact .inr ⟨hd, hg, by rw [NV.lit.inj e]⟩
    · rw [if_neg hg] at e
      split at e
      · cases hl : cx.slots.lookup (tx x) <;> rw [hl] at e <;> cases e
      · cases e
theorem nameV_var {cx : Cx} {x : Str} {i : Nat} (e : nameV cx x = .var i) : tx x ≠ [95, 95, 100, 101, 98, 117, 103, 95, 95] ∧ isVar (kindOf cx x) = true ∧ tx x ≠ classdictTx ∧ cx.slots.lookup (tx x) = some i := by
  unfold nameV at e
  by_cases hd : tx x = [95, 95, 100, 101, 98, 117, 103, 95, 95]
  · rw [if_pos hd] at e; cases e
  · rw [if_neg hd] at e
    by_cases hg : kindOf cx x = some .globalImplicit
    · rw [if_pos hg] at e
      cases hl : cx.globs.lookup (tx x) <;> rw [hl] at e <;> cases e
    · rw [if_neg hg] at e
      by_cases hv : (isVar (kindOf cx x) && tx x != classdictTx) = true
      · rw [if_pos hv] at e
        have hv := aT hv
        cases hl : cx.slots.lookup (tx x) with
        | none => rw [hl] at e; cases e
        | some u => rw [hl] at e; exact ⟨hd, hv.1, bne_iff_ne.mp hv.2, by rw [NV.var.inj e]⟩
      · rw [if_neg hv] at e; cases e
theorem debug_ne {x : Str} (hd : tx x ≠ [95, 95, 100, 101, 98, 117, 103, 95, 95]) : (x == ("__debug__" : Str)) = false := beq_false_of_ne fun h => hd (by rw [h]; decide +kernel)
theorem name_sound (S : Stat B) (o : Ok B W ρ cs s) (X : EnvOk B cx env lay) (F : Frm B lay fr W ρ s.heap) {x : Str} {pos : Pos} {Wd : Wd} {v : AV} (e : eName (nameV cx x) Wd n fr cs = some (v, cs')) (hQ : PostV B n W ρ cs s cs' v Q) :
    wpAny M A (eval (.Name x pos) env) Q E s := by
  cases hn : nameV cx x with
  | no => rw [hn] at e; exact nN e
  | var i =>
    rw [hn] at e
    obtain ⟨u, hu, e⟩ := mapS e
    obtain ⟨h1, h2, h3, h4⟩ := nameV_var hn
    exact wpAny_Name (load_sound X F h2 (fun _ => h3) h4 hu fun w r => hQ.to e _ _ _ _ (After.refl o) r) (debug_ne h1)
  | lit u =>
    rw [hn] at e
    have hQ := hQ.to e
    rcases nameV_lit hn with ⟨hd, hv⟩ | ⟨hd, hg, hl⟩
    · have hx : x = ("__debug__" : Str) := by rw [tx_of hd]; decide +kernel
      rw [hv] at hQ
      rw [hx]
      show wpAny M A (do standAt pos; if (("__debug__" : Str) == ("__debug__" : Str)) = true then debugConstant else loadName env "__debug__") Q E s
      refine wpAny_bind (wpAny_standAt ?_)
      rw [if_pos (beq_self_eq_true _)]
      exact wpAny_bind (wpAny_rule (wpAny_pure (hQ _ _ _ _ (After.refl o) (.bool _))))
    · refine wpAny_Name ?_ (debug_ne hd)
      obtain ⟨vv, hr, hm⟩ := X.globs _ (lookup_mem hl)
      rw [str_tx] at hm
      have hq := hQ _ _ _ _ (After.refl o) (hr s.heap W ρ)
      unfold loadName
      have hk : env.kindOf x = kindOf cx x := by unfold Env.kindOf kindOf; rw [X.names]
      simp only [Env.blockKind, X.kind, hk.trans hg, ScopeKind.isAnnotationScope, Bool.false_and, Bool.false_eq_true, if_false]
      rcases hm with hm | ⟨hm, hm'⟩
      · exact Calls.loadGlobal_global (X.globals ▸ o.mem.ns S.g) hm hq
      · exact Calls.loadGlobal_builtin (X.globals ▸ o.mem.ns S.g) hm (X.builtins ▸ o.mem.ns S.b) hm' hq
noncomputable def LocPut (h h' : Heap) (v : Value) : Loc → Prop
  | .ns L y => ∀ m, h.Ns L m → h'.Ns L (fun z => if z = y then some v else m z)
  | .cel c => h'.IsCell c (some v)
theorem Frm.turn {h h' : Heap} {i : Nat} {l : Loc} {x : AV} {v : Value} (F : Frm B lay fr W ρ h) (hl : lay[i]? = some l) (hs : Heap.SameBut l.addr h h') (hv : LocPut h h' v l)
    (rv : VRel B h W ρ x v) : Frm B lay (fr.set i (some x)) W ρ h' := by
  have hlm : l ∈ lay := List.mem_of_getElem? hl
  have hk : ∀ a o, h.get? a = some o → ¬ W a → h'.get? a = some o := fun a o e w => (hs.2 a fun z => w (z ▸ (F.own l hlm).1)).trans e
  have mono : ∀ {x : AV} {v : Value}, VRel B h W ρ x v → VRel B h' W ρ x v := fun r => r.mono hk (fun _ _ w => w) fun _ _ e => e
  refine ⟨by rw [List.length_set]; exact F.len, fun j l' x' hj hx' => ?_, F.own, F.apart⟩
  rw [List.getElem?_set] at hx'
  by_cases hij : i = j
  · subst hij
    rw [if_pos rfl] at hx'
    split at hx'
    · cases hx'
      rw [hl] at hj; cases hj
      cases l with
      | ns L y =>
        obtain ⟨z, hz, r⟩ := F.relAt hl
        obtain ⟨m, hn, _⟩ := r
        exact ⟨_, hv m hn, v, by simp, mono rv⟩
      | cel c => exact ⟨some v, hv, v, rfl, mono rv⟩
    · exact nN hx'
  · rw [if_neg hij] at hx'
    have r := F.rel j l' x' hj hx'
    have ap := F.apart i j l l' hl hj hij
    have optm : ∀ {y : Option Value}, OptRel B h W ρ x' y → OptRel B h' W ρ x' y := fun r => r.mono hk (fun _ _ w => w) fun _ _ e => e
    cases l' with
    | ns L' y' =>
      obtain ⟨m, hn, ro⟩ := r
      cases l with
      | ns L y =>
        by_cases hL : L = L'
        · subst hL
          refine ⟨_, hv m hn, ?_⟩
          have : y' ≠ y := fun z => ap rfl z.symm
          simp only [if_neg this]; exact optm ro
        · exact ⟨m, hn.sameBut hs fun z => hL z.symm, optm ro⟩
      | cel c => exact ⟨m, hn.sameBut hs ap, optm ro⟩
    | cel c' =>
      obtain ⟨y, hn, ro⟩ := r
      refine ⟨y, hn.sameBut hs ?_, optm ro⟩
      cases l with
      | ns L y => exact fun z => ap z.symm
      | cel c => exact fun z => ap z.symm
noncomputable def locX (lay : List Loc) (i : Nat) : Addr → Prop := fun a => ∃ l, lay[i]? = some l ∧ l.addr = a
theorem store_sound (o : Ok B W ρ cs s) (X : EnvOk B cx env lay) (F : Frm B lay fr W ρ s.heap) {x : Str} {i : Nat} (hi : trSlot cx x = some i) {z : AV} {v : Value} (p : VRel B s.heap W ρ z v) {Q : Unit → Shared → Prop}
    (hQ : ∀ s', After B n (locX lay i) W ρ cs s W ρ cs s' → Frm B lay (fr.set i (some z)) W ρ s'.heap → i < fr.length → Q () s') : wpAny M A (storeName env x v) Q E s := by
  have hk : env.kindOf x = kindOf cx x := by unfold Env.kindOf kindOf; rw [X.names]
  have fin : ∀ (l : Loc) (h' : Heap) (tk : Nat), lay[i]? = some l → Heap.SameBut l.addr s.heap h' → LocPut s.heap h' v l → Q () { s with heap := h', toks := tk } := by
    intro l h' tk hl hs hv
    have hlm : l ∈ lay := List.mem_of_getElem? hl
    have ow := F.own l hlm
    refine hQ _ ((After.refl o).other (fun a => a = l.addr) (Nat.le_of_eq hs.1.symm) (fun a ob e d => (hs.2 a d).trans e) (fun a d _ => d ▸ ow.1) (fun a d _ => ⟨l, hl, d.symm⟩) (fun a m d => ow.2.1 (d ▸ m)) (fun a t d => absurd (o.mem.tabLt t) (Nat.not_lt.mpr (d ▸ ow.2.2))) (fun _ _ => Iff.rfl) fun a w => hs.1 ▸ o.mem.wlt a w)
      (F.turn hl hs hv p) (F.len ▸ (List.getElem?_eq_some_iff.mp hl).1)
  unfold trSlot at hi
  split at hi
  · rename_i h
    rcases h with h | h
    · have hl := X.loc x i h hi
      obtain ⟨y, _, m, hn, _⟩ := F.relAt hl
      refine wpAny_storeName_local (hk.trans h) hn (fun h' hn' hs => fin _ h' _ hl hs fun m' hm' => ?_) (by rw [X.kind]; rfl)
      have : m' = m := by rw [hm'.eq_nsMap, hn.eq_nsMap]
      subst this; exact hn'
    · obtain ⟨c, hc, hl⟩ := X.cel x i (.inl h) hi
      obtain ⟨y, _, u, hn, _⟩ := F.relAt hl
      exact wpAny_storeName_cell X.kind (hk.trans h) hc hn fun h' hn' hs => fin _ h' s.toks hl hs hn'
  · exact nN hi
end
end Ev
namespace Ev
open PySem PySem.W PyProof.Rows PySem.SeqAt
inductive SubSt (B : Base) (h : Heap) (W : Addr → Prop) (ρ : List Addr) (i : Addr) (k : Nat) : List AV → Prop
  | list {a : Addr} {xs : List AV} {vs : List Value} (it : h.IsListIter i a k) (l : h.PlainList a vs.toArray) (w : ¬ W a) (r : VRels B h W ρ xs vs) : SubSt B h W ρ i k xs
  | str {z : Tx} {t : Tok} (it : h.IsStrIter i "str_ascii_iterator" ⟨z.toArray⟩ t k) : SubSt B h W ρ i k (z.map fun c => .str [c])
section
variable {B : Base} {n : Nat} {X W W' : Addr → Prop} {ρ ρ' : List Addr} {cs cs' : Cells} {s : Shared} {A : Around} {E : Value → Shared → Prop} {h h' : Heap} {i : Addr} {k : Nat} {xs ys : List AV}
theorem SubSt.mono (st : SubSt B h W ρ i k xs) (hpr : h'.get? i = h.get? i) (hk : ∀ a o, h.get? a = some o → ¬ W a → h'.get? a = some o) (hW : ∀ a, a < h.objs.size → W' a → W a) (hρ : ∀ (i : Nat) (a : Addr), ρ[i]? = some a → ρ'[i]? = some a) :
    SubSt B h' W' ρ' i k xs := by
  cases st with
  | list it l w r =>
    obtain ⟨m, l⟩ := l
    exact .list (by unfold Heap.IsListIter; rw [hpr]; exact it) ⟨m, hk _ _ l w⟩ (fun z => w (hW _ (Heap.lt_size l) z)) (r.mono hk hW hρ)
  | str it => exact .str (by unfold Heap.IsStrIter; rw [hpr]; exact it)
theorem SubSt.some (st : SubSt B h W ρ i k xs) : ∃ o, h.get? i = Option.some o := by
  cases st with
  | list it => obtain ⟨o, ho, _⟩ := it; exact ⟨o, ho⟩
  | str it => obtain ⟨o, ho, _⟩ := it; exact ⟨o, ho⟩
theorem SubSt.but {b : Addr} (st : SubSt B h W ρ i k xs) (wb : W b) (hib : i ≠ b) (hs : Heap.SameBut b h h') : SubSt B h' W ρ i k xs :=
  st.mono (hs.2 i hib) (fun a o e w => (hs.2 a fun z => w (z ▸ wb)).trans e) (fun _ _ w => w) fun _ _ e => e
theorem nextOf_ascii_item {it : Addr} {x : Str} {t : Tok} {i c : Nat} {Q : Value → Shared → Prop} (hit : s.heap.IsStrIter it "str_ascii_iterator" x t i) (hx : x.cps[i]? = some c)
    (hQ : ∀ h', h'.IsStrIter it "str_ascii_iterator" x t (i + 1) → Heap.SameBut it s.heap h' → Q (.str ⟨#[c]⟩ s.toks) { s with heap := h', toks := s.toks + 1 }) :
    wpAny (model B.prog B.w) A (Builtin.SmallTypes.nextOf (.ref it)) Q E s := by
  obtain ⟨o, ho, hc, hd⟩ := id hit
  unfold Builtin.SmallTypes.nextOf
  refine wpAny_bind (wpAny_callSpecial?_slot (name := Str.ofString "__next__") hit.typeIs F.slot_str_ascii_iterator_next
    (wpAny_call_entry F.slot_str_ascii_iterator_next hit.typeIs F.entry_str_ascii_iterator_next ?_ (F.args_str_ascii_iterator_next_1 _)))
  show wpAny _ _ (field (.ref it) 0 >>= _) _ _ s
  refine wpAny_bind (wpAny_field ho hd (x := .str x t) rfl ?_)
  show wpAny _ _ (field (.ref it) 1 >>= _) _ _ s
  refine wpAny_bind (wpAny_field ho hd (x := .int i 0) rfl ?_)
  simp only [Int.toNat_natCast, hx]
  refine wpAny_bind (wpAny_setField ho hd (by simp) (wpAny_bind (wpAny_mkStr (wpAny_pure ⟨_, rfl, wpAny_pure (hQ _ ?_ (Heap.SameBut.update ..))⟩) (by show 1 ≤ sizeLine; decide))))
  exact ⟨_, Heap.get?_update_self _ ho (Obj.isFreed_of_fields (Obj.data_mapFields hd _)), (Obj.cls_mapFields ..).trans hc, by
    rw [Obj.data_mapFields hd]; simp [rawInt]⟩
theorem nextOf_ascii_end {it : Addr} {x : Str} {t : Tok} {i : Nat} {Q : Value → Shared → Prop} (hh : A.handled = none) (hit : s.heap.IsStrIter it "str_ascii_iterator" x t i) (hx : x.cps[i]? = none)
    (hE : ∀ h' e, Heap.ExtBut it s.heap h' → (∃ o, h'.get? e = some o ∧ o.cls = .type "StopIteration") → E (.ref e) { s with heap := h' }) : wpAny (model B.prog B.w) A (Builtin.SmallTypes.nextOf (.ref it)) Q E s := by
  obtain ⟨o, ho, hc, hd⟩ := id hit
  unfold Builtin.SmallTypes.nextOf
  refine wpAny_bind (wpAny_callSpecial?_slot (name := Str.ofString "__next__") hit.typeIs F.slot_str_ascii_iterator_next
    (wpAny_call_entry F.slot_str_ascii_iterator_next hit.typeIs F.entry_str_ascii_iterator_next ?_ (F.args_str_ascii_iterator_next_1 _)))
  show wpAny _ _ (field (.ref it) 0 >>= _) _ _ s
  refine wpAny_bind (wpAny_field ho hd (x := .str x t) rfl ?_)
  show wpAny _ _ (field (.ref it) 1 >>= _) _ _ s
  refine wpAny_bind (wpAny_field ho hd (x := .int i 0) rfl ?_)
  simp only [Int.toNat_natCast, hx]
  refine wpAny_bind (wpAny_rule (wpAny_bind (wpAny_setField ho hd (by simp) (wpAny_bind (wpAny_letGo ?_)))))
  show wpAny _ _ (newExc (.type "StopIteration") [] >>= _) _ _ _
  refine wpAny_bind ?_
  simp only [newExc, newTuple]
  refine wpAny_bind (wpAny_newObj_type ?_ (by size_fits))
  refine wpAny_bind (m := firstArgMember _ _) (wpAny_of_eq (a := Value.none) (by first | rfl | (simp only [firstArgMember]; rfl)) ?_)
  refine wpAny_newObj_type ?_ (by size_fits)
  simp only [raiseNew]
  refine wpAny_bind (wpAny_handled ?_)
  first | rw [show A.in1.handled = none from hh] | rw [hh]
  refine wpAny_bind (wpAny_pure (wpAny_throw ?_))
  exact hE _ _ (((Heap.SameBut.update ..).extBut.push _).push _) ⟨_, Heap.get?_push_size _ rfl, rfl⟩
theorem draw_item {x : AV} {Q : Value → Shared → Prop} (st : SubSt B s.heap W ρ i k xs) (wi : W i) (hx : xs[k]? = some x)
    (hQ : ∀ v h' tk, VRel B s.heap W ρ x v → SubSt B h' W ρ i (k + 1) xs → Heap.SameBut i s.heap h' → Q v { s with heap := h', toks := tk }) : wpAny (model B.prog B.w) A (Builtin.SmallTypes.nextOf (.ref i)) Q E s := by
  cases st with
  | @list a _ vs it l w r =>
    obtain ⟨v, hv, rv⟩ := r.get hx
    refine wpAny_nextOf_list_item it l.isList (x := v) (by rw [List.getElem?_toArray]; exact hv) fun h' it' hs => ?_
    have hk : ∀ a ob, s.heap.get? a = some ob → ¬ W a → h'.get? a = some ob := fun a ob e w' => hs.extBut a ob (fun z => w' (z ▸ wi)) e
    refine hQ v h' s.toks rv (.list it' ?_ w (r.mono hk (fun _ _ w => w) fun _ _ e => e)) hs
    obtain ⟨m, l⟩ := l
    exact ⟨m, hk _ _ l w⟩
  | @str z t it =>
    rw [List.getElem?_map] at hx
    obtain ⟨c, hc, rfl⟩ := Option.map_eq_some_iff.mp hx
    refine nextOf_ascii_item it (c := c) (by simpa using hc) fun h' it' hs => ?_
    exact hQ _ h' _ (.str [c] _ (by unfold lim; simp)) (.str it') hs
theorem draw_end {Q : Value → Shared → Prop} (hh : A.handled = none) (st : SubSt B s.heap W ρ i k xs) (hx : xs[k]? = none)
    (hE : ∀ h' e, Heap.ExtBut i s.heap h' → (∃ o, h'.get? e = some o ∧ o.cls = .type "StopIteration") → E (.ref e) { s with heap := h' }) : wpAny (model B.prog B.w) A (Builtin.SmallTypes.nextOf (.ref i)) Q E s := by
  cases st with
  | list it l w r =>
    refine wpAny_nextOf_list_end hh it l.isList (by rw [List.getElem?_toArray]; have := r.length; exact List.getElem?_eq_none (by have := List.getElem?_eq_none_iff.mp hx; omega)) hE
  | str it =>
    rw [List.getElem?_map, Option.map_eq_none_iff] at hx
    exact nextOf_ascii_end hh it (by simpa using hx) hE
structure ZSt (B : Base) (h : Heap) (W : Addr → Prop) (ρ : List Addr) (z TI TO i1 i2 : Addr) (k : Nat) (f0 : Value) (xs ys : List AV) : Prop where
  hz : IsZip h z TI TO f0
  ti : IsPair h TI (.ref i1) (.ref i2)
  to : ∃ a b, IsPair h TO a b
  s1 : SubSt B h W ρ i1 k xs
  s2 : SubSt B h W ρ i2 k ys
  nd : [z, TI, TO, i1, i2].Nodup
theorem zip_item {z TI TO i1 i2 : Addr} {x y : AV} {Q : Value → Shared → Prop} (Z : ZSt B s.heap W ρ z TI TO i1 i2 k .none xs ys) (own : ∀ a ∈ [z, TI, TO, i1, i2], W a) (hx : xs[k]? = some x) (hy : ys[k]? = some y)
    (hQ : ∀ u v h' tk, VRel B s.heap W ρ x u → VRel B s.heap W ρ y v → ZSt B h' W ρ z TI TO i1 i2 (k + 1) (rawInt s.heap.objs.size) xs ys → IsPair h' s.heap.objs.size u v → h'.objs.size = s.heap.objs.size + 1 →
      (∀ c o, c ∉ [z, TI, TO, i1, i2] → s.heap.get? c = some o → h'.get? c = some o) → Q (.ref s.heap.objs.size) { s with heap := h', toks := tk }) :
    wpAny (model B.prog B.w) A (Builtin.«zip.__next__» ⟨[.ref z], []⟩) (fun fin s' => ∃ v, fin = .done (.ret v) ∧ Q v s') E s := by
  obtain ⟨hz, hTI, ⟨a, b, hTO⟩, h1, h2, nd⟩ := Z
  have nd' := nd
  simp only [List.nodup_cons, List.mem_cons, List.not_mem_nil, or_false, not_or, List.nodup_nil, not_false_eq_true, and_true] at nd'
  obtain ⟨⟨zTI, zTO, zi1, zi2⟩, ⟨TITO, TIi1, TIi2⟩, ⟨TOi1, TOi2⟩, i12⟩ := nd'
  have wz : W z := own z (by simp)
  have wTO : W TO := own TO (by simp)
  have wi1 : W i1 := own i1 (by simp)
  have wi2 : W i2 := own i2 (by simp)
  show wpAny _ _ (field (.ref z) 2 >>= _) _ _ _
  refine wpAny_bind (wpAny_field hz rfl (x := .bool false) rfl ?_)
  show wpAny _ _ (field (.ref z) 3 >>= _) _ _ _
  refine wpAny_bind (wpAny_field hz rfl (x := .ref TI) rfl ?_)
  refine wpAny_bind (wpAny_seqItems hTI rfl ?_)
  show wpAny _ _ (Builtin.SmallTypes.ownedTupleIsFree (.ref z) >>= _) _ _ _
  refine wpAny_bind ?_
  unfold Builtin.SmallTypes.ownedTupleIsFree
  refine wpAny_bind (wpAny_field hz rfl (x := .none) rfl (wpAny_pure ?_))
  simp only [if_true]
  refine wpAny_bind (wpAny_rule ?_)
  refine wpAny_bind (wpAny_field hz rfl (x := .ref TO) rfl ?_)
  refine wpAny_bind (wpAny_setField_rec hz (by simp) fun h₁ hz₁ hs₁ => ?_)
  replace hz₁ : IsZip h₁ z TI TO .ellipsis := hz₁
  refine wpAny_bind ?_
  simp only [List.zipIdx_cons, List.zipIdx_nil, List.forIn_cons, List.forIn_nil]
  refine wpAny_bind (wpAny_bind (wpAny_onRaise ?_))
  show wpAny _ _ (Builtin.SmallTypes.nextOf (.ref i1) >>= _) _ _ _
  have k₁ : ∀ a o, s.heap.get? a = some o → ¬ W a → h₁.get? a = some o := fun a o e w => hs₁.extBut a o (fun q => w (q ▸ wz)) e
  refine wpAny_bind (draw_item (h1.but wz (fun q => zi1 q.symm) hs₁) wi1 hx fun u h₂ tk₂ ru h1₂ hs₂ => wpAny_pure ?_)
  have hTO₂ : IsPair h₂ TO a b := hs₂.extBut _ _ TOi1 (hs₁.extBut _ _ (fun q => zTO q.symm) hTO)
  refine wpAny_bind (wpAny_seqItems hTO₂ rfl ?_)
  refine wpAny_bind (wpAny_updateSeq_pair hTO₂ fun h₃ hTO₃ hs₃ => ?_)
  replace hTO₃ : IsPair h₃ TO u b := hTO₃
  refine wpAny_bind (wpAny_letGo (wpAny_pure ?_))
  refine wpAny_bind (wpAny_bind (wpAny_onRaise ?_))
  show wpAny _ _ (Builtin.SmallTypes.nextOf (.ref i2) >>= _) _ _ _
  have h2₃ : SubSt B h₃ W ρ i2 k ys := ((h2.but wz (fun q => zi2 q.symm) hs₁).but wi1 (fun q => i12 q.symm) hs₂).but wTO (fun q => TOi2 q.symm) hs₃
  refine wpAny_bind (draw_item (s := { s with heap := h₃, toks := tk₂ }) h2₃ wi2 hy fun v h₄ tk₄ rv h2₄ hs₄ => wpAny_pure ?_)
  have hTO₄ : IsPair h₄ TO u b := hs₄.extBut _ _ TOi2 hTO₃
  refine wpAny_bind (wpAny_seqItems hTO₄ rfl ?_)
  refine wpAny_bind (wpAny_updateSeq_pair hTO₄ fun h₅ hTO₅ hs₅ => ?_)
  replace hTO₅ : IsPair h₅ TO u v := hTO₅
  refine wpAny_bind (wpAny_letGo (wpAny_pure (wpAny_pure ?_)))
  refine wpAny_bind (wpAny_seqItems hTO₅ rfl ?_)
  refine wpAny_bind (wpAny_newTuple ?_)
  have hsz : h₅.objs.size = s.heap.objs.size := by rw [hs₅.1, hs₄.1, hs₃.1, hs₂.1, hs₁.1]
  have hz₅ : IsZip h₅ z TI TO .ellipsis := hs₅.extBut _ _ zTO (hs₄.extBut _ _ zi2 (hs₃.extBut _ _ zTO (hs₂.extBut _ _ zi1 hz₁)))
  have hk₅ : ∀ c o, c ≠ z → c ≠ TO → c ≠ i1 → c ≠ i2 → s.heap.get? c = some o → h₅.get? c = some o := fun c o c1 c2 c3 c4 e =>
    hs₅.extBut _ _ c2 (hs₄.extBut _ _ c4 (hs₃.extBut _ _ c2 (hs₂.extBut _ _ c3 (hs₁.extBut _ _ c1 e))))
  have h1₅ : SubSt B h₅ W ρ i1 (k + 1) xs := ((h1₂.but wTO (fun q => TOi1 q.symm) hs₃).but wi2 i12 hs₄).but wTO (fun q => TOi1 q.symm) hs₅
  have h2₅ : SubSt B h₅ W ρ i2 (k + 1) ys := h2₄.but wTO (fun q => TOi2 q.symm) hs₅
  have hzlt : z < h₅.objs.size := Heap.lt_size hz₅
  show wpAny _ _ (Builtin.SmallTypes.ownedTupleHandOut (.ref z) (.ref h₅.objs.size) >>= _) _ _ _
  refine wpAny_bind ?_
  unfold Builtin.SmallTypes.ownedTupleHandOut
  have hz₆ : IsZip (h₅.push { cls := .type "tuple", data := .seq #[u, v] }) z TI TO .ellipsis := Heap.get?_push_of_some _ hz₅
  refine wpAny_bind (wpAny_setField_rec hz₆ (by simp) fun h₇ hz₇ hs₇ => ?_)
  replace hz₇ : IsZip h₇ z TI TO (rawInt h₅.objs.size) := hz₇
  refine wpAny_setField_rec hz₇ (by simp) fun h₈ hz₈ hs₈ => ?_
  replace hz₈ : IsZip h₈ z TI TO (rawInt h₅.objs.size) := hz₈
  have up : ∀ c o, c ≠ z → h₅.get? c = some o → h₈.get? c = some o := fun c o c1 e => hs₈.extBut _ _ c1 (hs₇.extBut _ _ c1 (Heap.get?_push_of_some _ e))
  have hT₈ : IsPair h₈ h₅.objs.size u v := hs₈.extBut _ _ (Nat.ne_of_gt hzlt) (hs₇.extBut _ _ (Nat.ne_of_gt hzlt) (Heap.get?_push_size _ rfl))
  have hz8 : h₈.objs.size = h₅.objs.size + 1 := by rw [hs₈.1, hs₇.1, Heap.size_push]
  rw [hsz] at hz₈ hT₈ hz8
  refine wpAny_pure ⟨_, rfl, ?_⟩
  show Q (.ref h₅.objs.size) _
  rw [hsz]
  have kw : ∀ c o, h₅.get? c = some o → ¬ W c → h₈.get? c = some o := fun c o e w => up c o (fun q => w (q ▸ wz)) e
  have eqAt : ∀ c, c ≠ z → (∃ o, h₅.get? c = some o) → h₈.get? c = h₅.get? c := fun c c1 ⟨o, e⟩ => (up c o c1 e).trans e.symm
  have back : ∀ {x : AV} {v : Value}, VRel B h₁ W ρ x v → ∀ (e : ∀ a o, h₁.get? a = some o → ¬ W a → s.heap.get? a = some o), VRel B s.heap W ρ x v := fun r e => r.mono e (fun _ _ w => w) fun _ _ e => e
  have ru' : VRel B s.heap W ρ x u := ru.mono (fun c o e w => (hs₁.2 c (fun q => w (q ▸ wz))).symm.trans e) (fun _ _ w => w) fun _ _ e => e
  have rv' : VRel B s.heap W ρ y v := rv.mono (fun c o e w => (hs₁.2 c (fun q => w (q ▸ wz))).symm.trans ((hs₂.2 c (fun q => w (q ▸ wi1))).symm.trans ((hs₃.2 c (fun q => w (q ▸ wTO))).symm.trans e))) (fun _ _ w => w) fun _ _ e => e
  refine hQ u v h₈ tk₄ ru' rv' ⟨hz₈, up _ _ (fun q => zTI q.symm) (hk₅ _ _ (fun q => zTI q.symm) TITO TIi1 TIi2 hTI), ⟨_, _, up _ _ (fun q => zTO q.symm) hTO₅⟩, h1₅.mono (eqAt _ (fun q => zi1 q.symm) h1₅.some) kw (fun _ _ w => w) (fun _ _ e => e), h2₅.mono (eqAt _ (fun q => zi2 q.symm) h2₅.some) kw (fun _ _ w => w) (fun _ _ e => e), nd⟩ hT₈ hz8 fun c o hc e => ?_
  simp only [List.mem_cons, List.not_mem_nil, or_false, not_or] at hc
  exact up c o hc.1 (hk₅ c o hc.1 hc.2.2.1 hc.2.2.2.1 hc.2.2.2.2 e)
theorem zip_end {z TI TO i1 i2 : Addr} {Q : Fin → Shared → Prop} (hh : A.handled = none) (Z : ZSt B s.heap W ρ z TI TO i1 i2 k .none xs ys) (own : ∀ a ∈ [z, TI, TO, i1, i2], W a) (hend : xs[k]? = none ∨ ys[k]? = none)
    (hE : ∀ h' e tk, (∀ c o, c ∉ [z, TI, TO, i1, i2] → s.heap.get? c = some o → h'.get? c = some o) → (∃ o, h'.get? e = some o ∧ o.cls = .type "StopIteration") → E (.ref e) { s with heap := h', toks := tk }) :
    wpAny (model B.prog B.w) A (Builtin.«zip.__next__» ⟨[.ref z], []⟩) Q E s := by
  obtain ⟨hz, hTI, ⟨a, b, hTO⟩, h1, h2, nd⟩ := Z
  have nd' := nd
  simp only [List.nodup_cons, List.mem_cons, List.not_mem_nil, or_false, not_or, List.nodup_nil, not_false_eq_true, and_true] at nd'
  obtain ⟨⟨zTI, zTO, zi1, zi2⟩, ⟨TITO, TIi1, TIi2⟩, ⟨TOi1, TOi2⟩, i12⟩ := nd'
  have wz : W z := own z (by simp)
  have wTO : W TO := own TO (by simp)
  have wi1 : W i1 := own i1 (by simp)
  have wi2 : W i2 := own i2 (by simp)
  show wpAny _ _ (field (.ref z) 2 >>= _) _ _ _
  refine wpAny_bind (wpAny_field hz rfl (x := .bool false) rfl ?_)
  show wpAny _ _ (field (.ref z) 3 >>= _) _ _ _
  refine wpAny_bind (wpAny_field hz rfl (x := .ref TI) rfl ?_)
  refine wpAny_bind (wpAny_seqItems hTI rfl ?_)
  show wpAny _ _ (Builtin.SmallTypes.ownedTupleIsFree (.ref z) >>= _) _ _ _
  refine wpAny_bind ?_
  unfold Builtin.SmallTypes.ownedTupleIsFree
  refine wpAny_bind (wpAny_field hz rfl (x := .none) rfl (wpAny_pure ?_))
  simp only [if_true]
  refine wpAny_bind (wpAny_rule ?_)
  refine wpAny_bind (wpAny_field hz rfl (x := .ref TO) rfl ?_)
  refine wpAny_bind (wpAny_setField_rec hz (by simp) fun h₁ hz₁ hs₁ => ?_)
  replace hz₁ : IsZip h₁ z TI TO .ellipsis := hz₁
  refine wpAny_bind ?_
  simp only [List.zipIdx_cons, List.zipIdx_nil, List.forIn_cons, List.forIn_nil]
  refine wpAny_bind (wpAny_bind (wpAny_onRaise ?_))
  show wpAny _ _ (Builtin.SmallTypes.nextOf (.ref i1) >>= _) _ _ _
  have h1' := h1.but wz (fun q => zi1 q.symm) hs₁
  cases hx : xs[k]? with
  | none =>
    refine wpAny_bind (draw_end hh h1' hx fun h₂ e hs₂ he => ?_)
    obtain ⟨oe, hoe, hce⟩ := he
    have hz₂ : IsZip h₂ z TI TO .ellipsis := hs₂ _ _ zi1 hz₁
    have hez : e ≠ z := fun x => by subst x; rw [hz₂] at hoe; cases hoe; simp at hce
    refine wpAny_setField_rec hz₂ (by simp) fun h₃ _ hs₃ => hE h₃ e s.toks (fun c o hc x => ?_) ⟨oe, hs₃.extBut _ _ hez hoe, hce⟩
    simp only [List.mem_cons, List.not_mem_nil, or_false, not_or] at hc
    exact hs₃.extBut _ _ hc.1 (hs₂ _ _ hc.2.2.2.1 (hs₁.extBut _ _ hc.1 x))
  | some x =>
    have hy : ys[k]? = none := by rcases hend with h | h; rw [hx] at h; exact sN h; exact h
    refine wpAny_bind (draw_item h1' wi1 hx fun u h₂ tk₂ ru h1₂ hs₂ => wpAny_pure ?_)
    have hTO₂ : IsPair h₂ TO a b := hs₂.extBut _ _ TOi1 (hs₁.extBut _ _ (fun q => zTO q.symm) hTO)
    refine wpAny_bind (wpAny_seqItems hTO₂ rfl ?_)
    refine wpAny_bind (wpAny_updateSeq_pair hTO₂ fun h₃ hTO₃ hs₃ => ?_)
    refine wpAny_bind (wpAny_letGo (wpAny_pure ?_))
    refine wpAny_bind (wpAny_bind (wpAny_onRaise ?_))
    show wpAny _ _ (Builtin.SmallTypes.nextOf (.ref i2) >>= _) _ _ _
    have h2₃ : SubSt B h₃ W ρ i2 k ys := ((h2.but wz (fun q => zi2 q.symm) hs₁).but wi1 (fun q => i12 q.symm) hs₂).but wTO (fun q => TOi2 q.symm) hs₃
    refine wpAny_bind (draw_end (s := { s with heap := h₃, toks := tk₂ }) hh h2₃ hy fun h₄ e hs₄ he => ?_)
    obtain ⟨oe, hoe, hce⟩ := he
    have hz₄ : IsZip h₄ z TI TO .ellipsis := hs₄ _ _ zi2 (hs₃.extBut _ _ zTO (hs₂.extBut _ _ zi1 hz₁))
    have hez : e ≠ z := fun x => by subst x; rw [hz₄] at hoe; cases hoe; simp at hce
    refine wpAny_setField_rec hz₄ (by simp) fun h₅ _ hs₅ => hE h₅ e tk₂ (fun c o hc x => ?_) ⟨oe, hs₅.extBut _ _ hez hoe, hce⟩
    simp only [List.mem_cons, List.not_mem_nil, or_false, not_or] at hc
    exact hs₅.extBut _ _ hc.1 (hs₄ _ _ hc.2.2.2.2 (hs₃.extBut _ _ hc.2.2.1 (hs₂.extBut _ _ hc.2.2.2.1 (hs₁.extBut _ _ hc.1 x))))
theorem ZSt.mono {z TI TO i1 i2 : Addr} {f0 : Value} (Z : ZSt B h W ρ z TI TO i1 i2 k f0 xs ys) (hpr : ∀ a ∈ [z, TI, TO, i1, i2], h'.get? a = h.get? a) (hk : ∀ a o, h.get? a = some o → ¬ W a → h'.get? a = some o) (hW : ∀ a, a < h.objs.size → W' a → W a)
    (hρ : ∀ (i : Nat) (a : Addr), ρ[i]? = some a → ρ'[i]? = some a) : ZSt B h' W' ρ' z TI TO i1 i2 k f0 xs ys := by
  obtain ⟨hz, hTI, ⟨a, b, hTO⟩, h1, h2, nd⟩ := Z
  exact ⟨(hpr z (by simp)).trans hz, (hpr TI (by simp)).trans hTI, ⟨a, b, (hpr TO (by simp)).trans hTO⟩, h1.mono (hpr i1 (by simp)) hk hW hρ, h2.mono (hpr i2 (by simp)) hk hW hρ, nd⟩
inductive Src (B : Base) (h : Heap) (W : Addr → Prop) (ρ : List Addr) : Value → List AV → Obj → Prop
  | list {a : Addr} {xs : List AV} {vs : List Value} (l : h.PlainList a vs.toArray) (w : ¬ W a) (r : VRels B h W ρ xs vs) : Src B h W ρ (.ref a) xs { cls := .type "list_iterator", data := .fields #[.ref a, .int 0 0] }
  | str {z : Tx} (t : Tok) (ha : ascii z = true) : Src B h W ρ (.str ⟨z.toArray⟩ t) (z.map fun c => .str [c]) { cls := .type "str_ascii_iterator", data := .fields #[.str ⟨z.toArray⟩ t, .int 0 0] }
theorem Src.iter {prog : Program} {w : PySem.World} {v : Value} {o : Obj} (S : Src B s.heap W ρ v xs o) {Q : Value → Shared → Prop} (hQ : Q (.ref s.heap.objs.size) { s with heap := s.heap.push o }) : wpAny (model prog w) A (pyIter v) Q E s := by
  cases S with
  | list l => exact wpAny_pyIter_list l.isList hQ
  | str t ha => exact wpAny_pyIter_ascii (by simpa [ascii] using ha) hQ
theorem Src.push {v : Value} {o : Obj} (S : Src B h W ρ v xs o) (hw : ∀ a, W a → a < h.objs.size) (ob : Obj) : Src B (h.push ob) W ρ v xs o := by
  cases S with
  | list l w r =>
    obtain ⟨m, l⟩ := l
    exact .list ⟨m, Heap.get?_push_of_some _ l⟩ w (r.mono (fun a o e _ => Heap.get?_push_of_some _ e) (fun _ _ w => w) fun _ _ e => e)
  | str t ha => exact .str t ha
theorem Src.sub {v : Value} {o : Obj} (S : Src B h W ρ v xs o) {W₁ : Addr → Prop} (hk : ∀ a o, h.get? a = some o → h'.get? a = some o) (hW : ∀ a, a < h.objs.size → W₁ a → W a) {i : Addr} (ho : h'.get? i = some o) : SubSt B h' W₁ ρ i 0 xs := by
  cases S with
  | list l w r =>
    obtain ⟨m, l⟩ := l
    exact .list ⟨_, ho, rfl, rfl⟩ ⟨m, hk _ _ l⟩ (fun q => w (hW _ (Heap.lt_size l) q)) (r.mono (fun a o e _ => hk a o e) hW fun _ _ e => e)
  | str t ha => exact .str ⟨_, ho, rfl, rfl⟩
noncomputable abbrev zH1 (h : Heap) (o1 : Obj) : Heap := h.push o1
noncomputable abbrev zH2 (h : Heap) (o1 o2 : Obj) : Heap := (zH1 h o1).push o2
noncomputable abbrev zH3 (h : Heap) (o1 o2 : Obj) : Heap := (zH2 h o1 o2).push { cls := .type "tuple", data := .seq #[.ref h.objs.size, .ref (zH1 h o1).objs.size] }
noncomputable abbrev zH4 (h : Heap) (o1 o2 : Obj) : Heap := (zH3 h o1 o2).push { cls := .type "tuple", data := .seq #[.none, .none] }
noncomputable abbrev zH5 (h : Heap) (o1 o2 : Obj) : Heap := (zH4 h o1 o2).push { cls := .type "zip", data := .fields #[.none, .bool false, .bool false, .ref (zH2 h o1 o2).objs.size, .ref (zH3 h o1 o2).objs.size] }
theorem meets_zip (v1 v2 : Value) (o1 o2 : Obj) (s₀ : Shared) (h1 : ∀ (prog : Program) (w : PySem.World) (A : Around) (E Q : Value → Shared → Prop), Q (.ref s₀.heap.objs.size) { s₀ with heap := s₀.heap.push o1 } → wpAny (model prog w) A (pyIter v1) Q E s₀)
    (h2 : ∀ (prog : Program) (w : PySem.World) (A : Around) (E Q : Value → Shared → Prop), Q (.ref (zH1 s₀.heap o1).objs.size) { s₀ with heap := zH2 s₀.heap o1 o2 } → wpAny (model prog w) A (pyIter v2) Q E { s₀ with heap := zH1 s₀.heap o1 }) :
    Meets (Builtin.«zip.__new__» ⟨[.type "zip", v1, v2], []⟩) (fun _ R s => s = s₀ ∧ R (.ok (.ret (.ref (zH4 s₀.heap o1 o2).objs.size))) { s₀ with heap := zH5 s₀.heap o1 o2 }) :=
  .of_wp fun prog w A R s h => by
    obtain ⟨rfl, h⟩ := h
    obtain ⟨hp, g, d, tk, os⟩ := s
    have hsub := PySem.sub_zip
    have k1 : ∀ (E Q : Value → Shared → Prop), Q (.ref hp.objs.size) ⟨hp.push o1, g, d, tk, os⟩ → wpAny (model prog w) A.in1 (pyIter v1) Q E ⟨hp, g, d, tk, os⟩ := h1 prog w A.in1
    have k2 : ∀ (E Q : Value → Shared → Prop), Q (.ref (hp.push o1).objs.size) ⟨(hp.push o1).push o2, g, d, tk, os⟩ → wpAny (model prog w) A.in1 (pyIter v2) Q E ⟨hp.push o1, g, d, tk, os⟩ := h2 prog w A.in1
    clear h1 h2
    wp_walk using k1, k2
    exact ⟨_, rfl, h⟩
theorem zip_make {n : Nat} {v1 v2 : Value} {o1 o2 : Obj} (o : Ok B W ρ cs s) (S1 : Src B s.heap W ρ v1 xs o1) (S2 : Src B s.heap W ρ v2 ys o2) {Q : Value → Shared → Prop}
    (hQ : ∀ z TI TO i1 i2 W' s', After B n Non W ρ cs s W' ρ cs s' → ZSt B s'.heap W' ρ z TI TO i1 i2 0 .none xs ys → (∀ a ∈ [z, TI, TO, i1, i2], W' a ∧ a ∉ ρ ∧ B.h₀.objs.size ≤ a) → (∀ a ∈ [z, TI, TO, i1, i2], s.heap.objs.size ≤ a) → Q (.ref z) s') :
    wpAny (model B.prog B.w) A (call (.type "zip") [v1, v2]) Q E s := by
  refine callType_new F.called_zip (by decide) (F.typeCall_zip_2 _ _) (F.newCall_zip_2 _ _) (fun obj => F.args_object_init_3 obj _ _) F.entry_zip_new
    (meets_zip v1 v2 o1 o2 s (fun prog w A E Q hq => S1.iter hq) (fun prog w A E Q hq => (S2.push o.mem.wlt o1).iter (s := { s with heap := zH1 s.heap o1 }) hq)) ⟨rfl, ?_⟩
  have z1 : (zH1 s.heap o1).objs.size = s.heap.objs.size + 1 := Heap.size_push ..
  have z2 : (zH2 s.heap o1 o2).objs.size = s.heap.objs.size + 2 := by rw [Heap.size_push, z1]
  have z3 : (zH3 s.heap o1 o2).objs.size = s.heap.objs.size + 3 := by rw [Heap.size_push, z2]
  have z4 : (zH4 s.heap o1 o2).objs.size = s.heap.objs.size + 4 := by rw [Heap.size_push, z3]
  have z5 : (zH5 s.heap o1 o2).objs.size = s.heap.objs.size + 5 := by rw [Heap.size_push, z4]
  have up1 : ∀ {c : Addr} {x : Obj}, s.heap.get? c = some x → (zH5 s.heap o1 o2).get? c = some x := fun e => Heap.get?_push_of_some _ (Heap.get?_push_of_some _ (Heap.get?_push_of_some _ (Heap.get?_push_of_some _ (Heap.get?_push_of_some _ e))))
  have f1 : o1.isFreed = false := by cases S1 <;> rfl
  have f2 : o2.isFreed = false := by cases S2 <;> rfl
  have g5 : (zH5 s.heap o1 o2).get? (zH4 s.heap o1 o2).objs.size = some _ := Heap.get?_push_size _ rfl
  have g4 : (zH5 s.heap o1 o2).get? (zH3 s.heap o1 o2).objs.size = some _ := Heap.get?_push_of_some _ (Heap.get?_push_size _ rfl)
  have g3 : (zH5 s.heap o1 o2).get? (zH2 s.heap o1 o2).objs.size = some _ := Heap.get?_push_of_some _ (Heap.get?_push_of_some _ (Heap.get?_push_size _ rfl))
  have g2 : (zH5 s.heap o1 o2).get? (zH1 s.heap o1).objs.size = some o2 := Heap.get?_push_of_some _ (Heap.get?_push_of_some _ (Heap.get?_push_of_some _ (Heap.get?_push_size _ f2)))
  have g1 : (zH5 s.heap o1 o2).get? s.heap.objs.size = some o1 := Heap.get?_push_of_some _ (Heap.get?_push_of_some _ (Heap.get?_push_of_some _ (Heap.get?_push_of_some _ (Heap.get?_push_size _ f1))))
  rw [z2, z3, z4] at g5
  rw [z1, z2] at g3
  rw [z3] at g4
  rw [z1] at g2
  rw [z4]
  refine ⟨⟨_, g5, rfl⟩, ?_⟩
  have hle : s.heap.objs.size ≤ (zH5 s.heap o1 o2).objs.size := by rw [z5]; omega
  have base := o.mem.size
  let W' : Addr → Prop := fun a => W a ∨ (s.heap.objs.size ≤ a ∧ a < s.heap.objs.size + 5)
  have af : After B n Non W ρ cs s W' ρ cs { s with heap := zH5 s.heap o1 o2 } :=
    (After.refl o).other (tk := s.toks) (fun _ => False) hle (fun a ob e _ => up1 e) (fun _ x => x.elim) (fun _ x => x.elim) (fun _ _ x => x) (fun _ _ x => x) (fun a l => ⟨fun w => w.elim id fun q => absurd q.1 (Nat.not_le.mpr l), .inl⟩)
      fun a w => w.elim (fun w => Nat.lt_of_lt_of_le (o.mem.wlt a w) hle) fun q => by rw [z5]; exact q.2
  have hW : ∀ a, a < s.heap.objs.size → W' a → W a := fun a l w => w.elim id fun q => absurd q.1 (Nat.not_le.mpr l)
  have hbs : ∀ a ∈ [s.heap.objs.size + 4, s.heap.objs.size + 2, s.heap.objs.size + 3, s.heap.objs.size, s.heap.objs.size + 1], s.heap.objs.size ≤ a ∧ a < s.heap.objs.size + 5 := by
    intro a ha
    simp only [List.mem_cons, List.not_mem_nil, or_false] at ha
    rcases ha with rfl | rfl | rfl | rfl | rfl <;> exact ⟨by simp, by simp⟩
  refine hQ (s.heap.objs.size + 4) (s.heap.objs.size + 2) (s.heap.objs.size + 3) s.heap.objs.size (s.heap.objs.size + 1) W' _ af ⟨g5, g3, ⟨_, _, g4⟩, S1.sub (fun _ _ e => up1 e) hW g1, S2.sub (fun _ _ e => up1 e) hW g2, by simp⟩ (fun a ha => ?_) (fun a ha => (hbs a ha).1)
  have hb := hbs a ha
  exact ⟨.inr hb, fun m => absurd (o.mem.wlt a (o.mem.own a m).1) (Nat.not_lt.mpr hb.1), Nat.le_trans base hb.1⟩
end
end Ev
namespace Ev
open PySem PySem.W PyProof.Rows PySem.SeqAt
inductive ISt (B : Base) (h : Heap) (W : Addr → Prop) (ρ : List Addr) (I : Addr) : It → Nat → List Addr → Prop
  | list {a : Addr} {xs : List AV} {vs : List Value} {k : Nat} (it : h.IsListIter I a k) (l : h.PlainList a vs.toArray) (w : ¬ W a) (r : VRels B h W ρ xs vs) : ISt B h W ρ I (.items xs) k [I]
  | cell {i : Nat} {a : Addr} {k : Nat} (it : h.IsListIter I a k) (g : ρ[i]? = some a) : ISt B h W ρ I (.cell i) k [I]
  | tuple {a : Addr} {xs : List AV} {vs : List Value} {k : Nat} (it : h.IsTupleIter I a k) (l : PTup h a vs.toArray) (w : ¬ W a) (r : VRels B h W ρ xs vs) : ISt B h W ρ I (.items xs) k [I]
  | str {z : Tx} {t : Tok} {k : Nat} (it : h.IsStrIter I "str_ascii_iterator" ⟨z.toArray⟩ t k) : ISt B h W ρ I (.items (z.map fun c => .str [c])) k [I]
  | range {a c : Int} {n k : Nat} (it : IsRangeIter h I (a + (k : Nat) * c) ((n : Int) - (k : Nat)) c) (hk : k ≤ n) : ISt B h W ρ I (.items (rangeL a c n)) k [I]
  | zip {TI TO i1 i2 : Addr} {xs ys : List AV} {k : Nat} (Z : ZSt B h W ρ I TI TO i1 i2 k .none xs ys) : ISt B h W ρ I (.items (zipL xs ys)) k [I, TI, TO, i1, i2]
structure IterAt (B : Base) (h : Heap) (W : Addr → Prop) (ρ : List Addr) (I : Addr) (it : It) (k : Nat) (pr : List Addr) : Prop where
  st : ISt B h W ρ I it k pr
  priv : ∀ a ∈ pr, W a ∧ a ∉ ρ ∧ B.h₀.objs.size ≤ a
noncomputable def itemAt (cs : Cells) : It → Nat → Option (Option AV)
  | .items xs, k => some xs[k]?
  | .cell i, k => (listAt cs i).map fun xs => xs[k]?
theorem VRels.getNone {B : Base} {h : Heap} {W : Addr → Prop} {ρ : List Addr} {xs : List AV} {vs : List Value} {k : Nat} (r : VRels B h W ρ xs vs) (e : xs[k]? = none) : vs[k]? = none := List.getElem?_eq_none (r.length ▸ List.getElem?_eq_none_iff.mp e)
theorem zipL_get : ∀ (xs ys : List AV) (k : Nat), (zipL xs ys)[k]? = match xs[k]?, ys[k]? with | some x, some y => some (.tup [x, y]) | _, _ => none
  | [], ys, k => by simp [zipL]
  | x :: xs, [], k => by simp [zipL]
  | x :: xs, y :: ys, 0 => by simp [zipL]
  | x :: xs, y :: ys, k + 1 => by simp only [zipL, List.getElem?_cons_succ]; exact zipL_get xs ys k
theorem rangeL_get (a c : Int) : ∀ (n k : Nat), k < n → (rangeL a c n)[k]? = some (.int (a + (k : Nat) * c))
  | 0, _, h => absurd h (Nat.not_lt_zero _)
  | n + 1, 0, _ => by simp [rangeL]
  | n + 1, k + 1, h => by
    simp only [rangeL, List.getElem?_cons_succ]
    rw [rangeL_get (a + c) c n k (Nat.lt_of_succ_lt_succ h)]
    congr 2
    push_cast
    rw [Int.add_mul, Int.one_mul]; omega
theorem rangeL_len (a c : Int) : ∀ n : Nat, (rangeL a c n).length = n
  | 0 => rfl
  | n + 1 => by simp [rangeL, rangeL_len (a + c) c n]
section
variable {B : Base} {n : Nat} {X W W' : Addr → Prop} {ρ ρ' : List Addr} {cs cs' : Cells} {s : Shared} {A : Around} {E : Value → Shared → Prop} {h h' : Heap} {I : Addr} {it : It} {k : Nat} {pr : List Addr}
theorem ISt.mono (st : ISt B h W ρ I it k pr) (hpr : ∀ a ∈ pr, h'.get? a = h.get? a) (hk : ∀ a o, h.get? a = some o → ¬ W a → h'.get? a = some o) (hW : ∀ a, a < h.objs.size → W' a → W a) (hρ : ∀ (i : Nat) (a : Addr), ρ[i]? = some a → ρ'[i]? = some a) :
    ISt B h' W' ρ' I it k pr := by
  cases st with
  | list it l w r =>
    obtain ⟨m, l⟩ := l
    exact .list (by unfold Heap.IsListIter; rw [hpr I (by simp)]; exact it) ⟨m, hk _ _ l w⟩ (fun z => w (hW _ (Heap.lt_size l) z)) (r.mono hk hW hρ)
  | cell it g => exact .cell (by unfold Heap.IsListIter; rw [hpr I (by simp)]; exact it) (hρ _ _ g)
  | tuple it l w r =>
    obtain ⟨m, l⟩ := l
    exact .tuple (by unfold Heap.IsTupleIter; rw [hpr I (by simp)]; exact it) ⟨m, hk _ _ l w⟩ (fun z => w (hW _ (Heap.lt_size l) z)) (r.mono hk hW hρ)
  | str it => exact .str (by unfold Heap.IsStrIter; rw [hpr I (by simp)]; exact it)
  | range it hkn => exact .range ((hpr I (by simp)).trans it) hkn
  | zip Z => exact .zip (Z.mono hpr hk hW hρ)
theorem ISt.priv_some (st : ISt B h W ρ I it k pr) : ∀ a ∈ pr, ∃ o, h.get? a = some o := by
  cases st with
  | list it => intro a ha; simp at ha; subst ha; obtain ⟨o, ho, _⟩ := it; exact ⟨o, ho⟩
  | cell it => intro a ha; simp at ha; subst ha; obtain ⟨o, ho, _⟩ := it; exact ⟨o, ho⟩
  | tuple it => intro a ha; simp at ha; subst ha; obtain ⟨o, ho, _⟩ := it; exact ⟨o, ho⟩
  | str it => intro a ha; simp at ha; subst ha; obtain ⟨o, ho, _⟩ := it; exact ⟨o, ho⟩
  | range it => intro a ha; simp at ha; subst ha; exact ⟨_, it⟩
  | zip Z =>
    intro a ha
    simp only [List.mem_cons, List.not_mem_nil, or_false] at ha
    rcases ha with rfl | rfl | rfl | rfl | rfl
    · exact ⟨_, Z.hz⟩
    · exact ⟨_, Z.ti⟩
    · obtain ⟨_, _, e⟩ := Z.to; exact ⟨_, e⟩
    · exact Z.s1.some
    · exact Z.s2.some
theorem IterAt.step (a : IterAt B h W ρ I it k pr) (m : Mem B W ρ cs h) (st : Step B X ρ W h ρ' W' h') (hX : ∀ x ∈ pr, ¬ X x) (hXW : ∀ x, X x → W x) : IterAt B h' W' ρ' I it k pr := by
  have lt : ∀ x ∈ pr, x < h.objs.size := fun x hx => m.wlt x (a.priv x hx).1
  refine ⟨a.st.mono (fun x hx => ?_) (st.keptW m hXW) (fun x l w => (st.wiff x l).mp w) st.pre, fun x hx => ⟨(st.wiff x (lt x hx)).mpr (a.priv x hx).1, fun z => (st.fresh x z).elim (a.priv x hx).2.1 fun q => absurd (lt x hx) (Nat.not_lt.mpr q), (a.priv x hx).2.2⟩⟩
  obtain ⟨o, ho⟩ := a.st.priv_some x hx
  rw [ho]
  exact st.kept x o ho (a.priv x hx).2.1 (fun t => absurd (m.tabLt t) (Nat.not_lt.mpr (a.priv x hx).2.2)) (hX x hx)
noncomputable def plainIters : List String := ["list_iterator", "tuple_iterator", "str_ascii_iterator", "range_iterator"]
theorem noOwn : ∀ T ∈ plainIters, (["enumerate", "zip", "dict_itemiterator", "dict_reverseitemiterator", "odict_iterator", "itertools.zip_longest", "itertools.pairwise"].contains T) = false := by decide
theorem go_plain {tgt : Expr} {v : Value} {o : Obj} {T : String} {Q : Unit → Shared → Prop} {M : Model} (ho : s.heap.get? I = some o) (hc : o.cls = .type T) (hT : T ∈ plainIters) (h : Q () s) : wpAny M A (letOwnedTupleGo tgt (.ref I) v) Q E s := by
  have tup : ∀ {es : List Expr} {c : Nat} {p : Pos}, wpAny M A (letOwnedTupleGo (.Tuple es c p) (.ref I) v) Q E s := by
    intro es c p
    cases v with
    | ref a =>
      refine wpAny_bind (wpAny_load ho ?_)
      obtain ⟨cl, di, da, sl⟩ := o
      obtain rfl : cl = .type T := hc
      cases da with
      | fields vs =>
        show wpAny M A (if (["enumerate", "zip", "dict_itemiterator", "dict_reverseitemiterator", "odict_iterator", "itertools.zip_longest", "itertools.pairwise"].contains T && vs[0]? == some (rawInt a)) = true then _ else _) Q E s
        rw [noOwn T hT, Bool.false_and, if_neg Bool.false_ne_true]
        exact wpAny_pure h
      | _ => exact wpAny_pure h
    | _ => exact wpAny_pure h
  cases tgt with
  | Tuple es c p => exact tup
  | List es p => exact tup (es := es) (c := 0) (p := p)
  | _ => exact wpAny_pure h
theorem After.turn (o : Ok B W ρ cs s) (hp : W I ∧ I ∉ ρ ∧ B.h₀.objs.size ≤ I) {h' : Heap} {tk : Nat} (he : Heap.ExtBut I s.heap h') (hsz : s.heap.objs.size ≤ h'.objs.size) : After B n (fun a => a = I) W ρ cs s W ρ cs { s with heap := h', toks := tk } :=
  (After.refl o).other (fun a => a = I) hsz (fun a ob e d => he a ob d e) (fun a d _ => d ▸ hp.1) (fun a d _ => d) (fun a m d => hp.2.1 (d ▸ m)) (fun a t d => absurd (o.mem.tabLt t) (Nat.not_lt.mpr (d ▸ hp.2.2))) (fun _ _ => Iff.rfl) fun a w => Nat.lt_of_lt_of_le (o.mem.wlt a w) hsz
theorem next_plain (hh : A.handled = none) (o : Ok B W ρ cs s) (a : IterAt B s.heap W ρ I it k pr) {Q : Option Value → Shared → Prop} {y : Option AV} (hy : itemAt cs it k = some y) (ht : pr.length = 1)
    (hnone : y = none → ∀ s', After B n (· ∈ pr) W ρ cs s W ρ cs s' → Q none s')
    (hsome : ∀ x, y = some x → ∀ v W' s', After B n (· ∈ pr) W ρ cs s W' ρ cs s' → VRel B s'.heap W' ρ x v → IterAt B s'.heap W' ρ I it (k + 1) pr → Q (some v) s') :
    wpAny (model B.prog B.w) A (pyNext (.ref I)) Q E s := by
  obtain ⟨st, priv⟩ := a
  have pI := priv
  have one : ∀ {s' : Shared} {W'' : Addr → Prop}, After B n (fun a => a = I) W ρ cs s W'' ρ cs s' → pr = [I] → After B n (· ∈ pr) W ρ cs s W'' ρ cs s' := fun a e => a.weaken fun x _ hx => by rw [e]; simp [hx]
  cases st with
  | @list al xs vs k it l w r =>
    have pI := priv I (by simp)
    have ne : al ≠ I := fun z => w (z ▸ pI.1)
    cases hx : xs[k]? with
    | none =>
      have : y = none := by simp only [itemAt, hx, Option.some.injEq] at hy; exact hy.symm
      refine with_size (wpAny_pyNext_list_end hh it l.isList (by rw [List.getElem?_toArray]; exact r.getNone hx) fun h' he hsz => ?_)
      exact hnone this _ (one (After.turn (tk := s.toks) o pI he hsz) rfl)
    | some x =>
      have : y = some x := by simp only [itemAt, hx, Option.some.injEq] at hy; exact hy.symm
      obtain ⟨v, hv, rv⟩ := r.get hx
      refine wpAny_pyNext_list_item it l.isList (x := v) (by rw [List.getElem?_toArray]; exact hv) fun h' it' hs => ?_
      have af := After.turn (n := n) (tk := s.toks) o pI hs.extBut (Nat.le_of_eq hs.1.symm)
      have hk : ∀ a ob, s.heap.get? a = some ob → ¬ W a → h'.get? a = some ob := fun a ob e w' => hs.extBut a ob (fun z => w' (z ▸ pI.1)) e
      refine (hsome x this v W _ (one af rfl) (rv.mono hk (fun _ _ w => w) fun _ _ e => e) ⟨.list it' ?_ w (r.mono hk (fun _ _ w => w) fun _ _ e => e), priv⟩)
      obtain ⟨m, l⟩ := l
      exact ⟨m, hk _ _ l w⟩
  | @cell i al k it g =>
    have pI := priv I (by simp)
    have ne : al ≠ I := fun z => pI.2.1 (z ▸ List.mem_of_getElem? g)
    obtain ⟨xs, hc, hy⟩ := map_eq hy
    obtain ⟨vs, l, bd, r⟩ := o.mem.listAt hc g
    cases hx : xs[k]? with
    | none =>
      have : y = none := hy.symm.trans hx
      refine with_size (wpAny_pyNext_list_end hh it l.isList (by rw [List.getElem?_toArray]; exact r.getNone hx) fun h' he hsz => ?_)
      exact hnone this _ (one (After.turn (tk := s.toks) o pI he hsz) rfl)
    | some x =>
      have : y = some x := hy.symm.trans hx
      obtain ⟨v, hv, rv⟩ := r.get hx
      refine wpAny_pyNext_list_item it l.isList (x := v) (by rw [List.getElem?_toArray]; exact hv) fun h' it' hs => ?_
      have af := After.turn (n := n) (tk := s.toks) o pI hs.extBut (Nat.le_of_eq hs.1.symm)
      have hk : ∀ a ob, s.heap.get? a = some ob → ¬ W a → h'.get? a = some ob := fun a ob e w' => hs.extBut a ob (fun z => w' (z ▸ pI.1)) e
      exact (hsome x this v W _ (one af rfl) (rv.mono hk (fun _ _ w => w) fun _ _ e => e) ⟨.cell it' g, priv⟩)
  | @tuple al xs vs k it l w r =>
    have pI := priv I (by simp)
    have ne : al ≠ I := fun z => w (z ▸ pI.1)
    cases hx : xs[k]? with
    | none =>
      have : y = none := by simp only [itemAt, hx, Option.some.injEq] at hy; exact hy.symm
      refine with_size (wpAny_pyNext_tuple_end hh it l.isTuple (by rw [List.getElem?_toArray]; exact r.getNone hx) fun h' he hsz => ?_)
      exact hnone this _ (one (After.turn (tk := s.toks) o pI he hsz) rfl)
    | some x =>
      have : y = some x := by simp only [itemAt, hx, Option.some.injEq] at hy; exact hy.symm
      obtain ⟨v, hv, rv⟩ := r.get hx
      refine wpAny_pyNext_tuple_item it l.isTuple (x := v) (by rw [List.getElem?_toArray]; exact hv) fun h' it' hs => ?_
      have af := After.turn (n := n) (tk := s.toks) o pI hs.extBut (Nat.le_of_eq hs.1.symm)
      have hk : ∀ a ob, s.heap.get? a = some ob → ¬ W a → h'.get? a = some ob := fun a ob e w' => hs.extBut a ob (fun z => w' (z ▸ pI.1)) e
      refine (hsome x this v W _ (one af rfl) (rv.mono hk (fun _ _ w => w) fun _ _ e => e) ⟨.tuple it' ?_ w (r.mono hk (fun _ _ w => w) fun _ _ e => e), priv⟩)
      obtain ⟨m, l⟩ := l
      exact ⟨m, hk _ _ l w⟩
  | @str z t k it =>
    have pI := priv I (by simp)
    cases hx : z[k]? with
    | none =>
      have : y = none := by simp only [itemAt, List.getElem?_map, hx, Option.map_none, Option.some.injEq] at hy; exact hy.symm
      refine with_size (wpAny_pyNext_ascii_end hh it (by simpa using hx) fun h' he hsz => ?_)
      exact hnone this _ (one (After.turn (tk := s.toks) o pI he hsz) rfl)
    | some c =>
      have : y = some (.str [c]) := by simp only [itemAt, List.getElem?_map, hx, Option.map_some, Option.some.injEq] at hy; exact hy.symm
      refine wpAny_pyNext_ascii_item it (c := c) (by simpa using hx) fun h' it' hs => ?_
      have af := After.turn (n := n) (tk := s.toks + 1) o pI hs.extBut (Nat.le_of_eq hs.1.symm)
      exact (hsome _ this _ W _ (one af rfl) (.str [c] _ (by unfold lim; simp)) ⟨.str it', priv⟩)
  | @range ra rc rn k it hkn =>
    have pI := priv I (by simp)
    rcases Nat.lt_or_ge k rn with hlt | hge
    · have : y = some (.int (ra + (k : Nat) * rc)) := by simp only [itemAt, rangeL_get ra rc rn k hlt, Option.some.injEq] at hy; exact hy.symm
      refine wpAny_pyNext_range_item it (by omega) fun h' it' hs => ?_
      have af := After.turn (n := n) (tk := s.toks + 1) o pI hs.extBut (Nat.le_of_eq hs.1.symm)
      refine (hsome _ this _ W _ (one af rfl) (.int _ _) ⟨.range (k := k + 1) ?_ hlt, priv⟩)
      have e1 : ra + ((k + 1 : Nat) : Int) * rc = ra + (k : Int) * rc + rc := by push_cast; rw [Int.add_mul, Int.one_mul, Int.add_assoc]
      have e2 : (rn : Int) - ((k + 1 : Nat) : Int) = (rn : Int) - (k : Int) - 1 := by push_cast; omega
      rw [e1, e2]; exact it'
    · have : y = none := by
        simp only [itemAt, Option.some.injEq] at hy
        rw [← hy]; exact List.getElem?_eq_none (by rw [rangeL_len]; exact hge)
      refine with_size (wpAny_pyNext_range_end hh it (by omega) fun h' he hsz => ?_)
      exact hnone this _ (one (After.turn (tk := s.toks) o pI he hsz) rfl)
  | zip Z => simp at ht
theorem ISt.plainObj (st : ISt B h W ρ I it k pr) (ht : pr.length = 1) : ∃ o T, h.get? I = some o ∧ o.cls = .type T ∧ T ∈ plainIters := by
  cases st with
  | list it => obtain ⟨o, ho, hc, _⟩ := it; exact ⟨o, _, ho, hc, by decide⟩
  | cell it => obtain ⟨o, ho, hc, _⟩ := it; exact ⟨o, _, ho, hc, by decide⟩
  | tuple it => obtain ⟨o, ho, hc, _⟩ := it; exact ⟨o, _, ho, hc, by decide⟩
  | str it => obtain ⟨o, ho, hc, _⟩ := it; exact ⟨o, _, ho, hc, by decide⟩
  | range it => exact ⟨_, _, it, rfl, by decide⟩
  | zip Z => simp at ht
theorem next_sound (hh : A.handled = none) (o : Ok B W ρ cs s) (a : IterAt B s.heap W ρ I it k pr) {tgt : Expr} {Q : Option Value → Shared → Prop} {y : Option AV} (hy : itemAt cs it k = some y) (ht : pr.length = 1 ∨ ∃ es c p, tgt = .Tuple es c p)
    (hnone : y = none → ∀ s', After B n (· ∈ pr) W ρ cs s W ρ cs s' → Q none s')
    (hsome : ∀ x, y = some x → ∀ v W' s', After B n (· ∈ pr) W ρ cs s W' ρ cs s' → VRel B s'.heap W' ρ x v → IterAt B s'.heap W' ρ I it (k + 1) pr → Q (some v) s') :
    wpAny (model B.prog B.w) A (pyNext (.ref I)) (fun r s₁ => match r with
      | none => Q none s₁
      | some v => wpAny (model B.prog B.w) A (letOwnedTupleGo tgt (.ref I) v) (fun _ s₂ => Q (some v) s₂) E s₁) E s := by
  by_cases h1 : pr.length = 1
  · refine next_plain hh o a hy h1 (fun e s' af => hnone e s' af) fun x e v W' s' af r ia => ?_
    obtain ⟨ob, T, ho, hc, hT⟩ := ia.st.plainObj h1
    exact go_plain ho hc hT (hsome x e v W' s' af r ia)
  obtain ⟨es, c, p, htgt⟩ : ∃ es c p, tgt = .Tuple es c p := ht.elim (fun h => absurd h h1) id
  clear ht
  subst htgt
  obtain ⟨st, priv⟩ := a
  cases st with
  | list => exact absurd rfl h1
  | cell => exact absurd rfl h1
  | tuple => exact absurd rfl h1
  | str => exact absurd rfl h1
  | range => exact absurd rfl h1
  | @zip TI TO i1 i2 xs ys k Z =>
    have own : ∀ a ∈ [I, TI, TO, i1, i2], W a := fun a ha => (priv a ha).1
    have hT : s.TypeIs (.ref I) "zip" := ⟨_, Z.hz, rfl⟩
    have turn : ∀ {h' : Heap} {tk : Nat}, (∀ c o, c ∉ [I, TI, TO, i1, i2] → s.heap.get? c = some o → h'.get? c = some o) → s.heap.objs.size ≤ h'.objs.size → After B n (· ∈ [I, TI, TO, i1, i2]) W ρ cs s W ρ cs { s with heap := h', toks := tk } := fun hk hsz =>
      (After.refl o).other (· ∈ [I, TI, TO, i1, i2]) hsz (fun a ob e d => hk a ob d e) (fun a d _ => own a d) (fun a d _ => d) (fun a m d => (priv a d).2.1 m) (fun a t d => absurd (o.mem.tabLt t) (Nat.not_lt.mpr (priv a d).2.2)) (fun _ _ => Iff.rfl) fun a w => Nat.lt_of_lt_of_le (o.mem.wlt a w) hsz
    have hy' : y = (zipL xs ys)[k]? := by simp only [itemAt, Option.some.injEq] at hy; exact hy.symm
    rw [zipL_get] at hy'
    by_cases hend : xs[k]? = none ∨ ys[k]? = none
    · have hyn : y = none := by
        rw [hy']
        rcases hend with e | e
        · rw [e]
        · rw [e]; cases xs[k]? <;> rfl
      refine with_size ?_
      unfold pyNext
      refine wpAny_bind (wpAny_attempt (wpAny_callSpecial?_slot (name := Str.ofString "__next__") hT F.slot_zip_next
        (wpAny_call_entry F.slot_zip_next hT F.entry_zip_next (zip_end hh Z own hend fun h' e tk hk he => ?_) (F.args_zip_next_1 _))))
      obtain ⟨ob, ho, hc⟩ := he
      refine wpAny_bind (wpAny_isInstance (T := "StopIteration") (b := true) ⟨ob, ho, hc⟩ isSubtype_stop ?_)
      exact wpAny_pure fun hsz => hnone hyn _ (turn hk hsz)
    · obtain ⟨x, hx⟩ : ∃ x, xs[k]? = some x := by
        cases e : xs[k]? with
        | none => exact absurd (.inl e) hend
        | some x => exact ⟨x, rfl⟩
      obtain ⟨x', hx'⟩ : ∃ x, ys[k]? = some x := by
        cases e : ys[k]? with
        | none => exact absurd (.inr e) hend
        | some x => exact ⟨x, rfl⟩
      have hys : y = some (.tup [x, x']) := by rw [hy', hx, hx']
      unfold pyNext
      refine wpAny_bind (wpAny_attempt (wpAny_callSpecial?_slot (name := Str.ofString "__next__") hT F.slot_zip_next
        (wpAny_call_entry F.slot_zip_next hT F.entry_zip_next (zip_item Z own hx hx' fun u v h' tk ru rv Z' hp hsz hk => wpAny_pure ?_) (F.args_zip_next_1 _))))
      show wpAny (model B.prog B.w) A (letOwnedTupleGo (.Tuple es c p) (.ref I) (.ref s.heap.objs.size)) _ E _
      refine wpAny_letOwnedTupleGo_zip (s := { s with heap := h', toks := tk }) Z'.hz fun h'' hz'' hs'' => ?_
      have hk2 : ∀ c o, c ∉ [I, TI, TO, i1, i2] → s.heap.get? c = some o → h''.get? c = some o := fun c ob hc e => hs''.extBut c ob (fun q => hc (by simp [q])) (hk c ob hc e)
      have hsz2 : s.heap.objs.size ≤ h''.objs.size := by rw [hs''.1, hsz]; exact Nat.le_succ _
      have af := turn (tk := tk) hk2 hsz2
      have hkw : ∀ c o, s.heap.get? c = some o → ¬ W c → h''.get? c = some o := fun c ob e w => hk2 c ob (fun m => w (own c m)) e
      have mono : ∀ {x : AV} {v : Value}, VRel B s.heap W ρ x v → VRel B h'' W ρ x v := fun r => r.mono hkw (fun _ _ w => w) fun _ _ e => e
      have hIlt : I ≠ s.heap.objs.size := Nat.ne_of_lt (Heap.lt_size Z.hz)
      have hT' : PTup h'' s.heap.objs.size [u, v].toArray := ⟨0, hs''.extBut _ _ (fun q => hIlt q.symm) hp⟩
      have nd := Z.nd
      simp only [List.nodup_cons, List.mem_cons, List.not_mem_nil, or_false, not_or, List.nodup_nil, not_false_eq_true, and_true] at nd
      have Z'' : ZSt B h'' W ρ I TI TO i1 i2 (k + 1) .none xs ys := by
        obtain ⟨z1, z2, ⟨a1, a2, z3⟩, z4, z5, z6⟩ := Z'
        have wI := own I (by simp)
        exact ⟨hz'', hs''.extBut _ _ (fun q => nd.1.1 q.symm) z2, ⟨a1, a2, hs''.extBut _ _ (fun q => nd.1.2.1 q.symm) z3⟩, z4.but wI (fun q => nd.1.2.2.1 q.symm) hs'', z5.but wI (fun q => nd.1.2.2.2 q.symm) hs'', z6⟩
      exact hsome _ hys _ W _ af (.tup hT' (by unfold lim; simp) (o.newNot (Nat.le_refl _)) (.cons (mono ru) (.cons (mono rv) .nil))) ⟨.zip Z'', priv⟩
theorem self_sound {Q : Value → Shared → Prop} (st : ISt B s.heap W ρ I it k pr) (hQ : Q (.ref I) s) : wpAny (model B.prog B.w) A (pyIter (.ref I)) Q E s := by
  cases st with
  | list it l w r => exact wpAny_pyIter_listiter it hQ
  | cell it g => exact wpAny_pyIter_listiter it hQ
  | tuple it l w r => exact wpAny_pyIter_tupleiter it hQ
  | str it => exact wpAny_pyIter_striter_ascii it hQ
  | range it hk => exact wpAny_pyIter_rangeiter it hQ
  | zip Z => exact wpAny_pyIter_zip Z.hz hQ
theorem iter_make (o : Ok B W ρ cs s) {x : AV} {v : Value} (p : VRel B s.heap W ρ x v) (e : itv cs x = some it) {Q : Value → Shared → Prop}
    (hQ : ∀ I W' s', s.heap.objs.size ≤ I → After B n Non W ρ cs s W' ρ cs s' → IterAt B s'.heap W' ρ I it 0 [I] → Q (.ref I) s') : wpAny (model B.prog B.w) A (pyIter v) Q E s := by
  have fresh : ∀ (ob : Obj), ob.isFreed = false → (∀ {W' : Addr → Prop}, (∀ a, a < s.heap.objs.size → W' a → W a) → ISt B (s.heap.push ob) W' ρ s.heap.objs.size it 0 [s.heap.objs.size]) → Q (.ref s.heap.objs.size) { s with heap := s.heap.push ob } := by
    intro ob hf hI
    have hW : ∀ a, a < s.heap.objs.size → (W a ∨ a = s.heap.objs.size) → W a := fun a l w => w.elim id fun q => absurd q (Nat.ne_of_lt l)
    refine hQ s.heap.objs.size (fun a => W a ∨ a = s.heap.objs.size) _ (Nat.le_refl _) ?_ ⟨hI hW, fun a ha => ?_⟩
    · exact (After.refl o).other (tk := s.toks) (fun _ => False) (by rw [Heap.size_push]; exact Nat.le_succ _) (fun a x e _ => Heap.get?_push_of_some _ e) (fun _ x => x.elim) (fun _ x => x.elim) (fun _ _ x => x) (fun _ _ x => x) (fun a l => ⟨hW a l, .inl⟩)
        fun a w => by rw [Heap.size_push]; exact w.elim (fun w => Nat.lt_succ_of_lt (o.mem.wlt a w)) fun q => q ▸ Nat.lt_succ_self _
    · simp at ha; subst ha
      exact ⟨.inr rfl, fun m => absurd (o.mem.wlt _ (o.mem.own _ m).1) (Nat.lt_irrefl _), o.mem.size⟩
  have up : ∀ {ob : Obj} {W' : Addr → Prop}, (∀ a, a < s.heap.objs.size → W' a → W a) → ∀ {xs : List AV} {vs : List Value}, VRels B s.heap W ρ xs vs → VRels B (s.heap.push ob) W' ρ xs vs := fun hW _ _ r => r.mono (fun a o e _ => Heap.get?_push_of_some _ e) hW fun _ _ e => e
  rcases orElse_eq e with ⟨z, hx, e⟩ | e
  · obtain ⟨ha, e⟩ := if_eq e
    obtain rfl := sJ e
    obtain ⟨t, hv, bd⟩ := p.ofStr hx
    rw [hv]
    exact wpAny_pyIter_ascii (by simpa [ascii] using ha) (fresh _ rfl fun hW => .str ⟨_, Heap.get?_push_size _ rfl, rfl, rfl⟩)
  rcases orElse_eq e with ⟨z, hx, e⟩ | e
  · obtain rfl := sJ e
    obtain ⟨vs, a, hv, l, bd, w, r⟩ := p.ofTup hx
    rw [hv]
    refine wpAny_pyIter_tuple l.isTuple (fresh _ rfl fun hW => ?_)
    obtain ⟨m, l⟩ := l
    exact .tuple ⟨_, Heap.get?_push_size _ rfl, rfl, rfl⟩ ⟨m, Heap.get?_push_of_some _ l⟩ (fun q => w (hW _ (Heap.lt_size l) q)) (up hW r)
  rcases orElse_eq e with ⟨z, hx, e⟩ | e
  · obtain rfl := sJ e
    obtain ⟨vs, a, hv, l, bd, w, r⟩ := p.ofLst hx
    rw [hv]
    refine wpAny_pyIter_list l.isList (fresh _ rfl fun hW => ?_)
    obtain ⟨m, l⟩ := l
    exact .list ⟨_, Heap.get?_push_size _ rfl, rfl, rfl⟩ ⟨m, Heap.get?_push_of_some _ l⟩ (fun q => w (hW _ (Heap.lt_size l) q)) (up hW r)
  · obtain ⟨i, hx, e⟩ := bind_eq e
    obtain ⟨xs, hc, e⟩ := mapS e
    obtain rfl := sJ e
    obtain ⟨a, hv, g⟩ := p.ofRef hx
    obtain ⟨vs, l, bd, r⟩ := o.mem.listAt hc g
    rw [hv]
    exact wpAny_pyIter_list l.isList (fresh _ rfl fun hW => .cell ⟨_, Heap.get?_push_size _ rfl, rfl, rfl⟩ g)
theorem range_make (o : Ok B W ρ cs s) {r : Addr} {a b c : Int} {t u v : Tok} (hr : IsRange s.heap r a b c t u v) (hsm : Builtin.Range.small a b c = true) {m : Nat} (hm : Builtin.Range.rangeSize a b c = (m : Int)) {Q : Value → Shared → Prop}
    (hQ : ∀ I W' s', s.heap.objs.size ≤ I → After B n Non W ρ cs s W' ρ cs s' → IterAt B s'.heap W' ρ I (.items (rangeL a c m)) 0 [I] → Q (.ref I) s') : wpAny (model B.prog B.w) A (pyIter (.ref r)) Q E s := by
  refine wpAny_pyIter_range hr hsm ?_
  have hW : ∀ a, a < s.heap.objs.size → (W a ∨ a = s.heap.objs.size) → W a := fun a l w => w.elim id fun q => absurd q (Nat.ne_of_lt l)
  refine hQ s.heap.objs.size (fun a => W a ∨ a = s.heap.objs.size) _ (Nat.le_refl _) ?_ ⟨.range (n := m) (k := 0) ?_ (Nat.zero_le _), fun a ha => ?_⟩
  · exact (After.refl o).other (tk := s.toks) (fun _ => False) (by rw [Heap.size_push]; exact Nat.le_succ _) (fun a x e _ => Heap.get?_push_of_some _ e) (fun _ x => x.elim) (fun _ x => x.elim) (fun _ _ x => x) (fun _ _ x => x) (fun a l => ⟨hW a l, .inl⟩)
      fun a w => by rw [Heap.size_push]; exact w.elim (fun w => Nat.lt_succ_of_lt (o.mem.wlt a w)) fun q => q ▸ Nat.lt_succ_self _
  · have := Heap.get?_push_size s.heap (o := { cls := .type "range_iterator", data := .fields #[rawInt a, rawInt (Builtin.Range.rangeSize a b c), rawInt c] }) rfl
    rw [hm] at this ⊢
    simpa using this
  · simp at ha; subst ha
    exact ⟨.inr rfl, fun m => absurd (o.mem.wlt _ (o.mem.own _ m).1) (Nat.lt_irrefl _), o.mem.size⟩
end
end Ev
namespace Ev
open PySem PySem.W PyProof.Rows PySem.SeqAt
section
variable {M : Model} {A : Around} {E : Value → Shared → Prop} {s : Shared} {env : Env}
noncomputable def KeepOk (M : Model) (A : Around) (s : Shared) (f : Value) : Prop := ∀ (Q : Keeper → Shared → Prop) (E : Value → Shared → Prop), (∀ k, Q k s) → wpAny M A (keeperOf f) Q E s
theorem KeepOk.plain {f : Value} (h : ∀ a, f ≠ .ref a) : KeepOk M A s f := fun Q E hq => by
  cases f <;> first | exact wpAny_pure (hq _) | exact absurd rfl (h _)
theorem KeepOk.func {a : Addr} {o : Obj} {fd : FuncData} (ho : s.heap.get? a = some o) (hd : o.data = .func fd) : KeepOk M A s (.ref a) := fun Q E hq => by
  unfold keeperOf
  refine wpAny_bind (wpAny_load ho ?_)
  rw [hd]; exact wpAny_pure (hq _)
theorem KeepOk.bound {a : Addr} {o : Obj} {vs : Array Value} (ho : s.heap.get? a = some o) (hd : o.data = .fields vs) (hc : o.cls = .type "builtin_function_or_method") : KeepOk M A s (.ref a) := fun Q E hq => by
  unfold keeperOf
  refine wpAny_bind (wpAny_load ho ?_)
  rw [hd]
  have h1 : (o.cls != .type "method") = true := by rw [hc]; decide
  dsimp only
  rw [if_pos h1]
  exact wpAny_pure (hq _)
theorem wpAny_operate {vs : List Value} {m : Sem Value} {Q : Value → Shared → Prop} (h : wpAny M A m Q E s) : wpAny M A (operate vs m) Q E s := fun Γ p hΓ => by rw [Sem.wp_operate]; exact h Γ p hΓ
theorem evalArgs_any {f : Value} {args : List (Bool × Sem Value)} {keywords : List (Option Str × Sem Value)} {Q : Args → Shared → Prop} (hs : args.any (·.1) = false) (hall : keywords.all (·.1.isSome) = true)
    (h : wpAny M A (spliced args) (fun vs s₁ => wpAny M A (evalAll (keywords.map (·.2))) (fun ks s₂ => Q ⟨vs, (keywords.filterMap (·.1)).zip ks⟩ s₂) E s₁) E s) : wpAny M A (evalArgs f true args keywords) Q E s := by
  cases args with
  | nil =>
    refine evalArgs_kw_nil hall ?_
    intro Γ p hΓ
    have h1 := h Γ p hΓ
    rw [show spliced [] = pure [] from rfl, Sem.wp_pure'] at h1
    exact h1 Γ p hΓ
  | cons x rest =>
    obtain ⟨b, x⟩ := x
    have : b = false := by simp at hs; simpa using hs.1
    subst this
    exact evalArgs_kw hall h
theorem callWith_gen {pos : Pos} {f : Value} {first : List Value} {args : List (Bool × Sem Value)} {keywords : List (Option Str × Sem Value)} {Q : Value → Shared → Prop} (hs : args.any (·.1) = false) (hall : keywords.all (·.1.isSome) = true)
    (h : wpAny M A (spliced args) (fun vs s₁ => wpAny M A (evalAll (keywords.map (·.2))) (fun ks s₂ => KeepOk M A s₂ f ∧ wpAny M A (call f (first ++ vs) ((keywords.filterMap (·.1)).zip ks)) Q E s₂) E s₁) E s) :
    wpAny M A (callWith pos f first args keywords) Q E s := by
  unfold callWith
  refine wpAny_bind (wpAny_holding (evalArgs_any hs hall (wpAny_mono h (fun vs s₁ h₁ => wpAny_mono h₁ (fun ks s₂ h₂ => ?_) fun _ _ x => x) fun _ _ x => x)))
  refine wpAny_bind (wpAny_standAt ?_)
  have hst : (args.any (·.1) || keywords.any (·.1.isNone)) = false := by
    rw [hs, Bool.false_or]
    rw [List.any_eq_false]
    intro x hx
    have := List.all_eq_true.mp hall x hx
    cases hx1 : x.1 with
    | none => rw [hx1] at this; exact fB this
    | some _ => simp
  rw [hst]
  have tail : ∀ {t : Sem Value}, wpAny M A t Q E s₂ → wpAny M A (t >>= fun r => holding [r] point >>= fun _ => pure r) Q E s₂ :=
    fun ht => wpAny_bind (wpAny_mono ht (fun r s₃ hr => wpAny_bind (wpAny_holding (wpAny_point (wpAny_pure hr)))) fun _ _ x => x)
  refine wpAny_bind (h₂.1 _ _ fun k => ?_)
  cases k
  · dsimp only
    split
    · exact tail h₂.2
    · exact tail (by unfold callMarked; exact Calls.wpAny_keep h₂.2)
  · dsimp only
    split
    · exact tail h₂.2
    · exact tail (by unfold callMarked; exact Calls.wpAny_keep h₂.2)
  · exact tail h₂.2
  · exact tail (wpAny_operate h₂.2)
end
end Ev
namespace Ev
open PySem PySem.W PyProof.Rows PySem.SeqAt
section
variable {B : Base} {cx : Cx} {env : Env} {lay : List Loc} {fr : Fr} {n : Nat} {X W W' : Addr → Prop} {ρ ρ' : List Addr} {cs cs' : Cells} {s : Shared} {A : Around} {E : Value → Shared → Prop} {I : Addr} {it : It} {k : Nat} {pr : List Addr}
theorem After.fresh {Y : Addr → Prop} {ρ₁ ρ₂ : List Addr} {W₁ W₂ : Addr → Prop} {cs₁ cs₂ : Cells} {s₁ s₂ : Shared} (a : After B n X W ρ cs s W₁ ρ₁ cs₁ s₁) (b : After B n Y W₁ ρ₁ cs₁ s₁ W₂ ρ₂ cs₂ s₂) (h : ∀ x, Y x → s.heap.objs.size ≤ x) : After B n X W ρ cs s W₂ ρ₂ cs₂ s₂ :=
  ((a.weaken (Y := fun x => X x ∨ Y x) fun _ _ => .inl).trans (b.weaken fun _ _ => .inr)).weaken fun x l y => y.elim id fun y => absurd l (Nat.not_lt.mpr (h x y))
theorem draw_sound (hh : A.handled = none) {xs : List AV} : ∀ (m k : Nat) {s : Shared} {W : Addr → Prop} {Q : List Value → Shared → Prop}, Ok B W ρ cs s → IterAt B s.heap W ρ I (.items xs) k [I] → k + m ≤ xs.length →
    (∀ us W' s', After B n (· ∈ [I]) W ρ cs s W' ρ cs s' → VRels B s'.heap W' ρ ((xs.drop k).take m) us → IterAt B s'.heap W' ρ I (.items xs) (k + m) [I] → Q us s') → wpAny (model B.prog B.w) A (draw (.ref I) m) Q E s
  | 0, k, s, W, Q, o, a, _, hQ => by
    show wpAny _ _ (pure []) Q E s
    exact wpAny_pure (hQ [] W s (After.refl o) (by simp; exact .nil) a)
  | m + 1, k, s, W, Q, o, a, hle, hQ => by
    show wpAny _ _ (pyNext (.ref I) >>= _) Q E s
    have hx : xs[k]? = some xs[k] := by simp
    refine wpAny_bind (next_plain (n := n) hh o a (y := some xs[k]) (by simp [itemAt]) rfl (fun e => nomatch e) fun x ex v W₁ s₁ af r ia => ?_)
    cases ex
    refine wpAny_bind (wpAny_holding (draw_sound hh m (k + 1) af.ok ia (by omega) fun us W₂ s₂ af₂ r₂ ia₂ => wpAny_pure ?_))
    have hXW : ∀ a ∈ [I], W₁ a := fun a ha => (ia.priv a ha).1
    refine hQ (v :: us) W₂ s₂ (af.trans af₂) ?_ (by rw [show k + (m + 1) = k + 1 + m from by omega]; exact ia₂)
    have hd : (xs.drop k).take (m + 1) = xs[k] :: (xs.drop (k + 1)).take m := by
      rw [List.drop_eq_getElem_cons (by omega), List.take_succ_cons]
    rw [hd]
    exact .cons (af₂.step.val af.ok.mem hXW r) r₂
theorem unpackItems_sound (hh : A.handled = none) (o : Ok B W ρ cs s) {x : AV} {v : Value} {xs : List AV} (p : VRel B s.heap W ρ x v) (hy : orElse x.tup? some x.lst? = some xs) {Q : List Value → Shared → Prop}
    (hQ : ∀ us W' s', After B n Non W ρ cs s W' ρ cs s' → VRels B s'.heap W' ρ xs us → Q us s') : wpAny (model B.prog B.w) A (unpackItems v xs.length none) Q E s := by
  have hx : x = .tup xs ∨ x = .lst xs := by
    rcases orElse_eq hy with ⟨z, h, e⟩ | h
    · exact .inl (sJ e ▸ tup?_eq h)
    · exact .inr (lst?_eq h)
  have hit : itv cs x = some (.items xs) := by rcases hx with rfl | rfl <;> rfl
  have hno : ∀ {R : Bool → Shared → Prop}, R false s → wpAny (model B.prog B.w) A (notIterableAtAll v) R E s := by
    intro R hR
    unfold notIterableAtAll
    rcases hx with rfl | rfl
    · obtain ⟨_, _, rfl, l, _⟩ := p.inv
      refine wpAny_bind (wpAny_specialOf l.isTuple.typeIs F.slot_tuple_iter.lookup ?_)
      exact wpAny_pure hR
    · obtain ⟨_, _, rfl, l, _⟩ := p.inv
      refine wpAny_bind (wpAny_specialOf l.isList.typeIs slot_list_iter.lookup ?_)
      exact wpAny_pure hR
  unfold unpackItems
  refine wpAny_bind (hno ?_)
  simp only [Bool.false_eq_true, if_false]
  refine wpAny_bind (wpAny_holding (iter_make (n := n) o p hit fun I W₁ s₁ fresh af₁ ia₁ => ?_))
  refine wpAny_bind (wpAny_holding (draw_sound (n := n) hh xs.length 0 af₁.ok ia₁ (by omega) fun us W₂ s₂ af₂ r₂ ia₂ => ?_))
  have hlen : us.length = xs.length := by
    have := r₂.length
    rw [List.drop_zero, List.take_length] at this; exact this.symm
  rw [if_neg (by omega)]
  refine wpAny_bind (wpAny_holding (next_plain (n := n) hh af₂.ok ia₂ (y := none) (by simp [itemAt]) rfl (fun _ s₃ af₃ => ?_) fun x ex => nomatch ex))
  simp only [Option.isSome_none, Bool.false_eq_true, if_false]
  have hXW : ∀ a ∈ [I], W₂ a := fun a ha => (ia₂.priv a ha).1
  refine wpAny_pure (hQ us W₂ s₃ (af₁.fresh ((af₂.trans af₃)) fun a ha => ?_) ?_)
  · simp at ha; subst ha; exact fresh
  · have := af₃.step.vals af₂.ok.mem hXW r₂
    rw [List.drop_zero, List.take_length] at this; exact this
end
end Ev
namespace Ev
open PySem PySem.W PyProof.Rows PySem.SeqAt
inductive KwRel (B : Base) (h : Heap) (W : Addr → Prop) (ρ : List Addr) : Option AV → List (Str × Value) → Prop
  | none : KwRel B h W ρ none []
  | some {x : AV} {v : Value} (r : VRel B h W ρ x v) : KwRel B h W ρ (some x) [("name", v)]
noncomputable def CallOk (B : Base) (cf : CF) (A : Around) : Prop := ∀ {k : Nat} {args : List AV} {kw : Option AV} {cs cs' : Cells} {z : AV} {n : Nat} {W : Addr → Prop} {ρ : List Addr} {s : Shared} {vs : List Value} {kws : List (Str × Value)} {Q E : Value → Shared → Prop},
  cf k args kw cs = some (z, cs') → n ≤ cs.length → Ok B W ρ cs s → VRels B s.heap W ρ args vs → KwRel B s.heap W ρ kw kws → PostV B n W ρ cs s cs' z Q → wpAny (model B.prog B.w) A (call (.ref (B.fnA k)) vs kws) Q E s
noncomputable def NewOk (B : Base) (new : Cells → Option (AV × Cells)) (A : Around) : Prop := ∀ {cs cs' : Cells} {z : AV} {n : Nat} {W : Addr → Prop} {ρ : List Addr} {s : Shared} {Q E : Value → Shared → Prop},
  new cs = some (z, cs') → n ≤ cs.length → Ok B W ρ cs s → PostV B n W ρ cs s cs' z Q → wpAny (model B.prog B.w) A (call (.ref B.clsA) []) Q E s
noncomputable def InstAt (B : Base) (h : Heap) (a dx : Addr) : Prop := h.get? a = some { cls := .ref B.clsA, dict := some dx, data := .plain }
noncomputable def Kept (B : Base) (h : Heap) : Prop := ∀ a o, B.h₀.get? a = some o → h.get? a = some o
theorem headers_str {x : Str} (h : tx x = headersTx) : x = headersStr := by rw [tx_of h]; decide +kernel
structure Rx (B : Base) (M0 : List (Tx × Nat)) (W : Wd) (A : Around) : Prop where
  S : Stat B
  hh : A.handled = none
  room : A.units + 16 < cLine
  deep : A.depth < recursionLimit
  fnObj : ∀ k, ∃ o fd, B.h₀.get? (B.fnA k) = some o ∧ o.data = .func fd
  call : CallOk B W.cf A
  new : NewOk B W.new A
  meth : ∀ {nm : Str} {k : Nat}, M0.lookup (tx nm) = some k → ∀ {s : Shared} {a dx : Addr} {o : Obj} {pl : Sem Bool} {R : Value × List Value → Shared → Prop} {E : Value → Shared → Prop}, Kept B s.heap → InstAt B s.heap a dx → s.heap.get? dx = some o → HObj o → nm ≠ headersStr → R (.ref (B.fnA k), [.ref a]) s →
    wpAny (model B.prog B.w) A (getMethod (.ref a) nm pl) R E s
  hdr : M0.lookup headersTx = none
  getA : ∀ {s : Shared} {a dx : Addr} {hsh : Int} {tk : Tok} {v : Value} {n : Nat} {E Q : Value → Shared → Prop}, Kept B s.heap → InstAt B s.heap a dx → s.heap.get? dx = some (hObj hsh tk v n) → handedIn v = true → (∀ t, Q v { s with toks := t }) → wpAny (model B.prog B.w) A (getAttr (.ref a) headersStr true) Q E s
  setA : ∀ {s : Shared} {a dx : Addr} {o : Obj} {v : Value} {E : Value → Shared → Prop} {Q : Unit → Shared → Prop}, Kept B s.heap → InstAt B s.heap a dx → s.heap.get? dx = some o → HObj o →
    (∀ h' tk hsh tk' n, Heap.SameBut dx s.heap h' → h'.get? dx = some (hObj hsh tk' v n) → Q () { s with heap := h', toks := tk }) → wpAny (model B.prog B.w) A (setAttr (.ref a) headersStr v) Q E s
  setI : ∀ {cs cs' : Cells} {r i v z : AV} {n : Nat} {W' : Addr → Prop} {ρ : List Addr} {s : Shared} {rv iv vv : Value} {Q : Unit → Shared → Prop} {E : Value → Shared → Prop}, isInst cs r = true → W.cf W.setN [r, i, v] none cs = some (z, cs') → n ≤ cs.length → Ok B W' ρ cs s →
    VRel B s.heap W' ρ r rv → VRel B s.heap W' ρ i iv → VRel B s.heap W' ρ v vv → PostU B n W' ρ cs s cs' Q → wpAny (model B.prog B.w) A (setItem rv iv vv) Q E s
  reM : ∀ {nm : Str} {k : Nat} {cs : Cells} {xs : List AV} {z : AV} {cs' : Cells} {n : Nat}, methOk cs (.re k) (mnOf nm) = true → mcall n (.re k) (mnOf nm) xs cs = some (z, cs') → ∀ {s : Shared} {pl : Sem Bool} {R : Value × List Value → Shared → Prop} {E : Value → Shared → Prop}, Kept B s.heap →
    (∀ f, (∀ s', Kept B s'.heap → KeepOk (model B.prog B.w) A s' f) →
      (∀ {s' : Shared} {W' : Addr → Prop} {ρ : List Addr} {vs : List Value} {Q : Value → Shared → Prop} {E : Value → Shared → Prop}, Ok B W' ρ cs s' → n ≤ cs.length → VRels B s'.heap W' ρ xs vs → PostV B n W' ρ cs s' cs' z Q → wpAny (model B.prog B.w) A (PySem.call f (.ref (B.reA k) :: vs) []) Q E s') → R (f, [.ref (B.reA k)]) s) →
    wpAny (model B.prog B.w) A (getMethod (.ref (B.reA k)) nm pl) R E s
noncomputable def genHook (B : Base) (A : Around) (env : Env) : Prop := (∀ {pos : Pos} {q : Str} {sc : Scope} {n : Nat} {W : Addr → Prop} {ρ : List Addr} {cs : Cells} {s : Shared} {Q E : Value → Shared → Prop}, Ok B W ρ cs s →
    (∀ code h' tk, After B n Non W ρ cs s W ρ cs { s with heap := h', toks := tk } → (∀ b o, ¬ B.isTab b → s.heap.get? b = some o → h'.get? b = some o) → Q code { s with heap := h', toks := tk }) → wpAny (model B.prog B.w) A (genexprCode env pos q sc) Q E s) ∧
  (∀ {W : Addr → Prop} {ρ : List Addr} {cs : Cells} {s : Shared} {Q : Addr → Shared → Prop} {E : Value → Shared → Prop}, Ok B W ρ cs s → Q builtinsNs s → wpAny (model B.prog B.w) A (builtinsFor env.globals env.builtins) Q E s)
structure EnvX (B : Base) (M0 : List (Tx × Nat)) (A : Around) (cx : Cx) (env : Env) (lay : List Loc) : Prop extends EnvOk B cx env lay where
  meths : cx.meths = M0
  len : lay.length = cx.n
  lam : cx.lamOk = true → ∀ {args : Arguments} {body : Expr} {sc : Scope} {pos : Pos} {n : Nat} {W : Addr → Prop} {ρ : List Addr} {cs : Cells} {s : Shared} {Q E : Value → Shared → Prop}, plainLam args = true → noFree sc = true → Ok B W ρ cs s → PostV B n W ρ cs s cs .lam Q →
    wpAny (model B.prog B.w) A (eval (.Lambda args body sc pos) env) Q E s
  gen : cx.lamOk = true → genHook B A env
structure At (B : Base) (M0 : List (Tx × Nat)) (A : Around) (n : Nat) (cx : Cx) (env : Env) (lay : List Loc) (fr : Fr) (W : Addr → Prop) (ρ : List Addr) (cs : Cells) (s : Shared) : Prop where
  X : EnvX B M0 A cx env lay
  ok : Ok B W ρ cs s
  F : Frm B lay fr W ρ s.heap
  hn : n ≤ cs.length
section
variable {B : Base} {M0 : List (Tx × Nat)} {Wo : Wd} {cx : Cx} {A : Around} {n f : Nat}
section
variable {env : Env} {lay : List Loc} {fr : Fr} {W W₁ : Addr → Prop} {ρ ρ₁ : List Addr} {cs cs₁ : Cells} {s s₁ : Shared}
theorem At.after (T : At B M0 A n cx env lay fr W ρ cs s) (a : After B n Non W ρ cs s W₁ ρ₁ cs₁ s₁) : At B M0 A n cx env lay fr W₁ ρ₁ cs₁ s₁ := ⟨T.X, a.ok, T.F.after T.ok a, Nat.le_trans T.hn (a.length T.ok)⟩
end
noncomputable abbrev PostB (B : Base) (n : Nat) (W : Addr → Prop) (ρ : List Addr) (cs : Cells) (s : Shared) (cs' : Cells) (x : Bool) (Q : Bool → Shared → Prop) : Prop :=
  ∀ W' ρ' s', After B n Non W ρ cs s W' ρ' cs' s' → Q x s'
noncomputable abbrev PostVs (B : Base) (n : Nat) (W : Addr → Prop) (ρ : List Addr) (cs : Cells) (s : Shared) (cs' : Cells) (xs : List AV) (Q : List Value → Shared → Prop) : Prop :=
  ∀ vs W' ρ' s', After B n Non W ρ cs s W' ρ' cs' s' → VRels B s'.heap W' ρ' xs vs → Q vs s'
section
variable {W W₁ : Addr → Prop} {ρ ρ₁ : List Addr} {cs cs₁ cs₂ : Cells} {s s₁ : Shared}
theorem After.post {x : AV} {Q : Value → Shared → Prop} (a : After B n Non W ρ cs s W₁ ρ₁ cs₁ s₁) (hQ : PostV B n W ρ cs s cs₂ x Q) : PostV B n W₁ ρ₁ cs₁ s₁ cs₂ x Q := fun v W' ρ' s' b r => hQ v W' ρ' s' (a.trans b) r
theorem After.postB {x : Bool} {Q : Bool → Shared → Prop} (a : After B n Non W ρ cs s W₁ ρ₁ cs₁ s₁) (hQ : PostB B n W ρ cs s cs₂ x Q) : PostB B n W₁ ρ₁ cs₁ s₁ cs₂ x Q := fun W' ρ' s' b => hQ W' ρ' s' (a.trans b)
end
noncomputable def SE (B : Base) (M0 : List (Tx × Nat)) (Wo : Wd) (A : Around) (n : Nat) (cx : Cx) (c : ME) (e : Expr) : Prop :=
  ∀ ⦃env : Env⦄ ⦃lay : List Loc⦄ ⦃fr : Fr⦄ ⦃W : Addr → Prop⦄ ⦃ρ : List Addr⦄ ⦃cs : Cells⦄ ⦃r : AV × Cells⦄ ⦃s : Shared⦄ ⦃Q E : Value → Shared → Prop⦄, At B M0 A n cx env lay fr W ρ cs s →
    c Wo n fr cs = some r → PostV B n W ρ cs s r.2 r.1 Q → wpAny (model B.prog B.w) A (eval e env) Q E s
noncomputable def SB (B : Base) (M0 : List (Tx × Nat)) (Wo : Wd) (A : Around) (n : Nat) (cx : Cx) (c : MB) (e : Expr) : Prop :=
  ∀ ⦃env : Env⦄ ⦃lay : List Loc⦄ ⦃fr : Fr⦄ ⦃W : Addr → Prop⦄ ⦃ρ : List Addr⦄ ⦃cs : Cells⦄ ⦃r : Bool × Cells⦄ ⦃s : Shared⦄ ⦃Q : Bool → Shared → Prop⦄ ⦃E : Value → Shared → Prop⦄, At B M0 A n cx env lay fr W ρ cs s →
    c Wo n fr cs = some r → PostB B n W ρ cs s r.2 r.1 Q → wpAny (model B.prog B.w) A (isTrue e env (eval e env)) Q E s
noncomputable def SEs (B : Base) (M0 : List (Tx × Nat)) (Wo : Wd) (A : Around) (n : Nat) (cx : Cx) (c : List ME) (es : List Expr) : Prop :=
  ∀ ⦃env : Env⦄ ⦃lay : List Loc⦄ ⦃fr : Fr⦄ ⦃W : Addr → Prop⦄ ⦃ρ : List Addr⦄ ⦃cs : Cells⦄ ⦃r : List AV × Cells⦄ ⦃s : Shared⦄ ⦃Q : List Value → Shared → Prop⦄ ⦃E : Value → Shared → Prop⦄ ⦃pos : Pos⦄, At B M0 A n cx env lay fr W ρ cs s →
    evEs Wo n c fr cs = some r → PostVs B n W ρ cs s r.2 r.1 Q → wpAny (model B.prog B.w) A (spliced (backTo pos (starEach es env))) Q E s
theorem SE_fail {x : Expr} : SE B M0 Wo A n cx eFail x := by
  intro env lay fr W ρ cs r s Q E T e
  exact nN e
theorem SB_fail {x : Expr} : SB B M0 Wo A n cx eFail x := by
  intro env lay fr W ρ cs r s Q E T e
  exact nN e
noncomputable def isStar : Expr → Bool
  | .Starred .. => true
  | _ => false
noncomputable def NoStar (es : List Expr) : Prop := ∀ (env : Env) (pos : Pos), (backTo pos (starEach es env)).any (·.1) = false ∧ (backTo pos (starEach es env)).all (fun x => !x.1) = true
theorem star_not {x : Expr} {r : List Expr} {env : Env} (h : isStar x = false) : starEach (x :: r) env = (false, eval x env) :: starEach r env := by
  cases x <;> first | rfl | exact tF h
structure TrOk (B : Base) (M0 : List (Tx × Nat)) (Wo : Wd) (A : Around) (n : Nat) (cx : Cx) (t : Expr → ME) : Prop where
  e : ∀ x, SE B M0 Wo A n cx (t x) x
  star : ∀ x, isStar x = true → t x = eFail
theorem TrOk.noStar {t : Expr → ME} (T : TrOk B M0 Wo A n cx t) {fr : Fr} : ∀ {es : List Expr} {cs : Cells} {r : List AV × Cells}, evEs Wo n (es.map t) fr cs = some r → NoStar es
  | [], _, _, _ => fun env pos => ⟨rfl, rfl⟩
  | x :: xs, cs, r, e => fun env pos => by
    obtain ⟨q, hq, e⟩ := bind_eq e
    obtain ⟨p, hp, e⟩ := map_eq e
    have ih := T.noStar hp env pos
    have hx : isStar x = false := by
      cases hs : isStar x with
      | false => rfl
      | true => rw [T.star x hs] at hq; exact nN hq
    rw [star_not hx]
    exact ih
theorem TrOk.all {t : Expr → ME} (T : TrOk B M0 Wo A n cx t) : ∀ es : List Expr, SEs B M0 Wo A n cx (es.map t) es := by
  intro es
  induction es with
  | nil =>
    intro env lay fr W ρ cs r s Q E pos T' e hQ
    obtain rfl := sJ e
    exact wpAny_pure (hQ _ _ _ _ (After.refl T'.ok) .nil)
  | cons x xs ih =>
    intro env lay fr W ρ cs r s Q E pos T' e hQ
    obtain ⟨q, hq, e⟩ := bind_eq e
    obtain ⟨p, hp, rfl⟩ := map_eq e
    have hx : isStar x = false := by
      cases hs : isStar x with
      | false => rfl
      | true => rw [T.star x hs] at hq; exact nN hq
    rw [star_not hx]
    show wpAny _ A (spliced ((false, eval x env) :: backTo pos (starEach xs env))) Q E s
    rw [spliced]
    refine wpAny_bind (T.e x T' hq fun v₁ W₁ ρ₁ s₁ af₁ r₁ => ?_)
    refine wpAny_bind (wpAny_pure ?_)
    refine wpAny_bind (wpAny_holding (ih (T'.after af₁) hp fun vs W₂ ρ₂ s₂ af₂ r₂ => wpAny_pure ?_))
    exact hQ _ _ _ _ (af₁.trans af₂) (.cons (af₂.val af₁.ok r₁) r₂)
theorem SE_bin {a b : ME} {m : Bool} {o : BOp} {x y : Expr} {op : Operator} {p : Pos} (ho : trBOp op = some o) (h1 : SE B M0 Wo A n cx a x) (h2 : SE B M0 Wo A n cx b y) : SE B M0 Wo A n cx (eBin m o a b) (.BinOp x op y p) := by
  intro env lay fr W ρ cs r s Q E T e hQ
  obtain ⟨q, hq, e⟩ := bind_eq e
  obtain ⟨r', hr, e⟩ := bind_eq e
  rw [arm_eval_BinOp]
  refine wpAny_bind (h1 T hq fun v₁ W₁ ρ₁ s₁ af₁ r₁ => ?_)
  refine wpAny_bind (wpAny_holding (h2 (T.after af₁) hr fun v₂ W₂ ρ₂ s₂ af₂ r₂ => ?_))
  refine wpAny_bind (wpAny_standAt (wpAny_operate ?_))
  rw [← bopOf_tr ho]
  exact binv_sound af₂.ok ((T.after af₁).after af₂).hn (af₂.val af₁.ok r₁) r₂ e ((af₁.trans af₂).post hQ)
theorem SE_neg {a : ME} {x : Expr} {p : Pos} (h1 : SE B M0 Wo A n cx a x) : SE B M0 Wo A n cx (eNeg a) (.UnaryOp .USub x p) := by
  intro env lay fr W ρ cs r s Q E T e hQ
  obtain ⟨q, hq, e⟩ := bind_eq e
  obtain ⟨i, hi, rfl⟩ := map_eq e
  refine wpAny_UnaryOp (h1 T hq fun v₁ W₁ ρ₁ s₁ af₁ r₁ => ?_)
  exact neg_sound af₁.ok r₁ hi (af₁.post hQ)
theorem SE_not {a : ME} {x : Expr} {p : Pos} (h1 : SE B M0 Wo A n cx a x) : SE B M0 Wo A n cx (eNot a) (.UnaryOp .Not x p) := by
  intro env lay fr W ρ cs r s Q E T e hQ
  obtain ⟨q, hq, e⟩ := bind_eq e
  obtain ⟨b, hb, rfl⟩ := map_eq e
  refine wpAny_UnaryOp (h1 T hq fun v₁ W₁ ρ₁ s₁ af₁ r₁ => ?_)
  exact not_sound af₁.ok r₁ hb (af₁.post hQ)
theorem SE_ite {c : MB} {a b : ME} {x y z : Expr} {p : Pos} (h0 : SB B M0 Wo A n cx c x) (h1 : SE B M0 Wo A n cx a y) (h2 : SE B M0 Wo A n cx b z) : SE B M0 Wo A n cx (eIte c a b) (.IfExp x y z p) := by
  intro env lay fr W ρ cs r s Q E T e hQ
  obtain ⟨⟨q, cs₁⟩, hq, e⟩ := bind_eq e
  refine wpAny_IfExp (h0 T hq fun W₁ ρ₁ s₁ af₁ => ?_)
  cases q with
  | false => exact h2 (T.after af₁) e (af₁.post hQ)
  | true => exact h1 (T.after af₁) e (af₁.post hQ)
theorem SE_lit_const {c : Const} {k : Nat} {p : Pos} : SE B M0 Wo A n cx (trConst c) (.Constant c k p) := by
  intro env lay fr W ρ cs r s Q E T e hQ
  rw [arm_eval_Constant]
  cases c with
  | none =>
    obtain rfl := sJ e
    exact wpAny_pure (hQ _ _ _ _ (After.refl T.ok) .none)
  | bool b =>
    obtain rfl := sJ e
    exact wpAny_pure (hQ _ _ _ _ (After.refl T.ok) (.bool _))
  | int i =>
    obtain rfl := sJ e
    exact wpAny_mkInt (hQ _ _ _ _ (T.ok.toks _) (.int _ _))
  | str t =>
    have e : (if (tx t).length ≤ lim then eLit (.str (tx t)) else eFail) Wo n fr cs = some r := e
    by_cases hb : (tx t).length ≤ lim
    · rw [if_pos hb] at e
      obtain rfl := sJ e
      have := VRel.str (B := B) (h := s.heap) (W := W) (ρ := ρ) (tx t) s.toks hb
      rw [str_tx] at this
      exact wpAny_mkText (hQ _ _ _ _ (T.ok.toks _) this)
    · rw [if_neg hb] at e; exact nN e
  | float _ => exact nN e
  | bytes _ => exact nN e
  | ellipsis => exact nN e
  | complex _ _ => exact nN e
theorem SE_name (S : Stat B) {x : Str} {p : Pos} : SE B M0 Wo A n cx (eName (nameV cx x)) (.Name x p) :=
  by intro env lay fr W ρ cs r s Q E T e hQ; exact name_sound S T.ok T.X.toEnvOk T.F e hQ
theorem chain1 {op : CmpOp} {y : Expr} {m : Sem Value} (hb : behindInMarks op y = false) : markedBehindIn op y m = m := by
  unfold markedBehindIn
  rw [hb]
theorem cc1 {p : Pos} {v : Value} {op : CmpOp} {r : Sem Value} : compareChain p v [op] [r] = (do let rv ← holding [v] r; standAt p; operate [v, rv] (compareOp op v rv)) := rfl
theorem tc1 {p : Pos} {v : Value} {op : CmpOp} {r : Sem Value} : testChain p v [op] [r] = (do let rv ← holding [v] r; standAt p; let c ← operate [v, rv] (compareOp op v rv); holding [c] (PySem.truthy c)) := rfl
theorem SE_cmp (R : Rx B M0 Wo A) {op : CmpOp} {a b : ME} {x y : Expr} {p : Pos} (hb : behindInMarks op y = false) (h1 : SE B M0 Wo A n cx a x) (h2 : SE B M0 Wo A n cx b y) : SE B M0 Wo A n cx (eCmp (trCOp op) a b) (.Compare x [op] [y] p) := by
  intro env lay fr W ρ cs r s Q E T e hQ
  obtain ⟨q, hq, e⟩ := bind_eq e
  obtain ⟨q', hr, e⟩ := bind_eq e
  obtain ⟨z, hz, rfl⟩ := map_eq e
  rw [arm_eval_Compare]
  refine wpAny_bind (h1 T hq fun v₁ W₁ ρ₁ s₁ af₁ r₁ => ?_)
  show wpAny _ A (compareChain p v₁ [op] [markedBehindIn op y (eval y env)]) Q E s₁
  rw [chain1 hb, cc1]
  refine wpAny_bind (wpAny_holding (h2 (T.after af₁) hr fun v₂ W₂ ρ₂ s₂ af₂ r₂ => ?_))
  refine wpAny_bind (wpAny_standAt (wpAny_operate ?_))
  have := cmpv_sound (A := A) (E := E) R.S.sysm af₂.ok R.room (af₂.val af₁.ok r₁) r₂ hz (Q := Q) fun t => hQ _ _ _ _ ((af₁.trans af₂).trans (af₂.ok.toks t)) (.bool _)
  rw [copOf_tr] at this; exact this
theorem SB_cmp (R : Rx B M0 Wo A) {op : CmpOp} {a b : ME} {x y : Expr} {p : Pos} (hb : behindInMarks op y = false) (h1 : SE B M0 Wo A n cx a x) (h2 : SE B M0 Wo A n cx b y) : SB B M0 Wo A n cx (bCmp (trCOp op) a b) (.Compare x [op] [y] p) := by
  intro env lay fr W ρ cs r s Q E T e hQ
  obtain ⟨q, hq, e⟩ := bind_eq e
  obtain ⟨q', hr, e⟩ := bind_eq e
  obtain ⟨z, hz, rfl⟩ := map_eq e
  rw [arm_isTrue_Compare]
  refine wpAny_bind (h1 T hq fun v₁ W₁ ρ₁ s₁ af₁ r₁ => ?_)
  show wpAny _ A (testChain p v₁ [op] [markedBehindIn op y (eval y env)]) Q E s₁
  rw [chain1 hb, tc1]
  refine wpAny_bind (wpAny_holding (h2 (T.after af₁) hr fun v₂ W₂ ρ₂ s₂ af₂ r₂ => ?_))
  refine wpAny_bind (wpAny_standAt (wpAny_bind (wpAny_operate ?_)))
  have := cmpv_sound (A := A) (E := E) R.S.sysm af₂.ok R.room (af₂.val af₁.ok r₁) r₂ hz (Q := fun c s₃ => wpAny (model B.prog B.w) A (holding [c] (PySem.truthy c)) Q E s₃) fun t => wpAny_holding (truthy_sound (af₂.ok.tok t) (x := .bool z) (.bool _) rfl fun t' => hQ _ _ _ ((af₁.trans af₂).trans (af₂.ok.toks t')))
  rw [copOf_tr] at this; exact this
theorem tc2 {p : Pos} {v : Value} {o1 o2 : CmpOp} {r1 r2 : Sem Value} : testChain p v [o1, o2] [r1, r2] = (do let rv ← holding [v] r1; standAt p; let c ← holding [v, rv] (compareOp o1 v rv); release [v, rv] [c]; if ← holding [c, rv] (PySem.truthy c) then testChain p rv [o2] [r2] else pure false) := rfl
theorem SB_cmp2 (R : Rx B M0 Wo A) {o1 o2 : CmpOp} {a b c : ME} {x y z : Expr} {p : Pos} (hc : behindInMarks o2 z = false) (h1 : SE B M0 Wo A n cx a x) (h2 : SE B M0 Wo A n cx b y) (h3 : SE B M0 Wo A n cx c z) :
    SB B M0 Wo A n cx (bCmp2 (trCOp o1) (trCOp o2) a b c) (.Compare x [o1, o2] [y, z] p) := by
  intro env lay fr W ρ cs r s Q E T e hQ
  obtain ⟨q, hq, e⟩ := bind_eq e
  obtain ⟨q', hr, e⟩ := bind_eq e
  obtain ⟨b₁, hz, e⟩ := bind_eq e
  rw [arm_isTrue_Compare]
  refine wpAny_bind (h1 T hq fun v₁ W₁ ρ₁ s₁ af₁ r₁ => ?_)
  show wpAny _ A (testChain p v₁ [o1, o2] [eval y env, markedBehindIn o2 z (eval z env)]) Q E s₁
  rw [chain1 hc, tc2]
  have T₁ := T.after af₁
  refine wpAny_bind (wpAny_holding (h2 T₁ hr fun v₂ W₂ ρ₂ s₂ af₂ r₂ => ?_))
  refine wpAny_bind (wpAny_standAt (wpAny_bind (wpAny_holding ?_)))
  have T₂ := T₁.after af₂
  have := cmpv_sound (A := A) (E := E) R.S.sysm af₂.ok R.room (af₂.val af₁.ok r₁) r₂ hz (Q := fun c s₃ => wpAny (model B.prog B.w) A (do release [v₁, v₂] [c]; if ← holding [c, v₂] (PySem.truthy c) then testChain p v₂ [o2] [eval z env] else pure false) Q E s₃) fun t => ?_
  · rw [copOf_tr] at this; exact this
  refine wpAny_bind (wpAny_release (wpAny_bind (wpAny_holding (truthy_sound (af₂.ok.tok t) (x := .bool b₁) (.bool _) rfl fun t' => ?_))))
  have af₃ : After B n Non W₂ ρ₂ q'.2 s₂ W₂ ρ₂ q'.2 { s₂ with toks := t' } := af₂.ok.toks t'
  cases b₁ with
  | false =>
    rw [if_neg Bool.false_ne_true] at e ⊢
    obtain rfl := sJ e
    exact wpAny_pure (hQ _ _ _ ((af₁.trans af₂).trans af₃))
  | true =>
    rw [if_pos rfl] at e ⊢
    obtain ⟨w, hw, e⟩ := bind_eq e
    obtain ⟨b₂, hz₂, rfl⟩ := map_eq e
    rw [tc1]
    refine wpAny_bind (wpAny_holding (h3 (T₂.after af₃) hw fun v₄ W₄ ρ₄ s₄ af₄ r₄ => ?_))
    refine wpAny_bind (wpAny_standAt (wpAny_bind (wpAny_operate ?_)))
    have := cmpv_sound (A := A) (E := E) R.S.sysm af₄.ok R.room (af₄.val af₃.ok (af₃.val af₂.ok r₂)) r₄ hz₂ (Q := fun c s₃ => wpAny (model B.prog B.w) A (holding [c] (PySem.truthy c)) Q E s₃) fun t => wpAny_holding (truthy_sound (af₄.ok.tok t) (x := .bool b₂) (.bool _) rfl fun t' => hQ _ _ _ ((((af₁.trans af₂).trans af₃).trans af₄).trans (af₄.ok.toks t')))
    rw [copOf_tr] at this; exact this
noncomputable def plainTest : Expr → Bool
  | .UnaryOp .Not _ _ => false
  | .BoolOp .. => false
  | .IfExp .. => false
  | .Compare .. => false
  | _ => true
theorem isTrue_plain {e : Expr} {env : Env} {w : Sem Value} (h : plainTest e = true) : isTrue e env w = (do let v ← w; standAt e.pos; holding [v] (PySem.truthy v)) := by
  cases e <;> first | rfl | (exact fB h; done) | (rename_i op _ _; cases op <;> first | rfl | exact fB h)
theorem SB_plain {c : ME} {x : Expr} (hx : plainTest x = true) (h1 : SE B M0 Wo A n cx c x) : SB B M0 Wo A n cx (bOf c) x := by
  intro env lay fr W ρ cs r s Q E T e hQ
  obtain ⟨q, hq, e⟩ := bind_eq e
  obtain ⟨b, hb, rfl⟩ := map_eq e
  rw [isTrue_plain hx]
  refine wpAny_bind (h1 T hq fun v₁ W₁ ρ₁ s₁ af₁ r₁ => ?_)
  exact wpAny_bind (wpAny_standAt (wpAny_holding (truthy_sound af₁.ok r₁ hb fun t => hQ _ _ _ (af₁.trans (af₁.ok.toks t)))))
theorem SB_not {a : MB} {x : Expr} {p : Pos} (h1 : SB B M0 Wo A n cx a x) : SB B M0 Wo A n cx (bNot a) (.UnaryOp .Not x p) := by
  intro env lay fr W ρ cs r s Q E T e hQ
  obtain ⟨q, hq, rfl⟩ := map_eq e
  exact wpAny_isTrue_Not (h1 T hq fun W₁ ρ₁ s₁ af₁ => hQ _ _ _ af₁)
theorem SB_ite {c a b : MB} {x y z : Expr} {p : Pos} (h0 : SB B M0 Wo A n cx c x) (h1 : SB B M0 Wo A n cx a y) (h2 : SB B M0 Wo A n cx b z) : SB B M0 Wo A n cx (bIte c a b) (.IfExp x y z p) := by
  intro env lay fr W ρ cs r s Q E T e hQ
  obtain ⟨⟨q, cs₁⟩, hq, e⟩ := bind_eq e
  rw [arm_isTrue_IfExp]
  refine wpAny_bind (h0 T hq fun W₁ ρ₁ s₁ af₁ => ?_)
  cases q with
  | false => exact h2 (T.after af₁) e (af₁.postB hQ)
  | true => exact h1 (T.after af₁) e (af₁.postB hQ)
theorem allTrue_sound (op : BoolOp) {t : Expr → MB} (h : ∀ x, SB B M0 Wo A n cx (t x) x) {env : Env} {lay : List Loc} {fr : Fr} {E : Value → Shared → Prop} {Q : Bool → Shared → Prop} (es : List Expr) : ∀ {W : Addr → Prop} {ρ : List Addr} {cs : Cells} {r : Bool × Cells} {s : Shared}, At B M0 A n cx env lay fr W ρ cs s →
    evAO Wo n (boolOf op) (es.map t) fr cs = some r → PostB B n W ρ cs s r.2 r.1 Q → wpAny (model B.prog B.w) A (allTrue op es env) Q E s := by
  induction es with
  | nil =>
    intro W ρ cs r s T e hQ
    obtain rfl := sJ e
    cases op <;> exact wpAny_pure (hQ _ _ _ (After.refl T.ok))
  | cons x xs ih =>
    intro W ρ cs r s T e hQ
    rw [arm_allTrue_cons]
    obtain ⟨⟨q, cs₁⟩, hq, e⟩ := bind_eq e
    refine wpAny_bind (h x T hq fun W₁ ρ₁ s₁ af₁ => ?_)
    cases op <;> cases q
    · obtain rfl := sJ e; exact wpAny_pure (hQ _ _ _ af₁)
    · exact ih (T.after af₁) e (af₁.postB hQ)
    · exact ih (T.after af₁) e (af₁.postB hQ)
    · obtain rfl := sJ e; exact wpAny_pure (hQ _ _ _ af₁)
theorem SB_bool {op : BoolOp} {t : Expr → MB} (h : ∀ x, SB B M0 Wo A n cx (t x) x) {xs : List Expr} {p : Pos} : SB B M0 Wo A n cx (bAO (boolOf op) (xs.map t)) (.BoolOp op xs p) := by
  intro env lay fr W ρ cs r s Q E T e hQ
  rw [arm_isTrue_BoolOp]; exact allTrue_sound op h xs T e hQ
end
end Ev
namespace Ev
open PySem PySem.W PyProof.Rows PySem.SeqAt
section
variable {B : Base} {M0 : List (Tx × Nat)} {Wo : Wd} {cx : Cx} {A : Around} {n f : Nat}
theorem SE_tup {r : List ME} {xs : List Expr} {k : Nat} {p : Pos} (h : SEs B M0 Wo A n cx r xs) : SE B M0 Wo A n cx (eTup r) (.Tuple xs k p) := by
  intro env lay fr W ρ cs r s Q E T e hQ
  obtain ⟨q, hq, e⟩ := bind_eq e
  obtain ⟨hl, e⟩ := if_eq e
  obtain rfl := sJ e
  rw [arm_eval_Tuple]
  refine wpAny_bind (wpAny_standAt (wpAny_bind (h T hq fun vs W₁ ρ₁ s₁ af₁ r₁ => ?_)))
  refine wpAny_newTuple ?_ (by rw [← r₁.length]; exact lim_size hl)
  have af : After B n Non W₁ ρ₁ q.2 s₁ W₁ ρ₁ q.2 { s₁ with heap := s₁.heap.push { cls := .type "tuple", data := .seq vs.toArray } } := af₁.ok.push _ (tk := s₁.toks)
  exact hQ _ _ _ _ (af₁.trans af) (.tup ⟨_, Heap.get?_push_size _ rfl⟩ hl (af₁.ok.newNot (Nat.le_refl _)) (af.vals af₁.ok r₁))
theorem SE_list {r : List ME} {xs : List Expr} {m : Bool} {p : Pos} (h : SEs B M0 Wo A n cx r xs) : SE B M0 Wo A n cx (eList m r) (.List xs p) := by
  intro env lay fr W ρ cs r s Q E T e hQ
  obtain ⟨q, hq, e⟩ := bind_eq e
  rw [arm_eval_List]
  refine wpAny_bind (wpAny_standAt (wpAny_bind (h T hq fun vs W₁ ρ₁ s₁ af₁ r₁ => ?_)))
  refine wpAny_newList ?_ (by rw [← r₁.length]; exact lim_size (if_eq e).1)
  exact mk_post af₁.ok (T.after af₁).hn r₁ e (af₁.post hQ) s₁.toks
theorem SE_dict {p : Pos} : SE B M0 Wo A n cx eDict (.Dict [] [] p) := by
  intro env lay fr W ρ cs r s Q E T e hQ
  obtain rfl := sJ e
  refine wpAny_Dict_empty ?_
  refine hQ _ _ _ _ (T.ok.alloc T.hn (tk := s.toks) (co := .dict []) ⟨[], Heap.DictOf.new _, .nil⟩) (.ref ?_)
  rw [T.ok.mem.len]; exact List.getElem?_concat_length
theorem attributeBase_plain {o : Expr} {nm : Str} {env : Env} {w : Sem Value} (h : plainBase o = true) : attributeBase o nm env w = w := by
  cases o with
  | Call f as ks p =>
    cases f with
    | Name id q =>
      cases as with
      | nil =>
        cases ks with
        | nil => exact fB h
        | cons => rfl
      | cons => rfl
    | _ => rfl
  | _ => rfl
theorem KeepOk.ofBase {M : Model} {s : Shared} {a : Addr} (h : ∃ o fd, B.h₀.get? a = some o ∧ o.data = .func fd) (k : Kept B s.heap) : KeepOk M A s (.ref a) := by
  obtain ⟨o, fd, ho, hd⟩ := h
  exact .func (k _ _ ho) hd
theorem Ok.kept {W : Addr → Prop} {ρ : List Addr} {cs : Cells} {s : Shared} (o : Ok B W ρ cs s) : Kept B s.heap := fun a ob e => (o.mem.base a ob e).1
end
end Ev
namespace Ev
open PySem PySem.W PyProof.Rows PySem.SeqAt
section
variable {B : Base} {M0 : List (Tx × Nat)} {Wo : Wd} {cx : Cx} {A : Around} {n f : Nat}
set_option maxRecDepth 100000 in
theorem check_append {a : Addr} {v : Value} {items : Array Value} {M : Model} {s : Shared} {E : Value → Shared → Prop} {Q : Unit → Shared → Prop} (hl : s.heap.IsList a items) (hq : Q () s) : wpAny M A (checkBoundCall "list.append" ⟨[.ref a, v], []⟩) Q E s := by
  have hT : s.TypeIs (.ref a) "list" := hl.typeIs
  obtain ⟨ob, hob, hcb, nb, hdb⟩ := hl
  obtain ⟨sg, hs⟩ : ∃ sg, sg = (Manifest.signature? "list.append").getD ((Manifest.signature? "list.append").get (by decide +kernel)) := ⟨_, rfl⟩
  have h1 : Manifest.signature? "list.append" = some sg := by rw [hs]; kernel_rfl
  have h2 : builtinKind "list.append" = some .method := by kernel_rfl
  have h3 : Manifest.varargsMethods.contains "list.append" = false := by decide +kernel
  unfold checkBoundCall
  rw [h1, h2]
  dsimp only
  rw [if_neg (by decide)]
  refine wpAny_bind (wpAny_isInstance (b := false) hT (by rw [isSubtype_type]; kernel_rfl) ?_)
  rw [h3]
  rw [if_neg (by decide)]
  refine wpAny_bind ?_
  show wpAny M A (do return match (← loadHead a).data with | .cls _ => true | _ => false) _ _ s
  refine wpAny_bind (m := loadHead a) (wpAny_loadPart hob (wpAny_pure ?_))
  rw [hdb]
  refine wpAny_bind (wpAny_typeOf hT ?_)
  dsimp only
  exact wpAny_of_eq (by subst hs; kernel_rfl) hq
theorem call_app {f a : Addr} {ob : Obj} {v : Value} {items : Array Value} {k : Nat} {prog : Program} {w : PySem.World} {s : Shared} {E Q : Value → Shared → Prop} (g : s.heap.get? f = some ob) (c : ob.cls = .type "builtin_function_or_method") (d : ob.data = .fields #[.builtin "list.append", .ref a])
    (hl : s.heap.get? a = some { cls := .type "list", data := .seq items k }) (hsz : items.size ≤ sizeLine)
    (h : Q .none { s with heap := s.heap.update a (Obj.mapSeq (·.push v)) }) : wpAny (model prog w) A (call (.ref f) [v]) Q E s := by
  refine wpAny_call (codeAny_of_tree ?_)
  show wpAny _ A.in1 (callAny (.ref f) ⟨[v], []⟩) _ _ s
  show wpAny _ A.in1 (load f >>= _) _ _ s
  refine wpAny_bind (wpAny_load g ?_)
  obtain ⟨cl, di, da, sl⟩ := ob
  obtain rfl : cl = .type "builtin_function_or_method" := c
  obtain rfl : da = .fields #[.builtin "list.append", .ref a] := d
  show wpAny _ A.in1 (if (Value.type "builtin_function_or_method" == Value.type "method" || Value.type "builtin_function_or_method" == Value.type "builtin_function_or_method" || Value.type "builtin_function_or_method" == Value.type "method-wrapper") = true then _ else _) _ _ s
  rw [if_pos (by decide)]
  show wpAny _ A.in1 (if (Value.type "builtin_function_or_method" != Value.type "method") = true then _ else _) _ _ s
  rw [if_pos (by decide)]
  refine wpAny_bind (check_append ⟨_, hl, rfl, _, rfl⟩ ?_)
  refine wpAny_bind (wpAny_pure (wpAny_pure ?_))
  refine ⟨Code.quiet_builtin _ (by decide +kernel), codeAny_builtin entry_list_append ?_⟩
  show wpAny _ _ (updateSeq a (·.push v) >>= fun _ => ret .none) _ _ s
  exact wpAny_bind (wpAny_updateSeq hl rfl (wpAny_pure h))
theorem appv_sound {W : Addr → Prop} {ρ : List Addr} {cs cs' : Cells} {s : Shared} {Q E : Value → Shared → Prop} (o : Ok B W ρ cs s) {i : Nat} {x z : AV} {v fv : Value} (pf : VRel B s.heap W ρ (.app i) fv) (p : VRel B s.heap W ρ x v) (e : appendv n i x cs = some (z, cs')) (hQ : PostV B n W ρ cs s cs' z Q) :
    KeepOk (model B.prog B.w) A s fv ∧ wpAny (model B.prog B.w) A (call fv [v]) Q E s := by
  obtain ⟨f, a, ob, hf, g, gf, w, c, d⟩ := pf.inv
  rw [hf]
  obtain ⟨xs, hc, e⟩ := bind_eq e
  obtain ⟨hg, e⟩ := if_eq e
  obtain ⟨vs, ⟨k, l⟩, bd, r⟩ := o.mem.listAt hc g
  refine ⟨.bound gf d c, call_app gf c d l (by rw [List.size_toArray, ← r.length]; exact lim_size bd) ?_⟩
  refine hQ.to e _ _ _ _ (turn_append (tk := s.toks) o g hc r p hg ?_ (Heap.SameBut.update ..)) .none
  exact ⟨k + 1, (Heap.get?_update_self (Obj.mapSeq (·.push v)) l rfl).trans (by simp [Obj.mapSeq])⟩
theorem callv_sound (R : Rx B M0 Wo A) {W : Addr → Prop} {ρ : List Addr} {cs cs' : Cells} {s : Shared} {Q E : Value → Shared → Prop} (o : Ok B W ρ cs s) (hn : n ≤ cs.length) {g z : AV} {xs : List AV} {fv : Value} {vs : List Value} (pf : VRel B s.heap W ρ g fv) (p : VRels B s.heap W ρ xs vs)
    (e : callv Wo g xs n cs = some (z, cs')) (hQ : PostV B n W ρ cs s cs' z Q) : KeepOk (model B.prog B.w) A s fv ∧ wpAny (model B.prog B.w) A (call fv vs) Q E s := by
  cases g with
  | fn k =>
    obtain rfl := pf.inv
    exact ⟨.ofBase (R.fnObj k) o.kept, R.call e hn o p .none hQ⟩
  | app i =>
    obtain ⟨y, hy, e⟩ := bind_eq e
    obtain ⟨v, rfl, r⟩ := p.ofOne hy
    exact appv_sound o pf r e hQ
  | bi b =>
    obtain rfl := pf.inv
    exact ⟨.plain (fun a e => nomatch e), bcall_sound R.hh (R.S.lim.keeps o.kept) o hn pf p e hQ⟩
  | ty t =>
    obtain rfl := pf.inv
    exact ⟨.plain (fun a e => nomatch e), bcall_sound R.hh (R.S.lim.keeps o.kept) o hn pf p e hQ⟩
  | _ => exact nN e
end
end Ev
namespace Ev
open PySem PySem.W PyProof.Rows PySem.SeqAt
section
variable {B : Base} {M0 : List (Tx × Nat)} {Wo : Wd} {cx : Cx} {A : Around} {n f : Nat}
theorem SE_call (R : Rx B M0 Wo A) {a : ME} {x : Str} {xs : List Expr} {p q : Pos} {t : Expr → ME} (h1 : SE B M0 Wo A n cx a (.Name x p)) (h2 : TrOk B M0 Wo A n cx t) : SE B M0 Wo A n cx (eCall a (xs.map t)) (.Call (.Name x p) xs [] q) := by
  intro env lay fr W ρ cs r s Q E T e hQ
  obtain ⟨g, hg, e⟩ := bind_eq e
  obtain ⟨as, has, e⟩ := bind_eq e
  refine wpAny_Call_Name_kw (h1 T hg fun v₁ W₁ ρ₁ s₁ af₁ r₁ => ?_)
  refine callWith_gen ((h2.noStar has) env q).1 rfl (h2.all xs (T.after af₁) has fun vs W₂ ρ₂ s₂ af₂ r₂ => wpAny_pure ?_)
  exact callv_sound R af₂.ok ((T.after af₁).after af₂).hn (af₂.val af₁.ok r₁) r₂ e ((af₁.trans af₂).post hQ)
theorem SE_new (R : Rx B M0 Wo A) (hk : ∀ s, Kept B s.heap → KeepOk (model B.prog B.w) A s (.ref B.clsA)) {x : Str} {p q : Pos} (h1 : SE B M0 Wo A n cx (eLit .cls) (.Name x p)) : SE B M0 Wo A n cx eNew (.Call (.Name x p) [] [] q) := by
  intro env lay fr W ρ cs r s Q E T e hQ
  refine wpAny_Call_Name_kw (h1 T rfl fun v₁ W₁ ρ₁ s₁ af₁ r₁ => ?_)
  obtain rfl := r₁.inv
  refine callWith_gen rfl rfl (wpAny_pure (wpAny_pure ⟨hk _ af₁.ok.kept, ?_⟩))
  exact R.new e T.hn af₁.ok (af₁.post hQ)
theorem methodCall_gen {o : Expr} {nm : Str} {ap pos : Pos} {env : Env} {ov : Value} {es : List Expr} {ks : List Keyword} {s : Shared} {Q E : Value → Shared → Prop} (hline : ap.endLine = pos.line) (hns : NoStar es) (hlen : es.length < 20) (hks : ks.length ≤ 1) (hka : (backToKw pos (keywordEach ks env)).all (·.1.isSome) = true)
    (h : ∀ pl, wpAny (model B.prog B.w) A (getMethod ov nm pl) (fun q s₁ => wpAny (model B.prog B.w) A (callWith pos q.1 q.2 (backTo pos (starEach es env)) (backToKw pos (keywordEach ks env))) Q E s₁) E s) :
    wpAny (model B.prog B.w) A (methodCall o nm ap pos env ov (es.length + ks.length) (backTo pos (starEach es env)) (backToKw pos (keywordEach ks env))) Q E s := by
  have hform : methodCallForm (es.length + ks.length) (backTo pos (starEach es env)) (backToKw pos (keywordEach ks env)) = true := by
    have h1 : (if (backToKw pos (keywordEach ks env)).isEmpty then 0 else 1) ≤ 1 := by split <;> decide
    exact aI ⟨aI ⟨(hns env pos).2, hka⟩, decide_eq_true (Nat.lt_of_le_of_lt (Nat.add_le_add (Nat.add_le_add (Nat.le_of_lt hlen) hks) h1) (by decide))⟩
  unfold methodCall calleeOf methodCallPos
  rw [hform]
  have hb : (ap.endLine == pos.line) = true := by rw [hline]; exact beq_self_eq_true _
  simp only [hb, if_true, Bool.not_true, Bool.or_true]
  refine wpAny_bind (wpAny_holding (wpAny_mono (h _) (fun q s₁ h₁ => ?_) fun _ _ x => x))
  exact wpAny_bind (wpAny_pure h₁)
theorem isInst_at {W : Addr → Prop} {ρ : List Addr} {cs : Cells} {s : Shared} (o : Ok B W ρ cs s) {x : AV} {v : Value} (p : VRel B s.heap W ρ x v) {d : Nat} {es : List (Tx × AV)} (e : instOf cs x = some (d, es)) : ∃ a dx, v = .ref a ∧ idictAt cs d = some es ∧ ρ[d]? = some dx ∧ InstAt B s.heap a dx ∧ ∃ o, s.heap.get? dx = some o ∧ HObj o := by
  obtain ⟨i, hi, e⟩ := bind_eq e
  obtain ⟨d', hd, e⟩ := bind_eq e
  obtain ⟨es', he, e⟩ := mapS e
  obtain ⟨rfl, rfl⟩ := pair_eq e
  obtain ⟨a, rfl, g⟩ := p.ofRef hi
  obtain ⟨dx, ga, gd⟩ := o.mem.instAt hd g
  refine ⟨a, dx, rfl, he, gd, ga, ?_⟩
  rcases o.mem.idictAt he gd with c | ⟨x, v, hsh, tk, k, _, ho, _⟩
  · exact ⟨_, c.2, .inl rfl⟩
  · exact ⟨_, ho, .inr ⟨_, _, _, _, rfl⟩⟩
theorem Rx.own (R : Rx B M0 Wo A) {W : Addr → Prop} {ρ : List Addr} {cs : Cells} {s : Shared} (o : Ok B W ρ cs s) {x : AV} {v : Value} (p : VRel B s.heap W ρ x v) (e : isInst cs x = true) {nm : Str} {k : Nat} (hk : M0.lookup (tx nm) = some k) {pl : Sem Bool} {Q : Value × List Value → Shared → Prop} {E : Value → Shared → Prop}
    (hQ : Q (.ref (B.fnA k), [v]) s) : wpAny (model B.prog B.w) A (getMethod v nm pl) Q E s := by
  obtain ⟨⟨d, es⟩, he⟩ := Option.isSome_iff_exists.mp e
  obtain ⟨a, dx, rfl, _, _, hI, ob, hob, hH⟩ := isInst_at o p he
  refine R.meth hk o.kept hI hob hH (fun e => ?_) hQ
  have := R.hdr
  rw [show headersTx = tx nm by rw [e]; decide +kernel, hk] at this; exact sN this
theorem SE_meth (R : Rx B M0 Wo A) {a : ME} {o : Expr} {nm : Str} {ap p : Pos} {xs : List Expr} {t : Expr → ME} (hb : plainBase o = true) (hline : ap.endLine = p.line) (hlen : xs.length < 20) (h1 : SE B M0 Wo A n cx a o) (h2 : TrOk B M0 Wo A n cx t) :
    SE B M0 Wo A n cx (eMeth a (mnOf nm) (cx.meths.lookup (tx nm)) (xs.map t)) (.Call (.Attribute o nm ap) xs [] p) := by
  intro env lay fr W ρ cs r s Q E T e hQ
  obtain ⟨g, hg, e⟩ := bind_eq e
  obtain ⟨as, has, e⟩ := bind_eq e
  have hns := h2.noStar has
  rw [arm_eval_Call, attributeBase_plain hb]
  refine wpAny_bind (h1 T hg fun v₁ W₁ ρ₁ s₁ af₁ r₁ => wpAny_bind (wpAny_standAt ?_))
  refine methodCall_gen (ks := []) hline hns hlen (Nat.zero_le _) rfl fun pl => ?_
  have T₁ := T.after af₁
  have go : ∀ {fv : Value} {first : List Value}, (∀ {vs : List Value} {W₂ : Addr → Prop} {ρ₂ : List Addr} {s₂ : Shared}, After B n Non W₁ ρ₁ g.2 s₁ W₂ ρ₂ as.2 s₂ → VRels B s₂.heap W₂ ρ₂ as.1 vs → KeepOk (model B.prog B.w) A s₂ fv ∧ wpAny (model B.prog B.w) A (call fv (first ++ vs)) Q E s₂) →
      wpAny (model B.prog B.w) A (callWith p fv first (backTo p (starEach xs env)) (backToKw p (keywordEach [] env))) Q E s₁ := fun hc =>
    callWith_gen (hns env p).1 rfl (h2.all xs T₁ has fun vs W₂ ρ₂ s₂ af₂ r₂ => wpAny_pure (hc af₂ r₂))
  cases hi : isInst g.2 g.1 with
  | true =>
    rw [hi, if_pos rfl] at e
    obtain ⟨k, hk, e⟩ := bind_eq e
    rw [T.X.meths] at hk
    exact R.own af₁.ok r₁ hi hk (go fun af₂ r₂ => ⟨.ofBase (R.fnObj k) af₂.ok.kept, R.call e (T₁.after af₂).hn af₂.ok (.cons (af₂.val af₁.ok r₁) r₂) .none ((af₁.trans af₂).post hQ)⟩)
  | false =>
    rw [hi, if_neg Bool.false_ne_true] at e
    obtain ⟨hm, e⟩ := if_eq e
    cases hk : g.1.re? with
    | some k =>
      rw [re?_eq hk] at r₁ hm e
      obtain rfl := r₁.inv
      exact R.reM (cs := as.2) hm e af₁.ok.kept fun fv hkeep hcall => go fun af₂ r₂ => ⟨hkeep _ af₂.ok.kept, hcall af₂.ok (T₁.after af₂).hn r₂ ((af₁.trans af₂).post hQ)⟩
    | none => exact getm_sound af₁.ok r₁ rfl hm hk (go fun af₂ r₂ => ⟨.plain (fun a e => nomatch e), mcall_sound af₂.ok (T₁.after af₂).hn (af₂.val af₁.ok r₁) r₂ hk e ((af₁.trans af₂).post hQ)⟩)
theorem name_kw {k : Str} (h : tx k = nameTx) : k = "name" := by rw [tx_of h]; decide +kernel
theorem SE_methk (R : Rx B M0 Wo A) {a c : ME} {o y : Expr} {nm kn : Str} {ap p kp : Pos} {k : Nat} {xs : List Expr} {t : Expr → ME} (hb : plainBase o = true) (hline : ap.endLine = p.line) (hlen : xs.length < 20) (hkn : tx kn = nameTx) (hk : cx.meths.lookup (tx nm) = some k)
    (h1 : SE B M0 Wo A n cx a o) (h2 : TrOk B M0 Wo A n cx t) (h4 : SE B M0 Wo A n cx c y) :
    SE B M0 Wo A n cx (eMethk a k (xs.map t) c) (.Call (.Attribute o nm ap) xs [⟨some kn, y, kp⟩] p) := by
  intro env lay fr W ρ cs r s Q E T e hQ
  obtain rfl := name_kw hkn
  obtain ⟨g, hg, e⟩ := bind_eq e
  obtain ⟨as, has, e⟩ := bind_eq e
  obtain ⟨kw, hkw, e⟩ := bind_eq e
  obtain ⟨hi, e⟩ := if_eq e
  have hns := h2.noStar has
  rw [arm_eval_Call, attributeBase_plain hb]
  refine wpAny_bind (h1 T hg fun v₁ W₁ ρ₁ s₁ af₁ r₁ => wpAny_bind (wpAny_standAt ?_))
  refine methodCall_gen (ks := [⟨some "name", y, kp⟩]) hline hns hlen (Nat.le_refl _) rfl fun pl => ?_
  rw [T.X.meths] at hk
  refine R.own af₁.ok r₁ hi hk ?_
  refine callWith_gen (hns env p).1 rfl (h2.all xs (T.after af₁) has fun vs W₂ ρ₂ s₂ af₂ r₂ => ?_)
  show wpAny _ A (evalAll [do let v ← eval y env; standAt p; pure v]) _ E s₂
  have T₂ := (T.after af₁).after af₂
  refine wpAny_evalAll_cons (wpAny_bind (h4 T₂ hkw fun v₃ W₃ ρ₃ s₃ af₃ r₃ => wpAny_bind (wpAny_standAt (wpAny_pure (wpAny_evalAll_nil ?_)))))
  exact ⟨.ofBase (R.fnObj k) af₃.ok.kept, R.call e (T₂.after af₃).hn af₃.ok (.cons (af₃.val af₂.ok (af₂.val af₁.ok r₁)) (af₃.vals af₂.ok r₂)) (.some r₃) (((af₁.trans af₂).trans af₃).post hQ)⟩
end
end Ev
set_option maxHeartbeats 4000000
namespace Ev
open PySem PySem.W PyProof.Rows PySem.SeqAt
theorem slot_md_get : Slot "method_descriptor" "__get__" "method_descriptor.__get__" :=
  .of (owner := "method_descriptor") (n := "__get__") (by rw [typeLookup_type, builtinLookup_eq_fast]; kernel_rfl) (by decide +kernel) (by decide +kernel) (by decide +kernel)
    (by first | exact .inl (by decide +kernel) | exact .inr (by decide +kernel)) (by rw [isSubtype_type]; kernel_rfl)
theorem entry_md_get : entryFor table "method_descriptor.__get__" = some Builtin.«method_descriptor.__get__» := entryFor_of_tree (by kernel_rfl)
theorem args_md_get (a b c : Value) : argsOk "method_descriptor.__get__" ⟨[a, b, c], []⟩ := by unfold argsOk; kernel_rfl
theorem lk_list_append : typeLookup (.type "list") "append" = pure (some (.builtin "list.append")) := by rw [typeLookup_type, builtinLookup_eq_fast]; kernel_rfl
theorem md_noset : typeLookup (.type "method_descriptor") "__set__" = pure none := by rw [typeLookup_type, builtinLookup_eq_fast]; kernel_rfl
theorem md_nodel : typeLookup (.type "method_descriptor") "__delete__" = pure none := by rw [typeLookup_type, builtinLookup_eq_fast]; kernel_rfl
theorem sub_list_list : isSubtype (.type "list") (.type "list") = pure true := by rw [isSubtype_type]; kernel_rfl
theorem owner_list_append : (".".intercalate ("list.append".cutAt '.').dropLast) = "list" := by decide +kernel
theorem told_append : Manifest.toldItsClass.contains "list.append" = false := by decide +kernel
theorem sub_list_owner : isSubtype (.type "list") (.type (".".intercalate ("list.append".cutAt '.').dropLast)) = pure true := by rw [owner_list_append, isSubtype_type]; kernel_rfl
theorem type_list_append : typeOf (.builtin "list.append") = pure (.type "method_descriptor") := by kernel_rfl
section
variable {prog : Program} {w : PySem.World} {A : Around} {E : Value → Shared → Prop} {h : Heap} {g : Array GenState} {d : Drawn} {t : Nat} {os : OsState} {a : Addr} {items : Array Value} {kk : Nat}
noncomputable abbrev appObj (a : Addr) : Obj := { cls := .type "builtin_function_or_method", data := .fields #[.builtin "list.append", .ref a] }
theorem app_bind {R : Fin → Shared → Prop} (hx : h.get? a = some { cls := .type "list", data := .seq items kk }) (hq : R (.done (.ret (.ref h.objs.size))) ⟨h.push (appObj a), g, d, t, os⟩) :
    wpAny (model prog w) A (Builtin.«method_descriptor.__get__» ⟨[.builtin "list.append", .ref a, .type "list"], []⟩) R E ⟨h, g, d, t, os⟩ := by
  have hT : (⟨h, g, d, t, os⟩ : Shared).TypeIs (.ref a) "list" := ⟨_, hx, rfl⟩
  have f1 := told_append
  have f2 := sub_list_owner
  unfold Builtin.«method_descriptor.__get__»
  repeat (any_goals (first | assumption | wp_step))
theorem app_get {R : Result → Shared → Prop} (hx : h.get? a = some { cls := .type "list", data := .seq items kk }) (hq : R (.ok (.ret (.ref h.objs.size))) ⟨h.push (appObj a), g, d, t, os⟩) :
    codeAny (model prog w) A (.call (.builtin "method_descriptor.__get__") ⟨[.builtin "list.append", .ref a, .type "list"], []⟩) R ⟨h, g, d, t, os⟩ := by
  have hT5 : (⟨h, g, d, t, os⟩ : Shared).TypeIs (.builtin "list.append") "method_descriptor" := type_list_append
  exact codeAny_call_builtin slot_md_get.plain entry_md_get (slot_md_get.check _ _ _ _ _ _ _ _ hT5 (args_md_get _ _ _) (app_bind hx hq))
theorem app_entry {tk : Tok} {Q : Fin → Shared → Prop} (hx : h.get? a = some { cls := .type "list", data := .seq items kk }) (hq : Q (.done (.ret (.ref h.objs.size))) ⟨h.push (appObj a), g, d, t, os⟩) :
    wpAny (model prog w) A (Builtin.«object.__getattribute__» ⟨[.ref a, .str "append" tk], []⟩) Q E ⟨h, g, d, t, os⟩ := by
  have hT : (⟨h, g, d, t, os⟩ : Shared).TypeIs (.ref a) "list" := ⟨_, hx, rfl⟩
  have f4 := lk_list_append
  have f5 := type_list_append
  have f6 := slot_md_get.lookup
  have f7 := md_noset
  have f8 := md_nodel
  repeat (any_goals (first | assumption | wp_step))
  refine app_get hx ?_
  repeat (any_goals (first | assumption | wp_step))
theorem app_call {tk : Tok} {R : Result → Shared → Prop} (hx : h.get? a = some { cls := .type "list", data := .seq items kk }) (hq : R (.ok (.ret (.ref h.objs.size))) ⟨h.push (appObj a), g, d, t, os⟩) :
    codeAny (model prog w) A (.call (.builtin "list.__getattribute__") ⟨[.ref a, .str "append" tk], []⟩) R ⟨h, g, d, t, os⟩ :=
  codeAny_call_builtin F.slot_list_getattribute.plain F.entry_list_ga (F.slot_list_getattribute.check _ _ _ _ _ _ _ _ (show (⟨h, g, d, t, os⟩ : Shared).TypeIs (.ref a) "list" from ⟨_, hx, rfl⟩) (F.args_list_getattribute_2 _ _) (app_entry hx hq))
theorem app_attr {Q : Value → Shared → Prop} (hx : h.get? a = some { cls := .type "list", data := .seq items kk }) (hq : ∀ t', Q (.ref h.objs.size) ⟨h.push (appObj a), g, d, t', os⟩) :
    wpAny (model prog w) A (getAttr (.ref a) "append" true) Q E ⟨h, g, d, t, os⟩ := by
  have hT : ∀ t', (⟨h, g, d, t', os⟩ : Shared).TypeIs (.ref a) "list" := fun _ => ⟨_, hx, rfl⟩
  have f2 := F.slot_list_getattribute.lookup
  have f3 := F.slot_list_getattribute.bind (.ref a)
  unfold getAttr getAttrBy
  repeat (any_goals (first | assumption | exact hT _ | wp_step))
  refine app_call hx ?_
  repeat (any_goals (first | assumption | exact hq _ | wp_step))
end
end Ev
namespace Ev
open PySem PySem.W PyProof.Rows PySem.SeqAt
section
variable {B : Base} {M0 : List (Tx × Nat)} {Wo : Wd} {cx : Cx} {A : Around} {n f : Nat}
theorem VRel.handed {h : Heap} {W : Addr → Prop} {ρ : List Addr} {x : AV} {v : Value} (p : VRel B h W ρ x v) : handedIn v = true := by
  cases p with
  | bi b => cases b <;> decide +kernel
  | _ => rfl
theorem SE_attr (R : Rx B M0 Wo A) {a : ME} {o : Expr} {nm : Str} {p : Pos} (hb : plainBase o = true) (hnm : tx nm = headersName) (h1 : SE B M0 Wo A n cx a o) : SE B M0 Wo A n cx (eAttr a (tx nm)) (.Attribute o nm p) := by
  intro env lay fr W ρ cs r s Q E T e hQ
  have hs : nm = headersStr := headers_str hnm
  obtain ⟨g, hg, e⟩ := bind_eq e
  obtain ⟨z, hz, rfl⟩ := map_eq e
  obtain ⟨⟨d, es⟩, hi, hz⟩ := bind_eq hz
  rw [arm_eval_Attribute, attributeBase_plain hb]
  refine wpAny_bind (h1 T hg fun v₁ W₁ ρ₁ s₁ af₁ r₁ => wpAny_bind (wpAny_standAt (wpAny_bind (wpAny_holding ?_))))
  obtain ⟨ad, dx, hv, hd, gd, hI, -⟩ := isInst_at af₁.ok r₁ hi
  rw [hv, hs]
  rcases af₁.ok.mem.idictAt hd gd with c | ⟨x, vv, hsh, tk, k, hes, ho, r⟩
  · rw [c.1] at hz; exact nN hz
  rw [hes, hnm] at hz
  obtain rfl : x = z := sJ hz
  refine R.getA af₁.ok.kept hI ho r.handed fun t => ?_
  have af := af₁.trans (af₁.ok.toks (n := n) (X := Non) t)
  exact wpAny_bind (wpAny_letTemporaryGo (wpAny_pure (hQ _ _ _ _ af ((af₁.ok.toks (n := n) (X := Non) t).val af₁.ok r))))
theorem append_str {x : Str} (h : tx x = appendTx) : x = "append" := by rw [tx_of h]; decide +kernel
theorem SE_attrApp {a : ME} {o : Expr} {nm : Str} {p : Pos} (hb : plainBase o = true) (hnm : tx nm = appendTx) (h1 : SE B M0 Wo A n cx a o) : SE B M0 Wo A n cx (eAttrApp a) (.Attribute o nm p) := by
  intro env lay fr W ρ cs r s Q E T e hQ
  obtain rfl := append_str hnm
  obtain ⟨g, hg, e⟩ := bind_eq e
  obtain ⟨i, hi, e⟩ := bind_eq e
  obtain ⟨xs, hx, rfl⟩ := map_eq e
  rw [arm_eval_Attribute, attributeBase_plain hb]
  refine wpAny_bind (h1 T hg fun v₁ W₁ ρ₁ s₁ af₁ r₁ => wpAny_bind (wpAny_standAt (wpAny_bind (wpAny_holding ?_))))
  obtain ⟨ad, hv, gi⟩ := r₁.ofRef hi
  obtain ⟨vs, ⟨k, l⟩, bd, r⟩ := af₁.ok.mem.listAt hx gi
  rw [hv]
  refine app_attr l fun t' => wpAny_bind (wpAny_letTemporaryGo (wpAny_pure ?_))
  have af : After B n Non W₁ ρ₁ g.2 s₁ W₁ ρ₁ g.2 { s₁ with heap := s₁.heap.push (appObj ad), toks := t' } := af₁.ok.push _
  exact hQ _ _ _ _ (af₁.trans af) (.app gi (Heap.get?_push_size _ rfl) (af₁.ok.newNot (Nat.le_refl _)) rfl rfl)
theorem listOf_type {W : Addr → Prop} {ρ : List Addr} {cs : Cells} {s : Shared} (o : Ok B W ρ cs s) {x : AV} {v : Value} (p : VRel B s.heap W ρ x v) {xs : List AV} (e : listOf cs x = some xs) : s.TypeIs v "list" := by
  obtain ⟨a, vs, rfl, l, _⟩ := o.mem.listOf p e
  exact l.isList.typeIs
noncomputable def Itemed (s : Shared) (v : Value) : Prop := ∃ T id, s.TypeIs v T ∧ typeLookup (.type T) "__getitem__" = pure (some (.builtin id))
theorem Itemed.list {s : Shared} {v : Value} (h : s.TypeIs v "list") : Itemed s v := ⟨_, _, h, F.slot_list_getitem.lookup⟩
theorem Itemed.str {s : Shared} {x : Str} {t : Tok} : Itemed s (.str x t) := ⟨_, _, typeIs_str s x t, F.slot_str_getitem.lookup⟩
theorem idx_itemed {W : Addr → Prop} {ρ : List Addr} {cs : Cells} {s : Shared} (o : Ok B W ρ cs s) {x i z : AV} {v : Value} (p : VRel B s.heap W ρ x v) (e : idxv cs x i = some z) : Itemed s v := by
  rcases orElse_eq e with ⟨k, _, e⟩ | e
  · rcases orElse_eq e with ⟨z, hx, e⟩ | e
    · obtain ⟨t, rfl, _⟩ := p.ofStr hx
      exact .str
    rcases orElse_eq e with ⟨z, hx, e⟩ | e
    · obtain ⟨vs, a, rfl, l, _⟩ := p.ofTup hx
      exact ⟨_, _, l.isTuple.typeIs, F.slot_tuple_getitem.lookup⟩
    · obtain ⟨xs, hx, e⟩ := bind_eq e
      exact .list (listOf_type o p hx)
  · obtain ⟨k, _, e⟩ := bind_eq e
    obtain ⟨es, he, e⟩ := bind_eq e
    obtain ⟨j, hj, he⟩ := bind_eq he
    obtain ⟨a, rfl, g⟩ := p.ofRef hj
    obtain ⟨kvs, l, _⟩ := o.mem.dictAt he g
    exact ⟨_, _, l.typeIs, F.slot_dict_getitem.lookup⟩
theorem slc_itemed {W : Addr → Prop} {ρ : List Addr} {cs : Cells} {s : Shared} (o : Ok B W ρ cs s) {m : Bool} {x lo hi : AV} {z : AV × Cells} {v : Value} (p : VRel B s.heap W ρ x v) (e : slcv m cs x lo hi = some z) : Itemed s v := by
  rcases orElse_eq e with ⟨z, hx, e⟩ | e
  · obtain ⟨t, rfl, _⟩ := p.ofStr hx
    exact .str
  · obtain ⟨xs, hx, e⟩ := bind_eq e
    exact .list (listOf_type o p hx)
theorem inPython_no {M : Model} {A : Around} {E : Value → Shared → Prop} {s : Shared} {v : Value} (h : Itemed s v) {Q : Bool → Shared → Prop} (hq : Q false s) : wpAny M A (getitemInPython v) Q E s := by
  obtain ⟨T, id, hT, hl⟩ := h
  rw [getitemInPython_of_ne hT.not_modules]
  exact wpAny_bind (wpAny_specialOf hT hl (wpAny_pure hq))
theorem subscripted_not {sl : Expr} (h : ∀ a b p, sl ≠ .Slice a b none p) (o i : Value) : subscripted sl false o i = operate [o, i] (getItem o i) := by
  cases sl with
  | Slice a b c p =>
    cases c with
    | none => exact absurd rfl (h _ _ _)
    | some => rfl
  | _ => rfl
theorem SE_idx {a b : ME} {x y : Expr} {p : Pos} (hy : ∀ a b p, y ≠ .Slice a b none p) (h1 : SE B M0 Wo A n cx a x) (h2 : SE B M0 Wo A n cx b y) : SE B M0 Wo A n cx (eIdx a b) (.Subscript x y p) := by
  intro env lay fr W ρ cs r s Q E T e hQ
  obtain ⟨q, hq, e⟩ := bind_eq e
  obtain ⟨r', hr, e⟩ := bind_eq e
  obtain ⟨z, hz, rfl⟩ := map_eq e
  rw [arm_eval_Subscript]
  refine wpAny_bind (h1 T hq fun v₁ W₁ ρ₁ s₁ af₁ r₁ => ?_)
  refine wpAny_bind (wpAny_holding (h2 (T.after af₁) hr fun v₂ W₂ ρ₂ s₂ af₂ r₂ => ?_))
  have r₁' := af₂.val af₁.ok r₁
  refine wpAny_bind (wpAny_standAt (wpAny_bind (inPython_no (idx_itemed af₂.ok r₁' hz) ?_)))
  rw [subscripted_not hy]
  refine wpAny_bind (wpAny_operate ?_)
  exact idxv_sound af₂.ok r₁' r₂ hz fun v₃ W₃ ρ₃ s₃ af₃ r₃ => wpAny_bind (wpAny_letTemporaryGo (wpAny_pure (hQ _ _ _ _ ((af₁.trans af₂).trans af₃) r₃)))
noncomputable def SO (B : Base) (M0 : List (Tx × Nat)) (Wo : Wd) (A : Around) (n : Nat) (cx : Cx) (c : ME) (e : Option Expr) : Prop :=
  ∀ ⦃env : Env⦄ ⦃lay : List Loc⦄ ⦃fr : Fr⦄ ⦃W : Addr → Prop⦄ ⦃ρ : List Addr⦄ ⦃cs : Cells⦄ ⦃r : AV × Cells⦄ ⦃s : Shared⦄ ⦃Q E : Value → Shared → Prop⦄, At B M0 A n cx env lay fr W ρ cs s →
    c Wo n fr cs = some r → PostV B n W ρ cs s r.2 r.1 Q → wpAny (model B.prog B.w) A (valueOrNone (evalOpt e env)) Q E s
theorem SO_all {t : TrF} (h : ∀ x, SE B M0 Wo A n cx (t.e cx x) x) (e : Option Expr) : SO B M0 Wo A n cx (trO t cx e) e := by
  intro env lay fr W ρ cs r s Q E T e' hQ
  cases e with
  | none =>
    obtain rfl := sJ e'
    exact wpAny_pure (hQ _ _ _ _ (After.refl T.ok) .none)
  | some x => rw [arm_evalOpt_some]; exact h x T e' hQ
theorem SE_slc {a b c : ME} {x : Expr} {lo hi : Option Expr} {m : Bool} {p q : Pos} (h1 : SE B M0 Wo A n cx a x) (h2 : SO B M0 Wo A n cx b lo) (h3 : SO B M0 Wo A n cx c hi) : SE B M0 Wo A n cx (eSlc m a b c) (.Subscript x (.Slice lo hi none q) p) := by
  intro env lay fr W ρ cs r s Q E T e hQ
  obtain ⟨g, hg, e⟩ := bind_eq e
  obtain ⟨l, hl, e⟩ := bind_eq e
  obtain ⟨h, hh, e⟩ := bind_eq e
  rw [arm_eval_Subscript]
  refine wpAny_bind (h1 T hg fun v₁ W₁ ρ₁ s₁ af₁ r₁ => wpAny_bind (wpAny_holding ?_))
  rw [arm_eval_Slice]
  refine wpAny_bind (h2 (T.after af₁) hl fun v₂ W₂ ρ₂ s₂ af₂ r₂ => ?_)
  have T₂ := (T.after af₁).after af₂
  refine wpAny_bind (wpAny_holding (h3 T₂ hh fun v₃ W₃ ρ₃ s₃ af₃ r₃ => ?_))
  refine wpAny_bind (wpAny_holding (wpAny_pure ?_))
  refine wpAny_newObj_type (T := "slice") (data := .fields #[v₂, v₃, .none]) ?_
  have r₁' := af₃.val af₂.ok (af₂.val af₁.ok r₁)
  have a0 : After B n Non W₃ ρ₃ h.2 s₃ W₃ ρ₃ h.2 { s₃ with heap := s₃.heap.push { cls := .type "slice", data := .fields #[v₂, v₃, .none] } } := af₃.ok.push _ (tk := s₃.toks)
  refine wpAny_bind (wpAny_standAt (wpAny_bind (inPython_no (slc_itemed a0.ok (a0.val af₃.ok r₁') e) ?_)))
  show wpAny _ A (operate [_, _] (getItem _ _) >>= _) Q E _
  refine wpAny_bind (wpAny_operate ?_)
  exact slcv_sound af₃.ok (T₂.after af₃).hn r₁' (af₃.val af₂.ok r₂) r₃ e fun v₄ W₄ ρ₄ s₄ af₄ r₄ => wpAny_bind (wpAny_letTemporaryGo (wpAny_pure (hQ _ _ _ _ (((af₁.trans af₂).trans af₃).trans af₄) r₄)))
theorem joinTx_cons (x : Tx) (r : List Tx) : joinTx [] (x :: r) = x ++ joinTx [] r := by
  cases r with
  | nil => exact (List.append_nil x).symm
  | cons y r => exact congrArg (· ++ joinTx [] (y :: r)) (List.append_nil x)
theorem strOf_app (a b : Tx) : ((⟨a.toArray⟩ : Str) ++ (⟨b.toArray⟩ : Str)) = ⟨(a ++ b).toArray⟩ := by
  show Str.append _ _ = _
  unfold Str.append
  simp
noncomputable def SP (B : Base) (M0 : List (Tx × Nat)) (Wo : Wd) (A : Around) (n : Nat) (cx : Cx) (c : ME) (e : Expr) : Prop :=
  ∀ ⦃env : Env⦄ ⦃lay : List Loc⦄ ⦃fr : Fr⦄ ⦃W : Addr → Prop⦄ ⦃ρ : List Addr⦄ ⦃cs : Cells⦄ ⦃r : AV × Cells⦄ ⦃s : Shared⦄ ⦃t : Tx⦄ ⦃Q E : Value → Shared → Prop⦄, At B M0 A n cx env lay fr W ρ cs s →
    c Wo n fr cs = some r → r.1.str? = some t → PostV B n W ρ cs s r.2 (.str t) Q → wpAny (model B.prog B.w) A (eval e env) Q E s
theorem SE.sp {a : ME} {x : Expr} (h : SE B M0 Wo A n cx a x) : SP B M0 Wo A n cx a x := by
  intro env lay fr W ρ cs r s t Q E T e ht hQ
  exact h T e (by rw [str?_eq ht]; exact hQ)
theorem SP_form {a : ME} {x : Expr} {p : Pos} (h : SE B M0 Wo A n cx a x) : SP B M0 Wo A n cx a (.FormattedValue x (-1) none p) := by
  intro env lay fr W ρ cs r s t Q E T e ht hQ
  refine wpAny_FormattedValue_plain (h T e fun v₁ W₁ ρ₁ s₁ af₁ r₁ => ?_)
  obtain ⟨tk, hv, bd⟩ := r₁.ofStr ht
  rw [hv]
  refine wpAny_formatField_str (hQ _ _ _ _ af₁ (.str _ _ bd)) (hQ _ _ _ _ (af₁.trans (af₁.ok.toks _)) (.str _ _ bd)) ?_
  rw [strOf_len]; exact lim_size bd
theorem joins_sound {t : Expr → ME} (h : ∀ x, SP B M0 Wo A n cx (t x) x) {env : Env} {lay : List Loc} {fr : Fr} {E : Value → Shared → Prop} (es : List Expr) : ∀ {W : Addr → Prop} {ρ : List Addr} {cs : Cells} {s : Shared} {r : List AV × Cells} {ts : List Tx} {acc : Tx} {Q : Str → Shared → Prop}, At B M0 A n cx env lay fr W ρ cs s →
    evEs Wo n (es.map t) fr cs = some r → allStr r.1 = some ts → (acc ++ joinTx [] ts).length ≤ lim → (∀ W' ρ' s', After B n Non W ρ cs s W' ρ' r.2 s' → Q ⟨(acc ++ joinTx [] ts).toArray⟩ s') → Joins (model B.prog B.w) A E (evalEach es env) ⟨acc.toArray⟩ Q s := by
  induction es with
  | nil =>
    intro W ρ cs s r ts acc Q T e ht hl hQ
    obtain rfl := sJ e
    obtain rfl := sJ ht
    refine Joins_nil (M := model B.prog B.w) (A := A) ?_
    have := hQ _ _ _ (After.refl T.ok)
    rw [show acc ++ joinTx [] [] = acc from List.append_nil acc] at this
    exact this
  | cons x xs ih =>
    intro W ρ cs s r ts acc Q T e ht hl hQ
    obtain ⟨q, hq, e⟩ := bind_eq e
    obtain ⟨p, hp, rfl⟩ := map_eq e
    obtain ⟨t₁, hx, ht⟩ := bind_eq ht
    obtain ⟨us, hu, rfl⟩ := map_eq ht
    rw [joinTx_cons, ← List.append_assoc] at hl hQ
    refine Joins_cons (M := model B.prog B.w) (A := A) (h x T hq hx fun v₁ W₁ ρ₁ s₁ af₁ r₁ => ?_)
    obtain ⟨tk, hv, bd⟩ := r₁.inv
    refine ⟨_, _, hv, ?_, ?_⟩
    · rw [strOf_app acc t₁, strOf_len]
      rw [List.length_append] at hl
      exact lim_size (Nat.le_trans (Nat.le_add_right _ _) hl)
    · rw [strOf_app acc t₁]
      exact ih (T.after af₁) hp hu hl fun W₂ ρ₂ s₂ af₂ => hQ _ _ _ (af₁.trans af₂)
theorem SE_fstr {t : Expr → ME} (h : ∀ x, SP B M0 Wo A n cx (t x) x) {xs : List Expr} {p : Pos} : SE B M0 Wo A n cx (eFstr (xs.map t)) (.JoinedStr xs p) := by
  intro env lay fr W ρ cs r s Q E T e hQ
  obtain ⟨q, hq, e⟩ := bind_eq e
  obtain ⟨ts, ht, e⟩ := bind_eq e
  obtain ⟨hl, e⟩ := if_eq e
  obtain rfl := sJ e
  have many : wpAny (model B.prog B.w) A (joinParts Str.empty (evalEach xs env)) Q E s := by
    refine wpAny_joinPartsRec _ _ _ _ ?_
    exact joins_sound h (E := E) (acc := []) (Q := fun out s₁ => out.length ≤ sizeLine ∧ Q (.str out s₁.toks) { s₁ with toks := s₁.toks + 1 }) xs T hq ht hl fun W₁ ρ₁ s₁ af₁ => ⟨by rw [strOf_len]; exact lim_size hl, hQ _ _ _ _ (af₁.trans (af₁.ok.toks _)) (.str _ _ hl)⟩
  rw [arm_eval_JoinedStr]
  cases xs with
  | nil => exact many
  | cons x xs =>
    cases xs with
    | nil =>
      obtain ⟨q', hq', e⟩ := bind_eq hq
      obtain rfl := sJ e
      obtain ⟨t₁, hx, ht⟩ := bind_eq ht
      obtain rfl := sJ ht
      exact h x T hq' hx hQ
    | cons => exact many
theorem boolV_sound (op : BoolOp) {t : Expr → ME} (h : ∀ x, SE B M0 Wo A n cx (t x) x) {env : Env} {lay : List Loc} {fr : Fr} {p : Pos} {E Q : Value → Shared → Prop} (es : List Expr) : ∀ {W : Addr → Prop} {ρ : List Addr} {cs : Cells} {s : Shared} {r : AV × Cells}, At B M0 A n cx env lay fr W ρ cs s →
    evAOV Wo n (boolOf op) (es.map t) fr cs = some r → PostV B n W ρ cs s r.2 r.1 Q → wpAny (model B.prog B.w) A (boolOp p op (evalEach es env)) Q E s := by
  induction es with
  | nil => intro W ρ cs s r T e hQ; exact nN e
  | cons x xs ih =>
    intro W ρ cs s r T e hQ
    obtain ⟨q, hq, e⟩ := bind_eq e
    obtain ⟨b, hb, e⟩ := bind_eq e
    cases xs with
    | nil =>
      obtain rfl := sJ e
      rw [arm_evalEach_cons, arm_evalEach_nil]
      exact h x T hq (bool?_eq hb ▸ hQ)
    | cons x2 xs2 =>
      rw [arm_evalEach_cons, arm_evalEach_cons]
      show wpAny _ A (do
        let v ← eval x env
        standAt p
        let t ← holding [v] (PySem.truthy v)
        match op, t with
        | .And, false | .Or, true => pure v
        | _, _ => boolOp p op (eval x2 env :: evalEach xs2 env)) Q E s
      refine wpAny_bind (h x T hq fun v₁ W₁ ρ₁ s₁ af₁ r₁ => wpAny_bind (wpAny_standAt ?_))
      have ht : truthy q.2 q.1 = some b := by unfold truthy; rw [hb]; rfl
      refine wpAny_bind (wpAny_holding (truthy_sound af₁.ok r₁ ht fun t' => ?_))
      have af := af₁.trans (af₁.ok.toks (n := n) (X := Non) t')
      have rv := (af₁.ok.toks (n := n) (X := Non) t').val af₁.ok r₁
      rw [bool?_eq hb] at rv
      cases op <;> cases b
      · obtain rfl := sJ e; exact wpAny_pure (hQ _ _ _ _ af rv)
      · exact ih (T.after af) e (af.post hQ)
      · exact ih (T.after af) e (af.post hQ)
      · obtain rfl := sJ e; exact wpAny_pure (hQ _ _ _ _ af rv)
theorem SE_bool {op : BoolOp} {t : Expr → ME} (h : ∀ x, SE B M0 Wo A n cx (t x) x) {xs : List Expr} {p : Pos} : SE B M0 Wo A n cx (eAO (boolOf op) (xs.map t)) (.BoolOp op xs p) := by
  intro env lay fr W ρ cs r s Q E T e hQ
  rw [arm_eval_BoolOp]
  exact boolV_sound op h xs T e hQ
theorem SE_lam (h : cx.lamOk = true) {args : Arguments} {body : Expr} {sc : Scope} {pos : Pos} (h1 : plainLam args = true) (h2 : noFree sc = true) : SE B M0 Wo A n cx eLam (.Lambda args body sc pos) := by
  intro env lay fr W ρ cs r s Q E T e hQ
  obtain rfl := sJ e
  exact T.X.lam h h1 h2 T.ok hQ
end
end Ev
namespace Ev
open PySem PySem.W PyProof.Rows PySem.SeqAt
noncomputable def ownP (sc : Scope) : List (Str × NameKind) := sc.names.filter fun p => (p.2 == .local || p.2 == .cell) && tx p.1 != [46, 48]
theorem ownNames_eq (sc : Scope) : ownNames sc = (ownP sc).map fun p => tx p.1 := rfl
noncomputable def locOf (L : Addr) (cells : List (Str × Addr)) (p : Str × NameKind) : Loc := if p.2 == .cell then .cel ((cells.lookup p.1).getD 0) else .ns L p.1
noncomputable def layOf (L : Addr) (cells : List (Str × Addr)) (sc : Scope) : List Loc := (ownP sc).map (locOf L cells)
theorem tx_inj {x y : Str} (h : tx x = tx y) : x = y := by rw [← str_tx x, ← str_tx y, h]
theorem mem_ownP {sc : Scope} {p : Str × NameKind} (h : p ∈ ownP sc) : p ∈ sc.names ∧ (p.2 = .local ∨ p.2 = .cell) := by
  obtain ⟨h1, h2⟩ := List.mem_filter.mp h
  simp only [Bool.and_eq_true, Bool.or_eq_true, beq_iff_eq] at h2
  exact ⟨h1, h2.1⟩
theorem lookup_of_mem {α β : Type} [BEq α] [LawfulBEq α] : ∀ {l : List (α × β)} {p : α × β}, (l.map (·.1)).Nodup → p ∈ l → l.lookup p.1 = some p.2
  | (a, b) :: r, p, h, m => by
    rw [List.map_cons, List.nodup_cons] at h
    rw [List.lookup_cons]
    rcases List.mem_cons.mp m with e | m
    · subst e; simp
    · have : (p.1 == a) = false := by
        apply beq_false_of_ne
        intro e; exact h.1 (e ▸ List.mem_map_of_mem (f := fun x => x.1) m)
      rw [this]; exact lookup_of_mem h.2 m
theorem mem_of_lookup' {α β : Type} [BEq α] [LawfulBEq α] : ∀ {l : List (α × β)} {n : α} {c : β}, l.lookup n = some c → (n, c) ∈ l
  | (k, v) :: r, n, c, h => by
    rw [List.lookup_cons] at h
    cases hb : n == k with
    | true => rw [hb] at h; cases h; rw [beq_iff_eq.mp hb]; exact List.mem_cons_self
    | false => rw [hb] at h; exact List.mem_cons_of_mem _ (mem_of_lookup' h)
theorem nodup_key {α β : Type} {l : List (α × β)} (h : (l.map (·.1)).Nodup) {i j : Nat} {p q : α × β} (hi : l[i]? = some p) (hj : l[j]? = some q) (e : p.1 = q.1) : i = j := by
  have h1 : (l.map (·.1))[i]? = some p.1 := by rw [List.getElem?_map, hi]; rfl
  have h2 : (l.map (·.1))[j]? = some q.1 := by rw [List.getElem?_map, hj]; rfl
  exact (List.getElem?_inj (List.getElem?_eq_some_iff.mp h1).1 h).mp (h1.trans (e ▸ h2.symm))
theorem ownP_nodup {sc : Scope} (h : (sc.names.map (·.1)).Nodup) : ((ownP sc).map (·.1)).Nodup := h.sublist (List.filter_sublist.map _)
noncomputable def clOf (env : Env) : List (Str × NameKind) → List (Str × Addr) → List (Str × Addr)
  | [], acc => acc
  | (x, k) :: r, acc => clOf env r (if k == .free then (x, (env.cells.lookup x).getD 0) :: acc else acc)
theorem closure_go {env : Env} (f : Str × NameKind → List (Str × Addr) → Sem (ForInStep (List (Str × Addr))))
    (hf : ∀ n k cs, f (n, k) cs = if k == .free then (do let a ← cellOf env n; pure (.yield ((n, a) :: cs))) else pure (.yield cs)) :
    ∀ (names : List (Str × NameKind)) (acc : List (Str × Addr)), (∀ p ∈ names, p.2 = .free → (env.cells.lookup p.1).isSome = true) → (forIn names acc f : Sem (List (Str × Addr))) = pure (clOf env names acc)
  | [], acc, _ => by rw [List.forIn_nil]; rfl
  | (x, k) :: r, acc, h => by
    rw [List.forIn_cons, hf, clOf]
    have hr := closure_go f hf r
    by_cases hk : k = .free
    · subst hk
      have hs := h (x, .free) List.mem_cons_self rfl
      obtain ⟨c, hc⟩ := Option.isSome_iff_exists.mp hs
      simp only [beq_self_eq_true, if_true, cellOf, hc, Option.getD_some, pure_bind]
      exact hr _ fun p hp => h p (List.mem_cons_of_mem _ hp)
    · have hb : (k == NameKind.free) = false := by simpa using hk
      simp only [hb, Bool.false_eq_true, if_false, pure_bind]
      exact hr _ fun p hp => h p (List.mem_cons_of_mem _ hp)
theorem closureFor_eq {sc : Scope} {env : Env} (h : ∀ p ∈ sc.names, p.2 = .free → (env.cells.lookup p.1).isSome = true) : closureFor sc env = pure (clOf env sc.names []) := by
  unfold closureFor
  show (forIn sc.names [] _ >>= fun cs => pure cs) = _
  rw [closure_go (env := env) _ (fun n k cs => ?_) _ _ h]
  · rfl
  · by_cases hk : (k == NameKind.free) = true
    · simp only [hk, if_true]
    · simp only [hk, if_false, Bool.false_eq_true]
theorem clOf_acc {env : Env} {x : Str} {c : Addr} (hc : env.cells.lookup x = some c) : ∀ {names : List (Str × NameKind)} {acc : List (Str × Addr)}, acc.lookup x = some c → (clOf env names acc).lookup x = some c
  | [], acc, h => h
  | (y, k) :: r, acc, h => by
    rw [clOf]
    refine clOf_acc hc ?_
    split
    · rw [List.lookup_cons]
      cases hb : x == y with
      | true => rw [← beq_iff_eq.mp hb, hc]; rfl
      | false => exact h
    · exact h
theorem clOf_mem {env : Env} {x : Str} {c : Addr} (hc : env.cells.lookup x = some c) : ∀ {names : List (Str × NameKind)} {acc : List (Str × Addr)}, (x, NameKind.free) ∈ names → (clOf env names acc).lookup x = some c
  | (y, k) :: r, acc, h => by
    rw [clOf]
    rcases List.mem_cons.mp h with e | h
    · cases e
      refine clOf_acc hc ?_
      simp [hc]
    · exact clOf_mem hc h
theorem cellsFrom_app : ∀ (names : List (Str × NameKind)) (n : Nat) (acc : List (Str × Addr)), cellsFrom n names acc = cellsFrom n names [] ++ acc
  | [], _, _ => rfl
  | (x, k) :: r, n, acc => by
    simp only [cellsFrom]
    split
    · rw [cellsFrom_app r (n + 1) ((x, n) :: acc), cellsFrom_app r (n + 1) [(x, n)], List.append_assoc]; rfl
    · exact cellsFrom_app r n acc
theorem cellsFrom_some {x : Str} : ∀ {names : List (Str × NameKind)} {n : Nat} {acc : List (Str × Addr)}, ((x, NameKind.cell) ∈ names ∨ (acc.lookup x).isSome = true) → ((cellsFrom n names acc).lookup x).isSome = true
  | [], _, _, h => h.elim (fun h => nomatch h) id
  | (y, k) :: r, n, acc, h => by
    rw [cellsFrom]
    split
    · rename_i hk
      refine cellsFrom_some ?_
      rcases h with h | h
      · rcases List.mem_cons.mp h with e | h
        · cases e; exact .inr (by simp)
        · exact .inl h
      · refine .inr ?_
        rw [List.lookup_cons]
        split
        · rfl
        · exact h
    · rename_i hk
      refine cellsFrom_some ?_
      rcases h with h | h
      · rcases List.mem_cons.mp h with e | h
        · cases e; simp at hk
        · exact .inl h
      · exact .inr h
theorem cellsFrom_mem {x : Str} {c : Addr} : ∀ {names : List (Str × NameKind)} {n : Nat} {acc : List (Str × Addr)}, (x, c) ∈ cellsFrom n names acc → (x, NameKind.cell) ∈ names ∨ (x, c) ∈ acc
  | [], _, _, h => .inr h
  | (y, k) :: r, n, acc, h => by
    rw [cellsFrom] at h
    split at h
    · rename_i hk
      rcases cellsFrom_mem h with h | h
      · exact .inl (List.mem_cons_of_mem _ h)
      · rcases List.mem_cons.mp h with e | h
        · cases e; rw [beq_iff_eq.mp hk]; exact .inl List.mem_cons_self
        · exact .inr h
    · exact (cellsFrom_mem h).imp (List.mem_cons_of_mem _) id
theorem pushCells_size : ∀ (names : List (Str × NameKind)) (h : Heap), h.objs.size ≤ (pushCells h names).objs.size
  | [], h => Nat.le_refl _
  | (x, k) :: r, h => by
    rw [pushCells]
    split
    · exact Nat.le_trans (by rw [Heap.size_push]; exact Nat.le_succ _) (pushCells_size r _)
    · exact pushCells_size r h
section
variable {M : Model} {A : Around} {E : Value → Shared → Prop} {s : Shared}
noncomputable abbrev compEnv (scope : Scope) (L : Addr) (cells : List (Str × Addr)) (env : Env) : Env :=
  { scope := scope, locals := L, globals := env.globals, cells := cells, qual := env.qual, func := none, code := env.code, frame := env.frame, builtins := env.builtins }
theorem newEnv_comp {scope : Scope} {cl : List (Str × Addr)} {env : Env} {Q : Env → Shared → Prop}
    (hQ : Q (compEnv scope s.heap.objs.size (cellsFrom (s.heap.objs.size + 1) scope.names cl) env) { s with heap := pushCells (s.heap.push { cls := .type "dict", data := .dict #[] }) scope.names }) :
    wpAny M A (newFunctionEnv scope env.globals cl [] env.qual none .none (some env)) Q E s := by
  simp only [newFunctionEnv, Option.isSome_some, if_true]
  refine wpAny_bind (wpAny_alloc ?_)
  refine wpAny_bind (wpAny_layCells _ (fun name kind cells => by cases hkc : kind == NameKind.cell <;> simp [hkc]) _ _ _ _ ?_)
  rw [show ({ s with heap := s.heap.push { cls := .type "dict", data := .dict #[] } } : Shared).heap.objs.size = s.heap.objs.size + 1 from Heap.size_push ..]
  refine wpAny_bind ?_
  rw [List.forIn_nil]
  exact wpAny_pure (wpAny_pure hQ)
end
section
variable {B : Base} {n : Nat} {X W W' : Addr → Prop} {ρ ρ' : List Addr} {cs cs' : Cells} {s : Shared} {lay own : List Loc} {fr fo : Fr} {h : Heap}
noncomputable def Plus (W : Addr → Prop) (a b : Nat) : Addr → Prop := fun x => W x ∨ (a ≤ x ∧ x < b)
theorem Ok.room (o : Ok B W ρ cs s) {h' : Heap} {tk : Nat} (hsz : s.heap.objs.size ≤ h'.objs.size) (hk : ∀ a o, s.heap.get? a = some o → h'.get? a = some o) :
    After B n X W ρ cs s (Plus W s.heap.objs.size h'.objs.size) ρ cs { s with heap := h', toks := tk } :=
  (After.refl o).other (fun _ => False) hsz (fun a o e _ => hk a o e) (fun _ x => x.elim) (fun _ x => x.elim) (fun _ _ x => x) (fun _ _ x => x) (fun a l => ⟨fun w => w.elim id fun w => absurd l (Nat.not_lt.mpr w.1), .inl⟩)
    fun a w => w.elim (fun w => Nat.lt_of_lt_of_le (o.mem.wlt a w) hsz) fun w => w.2
theorem apart_of_ne {l l' : Loc} (h : l.addr ≠ l'.addr) : l.apart l' := by
  cases l <;> cases l' <;> simp only [Loc.apart, Loc.addr] at h ⊢
  · exact fun e => absurd e h
  · exact h
  · exact fun e => h e.symm
  · exact h
theorem Frm.more (F : Frm B lay fr W ρ h) (G : Frm B own fo W ρ h) (hd : ∀ l ∈ lay, ∀ l' ∈ own, l.addr ≠ l'.addr) : Frm B (lay ++ own) (fr ++ fo) W ρ h := by
  refine ⟨by rw [List.length_append, List.length_append, F.len, G.len], fun i l x hl hx => ?_, fun l hl => (List.mem_append.mp hl).elim (F.own l) (G.own l), fun i j l l' hi hj hij => ?_⟩
  · by_cases hi : i < lay.length
    · rw [List.getElem?_append_left hi] at hl
      rw [List.getElem?_append_left (F.len ▸ hi)] at hx
      exact F.rel i l x hl hx
    · rw [List.getElem?_append_right (Nat.le_of_not_lt hi)] at hl
      rw [List.getElem?_append_right (F.len ▸ Nat.le_of_not_lt hi)] at hx
      exact G.rel _ l x hl (F.len ▸ hx)
  · by_cases h1 : i < lay.length <;> by_cases h2 : j < lay.length
    · rw [List.getElem?_append_left h1] at hi
      rw [List.getElem?_append_left h2] at hj
      exact F.apart i j l l' hi hj hij
    · rw [List.getElem?_append_left h1] at hi
      rw [List.getElem?_append_right (Nat.le_of_not_lt h2)] at hj
      exact apart_of_ne (hd l (List.mem_of_getElem? hi) l' (List.mem_of_getElem? hj))
    · rw [List.getElem?_append_right (Nat.le_of_not_lt h1)] at hi
      rw [List.getElem?_append_left h2] at hj
      exact apart_of_ne (Ne.symm (hd l' (List.mem_of_getElem? hj) l (List.mem_of_getElem? hi)))
    · rw [List.getElem?_append_right (Nat.le_of_not_lt h1)] at hi
      rw [List.getElem?_append_right (Nat.le_of_not_lt h2)] at hj
      exact G.apart _ _ l l' hi hj (by omega)
theorem Frm.forget (F : Frm B lay fr W ρ h) (hl : fo.length = fr.length) (hf : ∀ (i : Nat) (x : Option AV), fo[i]? = some x → x = none ∨ fr[i]? = some x) : Frm B lay fo W ρ h := by
  refine ⟨by rw [hl]; exact F.len, fun i l x e g => ?_, F.own, F.apart⟩
  rcases hf i x g with rfl | hx
  · have hi : i < fr.length := hl ▸ (List.getElem?_eq_some_iff.mp g).1
    have r := F.rel i l _ e (show fr[i]? = some fr[i] by simp [hi])
    cases l with
    | ns L y => obtain ⟨m, hm, _⟩ := r; exact ⟨m, hm, trivial⟩
    | cel c => obtain ⟨v, hv, _⟩ := r; exact ⟨v, hv, trivial⟩
  · exact F.rel i l x e hx
theorem Frm.ofOwn {sc : Scope} {L : Addr} {cells : List (Str × Addr)} (hnd : (sc.names.map (·.1)).Nodup) (hlen : fo.length = (ownP sc).length)
    (hloc : ∀ (i : Nat) (p : Str × NameKind) (x : Option AV), (ownP sc)[i]? = some p → fo[i]? = some x → p.2 = .local → ∃ m, h.Ns L m ∧ OptRel B h W ρ x (m p.1))
    (hcel : ∀ (i : Nat) (p : Str × NameKind) (x : Option AV), (ownP sc)[i]? = some p → fo[i]? = some x → p.2 = .cell → ∃ c v, cells.lookup p.1 = some c ∧ h.IsCell c v ∧ OptRel B h W ρ x v)
    (hapart : ∀ x y c, cells.lookup x = some c → cells.lookup y = some c → (x, NameKind.cell) ∈ sc.names → (y, NameKind.cell) ∈ sc.names → x = y)
    (hL : ∀ x c, cells.lookup x = some c → (x, NameKind.cell) ∈ sc.names → c ≠ L)
    (hW : W L ∧ L ∉ ρ ∧ B.h₀.objs.size ≤ L) (hWc : ∀ x c, cells.lookup x = some c → (x, NameKind.cell) ∈ sc.names → W c ∧ c ∉ ρ ∧ B.h₀.objs.size ≤ c) : Frm B (layOf L cells sc) fo W ρ h := by
  have at' : ∀ {i : Nat} {l : Loc}, (layOf L cells sc)[i]? = some l → ∃ p x, (ownP sc)[i]? = some p ∧ fo[i]? = some x ∧ p ∈ sc.names ∧ ((p.2 = .local ∧ l = .ns L p.1) ∨ (p.2 = .cell ∧ ∃ c, cells.lookup p.1 = some c ∧ l = .cel c)) := by
    intro i l hl
    unfold layOf at hl
    rw [List.getElem?_map] at hl
    obtain ⟨p, hp, rfl⟩ := Option.map_eq_some_iff.mp hl
    have hi : i < fo.length := hlen ▸ (List.getElem?_eq_some_iff.mp hp).1
    have hx : fo[i]? = some fo[i] := by simp [hi]
    have hm := mem_ownP (List.mem_of_getElem? hp)
    refine ⟨p, _, hp, hx, hm.1, ?_⟩
    rcases hm.2 with h1 | h1
    · exact .inl ⟨h1, by unfold locOf; rw [h1]; rfl⟩
    · obtain ⟨c, v, hc, _⟩ := hcel i p _ hp hx h1
      exact .inr ⟨h1, c, hc, by unfold locOf; rw [h1, hc]; rfl⟩
  refine ⟨by unfold layOf; rw [List.length_map, hlen], fun i l x hl hx => ?_, fun l hl => ?_, fun i j l l' hi hj hij => ?_⟩
  · obtain ⟨p, x', hp, hx', hm, hc⟩ := at' hl
    rw [hx] at hx'; cases hx'
    rcases hc with ⟨h1, rfl⟩ | ⟨h1, c, hc, rfl⟩
    · exact hloc i p x hp hx h1
    · obtain ⟨c', v, hc', r⟩ := hcel i p x hp hx h1
      rw [hc] at hc'; cases hc'
      exact ⟨v, r⟩
  · obtain ⟨i, hl⟩ := List.mem_iff_getElem?.mp hl
    obtain ⟨p, x', hp, hx', hm, hc⟩ := at' hl
    rcases hc with ⟨h1, rfl⟩ | ⟨h1, c, hc, rfl⟩
    · exact hW
    · exact hWc _ _ hc (by rw [← h1]; exact hm)
  · obtain ⟨p, _, hp, _, hpm, hpc⟩ := at' hi
    obtain ⟨q, _, hq, _, hqm, hqc⟩ := at' hj
    have hne : p.1 ≠ q.1 := fun e => hij (nodup_key (ownP_nodup hnd) hp hq e)
    rcases hpc with ⟨h1, rfl⟩ | ⟨h1, c, hc, rfl⟩ <;> rcases hqc with ⟨h2, rfl⟩ | ⟨h2, c', hc', rfl⟩
    · exact fun _ => hne
    · exact fun e => hL _ _ hc' (by rw [← h2]; exact hqm) e.symm
    · exact fun e => hL _ _ hc (by rw [← h1]; exact hpm) e.symm
    · intro e; subst e
      exact hne (hapart _ _ _ hc hc' (by rw [← h1]; exact hpm) (by rw [← h2]; exact hqm))
end
end Ev
namespace Ev
open PySem PySem.W PyProof.Rows PySem.SeqAt
theorem numbered_lookup {t : Tx} : ∀ {l : List Tx} {n i : Nat}, (numbered n l).lookup t = some i → ∃ j, i = n + j ∧ l[j]? = some t
  | [], _, _, h => nomatch h
  | x :: r, n, i, h => by
    rw [numbered, List.lookup_cons] at h
    cases hb : t == x with
    | true => rw [hb] at h; cases h; exact ⟨0, rfl, by rw [beq_iff_eq.mp hb]; rfl⟩
    | false =>
      rw [hb] at h
      obtain ⟨j, rfl, hj⟩ := numbered_lookup h
      exact ⟨j + 1, by omega, by simpa using hj⟩
theorem mem_unique {α β : Type} {l : List (α × β)} (h : (l.map (·.1)).Nodup) {p q : α × β} (hp : p ∈ l) (hq : q ∈ l) (e : p.1 = q.1) : p = q := by
  obtain ⟨i, hi⟩ := List.mem_iff_getElem?.mp hp
  obtain ⟨j, hj⟩ := List.mem_iff_getElem?.mp hq
  have := nodup_key h hi hj e
  subst this
  rw [hi] at hj; cases hj; rfl
structure ScOk (cx : Cx) (sc : Scope) : Prop where
  kind : sc.kind = .function
  co : sc.isCoroutine = false
  nd : (sc.names.map (·.1)).Nodup
  free : ∀ p ∈ sc.names, p.2 = .free → (kindOf cx p.1 = some .cell ∨ kindOf cx p.1 = some .free) ∧ (cx.slots.lookup (tx p.1)).isSome = true
theorem ScOk.of {cx : Cx} {sc : Scope} (h : scopeOk cx sc = true) : ScOk cx sc := by
  unfold scopeOk at h
  simp only [Bool.and_eq_true, beq_iff_eq, Bool.not_eq_true', decide_eq_true_eq, List.all_eq_true, Bool.or_eq_true, bne_iff_ne, ne_eq] at h
  obtain ⟨⟨⟨h1, h2⟩, h3⟩, h4⟩ := h
  refine ⟨h1, h2, h3, fun p hp hf => ?_⟩
  rcases h4 p hp with h5 | h5
  · exact absurd hf h5
  · exact h5.1
noncomputable abbrev innEnv (sc : Scope) (L N : Addr) (env : Env) : Env := { compEnv sc L (cellsFrom N sc.names (clOf env sc.names [])) env with scope := relabel sc env }
noncomputable abbrev innCells (sc : Scope) (N : Addr) (env : Env) : List (Str × Addr) := cellsFrom N sc.names (clOf env sc.names [])
section
variable {B : Base} {M0 : List (Tx × Nat)} {cx : Cx} {A : Around} {env : Env} {lay : List Loc}
theorem inner_kind {sc : Scope} {x : Str} {k : NameKind} (h : kindOf (cx.inner sc) x = some k) : ∃ p ∈ sc.names, p.1 = x ∧ k = if p.2 == .free && kindOf cx p.1 == some .cell then .cell else p.2 := by
  have := mem_of_lookup' (show (cx.inner sc).kinds.lookup x = some k from h)
  obtain ⟨p, hp, e⟩ := List.mem_map.mp this
  refine ⟨p, hp, ?_⟩
  split at e
  · rename_i hc; cases e; rw [if_pos hc]; exact ⟨rfl, rfl⟩
  · rename_i hc; rw [if_neg hc]; cases e; exact ⟨rfl, rfl⟩
theorem innCells_own {sc : Scope} {N : Addr} {x : Str} (hx : (x, NameKind.cell) ∈ sc.names) : ∃ c, (innCells sc N env).lookup x = some c ∧ (cellsFrom N sc.names []).lookup x = some c := by
  obtain ⟨c, hc⟩ := Option.isSome_iff_exists.mp (cellsFrom_some (n := N) (acc := []) (.inl hx))
  refine ⟨c, ?_, hc⟩
  show (cellsFrom N sc.names (clOf env sc.names [])).lookup x = some c
  rw [cellsFrom_app, List.lookup_append, hc]; rfl
theorem EnvX.inner (X : EnvX B M0 A cx env lay) {sc : Scope} (hk : ScOk cx sc) {L N : Addr} : EnvX B M0 A (cx.inner sc) (innEnv sc L N env) (lay ++ layOf L (innCells sc N env) sc) := by
  have kindEq : ∀ x, env.kindOf x = kindOf cx x := fun x => by unfold Env.kindOf kindOf; rw [X.names]
  have uniq : ∀ {p q : Str × NameKind}, p ∈ sc.names → q ∈ sc.names → p.1 = q.1 → p = q := fun hp hq e => mem_unique hk.nd hp hq e
  have slots : ∀ {x : Str} {i : Nat}, (cx.inner sc).slots.lookup (tx x) = some i → (∃ j q, i = cx.n + j ∧ (ownP sc)[j]? = some q ∧ q.1 = x) ∨ (∃ q ∈ sc.names, q.2 = .free ∧ q.1 = x ∧ cx.slots.lookup (tx x) = some i) := by
    intro x i h
    have h : (numbered cx.n (ownNames sc) ++ (sc.names.filterMap fun p => if p.2 == .free then (cx.slots.lookup (tx p.1)).map fun i => (tx p.1, i) else none)).lookup (tx x) = some i := h
    rw [List.lookup_append] at h
    cases h1 : (numbered cx.n (ownNames sc)).lookup (tx x) with
    | some i' =>
      rw [h1] at h; cases h
      obtain ⟨j, rfl, hj⟩ := numbered_lookup h1
      rw [ownNames_eq, List.getElem?_map] at hj
      obtain ⟨q, hq, e⟩ := Option.map_eq_some_iff.mp hj
      exact .inl ⟨j, q, rfl, hq, tx_inj e⟩
    | none =>
      rw [h1] at h
      obtain ⟨q, hq, e⟩ := List.mem_filterMap.mp (mem_of_lookup' (show List.lookup (tx x) _ = some i from h))
      split at e
      · rename_i hf
        obtain ⟨i', hi', e⟩ := Option.map_eq_some_iff.mp e
        have h1 := (Prod.mk.inj e).1
        have h2 := (Prod.mk.inj e).2
        subst h2
        exact .inr ⟨q, hq, beq_iff_eq.mp hf, tx_inj h1, by rw [← h1]; exact hi'⟩
      · exact nN e
  have atOwn : ∀ {j : Nat} {q : Str × NameKind}, (ownP sc)[j]? = some q → (lay ++ layOf L (innCells sc N env) sc)[cx.n + j]? = some (locOf L (innCells sc N env) q) := by
    intro j q hq
    rw [List.getElem?_append_right (by rw [X.len]; omega), X.len, show cx.n + j - cx.n = j by omega]
    unfold layOf
    rw [List.getElem?_map, hq]; rfl
  refine { kind := hk.kind, names := ?_, globals := X.globals, builtins := X.builtins, globs := X.globs, loc := fun x i hl hi => ?_, cel := fun x i hl hi => ?_, meths := X.meths, len := ?_, lam := fun h => (nomatch h), gen := fun h => (nomatch h) }
  · show sc.names.map _ = sc.names.map _
    refine List.map_congr_left fun p hp => ?_
    obtain ⟨y, k⟩ := p
    rw [X.kind]
    simp only [beq_self_eq_true, Bool.and_true, kindEq]
  · obtain ⟨p, hp, rfl, hpk⟩ := inner_kind hl
    have hp2 : p.2 = .local := by
      split at hpk
      · cases hpk
      · exact hpk.symm
    rcases slots hi with ⟨j, q, rfl, hq, e⟩ | ⟨q, hq, hf, e, _⟩
    · have := uniq (mem_ownP (List.mem_of_getElem? hq)).1 hp e
      subst this
      rw [atOwn hq]
      unfold locOf; rw [hp2]; rfl
    · have := uniq hq hp e
      subst this
      rw [hf] at hp2; cases hp2
  · obtain ⟨p, hp, rfl, hpk⟩ := inner_kind (k := if kindOf (cx.inner sc) x = some .cell then .cell else .free) (x := x) (by rcases hl with h | h <;> rw [h] <;> rfl)
    rcases slots hi with ⟨j, q, rfl, hq, e⟩ | ⟨q, hq, hf, e, hsl⟩
    · have hqm := mem_ownP (List.mem_of_getElem? hq)
      have := uniq hqm.1 hp e
      subst this
      have hq2 : q.2 = .cell := by
        rcases hqm.2 with h | h
        · rw [h] at hpk
          rcases hl with h' | h' <;> rw [h'] at hpk <;> simp at hpk
        · exact h
      obtain ⟨c, hc, _⟩ := innCells_own (env := env) (N := N) (sc := sc) (x := q.1) (by rw [← hq2]; exact hqm.1)
      refine ⟨c, hc, ?_⟩
      rw [atOwn hq]
      unfold locOf; rw [hq2, hc]; rfl
    · have := uniq hq hp e
      subst this
      have hfr := hk.free q hq hf
      obtain ⟨c, hc, hlc⟩ := X.cel q.1 i hfr.1 hsl
      refine ⟨c, ?_, ?_⟩
      · show (cellsFrom N sc.names (clOf env sc.names [])).lookup q.1 = some c
        rw [cellsFrom_app, List.lookup_append]
        have hn : (cellsFrom N sc.names []).lookup q.1 = none := by
          cases h1 : (cellsFrom N sc.names []).lookup q.1 with
          | none => rfl
          | some c' =>
            rcases cellsFrom_mem (mem_of_lookup' h1) with h2 | h2
            · have := uniq h2 hq rfl
              rw [← this] at hf; cases hf
            · exact nL h2
        rw [hn]
        exact clOf_mem hc (by rw [← hf]; exact hq)
      · rw [List.getElem?_append_left (List.getElem?_eq_some_iff.mp hlc).1]; exact hlc
  · rw [List.length_append, X.len]
    show cx.n + (layOf L (innCells sc N env) sc).length = cx.n + (ownNames sc).length
    unfold layOf; rw [List.length_map, ownNames_eq, List.length_map]
theorem EnvX.clos (X : EnvX B M0 A cx env lay) {sc : Scope} (hk : ScOk cx sc) : closureFor sc env = pure (clOf env sc.names []) := by
  refine closureFor_eq fun p hp hf => ?_
  obtain ⟨h1, h2⟩ := hk.free p hp hf
  obtain ⟨i, hi⟩ := Option.isSome_iff_exists.mp h2
  obtain ⟨c, hc, _⟩ := X.cel p.1 i h1 hi
  rw [hc]; rfl
end
end Ev
namespace Ev
open PySem PySem.W PyProof.Rows PySem.SeqAt
theorem clOf_nil {env : Env} : ∀ {names : List (Str × NameKind)} {acc : List (Str × Addr)}, (∀ p ∈ names, p.2 ≠ .free) → clOf env names acc = acc
  | [], _, _ => rfl
  | (x, k) :: r, acc, h => by
    have hk : (k == NameKind.free) = false := by
      have : k ≠ .free := h (x, k) List.mem_cons_self
      simpa using this
    unfold clOf
    rw [hk, if_neg (by decide)]
    exact clOf_nil fun p hp => h p (List.mem_cons_of_mem _ hp)
section
variable {B : Base} {A : Around}
noncomputable def Tells (B : Base) (env : Env) (e : Expr) (x : Str) (tk : Tok) (s : Shared) : Prop :=
  ∀ (A : Around) (Q : Value → Shared → Prop) (E : Value → Shared → Prop) (k₀ : Nat), (∀ k, Q (.str x tk) { s with toks := k }) → wpAny (model B.prog B.w) A (eval e env) Q E { s with toks := k₀ }
theorem says_name {env : Env} {n : Str} {p : Pos} {m : Str → Option Value} {x : Str} {tk : Tok} {s : Shared} (hn : s.heap.Ns env.locals m) (hv : m n = some (.str x tk)) (hk : env.scope.kind = .function) (hl : env.scope.names.lookup n = some .local) (hd : (n == ("__debug__" : Str)) = false) : Tells B env (.Name n p) x tk s :=
  fun A Q E k₀ h => ldG (s := { s with toks := k₀ }) hn hv (h k₀) hk hl hd
theorem says_repl {env : Env} {e : Expr} {nm : Str} {ap q p1 p2 : Pos} {k1 k2 : Nat} {c : Nat} {b : Str} {x : Tx} {tk : Tok} {s : Shared} (hb : plainBase e = true) (hline : ap.endLine = q.line) (hnm : mnOf nm = .replace) (hc : c ∉ x) (h : Tells B env e (⟨x.toArray⟩ : Str) tk s) :
    Tells B env (.Call (.Attribute e nm ap) [.Constant (.str ⟨#[c]⟩) k1 p1, .Constant (.str b) k2 p2] [] q) (⟨x.toArray⟩ : Str) tk s := by
  intro A Q E k₀ hQ
  have hns : NoStar [.Constant (.str ⟨#[c]⟩) k1 p1, .Constant (.str b) k2 p2] := fun env pos => ⟨rfl, rfl⟩
  rw [arm_eval_Call, attributeBase_plain hb]
  refine wpAny_bind (h A _ E k₀ fun k => wpAny_bind (wpAny_standAt ?_))
  refine methodCall_gen (ks := []) hline hns (by decide : 2 < 20) (Nat.zero_le _) rfl fun pl => ?_
  rw [show nm = "replace" from mnOf_name hnm (fun z => nomatch z)]
  refine GM.replace ?_
  refine callWith_gen (hns env q).1 rfl ?_
  show wpAny _ A (spliced [(false, eval (.Constant (.str ⟨#[c]⟩) k1 p1) env), (false, eval (.Constant (.str b) k2 p2) env)]) _ E _
  rw [spliced, arm_eval_Constant]
  refine wpAny_bind (wpAny_mkText (wpAny_bind (wpAny_pure (wpAny_bind (wpAny_holding ?_)))))
  rw [spliced, arm_eval_Constant]
  refine wpAny_bind (wpAny_mkText (wpAny_bind (wpAny_pure (wpAny_bind (wpAny_holding ?_)))))
  rw [spliced]
  refine wpAny_pure (wpAny_pure (wpAny_pure (wpAny_pure ⟨.plain (fun a e => nomatch e), ?_⟩)))
  have hocc : Builtin.Str.occurrences ⟨x.toArray⟩ ⟨#[c]⟩ 0 (⟨x.toArray⟩ : Str).length ((⟨x.toArray⟩ : Str).length + 1) = [] :=
    List.eq_nil_iff_forall_not_mem.mpr fun i hi => hc (List.mem_of_getElem? ((StrLaws.subAt_one ⟨x.toArray⟩ c i).mp (StrLaws.occ_spec _ _ _ _ _ i hi)))
  have hg := gives_str_replace ⟨x.toArray⟩ ⟨#[c]⟩ b tk k (k + 1) (fun h => by rw [hocc] at h; exact tF h)
  rw [hocc] at hg
  exact call_gives F.slot_str_replace (typeIs_str _ _ _) F.entry_str_replace (F.args_str_replace_3 _ _ _) hg (hQ (k + 1 + 1))
end
theorem passing_all (n j : Nat) : ∀ i, (passing (fun _ => true) n 0)[j]? = some i → i = j := fun i h => by
  unfold passing at h
  rw [List.drop_zero, List.filter_eq_self.mpr fun _ _ => rfl] at h
  obtain ⟨h1, h2⟩ := List.getElem?_eq_some_iff.mp h
  rw [List.getElem_range] at h2
  exact h2.symm
theorem passing_len (n : Nat) : (passing (fun _ => true) n 0).length = n := by
  unfold passing
  rw [List.drop_zero, List.filter_eq_self.mpr fun _ _ => rfl, List.length_range]
theorem strsOf {B : Base} {h : Heap} {W : Addr → Prop} {ρ : List Addr} {xs : List AV} {vs : List Value} (r : VRels B h W ρ xs vs) : ∀ {ts : List Tx}, allStr xs = some ts → ∀ (j : Nat) (v : Value), vs[j]? = some v → ∃ t u, ts[j]? = some t ∧ v = .str ⟨t.toArray⟩ u :=
  r.ind (P := fun xs vs => ∀ {ts : List Tx}, allStr xs = some ts → ∀ (j : Nat) (v : Value), vs[j]? = some v → ∃ t u, ts[j]? = some t ∧ v = .str ⟨t.toArray⟩ u) (fun _ j v hj => (nomatch hj)) fun q _ ih ts e j v hj => by
    obtain ⟨t, ht, e⟩ := bind_eq e
    obtain ⟨r, hr, rfl⟩ := map_eq e
    obtain ⟨u, hu, _⟩ := q.ofStr ht
    cases j with
    | zero => exact ⟨t, u, rfl, (sJ hj).symm.trans hu⟩
    | succ j => exact ih hr j v hj
theorem strs_len {xs : List AV} : ∀ {ts : List Tx}, allStr xs = some ts → ts.length = xs.length := by
  induction xs with
  | nil => intro ts e; obtain rfl := sJ e; rfl
  | cons x xs ih =>
    intro ts e
    obtain ⟨t, ht, e⟩ := bind_eq e
    obtain ⟨r, hr, rfl⟩ := map_eq e
    exact congrArg (· + 1) (ih hr)
structure GScope (sc : Scope) (x : Str) : Prop where
  co : sc.isCoroutine = false
  free : ∀ p ∈ sc.names, p.2 = .local
  dot : sc.names.lookup (".0" : Str) = some NameKind.local
  var : sc.names.lookup x = some NameKind.local
  kind : sc.kind = .function
  dbg : (x == ("__debug__" : Str)) = false
theorem gScope_eq {sc : Scope} {x : Str} (h : gScope sc x = true) : GScope sc x := by
  unfold gScope at h
  obtain ⟨h1, h⟩ := aT h
  obtain ⟨h2, h⟩ := aT h
  obtain ⟨h3, h⟩ := aT h
  obtain ⟨h4, h⟩ := aT h
  obtain ⟨h5, h6⟩ := aT h
  exact ⟨(Bool.not_eq_true' _).mp h1, fun p hp => by
    have := List.all_eq_true.mp h2 p hp
    simpa using this, of_decide_eq_true h3, of_decide_eq_true h4, by simpa using h5, (Bool.not_eq_true' _).mp h6⟩
theorem litOf_eq {e : Expr} {t : Tx} (h : litOf e = some t) : ∃ s k p, e = .Constant (.str s) k p ∧ tx s = t ∧ t.length ≤ lim := by
  cases e with
  | Constant c k p =>
    cases c with
    | str s =>
      obtain ⟨h1, h⟩ := if_eq (show (if (tx s).length ≤ lim then some (tx s) else none) = some t from h)
      obtain rfl := sJ h
      exact ⟨s, k, p, rfl, rfl, h1⟩
    | _ => exact nN h
  | _ => exact nN h
theorem genEx_eq {e : Expr} {z : Expr × List Comprehension × Scope × Pos} (h : genEx e = some z) : e = .GeneratorExp z.1 z.2.1 z.2.2.1 z.2.2.2 := by
  cases e with
  | GeneratorExp => obtain rfl := sJ h; rfl
  | _ => exact nN h
section
variable {B : Base} {M0 : List (Tx × Nat)} {Wo : Wd} {cx : Cx} {A : Around} {n f : Nat}
theorem SE_gj (R : Rx B M0 Wo A) (hg : ∀ {env lay}, EnvX B M0 A cx env lay → genHook B A env) (deep : A.depth < recursionLimit) {a : ME} {sep nm x y : Str} {ap p px py pg ps : Pos} {ks : Nat} {elt : Expr} {sc : Scope} {ban : List Nat} (hline : ap.endLine = p.line) (hnm : mnOf nm = .join) (hsep : (tx sep).length ≤ lim) (G : GScope sc x)
    (h1 : SE B M0 Wo A n cx a (.Name y py)) (hel : ∀ {cenv m t u} {s : Shared}, s.heap.Ns cenv.locals m → m x = some (.str ⟨t.toArray⟩ u) → cenv.scope = sc → (∀ c ∈ ban, c ∉ t) → Tells B cenv elt ⟨(t : Tx).toArray⟩ u s) :
    SE B M0 Wo A n cx (eGJ ban (tx sep) a) (.Call (.Attribute (.Constant (.str sep) ks ps) nm ap) [.GeneratorExp elt [⟨.Name x px, .Name y py, [], 0⟩] sc pg] [] p) := by
  intro env lay fr W ρ cs r s Q E T e hQ
  obtain ⟨q, hq, e⟩ := bind_eq e
  obtain ⟨ts, hts, e⟩ := bind_eq e
  obtain ⟨ys, hys, hstr⟩ := bind_eq hts
  obtain ⟨hok, e⟩ := if_eq e
  obtain rfl := sJ e
  obtain ⟨hban, hlen⟩ := aT hok
  have hlen := of_decide_eq_true hlen
  have hns : NoStar [.GeneratorExp elt [⟨.Name x px, .Name y py, [], 0⟩] sc pg] := fun env pos => ⟨rfl, rfl⟩
  rw [arm_eval_Call, attributeBase_plain rfl, arm_eval_Constant]
  refine wpAny_bind (wpAny_mkText (wpAny_bind (wpAny_standAt ?_)))
  have af₀ : After B n Non W ρ cs s W ρ cs { s with toks := s.toks + 1 } := T.ok.toks _
  refine methodCall_gen (ks := []) hline hns (by decide : 1 < 20) (Nat.zero_le _) rfl fun pl => ?_
  rw [show nm = "join" from mnOf_name hnm (fun z => nomatch z)]
  refine GM.join ?_
  refine callWith_gen (hns env p).1 rfl ?_
  show wpAny _ A (spliced [(false, eval (.GeneratorExp elt [⟨.Name x px, .Name y py, [], 0⟩] sc pg) env)]) _ E _
  rw [spliced]
  refine wpAny_bind ?_
  have hcl : closureFor sc env = pure [] := by
    have hn : ∀ p ∈ sc.names, p.2 ≠ .free := fun p hp e => by rw [G.free p hp] at e; cases e
    rw [closureFor_eq fun p hp e => absurd e (hn p hp), clOf_nil hn]
  have T₀ := T.after af₀
  refine wpAny_GeneratorExp_walksQ R.hh G.co hcl (fun z hz e => by rw [G.free z hz] at e; cases e) G.dot G.var G.kind deep (h1 T₀ hq fun v₁ W₁ ρ₁ s₁ af₁ r₁ => ?_) fun _ => rfl
  obtain ⟨la, vs, hv, l, bd, rv⟩ := af₁.ok.mem.listOf r₁ hys
  rw [hv]
  have hlim₁ : s₁.heap.NoLimit := R.S.lim.keeps af₁.ok.kept
  obtain ⟨lep, lget⟩ := l
  have hlt : la < s₁.heap.objs.size := Heap.lt_size lget
  have wlt := af₁.ok.mem.wlt
  have af₂ : After B n Non W₁ ρ₁ q.2 s₁ (fun a => W₁ a ∨ a = s₁.heap.objs.size) ρ₁ q.2 { s₁ with heap := s₁.heap.push { cls := .type "list_iterator", data := .fields #[.ref la, .int 0 0] }, toks := s₁.toks } :=
    (After.refl af₁.ok).other (fun _ => False) (by rw [Heap.size_push]; exact Nat.le_succ _) (fun a o e _ => Heap.get?_push_of_some _ e) (fun _ z => z.elim) (fun _ z => z.elim) (fun _ _ z => z) (fun _ _ z => z) (fun a l => ⟨fun z => z.elim id fun z => absurd (z ▸ l) (Nat.lt_irrefl _), .inl⟩)
      fun a z => by rw [Heap.size_push]; exact z.elim (fun z => Nat.lt_succ_of_lt (wlt a z)) fun z => z ▸ Nat.lt_succ_self _
  refine wpAny_pyIter_list (items := vs.toArray) (Heap.PlainList.isList ⟨lep, lget⟩) ⟨hlim₁.push _, ?_⟩
  refine (hg T.X).1 (n := n) af₂.ok fun code h' tk af₃ hk => (hg T.X).2 af₃.ok ?_
  have hlim₃ : h'.NoLimit := R.S.lim.keeps af₃.ok.kept
  have htab : ∀ b o, s₁.heap.get? b = some o → o.cls ≠ .none → ¬ B.isTab b := fun b o hb hc ht => by
    obtain ⟨z, hz, rfl⟩ := List.mem_map.mp ht
    obtain ⟨⟨ps, c1, _⟩, _⟩ := af₁.ok.mem.tab z hz
    rw [hb] at c1
    exact hc (by rw [sJ c1])
  have hItab : ¬ B.isTab s₁.heap.objs.size := fun ht => by
    obtain ⟨z, hz, e⟩ := List.mem_map.mp ht
    obtain ⟨_, _, lt⟩ := af₁.ok.mem.tab z hz
    rw [e] at lt
    exact absurd (Nat.lt_of_lt_of_le lt af₁.ok.mem.size) (Nat.lt_irrefl _)
  have hget : h'.get? la = some { cls := .type "list", data := .seq vs.toArray lep } := hk _ _ (htab la _ lget (fun z => nomatch z)) (Heap.get?_push_of_some _ lget)
  have hI : h'.get? s₁.heap.objs.size = some { cls := .type "list_iterator", data := .fields #[.ref la, .int 0 0] } := hk _ _ hItab (Heap.get?_push_size _ rfl)
  refine ⟨s₁.heap.objs.size, [s₁.heap.objs.size, la], [s₁.heap.objs.size], vs.toArray.size, _, _, fun _ => true, fun i v => vs.toArray[i]? = some v, rfl, fun A' hA => Walks.list hA _ _ (Nat.ne_of_lt hlt) vs.toArray, ⟨⟨_, hI, rfl, rfl⟩, Heap.PlainList.isList ⟨lep, hget⟩⟩, ?_, hlim₃, ?_, ?_, ?_⟩
  · intro b hb
    rcases List.mem_cons.mp hb with rfl | hb
    · exact Heap.lt_size hI
    · rw [List.mem_singleton.mp hb]; exact Heap.lt_size hget
  · intro hm
    have e := List.mem_singleton.mp hm
    obtain ⟨_, hn, _⟩ := hlim₁
    have := hn.lt
    rw [e] at this
    exact Nat.lt_irrefl _ this
  · intro href hhref
    have has : ∀ (i : Nat) (v : Value), vs.toArray[i]? = some v → ∃ (t : Tx) (u : Tok), v = .str ⟨t.toArray⟩ u ∧ ∀ c ∈ ban, c ∉ t := fun i v hv => by
      rw [List.getElem?_toArray] at hv
      obtain ⟨t, u, h1, h2⟩ := strsOf rv hstr i v hv
      refine ⟨t, u, h2, fun c hc hm => ?_⟩
      have := List.all_eq_true.mp (List.all_eq_true.mp hban t (List.mem_of_getElem? h1)) c hc
      rw [List.contains_iff_mem.mpr hm] at this
      exact fB this
    refine ⟨fun A' E' i v s₂ m₂ _ hP hn hm _ => wpAny_pure ⟨rfl, s₂.heap, s₂.toks, rfl, fun _ _ e => e⟩, fun A' E' i v s₂ m₂ _ hP _ hn hm _ => ?_⟩
    obtain ⟨t, u, rfl, hb⟩ := has i v hP
    exact hel (s := s₂) hn hm rfl hb A' _ E' s₂.toks fun k => ⟨hP, s₂.heap, k, rfl, fun _ _ e => e⟩
  · intro g h₅ tk₅ gs hbare hgt hsz₅ hk₅ WS hat
    refine wpAny_bind (wpAny_pure (wpAny_bind (wpAny_holding ?_)))
    rw [spliced]
    refine wpAny_pure (wpAny_pure (wpAny_pure ⟨.plain (fun a e => nomatch e), ?_⟩))
    have hlen' : vs.toArray.size = ts.length := by rw [List.size_toArray, ← rv.length, strs_len hstr]
    have WS := WS.in4_2
    rw [passing_len] at WS
    refine with_size (SC.joinGen WS (fun i s' st => st.1.typeIs) hat ?_ List.mem_cons_self (fun j v hv => ?_) (fun s' lt hm hacc => ?_) (by rw [List.size_toArray, ← rv.length]; exact lim_size bd))
    · intro b hb
      show b < h₅.objs.size
      rw [hsz₅]
      rcases List.mem_cons.mp hb with rfl | hb
      · exact Nat.lt_succ_self _
      · rcases List.mem_cons.mp hb with rfl | hb
        · exact Nat.lt_succ_of_lt hgt
        · exact Nat.lt_succ_of_lt (Nat.lt_trans (List.mem_range.mp hb) hgt)
    · obtain ⟨i, hi, hv⟩ := hv
      rw [List.getElem?_toArray] at hv
      obtain ⟨t, u, _, h2⟩ := strsOf rv hstr i v hv
      exact ⟨_, u, h2⟩
    · have hl : lt.map (·.1) = ts.map fun x => (⟨x.toArray⟩ : Str) := by
        apply List.ext_getElem?
        intro j
        have hsz : lt.length = ts.length := by
          have := hacc.1
          rw [List.size_toArray] at this
          exact ((List.length_map ..).symm.trans this).trans hlen'
        by_cases hj : j < ts.length
        · have hj' : j < lt.length := hsz ▸ hj
          obtain ⟨i, hi, hv⟩ := hacc.2 j (.str lt[j].1 lt[j].2) (by simp [strValues, List.getElem?_eq_getElem hj'])
          obtain rfl := passing_all _ _ _ hi
          rw [List.getElem?_toArray] at hv
          obtain ⟨t, u, h2, h3⟩ := strsOf rv hstr i _ hv
          injection h3 with h4 _
          rw [List.getElem?_map, List.getElem?_eq_getElem hj', List.getElem?_map, h2, Option.map_some, Option.map_some, h4]
        · rw [List.getElem?_eq_none (by rw [List.length_map, hsz]; exact Nat.le_of_not_lt hj), List.getElem?_eq_none (by rw [List.length_map]; exact Nat.le_of_not_lt hj)]
      rw [hl]
      refine ⟨joinOk hsep hlen, fun t' k hsz' => ?_⟩
      rw [show Txt.join sep (ts.map fun x => (⟨x.toArray⟩ : Str)) = ⟨(joinTx (tx sep) ts).toArray⟩ from (StrLaws.glued_eq_join _ _).trans (strJoin (tx sep) ts)]
      have hkept : ∀ b o, h'.get? b = some o → b ≠ s₁.heap.objs.size → s'.heap.get? b = some o := fun b o hb hne => hm.heap b o (fun z => by
        rcases List.mem_cons.mp z with rfl | z
        · exact Nat.lt_irrefl _ (Heap.lt_size hb)
        · exact hne (List.mem_singleton.mp z)) (hk₅ b o hb)
      have hsz3 : h'.objs.size ≤ s'.heap.objs.size := Nat.le_trans (Nat.le_of_lt (Nat.lt_trans hgt (by rw [hsz₅]; exact Nat.lt_succ_self _))) hsz'
      have A3 := (af₂.trans af₃).other (h' := s'.heap) (tk := k) (W₂ := fun a => W₁ a ∨ a = s₁.heap.objs.size) (fun a => a = s₁.heap.objs.size) hsz3 hkept (fun a z _ => .inr z) (fun x z l => absurd (z ▸ l) (Nat.lt_irrefl _))
        (fun a ha z => absurd (wlt a (af₁.ok.mem.own a ha).1) (z ▸ Nat.lt_irrefl _)) (fun a ht z => hItab (z ▸ ht)) (fun _ _ => Iff.rfl) fun a z => Nat.lt_of_lt_of_le (af₃.ok.mem.wlt a z) hsz3
      have A4 : After B n Non W₁ ρ₁ q.2 s₁ (fun a => W₁ a ∨ a = s₁.heap.objs.size) ρ₁ q.2 { s' with toks := k } := ⟨⟨A3.ok.mem, AllBare.moved (af₃.ok.gens.push hbare) hm.gens⟩, A3.step, hm.os, A3.low⟩
      exact hQ _ _ _ _ ((af₀.trans af₁).trans A4) (.str _ _ hlen)
theorem says_of {e : Expr} {q : Expr × Tx} {c : Nat} {x : Tx} {tk : Tok} {s : Shared} {env : Env} (h : replOf e = some q) (hc : one? q.2 = some c) (hx : c ∉ x) (hs : Tells B env q.1 (⟨x.toArray⟩ : Str) tk s) : Tells B env e (⟨x.toArray⟩ : Str) tk s := by
  obtain ⟨z, hz, h⟩ := bind_eq h
  obtain ⟨p, hp, h⟩ := bind_eq h
  obtain ⟨t, ht, h⟩ := bind_eq h
  obtain ⟨u, hu, h⟩ := bind_eq h
  obtain ⟨hh, h⟩ := if_eq h
  obtain rfl := sJ h
  obtain ⟨a, k1, p1, e1, e2, _⟩ := litOf_eq ht
  obtain ⟨b, k2, p2, e3, _⟩ := litOf_eq hu
  have ha : a = ⟨#[c]⟩ := tx_of (e2.trans (one?_eq hc))
  rw [methOf_eq hz, two?_eq hp, e1, e3, ha]
  exact says_repl hh.2.2 hh.2.1 hh.1 hx hs
theorem SE_gen (R : Rx B M0 Wo A) {t : TrF} (H : ∀ x, SE B M0 Wo A n cx (t.e cx x) x) {o : Expr} {nm : Str} {ap p : Pos} {as : List Expr} {q : List Nat × Tx × Expr} (hline : ap.endLine = p.line) (hnm : mnOf nm = .join) (hq : genOf cx o as = some q) : SE B M0 Wo A n cx (eGJ q.1 q.2.1 (t.e cx q.2.2)) (.Call (.Attribute o nm ap) as [] p) := by
  obtain ⟨sep, hs, hq⟩ := bind_eq hq
  obtain ⟨e, he, hq⟩ := bind_eq hq
  obtain ⟨z, hz, rfl⟩ := map_eq hq
  obtain ⟨s0, k, ps, rfl, rfl, hlen⟩ := litOf_eq hs
  rw [one?_eq he]
  obtain ⟨z, hz1, hz⟩ := bind_eq hz
  obtain ⟨g, hg1, hz⟩ := bind_eq hz
  obtain ⟨x, hx1, hz⟩ := bind_eq hz
  obtain ⟨y, hy1, hz⟩ := bind_eq hz
  obtain ⟨h0, hz⟩ := if_eq hz
  obtain ⟨hl, h0⟩ := aT h0
  obtain ⟨hg, h0⟩ := aT h0
  obtain ⟨hi, ha⟩ := aT h0
  obtain ⟨r1, hr1, hz⟩ := bind_eq hz
  obtain ⟨c, hc, hz⟩ := bind_eq hz
  obtain ⟨r2, hr2, hz⟩ := bind_eq hz
  obtain ⟨d, hd, hz⟩ := bind_eq hz
  obtain ⟨hx, hz⟩ := if_eq hz
  obtain rfl := sJ hz
  have G := gScope_eq hg
  obtain ⟨p', hp'⟩ := nameOf_eq hx
  rw [genEx_eq hz1, one?_eq hg1]
  obtain ⟨tg, it, ifs, asy⟩ := g
  obtain ⟨px, rfl⟩ := nameOf_eq hx1
  obtain ⟨py, rfl⟩ := nameOf_eq hy1
  obtain rfl : ifs = [] := List.isEmpty_iff.mp hi
  obtain rfl : asy = 0 := of_decide_eq_true ha
  refine SE_gj R (fun X => X.gen hl) R.deep hline hnm hlen G (H _) fun {cenv m t' u s'} hn hm hsc hb => ?_
  refine says_of hr1 hc (hb c List.mem_cons_self) (says_of hr2 hd (hb d (List.mem_cons_of_mem _ List.mem_cons_self)) ?_)
  rw [hp']
  exact says_name hn hm (by rw [hsc]; exact G.kind) (by rw [hsc]; exact G.var) G.dbg
end
end Ev
namespace Ev
open PySem PySem.W PyProof.Rows PySem.SeqAt
theorem tupleOf_eq {t : Expr} {es : List Expr} (h : tupleOf t = some es) : ∃ c p, t = .Tuple es c p := by
  cases t with
  | Tuple ys c p => exact ⟨c, p, congrArg (Expr.Tuple · c p) (sJ h)⟩
  | _ => exact nN h
section
variable {B : Base} {M0 : List (Tx × Nat)} {Wo : Wd} {cx : Cx} {A : Around} {n f : Nat} {env : Env} {lay : List Loc} {fr : Fr}
noncomputable def slotX (is : List Nat) (lay : List Loc) : Addr → Prop := fun a => ∃ i ∈ is, locX lay i a
theorem locX_lay {i : Nat} {a : Addr} (h : locX lay i a) : layX lay a := let ⟨l, hl, e⟩ := h; ⟨l, List.mem_of_getElem? hl, e⟩
theorem slotX_lay {is : List Nat} {a : Addr} (h : slotX is lay a) : layX lay a := let ⟨i, _, hi⟩ := h; locX_lay hi
theorem Frm.layW {W : Addr → Prop} {ρ : List Addr} {h : Heap} (F : Frm B lay fr W ρ h) : ∀ a, layX lay a → W a := fun a ⟨l, hl, e⟩ => e ▸ (F.own l hl).1
noncomputable def NameSlots (cx : Cx) (es : List Expr) (is : List Nat) : Prop := (es.mapM fun e => (nameOf e).bind (trSlot cx)) = some is
theorem NameSlots.nil {is : List Nat} (h : NameSlots cx [] is) : is = [] := by
  unfold NameSlots at h
  rw [List.mapM_nil] at h
  exact (sJ h).symm
theorem NameSlots.cons {e : Expr} {es : List Expr} {is : List Nat} (h : NameSlots cx (e :: es) is) : ∃ x p i js, e = .Name x p ∧ trSlot cx x = some i ∧ is = i :: js ∧ NameSlots cx es js := by
  unfold NameSlots at h
  rw [List.mapM_cons] at h
  obtain ⟨i, hi, h⟩ := bind_eq h
  obtain ⟨js, hj, h⟩ := bind_eq h
  obtain ⟨x, hx, hi⟩ := bind_eq hi
  obtain ⟨p, hp⟩ := nameOf_eq hx
  exact ⟨x, p, i, js, hp, hi, (sJ h).symm, hj⟩
theorem NameSlots.each {es : List Expr} : ∀ {is : List Nat}, NameSlots cx es is → es.length = is.length ∧ (assignEach es env).length = es.length ∧ (assignEach es env).findIdx? (·.1) = none := by
  induction es with
  | nil => intro is h; rw [h.nil]; exact ⟨rfl, rfl, rfl⟩
  | cons e es ih =>
    intro is h
    obtain ⟨x, p, i, js, rfl, _, rfl, h'⟩ := h.cons
    have := ih h'
    have e : assignEach (.Name x p :: es) env = (false, assign (.Name x p) env) :: assignEach es env := rfl
    rw [e, List.findIdx?_cons, this.2.2, List.length_cons, List.length_cons, List.length_cons, this.1, this.2.1, this.1]
    exact ⟨rfl, rfl, rfl⟩
theorem assigns_sound (X : EnvOk B cx env lay) {Q : Unit → Shared → Prop} {E : Value → Shared → Prop} {es : List Expr} : ∀ {is : List Nat}, NameSlots cx es is → ∀ {xs : List AV} {vs : List Value} {W : Addr → Prop} {ρ : List Addr} {cs : Cells} {s : Shared} {fr : Fr}, Ok B W ρ cs s → Frm B lay fr W ρ s.heap → VRels B s.heap W ρ xs vs → is.length = xs.length →
    (∀ s', After B n (slotX is lay) W ρ cs s W ρ cs s' → Frm B lay (setAll is xs fr) W ρ s'.heap → Q () s') → wpAny (model B.prog B.w) A (assignInOrder ((assignEach es env).map (·.2)) vs) Q E s := by
  induction es with
  | nil =>
    intro is h xs vs W ρ cs s fr o F r hl hQ
    obtain rfl := h.nil
    obtain rfl := List.length_eq_zero_iff.mp hl.symm
    obtain rfl := r.inv
    exact wpAny_pure (hQ s (After.refl o) F)
  | cons e es ih =>
    intro is h xs vs W ρ cs s fr o F r hl hQ
    obtain ⟨x, p, i, js, rfl, hi, rfl, h'⟩ := h.cons
    cases xs with
    | nil => cases hl
    | cons z xs =>
    obtain ⟨v, us, rfl, hd, tl⟩ := r.inv
    show wpAny _ A (do holding us (assign (.Name x p) env v); assignInOrder ((assignEach es env).map (·.2)) us) Q E s
    refine wpAny_bind (wpAny_holding (wpAny_assign_Name (store_sound (n := n) o X F hi hd fun s₁ af₁ F₁ hlt => ?_)))
    refine ih h' af₁.ok F₁ (af₁.step.vals o.mem (fun a ha => F.layW a (locX_lay ha)) tl) (Nat.succ.inj hl) fun s₂ af₂ F₂ => ?_
    exact hQ s₂ ((af₁.weaken fun a _ ha => ⟨i, List.mem_cons_self, ha⟩).trans (af₂.weaken fun a _ ⟨j, hj, ha⟩ => ⟨j, List.mem_cons_of_mem _ hj, ha⟩)) F₂
theorem bindT_sound (hh : A.handled = none) (X : EnvOk B cx env lay) {t : Expr} {is : List Nat} (ht : trTarget cx t = some is) {x : AV} {v : Value} {fr' : Fr} {W : Addr → Prop} {ρ : List Addr} {cs : Cells} {s : Shared} {Q : Unit → Shared → Prop} {E : Value → Shared → Prop} (o : Ok B W ρ cs s) (F : Frm B lay fr W ρ s.heap) (p : VRel B s.heap W ρ x v)
    (e : bindT is x fr = some fr') (hQ : ∀ W' s', After B n (slotX is lay) W ρ cs s W' ρ cs s' → Frm B lay fr' W' ρ s'.heap → Q () s') : wpAny (model B.prog B.w) A (assign t env v) Q E s := by
  rcases orElse_eq ht with ⟨y, hy, h⟩ | h
  · obtain ⟨i, hi, rfl⟩ := map_eq h
    obtain ⟨q, rfl⟩ := nameOf_eq hy
    obtain ⟨_, e⟩ := if_eq (show (if i < fr.length then some (fr.set i (some x)) else none) = some fr' from e)
    obtain rfl := sJ e
    exact wpAny_assign_Name (store_sound (n := n) o X F hi p fun s₁ af₁ F₁ _ => hQ W s₁ (af₁.weaken fun a _ ha => ⟨i, List.mem_cons_self, ha⟩) F₁)
  · obtain ⟨es, hes, h⟩ := bind_eq h
    obtain ⟨is', ns, h⟩ := bind_eq h
    obtain ⟨h2, h⟩ := if_eq h
    obtain rfl := sJ h
    obtain ⟨c, q, rfl⟩ := tupleOf_eq hes
    rcases orElse_eq e with ⟨i, hi, _⟩ | e
    · rw [one?_eq hi] at h2; exact absurd h2 (Nat.not_succ_le_self 1)
    obtain ⟨xs, hx, e⟩ := bind_eq e
    obtain ⟨⟨hl, _⟩, e⟩ := if_eq e
    obtain rfl := sJ e
    rw [arm_assign_Tuple]
    refine wpAny_bind (wpAny_standAt ?_)
    unfold unpack
    have ns : NameSlots cx es is' := ns
    have he := ns.each (env := env)
    rw [he.2.1, he.2.2, he.1, hl]
    refine wpAny_bind (wpAny_holding (unpackItems_sound (n := n) hh o p (by rw [hx]; rfl) fun us W₁ s₁ af₁ r₁ => ?_))
    exact assigns_sound (n := n) X ns af₁.ok (F.after o af₁) r₁ hl fun s₂ af₂ F₂ => hQ W₁ s₂ (af₁.up.trans af₂) F₂
noncomputable abbrev ifsGo (env : Env) (ifs : List Expr) (b : Bool) : Sem Bool := forIn ifs b fun c r => if r = true then do let ok ← isTrue c env (eval c env); pure (ForInStep.yield ok) else pure (ForInStep.yield r)
theorem ifsGo_false {Q : Bool → Shared → Prop} {E : Value → Shared → Prop} {s : Shared} (h : Q false s) (ifs : List Expr) : wpAny (model B.prog B.w) A (ifsGo env ifs false) Q E s := by
  induction ifs with
  | nil => unfold ifsGo; rw [List.forIn_nil]; exact wpAny_pure h
  | cons c r ih =>
    unfold ifsGo; rw [List.forIn_cons, if_neg Bool.false_ne_true]
    exact wpAny_bind (wpAny_pure ih)
theorem ifs_sound {t : Expr → MB} (hb : ∀ x, SB B M0 Wo A n cx (t x) x) {E : Value → Shared → Prop} {Q : Bool → Shared → Prop} (ifs : List Expr) : ∀ {W : Addr → Prop} {ρ : List Addr} {cs : Cells} {s : Shared} {r : Bool × Cells}, At B M0 A n cx env lay fr W ρ cs s →
    evAO Wo n true (ifs.map t) fr cs = some r → PostB B n W ρ cs s r.2 r.1 Q → wpAny (model B.prog B.w) A (ifsGo env ifs true) Q E s := by
  induction ifs with
  | nil =>
    intro W ρ cs s r T e hQ
    obtain rfl := sJ e
    unfold ifsGo; rw [List.forIn_nil]; exact wpAny_pure (hQ _ _ _ (After.refl T.ok))
  | cons x xs ih =>
    intro W ρ cs s r T e hQ
    obtain ⟨⟨q, cs₁⟩, hq, e⟩ := bind_eq e
    unfold ifsGo; rw [List.forIn_cons, if_pos rfl]
    refine wpAny_bind (wpAny_bind (hb x T hq fun W₁ ρ₁ s₁ af₁ => wpAny_pure ?_))
    cases q with
    | false =>
      obtain rfl := sJ e
      exact ifsGo_false (hQ _ _ _ af₁) xs
    | true => exact ih (T.after af₁) e (af₁.postB hQ)
end
inductive Runs {σ : Type} (cells : σ → Cells) (st : AV → σ → Option σ) (it : It) : Nat → σ → σ → Prop
  | done {k : Nat} {a : σ} (h : itemAt (cells a) it k = some none) : Runs cells st it k a a
  | step {k : Nat} {x : AV} {a b c : σ} (h : itemAt (cells a) it k = some (some x)) (e : st x a = some b) (r : Runs cells st it (k + 1) b c) : Runs cells st it k a c
theorem runs_items {σ : Type} {cells : σ → Cells} {st : AV → σ → Option σ} {xs : List AV} (ys : List AV) : ∀ {k : Nat} {a c : σ}, xs.drop k = ys → goItems st ys a = some c → Runs cells st (.items xs) k a c := by
  induction ys with
  | nil =>
    intro k a c hd h
    obtain rfl := sJ h
    exact .done (congrArg some (List.getElem?_eq_none (List.drop_eq_nil_iff.mp hd)))
  | cons y ys ih =>
    intro k a c hd h
    obtain ⟨b, hb, h⟩ := bind_eq h
    have h0 : xs[k]? = some y := by
      have := List.getElem?_drop (xs := xs) (i := k) (j := 0)
      rw [hd] at this; exact this.symm
    exact .step (congrArg some h0) hb (ih (by rw [← List.drop_drop, hd]; rfl) h)
theorem runs_cell {σ : Type} {cells : σ → Cells} {st : AV → σ → Option σ} {i : Nat} (fu : Nat) : ∀ {k : Nat} {a c : σ}, goCell cells i st fu k a = some c → Runs cells st (.cell i) k a c := by
  induction fu with
  | zero => intro k a c h; exact nN h
  | succ fu ih =>
    intro k a c h
    obtain ⟨xs, hc, h⟩ := bind_eq h
    have hi : itemAt (cells a) (.cell i) k = some xs[k]? := congrArg (Option.map fun xs => xs[k]?) hc
    cases hx : xs[k]? with
    | none =>
      rw [hx] at h hi
      obtain rfl := sJ h
      exact .done hi
    | some x =>
      rw [hx] at h hi
      obtain ⟨b, hb, h⟩ := bind_eq h
      exact .step hi hb (ih h)
theorem runs_of {σ : Type} {cells : σ → Cells} {st : AV → σ → Option σ} {fu : Nat} {it : It} {a c : σ} (h : goIt cells st fu it a = some c) : Runs cells st it 0 a c := by
  cases it with
  | items xs => exact runs_items xs rfl h
  | cell i => exact runs_cell _ h
end Ev
namespace Ev
open PySem PySem.W PyProof.Rows PySem.SeqAt
section
variable {B : Base} {M0 : List (Tx × Nat)} {Wo : Wd} {cx : Cx} {A : Around} {n f : Nat}
structure TrAll (B : Base) (M0 : List (Tx × Nat)) (Wo : Wd) (A : Around) (n : Nat) (cx : Cx) (t : TrF) : Prop where
  e : ∀ x, SE B M0 Wo A n cx (t.e cx x) x
  b : ∀ x, SB B M0 Wo A n cx (t.b cx x) x
  star : ∀ x, isStar x = true → t.e cx x = eFail
theorem TrAll.ok {t : TrF} (H : TrAll B M0 Wo A n cx t) : TrOk B M0 Wo A n cx (t.e cx) := ⟨H.e, H.star⟩
noncomputable def SI (B : Base) (M0 : List (Tx × Nat)) (Wo : Wd) (A : Around) (n : Nat) (cx : Cx) (c : MI) (e : Expr) : Prop :=
  ∀ ⦃env : Env⦄ ⦃lay : List Loc⦄ ⦃fr : Fr⦄ ⦃W : Addr → Prop⦄ ⦃ρ : List Addr⦄ ⦃cs : Cells⦄ ⦃s : Shared⦄ ⦃r : It × Cells⦄ ⦃Q E : Value → Shared → Prop⦄, At B M0 A n cx env lay fr W ρ cs s →
    c.run Wo n fr cs = some r → (∀ I pr W' ρ' s', After B n Non W ρ cs s W' ρ' r.2 s' → IterAt B s'.heap W' ρ' I r.1 0 pr → (∀ a ∈ pr, s.heap.objs.size ≤ a) → (pr.length = 1 ∨ c.zip = true) → Q (.ref I) s') →
    wpAny (model B.prog B.w) A (eval e env) (fun x s₁ => wpAny (model B.prog B.w) A (pyIter x) Q E s₁) E s
theorem mem_one {a b : Addr} (h : a ∈ [b]) : a = b := List.mem_singleton.mp h
theorem SI_val {a : ME} {x : Expr} (h : SE B M0 Wo A n cx a x) : SI B M0 Wo A n cx (iVal a) x := by
  intro env lay fr W ρ cs s r Q E T e hQ
  obtain ⟨q, hq, e⟩ := bind_eq e
  obtain ⟨i, hi, rfl⟩ := map_eq e
  refine h T hq fun v₁ W₁ ρ₁ s₁ af₁ r₁ => ?_
  refine iter_make (n := n) af₁.ok r₁ hi fun I W₂ s₂ fresh af₂ ia => ?_
  exact hQ I [I] W₂ ρ₁ s₂ (af₁.trans af₂) ia (fun a ha => mem_one ha ▸ Nat.le_trans af₁.step.size fresh) (.inl rfl)
theorem globIs_eq {x : Str} {t : TyN} (h : globIs cx x t = true) : nameV cx x = .lit (.ty t) := by
  have h : (nameV cx x).ty? = some t := of_decide_eq_true h
  cases hn : nameV cx x with
  | lit v => rw [hn] at h; exact congrArg NV.lit (ty?_eq h)
  | var i => rw [hn] at h; exact nN h
  | no => rw [hn] at h; exact nN h
theorem callTy {t : TyN} {x : Str} {xs : List Expr} {p q : Pos} {tr : Expr → ME} (S : Stat B) (hg : globIs cx x t = true) (h2 : TrOk B M0 Wo A n cx tr)
    {env : Env} {lay : List Loc} {fr : Fr} {W : Addr → Prop} {ρ : List Addr} {cs : Cells} {s : Shared} {r : List AV × Cells} {Q E : Value → Shared → Prop} (T : At B M0 A n cx env lay fr W ρ cs s)
    (e : evEs Wo n (xs.map tr) fr cs = some r) (hQ : ∀ vs W' ρ' s', After B n Non W ρ cs s W' ρ' r.2 s' → VRels B s'.heap W' ρ' r.1 vs → wpAny (model B.prog B.w) A (call (.type (tyS t)) vs) Q E s') :
    wpAny (model B.prog B.w) A (eval (.Call (.Name x p) xs [] q) env) Q E s := by
  have h1 : SE B M0 Wo A n cx (eName (nameV cx x)) (.Name x p) := SE_name S
  rw [globIs_eq hg] at h1
  refine wpAny_Call_Name_kw (h1 T rfl fun v₁ W₁ ρ₁ s₁ af₁ r₁ => ?_)
  obtain rfl := r₁.inv
  refine callWith_gen ((h2.noStar e) env q).1 rfl (h2.all xs (T.after af₁) e fun vs W₂ ρ₂ s₂ af₂ r₂ => wpAny_pure ⟨.plain (fun a e => nomatch e), ?_⟩)
  exact hQ vs _ _ _ (af₁.trans af₂) r₂
theorem range_fin {W : Addr → Prop} {ρ : List Addr} {cs : Cells} {s : Shared} {a b c : Int} {t u v : Tok} {tk m : Nat} {Q E : Value → Shared → Prop} (o : Ok B W ρ cs s) (hsm : Builtin.Range.small a b c = true) (hm : Builtin.Range.rangeSize a b c = (m : Int))
    (hQ : ∀ I W' s', s.heap.objs.size ≤ I → After B n Non W ρ cs s W' ρ cs s' → IterAt B s'.heap W' ρ I (.items (rangeL a c m)) 0 [I] → Q (.ref I) s') :
    wpAny (model B.prog B.w) A (pyIter (.ref s.heap.objs.size)) Q E { s with heap := s.heap.push { cls := .type "range", data := .fields #[.int a t, .int b u, .int c v] }, toks := tk } := by
  have a0 : After B n Non W ρ cs s W ρ cs { s with heap := s.heap.push { cls := .type "range", data := .fields #[.int a t, .int b u, .int c v] }, toks := tk } := o.push _
  refine range_make (n := n) a0.ok (IsRange.new ..) hsm hm fun I W₂ s₂ fresh af ia => ?_
  exact hQ I W₂ s₂ (Nat.le_trans a0.step.size fresh) (a0.trans af) ia
theorem size1 (a b : Int) : Builtin.Range.rangeSize a b 1 = ((b - a).toNat : Int) := by rw [rangeSize_one]; split <;> omega
theorem near_of {a : Int} (h : near a = true) : -1000 ≤ a ∧ a ≤ 1000 := of_decide_eq_true h
theorem small_of {a b : Int} (ha : near a = true) (hb : near b = true) : Builtin.Range.small a b 1 = true := by
  have ha := near_of ha
  have hb := near_of hb
  unfold Builtin.Range.small
  rw [size1]
  simp only [Builtin.Range.rangeFitsLong, Bool.and_eq_true, Bool.or_eq_true, decide_eq_true_eq, beq_iff_eq]
  refine ⟨by omega, .inr ?_⟩
  split <;> simp only [Bool.and_eq_true, decide_eq_true_eq] <;> omega
theorem size_down (a b : Int) : Builtin.Range.rangeSize a b (-1) = ((a - b).toNat : Int) := by
  unfold Builtin.Range.rangeSize
  simp only [show ¬ ((-1 : Int) > 0) by decide, if_false, Int.neg_neg, Int.ediv_one]
  split <;> omega
theorem small_down {a b : Int} (ha : near a = true) (hb : near b = true) : Builtin.Range.small a b (-1) = true := by
  have ha := near_of ha
  have hb := near_of hb
  unfold Builtin.Range.small
  rw [size_down]
  simp only [Builtin.Range.rangeFitsLong, Bool.and_eq_true, Bool.or_eq_true, decide_eq_true_eq, beq_iff_eq]
  refine ⟨by omega, .inr ?_⟩
  split <;> simp only [Bool.and_eq_true, decide_eq_true_eq] <;> omega
theorem len_two' {α : Type} {xs : List α} (h : xs.length = 2) : ∃ a b, xs = [a, b] := by
  cases xs with
  | nil => cases h
  | cons a r => exact (List.length_eq_one_iff.mp (Nat.succ.inj h)).elim fun b e => ⟨a, b, by rw [e]⟩
theorem len_three {α : Type} {xs : List α} (h : xs.length = 3) : ∃ a b c, xs = [a, b, c] := by
  cases xs with
  | nil => cases h
  | cons a r => obtain ⟨b, c, e⟩ := len_two' (Nat.succ.inj h); exact ⟨a, b, c, by rw [e]⟩
theorem VRels.ints {h : Heap} {W : Addr → Prop} {ρ : List Addr} {xs : List AV} {vs : List Value} (r : VRels B h W ρ xs vs) : ∀ {is : List Int}, allInt xs = some is → is.length = vs.length ∧ ∀ (k : Nat) (i : Int), is[k]? = some i → ∃ t, vs[k]? = some (.int i t) :=
  r.ind (P := fun xs vs => ∀ {is : List Int}, allInt xs = some is → is.length = vs.length ∧ ∀ (k : Nat) (i : Int), is[k]? = some i → ∃ t, vs[k]? = some (.int i t)) (fun e => by obtain rfl := sJ e; exact ⟨rfl, fun _ _ e => nomatch e⟩) fun q _ ih is e => by
    obtain ⟨i, hi, e⟩ := bind_eq e
    obtain ⟨js, hj, rfl⟩ := map_eq e
    obtain ⟨t, ht⟩ := q.ofInt hi
    refine ⟨congrArg (· + 1) (ih hj).1, fun k j hk => ?_⟩
    cases k with
    | zero => exact ⟨t, by rw [ht, ← sJ hk]; rfl⟩
    | succ k => exact (ih hj).2 k j hk
theorem len_two {α : Type} {xs : List α} (h : xs.length = 2) : ∃ a b, xs = [a, b] := by
  cases xs with
  | nil => cases h
  | cons a r => exact (List.length_eq_one_iff.mp (Nat.succ.inj h)).elim fun b e => ⟨a, b, by rw [e]⟩
theorem SI_range (S : Stat B) {x : Str} {xs : List Expr} {p q : Pos} {tr : Expr → ME} (hg : globIs cx x .range = true) (h2 : TrOk B M0 Wo A n cx tr) : SI B M0 Wo A n cx (iRange (xs.map tr)) (.Call (.Name x p) xs [] q) := by
  intro env lay fr W ρ cs s r Q E T e hQ
  obtain ⟨z, hz, e⟩ := bind_eq e
  obtain ⟨ys, hy, rfl⟩ := map_eq e
  obtain ⟨is, his, hy⟩ := bind_eq hy
  refine callTy S hg h2 T hz fun vs W₁ ρ₁ s₁ af₁ r₁ => ?_
  obtain ⟨hl, hi⟩ := r₁.ints his
  match is, hy, hl, hi with
  | [k], hy, hl, hi =>
    obtain ⟨hb, hy⟩ := if_eq hy
    obtain rfl := sJ hy
    obtain ⟨v, rfl⟩ := List.length_eq_one_iff.mp hl.symm
    obtain ⟨t, ht⟩ := hi 0 k rfl
    obtain rfl := sJ ht
    refine call_range_1 (range_fin (n := n) af₁.ok (small_of (by decide) hb) (m := k.toNat) (by rw [size1, Int.sub_zero]) fun I W₂ s₂ fresh af ia => ?_)
    exact hQ I [I] W₂ ρ₁ s₂ (af₁.trans af) ia (fun a ha => mem_one ha ▸ Nat.le_trans af₁.step.size fresh) (.inl rfl)
  | [i, j], hy, hl, hi =>
    obtain ⟨hb, hy⟩ := if_eq hy
    obtain rfl := sJ hy
    obtain ⟨v, u, rfl⟩ := len_two hl.symm
    obtain ⟨t, ht⟩ := hi 0 i rfl
    obtain rfl := sJ ht
    obtain ⟨t', ht⟩ := hi 1 j rfl
    obtain rfl := sJ ht
    refine call_range_2 (range_fin (n := n) af₁.ok (small_of (aT hb).1 (aT hb).2) (size1 _ _) fun I W₂ s₂ fresh af ia => ?_)
    exact hQ I [I] W₂ ρ₁ s₂ (af₁.trans af) ia (fun a ha => mem_one ha ▸ Nat.le_trans af₁.step.size fresh) (.inl rfl)
  | [i, j, k], hy, hl, hi =>
    obtain ⟨hb, hy⟩ := if_eq hy
    obtain rfl := sJ hy
    obtain ⟨hb', hk⟩ := aT hb
    obtain rfl : k = -1 := of_decide_eq_true hk
    obtain ⟨v, u, w, rfl⟩ := len_three hl.symm
    obtain ⟨t, ht⟩ := hi 0 i rfl
    obtain rfl := sJ ht
    obtain ⟨t', ht⟩ := hi 1 j rfl
    obtain rfl := sJ ht
    obtain ⟨t'', ht⟩ := hi 2 (-1) rfl
    obtain rfl := sJ ht
    refine call_range_3 (by decide) (range_fin (n := n) af₁.ok (small_down (aT hb').1 (aT hb').2) (size_down _ _) fun I W₂ s₂ fresh af ia => ?_) (.inl (PyProof.noPylong_small (by decide)))
    exact hQ I [I] W₂ ρ₁ s₂ (af₁.trans af) ia (fun a ha => mem_one ha ▸ Nat.le_trans af₁.step.size fresh) (.inl rfl)
  | _ :: _ :: _ :: _ :: _, hy, _, _ => exact nN hy
  | [], hy, _, _ => exact nN hy
theorem src_of {h : Heap} {W : Addr → Prop} {ρ : List Addr} {x : AV} {v : Value} {xs : List AV} (p : VRel B h W ρ x v) (e : zipIt x = some xs) : ∃ o, Src B h W ρ v xs o := by
  rcases orElse_eq e with ⟨z, hx, e⟩ | e
  · obtain ⟨ha, e⟩ := if_eq e
    obtain rfl := sJ e
    obtain ⟨t, rfl, _⟩ := p.ofStr hx
    exact ⟨_, .str _ ha⟩
  · obtain ⟨vs, a, rfl, l, _, w, r⟩ := p.ofLst e
    exact ⟨_, .list l w r⟩
theorem SI_zip (S : Stat B) {x : Str} {xs : List Expr} {p q : Pos} {tr : Expr → ME} (hg : globIs cx x .zip = true) (h2 : TrOk B M0 Wo A n cx tr) : SI B M0 Wo A n cx (iZip (xs.map tr)) (.Call (.Name x p) xs [] q) := by
  intro env lay fr W ρ cs s r Q E T e hQ
  obtain ⟨z, hz, e⟩ := bind_eq e
  obtain ⟨y, hy, e⟩ := bind_eq e
  obtain ⟨as, has, e⟩ := bind_eq e
  obtain ⟨bs, hbs, rfl⟩ := map_eq e
  refine callTy S hg h2 T hz fun vs W₁ ρ₁ s₁ af₁ r₁ => ?_
  obtain ⟨v, u, rfl, rv, ru⟩ := r₁.ofTwo hy
  obtain ⟨o1, S1⟩ := src_of rv has
  obtain ⟨o2, S2⟩ := src_of ru hbs
  refine zip_make (n := n) af₁.ok S1 S2 fun z TI TO i1 i2 W₂ s₂ af Z own fresh => ?_
  refine self_sound (.zip Z) ?_
  exact hQ z [z, TI, TO, i1, i2] W₂ ρ₁ s₂ (af₁.trans af) ⟨.zip Z, own⟩ (fun a ha => Nat.le_trans af₁.step.size (fresh a ha)) (.inr rfl)
theorem callOf_eq {e : Expr} {q : Expr × List Expr} (h : callOf e = some q) : ∃ p, e = .Call q.1 q.2 [] p := by
  cases e with
  | Call g bs ks p =>
    cases ks with
    | nil => obtain rfl := sJ h; exact ⟨p, rfl⟩
    | cons => exact nN h
  | _ => exact nN h
theorem TrAll.it {t : TrF} (H : TrAll B M0 Wo A n cx t) (S : Stat B) (x : Expr) : SI B M0 Wo A n cx (trI t cx x) x := by
  unfold trI
  cases hc : (callOf x).bind fun p => (nameOf p.1).map fun x => (x, p.2) with
  | none => exact SI_val (H.e x)
  | some q =>
    obtain ⟨⟨g, as⟩, hx, hc⟩ := bind_eq hc
    obtain ⟨y, hy, rfl⟩ := map_eq hc
    obtain ⟨p, rfl⟩ := callOf_eq hx
    obtain ⟨p', hg⟩ := nameOf_eq hy
    have hg : g = .Name y p' := hg
    rw [hg]
    show SI B M0 Wo A n cx (if globIs cx y .range then _ else if globIs cx y .zip then _ else _) _
    by_cases h1 : globIs cx y .range = true
    · rw [if_pos h1]; exact SI_range S h1 H.ok
    rw [if_neg h1]
    by_cases h2 : globIs cx y .zip = true
    · rw [if_pos h2]; exact SI_zip S h2 H.ok
    rw [if_neg h2]; exact SI_val (H.e _)
end
end Ev
namespace Ev
open PySem PySem.W PyProof.Rows PySem.SeqAt
section
variable {prog : Program} {w : PySem.World} {A : Around} {R : Result → Shared → Prop} {s : Shared}
theorem codeAny_compStart_gen {elt : Expr} {gens : List Comprehension} {sc : Scope} {pos : Pos} {d : Nat} {it acc : Value} {env : Env} {g : Comprehension} (hg : gens[d]? = some g) (ha : g.is_async = 0)
    (h0 : codeAny (model prog w) A (.compLoop (.ListComp elt gens sc pos) d it acc env) R s)
    (h : wpAny (model prog w) A (pyIter it) (fun it' s' => codeAny (model prog w) A (.compLoop (.ListComp elt gens sc pos) d it' acc env) R s') (notedBy (model prog w) A env fun x s' => R (.error x) s') s) :
    codeAny (model prog w) A (.compStart (.ListComp elt gens sc pos) d it acc env) R s := by
  refine codeAny_of_tree ?_
  show wpAny _ _ ((compStart (.ListComp elt gens sc pos) d it acc env).onRaise (fun x => do noteFrame x env; standAt theWindowsPlace)) _ _ s
  refine wpAny_notedAt ?_
  unfold compStart
  have hc : clausesOf (.ListComp elt gens sc pos) = gens := rfl
  rw [hc, hg]
  simp only [Option.elim, ha, bne_self_eq_false, Bool.false_eq_true, if_false]
  refine wpAny_bind (wpAny_askSetting (wpAny_ite ?_))
  split
  · exact wpAny_pure (And.intro rfl h0)
  · exact wpAny_bind (wpAny_rule (wpAny_bind (wpAny_standAt (wpAny_bind (wpAny_mono h (fun it' s' h' => wpAny_pure (And.intro rfl h')) fun _ _ x => x)))))
end
noncomputable def bodyT (elt : Expr) (gens : List Comprehension) (sc : Scope) (pos : Pos) (d : Nat) (acc : Value) (env : Env) : Sem Unit := match gens[d]? with
  | some g' => do
    let x ← eval g'.iter env
    standAt g'.iter.pos
    let x ← foldedSetIterable g'.iter env x
    let i ← holding [x] (pyIter x)
    let _ ← runOwn (.compStart (.ListComp elt gens sc pos) d i acc env) env
    pure ()
  | none => do
    let v ← eval elt env
    let _ ← call (.builtin "list.append") [acc, v]
    pure ()
theorem compTurn_eq {elt : Expr} {gens : List Comprehension} {sc : Scope} {pos : Pos} {d : Nat} {it acc : Value} {env : Env} {g : Comprehension} (hg : gens[d]? = some g) (ha : g.is_async = 0) (ha' : ∀ g', gens[d + 1]? = some g' → g'.is_async = 0) :
    compTurn (.ListComp elt gens sc pos) d it acc env = (do
      standAt g.iter.pos
      let r ← pyNext it
      match r with
      | none => pure (.done .next)
      | some v => do
        letOwnedTupleGo g.target it v
        assign g.target env v
        let ok ← ifsGo env g.ifs true
        if ok then (do bodyT elt gens sc pos (d + 1) acc env; again (.compLoop (.ListComp elt gens sc pos) d it acc env)) else again (.compLoop (.ListComp elt gens sc pos) d it acc env)) := by
  unfold compTurn bodyT
  simp only [hg, ha]
  cases hg' : gens[d + 1]? with
  | none => rfl
  | some g' =>
    have := ha' g' hg'
    simp only [this, bne_self_eq_false, Bool.false_eq_true, if_false]
    simp only [bind_assoc, pure_bind]
    rfl
section
variable {B : Base} {M0 : List (Tx × Nat)} {Wo : Wd} {cx : Cx} {A : Around} {n : Nat} {lay : List Loc} {D : Addr}
structure CSt (B : Base) (lay : List Loc) (D : Addr) (W : Addr → Prop) (ρ : List Addr) (cs : Cells) (s : Shared) (fr : Fr) (acc : List AV) : Prop where
  ok : Ok B W ρ cs s
  frm : Frm B lay fr W ρ s.heap
  lst : ∃ vs : List Value, s.heap.PlainList D vs.toArray ∧ VRels B s.heap W ρ acc vs
  lim : acc.length ≤ lim
  own : W D ∧ D ∉ ρ ∧ B.h₀.objs.size ≤ D
  off : ∀ l ∈ lay, l.addr ≠ D
noncomputable def compX (lay : List Loc) (base : Nat) (D : Addr) : Addr → Prop := fun a => a = D ∨ ∃ i, base ≤ i ∧ locX lay i a
theorem CSt.xW {W : Addr → Prop} {ρ : List Addr} {cs : Cells} {s : Shared} {fr : Fr} {acc : List AV} (c : CSt B lay D W ρ cs s fr acc) {base : Nat} : ∀ a, compX lay base D a → W a := fun a h => by
  rcases h with rfl | ⟨i, _, h⟩
  · exact c.own.1
  · exact c.frm.layW a (locX_lay h)
theorem CSt.ownAt {W W' : Addr → Prop} {ρ ρ' : List Addr} {cs : Cells} {s s' : Shared} {fr : Fr} {acc : List AV} {X : Addr → Prop} (c : CSt B lay D W ρ cs s fr acc) (st : Step B X ρ W s.heap ρ' W' s'.heap) : W' D ∧ D ∉ ρ' ∧ B.h₀.objs.size ≤ D := by
  have hlt := c.ok.mem.wlt D c.own.1
  exact ⟨(st.wiff D hlt).mpr c.own.1, fun m => (st.fresh D m).elim c.own.2.1 fun h => absurd hlt (Nat.not_lt.mpr h), c.own.2.2⟩
theorem CSt.accAt {W W' : Addr → Prop} {ρ ρ' : List Addr} {cs : Cells} {s s' : Shared} {fr : Fr} {acc : List AV} {X : Addr → Prop} (c : CSt B lay D W ρ cs s fr acc) (st : Step B X ρ W s.heap ρ' W' s'.heap) (hD : ¬ X D) (hXW : ∀ a, X a → W a) : ∃ vs : List Value, s'.heap.PlainList D vs.toArray ∧ VRels B s'.heap W' ρ' acc vs := by
  obtain ⟨vs, ⟨k, l⟩, r⟩ := c.lst
  exact ⟨vs, ⟨k, st.kept D _ l c.own.2.1 (fun t => absurd (c.ok.mem.tabLt t) (Nat.not_lt.mpr c.own.2.2)) hD⟩, st.vals c.ok.mem hXW r⟩
theorem CSt.after {W W' : Addr → Prop} {ρ ρ' : List Addr} {cs cs' : Cells} {s s' : Shared} {fr : Fr} {acc : List AV} {X : Addr → Prop} (c : CSt B lay D W ρ cs s fr acc) (af : After B n X W ρ cs s W' ρ' cs' s') (hX : ∀ l ∈ lay, ¬ X l.addr) (hD : ¬ X D) (hXW : ∀ a, X a → W a) : CSt B lay D W' ρ' cs' s' fr acc :=
  ⟨af.ok, c.frm.step c.ok.mem af.step hX hXW, c.accAt af.step hD hXW, c.lim, c.ownAt af.step, c.off⟩
theorem CSt.non {W W' : Addr → Prop} {ρ ρ' : List Addr} {cs cs' : Cells} {s s' : Shared} {fr : Fr} {acc : List AV} (c : CSt B lay D W ρ cs s fr acc) (af : After B n Non W ρ cs s W' ρ' cs' s') : CSt B lay D W' ρ' cs' s' fr acc :=
  c.after af (fun _ _ x => x) (fun x => x) fun _ x => x.elim
theorem CSt.forget {W : Addr → Prop} {ρ : List Addr} {cs : Cells} {s : Shared} {fr fo : Fr} {acc : List AV} (c : CSt B lay D W ρ cs s fr acc) (hl : fo.length = fr.length) (hf : ∀ (i : Nat) (x : Option AV), fo[i]? = some x → x = none ∨ fr[i]? = some x) : CSt B lay D W ρ cs s fo acc :=
  ⟨c.ok, c.frm.forget hl hf, c.lst, c.lim, c.own, c.off⟩
theorem setAll_other (is : List Nat) : ∀ (xs : List AV) (fr : Fr), (setAll is xs fr).length = fr.length ∧ ∀ i, i ∉ is → (setAll is xs fr)[i]? = fr[i]? := by
  induction is with
  | nil => intro xs fr; exact ⟨rfl, fun _ _ => rfl⟩
  | cons j is ih =>
    intro xs fr
    cases xs with
    | nil => exact ⟨rfl, fun _ _ => rfl⟩
    | cons x xs =>
      obtain ⟨h1, h2⟩ := ih xs (fr.set j (some x))
      refine ⟨h1.trans (List.length_set ..), fun i hi => (h2 i fun h => hi (List.mem_cons_of_mem _ h)).trans ?_⟩
      exact List.getElem?_set_ne fun h : j = i => hi (by rw [← h]; exact List.mem_cons_self)
theorem bindT_other {is : List Nat} {x : AV} {fr fr' : Fr} (e : bindT is x fr = some fr') : fr'.length = fr.length ∧ ∀ i, i ∉ is → fr'[i]? = fr[i]? := by
  rcases orElse_eq e with ⟨j, hj, e⟩ | e
  · obtain ⟨_, e⟩ := if_eq e
    rw [one?_eq hj, ← sJ e]
    exact ⟨List.length_set .., fun i hi => List.getElem?_set_ne fun h : j = i => hi (by rw [← h]; exact List.mem_cons_self)⟩
  · obtain ⟨xs, _, e⟩ := bind_eq e
    obtain ⟨_, e⟩ := if_eq e
    rw [← sJ e]
    exact setAll_other is xs fr
theorem bindN_bindT {is : List Nat} {x : AV} {fr fr' : Fr} (e : bindN is x fr = some fr') : bindT is x fr = some fr' ∧ fr.length = fr'.length ∧ ∀ (i : Nat) (y : Option AV), fr[i]? = some y → y = none ∨ fr'[i]? = some y := by
  obtain ⟨h, e⟩ := if_eq e
  obtain ⟨h3, h4⟩ := bindT_other e
  refine ⟨e, h3.symm, fun i y hy => ?_⟩
  by_cases hi : i ∈ is
  · have := (aT (List.all_eq_true.mp h i hi)).2
    rw [hy] at this
    exact .inl (Option.isNone_iff_eq_none.mp this)
  · exact .inr ((h4 i hi).trans hy)
theorem marks_of {e : Expr} (h : notSet e = true) : ∀ op, behindInMarks op e = false := by
  intro op
  cases e <;> first | rfl | exact fB h
theorem folded_of {e : Expr} (h : notSet e = true) : ∀ x env, foldedSetIterable e env x = pure x := by
  intro x env
  cases e <;> first | rfl | exact fB h
structure ClInv (t : TrF) (cx inn : Cx) (k base : Nat) (g : Comprehension) (is : List Nat) (c : Cl) : Prop where
  eq : c = ⟨k, is, trI t cx g.iter, g.ifs.map (t.b inn)⟩
  asy : g.is_async = 0
  tgt : trTarget inn g.target = some is
  low : ∀ i ∈ is, base ≤ i
  folded : ∀ x env, foldedSetIterable g.iter env x = pure x
  zip : tgtOk g.target (trI t cx g.iter).zip = true
theorem trCl_inv {t : TrF} {cx inn : Cx} {k base : Nat} {g : Comprehension} {c : Cl} (h : trCl t cx inn k base g = some c) : ∃ is, ClInv t cx inn k base g is c := by
  obtain ⟨h, e⟩ := if_eq h
  have h := aT h
  have h2 := aT h.2
  have h3 := aT h2.2
  cases ht : trTarget inn g.target with
  | none => rw [ht] at h3; cases h3.1
  | some is =>
    rw [ht] at h3 e
    exact ⟨is, (sJ e).symm, beq_iff_eq.mp h.1, ht, fun i hi => of_decide_eq_true (List.all_eq_true.mp h3.1 i hi), folded_of h2.1, h3.2⟩
noncomputable abbrev stepC (Wo : Wd) (n : Nat) (elt : ME) (is : List Nat) (ifs : List MB) (cc : List Cl) (fr : Fr) : AV → List AV × Cells → Option (List AV × Cells) := fun x s => (bindN is x fr).bind fun fr' => (evAO Wo n true ifs fr' s.2).bind fun p =>
        if p.1 then evC Wo n elt cc fr' p.2 s.1 else some (s.1, p.2)
noncomputable def BodyOk (B : Base) (A : Around) (Wo : Wd) (n : Nat) (lay : List Loc) (base : Nat) (D : Addr) (cenv : Env) (ee : ME) (elt : Expr) (gens : List Comprehension) (sc : Scope) (pos : Pos) (cc : List Cl) (d : Nat) : Prop :=
  ∀ {fr : Fr} {W : Addr → Prop} {ρ : List Addr} {cs : Cells} {s : Shared} {acc : List AV} {r : List AV × Cells} {Q : Unit → Shared → Prop} {E : Value → Shared → Prop}, CSt B lay D W ρ cs s fr acc → n ≤ cs.length → evC Wo n ee cc fr cs acc = some r →
    (∀ W' ρ' s', After B n (compX lay base D) W ρ cs s W' ρ' r.2 s' → CSt B lay D W' ρ' r.2 s' fr r.1 → Q () s') → wpAny (model B.prog B.w) A (bodyT elt gens sc pos d (.ref D) cenv) Q E s
theorem tgtOk_zip {t : Expr} {z : Bool} (h : tgtOk t z = true) {pr : List Addr} (hp : pr.length = 1 ∨ z = true) : pr.length = 1 ∨ ∃ es c p, t = .Tuple es c p := by
  refine hp.imp id fun hz => ?_
  rw [hz] at h
  obtain ⟨es, he⟩ := Option.isSome_iff_exists.mp h
  obtain ⟨c, p, h⟩ := tupleOf_eq he
  exact ⟨es, c, p, h⟩
theorem mark_none (A : Around) : A.mark none = A := rfl
theorem loop_sound (hh : A.handled = none) {cenv : Env} {inn : Cx} {base : Nat} {elt : Expr} {gens : List Comprehension} {sc : Scope} {pos : Pos} {d : Nat} (X : EnvX B M0 A inn cenv lay)
    {ee : ME} {is : List Nat} {tb : Expr → MB} {cc : List Cl} {t it : Expr} {ie : List Expr} (hg : gens[d]? = some ⟨t, it, ie, 0⟩) (ha' : ∀ g', gens[d + 1]? = some g' → g'.is_async = 0) (ht : trTarget inn t = some is) (hs : ∀ i ∈ is, base ≤ i)
    (hb : ∀ x, SB B M0 Wo A n inn (tb x) x) (body : BodyOk B A Wo n lay base D cenv ee elt gens sc pos cc (d + 1)) {I : Addr} {ai : It} {pr : List Addr} (htz : pr.length = 1 ∨ ∃ es c p, t = .Tuple es c p) {fr : Fr} (hpr : ∀ a ∈ pr, a ≠ D ∧ ∀ l ∈ lay, l.addr ≠ a) :
    ∀ {k : Nat} {a b : List AV × Cells}, Runs (fun s : List AV × Cells => s.2) (stepC Wo n ee is (ie.map tb) cc fr) ai k a b → ∀ {W : Addr → Prop} {ρ : List Addr} {s : Shared} {R : Result → Shared → Prop}, CSt B lay D W ρ a.2 s fr a.1 → n ≤ a.2.length → IterAt B s.heap W ρ I ai k pr →
      (∀ W' ρ' s', After B n (fun x => compX lay base D x ∨ x ∈ pr) W ρ a.2 s W' ρ' b.2 s' → CSt B lay D W' ρ' b.2 s' fr b.1 → R (.ok .next) s') →
      codeAny (model B.prog B.w) A (.compLoop (.ListComp elt gens sc pos) d (.ref I) (.ref D) cenv) R s := by
  intro k a b hr
  have prX : ∀ {W : Addr → Prop} {ρ : List Addr} {s : Shared} {k : Nat}, IterAt B s.heap W ρ I ai k pr → ∀ x, x ∈ pr → W x := fun ia x hx => (ia.priv x hx).1
  have head : ∀ {k : Nat} {W : Addr → Prop} {ρ : List Addr} {cs : Cells} {acc : List AV} {s : Shared} {R : Result → Shared → Prop} {y : Option AV}, CSt B lay D W ρ cs s fr acc → IterAt B s.heap W ρ I ai k pr → itemAt cs ai k = some y →
      (y = none → ∀ s', After B n (· ∈ pr) W ρ cs s W ρ cs s' → R (.ok .next) s') →
      (∀ x, y = some x → ∀ v W' s', After B n (· ∈ pr) W ρ cs s W' ρ cs s' → VRel B s'.heap W' ρ x v → IterAt B s'.heap W' ρ I ai (k + 1) pr →
        ∀ (E : Value → Shared → Prop), wpAny (model B.prog B.w) A (do assign t cenv v; let ok ← ifsGo cenv ie true; if ok then bodyT elt gens sc pos (d + 1) (.ref D) cenv else pure ()) (fun _ s'' => codeAny (model B.prog B.w) A (.compLoop (.ListComp elt gens sc pos) d (.ref I) (.ref D) cenv) R s'') E s') →
      codeAny (model B.prog B.w) A (.compLoop (.ListComp elt gens sc pos) d (.ref I) (.ref D) cenv) R s := by
    intro k W ρ cs acc s R y c ia hy hnone hsome
    refine codeAny_of_tree ?_
    rw [Around.under_of_weight (c := .compLoop (.ListComp elt gens sc pos) d (.ref I) (.ref D) cenv) rfl]
    show wpAny _ A ((compTurn (.ListComp elt gens sc pos) d (.ref I) (.ref D) cenv).onRaise (fun x => do noteFrame x cenv; theTreesLotGoes x)) _ _ s
    refine wpAny_noted ?_
    rw [compTurn_eq hg rfl ha']
    refine wpAny_bind (wpAny_standAt (wpAny_bind (wpAny_mono (next_sound (n := n) hh c.ok ia (tgt := t) hy htz (Q := fun r s' => match r with
      | none => R (.ok .next) s'
      | some v => ∀ E, wpAny (model B.prog B.w) A (do assign t cenv v; let ok ← ifsGo cenv ie true; if ok then bodyT elt gens sc pos (d + 1) (.ref D) cenv else pure ()) (fun _ s'' => codeAny (model B.prog B.w) A (.compLoop (.ListComp elt gens sc pos) d (.ref I) (.ref D) cenv) R s'') E s') ?_ ?_) (fun r s₁ h₁ => ?_) fun _ _ e => e)))
    · exact fun e s' af => hnone e s' af
    · exact fun x e v W' s' af r ia' => hsome x e v W' s' af r ia'
    · cases r with
      | none => exact wpAny_pure h₁
      | some v =>
        refine wpAny_bind (wpAny_mono h₁ (fun _ s₂ h₂ => ?_) fun _ _ e => e)
        have h₂ := h₂ (notedBy (model B.prog B.w) A cenv fun e s' => R (.error e) s')
        have key : (do assign t cenv v; let ok ← ifsGo cenv ie true; if ok = true then (do bodyT elt gens sc pos (d + 1) (.ref D) cenv; again (.compLoop (.ListComp elt gens sc pos) d (.ref I) (.ref D) cenv)) else again (.compLoop (.ListComp elt gens sc pos) d (.ref I) (.ref D) cenv) : Sem PySem.Fin) =
            (do (do assign t cenv v; let ok ← ifsGo cenv ie true; if ok = true then bodyT elt gens sc pos (d + 1) (.ref D) cenv else pure ()); again (.compLoop (.ListComp elt gens sc pos) d (.ref I) (.ref D) cenv)) := by
          simp only [bind_assoc]
          congr 1; funext _; congr 1; funext ok
          cases ok <;> simp
        show wpAny _ A (do assign t cenv v; let ok ← ifsGo cenv ie true; if ok = true then (do bodyT elt gens sc pos (d + 1) (.ref D) cenv; again (.compLoop (.ListComp elt gens sc pos) d (.ref I) (.ref D) cenv)) else again (.compLoop (.ListComp elt gens sc pos) d (.ref I) (.ref D) cenv) : Sem PySem.Fin) _ _ s₂
        rw [key]
        exact wpAny_bind (wpAny_mono h₂ (fun _ s₃ h₃ => wpAny_pure ⟨rfl, h₃⟩) fun _ _ e => e)
  induction hr with
  | done h =>
    intro W ρ s R c hn ia hR
    refine head c ia h (fun _ s' af => hR W ρ s' (af.weaken fun _ _ => .inr) ?_) fun x e => nomatch e
    exact c.after af (fun l hl hm => (hpr _ hm).2 l hl rfl) (fun hm => (hpr _ hm).1 rfl) (prX ia)
  | @step k x a b' c' h e r ih =>
    intro W ρ s R c hn ia hR
    obtain ⟨fr', hfr, e⟩ := bind_eq e
    obtain ⟨⟨q, cs₃⟩, hp, e⟩ := bind_eq e
    obtain ⟨hbT, hfl, hff⟩ := bindN_bindT hfr
    refine head c ia h (fun e => nomatch e) fun x' ex v W₁ s₁ af₁ r₁ ia₁ E => ?_
    obtain rfl := sJ ex
    have c₁ : CSt B lay D W₁ ρ a.2 s₁ fr a.1 := c.after af₁ (fun l hl hm => (hpr _ hm).2 l hl rfl) (fun hm => (hpr _ hm).1 rfl) (prX ia)
    refine wpAny_bind (bindT_sound (n := n) hh X.toEnvOk ht c₁.ok c₁.frm r₁ hbT fun W₂ s₂ af₂ F₂ => ?_)
    have hsX : ∀ a, slotX is lay a → W₁ a := fun a ha => c₁.frm.layW a (slotX_lay ha)
    have hsD : ¬ slotX is lay D := fun ha => let ⟨l, hl, e⟩ := slotX_lay ha; c₁.off l hl e
    have c₂ : CSt B lay D W₂ ρ a.2 s₂ fr' a.1 := ⟨af₂.ok, F₂, c₁.accAt af₂.step hsD hsX, c₁.lim, c₁.ownAt af₂.step, c₁.off⟩
    have ia₂ : IterAt B s₂.heap W₂ ρ I ai (k + 1) pr := ia₁.step c₁.ok.mem af₂.step (fun x hx ha => let ⟨l, hl, e⟩ := slotX_lay ha; (hpr x hx).2 l hl e) hsX
    refine wpAny_bind (ifs_sound hb ie ⟨X, c₂.ok, c₂.frm, hn⟩ hp fun W₃ ρ₃ s₃ af₃ => ?_)
    have c₃ := c₂.non af₃
    have ia₃ : IterAt B s₃.heap W₃ ρ₃ I ai (k + 1) pr := ia₂.step c₂.ok.mem af₃.step (fun x hx ha => ha) fun x hx => hx.elim
    have hn₃ := Nat.le_trans hn (af₃.length c₂.ok)
    have af₀₃ : After B n (fun x => compX lay base D x ∨ x ∈ pr) W ρ a.2 s W₃ ρ₃ cs₃ s₃ := ((af₁.weaken fun _ _ => .inr).trans (af₂.weaken fun x _ ⟨i, hi, hx⟩ => .inl (.inr ⟨i, hs i hi, hx⟩))).trans af₃.up
    cases q with
    | false =>
      obtain rfl := sJ e
      exact wpAny_pure (ih (c₃.forget hfl hff) hn₃ ia₃ fun W' ρ' s' af' c' => hR W' ρ' s' (af₀₃.trans af') c')
    | true =>
      refine body c₃ hn₃ e fun W₄ ρ₄ s₄ af₄ c₄ => ?_
      have ia₄ : IterAt B s₄.heap W₄ ρ₄ I ai (k + 1) pr := ia₃.step c₃.ok.mem af₄.step (fun x hx ha => by
        rcases ha with ha | ⟨i, _, ha⟩
        · exact (hpr x hx).1 ha
        · obtain ⟨l, hl, e⟩ := locX_lay ha; exact (hpr x hx).2 l hl e) (c₃.xW (base := base))
      exact ih (c₄.forget hfl hff) (Nat.le_trans hn₃ (af₄.length c₃.ok)) ia₄ fun W' ρ' s' af' c' => hR W' ρ' s' ((af₀₃.trans (af₄.weaken fun _ _ => .inl)).trans af') c'
theorem body_sound (hh : A.handled = none) (S : Stat B) {cenv : Env} {inn : Cx} {base : Nat} {tf : TrF} {elt : Expr} {gens : List Comprehension} {sc : Scope} {pos : Pos} (H : TrAll B M0 Wo A n inn tf) (X : EnvX B M0 A inn cenv lay) (hasy : ∀ g ∈ gens, g.is_async = 0) (rest : List Comprehension) :
    ∀ {cc : List Cl}, rest.mapM (trCl tf inn inn 0 base) = some cc → ∀ {d : Nat}, gens.drop d = rest → BodyOk B A Wo n lay base D cenv (tf.e inn elt) elt gens sc pos cc d := by
  induction rest with
  | nil =>
    intro cc G d hd fr W ρ cs s acc r Q E c hn e hQ
    rw [List.mapM_nil] at G
    obtain rfl := sJ G
    have hg : gens[d]? = none := List.getElem?_eq_none (List.drop_eq_nil_iff.mp hd)
    obtain ⟨q, hq, e⟩ := bind_eq e
    obtain ⟨hlim, e⟩ := if_eq e
    obtain rfl := sJ e
    unfold bodyT
    rw [hg]
    refine wpAny_bind (H.e elt ⟨X, c.ok, c.frm, hn⟩ hq fun v₁ W₁ ρ₁ s₁ af₁ r₁ => ?_)
    have c₁ := c.non af₁
    obtain ⟨vs, ⟨k, l⟩, r⟩ := c₁.lst
    refine wpAny_bind (append_at (hsz := by rw [List.size_toArray, ← r.length]; exact lim_size c.lim) l fun h' hs hD => wpAny_pure ?_)
    have af₂ : After B n (fun a => a = D) W₁ ρ₁ q.2 s₁ W₁ ρ₁ q.2 { s₁ with heap := h' } :=
      (After.refl c₁.ok).other (tk := s₁.toks) (fun a => a = D) (Nat.le_of_eq hs.1.symm) (fun a o e hne => hs.extBut a o hne e) (fun a e _ => e ▸ c₁.own.1) (fun _ e _ => e) (fun a ha e => c₁.own.2.1 (e ▸ ha)) (fun a t e => absurd (c₁.ok.mem.tabLt t) (Nat.not_lt.mpr (e ▸ c₁.own.2.2))) (fun _ _ => Iff.rfl) (fun a w => by rw [hs.1]; exact c₁.ok.mem.wlt a w)
    have hXW : ∀ a, a = D → W₁ a := fun a e => e ▸ c₁.own.1
    have rr := af₂.step.vals c₁.ok.mem hXW (r.append (.cons r₁ .nil))
    refine hQ W₁ ρ₁ _ (af₁.up.trans (af₂.weaken fun _ _ e => .inl e)) ⟨af₂.ok, c₁.frm.step c₁.ok.mem af₂.step (fun l hl => c₁.off l hl) hXW, ⟨vs ++ [v₁], ⟨k + 1, by rw [hD]; simp⟩, rr⟩, ?_, c₁.own, c₁.off⟩
    rw [List.length_append, List.length_singleton]; exact hlim
  | cons g rest ih =>
    intro cc G d hd fr W ρ cs s acc r Q E c hn e hQ
    rw [List.mapM_cons] at G
    obtain ⟨c1, h1, G⟩ := bind_eq G
    obtain ⟨cc', h2, G⟩ := bind_eq G
    obtain rfl := sJ G
    obtain ⟨is, I⟩ := trCl_inv h1
    obtain ⟨t, it, ie, a⟩ := g
    obtain ⟨rfl, ha, ht, hs, hf, hz⟩ := I
    dsimp only at ha ht hf hz e
    subst ha
    have hg : gens[d]? = some ⟨t, it, ie, 0⟩ := by
      have := List.getElem?_drop (xs := gens) (i := d) (j := 0)
      rw [hd] at this; exact this.symm
    have hd' : gens.drop (d + 1) = rest := by rw [← List.drop_drop, hd]; rfl
    obtain ⟨q, hq, e⟩ := bind_eq e
    have hfr : fr ++ List.replicate 0 none = fr := List.append_nil fr
    rw [hfr] at e
    have runs := runs_of e
    unfold bodyT
    rw [hg]
    refine wpAny_bind (wpAny_mono (H.it S it ⟨X, c.ok, c.frm, hn⟩ hq (Q := fun i s₁ => wpAny (model B.prog B.w) A (do let _ ← runOwn (.compStart (.ListComp elt gens sc pos) d i (.ref D) cenv) cenv; pure ()) Q E s₁) (E := E) fun I pr W₁ ρ₁ s₁ af₁ ia fresh htz => ?_) (fun x s₁ h₁ => ?_) fun _ _ e => e)
    · have c₁ := c.non af₁
      have prOff : ∀ a ∈ pr, a ≠ D ∧ ∀ l ∈ lay, l.addr ≠ a := fun a ha => by
        have hge := fresh a ha
        exact ⟨fun e => absurd (c.ok.mem.wlt D c.own.1) (Nat.not_lt.mpr (e ▸ hge)), fun l hl e => absurd (c.ok.mem.wlt _ (c.frm.own l hl).1) (Nat.not_lt.mpr (e ▸ hge))⟩
      have ha' : ∀ g', gens[d + 1]? = some g' → g'.is_async = 0 := fun g' hg' => hasy g' (List.mem_of_getElem? hg')
      have loop : codeAny (model B.prog B.w) A (.compLoop (.ListComp elt gens sc pos) d (.ref I) (.ref D) cenv) (fun r s' => match r with | .ok f => wpAny (model B.prog B.w) A (pure () : Sem Unit) Q E s' | .error e => cameBackBy (model B.prog B.w) A cenv E e s') s₁ := by
        refine loop_sound hh X hg ha' ht hs H.b (ih h2 hd') (tgtOk_zip hz htz) prOff runs c₁ (Nat.le_trans hn (af₁.length c.ok)) ia fun W' ρ' s' af' c' => wpAny_pure ?_
        refine hQ W' ρ' s' ?_ c'
        exact (af₁.up.trans (af'.weaken (Y := fun x => compX lay base D x ∨ x ∈ pr) fun _ _ h => h)).weaken fun x l h => h.elim id fun hx => absurd l (Nat.not_lt.mpr (fresh x hx))
      refine wpAny_bind (wpAny_runOwn ?_)
      rw [mark_none]
      exact codeAny_compStart_gen hg rfl loop (self_sound ia.st loop)
    · refine wpAny_bind (wpAny_standAt ?_)
      rw [hf]
      refine wpAny_bind (wpAny_pure (wpAny_bind (wpAny_holding (wpAny_mono h₁ (fun i s₂ h₂ => h₂) fun _ _ e => e))))
end
end Ev
namespace Ev
open PySem PySem.W PyProof.Rows PySem.SeqAt
section
variable {B : Base} {M0 : List (Tx × Nat)} {Wo : Wd} {cx : Cx} {A : Around} {n : Nat} {env : Env} {lay : List Loc} {fr : Fr}
structure CompEnd (B : Base) (n : Nat) (W : Addr → Prop) (ρ : List Addr) (cs : Cells) (s : Shared) (cs' : Cells) (xs : List AV) (D L : Addr) (W' : Addr → Prop) (ρ' : List Addr) (s' : Shared) : Prop where
  af : After B n Non W ρ cs s W' ρ' cs' s'
  ownD : W' D ∧ D ∉ ρ' ∧ B.h₀.objs.size ≤ D ∧ s.heap.objs.size ≤ D
  ownL : W' L ∧ L ∉ ρ' ∧ B.h₀.objs.size ≤ L ∧ s.heap.objs.size ≤ L
  ne : D ≠ L
  lst : ∃ vs : List Value, s'.heap.PlainList D vs.toArray ∧ VRels B s'.heap W' ρ' xs vs
  lim : xs.length ≤ lim
  ns : ∃ m, s'.heap.Ns L m
theorem comp_core (hh : A.handled = none) (S : Stat B) {sc : Scope} (hk : ScOk cx sc) {tf : TrF} (H : TrAll B M0 Wo A n cx tf) (Hi : TrAll B M0 Wo A n (cx.inner sc) tf) {elt : Expr} {pos : Pos} {is : List Nat} {cc : List Cl} {t it : Expr} {ie : List Expr} {rest : List Comprehension}
    (G : rest.mapM (trCl tf (cx.inner sc) (cx.inner sc) 0 cx.n) = some cc) (ht : trTarget (cx.inner sc) t = some is) (hs : ∀ i ∈ is, cx.n ≤ i) (hz : tgtOk t (trI tf cx it).zip = true) (hasy : ∀ g ∈ rest, g.is_async = 0)
    {W : Addr → Prop} {ρ : List Addr} {cs cs' : Cells} {s : Shared} {xs : List AV} {RR : Value → Addr → Result → Shared → Prop} {E : Value → Shared → Prop} (T : At B M0 A n cx env lay fr W ρ cs s)
    (e : evC Wo n (tf.e (cx.inner sc) elt) (⟨(ownNames sc).length, is, trI tf cx it, ie.map (tf.b (cx.inner sc))⟩ :: cc) fr cs [] = some (xs, cs')) (hRR : ∀ D L W' ρ' s', CompEnd B n W ρ cs s cs' xs D L W' ρ' s' → RR (.ref D) L (.ok .next) s') :
    wpAny (model B.prog B.w) A (eval it env) (fun x s₁ => wpAny (model B.prog B.w) A (pyIter x) (fun i s₂ => wpAny (model B.prog B.w) A (newList []) (fun acc s₃ =>
      wpAny (model B.prog B.w) A (newFunctionEnv sc env.globals (clOf env sc.names []) [] env.qual none .none (some env)) (fun cenv s₄ =>
        codeAny (model B.prog B.w) A (.compStart (.ListComp elt (⟨t, it, ie, 0⟩ :: rest) sc pos) 0 i acc { cenv with scope := relabel sc env }) (RR acc cenv.locals) s₄) E s₃) E s₂) E s₁) E s := by
  obtain ⟨X, ok, F, hn⟩ := T
  obtain ⟨q, hq, e⟩ := bind_eq e
  have runs := runs_of e
  refine H.it S it ⟨X, ok, F, hn⟩ hq fun I pr W₁ ρ₁ s₁ af₁ ia fresh htz => ?_
  refine wpAny_newObj_type (newEnv_comp ?_)
  have m₁ := af₁.ok.mem
  generalize hH1 : s₁.heap.push { cls := .type "list", dict := none, data := .seq ([] : List Value).toArray } = H1
  have z1 : H1.objs.size = s₁.heap.objs.size + 1 := by rw [← hH1, Heap.size_push]
  generalize hH2 : pushCells (H1.push { cls := .type "dict", data := .dict #[] }) sc.names = H2
  have hgrow : (H1.push { cls := .type "dict", data := .dict #[] }).objs.size ≤ H2.objs.size := hH2 ▸ pushCells_size _ _
  have z2 : H1.objs.size + 1 ≤ H2.objs.size := by rw [Heap.size_push] at hgrow; exact hgrow
  have keep1 : ∀ a o, H1.get? a = some o → H2.get? a = some o := fun a o e => hH2 ▸ pushCells_keeps _ _ _ _ (Heap.get?_push_of_some _ e)
  have keep : ∀ a o, s₁.heap.get? a = some o → H2.get? a = some o := fun a o e => keep1 a o (hH1 ▸ Heap.get?_push_of_some _ e)
  have hD : H2.get? s₁.heap.objs.size = some { cls := .type "list", dict := none, data := .seq ([] : List Value).toArray } := keep1 _ _ (hH1 ▸ Heap.get?_push_size _ rfl)
  have hNsL : H2.Ns H1.objs.size (fun _ => none) := (Heap.Ns.new H1 (.type "dict")).at' fun o e => hH2 ▸ pushCells_keeps _ _ _ _ e
  have hcells := cellsFrom_ok sc.names (H1.push { cls := .type "dict", data := .dict #[] }) (H1.objs.size + 1) [] ⟨fun _ _ hm => (nomatch hm), List.Pairwise.nil⟩ (by rw [Heap.size_push]; exact Nat.le_refl _)
  rw [Heap.size_push, hH2] at hcells
  have room : After B n Non W₁ ρ₁ q.2 s₁ (Plus W₁ s₁.heap.objs.size H2.objs.size) ρ₁ q.2 { s₁ with heap := H2, toks := s₁.toks } := af₁.ok.room (by omega) keep
  have c0 : ∀ {x : Str} {c : Addr}, (innCells sc (H1.objs.size + 1) env).lookup x = some c → (x, NameKind.cell) ∈ sc.names → (cellsFrom (H1.objs.size + 1) sc.names []).lookup x = some c := fun {x c} h hm => by
    obtain ⟨c', h1, h2⟩ := innCells_own (env := env) (N := H1.objs.size + 1) hm
    rw [h] at h1; cases h1; exact h2
  have cell0 : ∀ {x : Str} {c : Addr}, (innCells sc (H1.objs.size + 1) env).lookup x = some c → (x, NameKind.cell) ∈ sc.names → H2.IsCell c none ∧ H1.objs.size + 1 ≤ c := fun h hm => hcells.empty _ _ (mem_of_lookup (c0 h hm))
  have ρlt : ∀ a ∈ ρ₁, a < s₁.heap.objs.size := fun a z => m₁.wlt a (m₁.own a z).1
  have newOwn : ∀ a, s₁.heap.objs.size ≤ a → a < H2.objs.size → Plus W₁ s₁.heap.objs.size H2.objs.size a ∧ a ∉ ρ₁ ∧ B.h₀.objs.size ≤ a := fun a h1 h2 => ⟨.inr ⟨h1, h2⟩, fun z => absurd (ρlt a z) (Nat.not_lt.mpr h1), Nat.le_trans m₁.size h1⟩
  have hk' : (ownP sc).length = (ownNames sc).length := by rw [ownNames_eq, List.length_map]
  have FO : Frm B (layOf H1.objs.size (innCells sc (H1.objs.size + 1) env) sc) (List.replicate (ownNames sc).length none) (Plus W₁ s₁.heap.objs.size H2.objs.size) ρ₁ H2 := by
    refine Frm.ofOwn hk.nd (by rw [List.length_replicate, hk']) (fun i p x hp hx hl => ⟨_, hNsL, ?_⟩) (fun i p x hp hx hc => ?_) (fun x y c hx hy hmx hmy => ?_) (fun x c hx hm => ?_) (newOwn _ (by omega) (by omega)) (fun x c hx hm => ?_)
    · have := List.eq_of_mem_replicate (List.mem_of_getElem? hx)
      subst this; trivial
    · have := List.eq_of_mem_replicate (List.mem_of_getElem? hx)
      subst this
      have hm := (mem_ownP (List.mem_of_getElem? hp)).1
      obtain ⟨c, h1, _⟩ := innCells_own (env := env) (N := H1.objs.size + 1) (x := p.1) (by rw [← hc]; exact hm)
      exact ⟨c, none, h1, (cell0 h1 (by rw [← hc]; exact hm)).1, trivial⟩
    · exact name_of_addr hcells.apart (mem_of_lookup (c0 hx hmx)) (mem_of_lookup (c0 hy hmy))
    · have := (cell0 hx hm).2
      intro e; rw [e] at this; omega
    · have h1 := cell0 hx hm
      have h2 := h1.1.lt
      exact newOwn c (by omega) h2
  have F₁ := F.after ok af₁
  have F₂ : Frm B lay fr (Plus W₁ s₁.heap.objs.size H2.objs.size) ρ₁ H2 := F₁.after af₁.ok room
  have layLt : ∀ l ∈ lay, @LT.lt Nat _ l.addr s.heap.objs.size := fun l hl => ok.mem.wlt _ (F.own l hl).1
  have ownGe : ∀ l ∈ layOf H1.objs.size (innCells sc (H1.objs.size + 1) env) sc, @LE.le Nat _ H1.objs.size l.addr := fun l hl => by
    obtain ⟨p, hp, rfl⟩ := List.mem_map.mp hl
    have hm := mem_ownP hp
    rcases hm.2 with h | h
    · unfold locOf; rw [h]; exact Nat.le_refl _
    · obtain ⟨c, h1, _⟩ := innCells_own (env := env) (N := H1.objs.size + 1) (x := p.1) (by rw [← h]; exact hm.1)
      have := (cell0 h1 (by rw [← h]; exact hm.1)).2
      unfold locOf; rw [h, h1]
      show H1.objs.size ≤ c
      omega
  have sz1 := af₁.step.size
  have c₂ : CSt B (lay ++ layOf H1.objs.size (innCells sc (H1.objs.size + 1) env) sc) s₁.heap.objs.size (Plus W₁ s₁.heap.objs.size H2.objs.size) ρ₁ q.2 { s₁ with heap := H2, toks := s₁.toks } (fr ++ List.replicate (ownNames sc).length none) [] := by
    refine ⟨room.ok, F₂.more FO fun l hl l' hl' e => ?_, ⟨[], ⟨_, hD⟩, .nil⟩, Nat.zero_le _, newOwn _ (Nat.le_refl _) (by omega), fun l hl e => ?_⟩
    · have h1 := layLt l hl
      have h2 := ownGe l' hl'
      have e : @Eq Nat l.addr l'.addr := e; omega
    · rcases List.mem_append.mp hl with hl | hl
      · have h1 := layLt l hl; have e : @Eq Nat l.addr s₁.heap.objs.size := e; omega
      · have h1 := ownGe l hl; have e : @Eq Nat l.addr s₁.heap.objs.size := e; omega
  have prLt : ∀ a ∈ pr, @LT.lt Nat _ a s₁.heap.objs.size := fun a ha => m₁.wlt a (ia.priv a ha).1
  have prOff : ∀ a ∈ pr, a ≠ s₁.heap.objs.size ∧ ∀ l ∈ lay ++ layOf H1.objs.size (innCells sc (H1.objs.size + 1) env) sc, l.addr ≠ a := fun a ha => by
    have h1 := prLt a ha
    have h2 : @LE.le Nat _ s.heap.objs.size a := fresh a ha
    refine ⟨Nat.ne_of_lt h1, fun l hl e => ?_⟩
    rcases List.mem_append.mp hl with hl | hl
    · have h3 := layLt l hl; have e : @Eq Nat l.addr a := e; omega
    · have h3 := ownGe l hl; have e : @Eq Nat l.addr a := e; omega
  have ia₂ : IterAt B H2 (Plus W₁ s₁.heap.objs.size H2.objs.size) ρ₁ I q.1 0 pr := ia.step m₁ room.step (fun _ _ h => h) fun _ h => h.elim
  have X' := X.inner hk (L := H1.objs.size) (N := H1.objs.size + 1)
  have hasy' : ∀ g ∈ (⟨t, it, ie, 0⟩ :: rest : List Comprehension), g.is_async = 0 := fun g hg => (List.mem_cons.mp hg).elim (fun e => e ▸ rfl) (hasy g)
  have loop : codeAny (model B.prog B.w) A (.compLoop (.ListComp elt (⟨t, it, ie, 0⟩ :: rest) sc pos) 0 (.ref I) (.ref s₁.heap.objs.size) (innEnv sc H1.objs.size (H1.objs.size + 1) env)) (RR (.ref s₁.heap.objs.size) H1.objs.size) { s₁ with heap := H2, toks := s₁.toks } := by
    refine loop_sound hh X' rfl (fun g' hg' => hasy' g' (List.mem_of_getElem? hg')) ht hs Hi.b (body_sound hh S Hi X' hasy' rest G (d := 1) rfl) (tgtOk_zip hz htz) prOff runs c₂ (Nat.le_trans hn (af₁.length ok)) ia₂ fun W' ρ' s' af' c' => ?_
    refine hRR _ _ W' ρ' s' ?_
    have freshX : ∀ x, (compX (lay ++ layOf H1.objs.size (innCells sc (H1.objs.size + 1) env) sc) cx.n s₁.heap.objs.size x ∨ x ∈ pr) → s.heap.objs.size ≤ x := fun x hx => by
      rcases hx with (rfl | ⟨i, hi, l, hl, rfl⟩) | hx
      · exact sz1
      · rw [List.getElem?_append_right (by rw [X.len]; exact hi)] at hl
        have := ownGe l (List.mem_of_getElem? hl)
        omega
      · exact fresh x hx
    have tot : After B n Non W ρ cs s W' ρ' cs' s' := (af₁.trans room).fresh (X := Non) af' freshX
    have oL := newOwn H1.objs.size (by omega) (by omega)
    have hLlt : H1.objs.size < H2.objs.size := by omega
    refine ⟨tot, ⟨c'.own.1, c'.own.2.1, c'.own.2.2, sz1⟩, ⟨(af'.step.wiff _ hLlt).mpr oL.1, fun z => (af'.step.fresh _ z).elim oL.2.1 fun h => absurd hLlt (Nat.not_lt.mpr h), oL.2.2, by omega⟩, (fun e => by have e : @Eq Nat s₁.heap.objs.size H1.objs.size := e; omega), c'.lst, c'.lim, ?_⟩
    by_cases hloc : ∃ p ∈ ownP sc, p.2 = .local
    · obtain ⟨p, hp, hl⟩ := hloc
      have hm : locOf H1.objs.size (innCells sc (H1.objs.size + 1) env) p ∈ lay ++ layOf H1.objs.size (innCells sc (H1.objs.size + 1) env) sc := List.mem_append_right _ (List.mem_map_of_mem hp)
      have he : locOf H1.objs.size (innCells sc (H1.objs.size + 1) env) p = .ns H1.objs.size p.1 := by unfold locOf; rw [hl]; rfl
      rw [he] at hm
      obtain ⟨i, hi⟩ := List.mem_iff_getElem?.mp hm
      obtain ⟨x, _, m, hm, _⟩ := c'.frm.relAt hi
      exact ⟨m, hm⟩
    · refine ⟨_, hNsL.at' fun o e => af'.step.kept _ o e oL.2.1 (fun tb => absurd (m₁.tabLt tb) (Nat.not_lt.mpr oL.2.2)) fun hx => ?_⟩
      rcases hx with (h | ⟨i, hi, l, hl, h⟩) | h
      · have h : @Eq Nat H1.objs.size s₁.heap.objs.size := h; omega
      · rw [List.getElem?_append_right (by rw [X.len]; exact hi)] at hl
        obtain ⟨p, hp, rfl⟩ := List.mem_map.mp (List.mem_of_getElem? hl)
        have hm := mem_ownP hp
        rcases hm.2 with h2 | h2
        · exact hloc ⟨p, hp, h2⟩
        · obtain ⟨c, h1, _⟩ := innCells_own (env := env) (N := H1.objs.size + 1) (x := p.1) (by rw [← h2]; exact hm.1)
          have h3 := (cell0 h1 (by rw [← h2]; exact hm.1)).2
          unfold locOf at h
          rw [h2, h1] at h
          have h : c = H1.objs.size := h
          have h : @Eq Nat c H1.objs.size := h; omega
      · have := prLt _ h; have h4 : @LT.lt Nat _ H1.objs.size s₁.heap.objs.size := this; omega
  exact codeAny_compStart_gen (g := ⟨t, it, ie, 0⟩) rfl rfl loop (self_sound ia₂.st loop)
end
end Ev
namespace Ev
open PySem PySem.W PyProof.Rows PySem.SeqAt
section
variable {B : Base} {M0 : List (Tx × Nat)} {Wo : Wd} {cx : Cx} {A : Around} {n : Nat} {env : Env} {lay : List Loc} {fr : Fr} {W : Addr → Prop} {ρ : List Addr} {cs cs' : Cells} {h : Heap} {s : Shared}
theorem Mem.free (m : Mem B W ρ cs h) {D : Addr} (hD : D ∉ ρ) (hb : B.h₀.objs.size ≤ D) : Mem B (fun a => W a ∧ a ≠ D) ρ cs h := by
  refine ⟨m.len, fun i o a e g => (m.cell i o a e g).mono rfl (fun a o e _ => e) (fun a _ w => w.1) (fun _ _ e => e), m.inj, fun a ha => ⟨⟨(m.own a ha).1, fun e => hD (e ▸ ha)⟩, (m.own a ha).2⟩, fun a w => m.wlt a w.1, fun a o e => ⟨(m.base a o e).1, fun w => (m.base a o e).2 w.1⟩, fun p hp => ?_, m.size⟩
  obtain ⟨t, w, l⟩ := m.tab p hp
  exact ⟨t, ⟨w, fun e => absurd l (Nat.not_lt.mpr (e ▸ hb))⟩, l⟩
theorem Mem.adopt (m : Mem B W ρ cs h) {D : Addr} (hW : W D) (hD : D ∉ ρ) (hb : B.h₀.objs.size ≤ D) {o : AObj} (c : CRel B h W (ρ ++ [D]) D o) : Mem B W (ρ ++ [D]) (cs ++ [o]) h := by
  refine ⟨by simp [m.len], fun i o' a e g => ?_, ?_, fun a z => ?_, m.wlt, m.base, m.tab, m.size⟩
  · by_cases hi : i < cs.length
    · rw [List.getElem?_append_left hi] at e
      rw [List.getElem?_append_left (m.len ▸ hi)] at g
      exact (m.cell i o' a e g).mono rfl (fun a o e _ => e) (fun a _ w => w) fun j b q => getElem?_append_some _ q
    · have hi' : i = cs.length := by
        have := (List.getElem?_eq_some_iff.mp e).1
        simp at this; omega
      subst hi'
      simp at e; subst e
      rw [m.len] at g
      simp at g; subst g
      exact c
  · exact List.nodup_append.mpr ⟨m.inj, by simp, fun a ha b hb e => by simp at hb; subst hb; exact hD (e ▸ ha)⟩
  · rcases List.mem_append.mp z with z | z
    · exact m.own a z
    · simp at z; subst z; exact ⟨hW, hb⟩
theorem mk_fin {W W' : Addr → Prop} {ρ ρ' : List Addr} {cs cs' : Cells} {s s' : Shared} {xs : List AV} {D : Addr} {vs : List Value} {m : Bool} {r : AV × Cells} (o : Ok B W ρ cs s) (hn : n ≤ cs.length) (af : After B n Non W ρ cs s W' ρ' cs' s')
    (ownD : W' D ∧ D ∉ ρ' ∧ B.h₀.objs.size ≤ D ∧ s.heap.objs.size ≤ D) (l : s'.heap.PlainList D vs.toArray) (rv : VRels B s'.heap W' ρ' xs vs) (e : mk m xs cs' = some r) :
    ∃ W'' ρ'', After B n Non W ρ cs s W'' ρ'' r.2 s' ∧ VRel B s'.heap W'' ρ'' r.1 (.ref D) ∧ (∀ a, a ≠ D → (W'' a ↔ W' a)) ∧ ∀ a ∈ ρ'', a ∈ ρ' ∨ a = D := by
  obtain ⟨hl, e⟩ := if_eq e
  cases m with
  | false =>
    obtain rfl := sJ e
    refine ⟨fun a => W' a ∧ a ≠ D, ρ', ⟨⟨af.ok.mem.free ownD.2.1 ownD.2.2.1, af.ok.gens⟩, ⟨af.step.kept, fun a hlt => ⟨fun w => (af.step.wiff a hlt).mp w.1, fun w => ⟨(af.step.wiff a hlt).mpr w, fun e => absurd hlt (Nat.not_lt.mpr (e ▸ ownD.2.2.2))⟩⟩, af.step.pre, af.step.fresh, af.step.size⟩, af.os, af.low⟩, ?_, fun a ha => ⟨fun w => w.1, fun w => ⟨w, ha⟩⟩, fun a ha => .inl ha⟩
    exact .lst l hl (fun w => w.2 rfl) (rv.mono (fun _ _ e w => e) (fun _ _ w => w.1) fun _ _ e => e)
  | true =>
    obtain rfl := sJ e
    have hn' := Nat.le_trans hn (af.length o)
    refine ⟨W', ρ' ++ [D], ⟨⟨af.ok.mem.adopt ownD.1 ownD.2.1 ownD.2.2.1 ⟨vs, l, hl, rv.mono (fun _ _ e _ => e) (fun _ _ w => w) fun _ _ e => getElem?_append_some _ e⟩, af.ok.gens⟩, ⟨af.step.kept, af.step.wiff, fun i a e => getElem?_append_some _ (af.step.pre i a e), fun a ha => ?_, af.step.size⟩, af.os, af.low.trans (lowTo_append hn' _)⟩, .ref ?_, fun _ _ => Iff.rfl, fun a ha => (List.mem_append.mp ha).imp id mem_one⟩
    · rcases List.mem_append.mp ha with ha | ha
      · exact af.step.fresh a ha
      · exact .inr (mem_one ha ▸ ownD.2.2.2)
    · rw [af.ok.mem.len]; exact List.getElem?_concat_length
theorem CompEnd.letGo {xs : List AV} {D L : Addr} {W' : Addr → Prop} {ρ' : List Addr} {s' : Shared} (c : CompEnd B n W ρ cs s cs' xs D L W' ρ' s') {h' : Heap} (hs : Heap.SameBut L s'.heap h') :
    After B n Non W ρ cs s W' ρ' cs' { s' with heap := h' } ∧ ∃ vs : List Value, h'.PlainList D vs.toArray ∧ VRels B h' W' ρ' xs vs := by
  have tb : ∀ a, B.isTab a → ¬ a = L := fun a t e => absurd (c.af.ok.mem.tabLt t) (Nat.not_lt.mpr (e ▸ c.ownL.2.2.1))
  refine ⟨c.af.other (tk := s'.toks) (fun a => a = L) (Nat.le_of_eq hs.1.symm) (fun a o e hne => hs.extBut a o hne e) (fun a e _ => e ▸ c.ownL.1) (fun x e hlt => absurd hlt (Nat.not_lt.mpr (e ▸ c.ownL.2.2.2))) (fun a ha e => c.ownL.2.1 (e ▸ ha)) tb (fun _ _ => Iff.rfl) (fun a w => by rw [hs.1]; exact c.af.ok.mem.wlt a w), ?_⟩
  obtain ⟨vs, ⟨k, l⟩, r⟩ := c.lst
  exact ⟨vs, ⟨k, hs.extBut _ _ c.ne l⟩, r.mono (fun a o e w => hs.extBut a o (fun q => w (q ▸ c.ownL.1)) e) (fun _ _ w => w) fun _ _ e => e⟩
theorem hnames_of {sc : Scope} (hk : (sc.names.map (·.1)).Nodup) : ∀ x ∈ sc.names, x.2 = .local → sc.names.lookup x.1 = some .local := fun x hx hl => by
  rw [lookup_of_mem hk hx, hl]
structure CP (tf : TrF) (cx : Cx) (sc : Scope) (gens : List Comprehension) (cl cc : List Cl) (is : List Nat) (t it : Expr) (ie : List Expr) (rest : List Comprehension) : Prop where
  gens : gens = ⟨t, it, ie, 0⟩ :: rest
  cl : cl = ⟨(ownNames sc).length, is, trI tf cx it, ie.map (tf.b (cx.inner sc))⟩ :: cc
  cc : rest.mapM (trCl tf (cx.inner sc) (cx.inner sc) 0 cx.n) = some cc
  tgt : trTarget (cx.inner sc) t = some is
  low : ∀ i ∈ is, cx.n ≤ i
  folded : ∀ x env, foldedSetIterable it env x = pure x
  zip : tgtOk t (trI tf cx it).zip = true
  asy : ∀ g ∈ rest, g.is_async = 0
theorem mapM_asy {tf : TrF} {inn : Cx} {base : Nat} {rest : List Comprehension} : ∀ {cc : List Cl}, rest.mapM (trCl tf inn inn 0 base) = some cc → ∀ g ∈ rest, g.is_async = 0 := by
  induction rest with
  | nil => intro cc _ g hg; exact nL hg
  | cons x r ih =>
    intro cc h g hg
    rw [List.mapM_cons] at h
    obtain ⟨c1, h1, h⟩ := bind_eq h
    obtain ⟨c2, h2, _⟩ := bind_eq h
    obtain ⟨is, I⟩ := trCl_inv h1
    rcases List.mem_cons.mp hg with rfl | hg
    · exact I.asy
    · exact ih h2 g hg
theorem CP.of {tf : TrF} {sc : Scope} {gens : List Comprehension} {cl : List Cl} (h : trCs tf cx (cx.inner sc) gens = some cl) : ∃ cc is t it ie rest, CP tf cx sc gens cl cc is t it ie rest := by
  cases gens with
  | nil => exact nN h
  | cons g rest =>
    obtain ⟨c1, h1, h⟩ := bind_eq h
    obtain ⟨cc, h2, rfl⟩ := map_eq h
    obtain ⟨is, I⟩ := trCl_inv h1
    obtain ⟨t, it, ie, a⟩ := g
    obtain ⟨rfl, ha, ht, hs, hf, hz⟩ := I
    dsimp only at ha
    subst ha
    exact ⟨cc, is, t, it, ie, rest, rfl, by rw [show (cx.inner sc).n - cx.n = (ownNames sc).length from Nat.add_sub_cancel_left ..], h2, ht, hs, hf, hz, mapM_asy h2⟩
theorem SE_comp (hh : A.handled = none) (S : Stat B) {sc : Scope} (hk : ScOk cx sc) {tf : TrF} (H : TrAll B M0 Wo A n cx tf) (Hi : TrAll B M0 Wo A n (cx.inner sc) tf) {elt : Expr} {gens : List Comprehension} {cl : List Cl} {pos : Pos} {m : Bool} (hc : trCs tf cx (cx.inner sc) gens = some cl) :
    SE B M0 Wo A n cx (eComp m (tf.e (cx.inner sc) elt) cl) (.ListComp elt gens sc pos) := by
  intro env lay fr W ρ cs r s Q E T e hQ
  obtain ⟨q, hq, e'⟩ := bind_eq e
  obtain ⟨cc, is, t, it, ie, rest, rfl, rfl, G, ht, hs, hf, hz, hasy⟩ := CP.of hc
  rw [arm_eval_ListComp]
  refine wpAny_comprehension_free (use := none) (g := ⟨t, it, ie, 0⟩) (gs := rest) rfl (hf · env) (T.X.clos hk) hk.kind (hnames_of hk.nd) ?_
  refine comp_core (RR := fun acc C => compPost (model B.prog B.w) A E none Q acc C) hh S hk H Hi G ht hs hz hasy T hq fun D L W' ρ' s' ce => ?_
  obtain ⟨m', hm'⟩ := ce.ns
  refine ⟨m', hm', fun h' hsb => ?_⟩
  obtain ⟨af, vs, l, rv⟩ := ce.letGo hsb
  obtain ⟨W'', ρ'', af', rz, _⟩ := mk_fin T.ok T.hn af ce.ownD l rv e'
  exact hQ _ _ _ _ af' rz
end
end Ev
namespace Ev
open PySem PySem.W PyProof.Rows PySem.SeqAt
noncomputable def FRel (B : Base) (h : Heap) (W : Addr → Prop) (ρ : List Addr) (fl : Fl) (w : Flow) : Prop := match fl with
  | .next => w = .next
  | .brk => w = .brk
  | .cont => w = .cont
  | .ret x => ∃ v, w = .ret v ∧ VRel B h W ρ x v
section
variable {B : Base} {M0 : List (Tx × Nat)} {Wo : Wd} {cx : Cx} {A : Around} {n f : Nat}
noncomputable abbrev PostS (B : Base) (n : Nat) (lay : List Loc) (W : Addr → Prop) (ρ : List Addr) (cs : Cells) (s : Shared) (o : Ou) (Q : Flow → Shared → Prop) : Prop :=
  ∀ fl W' ρ' s', After B n (layX lay) W ρ cs s W' ρ' o.cs s' → Frm B lay o.fr W' ρ' s'.heap → FRel B s'.heap W' ρ' o.fl fl → Q fl s'
noncomputable def SS (B : Base) (M0 : List (Tx × Nat)) (Wo : Wd) (A : Around) (n : Nat) (cx : Cx) (c : MS) (st : Stmt) : Prop :=
  ∀ ⦃env : Env⦄ ⦃lay : List Loc⦄ ⦃fr : Fr⦄ ⦃W : Addr → Prop⦄ ⦃ρ : List Addr⦄ ⦃cs : Cells⦄ ⦃s : Shared⦄ ⦃o : Ou⦄ ⦃Q : Flow → Shared → Prop⦄ ⦃E : Value → Shared → Prop⦄, At B M0 A n cx env lay fr W ρ cs s →
    c Wo n fr cs = some o → PostS B n lay W ρ cs s o Q → wpAny (model B.prog B.w) A (exec st env) Q E s
noncomputable def SSs (B : Base) (M0 : List (Tx × Nat)) (Wo : Wd) (A : Around) (n : Nat) (cx : Cx) (c : List MS) (st : List Stmt) : Prop :=
  ∀ ⦃env : Env⦄ ⦃lay : List Loc⦄ ⦃fr : Fr⦄ ⦃W : Addr → Prop⦄ ⦃ρ : List Addr⦄ ⦃cs : Cells⦄ ⦃s : Shared⦄ ⦃o : Ou⦄ ⦃Q : Flow → Shared → Prop⦄ ⦃E : Value → Shared → Prop⦄, At B M0 A n cx env lay fr W ρ cs s →
    evSs Wo n c fr cs = some o → PostS B n lay W ρ cs s o Q → wpAny (model B.prog B.w) A (execs st env) Q E s
noncomputable abbrev PostT' (B : Base) (n : Nat) (lay : List Loc) (W : Addr → Prop) (ρ : List Addr) (cs : Cells) (s : Shared) (r : Fr × Cells) (Q : Unit → Shared → Prop) : Prop :=
  ∀ W' ρ' s', After B n (layX lay) W ρ cs s W' ρ' r.2 s' → Frm B lay r.1 W' ρ' s'.heap → Q () s'
noncomputable def ST (B : Base) (M0 : List (Tx × Nat)) (Wo : Wd) (A : Around) (n : Nat) (cx : Cx) (c : MT) (t : Expr) : Prop :=
  ∀ ⦃env : Env⦄ ⦃lay : List Loc⦄ ⦃fr : Fr⦄ ⦃W : Addr → Prop⦄ ⦃ρ : List Addr⦄ ⦃cs : Cells⦄ ⦃s : Shared⦄ ⦃x : AV⦄ ⦃v : Value⦄ ⦃r : Fr × Cells⦄ ⦃Q : Unit → Shared → Prop⦄ ⦃E : Value → Shared → Prop⦄, At B M0 A n cx env lay fr W ρ cs s →
    VRel B s.heap W ρ x v → c x Wo n fr cs = some r → PostT' B n lay W ρ cs s r Q → wpAny (model B.prog B.w) A (assign t env v) Q E s
section
variable {env : Env} {lay : List Loc} {fr : Fr} {W W₁ : Addr → Prop} {ρ ρ₁ : List Addr} {cs cs₁ : Cells} {s s₁ : Shared}
theorem At.go (T : At B M0 A n cx env lay fr W ρ cs s) {fr₁ : Fr} (a : After B n (layX lay) W ρ cs s W₁ ρ₁ cs₁ s₁) (F : Frm B lay fr₁ W₁ ρ₁ s₁.heap) : At B M0 A n cx env lay fr₁ W₁ ρ₁ cs₁ s₁ := ⟨T.X, a.ok, F, Nat.le_trans T.hn (a.length T.ok)⟩
theorem After.postS {o : Ou} {Q : Flow → Shared → Prop} (a : After B n (layX lay) W ρ cs s W₁ ρ₁ cs₁ s₁) (hQ : PostS B n lay W ρ cs s o Q) : PostS B n lay W₁ ρ₁ cs₁ s₁ o Q := fun fl W' ρ' s' b F r => hQ fl W' ρ' s' (a.trans b) F r
end
theorem SS_fail {x : Stmt} : SS B M0 Wo A n cx sFail x := by
  intro env lay fr W ρ cs s o Q E T e
  exact nN e
theorem SSs_map {t : Stmt → MS} (h : ∀ x, SS B M0 Wo A n cx (t x) x) (ss : List Stmt) : SSs B M0 Wo A n cx (ss.map t) ss := by
  induction ss with
  | nil =>
    intro env lay fr W ρ cs s o Q E T e hQ
    obtain rfl := sJ e
    exact wpAny_execs_nil (hQ _ _ _ _ (After.refl T.ok) T.F rfl)
  | cons x xs ih =>
    intro env lay fr W ρ cs s o Q E T e hQ
    obtain ⟨⟨fl₁, fr₁, cs₁⟩, hq, e⟩ := bind_eq e
    refine wpAny_execs_cons (h x T hq fun fl W₁ ρ₁ s₁ af₁ F₁ r₁ => ?_)
    cases fl₁ with
    | next => obtain rfl := r₁; exact ih (T.go af₁ F₁) e (af₁.postS hQ)
    | brk => obtain rfl := sJ e; obtain rfl := r₁; exact hQ _ _ _ _ af₁ F₁ rfl
    | cont => obtain rfl := sJ e; obtain rfl := r₁; exact hQ _ _ _ _ af₁ F₁ rfl
    | ret v => obtain rfl := sJ e; obtain ⟨w, rfl, r₁⟩ := r₁; exact hQ _ _ _ _ af₁ F₁ ⟨w, rfl, r₁⟩
theorem notInteractive {env : Env} (h : env.scope.kind = .function) : interactive env = false := by unfold interactive; rw [h]; rfl
theorem SS_expr {a : ME} {e : Expr} {p : Pos} (hs : ∀ l env, swapsWith e none l env = pure false) (h : SE B M0 Wo A n cx a e) : SS B M0 Wo A n cx (sExpr a) (.Expr e p) := by
  intro env lay fr W ρ cs s o Q E T ev hQ
  obtain ⟨q, hq, ev⟩ := bind_eq ev
  obtain ⟨hv, ev⟩ := if_eq ev
  obtain rfl := sJ ev
  rw [arm_exec_Expr, notInteractive T.X.kind, hs]
  refine wpAny_bind (wpAny_standAt ?_)
  rw [if_neg Bool.false_ne_true]
  refine wpAny_bind (wpAny_pure ?_)
  rw [if_neg Bool.false_ne_true]
  refine wpAny_bind (h T hq fun v₁ W₁ ρ₁ s₁ af₁ r₁ => ?_)
  rw [r₁.ofNone hv, show dropValue e p .none = pure .next by cases e <;> rfl]
  exact wpAny_pure (hQ _ _ _ _ af₁.up (T.after af₁).F rfl)
theorem SS_ret {a : ME} {e : Expr} {p : Pos} (h : SE B M0 Wo A n cx a e) : SS B M0 Wo A n cx (sRet a) (.Return (some e) p) := by
  intro env lay fr W ρ cs s o Q E T ev hQ
  obtain ⟨q, hq, rfl⟩ := map_eq ev
  rw [arm_exec_Return]
  refine wpAny_bind (wpAny_standAt ?_)
  rw [arm_evalOpt_some]
  exact wpAny_bind (h T hq fun v₁ W₁ ρ₁ s₁ af₁ r₁ => wpAny_pure (hQ (.ret v₁) _ _ _ af₁.up (T.after af₁).F ⟨v₁, rfl, r₁⟩))
theorem SS_brk {p : Pos} : SS B M0 Wo A n cx sBrk (.Break p) := by
  intro env lay fr W ρ cs s o Q E T ev hQ
  obtain rfl := sJ ev
  rw [arm_exec_Break]
  exact wpAny_bind (wpAny_standAt (wpAny_pure (hQ .brk _ _ _ (After.refl T.ok) T.F rfl)))
theorem SS_cont {p : Pos} : SS B M0 Wo A n cx sCont (.Continue p) := by
  intro env lay fr W ρ cs s o Q E T ev hQ
  obtain rfl := sJ ev
  rw [arm_exec_Continue]
  exact wpAny_bind (wpAny_standAt (wpAny_pure (hQ .cont _ _ _ (After.refl T.ok) T.F rfl)))
theorem SS_assert {a : MB} {e : Expr} {msg : Option Expr} {p : Pos} (h : SB B M0 Wo A n cx a e) : SS B M0 Wo A n cx (sAssert a) (.Assert e msg p) := by
  intro env lay fr W ρ cs s o Q E T ev hQ
  obtain ⟨q, hq, ev⟩ := bind_eq ev
  obtain ⟨hb, ev⟩ := if_eq ev
  obtain rfl := sJ ev
  exact wpAny_Assert_holds (h T hq fun W₁ ρ₁ s₁ af₁ => ⟨hb, hQ .next _ _ _ af₁.up (T.after af₁).F rfl⟩)
theorem SS_ite {c : MB} {a b : List MS} {e : Expr} {x y : List Stmt} {p : Pos} (h : SB B M0 Wo A n cx c e) (h1 : SSs B M0 Wo A n cx a x) (h2 : SSs B M0 Wo A n cx b y) : SS B M0 Wo A n cx (sIte c a b) (.If e x y p) := by
  intro env lay fr W ρ cs s o Q E T ev hQ
  obtain ⟨⟨q, cs₁⟩, hq, ev⟩ := bind_eq ev
  refine wpAny_If (h T hq fun W₁ ρ₁ s₁ af₁ => ?_)
  cases q with
  | false => exact h2 (T.after af₁) ev (af₁.up.postS hQ)
  | true => exact h1 (T.after af₁) ev (af₁.up.postS hQ)
theorem ST_var {x : Str} {i : Nat} {p : Pos} (hi : trSlot cx x = some i) : ST B M0 Wo A n cx (tVar i) (.Name x p) := by
  intro env lay fr W ρ cs s z v r Q E T rv e hQ
  obtain ⟨_, e⟩ := if_eq e
  obtain rfl := sJ e
  exact wpAny_assign_Name (store_sound (n := n) T.ok T.X.toEnvOk T.F hi rv fun s₁ af₁ F₁ _ => hQ _ _ _ (af₁.weaken fun a _ h => locX_lay h) F₁)
theorem ST_idx (R : Rx B M0 Wo A) {a b : ME} {o i : Expr} {p : Pos} (h1 : SE B M0 Wo A n cx a o) (h2 : SE B M0 Wo A n cx b i) : ST B M0 Wo A n cx (tIdx a b) (.Subscript o i p) := by
  intro env lay fr W ρ cs s z v r Q E T rv e hQ
  obtain ⟨q, hq, e⟩ := bind_eq e
  obtain ⟨j, hj, e⟩ := bind_eq e
  rw [arm_assign_Subscript]
  refine wpAny_bind (wpAny_holding (h1 T hq fun v₁ W₁ ρ₁ s₁ af₁ r₁ => ?_))
  refine wpAny_bind (wpAny_holding (h2 (T.after af₁) hj fun v₂ W₂ ρ₂ s₂ af₂ r₂ => ?_))
  have T₂ := (T.after af₁).after af₂
  have r₁' := af₂.val af₁.ok r₁
  have r' := af₂.val af₁.ok (af₁.val T.ok rv)
  refine wpAny_bind (wpAny_standAt (wpAny_bind (wpAny_holding ?_)))
  have fin : ∀ {cs₃ : Cells}, r = (fr, cs₃) → ∀ W₃ ρ₃ s₃, After B n Non W₂ ρ₂ j.2 s₂ W₃ ρ₃ cs₃ s₃ → Q () s₃ := fun er W₃ ρ₃ s₃ af₃ => by
    subst er
    exact hQ _ _ _ ((af₁.trans af₂).trans af₃).up (T₂.after af₃).F
  cases hi : isInst j.2 q.1 with
  | true =>
    rw [hi, if_pos rfl] at e
    obtain ⟨w, hw, e⟩ := map_eq e
    exact R.setI hi hw T₂.hn af₂.ok r₁' r₂ r' fun W₃ ρ₃ s₃ af₃ => wpAny_release (fin e.symm W₃ ρ₃ s₃ af₃)
  | false =>
    rw [hi, if_neg Bool.false_ne_true] at e
    obtain ⟨w, hw, e⟩ := map_eq e
    exact setIdx_sound af₂.ok r₁' r₂ r' hw fun W₃ ρ₃ s₃ af₃ => wpAny_release (fin e.symm W₃ ρ₃ s₃ af₃)
theorem ST_attr (R : Rx B M0 Wo A) {a : ME} {o : Expr} {nm : Str} {p : Pos} (hnm : tx nm = headersName) (h1 : SE B M0 Wo A n cx a o) : ST B M0 Wo A n cx (tAttr a (tx nm)) (.Attribute o nm p) := by
  intro env lay fr W ρ cs s z v r Q E T rv e hQ
  have hs : nm = headersStr := headers_str hnm
  rw [hnm] at e
  obtain ⟨g, hg, e⟩ := bind_eq e
  obtain ⟨⟨d, es⟩, hi, e⟩ := bind_eq e
  obtain ⟨hp, e⟩ := if_eq e
  obtain rfl := sJ e
  rw [arm_assign_Attribute]
  refine wpAny_bind (wpAny_holding (h1 T hg fun v₁ W₁ ρ₁ s₁ af₁ r₁ => wpAny_bind (wpAny_standAt (wpAny_bind (wpAny_holding ?_)))))
  have r' := af₁.val T.ok rv
  obtain ⟨ad, dx, hv, hd, gd, hI, ob, ho, hH⟩ := isInst_at af₁.ok r₁ hi
  have hdp : dput headersName z es = [(headersTx, z)] := by
    rcases af₁.ok.mem.idictAt hd gd with c | ⟨x, vv, hsh, tk, k, hes, _, _⟩
    · rw [c.1]; rfl
    · rw [hes]; rfl
  have wdx := (af₁.ok.mem.own dx (List.mem_of_getElem? gd)).1
  rw [hv, hs]
  rw [hdp] at hQ
  refine R.setA af₁.ok.kept hI ho hH fun h' tk hsh tk' nn hsb ho' => wpAny_release ?_
  have rz : VRel B h' W₁ ρ₁ z v := r'.mono (fun a o e w => hsb.extBut a o (fun q => w (q ▸ wdx)) e) (fun _ _ w => w) fun _ _ e => e
  have hlow : n ≤ d ∨ ∀ k old, g.2[d]? = some old → belowO k old = true → belowO k (.idict [(headersTx, z)]) = true :=
    (put_low hp).imp id fun h k old hold hb => aI ⟨below_mono (Nat.zero_le k) h, rfl⟩
  have af₂ : After B n Non W₁ ρ₁ g.2 s₁ W₁ ρ₁ (g.2.set d (.idict [(headersTx, z)])) { s₁ with heap := h', toks := tk } :=
    af₁.ok.setCell gd hsb (.inr ⟨_, _, _, _, _, rfl, ho', rz⟩) hlow
  exact hQ W₁ ρ₁ _ (af₁.trans af₂).up ((T.after af₁).after af₂).F
end
end Ev
namespace Ev
open PySem PySem.W PyProof.Rows PySem.SeqAt
section
variable {B : Base} {M0 : List (Tx × Nat)} {Wo : Wd} {cx : Cx} {A : Around} {n f : Nat}
theorem slot_kind {x : Str} {i : Nat} (h : trSlot cx x = some i) : (kindOf cx x = some .local ∨ kindOf cx x = some .cell) ∧ cx.slots.lookup (tx x) = some i := if_eq h
theorem slot_load {env : Env} {lay : List Loc} {fr : Fr} {W : Addr → Prop} {ρ : List Addr} {s : Shared} {x : Str} {i : Nat} {a : AV} {M : Model} {E : Value → Shared → Prop} (X : EnvOk B cx env lay) (F : Frm B lay fr W ρ s.heap) (hi : trSlot cx x = some i) (hf : (fr[i]?).join = some a) {Q : Value → Shared → Prop} (hQ : ∀ v, VRel B s.heap W ρ a v → Q v s) : wpAny M A (loadName env x) Q E s := by
  obtain ⟨hk, hl⟩ := slot_kind hi
  refine load_sound X F ?_ (fun h => ?_) hl hf hQ
  · rcases hk with h | h <;> rw [h] <;> rfl
  · rcases hk with h' | h' <;> rw [h'] at h <;> cases h
theorem set_same {fr : Fr} {i : Nat} {a : AV} (h : (fr[i]?).join = some a) : fr.set i (some a) = fr := by
  obtain ⟨hl, he⟩ := List.getElem?_eq_some_iff.mp (Option.join_eq_some_iff.mp h)
  rw [← he]; exact List.set_getElem_self ..
theorem SS_aug {x : Str} {i : Nat} {op : BOp} {o : Operator} {a : ME} {e : Expr} {p q : Pos} (hi : trSlot cx x = some i) (ho : trBOp o = some op) (h : SE B M0 Wo A n cx a e) : SS B M0 Wo A n cx (sAug i op a) (.AugAssign (.Name x q) o e p) := by
  intro env lay fr W ρ cs s o' Q E T ev hQ
  obtain ⟨old, hf, ev⟩ := bind_eq ev
  obtain ⟨r, hr, ev⟩ := bind_eq ev
  refine wpAny_AugAssign_Name (slot_load T.X.toEnvOk T.F hi hf fun v₀ r₀ => ?_)
  refine h T hr fun v₁ W₁ ρ₁ s₁ af₁ r₁ => ?_
  have T₁ := T.after af₁
  have r₀' := af₁.val T.ok r₀
  rw [← bopOf_tr ho]
  rcases ite_eq ev with ⟨_, ev⟩ | ev
  · cases op with
    | add =>
      obtain ⟨z, hz, rfl⟩ := map_eq ev
      refine extendv_sound af₁.ok r₀' r₁ hz fun W₂ ρ₂ s₂ af₂ => ?_
      refine store_sound (n := n) af₂.ok T.X.toEnvOk (T₁.after af₂).F hi (af₂.val af₁.ok r₀') fun s₃ af₃ F₃ _ => ?_
      rw [set_same hf] at F₃
      exact hQ .next _ _ _ ((af₁.trans af₂).up.trans (af₃.weaken fun a _ h => locX_lay h)) F₃ rfl
    | _ => exact nN ev
  · obtain ⟨z, hz, rfl⟩ := map_eq ev
    refine augv_sound (n := n) af₁.ok r₀' r₁ hz fun v₂ W₂ ρ₂ s₂ af₂ r₂ => ?_
    refine store_sound (n := n) af₂.ok T.X.toEnvOk (T₁.after af₂).F hi r₂ fun s₃ af₃ F₃ _ => ?_
    exact hQ .next _ _ _ ((af₁.trans af₂).up.trans (af₃.weaken fun a _ h => locX_lay h)) F₃ rfl
theorem swapped_none {t e : Expr} {env : Env} (h1 : ∀ ts k p, t ≠ .Tuple ts k p) (h2 : ∀ ts p, t ≠ .List ts p) : swappedStores [t] e env = pure none := by
  cases t <;> first | exact absurd rfl (h1 _ _ _) | exact absurd rfl (h2 _ _) | rfl
theorem SS_assign {a : ME} {e : Expr} {ct : MT} {t : Expr} {p : Pos} (h1 : ∀ ts k p, t ≠ .Tuple ts k p) (h2 : ∀ ts p, t ≠ .List ts p) (h3 : ∀ e p, t ≠ .Starred e p) (hs : ∀ l env, swapsWith e (some t) l env = pure false) (h : SE B M0 Wo A n cx a e) (ht : ST B M0 Wo A n cx ct t) : SS B M0 Wo A n cx (sAssign ct a) (.Assign [t] e p) := by
  intro env lay fr W ρ cs s o Q E T ev hQ
  obtain ⟨q, hq, ev⟩ := bind_eq ev
  obtain ⟨r, hr, rfl⟩ := map_eq ev
  rw [arm_exec_Assign]
  refine wpAny_bind (wpAny_standAt ?_)
  show wpAny _ A (swapsWith e (some t) p.line env >>= _) Q E s
  rw [hs]
  refine wpAny_bind (wpAny_pure ?_)
  rw [if_neg Bool.false_ne_true]
  refine wpAny_bind (h T hq fun v₁ W₁ ρ₁ s₁ af₁ r₁ => ?_)
  rw [swapped_none h1 h2]
  refine wpAny_bind (wpAny_pure ?_)
  have he : (assignEach [t] env).map (·.2) = [assign t env] := by
    cases t <;> first | exact absurd rfl (h3 _ _) | rfl
  rw [he]
  show wpAny _ A (do assign t env v₁; pure .next) Q E s₁
  exact wpAny_bind (ht (T.after af₁) r₁ hr fun W₂ ρ₂ s₂ af₂ F₂ => wpAny_pure (hQ .next _ _ _ (af₁.up.trans af₂) F₂ rfl))
noncomputable abbrev swapG (env : Env) (line : Nat) : Expr → Option Str := fun | .Name id pos => if env.kindOf id == some .local && pos.line == line then some id else none | _ => none
theorem swapped_cases {ts : List Expr} {k : Nat} {p : Pos} {e : Expr} {env : Env} (h : foldOk e = true) : swappedStores [.Tuple ts k p] e env = pure none ∨ ∃ line, swappedStores [.Tuple ts k p] e env = pure (some (ts.filterMap (swapG env line))) ∧ (ts.length = 2 ∨ ts.length = 3) ∧ (ts.filterMap (swapG env line)).length = ts.length := by
  cases e with
  | Tuple vs k2 p2 =>
    by_cases h1 : (!(ts.length == 2 || ts.length == 3) || vs.length != ts.length || env.blockKind != .function) = true
    · exact .inl (if_pos h1)
    refine (Decidable.em _).elim (fun h2 => .inl ((if_neg h1).trans (if_pos h2))) fun h2 => ?_
    by_cases h3 : ((ts.filterMap (swapG env ((ts.head?.map (·.pos.line)).getD 0))).length != ts.length || (ts.filterMap (swapG env ((ts.head?.map (·.pos.line)).getD 0))).eraseDups.length != (ts.filterMap (swapG env ((ts.head?.map (·.pos.line)).getD 0))).length) = true
    · exact .inl ((if_neg h1).trans ((if_neg h2).trans (if_pos h3)))
    by_cases h4 : vs.all (foldedForSure 8) = true
    · exact .inl ((if_neg h1).trans ((if_neg h2).trans ((if_neg h3).trans (if_pos h4))))
    by_cases h5 : vs.all (constantsAlone 8) = true
    · exfalso
      have h : (!vs.all (constantsAlone 8) || vs.all (foldedForSure 8)) = true := h
      rw [h5] at h
      exact h4 h
    · refine .inr ⟨_, (if_neg h1).trans ((if_neg h2).trans ((if_neg h3).trans ((if_neg h4).trans (if_neg h5)))), ?_, ?_⟩
      · by_cases h2 : ts.length = 2
        · exact .inl h2
        · by_cases h3 : ts.length = 3
          · exact .inr h3
          · refine absurd ?_ h1
            rw [beq_eq_false_iff_ne.mpr h2, beq_eq_false_iff_ne.mpr h3]; rfl
      · cases hb : (ts.filterMap (swapG env ((ts.head?.map (·.pos.line)).getD 0))).length == ts.length with
        | true => exact beq_iff_eq.mp hb
        | false => exact absurd (Bool.or_eq_true_iff.mpr (.inl (congrArg (!·) hb))) h3
  | _ => exact .inl rfl
theorem swaps_tuple {e : Expr} {ts : List Expr} {k : Nat} {p : Pos} {l : Nat} {env : Env} : swapsWith e (some (.Tuple ts k p)) l env = pure false := by
  cases e <;> rfl
theorem swap_parts {env : Env} {line : Nat} (ts : List Expr) : ∀ {is : List Nat}, NameSlots cx ts is → (ts.filterMap (swapG env line)).length = ts.length → ∃ ps : List (Str × Nat), ts.filterMap (swapG env line) = ps.map (·.1) ∧ is = ps.map (·.2) ∧ ∀ q ∈ ps, trSlot cx q.1 = some q.2 := by
  induction ts with
  | nil => intro is h _; exact ⟨[], rfl, h.nil, fun _ h => nomatch h⟩
  | cons t ts ih =>
    intro is h hl
    obtain ⟨x, p, i, js, rfl, hi, rfl, h'⟩ := h.cons
    by_cases hc : (env.kindOf x == some .local && p.line == line) = true
    · have hx : swapG env line (.Name x p) = some x := if_pos hc
      rw [List.filterMap_cons_some hx] at hl ⊢
      obtain ⟨ps, h1, h2, h3⟩ := ih h' (Nat.succ.inj hl)
      exact ⟨(x, i) :: ps, congrArg (x :: ·) h1, congrArg (i :: ·) h2, fun q hq => (List.mem_cons.mp hq).elim (fun e => e ▸ hi) (h3 q)⟩
    · have hx : swapG env line (.Name x p) = none := if_neg hc
      rw [List.filterMap_cons_none hx] at hl
      exact absurd (hl ▸ List.length_filterMap_le (swapG env line) ts) (Nat.not_succ_le_self _)
theorem binds_sound {env : Env} {lay : List Loc} (X : EnvOk B cx env lay) {Q : Unit → Shared → Prop} {E : Value → Shared → Prop} (ps : List (Str × Nat)) : (∀ q ∈ ps, trSlot cx q.1 = some q.2) → ∀ {xs : List AV} {vs : List Value} {W : Addr → Prop} {ρ : List Addr} {cs : Cells} {s : Shared} {fr : Fr}, Ok B W ρ cs s → Frm B lay fr W ρ s.heap → VRels B s.heap W ρ xs vs → ps.length = xs.length →
    (∀ s', After B n (layX lay) W ρ cs s W ρ cs s' → Frm B lay (setAll (ps.map (·.2)) xs fr) W ρ s'.heap → Q () s') → wpAny (model B.prog B.w) A (assignInOrder (ps.map fun q => bindName env q.1) vs) Q E s := by
  induction ps with
  | nil =>
    intro _ xs vs W ρ cs s fr o F r hl hQ
    obtain rfl := List.length_eq_zero_iff.mp hl.symm
    obtain rfl := r.inv
    exact wpAny_pure (hQ s (After.refl o) F)
  | cons p ps ih =>
    intro hp xs vs W ρ cs s fr o F r hl hQ
    cases xs with
    | nil => cases hl
    | cons z xs =>
    obtain ⟨v, us, rfl, hd, tl⟩ := r.inv
    show wpAny _ A (do holding us (bindName env p.1 v); assignInOrder (ps.map fun q => bindName env q.1) us) Q E s
    refine wpAny_bind (wpAny_holding (wpAny_bindName (store_sound (n := n) o X F (hp p List.mem_cons_self) hd fun s₁ af₁ F₁ hlt => ?_)))
    refine ih (fun q hq => hp q (List.mem_cons_of_mem _ hq)) af₁.ok F₁ (af₁.step.vals o.mem (fun a ha => F.layW a (locX_lay ha)) tl) (Nat.succ.inj hl) fun s₂ af₂ F₂ => ?_
    exact hQ s₂ ((af₁.weaken fun a _ ha => locX_lay ha).trans af₂) F₂
theorem set_rev {is : List Nat} {xs : List AV} {fr : Fr} (hn : is.Nodup) (hl : is.length = 2 ∨ is.length = 3) (hx : is.length = xs.length) : setAll is.reverse xs.reverse fr = setAll is xs fr := by
  rcases hl with hl | hl
  · obtain ⟨a, b, rfl⟩ := len_two hl
    obtain ⟨x, y, rfl⟩ := len_two (hx.symm.trans hl)
    have hn := (List.nodup_cons.mp hn).1
    exact List.set_comm (l := fr) (some y) (some x) fun e : b = a => hn (by rw [e]; exact List.mem_cons_self)
  · obtain ⟨a, r, rfl⟩ := List.exists_cons_of_length_eq_add_one hl
    obtain ⟨b, c, rfl⟩ := len_two (Nat.succ.inj hl)
    obtain ⟨x, q, rfl⟩ := List.exists_cons_of_length_eq_add_one (hx.symm.trans hl)
    obtain ⟨y, z, rfl⟩ := len_two (Nat.succ.inj (hx.symm.trans hl))
    obtain ⟨h1, hn⟩ := List.nodup_cons.mp hn
    have h2 := (List.nodup_cons.mp hn).1
    show ((fr.set c (some z)).set b (some y)).set a (some x) = ((fr.set a (some x)).set b (some y)).set c (some z)
    rw [List.set_comm (l := fr) _ _ (fun e : c = b => h2 (by rw [e]; exact List.mem_cons_self)), List.set_comm (l := fr.set b (some y)) _ _ (fun e : c = a => h1 (by rw [e]; exact List.mem_cons_of_mem _ List.mem_cons_self)), List.set_comm (l := fr) _ _ (fun e : b = a => h1 (by rw [e]; exact List.mem_cons_self))]
theorem vrels_reverse {h : Heap} {W : Addr → Prop} {ρ : List Addr} {xs : List AV} {vs : List Value} (r : VRels B h W ρ xs vs) : VRels B h W ρ xs.reverse vs.reverse := r.ind (P := fun xs vs => VRels B h W ρ xs.reverse vs.reverse) .nil fun q _ r => by
  rw [List.reverse_cons, List.reverse_cons]; exact r.append (.cons q .nil)
theorem SS_asgT (hh : A.handled = none) {a : ME} {e : Expr} {is : List Nat} {ts : List Expr} {k : Nat} {p q : Pos} (hnd : is.Nodup) (hfo : foldOk e = true) (h : SE B M0 Wo A n cx a e) (ns : NameSlots cx ts is) : SS B M0 Wo A n cx (sAsgT is a) (.Assign [.Tuple ts k q] e p) := by
  intro env lay fr W ρ cs s o Q E T ev hQ
  obtain ⟨g, hg, ev⟩ := bind_eq ev
  obtain ⟨xs, hx, ev⟩ := bind_eq ev
  obtain ⟨hlen, ev⟩ := if_eq ev
  obtain rfl := sJ ev
  rw [arm_exec_Assign]
  refine wpAny_bind (wpAny_standAt ?_)
  show wpAny _ A (swapsWith e (some (.Tuple ts k q)) p.line env >>= _) Q E s
  rw [swaps_tuple]
  refine wpAny_bind (wpAny_pure ?_)
  rw [if_neg Bool.false_ne_true]
  refine wpAny_bind (h T hg fun v₁ W₁ ρ₁ s₁ af₁ r₁ => ?_)
  have T₁ := T.after af₁
  have he := ns.each (env := env)
  rcases swapped_cases (ts := ts) (k := k) (p := q) (env := env) hfo with hsw | ⟨line, hsw, hlen3, hnl⟩
  · rw [hsw]
    refine wpAny_bind (wpAny_pure ?_)
    show wpAny _ A (do assign (.Tuple ts k q) env v₁; pure .next) Q E s₁
    rw [arm_assign_Tuple]
    refine wpAny_bind (wpAny_bind (wpAny_standAt ?_))
    unfold unpack
    rw [he.2.1, he.2.2, he.1, hlen]
    refine wpAny_bind (wpAny_holding (unpackItems_sound (n := n) hh af₁.ok r₁ hx fun us W₂ s₂ af₂ r₂ => ?_))
    refine assigns_sound (n := n) T.X.toEnvOk ns af₂.ok (T₁.after af₂).F r₂ hlen fun s₃ af₃ F₃ => wpAny_pure ?_
    exact hQ .next _ _ _ ((af₁.trans af₂).up.trans (af₃.weaken fun a _ h => slotX_lay h)) F₃ rfl
  · rw [hsw]
    obtain ⟨ps, h1, h2, h3⟩ := swap_parts (env := env) (line := line) ts ns hnl
    refine wpAny_bind (wpAny_pure ?_)
    show wpAny _ A (do rule "assign.swapped-stores"; let items ← unpackItems v₁ (ts.filterMap (swapG env line)).length none; assignInOrder ((ts.filterMap (swapG env line)).reverse.map fun n => bindName env n) items.reverse; pure .next) Q E s₁
    refine wpAny_bind (wpAny_rule ?_)
    rw [hnl, he.1, hlen]
    refine wpAny_bind (unpackItems_sound (n := n) hh af₁.ok r₁ hx fun us W₂ s₂ af₂ r₂ => ?_)
    have hpl : ps.reverse.length = xs.reverse.length := by rw [List.length_reverse, List.length_reverse, ← hlen, h2, List.length_map]
    have e1 : ((ts.filterMap (swapG env line)).reverse.map fun n => bindName env n) = ps.reverse.map fun q => bindName env q.1 := by rw [h1, ← List.map_reverse, List.map_map]; rfl
    rw [e1]
    refine wpAny_bind (binds_sound (n := n) T.X.toEnvOk ps.reverse (fun q hq => h3 q (List.mem_reverse.mp hq)) af₂.ok (T₁.after af₂).F (vrels_reverse r₂) hpl fun s₃ af₃ F₃ => wpAny_pure ?_)
    rw [List.map_reverse, ← h2, set_rev hnd (he.1 ▸ hlen3) hlen] at F₃
    exact hQ .next _ _ _ ((af₁.trans af₂).up.trans af₃) F₃ rfl
end
end Ev
namespace Ev
open PySem PySem.W PyProof.Rows PySem.SeqAt
section
variable {B : Base} {M0 : List (Tx × Nat)} {Wo : Wd} {cx : Cx} {A : Around} {n : Nat}
theorem SS_asgC (hh : A.handled = none) (S : Stat B) {sc : Scope} (hk : ScOk cx sc) {tf : TrF} (H : TrAll B M0 Wo A n cx tf) (Hi : TrAll B M0 Wo A n (cx.inner sc) tf) {elt : Expr} {gens : List Comprehension} {cl : List Cl} {m : Bool} {pos p q : Pos} {x : Str} {i : Nat} (hi : trSlot cx x = some i) (hc : trCs tf cx (cx.inner sc) gens = some cl) :
    SS B M0 Wo A n cx (sAssign (tVar i) (eComp m (tf.e (cx.inner sc) elt) cl)) (.Assign [.Name x q] (.ListComp elt gens sc pos) p) := by
  have hse : SE B M0 Wo A n cx (eComp m (tf.e (cx.inner sc) elt) cl) (.ListComp elt gens sc pos) := SE_comp hh S hk H Hi hc
  intro env lay fr W ρ cs s o Q E T ev hQ
  obtain ⟨g, hg, ev⟩ := bind_eq ev
  obtain ⟨r, hr, rfl⟩ := map_eq ev
  obtain ⟨hlt, hr⟩ := if_eq hr
  obtain rfl := sJ hr
  obtain ⟨b, hb⟩ : ∃ b, swapsWith (.ListComp elt gens sc pos) (some (.Name x q)) p.line env = pure b := ⟨_, rfl⟩
  cases b
  · rw [arm_exec_Assign]
    refine wpAny_bind (wpAny_standAt ?_)
    show wpAny _ A (swapsWith (.ListComp elt gens sc pos) (some (.Name x q)) p.line env >>= _) Q E s
    rw [hb]
    refine wpAny_bind (wpAny_pure ?_)
    rw [if_neg Bool.false_ne_true]
    refine wpAny_bind (hse T hg fun v₁ W₁ ρ₁ s₁ af₁ r₁ => ?_)
    rw [swapped_none (t := .Name x q) (fun _ _ _ e => nomatch e) (fun _ _ e => nomatch e)]
    refine wpAny_bind (wpAny_pure ?_)
    show wpAny _ A (do assign (.Name x q) env v₁; pure .next) Q E s₁
    refine wpAny_bind (wpAny_assign_Name (store_sound (n := n) af₁.ok T.X.toEnvOk (T.after af₁).F hi r₁ fun s₂ af₂ F₂ _ => wpAny_pure ?_))
    exact hQ .next _ _ _ (af₁.up.trans (af₂.weaken fun a _ h => locX_lay h)) F₂ rfl
  · rw [exec_Assign_Name_used _ _ _ _ hb]
    obtain ⟨cc, is, t, it, ie, rest, rfl, rfl, G, ht, hs, hf, hz, hasy⟩ := CP.of hc
    obtain ⟨g', hg', e⟩ := bind_eq hg
    obtain ⟨X, ok, F, hn⟩ := T
    refine wpAny_bind (wpAny_standAt (wpAny_bind ?_))
    show wpAny _ A (do let _ ← comprehension (.ListComp elt (⟨t, it, ie, 0⟩ :: rest) sc pos) sc env _ (newList []) false (eval it env) (some (assign (.Name x q) env))) _ _ s
    refine wpAny_bind (wpAny_mono (wpAny_comprehension_free (use := some (assign (.Name x q) env)) (Q := fun _ s' => Q .next s') (g := ⟨t, it, ie, 0⟩) (gs := rest) rfl (hf · env) (X.clos hk) hk.kind (hnames_of hk.nd) ?_) (fun _ s' hq => wpAny_pure (wpAny_pure hq)) fun _ _ e => e)
    refine comp_core (RR := fun acc C => compPost (model B.prog B.w) A E (some (assign (.Name x q) env)) (fun _ s' => Q .next s') acc C) hh S hk H Hi G ht hs hz hasy ⟨X, ok, F, hn⟩ hg' fun D L W' ρ' s' ce => ?_
    show wpAny _ A (assign (.Name x q) env (.ref D)) _ E s'
    obtain ⟨vs, l, r⟩ := ce.lst
    obtain ⟨W'', ρ'', af, rz, hWW, hρρ⟩ := mk_fin ok hn ce.af ce.ownD l r e
    have F' := F.after ok af
    have wL : W'' L := (hWW L (fun e => ce.ne e.symm)).mpr ce.ownL.1
    have pL : L ∉ ρ'' := fun hm => (hρρ L hm).elim ce.ownL.2.1 fun e => ce.ne e.symm
    have layL : ∀ l ∈ lay, l.addr ≠ L := fun l hl e => absurd (ok.mem.wlt _ (F.own l hl).1) (Nat.not_lt.mpr (e ▸ ce.ownL.2.2.2))
    refine wpAny_assign_Name (store_sound (n := n) af.ok X.toEnvOk F' hi rz fun s₂ af₂ F₂ _ => ?_)
    obtain ⟨mL, hmL⟩ := ce.ns
    have tb : ∀ a, B.isTab a → ¬ a = L := fun a t e => absurd (af.ok.mem.tabLt t) (Nat.not_lt.mpr (e ▸ ce.ownL.2.2.1))
    refine ⟨mL, hmL.at' fun o e => af₂.step.kept _ o e pL (fun t => tb L t rfl) (fun hx => ?_), fun h' hsb => ?_⟩
    · obtain ⟨l, hl, e⟩ := locX_lay hx; exact layL l hl e
    · have af₃ : After B n (fun a => a = L) W'' ρ'' g.2 s₂ W'' ρ'' g.2 { s₂ with heap := h' } :=
        (After.refl af₂.ok).other (tk := s₂.toks) (fun a => a = L) (Nat.le_of_eq hsb.1.symm) (fun a o e hne => hsb.extBut a o hne e) (fun a e _ => e ▸ wL) (fun _ e _ => e) (fun a ha e => pL (e ▸ ha)) tb (fun _ _ => Iff.rfl) (fun a w => by rw [hsb.1]; exact af₂.ok.mem.wlt a w)
      have F₃ := F₂.step af₂.ok.mem af₃.step (fun l hl => layL l hl) fun a e => e ▸ wL
      exact hQ .next _ _ _ ((af.up.trans (af₂.weaken fun a _ h => locX_lay h)).fresh af₃ fun a e => e ▸ ce.ownL.2.2.2) F₃ rfl
theorem SS_while {c : MB} {b : List MS} {e : Expr} {x : List Stmt} {p : Pos} (h : SB B M0 Wo A n cx c e) (h1 : SSs B M0 Wo A n cx b x) : SS B M0 Wo A n cx (sWhile c b) (.While e x [] p) := by
  intro env lay fr W ρ cs s o Q E T ev hQ
  refine wpAny_While ?_
  let st : Fr → Cells → Option Ou := fun fr cs => (c Wo n fr cs).bind fun r => if r.1 then evSs Wo n b fr r.2 else some ⟨.brk, fr, r.2⟩
  refine codeAny_whileLoop (fun m s' => ∃ fr' cs' W' ρ', At B M0 A n cx env lay fr' W' ρ' cs' s' ∧ whileGo st m fr' cs' = some o ∧ After B n (layX lay) W ρ cs s W' ρ' cs' s') ?_ loopFuel ⟨fr, cs, W, ρ, T, ev, After.refl T.ok⟩
  rintro m s₁ ⟨fr₁, cs₁, W₁, ρ₁, T₁, ev₁, af₁⟩
  cases m with
  | zero => exact nN ev₁
  | succ m =>
  obtain ⟨⟨fl₁, fr₃, cs₃⟩, hq, ev₁⟩ := bind_eq ev₁
  obtain ⟨⟨r, cs₂⟩, hr, hq⟩ := bind_eq hq
  refine h T₁ hr fun W₂ ρ₂ s₂ af₂ => ?_
  have T₂ := T₁.after af₂
  cases r with
  | false =>
    obtain ⟨rfl, rfl, rfl⟩ := Ou.mk.inj (sJ hq)
    obtain rfl := sJ ev₁
    rw [if_neg Bool.false_ne_true]
    exact wpAny_execs_nil (hQ .next _ _ _ (af₁.trans af₂.up) T₂.F rfl)
  | true =>
    rw [if_pos rfl]
    refine h1 T₂ hq fun fl W₃ ρ₃ s₃ af₃ F₃ r₃ => ?_
    have af := (af₁.trans af₂.up).trans af₃
    have T₃ := T₂.go af₃ F₃
    cases fl₁ with
    | next => obtain rfl := r₃; exact ⟨m, Nat.lt_succ_self _, fr₃, cs₃, _, _, T₃, ev₁, af⟩
    | cont => obtain rfl := r₃; exact ⟨m, Nat.lt_succ_self _, fr₃, cs₃, _, _, T₃, ev₁, af⟩
    | brk => obtain rfl := r₃; obtain rfl := sJ ev₁; exact hQ .next _ _ _ af F₃ rfl
    | ret v => obtain ⟨w, rfl, r₃⟩ := r₃; obtain rfl := sJ ev₁; exact hQ _ _ _ _ af F₃ ⟨w, rfl, r₃⟩
inductive FRuns (st : AV → Fr → Cells → Option Ou) (it : It) : Nat → Nat → Fr → Cells → Ou → Prop
  | done {k : Nat} {fr : Fr} {cs : Cells} (h : itemAt cs it k = some none) : FRuns st it 0 k fr cs ⟨.next, fr, cs⟩
  | turn {m k : Nat} {x : AV} {fr : Fr} {cs : Cells} {o o' : Ou} (h : itemAt cs it k = some (some x)) (e : st x fr cs = some o) (hf : o.fl = .next ∨ o.fl = .cont) (r : FRuns st it m (k + 1) o.fr o.cs o') : FRuns st it (m + 1) k fr cs o'
  | brk {k : Nat} {x : AV} {fr : Fr} {cs : Cells} {o : Ou} (h : itemAt cs it k = some (some x)) (e : st x fr cs = some o) (hf : o.fl = .brk) : FRuns st it 0 k fr cs ⟨.next, o.fr, o.cs⟩
  | ret {k : Nat} {x : AV} {fr : Fr} {cs : Cells} {o : Ou} {v : AV} (h : itemAt cs it k = some (some x)) (e : st x fr cs = some o) (hf : o.fl = .ret v) : FRuns st it 0 k fr cs ⟨.ret v, o.fr, o.cs⟩
theorem FRuns.step {st : AV → Fr → Cells → Option Ou} {it : It} {k : Nat} {x : AV} {fr : Fr} {cs : Cells} {o o' : Ou} (h : itemAt cs it k = some (some x)) (e : st x fr cs = some o) {G : Fr → Cells → Option Ou}
    (ih : G o.fr o.cs = some o' → ∃ m, FRuns st it m (k + 1) o.fr o.cs o') (ev : o.then G = some o') : ∃ m, FRuns st it m k fr cs o' := by
  obtain ⟨fl, fr₁, cs₁⟩ := o
  cases fl with
  | next => obtain ⟨m, r⟩ := ih ev; exact ⟨m + 1, .turn h e (.inl rfl) r⟩
  | cont => obtain ⟨m, r⟩ := ih ev; exact ⟨m + 1, .turn h e (.inr rfl) r⟩
  | brk => obtain rfl := sJ ev; exact ⟨0, .brk h e rfl⟩
  | ret v => obtain rfl := sJ ev; exact ⟨0, .ret h e rfl⟩
theorem fruns_items {st : AV → Fr → Cells → Option Ou} {xs : List AV} (ys : List AV) : ∀ {k : Nat} {fr : Fr} {cs : Cells} {o : Ou}, xs.drop k = ys → forItems st ys fr cs = some o → ∃ m, FRuns st (.items xs) m k fr cs o := by
  induction ys with
  | nil =>
    intro k fr cs o hd h
    obtain rfl := sJ h
    exact ⟨0, .done (congrArg some (List.getElem?_eq_none (List.drop_eq_nil_iff.mp hd)))⟩
  | cons y ys ih =>
    intro k fr cs o hd h
    obtain ⟨b, hb, h⟩ := bind_eq h
    have h0 : xs[k]? = some y := by
      have := List.getElem?_drop (xs := xs) (i := k) (j := 0)
      rw [hd] at this; exact this.symm
    exact FRuns.step (congrArg some h0) hb (fun e => ih (by rw [← List.drop_drop, hd]; rfl) e) h
theorem fruns_cell {st : AV → Fr → Cells → Option Ou} {i : Nat} (fu : Nat) : ∀ {k : Nat} {fr : Fr} {cs : Cells} {o : Ou}, forCell st i fu k fr cs = some o → ∃ m, FRuns st (.cell i) m k fr cs o := by
  induction fu with
  | zero => intro k fr cs o h; exact nN h
  | succ fu ih =>
    intro k fr cs o h
    obtain ⟨xs, hc, h⟩ := bind_eq h
    have hi : itemAt cs (.cell i) k = some xs[k]? := congrArg (Option.map fun xs => xs[k]?) hc
    cases hx : xs[k]? with
    | none =>
      rw [hx] at h hi
      obtain rfl := sJ h
      exact ⟨0, .done hi⟩
    | some x =>
      rw [hx] at h hi
      obtain ⟨b, hb, h⟩ := bind_eq h
      exact FRuns.step hi hb (fun e => ih e) h
theorem fruns_of {st : AV → Fr → Cells → Option Ou} {it : It} {fr : Fr} {cs : Cells} {o : Ou} (h : forGo st it fr cs = some o) : ∃ m, FRuns st it m 0 fr cs o := by
  cases it with
  | items xs => exact fruns_items xs rfl h
  | cell i => exact fruns_cell _ h
theorem SS_for (hh : A.handled = none) {is : List Nat} {ci : MI} {b : List MS} {t it : Expr} {x : List Stmt} {p : Pos} (ht : trTarget cx t = some is) (hi : SI B M0 Wo A n cx ci it) (hf : ∀ x env, foldedSetIterable it env x = pure x) (hz : tgtOk t ci.zip = true) (h1 : SSs B M0 Wo A n cx b x) :
    SS B M0 Wo A n cx (sFor is ci b) (.For t it x [] p) := by
  intro env lay fr W ρ cs s o Q E T ev hQ
  obtain ⟨q, hq, ev⟩ := bind_eq ev
  obtain ⟨m, runs⟩ := fruns_of ev
  obtain ⟨X, ok, F, hn⟩ := T
  refine wpAny_For (hi ⟨X, ok, F, hn⟩ hq fun I pr W₁ ρ₁ s₁ af₁ ia fresh htz => ?_) (hf · env)
  have F₁ := F.after ok af₁
  have prOff : ∀ a ∈ pr, ∀ l ∈ lay, l.addr ≠ a := fun a ha l hl e => absurd (ok.mem.wlt _ (F.own l hl).1) (Nat.not_lt.mpr (e ▸ fresh a ha))
  have htz := tgtOk_zip hz htz
  let st : AV → Fr → Cells → Option Ou := fun x fr cs => (bindT is x fr).bind fun fr' => evSs Wo n b fr' cs
  refine codeAny_forLoop_any (fun m s' => ∃ k fr' cs' W' ρ', Ok B W' ρ' cs' s' ∧ Frm B lay fr' W' ρ' s'.heap ∧ n ≤ cs'.length ∧ FRuns st q.1 m k fr' cs' o ∧ IterAt B s'.heap W' ρ' I q.1 k pr ∧ After B n (fun a => layX lay a ∨ a ∈ pr) W₁ ρ₁ q.2 s₁ W' ρ' cs' s') ?_ m
    ⟨0, fr, q.2, W₁, ρ₁, af₁.ok, F₁, Nat.le_trans hn (af₁.length ok), runs, ia, After.refl af₁.ok⟩
  rintro m s₂ ⟨k, fr₂, cs₂, W₂, ρ₂, ok₂, F₂, hn₂, runs₂, ia₂, af₂⟩
  have fin : ∀ {fl : Flow} {fr' : Fr} {cs' : Cells} {l : Fl} {W' : Addr → Prop} {ρ' : List Addr} {s' : Shared}, o = ⟨l, fr', cs'⟩ → After B n (fun a => layX lay a ∨ a ∈ pr) W₁ ρ₁ q.2 s₁ W' ρ' cs' s' → Frm B lay fr' W' ρ' s'.heap → FRel B s'.heap W' ρ' l fl → Q fl s' := by
    rintro fl fr' cs' l W' ρ' s' rfl af F' r
    refine hQ fl W' ρ' s' ?_ F' r
    exact (af₁.up.trans af).weaken fun a hlt h => h.elim id fun h => absurd hlt (Nat.not_lt.mpr (fresh a h))
  have head : ∀ {y : Option AV}, itemAt cs₂ q.1 k = some y → ∀ {P : Option Value → Shared → Prop} {E : Value → Shared → Prop}, (y = none → ∀ s', After B n (· ∈ pr) W₂ ρ₂ cs₂ s₂ W₂ ρ₂ cs₂ s' → P none s') →
      (∀ x, y = some x → ∀ v W' s', After B n (· ∈ pr) W₂ ρ₂ cs₂ s₂ W' ρ₂ cs₂ s' → VRel B s'.heap W' ρ₂ x v → IterAt B s'.heap W' ρ₂ I q.1 (k + 1) pr → P (some v) s') →
      wpAny (model B.prog B.w) A (pyNext (.ref I)) (fun r s₁ => match r with | none => P none s₁ | some v => wpAny (model B.prog B.w) A (letOwnedTupleGo t (.ref I) v) (fun _ s₂ => P (some v) s₂) E s₁) E s₂ :=
    fun hy _ _ hnone hsome => next_sound (n := n) hh ok₂ ia₂ hy htz hnone hsome
  have prW : ∀ x ∈ pr, W₂ x := fun x hx => (ia₂.priv x hx).1
  -- one turn
  have turn : ∀ {x' : AV} {o₁ : Ou}, st x' fr₂ cs₂ = some o₁ → ∀ {v : Value} {W₃ : Addr → Prop} {s₃ : Shared}, After B n (· ∈ pr) W₂ ρ₂ cs₂ s₂ W₃ ρ₂ cs₂ s₃ → VRel B s₃.heap W₃ ρ₂ x' v → IterAt B s₃.heap W₃ ρ₂ I q.1 (k + 1) pr → ∀ {P : Flow → Shared → Prop} {E : Value → Shared → Prop},
      (∀ fl W₄ ρ₄ s₄, After B n (fun a => layX lay a ∨ a ∈ pr) W₁ ρ₁ q.2 s₁ W₄ ρ₄ o₁.cs s₄ → Frm B lay o₁.fr W₄ ρ₄ s₄.heap → IterAt B s₄.heap W₄ ρ₄ I q.1 (k + 1) pr → n ≤ o₁.cs.length → FRel B s₄.heap W₄ ρ₄ o₁.fl fl → P fl s₄) →
      wpAny (model B.prog B.w) A (assign t env v) (fun _ s₄ => wpAny (model B.prog B.w) A (execs x env) P E s₄) E s₃ := by
    intro x' o₁ hst v W₃ s₃ af₃ r₃ ia₃ P E hP
    obtain ⟨fr', hfr, hev⟩ := bind_eq hst
    have F₃ : Frm B lay fr₂ W₃ ρ₂ s₃.heap := F₂.step ok₂.mem af₃.step (fun l hl hm => prOff _ hm l hl rfl) prW
    refine bindT_sound (n := n) hh X.toEnvOk ht af₃.ok F₃ r₃ hfr fun W₄ s₄ af₄ F₄ => ?_
    have ia₄ : IterAt B s₄.heap W₄ ρ₂ I q.1 (k + 1) pr := ia₃.step af₃.ok.mem af₄.step (fun a ha hx => let ⟨l, hl, e⟩ := slotX_lay hx; prOff a ha l hl e) fun a hx => F₃.layW a (slotX_lay hx)
    refine h1 ⟨X, af₄.ok, F₄, hn₂⟩ hev fun fl W₅ ρ₅ s₅ af₅ F₅ r₅ => ?_
    have ia₅ : IterAt B s₅.heap W₅ ρ₅ I q.1 (k + 1) pr := ia₄.step af₄.ok.mem af₅.step (fun a ha ⟨l, hl, e⟩ => prOff a ha l hl e) F₄.layW
    refine hP fl W₅ ρ₅ s₅ ?_ F₅ ia₅ (Nat.le_trans hn₂ (af₅.length af₄.ok)) r₅
    exact ((af₂.trans (af₃.weaken fun _ _ => .inr)).trans (af₄.weaken fun a _ h => .inl (slotX_lay h))).trans (af₅.weaken fun _ _ => .inl)
  have go : ∀ {x' : AV} {o₁ : Ou}, itemAt cs₂ q.1 k = some (some x') → st x' fr₂ cs₂ = some o₁ → ∀ {P : Flow → Shared → Prop} {N : Shared → Prop} {E : Value → Shared → Prop},
      (∀ fl W₄ ρ₄ s₄, After B n (fun a => layX lay a ∨ a ∈ pr) W₁ ρ₁ q.2 s₁ W₄ ρ₄ o₁.cs s₄ → Frm B lay o₁.fr W₄ ρ₄ s₄.heap → IterAt B s₄.heap W₄ ρ₄ I q.1 (k + 1) pr → n ≤ o₁.cs.length → FRel B s₄.heap W₄ ρ₄ o₁.fl fl → P fl s₄) →
      wpAny (model B.prog B.w) A (pyNext (.ref I)) (fun r s₁ => match r with
        | none => N s₁
        | some v => wpAny (model B.prog B.w) A (letOwnedTupleGo t (.ref I) v) (fun _ s₂ => wpAny (model B.prog B.w) A (assign t env v) (fun _ s₄ => wpAny (model B.prog B.w) A (execs x env) P E s₄) E s₂) E s₁) E s₂ := by
    intro x' o₁ h e P N E hP
    refine wpAny_mono (head h (P := fun r s' => match r with | none => False | some v => wpAny (model B.prog B.w) A (assign t env v) (fun _ s₄ => wpAny (model B.prog B.w) A (execs x env) P E s₄) E s') (fun e => nomatch e) fun x'' ex v W' s' af r ia' => ?_) (fun r s' hr => ?_) fun _ _ e => e
    · obtain rfl := sJ ex
      exact turn e af r ia' hP
    · cases r with
      | none => exact hr.elim
      | some v => exact hr
  cases runs₂ with
  | done h =>
    refine wpAny_mono (head h (P := fun r s' => match r with | none => Q .next s' | some v => False) (fun _ s' af => fin rfl (af₂.trans (af.weaken fun _ _ => .inr)) (F₂.step ok₂.mem af.step (fun l hl hm => prOff _ hm l hl rfl) prW) rfl) fun x e => nomatch e) (fun r s' hr => ?_) fun _ _ e => e
    cases r with
    | none => exact wpAny_execs_nil hr
    | some v => exact wpAny_mono hr (fun _ s'' h => h.elim) fun _ _ e => e
  | @turn m' _ x' _ _ o₁ _ h e hf r =>
    refine go h e fun fl W₄ ρ₄ s₄ af₄ F₄ ia₄ hn₄ r₄ => ?_
    have next : ∃ m, m < m' + 1 ∧ ∃ k fr' cs' W' ρ', Ok B W' ρ' cs' s₄ ∧ Frm B lay fr' W' ρ' s₄.heap ∧ n ≤ cs'.length ∧ FRuns st q.1 m k fr' cs' o ∧ IterAt B s₄.heap W' ρ' I q.1 k pr ∧ After B n (fun a => layX lay a ∨ a ∈ pr) W₁ ρ₁ q.2 s₁ W' ρ' cs' s₄ :=
      ⟨m', Nat.lt_succ_self _, k + 1, o₁.fr, o₁.cs, W₄, ρ₄, af₄.ok, F₄, hn₄, r, ia₄, af₄⟩
    rcases hf with hf | hf <;> rw [hf] at r₄ <;> obtain rfl := r₄ <;> exact next
  | @brk _ x' _ _ o₁ h e hf =>
    refine go h e fun fl W₄ ρ₄ s₄ af₄ F₄ ia₄ hn₄ r₄ => ?_
    rw [hf] at r₄
    obtain rfl := r₄
    exact fin rfl af₄ F₄ rfl
  | @ret _ x' _ _ o₁ v h e hf =>
    refine go h e fun fl W₄ ρ₄ s₄ af₄ F₄ ia₄ hn₄ r₄ => ?_
    rw [hf] at r₄
    obtain ⟨w, rfl, r₄⟩ := r₄
    exact fin rfl af₄ F₄ ⟨w, rfl, r₄⟩
theorem SS_items (hh : A.handled = none) (S : Stat B) {a : ME} {t o : Expr} {nm : Str} {ap cp : Pos} {x : List Stmt} {p : Pos} (hb : plainBase o = true) (hnm : tx nm = itemsName) (hline : ap.endLine = cp.line) (h : SE B M0 Wo A n cx a o) :
    SS B M0 Wo A n cx (sItems a) (.For t (.Call (.Attribute o nm ap) [] [] cp) x [] p) := by
  obtain rfl : nm = "items" := by rw [tx_of hnm]; decide +kernel
  intro env lay fr W ρ cs s o' Q E T ev hQ
  obtain ⟨g, hg, ev⟩ := bind_eq ev
  obtain ⟨es, he, ev⟩ := bind_eq ev
  obtain ⟨hem, ev⟩ := if_eq ev
  obtain rfl := sJ ev
  obtain ⟨i, hi, he⟩ := bind_eq he
  refine wpAny_For ?_ (fun _ => rfl)
  rw [arm_eval_Call, attributeBase_plain hb]
  refine wpAny_bind (h T hg fun v₁ W₁ ρ₁ s₁ af₁ r₁ => wpAny_bind (wpAny_standAt ?_))
  obtain ⟨d, hv, gi⟩ := r₁.ofRef hi
  obtain ⟨kvs, l, r⟩ := af₁.ok.mem.dictAt he gi
  rw [List.isEmpty_iff.mp hem] at r
  cases r
  rw [hv]
  have hd : (d == sysModules) = false := beq_false_of_ne fun e => absurd S.sysm (Nat.not_lt.mpr (e ▸ (af₁.ok.mem.own d (List.mem_of_getElem? gi)).2))
  obtain ⟨ep, hm⟩ := l.dictAt
  refine methodCall_gen (ks := []) (es := []) hline (fun _ _ => ⟨rfl, rfl⟩) (by decide) (Nat.zero_le _) rfl fun pl => getMethod_builtin l.typeIs PySem.F.plainAttrs_dict PySem.F.slot_dict_items PySem.F.type_dict_items l.mapOf.noDict ?_
  show wpAny _ A (callWith cp (.builtin "dict.items") [.ref d] [] []) _ E s₁
  refine method_meetsIn PySem.F.slot_dict_items PySem.F.entry_dict_items rfl (PySem.evalArgs_none ⟨rfl, l.typeIs, PySem.F.args_dict_items_1 _, _, meets_dict_items (strKind B.prog B.w) d hd, ⟨_, l⟩, ?_⟩)
  refine wpAny_pyIter_items (knd := strKind B.prog B.w) (d := d) (kvs := []) (ep := ep) ⟨_, Heap.get?_push_size _ rfl, rfl, rfl⟩ (hm.push _) ?_
  refine codeAny_forLoop_any (fun m s' => s' = { s₁ with heap := (s₁.heap.push { cls := .type "dict_items", data := .fields #[.ref d] }).push { cls := .type "dict_itemiterator", data := .fields #[.none, .bool false, .ref d, .int 0 0, .int ([] : List (Str × Value)).length 0, .int ep 0, .none, .none] } }) ?_ 0 rfl
  rintro m s' rfl
  refine with_size (wpAny_pyNext_items_end (knd := strKind B.prog B.w) (d := d) (ep := ep) (kvs := []) (i := 0) hh (Heap.get?_push_size _ rfl) ((hm.push _).push _) rfl fun h' he hsz => wpAny_execs_nil ?_)
  have z1 : (s₁.heap.push { cls := .type "dict_items", data := .fields #[.ref d] }).objs.size = s₁.heap.objs.size + 1 := Heap.size_push ..
  have hsz' : s₁.heap.objs.size ≤ h'.objs.size := Nat.le_trans (Nat.le_succ _) (Nat.le_trans (Nat.le_of_eq z1.symm) (Nat.le_trans (Nat.le_succ _) (Nat.le_trans (Nat.le_of_eq (Heap.size_push ..).symm) hsz)))
  have af₂ : After B n Non W₁ ρ₁ g.2 s₁ W₁ ρ₁ g.2 { s₁ with heap := h', toks := s₁.toks } := af₁.ok.grow hsz' fun a o e => he _ _ (fun q => by
    have h1 : @LT.lt Nat _ a s₁.heap.objs.size := Heap.lt_size e
    rw [show a = (s₁.heap.push { cls := .type "dict_items", data := .fields #[.ref d] }).objs.size from q, z1] at h1
    exact absurd h1 (Nat.not_lt.mpr (Nat.le_succ _))) (Heap.get?_push_of_some _ (Heap.get?_push_of_some _ e))
  exact hQ .next W₁ ρ₁ { s₁ with heap := h' } (af₁.trans af₂).up ((T.after af₁).after af₂).F rfl
end
end Ev
namespace Ev
open PySem PySem.W PyProof.Rows PySem.SeqAt
theorem assign_fail {B : Base} {M0 : List (Tx × Nat)} {Wo : Wd} {cx : Cx} {A : Around} {n : Nat} {t : MT} {e : Stmt} : SS B M0 Wo A n cx (sAssign t eFail) e := by
  intro env lay fr W ρ cs s o Q E T e
  exact nN e
section
variable {B : Base} {M0 : List (Tx × Nat)} {Wo : Wd} {cx : Cx} {A : Around} {n : Nat}
theorem trF_sp {t : TrF} (H : TrAll B M0 Wo A n cx t) (x : Expr) : SP B M0 Wo A n cx (trF t cx x) x := by
  cases x with
  | FormattedValue v c f p =>
    show SP B M0 Wo A n cx (if c = -1 ∧ f.isNone then t.e cx v else eFail) _
    by_cases h : c = -1 ∧ f.isNone = true
    · rw [if_pos h]
      obtain ⟨rfl, hf⟩ := h
      obtain rfl := Option.isNone_iff_eq_none.mp hf
      exact SP_form (H.e v)
    · rw [if_neg h]; exact SE_fail.sp
  | Constant c k p =>
    cases c with
    | str s => exact (SE_lit_const (c := .str s)).sp
    | _ => exact SE_fail.sp
  | _ => exact SE_fail.sp
theorem kw_ok (R : Rx B M0 Wo A) {t : TrF} (H : TrAll B M0 Wo A n cx t) {o : Expr} {nm : Str} {ap p : Pos} {as : List Expr} {k : Keyword} (h : plainBase o = true ∧ ap.endLine = p.line ∧ as.length < 20) : SE B M0 Wo A n cx (trKw t cx o nm as k) (.Call (.Attribute o nm ap) as [k] p) := by
  obtain ⟨arg, v, q⟩ := k
  show SE B M0 Wo A n cx (if arg.map tx = some nameTx then (cx.meths.lookup (tx nm)).elim eFail fun m => eMethk (t.e cx o) m (as.map (t.e cx)) (t.e cx v) else eFail) _
  by_cases ha : arg.map tx = some nameTx
  · rw [if_pos ha]
    obtain ⟨kn, rfl, hkn⟩ := map_eq ha
    cases hm : cx.meths.lookup (tx nm) with
    | none => exact SE_fail
    | some m => exact SE_methk R h.1 h.2.1 h.2.2 hkn hm (H.e o) H.ok (H.e v)
  · rw [if_neg ha]; exact SE_fail
theorem SE_else {α : Type} {a : Option α} {f : α → ME} {d : ME} {x : Expr} (h1 : ∀ q, a = some q → SE B M0 Wo A n cx (f q) x) (h2 : SE B M0 Wo A n cx d x) : SE B M0 Wo A n cx (orElse a f d) x := by
  cases a with
  | none => exact h2
  | some q => exact h1 q rfl
theorem meth_ok (R : Rx B M0 Wo A) {t : TrF} (H : TrAll B M0 Wo A n cx t) {o : Expr} {nm : Str} {ap p : Pos} {as : List Expr} {ks : List Keyword} : SE B M0 Wo A n cx (trMeth t cx o nm ap as ks p) (.Call (.Attribute o nm ap) as ks p) := by
  unfold trMeth
  by_cases h : plainBase o = true ∧ ap.endLine = p.line ∧ as.length < 20
  · rw [if_pos h]
    cases ks with
    | nil =>
      refine SE_else (fun q hc => ?_) ?_
      · obtain ⟨hm, hc⟩ := if_eq hc
        exact SE_gen R H.e h.2.1 hm hc
      exact SE_meth R h.1 h.2.1 h.2.2 (H.e o) H.ok
    | cons k ks =>
      cases ks with
      | nil => exact kw_ok R H h
      | cons => exact SE_fail
  · rw [if_neg h]; exact SE_fail
theorem cls?_eq {v : NV} (h : v.cls? = true) : v = .lit .cls := by
  cases v with
  | lit v => cases v <;> first | rfl | exact fB h
  | _ => exact fB h
theorem call_ok (R : Rx B M0 Wo A) (hk : ∀ s, Kept B s.heap → KeepOk (model B.prog B.w) A s (.ref B.clsA)) {t : TrF} (H : TrAll B M0 Wo A n cx t) {f : Expr} {as : List Expr} {ks : List Keyword} {p : Pos} : SE B M0 Wo A n cx (trCall t cx f as ks p) (.Call f as ks p) := by
  cases f with
  | Name x q =>
    show SE B M0 Wo A n cx (if (ks.isEmpty && decide (as.length < 20)) = true then (if (nameV cx x).cls? then (if as.isEmpty then eNew else eFail) else eCall (eName (nameV cx x)) (as.map (t.e cx))) else eFail) _
    by_cases h : (ks.isEmpty && decide (as.length < 20)) = true
    · rw [if_pos h]
      obtain rfl := List.isEmpty_iff.mp (aT h).1
      have hn : SE B M0 Wo A n cx (eName (nameV cx x)) (.Name x q) := SE_name R.S
      by_cases hc : (nameV cx x).cls? = true
      · rw [if_pos hc]
        rw [cls?_eq hc] at hn
        cases as with
        | nil => exact SE_new R hk hn
        | cons => exact SE_fail
      · rw [if_neg hc]; exact SE_call R hn H.ok
    · rw [if_neg h]; exact SE_fail
  | Attribute o nm ap => exact meth_ok R H
  | _ => exact SE_fail
theorem sub_ok {t : TrF} (H : TrAll B M0 Wo A n cx t) {m : Bool} {o i : Expr} {p : Pos} : SE B M0 Wo A n cx (trSub t cx m (t.e cx o) i) (.Subscript o i p) := by
  cases i with
  | Slice lo hi st q =>
    cases st with
    | none => exact SE_slc (H.e o) (SO_all H.e lo) (SO_all H.e hi)
    | some => exact SE_fail
  | _ => exact SE_idx (fun _ _ _ e => nomatch e) (H.e o) (H.e _)
theorem trCmp_inv {t : TrF} {ops : List CmpOp} {bs : List Expr} {q : COp × ME} (h : trCmp t cx ops bs = some q) : ∃ op b, ops = [op] ∧ bs = [b] ∧ notSet b = true ∧ q = (trCOp op, t.e cx b) := by
  obtain ⟨op, h1, h⟩ := bind_eq h
  obtain ⟨b, h2, h⟩ := bind_eq h
  obtain ⟨h3, h⟩ := if_eq h
  exact ⟨op, b, one?_eq h1, one?_eq h2, h3, (sJ h).symm⟩
theorem comp_ok (R : Rx B M0 Wo A) {t : TrF} (H : ∀ cx, TrAll B M0 Wo A n cx t) {m : Bool} {elt : Expr} {gens : List Comprehension} {sc : Scope} {p : Pos} : SE B M0 Wo A n cx (trComp t cx m elt gens sc) (.ListComp elt gens sc p) := by
  unfold trComp
  by_cases h : scopeOk cx sc = true
  · rw [if_pos h]
    cases hc : trCs t cx (cx.inner sc) gens with
    | none => exact SE_fail
    | some c => exact SE_comp R.hh R.S (.of h) (H cx) (H _) hc
  · rw [if_neg h]; exact SE_fail
theorem attr_ok (R : Rx B M0 Wo A) {t : TrF} (H : TrAll B M0 Wo A n cx t) {o : Expr} {nm : Str} {p : Pos} : SE B M0 Wo A n cx (trAttr o (t.e cx o) nm) (.Attribute o nm p) := by
  unfold trAttr
  by_cases h : plainBase o = true
  · rw [if_pos h]
    by_cases h1 : tx nm = appendTx
    · rw [if_pos h1]; exact SE_attrApp h h1 (H.e o)
    rw [if_neg h1]
    by_cases h2 : tx nm = headersName
    · rw [if_pos h2]; exact SE_attr R h h2 (H.e o)
    · rw [if_neg h2]; exact SE_fail
  · rw [if_neg h]; exact SE_fail
theorem stepE_ok (R : Rx B M0 Wo A) (hk : ∀ s, Kept B s.heap → KeepOk (model B.prog B.w) A s (.ref B.clsA)) {t : TrF} (H : ∀ cx, TrAll B M0 Wo A n cx t) (cx : Cx) (e : Expr) : SE B M0 Wo A n cx (stepE t cx e) e := by
  cases e with
  | Constant c k p => exact SE_lit_const
  | Name x p => exact SE_name R.S
  | BoolOp op vs p => exact SE_bool (H cx).e
  | IfExp c a b p => exact SE_ite ((H cx).b c) ((H cx).e a) ((H cx).e b)
  | BinOp a op b p =>
    show SE B M0 Wo A n cx ((trBOp op).elim eFail fun o => eBin (cx.mark p) o (t.e cx a) (t.e cx b)) _
    cases ho : trBOp op with
    | none => exact SE_fail
    | some o => exact SE_bin ho ((H cx).e a) ((H cx).e b)
  | UnaryOp op a p =>
    cases op with
    | USub => exact SE_neg ((H cx).e a)
    | Not => exact SE_not ((H cx).e a)
    | _ => exact SE_fail
  | Compare a ops bs p =>
    show SE B M0 Wo A n cx ((trCmp t cx ops bs).elim eFail fun q => eCmp q.1 (t.e cx a) q.2) _
    cases hq : trCmp t cx ops bs with
    | none => exact SE_fail
    | some q =>
      obtain ⟨op, b, rfl, rfl, hb, rfl⟩ := trCmp_inv hq
      exact SE_cmp R (marks_of hb op) ((H cx).e a) ((H cx).e b)
  | Tuple es k p =>
    cases es with
    | nil => exact SE_fail
    | cons => exact SE_tup ((H cx).ok.all _)
  | List es p => exact SE_list ((H cx).ok.all es)
  | Dict ks vs p =>
    cases ks with
    | nil =>
      cases vs with
      | nil => exact SE_dict
      | cons => exact SE_fail
    | cons => exact SE_fail
  | ListComp elt gens sc p => exact comp_ok R H
  | Call f as ks p => exact call_ok R hk (H cx)
  | Attribute o nm p => exact attr_ok R (H cx)
  | Subscript o i p => exact sub_ok (H cx)
  | JoinedStr vs p => exact SE_fstr (trF_sp (H cx))
  | Lambda as b sc p =>
    show SE B M0 Wo A n cx (if noFree sc = true ∧ plainLam as = true ∧ cx.lamOk = true then eLam else eFail) _
    by_cases h : noFree sc = true ∧ plainLam as = true ∧ cx.lamOk = true
    · rw [if_pos h]; exact SE_lam h.2.2 h.2.1 h.1
    · rw [if_neg h]; exact SE_fail
  | _ => exact SE_fail
theorem stepB_ok (R : Rx B M0 Wo A) (hk : ∀ s, Kept B s.heap → KeepOk (model B.prog B.w) A s (.ref B.clsA)) {t : TrF} (H : ∀ cx, TrAll B M0 Wo A n cx t) (cx : Cx) (e : Expr) : SB B M0 Wo A n cx (stepB t cx e) e := by
  have he := stepE_ok R hk H cx e
  cases e with
  | UnaryOp op a p =>
    cases op with
    | Not => exact SB_not ((H cx).b a)
    | _ => exact SB_plain rfl he
  | BoolOp op vs p => exact SB_bool (H cx).b
  | IfExp c a b p => exact SB_ite ((H cx).b c) ((H cx).b a) ((H cx).b b)
  | Compare a ops bs p =>
    show SB B M0 Wo A n cx ((trCmp t cx ops bs).elim ((trCmp2 t cx ops bs).elim eFail fun q => bCmp2 q.1 q.2.1 (t.e cx a) q.2.2.1 q.2.2.2) fun q => bCmp q.1 (t.e cx a) q.2) _
    cases hq : trCmp t cx ops bs with
    | none =>
      cases hq2 : trCmp2 t cx ops bs with
      | none => exact SB_fail
      | some q =>
        obtain ⟨op, ho, hq2⟩ := bind_eq hq2
        obtain ⟨b, hb, hq2⟩ := bind_eq hq2
        obtain ⟨hn, hq2⟩ := if_eq hq2
        obtain rfl := sJ hq2
        rw [two?_eq ho, two?_eq hb]
        exact SB_cmp2 R (marks_of hn op.2) ((H cx).e a) ((H cx).e b.1) ((H cx).e b.2)
    | some q =>
      obtain ⟨op, b, rfl, rfl, hb, rfl⟩ := trCmp_inv hq
      exact SB_cmp R (marks_of hb op) ((H cx).e a) ((H cx).e b)
  | _ => exact SB_plain rfl he
theorem stepE_star {t : TrF} {x : Expr} (h : isStar x = true) : stepE t cx x = eFail := by
  cases x with
  | Starred => rfl
  | _ => exact fB h
theorem tr_ok (R : Rx B M0 Wo A) (hk : ∀ s, Kept B s.heap → KeepOk (model B.prog B.w) A s (.ref B.clsA)) (f : Nat) : ∀ cx, TrAll B M0 Wo A n cx (tr f) := by
  induction f with
  | zero => exact fun cx => ⟨fun _ => by exact SE_fail, fun _ => by exact SB_fail, fun _ _ => rfl⟩
  | succ f ih => exact fun cx => ⟨stepE_ok R hk ih cx, stepB_ok R hk ih cx, fun x h => stepE_star h⟩
noncomputable def LcOk (B : Base) (M0 : List (Tx × Nat)) (Wo : Wd) (A : Around) (n : Nat) (t : TrF) : Prop := ∀ cx elt gens sc p, t.e cx (.ListComp elt gens sc p) = eFail ∨ ∃ tf, (∀ cx, TrAll B M0 Wo A n cx tf) ∧ t.e cx (.ListComp elt gens sc p) = trComp tf cx (cx.mark p) elt gens sc
theorem tr_lc (R : Rx B M0 Wo A) (hk : ∀ s, Kept B s.heap → KeepOk (model B.prog B.w) A s (.ref B.clsA)) (f : Nat) : LcOk B M0 Wo A n (tr f) := fun cx elt gens sc p => by
  cases f with
  | zero => exact .inl rfl
  | succ f => exact .inr ⟨tr f, tr_ok R hk f, rfl⟩
theorem swaps_not {e : Expr} (h : (isLC e || isSC e) = false) (t : Option Expr) : ∀ l env, swapsWith e t l env = pure false := by
  intro l env
  cases e <;> first | rfl | exact tF h
theorem lc_eq {e : Expr} (h : isLC e = true) : ∃ elt gens sc p, e = .ListComp elt gens sc p := by
  cases e with
  | ListComp elt gens sc p => exact ⟨_, _, _, _, rfl⟩
  | _ => exact fB h
theorem asg_name (R : Rx B M0 Wo A) {t : TrF} (H : ∀ cx, TrAll B M0 Wo A n cx t) (L : LcOk B M0 Wo A n t) {x : Str} {i : Nat} {e : Expr} {p q : Pos} (hs : isSC e = false) (hi : trSlot cx x = some i) : SS B M0 Wo A n cx (sAssign (tVar i) (t.e cx e)) (.Assign [.Name x q] e p) := by
  cases hl : isLC e with
  | false => exact SS_assign (fun _ _ _ e => nomatch e) (fun _ _ e => nomatch e) (fun _ _ e => nomatch e) (swaps_not (by rw [hl, hs]; rfl) _) ((H cx).e e) (ST_var hi)
  | true =>
    obtain ⟨elt, gens, sc, r, rfl⟩ := lc_eq hl
    rcases L cx elt gens sc r with h | ⟨tf, Hf, h⟩
    · rw [h]; exact assign_fail
    · rw [h]
      unfold trComp
      by_cases hsc : scopeOk cx sc = true
      · rw [if_pos hsc]
        cases hc : trCs tf cx (cx.inner sc) gens with
        | none => exact assign_fail
        | some c => exact SS_asgC R.hh R.S (.of hsc) (Hf cx) (Hf _) hi hc
      · rw [if_neg hsc]; exact assign_fail
theorem swaps_sub {e o i : Expr} {q : Pos} {l : Nat} {env : Env} : swapsWith e (some (.Subscript o i q)) l env = pure false := by cases e <;> rfl
theorem swaps_attr {e o : Expr} {nm : Str} {q : Pos} {l : Nat} {env : Env} : swapsWith e (some (.Attribute o nm q)) l env = pure false := by cases e <;> rfl
theorem sub_tgt (R : Rx B M0 Wo A) {t : TrF} (H : TrAll B M0 Wo A n cx t) {o i : Expr} {q : Pos} {c : MT} (h : trTSub t cx o i = some c) : ST B M0 Wo A n cx c (.Subscript o i q) := by
  cases i with
  | Slice lo hi st r =>
    exact nN h
  | _ => obtain rfl := sJ h; exact ST_idx R (H.e o) (H.e _)
theorem asg_ok (R : Rx B M0 Wo A) {t : TrF} (H : ∀ cx, TrAll B M0 Wo A n cx t) (L : LcOk B M0 Wo A n t) {g e : Expr} {p : Pos} (hs : isSC e = false) : SS B M0 Wo A n cx (trAsg t cx g e) (.Assign [g] e p) := by
  unfold trAsg
  cases htu : tupleOf g with
  | some ts =>
    obtain ⟨k, q, rfl⟩ := tupleOf_eq htu
    show SS B M0 Wo A n cx ((ts.mapM fun e => (nameOf e).bind (trSlot cx)).elim sFail fun is => if is.Nodup ∧ foldOk e = true then sAsgT is (t.e cx e) else sFail) _
    cases hm : ts.mapM fun e => (nameOf e).bind (trSlot cx) with
    | none => exact SS_fail
    | some is =>
      show SS B M0 Wo A n cx (if is.Nodup ∧ foldOk e = true then sAsgT is (t.e cx e) else sFail) _
      by_cases h : is.Nodup ∧ foldOk e = true
      · rw [if_pos h]; exact SS_asgT R.hh h.1 h.2 ((H cx).e e) hm
      · rw [if_neg h]; exact SS_fail
  | none =>
    show SS B M0 Wo A n cx ((trT t cx g).elim sFail fun c => sAssign c (t.e cx e)) _
    cases ht : trT t cx g with
    | none => exact SS_fail
    | some c =>
      cases g with
      | Name x q =>
        obtain ⟨i, hi, rfl⟩ := map_eq ht
        exact asg_name R H L hs hi
      | Subscript o i q => exact SS_assign (fun _ _ _ e => nomatch e) (fun _ _ e => nomatch e) (fun _ _ e => nomatch e) (fun _ _ => swaps_sub) ((H cx).e e) (sub_tgt R (H cx) ht)
      | Attribute o nm q =>
        obtain ⟨hn, ht⟩ := if_eq ht
        obtain rfl := sJ ht
        exact SS_assign (fun _ _ _ e => nomatch e) (fun _ _ e => nomatch e) (fun _ _ e => nomatch e) (fun _ _ => swaps_attr) ((H cx).e e) (ST_attr R hn ((H cx).e o))
      | _ => exact nN ht
theorem itemsOf_eq {e : Expr} {q : Expr × Str × Pos × Pos} (h : itemsOf e = some q) : e = .Call (.Attribute q.1 q.2.1 q.2.2.1) [] [] q.2.2.2 := by
  obtain ⟨z, hz, h⟩ := bind_eq h
  obtain ⟨h0, h⟩ := if_eq h
  obtain rfl := sJ h
  have e := methOf_eq hz
  rw [List.isEmpty_iff.mp h0] at e
  exact e
theorem for_ok (R : Rx B M0 Wo A) {t : TrF} (H : TrAll B M0 Wo A n cx t) {g it : Expr} {b : List Stmt} {cb : List MS} {p : Pos} (hb : SSs B M0 Wo A n cx cb b) : SS B M0 Wo A n cx (trFor t cx g it cb) (.For g it b [] p) := by
  unfold trFor
  cases hg : trTarget cx g with
  | none => exact SS_fail
  | some is =>
    show SS B M0 Wo A n cx (orElse (itemsSrc it) (fun o => sItems (t.e cx o)) (if (tgtOk g (trI t cx it).zip && notSet it) = true then sFor is (trI t cx it) cb else sFail)) _
    cases hs : itemsSrc it with
    | some o =>
      obtain ⟨q, hq, h⟩ := bind_eq hs
      obtain ⟨⟨h1, h2, h3⟩, h⟩ := if_eq h
      obtain rfl := sJ h
      rw [itemsOf_eq hq]
      exact SS_items R.hh R.S h2 h1 h3 (H.e _)
    | none =>
      show SS B M0 Wo A n cx (if (tgtOk g (trI t cx it).zip && notSet it) = true then sFor is (trI t cx it) cb else sFail) _
      by_cases h : (tgtOk g (trI t cx it).zip && notSet it) = true
      · rw [if_pos h]
        have h := aT h
        exact SS_for R.hh hg (H.it R.S it) (folded_of h.2) h.1 hb
      · rw [if_neg h]; exact SS_fail
theorem stepS_ok (R : Rx B M0 Wo A) {t : TrF} (H : ∀ cx, TrAll B M0 Wo A n cx t) (L : LcOk B M0 Wo A n t) {ss : Cx → List Stmt → List MS} (hss : ∀ cx b, SSs B M0 Wo A n cx (ss cx b) b) (cx : Cx) (s : Stmt) : SS B M0 Wo A n cx (stepS t ss cx s) s := by
  cases s with
  | Expr e p =>
    show SS B M0 Wo A n cx (if (isLC e || isSC e) = true then sFail else sExpr (t.e cx e)) _
    cases h : isLC e || isSC e with
    | true => exact SS_fail
    | false => exact SS_expr (swaps_not h none) ((H cx).e e)
  | Assign ts e p =>
    show SS B M0 Wo A n cx (if isSC e = true then sFail else (one? ts).elim sFail fun g => trAsg t cx g e) _
    cases h : isSC e with
    | true => exact SS_fail
    | false =>
      show SS B M0 Wo A n cx ((one? ts).elim sFail fun g => trAsg t cx g e) _
      cases ho : one? ts with
      | none => exact SS_fail
      | some g => rw [one?_eq ho]; exact asg_ok R H L h
  | AugAssign g op e p =>
    show SS B M0 Wo A n cx ((trBOp op).elim sFail fun o => trAug t cx g o e) _
    cases ho : trBOp op with
    | none => exact SS_fail
    | some o =>
      show SS B M0 Wo A n cx ((nameOf g).elim sFail fun x => (trSlot cx x).elim sFail fun i => sAug i o (t.e cx e)) _
      cases hx : nameOf g with
      | some x =>
        obtain ⟨q, rfl⟩ := nameOf_eq hx
        show SS B M0 Wo A n cx ((trSlot cx x).elim sFail fun i => sAug i o (t.e cx e)) _
        cases hi : trSlot cx x with
        | none => exact SS_fail
        | some i => exact SS_aug hi ho ((H cx).e e)
      | none => exact SS_fail
  | Delete ts p =>
    exact SS_fail
  | If c a b p => exact SS_ite ((H cx).b c) (hss cx a) (hss cx b)
  | While c b els p =>
    cases els with
    | nil => exact SS_while ((H cx).b c) (hss cx b)
    | cons => exact SS_fail
  | For g it b els p =>
    cases els with
    | nil => exact for_ok R (H cx) (hss cx b)
    | cons => exact SS_fail
  | Return e p =>
    cases e with
    | none => exact SS_fail
    | some e => exact SS_ret ((H cx).e e)
  | Break p => exact SS_brk
  | Continue p => exact SS_cont
  | Assert c m p => exact SS_assert ((H cx).b c)
  | _ => exact SS_fail
theorem trSs_ok (R : Rx B M0 Wo A) (hk : ∀ s, Kept B s.heap → KeepOk (model B.prog B.w) A s (.ref B.clsA)) (g f : Nat) : ∀ cx ss, SSs B M0 Wo A n cx (trSs (tr g) f cx ss) ss := by
  induction f with
  | zero =>
    intro cx ss env lay fr W ρ cs s o Q E T e
    exact nN e
  | succ f ih => exact fun cx ss => SSs_map (stepS_ok R (tr_ok R hk g) (tr_lc R hk g) ih cx) ss
end
end Ev
namespace Ev
open PySem PySem.W PyProof.Rows PySem.SeqAt
section
variable {B : Base} {W W' : Addr → Prop} {ρ ρ' : List Addr} {cs cs' : Cells} {h : Heap} {s s' : Shared}
theorem take_some {α : Type} {l : List α} {n i : Nat} {a : α} (h : (l.take n)[i]? = some a) : l[i]? = some a ∧ i < n := by
  rw [List.getElem?_take] at h
  split at h
  · exact ⟨h, by assumption⟩
  · exact nN h
theorem Mem.takeN (m : Mem B W ρ cs h) {n : Nat} (hl : Low n cs) (hn : n ≤ cs.length) : Mem B W (ρ.take n) (cs.take n) h := by
  refine ⟨by rw [List.length_take, List.length_take, m.len], fun i o a e g => ?_, m.inj.sublist (List.take_sublist _ _), fun a ha => m.own a (List.mem_of_mem_take ha), m.wlt, m.base, m.tab, m.size⟩
  obtain ⟨e, hi⟩ := take_some e
  obtain ⟨g, _⟩ := take_some g
  exact (m.cell i o a e g).low (hl i o hi e)
theorem Mem.low (m : Mem B W ρ cs h) : Low cs.length cs := fun i o hi e => by
  obtain ⟨a, g⟩ := m.addrOf e
  have := (m.cell i o a e g).bound
  rwa [← m.len] at this
theorem low_take {k n : Nat} (hl : Low k cs) : Low k (cs.take n) := fun i o hi e => hl i o hi (take_some e).1
theorem After.lower {n n' : Nat} {X : Addr → Prop} (a : After B n X W ρ cs s W' ρ' cs' s') (h : n' ≤ n) : After B n' X W ρ cs s W' ρ' cs' s' := ⟨a.ok, a.step, a.os, fun k hk => a.low k (Nat.le_trans hk h)⟩
theorem shut_sound {v : AV} {vv : Value} (o : Ok B W ρ cs s) (a : After B cs.length Non W ρ cs s W' ρ' cs' s') (r : VRel B s'.heap W' ρ' v vv) : ∃ ρ'', After B cs.length Non W ρ cs s W' ρ'' (shut cs.length v cs').2 s' ∧ VRel B s'.heap W' ρ'' (shut cs.length v cs').1 vv := by
  unfold shut
  split
  · rename_i hb
    have hl : Low cs.length cs' := a.low _ (Nat.le_refl _) o.mem.low
    refine ⟨ρ'.take cs.length, ⟨⟨a.ok.mem.takeN hl (a.length o), a.ok.gens⟩, ⟨fun x ob e m t y => a.step.kept x ob e m t y, a.step.wiff, fun i x e => ?_, fun x hx => a.step.fresh x (List.mem_of_mem_take hx), a.step.size⟩, a.os, fun k hk l => low_take (a.low k hk l)⟩, ?_⟩
    · rw [List.getElem?_take, if_pos, a.step.pre i x e]
      have := (List.getElem?_eq_some_iff.mp e).1
      rw [o.mem.len]; exact this
    · exact r.low (below_mono (Nat.zero_le _) hb)
  · exact ⟨ρ', a, r⟩
end
theorem bindL_skip {k : Str → Option NameKind} {x : Str} : ∀ {bs : List (Str × Value)} {m : Str → Option Value}, (∀ p ∈ bs, p.1 ≠ x) → bindL k bs m x = m x
  | [], _, _ => rfl
  | (y, v) :: r, m, h => by
    rw [bindL, bindL_skip fun p hp => h p (List.mem_cons_of_mem _ hp)]
    split
    · show (if x = y then some v else m x) = m x
      rw [if_neg (fun e => h (y, v) List.mem_cons_self (Eq.symm e))]
    · rfl
theorem bindL_mem {k : Str → Option NameKind} {x : Str} {v : Value} (hk : k x = some .local) : ∀ {bs : List (Str × Value)} {m : Str → Option Value}, (bs.map (·.1)).Nodup → (x, v) ∈ bs → bindL k bs m x = some v
  | (y, u) :: r, m, hn, hm => by
    rw [List.map_cons, List.nodup_cons] at hn
    rw [bindL]
    rcases List.mem_cons.mp hm with e | hm
    · cases e
      rw [bindL_skip fun p hp (e : p.1 = x) => hn.1 (List.mem_map.mpr ⟨p, hp, e⟩), if_pos hk]
      show (if x = x then some v else m x) = some v
      rw [if_pos rfl]
    · exact bindL_mem hk hn.2 hm
theorem bindC_skip {k : Str → Option NameKind} {x : Str} : ∀ {bs : List (Str × Value)} {m : Str → Option Value}, (∀ p ∈ bs, p.1 ≠ x) → bindC k bs m x = m x
  | [], _, _ => rfl
  | (y, v) :: r, m, h => by
    rw [bindC, bindC_skip fun p hp => h p (List.mem_cons_of_mem _ hp)]
    split
    · rfl
    · show (if x = y then some v else m x) = m x
      rw [if_neg (fun e => h (y, v) List.mem_cons_self (Eq.symm e))]
theorem bindC_mem {k : Str → Option NameKind} {x : Str} {v : Value} (hk : k x ≠ some .local) : ∀ {bs : List (Str × Value)} {m : Str → Option Value}, (bs.map (·.1)).Nodup → (x, v) ∈ bs → bindC k bs m x = some v
  | (y, u) :: r, m, hn, hm => by
    rw [List.map_cons, List.nodup_cons] at hn
    rw [bindC]
    rcases List.mem_cons.mp hm with e | hm
    · cases e
      rw [bindC_skip fun p hp (e : p.1 = x) => hn.1 (List.mem_map.mpr ⟨p, hp, e⟩), if_neg hk]
      show (if x = x then some v else m x) = some v
      rw [if_pos rfl]
    · exact bindC_mem hk hn.2 hm
structure Tops where
  globs : List (Tx × AV)
  meths : List (Tx × Nat)
  marks : List (Nat × Nat)
  lams : List Nat
noncomputable def Tops.cx (T : Tops) (k : Nat) (sc : Scope) : Cx := { Cx.top T.globs T.meths T.marks sc with lamOk := T.lams.contains k }
noncomputable def lamHook (B : Base) (A : Around) (env : Env) : Prop := ∀ {args : Arguments} {body : Expr} {sc : Scope} {pos : Pos} {n : Nat} {W : Addr → Prop} {ρ : List Addr} {cs : Cells} {s : Shared} {Q E : Value → Shared → Prop}, plainLam args = true → noFree sc = true → Ok B W ρ cs s → PostV B n W ρ cs s cs .lam Q →
    wpAny (model B.prog B.w) A (eval (.Lambda args body sc pos) env) Q E s
structure DefAt (B : Base) (T : Tops) (k : Nat) (F : Fn) (fd : FuncData) (body : List Stmt) (params : List Str) : Prop where
  ob : ∃ o, B.h₀.get? (B.fnA k) = some o ∧ o.data = .func fd
  text : fd.body = .stmts body
  code : ∀ h, Kept B h → h.CodeRec fd.code fd.qualname
  kind : fd.scope.kind = .function
  co : fd.scope.isCoroutine = false
  gen : fd.scope.isGenerator = false
  clo : fd.closure = []
  glo : fd.globals = mainGlobals
  bui : fd.builtins = builtinsNs
  nd : (fd.scope.names.map (·.1)).Nodup
  free : ∀ p ∈ fd.scope.names, p.2 ≠ .free
  tr : ∃ g f, F.body = trSs (tr g) f (T.cx k fd.scope) body
  slots : F.slots = (ownP fd.scope).length
  par : (ownP fd.scope).map (·.1) = params ++ ((ownP fd.scope).drop params.length).map (·.1)
  plen : params.length ≤ (ownP fd.scope).length
  lam : T.lams.contains k = true → ∀ A L, lamHook B A (callEnvC fd L (B.fnA k))
  genH : T.lams.contains k = true → ∀ A L, genHook B A (callEnvC fd L (B.fnA k))
noncomputable def BindOk (B : Base) (F : Fn) (fd : FuncData) (params : List Str) : Prop := ∀ {args : List AV} {kw : Option AV} {cs cs' : Cells} {as : List AV} {n : Nat} {W : Addr → Prop} {ρ : List Addr} {s : Shared} {vs : List Value} {kws : List (Str × Value)} {A : Around} {E : Value → Shared → Prop} {Q : List (Str × Value) → Shared → Prop},
  F.bind args kw cs = some (as, cs') → n ≤ cs.length → Ok B W ρ cs s → VRels B s.heap W ρ args vs → KwRel B s.heap W ρ kw kws →
    (∀ us W' ρ' s', After B n Non W ρ cs s W' ρ' cs' s' → VRels B s'.heap W' ρ' as us → us.length = params.length → Q (params.zip us) s') → wpAny (model B.prog B.w) A (bindArgs fd ⟨vs, kws⟩) Q E s
theorem zip_get {α β : Type} {l : List α} {r : List β} {i : Nat} {p : α × β} (h : (l.zip r)[i]? = some p) : l[i]? = some p.1 ∧ r[i]? = some p.2 := by
  rw [List.getElem?_zip_eq_some] at h; exact h
theorem map_zip_fst {α β : Type} : ∀ {l : List α} {r : List β}, r.length = l.length → (l.zip r).map (·.1) = l
  | [], _, _ => by simp
  | a :: l, [], h => by simp at h
  | a :: l, b :: r, h => by simp [map_zip_fst (l := l) (r := r) (by simpa using h)]
section
variable {B : Base} {M0 : List (Tx × Nat)} {Wo : Wd} {A : Around}
theorem run_sound {T : Tops} {k : Nat} {F : Fn} {fd : FuncData} {body : List Stmt} {params : List Str} (D : DefAt B T k F fd body params) (hb : BindOk B F fd params) (hdep : A.depth < recursionLimit) (S : Stat B)
    (glob : ∀ p ∈ T.globs, GlobOk B p) (hm : T.meths = M0) (sub : ∀ env g f cx ss n, SSs B M0 Wo (A.deeper env) n cx (trSs (tr g) f cx ss) ss)
    {args : List AV} {kw : Option AV} {cs cs' : Cells} {z : AV} {n : Nat} {W : Addr → Prop} {ρ : List Addr} {s : Shared} {vs : List Value} {kws : List (Str × Value)} {R : Result → Shared → Prop}
    (e : F.run Wo n args kw cs = some (z, cs')) (hn : n ≤ cs.length) (o : Ok B W ρ cs s) (r : VRels B s.heap W ρ args vs) (rk : KwRel B s.heap W ρ kw kws)
    (hR : ∀ v W' ρ' s', After B n Non W ρ cs s W' ρ' cs' s' → VRel B s'.heap W' ρ' z v → R (.ok (.ret v)) s') : codeAny (model B.prog B.w) A (.call (.ref (B.fnA k)) ⟨vs, kws⟩) R s := by
  obtain ⟨⟨as, cs₁⟩, hbd, e⟩ := bind_eq e
  obtain ⟨⟨ofl, ofr, ocs⟩, hou, e⟩ := bind_eq e
  obtain ⟨v₀, hv₀, e⟩ := mapS e
  obtain ⟨rfl, rfl⟩ := pair_eq e
  obtain ⟨ob, hob, hod⟩ := D.ob
  refine codeAny_call_function hdep (o.kept _ _ hob) hod D.co D.gen D.text (D.code _ o.kept) ?_
  refine hb hbd hn o r rk fun us W₁ ρ₁ s₁ af₁ r₁ hul => ?_
  rw [D.clo, D.glo, D.bui]
  have hal : as.length = params.length := by rw [r₁.length, hul]
  have hpn : ((ownP fd.scope).map (·.1)).Nodup := ownP_nodup D.nd
  have hparN : params.Nodup := by have := D.par ▸ hpn; exact (List.nodup_append.mp this).1
  have hbm : ((params.zip us).map (·.1)) = params := map_zip_fst hul
  have parAt : ∀ {i : Nat} {p : Str × NameKind}, (ownP fd.scope)[i]? = some p → i < params.length → params[i]? = some p.1 := by
    intro i p hp hi
    have h1 : ((ownP fd.scope).map (·.1))[i]? = some p.1 := by rw [List.getElem?_map, hp]; rfl
    rw [D.par, List.getElem?_append_left hi] at h1; exact h1
  have memOwn : ∀ x ∈ params, ∃ p ∈ ownP fd.scope, p.1 = x := by
    intro x hx
    have : x ∈ (ownP fd.scope).map (·.1) := by rw [D.par]; exact List.mem_append_left _ hx
    obtain ⟨p, hp, e⟩ := List.mem_map.mp this
    exact ⟨p, hp, e⟩
  refine wpAny_newFunctionEnv_cells D.kind (fun x hx => ?_) fun env he s₂ IC => ?_
  · obtain ⟨p, hp, hpx⟩ := memOwn x.1 (by rw [← hbm]; exact List.mem_map_of_mem hx)
    have hm' := mem_ownP hp
    have hl := lookup_of_mem D.nd hm'.1
    rw [hpx] at hl
    rcases hm'.2 with h | h
    · exact .inl (by rw [hl, h])
    · refine .inr ⟨by rw [hl, h], cellsFrom_some (.inl ?_)⟩
      rw [← hpx, ← h]; exact hm'.1
  · have hcalls : env = callEnvC fd s₁.heap.objs.size (B.fnA k) := by
      rw [he]; unfold callEnvC; rw [D.glo, D.bui]
    have hloc : env.locals = s₁.heap.objs.size := by rw [he]; rfl
    have hcel : env.cells = cellsFrom (s₁.heap.objs.size + 1) fd.scope.names [] := by rw [he]; rfl
    have hsc : env.scope = fd.scope := by rw [he]; rfl
    obtain ⟨h₂, tk₂, hs₂⟩ := IC.toInCall.same
    have keep : ∀ a o, s₁.heap.get? a = some o → s₂.heap.get? a = some o := IC.toInCall.keep
    have hLlt : env.locals < s₂.heap.objs.size := IC.toInCall.ns.lt
    have hsz : s₁.heap.objs.size ≤ s₂.heap.objs.size := by rw [hloc] at hLlt; exact Nat.le_of_lt hLlt
    have room : After B n Non W₁ ρ₁ cs₁ s₁ (Plus W₁ s₁.heap.objs.size s₂.heap.objs.size) ρ₁ cs₁ s₂ := by
      have := af₁.ok.room (n := n) (X := Non) (h' := s₂.heap) (tk := s₂.toks) hsz keep
      rw [hs₂] at this ⊢; exact this
    have m₁ := af₁.ok.mem
    have ρlt : ∀ a ∈ ρ₁, a < s₁.heap.objs.size := fun a z => m₁.wlt a (m₁.own a z).1
    have newOwn : ∀ a, s₁.heap.objs.size ≤ a → a < s₂.heap.objs.size → Plus W₁ s₁.heap.objs.size s₂.heap.objs.size a ∧ a ∉ ρ₁ ∧ B.h₀.objs.size ≤ a := fun a h1 h2 => ⟨.inr ⟨h1, h2⟩, fun z => absurd (ρlt a z) (Nat.not_lt.mpr h1), Nat.le_trans m₁.size h1⟩
    have kindAt : ∀ {p : Str × NameKind}, p ∈ ownP fd.scope → env.kindOf p.1 = some p.2 := fun {p} hp => by
      unfold Env.kindOf; rw [hsc]; exact lookup_of_mem D.nd (mem_ownP hp).1
    have cellAt : ∀ {p : Str × NameKind}, p ∈ ownP fd.scope → p.2 = .cell → ∃ c, env.cells.lookup p.1 = some c := fun {p} hp hc => by
      rw [hcel]
      exact Option.isSome_iff_exists.mp (cellsFrom_some (.inl (by rw [← hc]; exact (mem_ownP hp).1)))
    have cellGe : ∀ {x : Str} {c : Addr}, env.cells.lookup x = some c → env.locals < c := fun h => IC.above _ _ (mem_of_lookup h)
    have r₂ := room.vals af₁.ok r₁
    have F₂ : Frm B (layOf env.locals env.cells fd.scope) (as.map some ++ List.replicate (F.slots - as.length) none) (Plus W₁ s₁.heap.objs.size s₂.heap.objs.size) ρ₁ s₂.heap := by
      have valAt : ∀ {i : Nat} {p : Str × NameKind} {x : Option AV}, (ownP fd.scope)[i]? = some p → (as.map some ++ List.replicate (F.slots - as.length) none)[i]? = some x → x = none ∨ ∃ a v, x = some a ∧ (p.1, v) ∈ params.zip us ∧ VRel B s₂.heap (Plus W₁ s₁.heap.objs.size s₂.heap.objs.size) ρ₁ a v := by
        intro i p x hp hx
        by_cases hi : i < as.length
        · rw [List.getElem?_append_left (by rw [List.length_map]; exact hi), List.getElem?_map] at hx
          obtain ⟨a, ha, rfl⟩ := Option.map_eq_some_iff.mp hx
          obtain ⟨v, hv, rv⟩ := r₂.get ha
          refine .inr ⟨a, v, rfl, ?_, rv⟩
          have hpar := parAt hp (hal ▸ hi)
          exact List.mem_of_getElem? (List.getElem?_zip_eq_some.mpr ⟨hpar, hv⟩)
        · rw [List.getElem?_append_right (by rw [List.length_map]; omega)] at hx
          exact .inl (List.eq_of_mem_replicate (List.mem_of_getElem? hx))
      refine Frm.ofOwn D.nd ?_ (fun i p x hp hx hl => ⟨_, IC.toInCall.ns, ?_⟩) (fun i p x hp hx hc => ?_) (fun x y c hx hy hmx hmy => name_of_addr IC.apart (mem_of_lookup hx) (mem_of_lookup hy)) (fun x c hx hm e => absurd (cellGe hx) (by rw [e]; exact Nat.lt_irrefl _)) (newOwn _ (by rw [hloc]; exact Nat.le_refl _) hLlt) (fun x c hx hm => ?_)
      · rw [List.length_append, List.length_map, List.length_replicate, D.slots, hal]
        have := D.plen; omega
      · rcases valAt hp hx with rfl | ⟨a, v, rfl, hmem, rv⟩
        · trivial
        · exact ⟨v, bindL_mem (by rw [kindAt (List.mem_of_getElem? hp), hl]) (by rw [hbm]; exact hparN) hmem, rv⟩
      · obtain ⟨c, hcc⟩ := cellAt (List.mem_of_getElem? hp) hc
        refine ⟨c, _, hcc, IC.cell _ _ hcc, ?_⟩
        rcases valAt hp hx with rfl | ⟨a, v, rfl, hmem, rv⟩
        · trivial
        · exact ⟨v, bindC_mem (by rw [kindAt (List.mem_of_getElem? hp), hc]; simp) (by rw [hbm]; exact hparN) hmem, rv⟩
      · have h1 := cellGe hx
        have h2 := (IC.cell _ _ hx).lt
        exact newOwn c (by rw [hloc] at h1; exact Nat.le_of_lt h1) h2
    have X : EnvX B M0 (A.deeper env) (T.cx k fd.scope) env (layOf env.locals env.cells fd.scope) := by
      have own : ∀ {x : Str} {i : Nat}, (T.cx k fd.scope).slots.lookup (tx x) = some i → ∃ p, (ownP fd.scope)[i]? = some p ∧ p.1 = x := by
        intro x i h
        obtain ⟨j, rfl, hj⟩ := numbered_lookup (show (numbered 0 (ownNames fd.scope)).lookup (tx x) = some i from h)
        rw [ownNames_eq, List.getElem?_map] at hj
        obtain ⟨p, hp, e⟩ := Option.map_eq_some_iff.mp hj
        exact ⟨p, by rw [Nat.zero_add]; exact hp, tx_inj e⟩
      have layAt : ∀ {i : Nat} {p : Str × NameKind}, (ownP fd.scope)[i]? = some p → (layOf env.locals env.cells fd.scope)[i]? = some (locOf env.locals env.cells p) := fun hp => by
        unfold layOf; rw [List.getElem?_map, hp]; rfl
      have kindTop : ∀ x, kindOf (T.cx k fd.scope) x = env.kindOf x := fun x => by unfold Env.kindOf; rw [hsc]; rfl
      refine { kind := by rw [hsc]; exact D.kind, names := by rw [hsc]; rfl, globals := by rw [he]; rfl, builtins := by rw [he]; rfl, globs := glob, loc := fun x i hl hi => ?_, cel := fun x i hl hi => ?_, meths := hm, len := ?_, lam := fun q => by rw [hcalls]; exact D.lam q _ _, gen := fun q => by rw [hcalls]; exact D.genH q _ _ }
      · obtain ⟨p, hp, rfl⟩ := own hi
        rw [kindTop, kindAt (List.mem_of_getElem? hp)] at hl
        cases hl' : p.2 with
        | «local» => rw [layAt hp]; unfold locOf; rw [hl']; rfl
        | _ => rw [hl'] at hl; cases hl
      · obtain ⟨p, hp, rfl⟩ := own hi
        rw [kindTop, kindAt (List.mem_of_getElem? hp)] at hl
        have hm' := mem_ownP (List.mem_of_getElem? hp)
        have hpc : p.2 = .cell := by
          rcases hl with h | h
          · injection h
          · injection h with h
            exact absurd h (D.free p hm'.1)
        obtain ⟨c, hcc⟩ := cellAt (List.mem_of_getElem? hp) hpc
        refine ⟨c, hcc, ?_⟩
        rw [layAt hp]; unfold locOf; rw [hpc, hcc]; rfl
      · show (layOf env.locals env.cells fd.scope).length = (ownNames fd.scope).length
        unfold layOf; rw [List.length_map, ownNames_eq, List.length_map]
    refine ⟨S.lim.keeps room.ok.kept, codeAny_func ?_⟩
    · obtain ⟨g, f, hf⟩ := D.tr
      rw [hf] at hou
      have hn₁ : n ≤ cs₁.length := Nat.le_trans hn (af₁.length o)
      refine sub env g f _ body n ⟨X, room.ok, F₂, hn₁⟩ hou fun fl W₃ ρ₃ s₃ af₃ F₃ r₃ => ?_
      have tot : After B n Non W ρ cs s W₃ ρ₃ ocs s₃ := (af₁.trans room).fresh (X := Non) af₃ fun x hx => by
        obtain ⟨l, hl, rfl⟩ := hx
        obtain ⟨p, hp, rfl⟩ := List.mem_map.mp hl
        have h0 : s.heap.objs.size ≤ s₁.heap.objs.size := af₁.step.size
        rcases (mem_ownP hp).2 with h | h
        · unfold locOf; rw [h]
          show s.heap.objs.size ≤ env.locals
          rw [hloc]; exact h0
        · obtain ⟨c, hcc⟩ := cellAt hp h
          unfold locOf; rw [h, hcc]
          show s.heap.objs.size ≤ c
          have := cellGe hcc
          rw [hloc] at this
          exact Nat.le_trans h0 (Nat.le_of_lt this)
      cases ofl with
      | next =>
        obtain rfl := sJ hv₀
        obtain rfl := r₃
        exact hR .none _ _ _ tot .none
      | ret x =>
        obtain rfl := sJ hv₀
        obtain ⟨w, rfl, r₃⟩ := r₃
        exact hR _ _ _ _ tot r₃
      | brk => exact nN hv₀
      | cont => exact nN hv₀
end
end Ev
namespace Ev
open PySem PySem.W PyProof.Rows PySem.SeqAt
structure ClsOk (B : Base) (P : Prog) (M0 : List (Tx × Nat)) : Prop where
  hga : findIn B.K (.ref B.clsA) "__getattribute__" = some (some (.builtin "object.__getattribute__"))
  hk : findIn B.K (.ref B.clsA) "__getattr__" = some none
  meth : ∀ {t : Tx} {k : Nat}, M0.lookup t = some k → findIn B.K (.ref B.clsA) ⟨t.toArray⟩ = some (some (.ref (B.fnA k))) ∧ typeIn B.K (.ref (B.fnA k)) = some (.type "function")
  hdr : M0.lookup headersTx = none
  getH : findIn B.K (.ref B.clsA) headersStr = some none
  cls : (clsIn B.K B.clsA).any (·.hasDict) = true
  setattr : findIn B.K (.ref B.clsA) "__setattr__" = some (some (.builtin "object.__setattr__"))
  plain : plainOver B.K B.clsA = true
  noseq : noSeq B.K B.clsA = true
  setitem : findIn B.K (.ref B.clsA) "__setitem__" = some (some (.ref (B.fnA P.setN))) ∧ typeIn B.K (.ref (B.fnA P.setN)) = some (.type "function")
  delitem : findIn B.K (.ref B.clsA) "__delitem__" = some (some (.ref (B.fnA P.delN))) ∧ typeIn B.K (.ref (B.fnA P.delN)) = some (.type "function")
  makes : makesIn B.K B.clsA = true
  init : findIn B.K (.ref B.clsA) "__init__" = some (some (.ref (B.fnA P.initN))) ∧ typeIn B.K (.ref (B.fnA P.initN)) = some (.type "function")
theorem look_empty (nm : Str) : lookIn nm { cls := .type "dict", data := .dict #[] } = some none := rfl
theorem look_h {hsh : Int} {tk : Tok} {v : Value} {n : Nat} : lookIn headersStr (hObj hsh tk v n) = some (some v) := by
  unfold lookIn
  simp only [List.find?, Value.isStr, beq_self_eq_true]
theorem look_other {nm : Str} (hne : nm ≠ headersStr) {hsh : Int} {tk : Tok} {v : Value} {n : Nat} : lookIn nm (hObj hsh tk v n) = some none := by
  unfold lookIn
  have : (headersStr == nm) = false := by simpa using fun e => hne e.symm
  simp only [List.find?, Value.isStr, this, List.any_cons, DictEntry.refKey, List.any_nil, Bool.or_false]
  rfl
section
variable {B : Base} {P : Prog} {M0 : List (Tx × Nat)} {A : Around} {s : Shared} {a dx : Addr} {o : Obj}
theorem Stat.kin (S : Stat B) {h : Heap} (k : Kept B h) : B.K.In h := Frag.In.keeps S.k k
theorem inst_of (I : Ev.InstAt B s.heap a dx) (ho : s.heap.get? dx = some o) : PySem.W.InstAt s.heap a { cls := .ref B.clsA, dict := some dx, data := .plain } B.clsA (some o) := ⟨I, rfl, rfl, ho⟩
theorem shadow_of (hH : HObj o) {nm : Str} (hne : nm ≠ headersStr) : shadowIn (some o) nm = some false := by
  rcases hH with rfl | ⟨hsh, tk, v, n, rfl⟩
  · rfl
  · show (lookIn nm _).map _ = _
    rw [look_other hne]; rfl
theorem hook_meth (S : Stat B) (C : ClsOk B P M0) {nm : Str} {k : Nat} (hm : M0.lookup (tx nm) = some k) (K : Kept B s.heap) (I : Ev.InstAt B s.heap a dx) (ho : s.heap.get? dx = some o) (hH : HObj o) (hne : nm ≠ headersStr) {pl : Sem Bool} {R : Value × List Value → Shared → Prop} {E : Value → Shared → Prop} (h : R (.ref (B.fnA k), [.ref a]) s) :
    wpAny (model B.prog B.w) A (getMethod (.ref a) nm pl) R E s := by
  obtain ⟨h1, h2⟩ := C.meth hm
  rw [str_tx] at h1
  exact method_fn (S.kin K) (inst_of I ho) C.hga C.hk h1 h2 (shadow_of hH hne) h
theorem hook_getA (S : Stat B) (C : ClsOk B P M0) (K : Kept B s.heap) (I : Ev.InstAt B s.heap a dx) {hsh : Int} {tk : Tok} {v : Value} {n : Nat} (ho : s.heap.get? dx = some (hObj hsh tk v n)) (hv : handedIn v = true) {E Q : Value → Shared → Prop} (h : ∀ t, Q v { s with toks := t }) :
    wpAny (model B.prog B.w) A (getAttr (.ref a) headersStr true) Q E s := by
  refine get_value (S.kin K) (inst_of I ho) C.hga ?_ hv (h _)
  obtain ⟨cd, hc, hd⟩ := any_some C.cls
  unfold findObj
  rw [hc, Option.bind_some, C.getH, Option.bind_some, Option.bind_some, Option.bind_some]
  have : PySem.W.ownOf cd (some (hObj hsh tk v n)) headersStr = some (some v) := by
    unfold PySem.W.ownOf; rw [hd, if_pos rfl]; exact look_h
  rw [this]; rfl
theorem put_empty (hs : Int) (tk : Tok) (v : Value) : Obj.putName headersStr hs (.str headersStr tk) v { cls := .type "dict", data := .dict #[] } = hObj hs tk v 1 := by rfl
theorem put_h (hs hs' : Int) (tk tk' : Tok) (v v' : Value) (n : Nat) : Obj.putName headersStr hs (.str headersStr tk) v (hObj hs' tk' v' n) = hObj hs' tk' v n := by rfl
theorem hook_setA (S : Stat B) (C : ClsOk B P M0) (K : Kept B s.heap) (I : Ev.InstAt B s.heap a dx) (ho : s.heap.get? dx = some o) (hH : HObj o) {v : Value} {E : Value → Shared → Prop} {Q : Unit → Shared → Prop}
    (h : ∀ h' tk hsh tk' n, Heap.SameBut dx s.heap h' → h'.get? dx = some (hObj hsh tk' v n) → Q () { s with heap := h', toks := tk }) : wpAny (model B.prog B.w) A (setAttr (.ref a) headersStr v) Q E s := by
  have X := S.kin K
  have J := inst_of I ho
  refine set_plain X J C.setattr ?_
  obtain ⟨hh, g, dr, t, os⟩ := s
  replace X : B.K.In hh := X
  dsimp only
  refine osa_open X J C.plain (r := none) (by unfold takerIn; rw [C.getH]; rfl) fun b => ?_
  obtain ⟨cd, hc, hd⟩ := any_some C.cls
  have hx : hh.get? a = some { cls := .ref B.clsA, dict := some dx, data := .plain } := I
  refine wpAny_bind (wpAny_pure (wpAny_bind (wpAny_bind (wpAny_loadPart hx (wpAny_bind ((looks_clsIn X hc).here ?_))))))
  rw [hd]
  refine wpAny_pure (a := some dx) (wpAny_bind (wpAny_pure (wpAny_bind ?_)))
  unfold nsSet
  refine wpAny_bind (wpAny_bind (wpAny_askSetting (wpAny_pure (wpAny_bind (wpAny_mkText (wpAny_bind (wpAny_loadPart ho ?_)))))))
  have fin : ∀ (hs : Int) (tk : Tok) (hsh : Int) (tk' : Tok) (n : Nat), Obj.putName headersStr hs (.str headersStr tk) v o = hObj hsh tk' v n → (hh.update dx (Obj.putName headersStr hs (.str headersStr tk) v)).get? dx = some (hObj hsh tk' v n) := by
    intro hs tk hsh tk' n e
    have := Heap.get?_update_self (h := hh) (a := dx) (Obj.putName headersStr hs (.str headersStr tk) v) ho (by rw [e]; rfl)
    rw [this, e]
  rcases hH with rfl | ⟨hsh, tk, v', n, rfl⟩
  · dsimp only
    have c : (!(#[] : Array DictEntry).any (·.key.isStr headersStr) && (#[] : Array DictEntry).any (·.refKey)) = false := by simp
    rw [aRefKeyMayBeTheName_at, c]
    refine wpAny_updatePart ho ?_
    have D' := fin (PyData.keyHash B.w.params headersStr) (t + 1) _ _ _ (put_empty _ _ _)
    refine wpAny_bind (wpAny_lookBehind D' (by exact pastItsLine_dict (by rw [sizeLine_eq]; simp)) ?_)
    exact wpAny_pure (h _ _ _ _ _ (Heap.SameBut.update ..) D')
  · dsimp only
    have c : (!(#[⟨hsh, .str headersStr tk, v'⟩] : Array DictEntry).any (·.key.isStr headersStr) && (#[⟨hsh, .str headersStr tk, v'⟩] : Array DictEntry).any (·.refKey)) = false := by
      simp [DictEntry.refKey]
    rw [aRefKeyMayBeTheName_at, c]
    refine wpAny_updatePart ho ?_
    have D' := fin (PyData.keyHash B.w.params headersStr) (t + 1) _ _ _ (put_h _ _ _ _ _ _ _)
    refine wpAny_bind (wpAny_lookBehind D' (by exact pastItsLine_dict (by rw [sizeLine_eq]; simp)) ?_)
    exact wpAny_pure (h _ _ _ _ _ (Heap.SameBut.update ..) D')
theorem hook_setI (S : Stat B) (C : ClsOk B P M0) (K : Kept B s.heap) (I : Ev.InstAt B s.heap a dx) (ho : s.heap.get? dx = some o) {i v : Value} {E : Value → Shared → Prop} {Q : Unit → Shared → Prop}
    (h : wpAny (model B.prog B.w) A (call (.ref (B.fnA P.setN)) [.ref a, i, v]) (fun _ s' => Q () s') E s) : wpAny (model B.prog B.w) A (setItem (.ref a) i v) Q E s := by
  have X := S.kin K
  have J := inst_of I ho
  unfold setItem sequenceKey
  refine wpAny_holding (wpAny_bind (wpAny_bind (J.type.here ?_)))
  refine wpAny_bind ((anyM_none X C.noseq).here ?_)
  rw [if_pos (show (!false) = true from rfl)]
  exact wpAny_pure (wpAny_bind (special_fn X J C.setitem.1 C.setitem.2 (wpAny_mono h (fun _ _ z => wpAny_pure z) fun _ _ z => z)))
theorem hook_keep (S : Stat B) (C : ClsOk B P M0) {s : Shared} (K : Kept B s.heap) : KeepOk (model B.prog B.w) A s (.ref B.clsA) := fun Q E hq => by
  have Y := makes_of (M := model B.prog B.w) (S.kin K) C.makes
  obtain ⟨oc, od, cd, sl, hC, _⟩ := Y.obj
  unfold keeperOf
  refine wpAny_bind (wpAny_load hC ?_)
  dsimp only
  exact wpAny_bind (Y.call.here (wpAny_pure (hq _)))
end
end Ev
namespace Ev
open PySem PySem.W PyProof.Rows PySem.SeqAt
structure Room (A : Around) (k : Nat) : Prop where
  hh : A.handled = none
  depth : A.depth + 4 * k + 8 < recursionLimit
  units : A.units + 8 * k + 64 < cLine
theorem Room.deeper {A : Around} {k : Nat} (r : Room A (k + 1)) (env : Env) : Room (A.deeper env) k :=
  ⟨r.hh, by have := r.depth; show A.depth + 1 + 4 * k + 8 < _; omega, by have := r.units; show A.units + 3 + 8 * k + 64 < _; omega⟩
theorem Room.deep {A : Around} {k : Nat} (r : Room A k) : A.depth < recursionLimit := by have := r.depth; omega
theorem weight_tc (args : Args) : (Code.builtin "type.__call__" args).weight ≤ 2 := by
  unfold Code.weight
  have h1 : (Code.builtin "type.__call__" args).frames = 0 := rfl
  have h2 : (Code.builtin "type.__call__" args).isGuard = false := rfl
  have h3 : (Code.builtin "type.__call__" args).isCaller = false := rfl
  rw [h1, h2, h3]
  split <;> simp
theorem units_tc (args : Args) : (Code.builtin "type.__call__" args).cUnits = 1 := rfl
theorem Room.makes {A : Around} {k : Nat} (r : Room A (k + 1)) (args : Args) (env : Env) : Room ((A.under (.builtin "type.__call__" args)).deeper env) k ∧ (A.under (.builtin "type.__call__" args)).depth < recursionLimit := by
  have h1 := r.depth
  have h2 := r.units
  have h3 := weight_tc args
  have h4 := units_tc args
  have e1 : (A.under (.builtin "type.__call__" args)).depth = A.depth + (Code.builtin "type.__call__" args).weight := rfl
  have e2 : (A.under (.builtin "type.__call__" args)).units = A.units + (Code.builtin "type.__call__" args).cUnits := rfl
  refine ⟨⟨r.hh, ?_, ?_⟩, ?_⟩
  · show (A.under (.builtin "type.__call__" args)).depth + 1 + 4 * k + 8 < _
    rw [e1]; omega
  · show (A.under (.builtin "type.__call__" args)).units + 3 + 8 * k + 64 < _
    rw [e2]; omega
  · rw [e1]; omega
section
variable {B : Base} {W W' : Addr → Prop} {ρ ρ' : List Addr} {cs cs' : Cells} {h : Heap} {s s' : Shared}
theorem Mem.adopt2 (m : Mem B W ρ cs h) {a b : Addr} (ha : W a ∧ a ∉ ρ ∧ B.h₀.objs.size ≤ a) (hb : W b ∧ b ∉ ρ ∧ B.h₀.objs.size ≤ b) (hab : a ≠ b) {o p : AObj} (c : CRel B h W (ρ ++ [a, b]) a o) (d : CRel B h W (ρ ++ [a, b]) b p) : Mem B W (ρ ++ [a, b]) (cs ++ [o, p]) h := by
  refine ⟨by simp [m.len], fun i o' x e g => ?_, ?_, fun x z => ?_, m.wlt, m.base, m.tab, m.size⟩
  · by_cases hi : i < cs.length
    · rw [List.getElem?_append_left hi] at e
      rw [List.getElem?_append_left (m.len ▸ hi)] at g
      exact (m.cell i o' x e g).mono rfl (fun a o e _ => e) (fun a _ w => w) fun j b q => getElem?_append_some _ q
    · rw [List.getElem?_append_right (Nat.le_of_not_lt hi)] at e
      rw [List.getElem?_append_right (m.len ▸ Nat.le_of_not_lt hi), ← m.len] at g
      match hj : i - cs.length with
      | 0 => rw [hj] at e g; simp at e g; subst e; subst g; exact c
      | 1 => rw [hj] at e g; simp at e g; subst e; subst g; exact d
      | k + 2 => rw [hj] at e; simp at e
  · exact List.nodup_append.mpr ⟨m.inj, by simp [hab], fun x hx y hy e => by
      subst e
      rcases List.mem_cons.mp hy with rfl | hy
      · exact ha.2.1 hx
      · simp at hy; subst hy; exact hb.2.1 hx⟩
  · rcases List.mem_append.mp z with z | z
    · exact m.own x z
    · rcases List.mem_cons.mp z with rfl | z
      · exact ⟨ha.1, ha.2.2⟩
      · simp at z; subst z; exact ⟨hb.1, hb.2.2⟩
end
section
variable {B : Base} {n : Nat} {W W' : Addr → Prop} {ρ ρ' : List Addr} {cs cs' : Cells} {s s' : Shared}
theorem KwRel.closed {kw : Option AV} {kws : List (Str × Value)} (r : KwRel B s.heap W ρ kw kws) (h : kw.all (below 0) = true) : KwRel B s.heap W [] kw kws := by
  cases r with
  | none => exact .none
  | some r => exact .some (r.low (n := 0) h)
theorem closed_sound {v : AV} {vv : Value} (o : Ok B W ρ cs s) (a : After B 0 Non W [] [] s W' ρ' cs' s') (r : VRel B s'.heap W' ρ' v vv) (hb : below 0 v = true) : After B n Non W ρ cs s W' ρ cs s' ∧ VRel B s'.heap W' ρ v vv := by
  have m := o.mem
  have k : ∀ x ob, s.heap.get? x = some ob → ¬ B.isTab x → s'.heap.get? x = some ob := fun x ob e t => a.step.kept x ob e (by simp) t fun z => z
  have ρt : ∀ x ∈ ρ, ¬ B.isTab x := fun x hx t => by
    obtain ⟨p, hp, rfl⟩ := List.mem_map.mp t
    exact absurd (m.tab p hp).2.2 (Nat.not_lt.mpr (m.own _ hx).2)
  have wk : ∀ x ob, s.heap.get? x = some ob → ¬ W x → s'.heap.get? x = some ob := fun x ob e w => k x ob e (m.notW w).2
  have ρlt : ∀ x ∈ ρ, x < s.heap.objs.size := fun x z => m.wlt x (m.own x z).1
  refine ⟨⟨⟨⟨m.len, fun i ob x e g => ?_, m.inj, fun x hx => ⟨(a.step.wiff x (ρlt x hx)).mpr (m.own x hx).1, (m.own x hx).2⟩, a.ok.mem.wlt, a.ok.mem.base, a.ok.mem.tab, a.ok.mem.size⟩, a.ok.gens⟩, ⟨fun x ob e _ t _ => k x ob e t, a.step.wiff, fun _ _ e => e, fun _ h => .inl h, a.step.size⟩, a.os, LowTo.refl _ _⟩, ?_⟩
  · have c := m.cell i ob x e g
    obtain ⟨o', ho'⟩ := c.getSome
    exact c.mono ((k x o' ho' (ρt x (List.mem_of_getElem? g))).trans ho'.symm) wk (fun x l w => (a.step.wiff x l).mp w) fun _ _ e => e
  · have r0 : VRel B s'.heap W' [] v vv := by simpa using r.low (n := 0) hb
    exact r0.mono (fun _ _ e _ => e) (fun _ _ w => w) (fun i x e => by simp at e)
end
structure ProgOk (B : Base) (P : Prog) (T : Tops) : Prop where
  S : Stat B
  C : ClsOk B P T.meths
  defs : ∀ {k : Nat} {F : Fn}, P.fs[k]? = some F → ∃ fd body params, DefAt B T k F fd body params ∧ BindOk B F fd params
  glob : ∀ p ∈ T.globs, GlobOk B p
  fnObj : ∀ k, ∃ o fd, B.h₀.get? (B.fnA k) = some o ∧ o.data = .func fd
  reM : ∀ {A : Around}, A.handled = none → A.units + 16 < cLine → ∀ {nm : Str} {k : Nat} {cs : Cells} {xs : List AV} {z : AV} {cs' : Cells} {n : Nat}, methOk cs (.re k) (mnOf nm) = true → mcall n (.re k) (mnOf nm) xs cs = some (z, cs') → ∀ {s : Shared} {pl : Sem Bool} {R : Value × List Value → Shared → Prop} {E : Value → Shared → Prop}, Kept B s.heap →
    (∀ f, (∀ s', Kept B s'.heap → KeepOk (model B.prog B.w) A s' f) →
      (∀ {s' : Shared} {W' : Addr → Prop} {ρ : List Addr} {vs : List Value} {Q : Value → Shared → Prop} {E : Value → Shared → Prop}, Ok B W' ρ cs s' → n ≤ cs.length → VRels B s'.heap W' ρ xs vs → PostV B n W' ρ cs s' cs' z Q → wpAny (model B.prog B.w) A (PySem.call f (.ref (B.reA k) :: vs) []) Q E s') → R (f, [.ref (B.reA k)]) s) →
    wpAny (model B.prog B.w) A (getMethod (.ref (B.reA k)) nm pl) R E s
section
variable {B : Base} {P : Prog} {T : Tops}
theorem calls_ok (O : ProgOk B P T) {k : Nat} (ih : ∀ A, Room A k → Rx B T.meths (callAt P k) A) {A : Around} (r : Room A (k + 1)) : CallOk B (callAt P (k + 1)).cf A := by
  intro f args kw cs cs' z n W ρ s vs kws Q E e hn o rv rk hQ
  have e : (P.fs[f]?).bind (fun F => closed (callAt P k) F args kw cs) = some (z, cs') := e
  obtain ⟨F, hF, e⟩ := bind_eq e
  obtain ⟨fd, body, params, D, hb⟩ := O.defs hF
  have run : ∀ {n' : Nat} {W : Addr → Prop} {ρ : List Addr} {s : Shared} {vs : List Value} {kws : List (Str × Value)} {cs₁ cs₂ : Cells} {z₀ : AV} {Q : Value → Shared → Prop}, F.run (callAt P k) n' args kw cs₁ = some (z₀, cs₂) → n' ≤ cs₁.length → Ok B W ρ cs₁ s → VRels B s.heap W ρ args vs → KwRel B s.heap W ρ kw kws →
      PostV B n' W ρ cs₁ s cs₂ z₀ Q → wpAny (model B.prog B.w) A (PySem.call (.ref (B.fnA f)) vs kws) Q E s := by
    intro n' W ρ s vs kws cs₁ cs₂ z₀ Q hr hl o rv rk hQ
    refine wpAny_call (run_sound D hb (by have := r.depth; omega) O.S O.glob rfl (fun env g f cx ss m => ?_) hr hl o rv rk hQ)
    have R := ih _ (r.deeper env)
    show SSs B T.meths (callAt P k) (A.deeper env) m cx _ _
    exact trSs_ok R (fun s => hook_keep O.S O.C) g f cx ss
  have opened : openRun (callAt P k) F args kw cs = some (z, cs') → wpAny (model B.prog B.w) A (PySem.call (.ref (B.fnA f)) vs kws) Q E s := by
    intro e
    obtain ⟨⟨z₀, cs₀⟩, hr, e⟩ := map_eq e
    refine run hr (Nat.le_refl _) o rv rk fun v W' ρ' s' af rz => ?_
    obtain ⟨ρ'', af', rz'⟩ := shut_sound o af rz
    have e : shut cs.length z₀ cs₀ = (z, cs') := e
    rw [e] at af' rz'
    exact hQ v W' ρ'' s' (af'.lower hn) rz'
  rcases orElse_eq e with ⟨v, hv, e⟩ | e
  · obtain ⟨hbel, hv⟩ := if_eq hv
    obtain ⟨⟨z₀, cs₀⟩, hr, hv⟩ := bind_eq hv
    obtain ⟨hz, hv⟩ := if_eq hv
    obtain rfl := sJ hv
    obtain ⟨rfl, rfl⟩ := pair_eq e
    obtain ⟨hb1, hb2⟩ := aT hbel
    have o₀ : Ok B W [] [] s := ⟨o.mem.takeN (n := 0) (fun i _ hi => absurd hi (Nat.not_lt_zero i)) (Nat.zero_le _), o.gens⟩
    refine run hr (Nat.le_refl 0) o₀ (rv.low (n := 0) hb1) (rk.closed hb2) fun v W' ρ' s' af rz => ?_
    obtain ⟨af', rz'⟩ := closed_sound (n := n) o af rz hz
    exact hQ v W' ρ s' af' rz'
  · exact opened e
theorem new_ok (O : ProgOk B P T) {k : Nat} (ih : ∀ A, Room A k → Rx B T.meths (callAt P k) A) {A : Around} (r : Room A (k + 1)) : NewOk B (callAt P (k + 1)).new A := by
  intro cs cs' z n W ρ s Q E e hn o hQ
  have e : (P.fs[P.initN]?).bind (fun F => (F.run (callAt P k) cs.length [.ref cs.length] none (cs ++ [.inst (cs.length + 1), .idict []])).bind fun r => if r.1.none? then some (.ref cs.length, r.2) else none) = some (z, cs') := e
  obtain ⟨F, hF, e⟩ := bind_eq e
  obtain ⟨⟨z₀, cs₀⟩, hr, e⟩ := bind_eq e
  obtain ⟨fd, body, params, D, hb⟩ := O.defs hF
  obtain ⟨hz, e⟩ := if_eq e
  obtain rfl : z₀ = .none := none?_eq hz
  obtain ⟨rfl, rfl⟩ := pair_eq e
  next =>
    have X := O.S.kin o.kept
    obtain ⟨h, g, d, t, os⟩ := s
    refine wpAny_call (make_core (makes_of X O.C.makes) (looks_findIn X O.C.init.1) (fun self => bind_fn X self O.C.init.2) (.inl rfl) ?_)
    have m := o.mem
    have hz1 : (h.push emptyDict).objs.size = h.objs.size + 1 := Heap.size_push ..
    have hz2 : ((h.push emptyDict).push (instObj B.clsA h.objs.size)).objs.size = h.objs.size + 2 := by rw [Heap.size_push, hz1]
    have room : After B cs.length Non W ρ cs ⟨h, g, d, t, os⟩ (Plus W h.objs.size ((h.push emptyDict).push (instObj B.clsA h.objs.size)).objs.size) ρ cs ⟨(h.push emptyDict).push (instObj B.clsA h.objs.size), g, d, t, os⟩ :=
      o.room (s := ⟨h, g, d, t, os⟩) (by show h.objs.size ≤ _; rw [hz2]; omega) fun a ob e => Heap.get?_push_of_some _ (Heap.get?_push_of_some _ e)
    have ρlt : ∀ a ∈ ρ, a < h.objs.size := fun a z => m.wlt a (m.own a z).1
    have g0 : ((h.push emptyDict).push (instObj B.clsA h.objs.size)).get? h.objs.size = some emptyDict := Heap.get?_push_of_some _ (Heap.get?_push_size _ rfl)
    have g1 : ((h.push emptyDict).push (instObj B.clsA h.objs.size)).get? (h.objs.size + 1) = some (instObj B.clsA h.objs.size) := by
      have := Heap.get?_push_size (h.push emptyDict) (o := instObj B.clsA h.objs.size) rfl
      rw [hz1] at this; exact this
    have own : ∀ a, h.objs.size ≤ a → a < h.objs.size + 2 → Plus W h.objs.size ((h.push emptyDict).push (instObj B.clsA h.objs.size)).objs.size a ∧ a ∉ ρ ∧ B.h₀.objs.size ≤ a := fun a h1 h2 =>
      ⟨.inr ⟨h1, by rw [hz2]; exact h2⟩, fun z => absurd (ρlt a z) (Nat.not_lt.mpr h1), Nat.le_trans m.size h1⟩
    have m2 := room.ok.mem.adopt2 (a := h.objs.size + 1) (b := h.objs.size) (own _ (Nat.le_succ _) (Nat.lt_succ_self _)) (own _ (Nat.le_refl _) (Nat.lt_succ_of_lt (Nat.lt_succ_self _))) (Nat.succ_ne_self _) (o := .inst (cs.length + 1)) (p := .idict [])
      ⟨_, g1, by rw [List.getElem?_append_right (by rw [m.len]; exact Nat.le_succ _), m.len, Nat.add_sub_cancel_left]; rfl⟩ (.inl ⟨rfl, g0⟩)
    have af₁ : After B cs.length Non W ρ cs ⟨h, g, d, t, os⟩ (Plus W h.objs.size ((h.push emptyDict).push (instObj B.clsA h.objs.size)).objs.size) (ρ ++ [h.objs.size + 1, h.objs.size]) (cs ++ [.inst (cs.length + 1), .idict []]) ⟨(h.push emptyDict).push (instObj B.clsA h.objs.size), g, d, t, os⟩ := by
      refine ⟨⟨m2, o.gens⟩, ⟨room.step.kept, room.step.wiff, fun i a e => getElem?_append_some _ (room.step.pre i a e), fun a ha => ?_, room.step.size⟩, rfl, fun k hk hl i ob hi e => ?_⟩
      · rcases List.mem_append.mp ha with ha | ha
        · exact .inl ha
        · rcases List.mem_cons.mp ha with rfl | ha
          · exact .inr (Nat.le_succ _)
          · simp at ha; subst ha; exact .inr (Nat.le_refl _)
      · rw [List.getElem?_append_left (Nat.lt_of_lt_of_le hi hk)] at e
        exact hl i ob hi e
    have hρ : (ρ ++ [h.objs.size + 1, h.objs.size])[cs.length]? = some (h.objs.size + 1) := by rw [List.getElem?_append_right (by rw [m.len]; exact Nat.le_refl _), m.len]; simp
    refine run_sound D hb (r.makes ⟨[.ref B.clsA], []⟩ default).2 O.S O.glob rfl (fun env g f cx ss m => ?_) hr (by simp) af₁.ok (.cons (.ref hρ) .nil) .none fun v W' ρ' s' af rz => ?_
    · have R := ih _ (r.makes ⟨[.ref B.clsA], []⟩ env).1
      show SSs B T.meths (callAt P k) _ m cx _ _
      exact trSs_ok R (fun s => hook_keep O.S O.C) g f cx ss
    · obtain rfl := rz.inv
      refine ⟨rfl, ?_⟩
      exact hQ _ W' ρ' s' ((af₁.trans af).lower hn) (.ref (af.step.pre _ _ hρ))
theorem rx_all (O : ProgOk B P T) : ∀ k A, Room A k → Rx B T.meths (callAt P k) A := by
  intro k
  induction k with
  | zero =>
    intro A r
    refine { S := O.S, hh := r.hh, room := by have := r.units; omega, deep := r.deep, fnObj := O.fnObj, call := fun e => ?_, new := fun e => ?_, meth := fun h => by intro s a dx o pl R E K I ho hH hne hR; exact hook_meth O.S O.C h K I ho hH hne hR, hdr := O.C.hdr, getA := fun K I ho hv h => hook_getA O.S O.C K I ho hv h, setA := fun K I ho hH h => hook_setA O.S O.C K I ho hH h, setI := fun hi e => ?_, reM := fun h1 h2 => by intro s pl R E K h; exact O.reM r.hh (by have := r.units; omega) h1 h2 K h }
    all_goals exact absurd e (by simp [callAt])
  | succ k ih =>
    intro A r
    have cok : CallOk B (callAt P (k + 1)).cf A := calls_ok O ih r
    refine { S := O.S, hh := r.hh, room := by have := r.units; omega, deep := r.deep, fnObj := O.fnObj, call := cok, new := new_ok O ih r, meth := fun h => by intro s a dx o pl R E K I ho hH hne hR; exact hook_meth O.S O.C h K I ho hH hne hR, hdr := O.C.hdr, getA := fun K I ho hv h => hook_getA O.S O.C K I ho hv h, setA := fun K I ho hH h => hook_setA O.S O.C K I ho hH h, setI := fun hi e hn o pr pi pv hQ => ?_, reM := fun h1 h2 => by intro s pl R E K h; exact O.reM r.hh (by have := r.units; omega) h1 h2 K h }
    · obtain ⟨⟨d, es⟩, hi⟩ := Option.isSome_iff_exists.mp hi
      obtain ⟨ad, dx, rfl, hd, gd, hI, ob, hob, hH⟩ := isInst_at o pr hi
      exact hook_setI O.S O.C o.kept hI hob (cok e hn o (.cons pr (.cons pi (.cons pv .nil))) .none fun v W' ρ' s' af _ => hQ W' ρ' s' af)
end
end Ev
namespace Ev
open PySem PySem.W PyProof.Rows PySem.SeqAt
section
variable {B : Base} {F : Fn} {fd : FuncData} {params : List Str}
theorem bindOk_plain (hko : F.ko = false) (hkd : F.kd = false) (dv : List Value) (drel : ∀ h W ρ, VRels B h W ρ F.dfl dv) (hnp : params.length = F.np)
    (hb : ∀ (vs : List Value) (s : Shared), vs.length ≤ F.np → F.np ≤ vs.length + F.dfl.length → Kept B s.heap → ∀ (A : Around) (E : Value → Shared → Prop) (Q : List (Str × Value) → Shared → Prop), Q (params.zip (vs ++ dv.drop (dv.length - (F.np - vs.length)))) s → wpAny (model B.prog B.w) A (bindArgs fd ⟨vs, []⟩) Q E s) : BindOk B F fd params := by
  intro args kw cs cs' as n W ρ s vs kws A E Q e hn o rv rk hQ
  obtain ⟨hlen, e⟩ := if_eq e
  rw [hko, hkd] at e
  cases kw with
    | some v => exact nN e
    | none =>
      obtain ⟨rfl, rfl⟩ := pair_eq e
      cases rk
      have hvl := rv.length
      have hdl := (drel s.heap W ρ).length
      rw [hvl] at hlen
      refine hb vs s hlen.1 hlen.2 o.kept _ _ _ ?_
      refine hQ _ W ρ s (After.refl o) ?_ ?_
      · rw [← hvl, ← hdl]
        exact rv.append ((drel s.heap W ρ).drop _)
      · rw [hdl] at hlen
        rw [List.length_append, List.length_drop, Nat.sub_sub_self (Nat.sub_le_iff_le_add'.mpr hlen.2), Nat.add_sub_cancel' hlen.1, hnp]
theorem bindOk_kw (hko : F.ko = true) (hkd : F.kd = false) (hdf : F.dfl = []) (hnp : params.length = F.np + 1)
    (hb : ∀ (vs : List Value) (v : Value) (s : Shared), vs.length = F.np → Kept B s.heap → ∀ (A : Around) (E : Value → Shared → Prop) (Q : List (Str × Value) → Shared → Prop), Q (params.zip (vs ++ [v])) s → wpAny (model B.prog B.w) A (bindArgs fd ⟨vs, [("name", v)]⟩) Q E s) : BindOk B F fd params := by
  intro args kw cs cs' as n W ρ s vs kws A E Q e hn o rv rk hQ
  obtain ⟨hlen, e⟩ := if_eq e
  rw [hko, hkd] at e
  rw [hdf] at e hlen
  cases kw with
    | none => exact nN e
    | some x =>
      obtain ⟨rfl, rfl⟩ := pair_eq e
      cases rk with | some r =>
      have hvl := rv.length
      simp only [List.length_nil, Nat.add_zero] at hlen
      refine hb vs _ s (by omega) o.kept _ _ _ ?_
      refine hQ _ W ρ s (After.refl o) ?_ ?_
      · simp only [List.drop_nil, List.append_nil]
        exact rv.append (.cons r .nil)
      · rw [List.length_append, List.length_singleton]; omega
theorem bindOk_kd (hko : F.ko = false) (hkd : F.kd = true) (hdf : F.dfl = []) (hnp : params.length = F.np + 1)
    (hb : ∀ (vs : List Value), vs.length = F.np → bindArgs fd ⟨vs, []⟩ = (do let d ← alloc { cls := .type "dict", data := .dict #[] }; pure (params.zip (vs ++ [.ref d])))) : BindOk B F fd params := by
  intro args kw cs cs' as n W ρ s vs kws A E Q e hn o rv rk hQ
  obtain ⟨hlen, e⟩ := if_eq e
  rw [hko, hkd] at e
  rw [hdf] at e hlen
  cases kw with
    | some v => exact nN e
    | none =>
      obtain ⟨rfl, rfl⟩ := pair_eq e
      cases rk
      have hvl := rv.length
      simp only [List.length_nil, Nat.add_zero] at hlen
      rw [hb vs (by omega)]
      refine wpAny_bind (wpAny_alloc (wpAny_pure ?_))
      have af : After B n Non W ρ cs s _ _ _ { s with heap := s.heap.push { cls := .type "dict", data := .dict #[] } } := o.alloc hn (tk := s.toks) (co := .dict []) ⟨[], Heap.DictOf.new _, .nil⟩
      refine hQ _ _ _ _ af ?_ ?_
      · simp only [List.drop_nil, List.append_nil]
        exact (af.vals o rv).append (.cons (.ref (by rw [o.mem.len]; simp)) .nil)
      · rw [List.length_append, List.length_singleton]; omega
end
end Ev
namespace Ev
open PySem PySem.W PyProof.Rows PySem.SeqAt
open PySem.Builtin.Re
open PySem (Sre.M)
theorem owner_re : Manifest.owners.lookup (String.ofList ['n', 'r', 'e', 't', 't', 'a', 'P', '.', 'e', 'r'].reverse) = Manifest.owners.lookup "re.Pattern" := by kernel_rfl
theorem plainAttrs_re : PlainAttrs "re.Pattern" :=
  ⟨⟨"object.__getattribute__", by rw [typeLookup_type, builtinLookup_eq_fast]; kernel_rfl, by decide +kernel⟩, by rw [typeLookup_type, builtinLookup_eq_fast]; kernel_rfl⟩
theorem slot_re_search : Slot "re.Pattern" "search" "re.Pattern.search" :=
  .of (owner := "re.Pattern") (n := "search") (by rw [typeLookup_type, builtinLookup_eq_fast]; kernel_rfl) (by decide +kernel) (by decide +kernel) (by decide +kernel)
    (by first | exact .inl (by decide +kernel) | exact .inr (by decide +kernel)) (by rw [isSubtype_type]; kernel_rfl)
theorem slot_re_sub : Slot "re.Pattern" "sub" "re.Pattern.sub" :=
  .of (owner := "re.Pattern") (n := "sub") (by rw [typeLookup_type, builtinLookup_eq_fast]; kernel_rfl) (by decide +kernel) (by decide +kernel) (by decide +kernel)
    (by first | exact .inl (by decide +kernel) | exact .inr (by decide +kernel)) (by rw [isSubtype_type]; kernel_rfl)
theorem type_re_search : typeOf (.builtin "re.Pattern.search") = pure (.type "method_descriptor") := by show builtinType _ = _; rw [builtinType_eq_fast]; kernel_rfl
theorem type_re_sub : typeOf (.builtin "re.Pattern.sub") = pure (.type "method_descriptor") := by show builtinType _ = _; rw [builtinType_eq_fast]; kernel_rfl
theorem entry_re_search : entryFor table "re.Pattern.search" = some Builtin.«re.Pattern.search» := entryFor_of_tree (by kernel_rfl)
theorem entry_re_sub : entryFor table "re.Pattern.sub" = some Builtin.«re.Pattern.sub» := entryFor_of_tree (by kernel_rfl)
theorem entry_re_subloop : entryFor table "re.Pattern.sub.loop" = some Builtin.«re.Pattern.sub.loop» := entryFor_of_tree (by kernel_rfl)
theorem plain_re_subloop : plainId "re.Pattern.sub.loop" = true := by decide +kernel
theorem args_re_search (a b : Value) : argsOk "re.Pattern.search" ⟨[a, b], []⟩ := by unfold argsOk; kernel_rfl
theorem args_re_sub (a b c : Value) : argsOk "re.Pattern.sub" ⟨[a, b, c], []⟩ := by unfold argsOk; kernel_rfl
end Ev
namespace Ev
open PySem PySem.W PyProof.Rows PySem.SeqAt
open PySem.Builtin.Re
noncomputable def codeName : Array Nat := #[14, 10, 4, 1, 1, 22, 0, 31, 16, 127, 0, 13, 7, 22, 0, 31, 16, 127, 0, 1]
noncomputable def codeValue : Array Nat := #[14, 14, 4, 1, 1, 9, 4294966783, 0, 0, 2147483648, 0, 0, 0, 0, 0, 13, 11, 9, 4294966783, 0, 0, 2147483648, 0, 0, 0, 0, 0, 1]
noncomputable def codeTwin : Array Nat := #[14, 14, 4, 1, 1, 9, 0, 64, 0, 1342177280, 0, 0, 0, 0, 0, 17, 0, 13, 11, 9, 0, 64, 0, 1342177280, 0, 0, 0, 0, 0, 17, 1, 1]
noncomputable def CodeOk (code : Array Nat) (ok : Nat → Bool) : Prop := ∀ c, ok c = true → ∀ seen, ∃ seen', Sre.inSet code c code.size 5 true seen = .ok (false, seen')
theorem codeName_ok : CodeOk codeName okSign := by
  intro c hc seen
  have h : (32 : Nat) ≤ c ∧ c < 127 := by simpa [okSign] using hc
  have e : Sre.inSet codeName c codeName.size 5 true seen = if (decide (0 ≤ c) && decide (c ≤ 31)) = true then .ok (true, seen.add 22) else if (c == 127) = true then .ok (true, (seen.add 22).add 16) else .ok (false, ((seen.add 22).add 16).add 0) := rfl
  rw [e, if_neg (by simp; omega), if_neg (by simp; omega)]
  exact ⟨_, rfl⟩
theorem charset_miss (ok : Nat → Bool) (w : Nat → Nat) (h : ((List.range 128).all fun c => !ok c || !(w (c / 32)).testBit (c % 32)) = true) (hl : ∀ c, ok c = true → c < 128) {c : Nat} (hc : ok c = true) : (w (c / 32)).testBit (c % 32) = false := by
  have := List.all_eq_true.mp h c (List.mem_range.mpr (hl c hc))
  rw [hc] at this
  simpa using this
theorem codeValue_ok : CodeOk codeValue okSign := by
  intro c hc seen
  have e : Sre.inSet codeValue c codeValue.size 5 true seen = if (decide (c < 256) && (codeValue.getD (5 + (1 + c / 32)) 0).testBit (c % 32)) = true then .ok (true, seen.add 9) else .ok (false, (seen.add 9).add 0) := rfl
  have m := charset_miss okSign (fun k => codeValue.getD (5 + (1 + k)) 0) (by decide +kernel) (fun c hc => by simp [okSign] at hc; omega) hc
  have m : (codeValue.getD (5 + (1 + c / 32)) 0).testBit (c % 32) = false := m
  rw [e, m, Bool.and_false, if_neg (by decide)]
  exact ⟨_, rfl⟩
theorem codeTwin_ok : CodeOk codeTwin noAmp := by
  intro c hc seen
  have e : Sre.inSet codeTwin c codeTwin.size 5 true seen = if (decide (c < 256) && (codeTwin.getD (5 + (1 + c / 32)) 0).testBit (c % 32)) = true then .ok (true, seen.add 9) else .ok (false, (seen.add 9).add 0) := rfl
  have m := charset_miss noAmp (fun k => codeTwin.getD (5 + (1 + k)) 0) (by decide +kernel) (fun c hc => by simp [noAmp] at hc; omega) hc
  have m : (codeTwin.getD (5 + (1 + c / 32)) 0).testBit (c % 32) = false := m
  rw [e, m, Bool.and_false, if_neg (by decide)]
  exact ⟨_, rfl⟩
theorem admitted_none {m : Sre.M} {ok : Nat → Bool} (hC : CodeOk m.code ok) (ht : ∀ i, i < m.lim → ok (m.text.getD i 0) = true) : ∀ (fuel s : Nat) (seen : Sre.Seen), ∃ seen', m.admitted fuel s seen = .ok (none, seen')
  | 0, _, seen => ⟨seen, rfl⟩
  | fuel + 1, s, seen => by
    rw [Sre.M.admitted]
    split
    · exact ⟨_, rfl⟩
    · rename_i h
      obtain ⟨seen', e⟩ := hC _ (ht s (by omega)) seen
      rw [e]
      exact admitted_none hC ht fuel (s + 1) seen'
noncomputable def Says (m : Sre.M) : Prop := m.answer = some false ∧ m.frames = [] ∧ m.outcome.isSome = false
theorem attempt_says {m : Sre.M} {ok : Nat → Bool} {s : Nat} {first : Bool} (hC : CodeOk m.code ok) (ht : ∀ i, i < m.lim → ok (m.text.getD i 0) = true) (h4 : m.hasFirstSet = true) (hf : m.frames = []) (ho : m.outcome.isSome = false) : Says (m.attemptFrom s first) := by
  unfold Sre.M.attemptFrom
  rw [h4]
  obtain ⟨seen', e⟩ := admitted_none hC ht (m.lim + 1 - s) s m.seen
  rw [if_neg (by decide), e]
  exact ⟨rfl, hf, ho⟩
theorem search_says {code : Array Nat} {ok : Nat → Bool} {text : Array Nat} {groups : Nat} (hC : CodeOk code ok) (h4 : ∀ (m : Sre.M), m.code = code → m.hasFirstSet = true) (ht : ∀ i, i < text.size → ok (text.getD i 0) = true) : Says (Sre.forSearch code text groups 0 text.size false) := by
  unfold Sre.forSearch
  dsimp only
  split
  · exact ⟨rfl, rfl, rfl⟩
  · exact attempt_says hC ht (h4 _ rfl) rfl rfl
theorem first_name : ∀ (m : Sre.M), m.code = codeName → m.hasFirstSet = true := fun m h => by unfold Sre.M.hasFirstSet; rw [h]; rfl
theorem first_value : ∀ (m : Sre.M), m.code = codeValue → m.hasFirstSet = true := fun m h => by unfold Sre.M.hasFirstSet; rw [h]; rfl
theorem first_twin : ∀ (m : Sre.M), m.code = codeTwin → m.hasFirstSet = true := fun m h => by unfold Sre.M.hasFirstSet; rw [h]; rfl
theorem says_step {m : Sre.M} (h : Says m) : m.runFor reTurnSteps = { m with outcome := some .failed } := by
  obtain ⟨h1, h2, h3⟩ := h
  have e1 : m.step = { m with outcome := some .failed } := by
    unfold Sre.M.step
    rw [h3, if_neg (by decide), h1, h2]
    rfl
  show Sre.M.runFor 4 m = _
  rw [Sre.M.runFor, h3, if_neg (by decide), e1]
  rfl
section
variable {prog : Program} {w : World} {A : Around} {E : Value → Shared → Prop} {s : Shared}
theorem wpAny_rules {l : List Nat} {f : Nat → Unit → Sem (ForInStep Unit)} {Q : Unit → Shared → Prop} (hf : ∀ i u (R : ForInStep Unit → Shared → Prop), R (.yield ()) s → wpAny (model prog w) A (f i u) R E s) (h : Q () s) : wpAny (model prog w) A (forIn l () f) Q E s := by
  induction l with
  | nil => rw [List.forIn_nil]; exact wpAny_pure h
  | cons a l ih =>
    rw [List.forIn_cons]
    exact wpAny_bind (hf a () _ ih)
theorem runToEnd_none {m : Sre.M} (h : Says m) {Q : Option Sre.M → Shared → Prop} (hq : Q none s) : wpAny (model prog w) A (reRunToEnd m) Q E s := by
  unfold reRunToEnd
  have e : reDrive (2 ^ 64) m = pure { m with outcome := some .failed } := by
    show reDrive (18446744073709551615 + 1) m = _
    rw [reDrive, says_step h]
    rfl
  rw [e]
  refine wpAny_bind (wpAny_pure ?_)
  refine wpAny_bind (wpAny_rules (fun i u R hr => ?_) ?_)
  · split
    · exact wpAny_bind (wpAny_rule (wpAny_pure hr))
    · exact wpAny_pure hr
  · exact wpAny_pure hq
noncomputable def PatAt (h : Heap) (P : Addr) (code : Array Nat) : Prop :=
  ∃ (o : Obj) (fs : Array Value) (T : Addr) (ot : Obj) (ws : Array Value) (n : Nat), h.get? P = some o ∧ o.cls = .type "re.Pattern" ∧ o.dict = none ∧ o.data = .fields fs ∧ fs.getD 5 .none = .ref T ∧ reRawNat (fs.getD 6 .none) = 0 ∧
    h.get? T = some ot ∧ ot.data = .seq ws n ∧ (ws.map reRawOf).map (·.toNat) = code
theorem PatAt.keeps {h h' : Heap} {P : Addr} {code : Array Nat} (x : PatAt h P code) (k : ∀ a o, h.get? a = some o → h'.get? a = some o) : PatAt h' P code := by
  obtain ⟨o, fs, T, ot, ws, n, h1, h2, h3, h4, h5, h6, h7, h8⟩ := x
  exact ⟨o, fs, T, ot, ws, n, k _ _ h1, h2, h3, h4, h5, h6, k _ _ h7, h8⟩
theorem wpAny_rawItems {T : Addr} {ot : Obj} {ws : Array Value} {n : Nat} {Q : Array Int → Shared → Prop} (h : s.heap.get? T = some ot) (hd : ot.data = .seq ws n) (hq : Q (ws.map reRawOf) s) : wpAny (model prog w) A (reRawItems (.ref T)) Q E s := by
  unfold reRawItems seqItems?
  refine wpAny_bind (wpAny_bind (wpAny_load h ?_))
  rw [hd]
  exact wpAny_pure (wpAny_pure hq)
theorem call_search {P : Addr} {code : Array Nat} {ok : Nat → Bool} {t : Array Nat} {tk : Tok} {Q : Value → Shared → Prop} (x : PatAt s.heap P code) (hC : CodeOk code ok) (h4 : ∀ (m : Sre.M), m.code = code → m.hasFirstSet = true) (ht : ∀ i, i < t.size → ok (t.getD i 0) = true)
    (hb : t.size < 2 ^ 62) (hq : Q .none s) : wpAny (model prog w) A (call (.builtin "re.Pattern.search") [.ref P, .str ⟨t⟩ tk]) Q E s := by
  obtain ⟨o, fs, T, ot, ws, n, h1, h2, h3, h4', h5, h6, h7, h8, h9⟩ := x
  refine call_meets slot_re_search ⟨_, h1, h2⟩ entry_re_search (args_re_search _ _) (S := fun _ R s' => s' = s ∧ R (.ok (.ret .none)) s') ?_ ⟨rfl, hq⟩
  intro prog w A R s' hs
  obtain ⟨rfl, hr⟩ := hs
  show wpAny _ _ (do let t ← reTarget "re.Pattern.search" "search" _; reAnswer t (Sre.forSearch t.code t.text t.groups t.pos t.lim false)) _ _ _
  have hn : reNamed "re.Pattern.search" "search" ["string", "pos", "endpos"] 1 [Value.str ⟨t⟩ tk] [] = pure [some (Value.str ⟨t⟩ tk), none, none] := by rfl
  unfold reTarget
  dsimp only
  rw [hn]
  refine wpAny_bind (wpAny_bind (wpAny_pure ?_))
  dsimp only
  refine wpAny_bind (wpAny_pure ?_)
  refine wpAny_bind (wpAny_pure ?_)
  refine wpAny_bind (wpAny_fieldsOf h1 h4' ?_)
  refine wpAny_bind (wpAny_bind (wpAny_pure ?_))
  refine wpAny_pure ?_
  dsimp only
  rw [h6, h5]
  rw [if_neg (by decide), if_neg (by decide)]
  refine wpAny_bind (wpAny_pure ?_)
  refine wpAny_bind (wpAny_rawItems h7 h8 ?_)
  refine wpAny_pure ?_
  dsimp only
  rw [h9]
  have e1 : min (Int.toNat 0) t.size = 0 := Nat.zero_min _
  have e2 : min (2 ^ 63 - 1 : Int).toNat t.size = t.size := by
    apply Nat.min_eq_right
    have : (2 ^ 63 - 1 : Int).toNat = 2 ^ 63 - 1 := by decide +kernel
    rw [this]
    omega
  rw [e1, e2]
  unfold reAnswer
  refine wpAny_bind (runToEnd_none (search_says hC h4 ht) ?_)
  exact wpAny_pure hr
theorem wpAny_whole {P : Addr} {code t : Array Nat} {tk : Tok} {Q : ReTarget → Shared → Prop} (x : PatAt s.heap P code) (hq : ∀ g, Q ⟨.ref P, .str ⟨t⟩ tk, code, t, 0, g, 0, t.size⟩ s) : wpAny (model prog w) A (reWholeTarget (.ref P) (.str ⟨t⟩ tk)) Q E s := by
  obtain ⟨o, fs, T, ot, ws, n, h1, h2, h3, h4', h5, h6, h7, h8, h9⟩ := x
  unfold reWholeTarget
  refine wpAny_bind (wpAny_fieldsOf h1 h4' ?_)
  refine wpAny_bind (wpAny_bind (wpAny_pure (wpAny_pure ?_)))
  dsimp only
  rw [h6, h5]
  rw [if_neg (by decide), if_neg (by decide)]
  refine wpAny_bind (wpAny_pure ?_)
  refine wpAny_bind (wpAny_rawItems h7 h8 (wpAny_pure ?_))
  rw [h9]
  exact hq _
theorem special_function : typeLookup (.type "function") "__call__" = pure (some (.builtin "function.__call__")) := by rw [typeLookup_type, builtinLookup_eq_fast]; kernel_rfl
theorem sub_str_bytearray : isSubtype (.type "str") (.type "bytearray") = pure false := by rw [isSubtype_type]; kernel_rfl
theorem all_getD {ok : Nat → Bool} {t : Tx} (h : t.all ok = true) : ∀ i, i < t.toArray.size → ok (t.toArray.getD i 0) = true := fun i hi => by
  have hi : i < t.length := by simpa using hi
  rw [show t.toArray.getD i 0 = t[i] by simp [Array.getD, hi]]
  exact List.all_eq_true.mp h _ (List.getElem_mem hi)
theorem slice_all {t : Tx} {Q : Value → Shared → Prop} (hb : t.length ≤ lim) (hq : ∀ tk, Q (.str ⟨t.toArray⟩ tk) { s with toks := s.toks + 1 }) : wpAny (model prog w) A (reSlice t.toArray 0 0 t.toArray.size) Q E s := by
  have e : reSlice t.toArray 0 0 t.toArray.size = mkStr ⟨t.toArray⟩ := by
    show mkStr ⟨t.toArray.extract 0 t.toArray.size⟩ = _
    rw [Array.extract_size]
  rw [e]
  exact wpAny_mkStr (hq _) (by rw [strOf_len]; exact lim_size hb)
theorem slice_none {t : Array Nat} {Q : Value → Shared → Prop} (hq : ∀ tk, Q (.str ⟨#[]⟩ tk) { s with toks := s.toks + 1 }) : wpAny (model prog w) A (reSlice t 0 0 0) Q E s := by
  have e : reSlice t 0 0 0 = mkStr ⟨#[]⟩ := by
    show mkStr ⟨t.extract 0 0⟩ = _
    rw [show t.extract 0 0 = #[] by simp]
  rw [e]
  exact wpAny_mkStr (hq _) (by decide)
theorem wpAny_seqItems {D : Addr} {o : Obj} {xs : Array Value} {n : Nat} {Q : Option (Array Value) → Shared → Prop} (h : s.heap.get? D = some o) (hd : o.data = .seq xs n) (hq : Q (some xs) s) : wpAny (model prog w) A (seqItems? (.ref D)) Q E s := by
  unfold seqItems?
  refine wpAny_bind (wpAny_load h ?_)
  rw [hd]
  exact wpAny_pure hq
theorem subloop_meets {P f D : Addr} {code : Array Nat} {ok : Nat → Bool} {t : Tx} {tk : Tok} (hC : CodeOk code ok) (h4 : ∀ (m : Sre.M), m.code = code → m.hasFirstSet = true) (ht : t.all ok = true) (hb : t.length ≤ lim) :
    Meets (Builtin.«re.Pattern.sub.loop» ⟨[.ref P, .str ⟨t.toArray⟩ tk, .ref f, rawInt 1, rawInt 0, rawInt 0, rawInt 0, rawInt 0, .bool false, .ref D, .bool false], []⟩)
      (fun A R s => PatAt s.heap P code ∧ IsL s.heap D #[] 0 ∧ ∀ h' tk' tk'', Heap.SameBut D s.heap h' → R (.ok (.ret (.str ⟨t.toArray⟩ tk'))) { s with heap := h', toks := tk'' }) := by
  intro prog w A R s hs
  obtain ⟨x, hl, hr⟩ := hs
  unfold Builtin.«re.Pattern.sub.loop»
  simp only [rawInt]
  refine wpAny_bind (wpAny_whole x fun g => ?_)
  rw [if_neg (by decide)]
  dsimp only
  rw [if_neg (by decide)]
  refine wpAny_bind (m := reNextFound _ _ _) (runToEnd_none (search_says hC h4 (all_getD ht)) ?_)
  dsimp only
  by_cases h0 : t = []
  · subst h0
    rw [if_neg (by decide)]
    refine wpAny_bind (m := reSlice _ _ _ _) (slice_none fun u => ?_)
    refine wpAny_bind (wpAny_seqItems hl rfl ?_)
    rw [if_pos (by rfl)]
    refine wpAny_bind (wpAny_pure ?_)
    rw [if_neg (by decide)]
    exact wpAny_pure (hr s.heap u _ (Heap.SameBut.refl D s.heap))
  · rw [if_pos (by simp; exact List.length_pos_iff.mpr h0)]
    refine wpAny_bind (m := reSlice _ _ _ _) (slice_all hb fun u => ?_)
    refine wpAny_bind (wpAny_updateSeq hl rfl ?_ (by decide) (by rw [Array.size_push]; decide))
    have l2 : IsL (s.heap.update D (Obj.mapSeq (·.push (.str ⟨t.toArray⟩ u)))) D #[.str ⟨t.toArray⟩ u] 1 := IsL.update hl (·.push (.str ⟨t.toArray⟩ u))
    refine wpAny_bind (m := reSlice _ _ _ _) (slice_none fun u' => ?_)
    refine wpAny_bind (wpAny_seqItems l2 rfl ?_)
    rw [if_neg (by simp)]
    have l3 : s.heap.update D (Obj.mapSeq (·.push (.str ⟨t.toArray⟩ u))) |>.IsList D (strValues [((⟨t.toArray⟩ : Str), u)]).toArray := l2.isList
    have l4 : [((⟨t.toArray⟩ : Str), u)].map (·.1) = [t].map fun x => (⟨x.toArray⟩ : Str) := rfl
    have l5 : JoinOk ⟨([] : Tx).toArray⟩ ([t].map fun x => (⟨x.toArray⟩ : Str)) = true := joinOk (sep := []) (xs := [t]) (Nat.zero_le _) (show t.length ≤ lim from hb)
    refine wpAny_bind (SC.join l3 l4 l5 fun tk' k => ?_)
    have e : Txt.join ⟨([] : Tx).toArray⟩ ([t].map fun x => (⟨x.toArray⟩ : Str)) = ⟨t.toArray⟩ := (StrLaws.glued_eq_join _ _).trans (strJoin [] [t])
    rw [if_neg (by decide)]
    have e' : Txt.join ⟨#[]⟩ ([t].map fun x => (⟨x.toArray⟩ : Str)) = ⟨t.toArray⟩ := e
    rw [e']
    exact wpAny_pure (hr _ tk' k (Heap.SameBut.update ..))
theorem call_sub {P f : Addr} {of : Obj} {code : Array Nat} {ok : Nat → Bool} {t : Tx} {tk : Tok} {Q : Value → Shared → Prop} (x : PatAt s.heap P code) (hC : CodeOk code ok) (h4 : ∀ (m : Sre.M), m.code = code → m.hasFirstSet = true) (ht : t.all ok = true)
    (hb : t.length ≤ lim) (hf : s.heap.get? f = some of) (hfc : of.cls = .type "function") (hq : ∀ h' tk' tk'', (∀ a o, s.heap.get? a = some o → h'.get? a = some o) → s.heap.objs.size ≤ h'.objs.size → Q (.str ⟨t.toArray⟩ tk') { s with heap := h', toks := tk'' }) :
    wpAny (model prog w) A (call (.builtin "re.Pattern.sub") [.ref P, .ref f, .str ⟨t.toArray⟩ tk]) Q E s := by
  have x' := x
  obtain ⟨o, fs, T, ot, ws, n, h1, h2, h3, h4', h5, h6, h7, h8, h9⟩ := x'
  refine call_meets slot_re_sub ⟨_, h1, h2⟩ entry_re_sub (args_re_sub _ _ _) (S := fun A R s' => s' = s ∧ ∀ h' tk' tk'', (∀ a o, s.heap.get? a = some o → h'.get? a = some o) → s.heap.objs.size ≤ h'.objs.size → R (.ok (.ret (.str ⟨t.toArray⟩ tk'))) { s with heap := h', toks := tk'' }) ?_ ⟨rfl, hq⟩
  clear hq
  intro prog w A R s' hs
  obtain ⟨rfl, hr⟩ := hs
  have hn : reNamed "re.Pattern.sub" "sub" ["repl", "string", "count"] 2 [.ref f, Value.str ⟨t.toArray⟩ tk] [] = pure [some (.ref f), some (Value.str ⟨t.toArray⟩ tk), none] := by rfl
  show wpAny _ _ (reSubstitute "re.Pattern.sub" "sub" false _) _ _ _
  unfold reSubstitute
  dsimp only
  rw [hn]
  refine wpAny_bind (wpAny_pure ?_)
  dsimp only
  refine wpAny_bind (wpAny_pure ?_)
  refine wpAny_bind (wpAny_specialOf ⟨_, hf, hfc⟩ special_function ?_)
  rw [if_pos (by rfl)]
  refine wpAny_bind (wpAny_pure ?_)
  rw [if_pos (by rfl)]
  refine wpAny_bind (wpAny_pure ?_)
  refine wpAny_bind (wpAny_holding (wpAny_whole x fun g => ?_))
  rw [if_pos (by rfl)]
  refine wpAny_bind (m := reNotHeld _ _) ?_
  · unfold reNotHeld
    refine wpAny_bind (wpAny_isInstance (typeIs_str _ _ _) sub_str_bytearray ?_)
    rw [if_neg (by decide)]
    refine wpAny_pure ?_
    refine wpAny_bind (wpAny_newList ?_)
    have hk : ∀ a o, s'.heap.get? a = some o → (s'.heap.push { cls := .type "list", data := .seq #[] }).get? a = some o := fun a o e => Heap.get?_push_of_some _ e
    refine wpAny_pure ⟨plainId_quiet plain_re_subloop _, codeAny_builtin entry_re_subloop ?_⟩
    rw [Around.under_plainId plain_re_subloop _]
    refine subloop_meets hC h4 ht hb prog w A R _ ⟨x.keeps hk, IsL.new _ _, fun h' tk' tk'' hs => hr h' tk' tk'' (fun a o e => ?_) ?_⟩
    · rw [hs.2 a (fun z => Nat.lt_irrefl _ (z ▸ Heap.lt_size e))]; exact hk a o e
    · show s'.heap.objs.size ≤ h'.objs.size
      rw [hs.1, Heap.size_push]; exact Nat.le_succ _
end
end Ev
namespace Ev
open PySem PySem.W PyProof.Rows PySem.SeqAt
section
variable {B : Base} {M0 : List (Tx × Nat)} {Wo : Wd} {A : Around} {n : Nat} {env : Env} {W : Addr → Prop} {ρ : List Addr} {cs cs' : Cells} {h h' : Heap} {s : Shared}
theorem Mem.table (m : Mem B W ρ cs h) {p : Addr × Addr} (hp : p ∈ B.tabs) {ps : Array Value} (hx : Heap.ExtBut p.2 h h') (hsz : h.objs.size ≤ h'.objs.size) (ht : h'.get? p.2 = some (tabObj ps)) (tr : TriplesOk ps.toList) (pre : ∃ more, ps = B.ps p.2 ++ more) : Mem B W ρ cs h' := by
  obtain ⟨_, wP, lP⟩ := m.tab p hp
  have nP : ∀ a, ¬ W a → a ≠ p.2 := fun a w e => w (e ▸ wP)
  have ρP : ∀ a ∈ ρ, a ≠ p.2 := fun a ha e => absurd lP (Nat.not_lt.mpr (e ▸ (m.own a ha).2))
  refine ⟨m.len, fun i o a e g => ?_, m.inj, m.own, fun a w => Nat.lt_of_lt_of_le (m.wlt a w) hsz, fun a o e => ?_, fun q hq => ?_, Nat.le_trans m.size hsz⟩
  · have c := m.cell i o a e g
    obtain ⟨ob, hob⟩ := c.getSome
    exact c.mono ((hx _ _ (ρP a (List.mem_of_getElem? g)) hob).trans hob.symm) (fun a o e w => hx _ _ (nP a w) e) (fun _ _ w => w) fun _ _ e => e
  · have z := m.base a o e
    exact ⟨hx _ _ (nP a z.2) z.1, z.2⟩
  · obtain ⟨⟨qs, c, t⟩, w, l⟩ := m.tab q hq
    by_cases e : q.2 = p.2
    · exact ⟨⟨ps, by rw [e]; exact ht, tr, by rw [e]; exact pre⟩, w, l⟩
    · exact ⟨⟨qs, hx _ _ e c, t⟩, w, l⟩
theorem Ok.table (o : Ok B W ρ cs s) {p : Addr × Addr} (hp : p ∈ B.tabs) {ps : Array Value} {tk : Nat} (hx : Heap.ExtBut p.2 s.heap h') (hsz : s.heap.objs.size ≤ h'.objs.size) (ht : h'.get? p.2 = some (tabObj ps)) (tr : TriplesOk ps.toList) (pre : ∃ more, ps = B.ps p.2 ++ more) :
    After B n Non W ρ cs s W ρ cs { s with heap := h', toks := tk } :=
  ⟨⟨o.mem.table hp hx hsz ht tr pre, o.gens⟩, ⟨fun a ob e _ t _ => hx _ _ (fun z => t (z ▸ List.mem_map_of_mem hp)) e, fun _ _ => Iff.rfl, fun _ _ e => e, fun _ z => .inl z, hsz⟩, rfl, LowTo.refl _ _⟩
theorem clOf_none {env : Env} : ∀ {names : List (Str × NameKind)} {acc : List (Str × Addr)}, (∀ p ∈ names, p.2 ≠ .free) → clOf env names acc = acc
  | [], _, _ => rfl
  | (x, k) :: r, acc, h => by
    have hk : (k == NameKind.free) = false := by
      have : k ≠ .free := h (x, k) List.mem_cons_self
      simpa using this
    unfold clOf
    rw [hk, if_neg (by decide)]
    exact clOf_none fun p hp => h p (List.mem_cons_of_mem _ hp)
theorem lam_hook (S : Stat B) {c P : Addr} (hp : (c, P) ∈ B.tabs) (C : CodeHd B.h₀ c P) (bm : ∃ bm ob, B.mg "__builtins__" = some (.ref bm) ∧ bm ≠ builtinsNs ∧ B.h₀.get? bm = some ob ∧ ob.cls = .type "module" ∧ ob.dict = some builtinsNs ∧ ob.data = .plain)
    (hge : env.globals = mainGlobals) (hcode : env.code = .ref c) : lamHook B A env := by
  intro args body sc pos n W ρ cs s Q E hl hf o hQ
  have hm := o.mem
  obtain ⟨⟨ps, hP, tr, pre⟩, wP, lP⟩ := hm.tab _ hp
  have hdef : defaultsOf args env = ([], []) := by
    obtain ⟨h1, h2⟩ := aT hl
    obtain ⟨_, _, _, _, kd, _, d⟩ := args
    obtain rfl : kd = [] := List.isEmpty_iff.mp h1
    obtain rfl : d = [] := List.isEmpty_iff.mp h2
    rfl
  have hcl : closureFor sc env = pure [] := by
    have hn : ∀ p ∈ sc.names, p.2 ≠ .free := fun p hp => by
      have := List.all_eq_true.mp hf p hp
      simpa using this
    rw [closureFor_eq fun p hp e => absurd e (hn p hp), clOf_none hn]
  have gG : s.heap.Ns mainGlobals B.mg := S.g.keeps o.kept
  have hgP : mainGlobals ≠ P := fun q => by
    obtain ⟨ob, es, ep, e, hd, _⟩ := S.g
    exact (hm.base _ _ e).2 (q ▸ wP)
  obtain ⟨bm, ob, b1, b2, b3, b4, b5, b6⟩ := bm
  have hbP : bm ≠ P := fun q => (hm.base _ _ b3).2 (q ▸ wP)
  have hbG : bm ≠ mainGlobals := fun q => by
    obtain ⟨o', es, ep, e, hd, _⟩ := S.g
    rw [q, e] at b3; cases b3; rw [hd] at b6; cases b6
  have hb : s.heap.BuiltinsAt B.mg P := ⟨bm, ob, b1, b2, hbG, hbP, o.kept _ _ b3, b4, b5, b6⟩
  refine kla_eval hdef ?_
  cases hf' : codeAmong pos ps.toList with
  | none =>
    refine kla_makeFunction (mg := B.mg) hcl hge gG hcode (C.keeps o.kept) hP tr hf' hgP hb fun c' ctv h' tk hx hge hlt hrec htb => ?_
    have a1 : After B n Non W ρ cs s W ρ cs { s with heap := h', toks := tk } := o.table hp hx (Nat.le_trans hge (Nat.le_of_lt hlt)) htb (by
        rw [Array.toList_append]; exact TriplesOk_snoc _ _ _ _ tr) (by
        obtain ⟨more, e⟩ := pre
        exact ⟨more ++ #[rawInt pos.line, rawInt pos.col, .ref c'], by rw [e, Array.append_assoc]⟩)
    have a2 := a1.trans (a1.ok.push (kla_obj "<lambda>" (env.qual ++ "<lambda>") args body sc [] ((B.mg "__name__").getD .none) c' ctv) (tk := tk))
    exact hQ _ W ρ _ a2 (.lam (Heap.get?_push_size _ rfl) (a1.ok.newNot (Nat.le_refl _)) rfl)
  | some cv =>
    refine kla_makeFunctionHit (mg := B.mg) hcl hge gG hcode (C.keeps o.kept) hP tr hf' hb fun ctv h' tk hk hsz => ?_
    have a1 : After B n Non W ρ cs s W ρ cs { s with heap := h', toks := tk } := o.grow hsz hk
    have a2 := a1.trans (a1.ok.push { cls := .type "function", data := .func (kla_fn "<lambda>" (env.qual ++ "<lambda>") args body sc [] ((B.mg "__name__").getD .none) cv ctv) } (tk := tk))
    exact hQ _ W ρ _ a2 (.lam (Heap.get?_push_size _ rfl) (a1.ok.newNot (Nat.le_refl _)) rfl)
theorem gen_hook (S : Stat B) {c P : Addr} (hp : (c, P) ∈ B.tabs) (C : CodeHd B.h₀ c P) (bm : ∃ bm ob, B.mg "__builtins__" = some (.ref bm) ∧ bm ≠ builtinsNs ∧ B.h₀.get? bm = some ob ∧ ob.cls = .type "module" ∧ ob.dict = some builtinsNs ∧ ob.data = .plain)
    (hge : env.globals = mainGlobals) (hcode : env.code = .ref c) : genHook B A env := by
  refine ⟨fun {pos q sc n W ρ cs s Q E} o hQ => ?_, fun {W ρ cs s Q E} o hQ => ?_⟩
  · obtain ⟨⟨ps, hP, tr, pre⟩, wP, lP⟩ := o.mem.tab _ hp
    have C' := C.keeps o.kept
    cases hf : codeAmong pos ps.toList with
    | none =>
      refine wpAny_genexprCodeX hcode (C'.code hP tr) (C'.tab hP) hf fun c' h' tk hx hge' hlt _ _ htb _ => ?_
      exact hQ _ h' tk (o.table hp hx (Nat.le_trans hge' (Nat.le_of_lt hlt)) htb.2 (by
        rw [Array.toList_append]; exact TriplesOk_snoc _ _ _ _ tr) (by
        obtain ⟨more, e⟩ := pre
        exact ⟨more ++ #[rawInt pos.line, rawInt pos.col, .ref c'], by rw [e, Array.append_assoc]⟩)) fun b ob ht hb => hx b ob (fun z => ht (z ▸ List.mem_map_of_mem hp)) hb
    | some cv =>
      obtain ⟨ob, vs, file, tf, flags, tg, inF, text, tt, op, ho, hd, h11, h2, h7, h9, h10, hop, hpd, htr, hne⟩ := C'.code hP tr
      unfold genexprCode codeAt
      rw [hcode, if_neg (show ¬ ((Value.ref c == Value.none) = true) from Bool.false_ne_true)]
      refine wpAny_bind (wpAny_fieldsOf ho hd ?_)
      rw [h11]
      refine wpAny_bind (wpAny_fieldsOf hop hpd ?_)
      rw [hf]
      exact wpAny_pure (hQ cv s.heap s.toks (After.refl o) fun _ _ _ e => e)
  · have gG : s.heap.Ns mainGlobals B.mg := S.g.keeps o.kept
    obtain ⟨bm, ob, b1, b2, b3, b4, b5, b6⟩ := bm
    rw [hge]
    exact wpAny_builtinsFor gG b1 b2 (o.kept _ _ b3) b4 b5 b6 hQ
end
end Ev
namespace Ev
open PySem PySem.W PyProof.Rows PySem.SeqAt
section
variable {B : Base}
theorem reM_of (p0 : PatAt B.h₀ (B.reA 0) codeName) (p1 : PatAt B.h₀ (B.reA 1) codeValue) (p2 : PatAt B.h₀ (B.reA 2) codeTwin) {A : Around} {nm : Str} {k : Nat} {cs : Cells} {xs : List AV} {z : AV} {cs' : Cells} {n : Nat}
    (hm : methOk cs (.re k) (mnOf nm) = true) (e : mcall n (.re k) (mnOf nm) xs cs = some (z, cs')) {s : Shared} {pl : Sem Bool} {R : Value × List Value → Shared → Prop} {E : Value → Shared → Prop} (K : Kept B s.heap)
    (hR : ∀ f, (∀ s', Kept B s'.heap → KeepOk (model B.prog B.w) A s' f) →
      (∀ {s' : Shared} {W' : Addr → Prop} {ρ : List Addr} {vs : List Value} {Q : Value → Shared → Prop} {E : Value → Shared → Prop}, Ok B W' ρ cs s' → n ≤ cs.length → VRels B s'.heap W' ρ xs vs → PostV B n W' ρ cs s' cs' z Q → wpAny (model B.prog B.w) A (PySem.call f (.ref (B.reA k) :: vs) []) Q E s') → R (f, [.ref (B.reA k)]) s) :
    wpAny (model B.prog B.w) A (getMethod (.ref (B.reA k)) nm pl) R E s := by
  have keep : ∀ {id : String}, ∀ s', Kept B s'.heap → KeepOk (model B.prog B.w) A s' (.builtin id) := fun s' _ => .plain fun a => by simp
  have e : reCall (mnOf nm) k xs cs = some (z, cs') := e
  cases hmn : mnOf nm with
  | search =>
    rw [hmn] at e
    obtain ⟨y, hy, e⟩ := bind_eq e
    obtain ⟨t, ht, e⟩ := bind_eq e
    obtain ⟨hk, e⟩ := if_eq e
    obtain ⟨rfl, rfl⟩ := pair_eq e
    obtain rfl := mnOf_name hmn (by decide)
    have pat : ∃ code, PatAt B.h₀ (B.reA k) code ∧ CodeOk code okSign ∧ ∀ (m : Sre.M), m.code = code → m.hasFirstSet = true := by
      match k, hk.1 with
      | 0, _ => exact ⟨_, p0, codeName_ok, first_name⟩
      | 1, _ => exact ⟨_, p1, codeValue_ok, first_value⟩
    obtain ⟨code, P, hC, h4⟩ := pat
    obtain ⟨o, fs, T, ot, ws, n', h1, h2, h3, h4', _⟩ := P.keeps K
    refine getMethod_builtin ⟨_, h1, h2⟩ plainAttrs_re slot_re_search type_re_search (fun a e => by cases e; exact ⟨_, h1, h3⟩) (hR _ keep fun o hn r hQ => ?_)
    obtain ⟨v, rfl, q⟩ := r.ofOne hy
    obtain ⟨tk, rfl, b⟩ := q.ofStr ht
    exact call_search (P.keeps o.kept) hC h4 (all_getD hk.2) (by rw [List.size_toArray]; exact Nat.lt_of_le_of_lt b (by decide)) (hQ _ _ _ _ (After.refl o) .none)
  | sub =>
    rw [hmn] at e
    obtain ⟨y, hy, e⟩ := bind_eq e
    obtain ⟨hl, e⟩ := if_eq e
    obtain ⟨t, ht, e⟩ := bind_eq e
    obtain ⟨⟨h2, hs⟩, e⟩ := if_eq e
    obtain ⟨rfl, rfl⟩ := pair_eq e
    subst h2
    obtain rfl := mnOf_name hmn (by decide)
    obtain ⟨o, fs, T, ot, ws, n', h1, h2, h3, h4', _⟩ := p2.keeps K
    refine getMethod_builtin ⟨_, h1, h2⟩ plainAttrs_re slot_re_sub type_re_sub (fun a e => by cases e; exact ⟨_, h1, h3⟩) (hR _ keep fun o hn r hQ => ?_)
    obtain ⟨v, u, rfl, q, q2⟩ := r.ofTwo hy
    rw [lam?_eq hl] at q
    obtain ⟨f, ob, rfl, g, w, c⟩ := q.inv
    obtain ⟨tk, rfl, b⟩ := q2.ofStr ht
    exact call_sub (p2.keeps o.kept) codeTwin_ok first_twin hs b g c fun h' tk' tk'' hk hs => hQ _ _ _ _ (o.grow hs hk) (.str _ _ b)
  | _ => rw [hmn] at e; exact nN e
end
end Ev
namespace Ev
open PySem PySem.W PyProof.Rows PySem.SeqAt
theorem lookup_filter {P a : Addr} (ha : a ≠ P) : ∀ K : Frag, (K.filter fun p => p.1 != P).lookup a = K.lookup a
  | [] => rfl
  | (b, o) :: r => by
    rw [List.filter_cons]
    by_cases hb : b = P
    · rw [if_neg (by simpa using hb), lookup_filter ha r, List.lookup_cons]
      have : (a == b) = false := by
        apply beq_false_of_ne
        exact fun e => ha (e.trans hb)
      rw [this]
    · rw [if_pos (by simpa using hb), List.lookup_cons, List.lookup_cons, lookup_filter ha r]
theorem lookup_filter_self {P : Addr} : ∀ K : Frag, (K.filter fun p => p.1 != P).lookup P = none
  | [] => rfl
  | (b, o) :: r => by
    rw [List.filter_cons]
    by_cases hb : b = P
    · rw [if_neg (by simpa using hb)]; exact lookup_filter_self r
    · rw [if_pos (by simpa using hb), List.lookup_cons]
      have : (P == b) = false := by
        apply beq_false_of_ne
        exact fun e => hb e.symm
      rw [this]; exact lookup_filter_self r
structure Lay where
  fns : List Addr
  cls : Addr
  res : List Addr
  code : Addr
  tab : Addr
noncomputable def Lay.fn (Y : Lay) (k : Nat) : Addr := (Y.fns[k]?).getD (Y.fns.headD 0)
noncomputable def Lay.K (Y : Lay) (K : Frag) : Frag := K.filter fun p => p.1 != Y.tab
noncomputable def baseOf (prog : Program) (w : World) (h : Heap) (K : Frag) (Y : Lay) (mg mb : Str → Option Value) : Base :=
  { prog, w, h₀ := h.hide Y.tab, tabs := [(Y.code, Y.tab)], ps := fun _ => #[], fnA := Y.fn, clsA := Y.cls, reA := fun k => (Y.res[k]?).getD 0, mg, mb, K := Y.K K }
noncomputable def datFd : Data → Option FuncData
  | .func fd => some fd
  | _ => none
theorem datFd_eq {d : Data} {fd : FuncData} (h : datFd d = some fd) : d = .func fd := by cases d <;> first | exact nN h | exact congrArg _ (sJ h)
noncomputable def vecOf : Data → Option (Array Value)
  | .fields vs => some vs
  | _ => none
theorem vecOf_eq {d : Data} {vs : Array Value} (h : vecOf d = some vs) : d = .fields vs := by cases d <;> first | exact nN h | exact congrArg _ (sJ h)
noncomputable def vRef : Value → Option Addr
  | .ref a => some a
  | _ => none
theorem vRef_eq {v : Value} {a : Addr} (h : vRef v = some a) : v = .ref a := by cases v <;> first | exact nN h | exact congrArg _ (sJ h)
noncomputable def vStr : Value → Option Str
  | .str x _ => some x
  | _ => none
theorem vStr_eq {v : Value} {x : Str} (h : vStr v = some x) : ∃ t, v = .str x t := by cases v <;> first | exact nN h | exact ⟨_, congrArg (Value.str · _) (sJ h)⟩
noncomputable def fdIn (K : Frag) (a : Addr) : Option FuncData := (K.lookup a).bind fun o => datFd o.data
theorem fdIn_get {K : Frag} {h : Heap} (X : K.In h) {a : Addr} {fd : FuncData} (e : fdIn K a = some fd) : ∃ o, h.get? a = some o ∧ o.data = .func fd := by
  obtain ⟨o, q, e⟩ := bind_eq e
  exact ⟨o, X _ _ q, datFd_eq e⟩
noncomputable def parsOf (p : Arguments) : List Str := p.args.map (·.arg) ++ p.kwonlyargs.map (·.arg) ++ (p.kwarg.map (·.arg)).toList
noncomputable def coreIn (K : Frag) (T : Tops) (k : Nat) (a : Addr) : Option Fn := (fdIn K a).bind fun fd => match fd.body with
  | .stmts b => some { np := fd.params.args.length, dfl := fd.params.defaults.map fun _ => AV.none, ko := !fd.params.kwonlyargs.isEmpty, kd := fd.params.kwarg.isSome, slots := (ownNames fd.scope).length, body := trSs (tr 60) 60 (T.cx k fd.scope) b }
  | .expr _ => none
noncomputable def coreAll (K : Frag) (T : Tops) : Nat → List Addr → List (Option Fn)
  | _, [] => []
  | k, a :: r => coreIn K T k a :: coreAll K T (k + 1) r
theorem coreAll_get {K : Frag} {T : Tops} {F : Fn} : ∀ {k n : Nat} {as : List Addr} {fs : List Fn}, coreAll K T n as = fs.map some → fs[k]? = some F → ∃ a, as[k]? = some a ∧ coreIn K T (n + k) a = some F
  | _, _, [], [], _, e => by simp at e
  | _, _, [], _ :: _, h, _ => by simp [coreAll] at h
  | _, _, _ :: _, [], h, _ => by simp [coreAll] at h
  | 0, n, a :: as, f :: fs, h, e => by
    simp only [coreAll, List.map_cons, List.cons.injEq] at h
    simp at e; subst e
    exact ⟨a, rfl, h.1⟩
  | k + 1, n, a :: as, f :: fs, h, e => by
    simp only [coreAll, List.map_cons, List.cons.injEq] at h
    obtain ⟨b, h1, h2⟩ := coreAll_get (k := k) h.2 (by simpa using e)
    exact ⟨b, by simpa using h1, by rw [show n + (k + 1) = n + 1 + k by omega]; exact h2⟩
noncomputable def codeRecIn (K : Frag) (cd : Value) (q : Str) : Bool := decide (((vRef cd).bind fun c => (K.lookup c).bind fun o => (vecOf o.data).bind fun vs => (vs[1]?).bind vStr) = some q)
theorem codeRecIn_of {K : Frag} {h : Heap} (X : K.In h) {cd : Value} {q : Str} (e : codeRecIn K cd q = true) : h.CodeRec cd q := by
  obtain ⟨c, hc, e⟩ := bind_eq (of_decide_eq_true e)
  obtain ⟨o, ho, e⟩ := bind_eq e
  obtain ⟨vs, hv, e⟩ := bind_eq e
  obtain ⟨v, h1, e⟩ := bind_eq e
  obtain ⟨t, rfl⟩ := vStr_eq e
  exact ⟨_, _, _, _, vRef_eq hc, X _ _ ho, vecOf_eq hv, h1⟩
noncomputable def isRef (v : Value) (a : Addr) : Bool := decide (vRef v = some a)
theorem isRef_eq {v : Value} {a : Addr} (h : isRef v a = true) : v = .ref a := vRef_eq (of_decide_eq_true h)
noncomputable def defIn (K : Frag) (lams : List Nat) (code : Addr) (k : Nat) (fd : FuncData) : Bool :=
  fd.scope.kind == .function && (!fd.scope.isCoroutine && (!fd.scope.isGenerator && (fd.closure.isEmpty && (fd.globals == mainGlobals && (fd.builtins == builtinsNs && (decide ((fd.scope.names.map (·.1)).Nodup) &&
    (fd.scope.names.all (fun p => p.2 != .free) && (decide (((ownP fd.scope).map (·.1)).take (parsOf fd.params).length = parsOf fd.params) && (codeRecIn K fd.code fd.qualname && (!lams.contains k || isRef fd.code code))))))))))
noncomputable def defsIn (K : Frag) (lams : List Nat) (code : Addr) : Nat → List Addr → Bool
  | _, [] => true
  | k, a :: r => (fdIn K a).any (defIn K lams code k) && defsIn K lams code (k + 1) r
theorem defsIn_get {K : Frag} {lams : List Nat} {code : Addr} : ∀ {k n : Nat} {as : List Addr} {a : Addr}, defsIn K lams code n as = true → as[k]? = some a → (fdIn K a).any (defIn K lams code (n + k)) = true
  | _, _, [], _, _, e => by simp at e
  | 0, n, a :: as, b, h, e => by
    simp only [defsIn, Bool.and_eq_true] at h
    simp at e; subst e; exact h.1
  | k + 1, n, a :: as, b, h, e => by
    simp only [defsIn, Bool.and_eq_true] at h
    have := defsIn_get (k := k) h.2 (by simpa using e)
    rw [show n + (k + 1) = n + 1 + k by omega]; exact this
noncomputable def fdD (K : Frag) (a : Addr) : FuncData := (fdIn K a).getD default
noncomputable def BindP (K : Frag) (S : Setting) (fd : FuncData) (np d : Nat) : Prop := ∀ vs : List Value, vs.length ≤ np → np ≤ vs.length + d → peek K S (bindArgs fd ⟨vs, []⟩) = some ((parsOf fd.params).zip (vs ++ List.replicate (np - vs.length) Value.none))
noncomputable def BindN (K : Frag) (S : Setting) (fd : FuncData) (np : Nat) : Prop := ∀ (vs : List Value) (v : Value), vs.length = np → peek K S (bindArgs fd ⟨vs, [("name", v)]⟩) = some ((parsOf fd.params).zip (vs ++ [v]))
noncomputable def BindD (fd : FuncData) (np : Nat) : Prop := ∀ vs : List Value, vs.length = np → bindArgs fd ⟨vs, []⟩ = (do let d ← alloc { cls := .type "dict", data := .dict #[] }; pure ((parsOf fd.params).zip (vs ++ [.ref d])))
noncomputable def BindK (K : Frag) (S : Setting) (fd : FuncData) (F : Fn) : Prop := match F.ko, F.kd with
  | false, false => BindP K S fd F.np F.dfl.length
  | true, false => BindN K S fd F.np
  | false, true => BindD fd F.np
  | true, true => False
noncomputable def BindsK (K : Frag) (S : Setting) : List FuncData → List Fn → Prop
  | [], _ => True
  | _, [] => True
  | a :: as, F :: fs => BindK K S a F ∧ BindsK K S as fs
theorem BindsK.get {K : Frag} {S : Setting} {a : FuncData} {F : Fn} : ∀ {k : Nat} {as : List FuncData} {fs : List Fn}, BindsK K S as fs → as[k]? = some a → fs[k]? = some F → BindK K S a F
  | _, [], _, _, e, _ => by simp at e
  | _, _ :: _, [], _, _, e => by simp at e
  | 0, a :: as, f :: fs, h, e1, e2 => by
    simp at e1 e2; subst e1 e2; exact h.1
  | k + 1, a :: as, f :: fs, h, e1, e2 => BindsK.get (k := k) h.2 (by simpa using e1) (by simpa using e2)
noncomputable abbrev Shape := Arguments × Value × Value
noncomputable def shp (fd : FuncData) : Shape := (fd.params, fd.defaults, fd.kwdefaults)
theorem shp_eq {fd : FuncData} {p : Arguments} {d k : Value} (e : shp fd = (p, d, k)) : fd = { fd with params := p, defaults := d, kwdefaults := k } := by
  cases e; rfl
noncomputable def BindS (K : Frag) (S : Setting) (x : Shape) (F : Fn) : Prop := ∀ fd : FuncData, BindK K S { fd with params := x.1, defaults := x.2.1, kwdefaults := x.2.2 } F
noncomputable def BindsS (K : Frag) (S : Setting) : List Shape → List Fn → Prop
  | [], _ => True
  | _, [] => True
  | a :: as, F :: fs => BindS K S a F ∧ BindsS K S as fs
theorem BindsS.toK {K : Frag} {S : Setting} : ∀ {xs : List Shape} {fds : List FuncData} {fs : List Fn}, BindsS K S xs fs → fds.map shp = xs → BindsK K S fds fs
  | _, [], _, _, _ => trivial
  | _, _ :: _, [], _, _ => trivial
  | [], _ :: _, _ :: _, _, e => by cases e
  | x :: xs, fd :: fds, F :: fs, h, e => by
    have e' := List.cons.inj (show shp fd :: fds.map shp = x :: xs from e)
    refine ⟨?_, h.2.toK e'.2⟩
    rw [shp_eq e'.1]; exact h.1 fd
theorem nones_rel {B : Base} {h : Heap} {W : Addr → Prop} {ρ : List Addr} : ∀ n : Nat, VRels B h W ρ (List.replicate n AV.none) (List.replicate n Value.none)
  | 0 => .nil
  | n + 1 => .cons .none (nones_rel n)
theorem drop_rep {α : Type} (x : α) (m n : Nat) : (List.replicate m x).drop (m - n) = List.replicate (m - (m - n)) x := by rw [List.drop_replicate]
theorem bindOk_of {B : Base} {K : Frag} {a : Addr} {F : Fn} {fd : FuncData} {T : Tops} {k : Nat} (hf : fdIn K a = some fd) (hc : coreIn K T k a = some F) {K2 : Frag} (X2 : ∀ h, Kept B h → K2.In h) (hb : BindK K2 ⟨B.prog, B.w.params⟩ fd F) (h1 : F.ko = true → fd.params.kwonlyargs.length = 1 ∧ fd.params.kwarg = none ∧ F.dfl = [])
    (h2 : F.kd = true → fd.params.kwonlyargs = [] ∧ fd.params.defaults = []) (h3 : fd.params.kwonlyargs.isEmpty = true ∨ F.ko = true) : BindOk B F fd (parsOf fd.params) := by
  unfold coreIn at hc
  rw [hf] at hc
  simp only [Option.bind_some] at hc
  split at hc
  · rename_i body _
    have hF := sJ hc
    clear hc
    have hnp : F.np = fd.params.args.length := by rw [← hF]
    have hdf : F.dfl = List.replicate fd.params.defaults.length AV.none := by rw [← hF]; exact List.map_const' ..
    have hko : F.ko = !fd.params.kwonlyargs.isEmpty := by rw [← hF]
    have hkd : F.kd = fd.params.kwarg.isSome := by rw [← hF]
    have hlen : F.dfl.length = fd.params.defaults.length := by rw [hdf, List.length_replicate]
    have plen : (parsOf fd.params).length = F.np + fd.params.kwonlyargs.length + (if F.kd then 1 else 0) := by
      unfold parsOf
      rw [List.length_append, List.length_append, List.length_map, List.length_map, hnp, hkd]
      cases fd.params.kwarg <;> rfl
    unfold BindK at hb
    split at hb
    · rename_i e1 e2
      have hk0 : fd.params.kwonlyargs = [] := by
        rw [e1] at hko
        simpa using hko
      refine @bindOk_plain B F fd (parsOf fd.params) e1 e2 (List.replicate fd.params.defaults.length Value.none) (fun h W ρ => by rw [hdf]; exact nones_rel _) (by rw [plen, hk0, e2]; simp) fun vs s l1 l2 kp A E Q hq => ?_
      have hb := hb vs l1 l2
      have hz : vs ++ List.replicate (F.np - vs.length) Value.none = vs ++ (List.replicate fd.params.defaults.length Value.none).drop ((List.replicate fd.params.defaults.length Value.none).length - (F.np - vs.length)) := by
        rw [List.length_replicate, List.drop_replicate]
        congr 2
        rw [hlen] at l2
        exact (Nat.sub_sub_self (Nat.sub_le_iff_le_add'.mpr l2)).symm
      rw [← hz] at hq
      exact (Looks.of_peek (M := model B.prog B.w) (X2 _ kp) hb).here hq
    · rename_i e1 e2
      obtain ⟨g1, g2, g3⟩ := h1 e1
      refine @bindOk_kw B F fd (parsOf fd.params) e1 e2 g3 (by rw [plen, g1, e2]; simp) fun vs v s l kp A E Q hq => ?_
      have hb := hb vs v l
      exact (Looks.of_peek (M := model B.prog B.w) (X2 _ kp) hb).here hq
    · rename_i e1 e2
      obtain ⟨g1, g2⟩ := h2 e2
      refine @bindOk_kd B F fd (parsOf fd.params) e1 e2 (by rw [hdf, g2]; rfl) (by rw [plen, g1, e2]; simp) fun vs l => ?_
      have hb := hb vs l
      exact hb
    · exact hb.elim
  · exact nN hc
end Ev
namespace Ev
open PySem PySem.W PyProof.Rows PySem.SeqAt
noncomputable def wsOf : Data → Option (Array Value)
  | .seq ws _ => some ws
  | _ => none
theorem wsOf_eq {d : Data} {ws : Array Value} (h : wsOf d = some ws) : ∃ n, d = .seq ws n := by cases d <;> first | exact nN h | exact ⟨_, congrArg (Data.seq · _) (sJ h)⟩
noncomputable def isTy (o : Obj) (n : String) : Bool := decide (o.cls = .type n)
noncomputable def patIn (K : Frag) (P : Addr) (code : Array Nat) : Bool := decide (((K.lookup P).bind fun o => (vecOf o.data).bind fun fs => (vRef (fs.getD 5 .none)).bind fun T => (K.lookup T).bind fun p => (wsOf p.data).map fun ws =>
  isTy o "re.Pattern" && (o.dict.isNone && (decide (Builtin.Re.reRawNat (fs.getD 6 .none) = 0) && decide ((ws.map Builtin.Re.reRawOf).map (·.toNat) = code)))) = some true)
theorem patIn_of {K : Frag} {h : Heap} (X : K.In h) {P : Addr} {code : Array Nat} (e : patIn K P code = true) : PatAt h P code := by
  obtain ⟨o, ho, e⟩ := bind_eq (of_decide_eq_true e)
  obtain ⟨fs, hf, e⟩ := bind_eq e
  obtain ⟨T, hT, e⟩ := bind_eq e
  obtain ⟨p, hp, e⟩ := bind_eq e
  obtain ⟨ws, hw, e⟩ := map_eq e
  obtain ⟨h1, e⟩ := aT e
  obtain ⟨h2, e⟩ := aT e
  obtain ⟨h3, h4⟩ := aT e
  obtain ⟨n, hn⟩ := wsOf_eq hw
  exact ⟨o, fs, T, p, ws, n, X _ _ ho, of_decide_eq_true h1, Option.isNone_iff_eq_none.mp h2, vecOf_eq hf, vRef_eq hT, of_decide_eq_true h3, X _ _ hp, hn, of_decide_eq_true h4⟩
noncomputable def vInt : Value → Option (Int × Tok)
  | .int i t => some (i, t)
  | _ => none
theorem vInt_eq {v : Value} {p : Int × Tok} (h : vInt v = some p) : v = .int p.1 p.2 := by cases v <;> first | exact nN h | (obtain rfl := sJ h; rfl)
noncomputable def vBool : Value → Option Bool
  | .bool b => some b
  | _ => none
theorem vBool_eq {v : Value} {b : Bool} (h : vBool v = some b) : v = .bool b := by cases v <;> first | exact nN h | exact congrArg _ (sJ h)
noncomputable def codeIn (K : Frag) (c P : Addr) : Bool := decide (((K.lookup c).bind fun o => (vecOf o.data).bind fun vs => (vs[11]?).bind fun v => (vStr (vs.getD 18 .none)).bind fun _ => (vInt (vs.getD 7 .none)).bind fun _ => (vBool (vs.getD 9 .none)).bind fun _ => (vInt (vs.getD 10 .none)).map fun _ =>
  isTy o "code" && (decide (c ≠ P) && isRef v P)) = some true)
theorem codeIn_of {K : Frag} {h : Heap} (X : K.In h) {c P : Addr} (e : codeIn K c P = true) : CodeHd h c P ∧ isCodeTable h P := by
  obtain ⟨o, ho, e⟩ := bind_eq (of_decide_eq_true e)
  obtain ⟨vs, hv, e⟩ := bind_eq e
  obtain ⟨v, h11, e⟩ := bind_eq e
  obtain ⟨f, e18, e⟩ := bind_eq e
  obtain ⟨i, e7, e⟩ := bind_eq e
  obtain ⟨b, e9, e⟩ := bind_eq e
  obtain ⟨j, e10, e⟩ := map_eq e
  obtain ⟨h1, e⟩ := aT e
  obtain ⟨h2, h3⟩ := aT e
  obtain rfl := isRef_eq h3
  obtain ⟨t, e18⟩ := vStr_eq e18
  have e11 : vs.getD 11 .none = .ref P := by
    rw [Array.getD_eq_getD_getElem?, h11]; rfl
  exact ⟨⟨o, vs, f, t, i.1, i.2, b, j.1, j.2, X _ _ ho, of_decide_eq_true h1, vecOf_eq hv, h11, e11, e18, vInt_eq e7, vBool_eq e9, vInt_eq e10, of_decide_eq_true h2⟩, ⟨c, o, vs, X _ _ ho, of_decide_eq_true h1, vecOf_eq hv, h11⟩⟩
noncomputable def tabIn (K : Frag) (P : Addr) : Bool := (K.lookup P).any fun o => decide (o.cls = .none) && (o.dict.isNone && ((vecOf o.data).any (·.isEmpty) && o.slots.isEmpty))
theorem tabIn_of {K : Frag} {h : Heap} (X : K.In h) {P : Addr} (e : tabIn K P = true) : h.get? P = some (tabObj #[]) := by
  obtain ⟨o, ho, e⟩ := any_some e
  obtain ⟨h1, e⟩ := aT e
  obtain ⟨h2, e⟩ := aT e
  obtain ⟨h3, h4⟩ := aT e
  obtain ⟨fs, hf, h3⟩ := any_some h3
  have hx := X _ _ ho
  obtain ⟨cl, di, da, sl⟩ := o
  obtain rfl : cl = .none := of_decide_eq_true h1
  obtain rfl : di = none := Option.isNone_iff_eq_none.mp h2
  obtain rfl : da = .fields fs := vecOf_eq hf
  obtain rfl : fs = #[] := Array.isEmpty_iff.mp h3
  obtain rfl : sl = #[] := Array.isEmpty_iff.mp h4
  exact hx
noncomputable def globIn (K : Frag) (t : Tx) : Option Value := match nsIn K mainGlobals ⟨t.toArray⟩ with
  | some (some v) => some v
  | some none => if (⟨t.toArray⟩ : Str) = "__name__" then none else bootBuiltins ⟨t.toArray⟩
  | none => none
noncomputable def globV (Y : Lay) : AV → Option Value
  | .fn n => some (.ref (Y.fn n))
  | .cls => some (.ref Y.cls)
  | .re n => some (.ref ((Y.res[n]?).getD 0))
  | .bi b => some (.builtin (bfS b))
  | .ty t => some (.type (tyS t))
  | _ => none
theorem globV_rel {prog : Program} {w : World} {h' : Heap} {K : Frag} {Y : Lay} {mg mb : Str → Option Value} {x : AV} {v : Value} (e : globV Y x = some v) (h : Heap) (W : Addr → Prop) (ρ : List Addr) : VRel (baseOf prog w h' K Y mg mb) h W ρ x v := by
  cases x <;> first
    | (cases e; first | exact .fn _ | exact .cls | exact .re _ | exact .bi _ | exact .ty _)
    | (exact nN e)
theorem ns_hide {h : Heap} {P a : Addr} {m : Str → Option Value} (n : h.Ns a m) (hP : h.get? P = some (tabObj #[])) : (h.hide P).Ns a m := by
  obtain ⟨o, es, ep, e, hd, r⟩ := n
  have : a ≠ P := fun q => by rw [q, hP] at e; cases e; cases hd
  exact ⟨o, es, ep, (Heap.hide_ne h this).trans e, hd, r⟩
section
variable {prog : Program} {w : World} {h : Heap} {K : Frag} {Y : Lay} {mg mb : Str → Option Value} {P : Prog} {T : Tops}
structure Checks (K K2 : Frag) (S : Setting) (Y : Lay) (P : Prog) (T : Tops) : Prop where
  tab : tabIn K Y.tab = true
  code : codeIn K Y.code Y.tab = true
  core : coreAll (Y.K K) T 0 Y.fns = P.fs.map some
  defs : defsIn (Y.K K) T.lams Y.code 0 Y.fns = true
  binds : BindsK K2 S (Y.fns.map (fdD (Y.K K))) P.fs
  sub : ∀ a o, K2.lookup a = Option.some o → (Y.K K).lookup a = Option.some o
  kws : (P.fs.zip Y.fns).all (fun p => (!p.1.ko || ((fdD (Y.K K) p.2).params.kwonlyargs.length == 1 && ((fdD (Y.K K) p.2).params.kwarg.isNone && p.1.dfl.isEmpty))) && (!p.1.kd || ((fdD (Y.K K) p.2).params.kwonlyargs.isEmpty && (fdD (Y.K K) p.2).params.defaults.isEmpty))) = true
  globs : T.globs.map (fun p => globIn K p.1) = T.globs.map (fun p => globV Y p.2)
  some : (T.globs.all fun p => (globV Y p.2).isSome) = true
  re0 : patIn (Y.K K) ((Y.res[0]?).getD 0) codeName = true
  re1 : patIn (Y.K K) ((Y.res[1]?).getD 0) codeValue = true
  re2 : patIn (Y.K K) ((Y.res[2]?).getD 0) codeTwin = true
  pos : 0 < Y.fns.length
theorem progOk_of (X : K.In h) {K2 : Frag} (C : Checks K K2 ⟨prog, w.params⟩ Y P T) (G : h.Ns mainGlobals mg) (Gb : h.Ns builtinsNs mb) (lim : h.NoLimit) (hmb : ∀ x : Str, x ≠ "__name__" → mb x = bootBuiltins x) (hsz : sysModules < h.objs.size)
    (bm : ∃ bm ob, mg "__builtins__" = Option.some (.ref bm) ∧ bm ≠ builtinsNs ∧ h.get? bm = Option.some ob ∧ ob.cls = .type "module" ∧ ob.dict = Option.some builtinsNs ∧ ob.data = .plain)
    (cls : ClsOk (baseOf prog w h K Y mg mb) P T.meths) : ProgOk (baseOf prog w h K Y mg mb) P T := by
  have hP := tabIn_of X C.tab
  have XK : (Y.K K).In (h.hide Y.tab) := fun a o e => by
    by_cases ha : a = Y.tab
    · subst ha; unfold Lay.K at e; rw [lookup_filter_self] at e; exact nN e
    · unfold Lay.K at e; rw [lookup_filter ha] at e
      rw [Heap.hide_ne h ha]; exact X _ _ e
  have S : Stat (baseOf prog w h K Y mg mb) := by
    obtain ⟨mc, l1, l2⟩ := lim
    exact ⟨by show sysModules < (h.hide Y.tab).objs.size; rw [Heap.hide_size]; exact hsz, ns_hide G hP, ns_hide Gb hP, ⟨mc, ns_hide l1 hP, l2⟩, XK⟩
  have kept : ∀ h', Kept (baseOf prog w h K Y mg mb) h' → (Y.K K).In h' := fun h' k => Frag.In.keeps XK k
  obtain ⟨cd, tb⟩ := codeIn_of X C.code
  have cd' : CodeHd (h.hide Y.tab) Y.code Y.tab := by
    obtain ⟨o, vs, f, tf, i, ti, b, j, tj, e, r⟩ := cd
    have hne : Y.code ≠ Y.tab := r.2.2.2.2.2.2.2.2
    exact ⟨o, vs, f, tf, i, ti, b, j, tj, (Heap.hide_ne h hne).trans e, r⟩
  have fnAt : ∀ {k : Nat} {F : Fn}, P.fs[k]? = Option.some F → ∃ fd, fdIn (Y.K K) (Y.fn k) = Option.some fd ∧ coreIn (Y.K K) T k (Y.fn k) = Option.some F ∧ defIn (Y.K K) T.lams Y.code k fd = true ∧ Y.fns[k]? = Option.some (Y.fn k) := by
    intro k F hF
    obtain ⟨a, ha, hc⟩ := coreAll_get C.core hF
    rw [Nat.zero_add] at hc
    have e : Y.fn k = a := by unfold Lay.fn; rw [ha]; rfl
    have hd := defsIn_get C.defs ha
    rw [Nat.zero_add] at hd
    rw [e]
    cases hf : fdIn (Y.K K) a with
    | none => rw [hf] at hd; exact fB hd
    | some fd => rw [hf] at hd; exact ⟨fd, rfl, hc, hd, ha⟩
  refine { S := S, C := cls, defs := fun {k F} hF => ?_, glob := fun p hp => ?_, fnObj := fun k => ?_, reM := fun h1 h2 => ?_ }
  · obtain ⟨fd, hf, hc, hd, hk⟩ := fnAt hF
    have hbk := C.binds.get (by rw [List.getElem?_map, hk]; rfl) hF
    have hkw := List.all_eq_true.mp C.kws (F, Y.fn k) (List.mem_of_getElem? (List.getElem?_zip_eq_some.mpr ⟨hF, hk⟩))
    have hfd : fdD (Y.K K) (Y.fn k) = fd := by unfold fdD; rw [hf]; rfl
    simp only [hfd, Bool.and_eq_true, Bool.or_eq_true, Bool.not_eq_true', beq_iff_eq] at hkw
    have hb : BindOk (baseOf prog w h K Y mg mb) F fd (parsOf fd.params) := by
      refine bindOk_of (B := baseOf prog w h K Y mg mb) hf hc (fun h' k => fun a o e => kept h' k a o (C.sub a o e)) (hfd ▸ hbk) (fun e => ?_) (fun e => ?_) ?_
      · rcases hkw.1 with q | q
        · rw [e] at q; exact tF q
        · exact ⟨q.1, Option.isNone_iff_eq_none.mp q.2.1, List.isEmpty_iff.mp q.2.2⟩
      · rcases hkw.2 with q | q
        · rw [e] at q; exact tF q
        · exact ⟨List.isEmpty_iff.mp q.1, List.isEmpty_iff.mp q.2⟩
      · unfold coreIn at hc
        rw [hf] at hc
        simp only [Option.bind_some] at hc
        split at hc
        · have := sJ hc
          rw [← this]
          simp only [Bool.not_eq_true']
          cases fd.params.kwonlyargs.isEmpty <;> simp
        · exact nN hc
    unfold coreIn at hc
    rw [hf] at hc
    simp only [Option.bind_some] at hc
    split at hc
    · rename_i body hbody
      have hFe := sJ hc
      unfold defIn at hd
      simp only [Bool.and_eq_true, Bool.or_eq_true, Bool.not_eq_true', beq_iff_eq, decide_eq_true_eq, List.isEmpty_iff] at hd
      obtain ⟨d1, d2, d3, d4, d5, d6, d7, d8, d9, d10, d11⟩ := hd
      have hpl : (parsOf fd.params).length ≤ (ownP fd.scope).length := by
        have := congrArg List.length d9
        rw [List.length_take, List.length_map] at this
        omega
      refine ⟨fd, body, parsOf fd.params, { ob := fdIn_get XK hf, text := hbody, code := fun h' k' => codeRecIn_of (kept h' k') d10, kind := d1, co := d2, gen := d3, clo := d4, glo := d5, bui := d6, nd := d7, free := fun p hp e => ?_, tr := ⟨60, 60, by rw [← hFe]⟩, slots := by rw [← hFe]; show (ownNames fd.scope).length = _; rw [ownNames_eq, List.length_map], par := ?_, plen := hpl, lam := fun q A L => ?_, genH := fun q A L => ?_ }, hb⟩
      · have := List.all_eq_true.mp d8 p hp
        rw [e] at this; exact fB this
      · rw [List.map_drop]
        conv => rhs; lhs; rw [← d9]
        rw [List.take_append_drop]
      · rcases d11 with q' | q'
        · rw [q] at q'; exact tF q'
        · refine lam_hook (B := baseOf prog w h K Y mg mb) (P := Y.tab) (c := Y.code) S (List.mem_singleton.mpr rfl) cd' ?_ d5 (isRef_eq q')
          obtain ⟨bm, ob, b1, b2, b3, b4, b5, b6⟩ := bm
          refine ⟨bm, ob, b1, b2, (Heap.hide_ne h fun q => ?_).trans b3, b4, b5, b6⟩
          rw [q, hP] at b3; cases b3; cases b4
      · rcases d11 with q' | q'
        · rw [q] at q'; exact tF q'
        · refine gen_hook (B := baseOf prog w h K Y mg mb) (P := Y.tab) (c := Y.code) S (List.mem_singleton.mpr rfl) cd' ?_ d5 (isRef_eq q')
          obtain ⟨bm, ob, b1, b2, b3, b4, b5, b6⟩ := bm
          refine ⟨bm, ob, b1, b2, (Heap.hide_ne h fun q => ?_).trans b3, b4, b5, b6⟩
          rw [q, hP] at b3; cases b3; cases b4
    · exact nN hc
  · have hs := List.all_eq_true.mp C.some p hp
    obtain ⟨v, hv⟩ := Option.isSome_iff_exists.mp hs
    have hg : globIn K p.1 = globV Y p.2 := by
      have := C.globs
      obtain ⟨i, hi, rfl⟩ := List.mem_iff_getElem.mp hp
      have h1 := congrArg (fun l => l[i]?) this
      simpa [hi] using h1
    rw [hv] at hg
    refine ⟨v, globV_rel hv, ?_⟩
    unfold globIn at hg
    show mg _ = _ ∨ (mg _ = _ ∧ mb _ = _)
    split at hg
    · rename_i u hn
      cases hg
      exact .inl (mg_of X G hn)
    · rename_i hn
      split at hg
      · exact nN hg
      · rename_i hne
        exact .inr ⟨mg_none_of X G hn, by rw [hmb _ hne, hg]⟩
    · exact nN hg
  · have at0 : ∃ o fd, (h.hide Y.tab).get? (Y.fn k) = Option.some o ∧ o.data = .func fd := by
      have hd : ∃ j : Nat, Y.fns[j]? = Option.some (Y.fn k) := by
        unfold Lay.fn
        cases hk : Y.fns[k]? with
        | some a => exact ⟨k, hk⟩
        | none =>
          refine ⟨0, ?_⟩
          have := C.pos
          cases hl : Y.fns with
          | nil => rw [hl] at this; simp at this
          | cons a r => rfl
      obtain ⟨j, hj⟩ := hd
      have := defsIn_get C.defs hj
      cases hf : fdIn (Y.K K) (Y.fn k) with
      | none => rw [hf] at this; exact fB this
      | some fd => obtain ⟨o, g, e⟩ := fdIn_get XK hf; exact ⟨o, fd, g, e⟩
    exact at0
  · intro nm k cs xs z cs' n hm e s pl R E K' hR
    exact reM_of (B := baseOf prog w h K Y mg mb) (patIn_of XK C.re0) (patIn_of XK C.re1) (patIn_of XK C.re2) hm e K' hR
end
end Ev
namespace Ev
open PySem PySem.W PyProof.Rows PySem.SeqAt
noncomputable def MethsOk (K : Frag) (cls : Addr) (fnA : Nat → Addr) : List (Tx × Nat) → Prop
  | [] => True
  | (t, k) :: r => (findIn K (.ref cls) ⟨t.toArray⟩ = some (some (.ref (fnA k))) ∧ typeIn K (.ref (fnA k)) = some (.type "function")) ∧ MethsOk K cls fnA r
theorem MethsOk.get {K : Frag} {cls : Addr} {fnA : Nat → Addr} : ∀ {M : List (Tx × Nat)} {t : Tx} {k : Nat}, MethsOk K cls fnA M → M.lookup t = some k → findIn K (.ref cls) ⟨t.toArray⟩ = some (some (.ref (fnA k))) ∧ typeIn K (.ref (fnA k)) = some (.type "function")
  | [], _, _, _, e => by exact nN e
  | (a, b) :: r, t, k, h, e => by
    rw [List.lookup_cons] at e
    split at e
    · rename_i q
      cases e; rw [beq_iff_eq.mp q]; exact h.1
    · exact h.2.get e
theorem script_rel {B : Base} {h : Heap} {W : Addr → Prop} {ρ : List Addr} : ∀ {vs : List Value} {ns : List Int}, IntsAre vs ns → VRels B h W ρ (ns.map AV.int) vs
  | _, _, .nil => .nil
  | _, _, .cons n t r => .cons (.int n t) (script_rel r)
theorem room_caller (k : Nat) (h : k ≤ 100) : Room callerA k := ⟨rfl, by show 301 + 4 * k + 8 < 1000; omega, by show 4 + 8 * k + 64 < 9900; omega⟩
section
variable {prog : Program} {w : World} {K : Frag} {Y : Lay} {mg mb : Str → Option Value} {P : Prog} {T : Tops} {s₁ : Shared}
theorem law_top (X : K.In s₁.heap) {K2 : Frag} (C : Checks K K2 ⟨prog, w.params⟩ Y P T) (G : s₁.heap.Ns mainGlobals mg) (Gb : s₁.heap.Ns builtinsNs mb) (lim' : s₁.heap.NoLimit) (hmb : ∀ x : Str, x ≠ "__name__" → mb x = bootBuiltins x) (hsz : sysModules < s₁.heap.objs.size)
    (bm : ∃ bm ob, mg "__builtins__" = Option.some (.ref bm) ∧ bm ≠ builtinsNs ∧ s₁.heap.get? bm = Option.some ob ∧ ob.cls = .type "module" ∧ ob.dict = Option.some builtinsNs ∧ ob.data = .plain)
    (cls : ClsOk (baseOf prog w s₁.heap K Y mg mb) P T.meths) (hgens : s₁.gens = #[])
    {a : Addr} {vs : List Value} {ns : List Int} (l : s₁.heap.PlainList a vs.toArray) (hI : IntsAre vs ns) (hlen : ns.length ≤ 63) {k lawN : Nat} (hk : k ≤ 100)
    (hrun : ∃ cs', (callAt P k).cf lawN [.lst (ns.map AV.int)] none [] = some (.bool true, cs')) {Q E : Value → Shared → Prop}
    (hQ : ∀ s', OldK s₁.heap s'.heap → s'.os = s₁.os → AllBare s'.gens → Q (.bool true) s') : wpAny (model prog w) callerA (call (.ref (Y.fn lawN)) [.ref a]) Q E s₁ := by
  obtain ⟨cs', hrun⟩ := hrun
  have O := progOk_of X C G Gb lim' hmb hsz bm cls
  have R := rx_all O k callerA (room_caller k hk)
  have hP := tabIn_of X C.tab
  have hm : Mem (baseOf prog w s₁.heap K Y mg mb) (fun a => a = Y.tab) [] [] s₁.heap :=
    ⟨rfl, fun i o a e _ => by simp at e, List.nodup_nil, fun a ha => by simp at ha, fun a ha => ha ▸ Heap.lt_size hP, fun b o e => ⟨Heap.of_hide e, fun q => by
        rw [q] at e
        have e : (s₁.heap.hide Y.tab).get? Y.tab = some o := e
        rw [Heap.hide_self] at e; exact nN e⟩,
      fun p hp => by
        rcases List.mem_singleton.mp hp with rfl
        exact ⟨⟨#[], hP, trivial, #[], rfl⟩, rfl, by show Y.tab < (s₁.heap.hide Y.tab).objs.size; rw [Heap.hide_size]; exact Heap.lt_size hP⟩,
      by show (s₁.heap.hide Y.tab).objs.size ≤ _; rw [Heap.hide_size]; exact Nat.le_refl _⟩
  have ok : Ok (baseOf prog w s₁.heap K Y mg mb) (fun a => a = Y.tab) [] [] s₁ := ⟨hm, .of_eq hgens⟩
  have ha : ¬ a = Y.tab := fun q => by
    obtain ⟨n, l⟩ := l
    rw [q, hP] at l; cases l
  refine R.call hrun (Nat.le_refl 0) ok (.cons (.lst l (by rw [List.length_map]; have : lim = 100000 := rfl; omega) ha (script_rel hI)) .nil) .none fun v W' ρ' s' af rv => ?_
  cases rv
  refine hQ s' ⟨fun b o e => ?_, fun b o e => ?_⟩ af.os af.ok.gens
  · by_cases hb : b = Y.tab
    · subst hb
      rw [hP] at e; cases e
      obtain ⟨⟨ps, h1, h2, more, h3⟩, _⟩ := af.ok.mem.tab (Y.code, Y.tab) (List.mem_singleton.mpr rfl)
      exact .inr (.inl ⟨(codeIn_of X C.code).2, rfl, #[], more, rfl, by rw [h1, h3]; rfl⟩)
    · exact .inl (af.ok.mem.base b o ((Heap.hide_ne s₁.heap hb).trans e)).1
  · by_cases hb : b = Y.tab
    · subst hb
      obtain ⟨⟨ps, h1, _⟩, _⟩ := af.ok.mem.tab (Y.code, Y.tab) (List.mem_singleton.mpr rfl)
      exact ⟨_, h1⟩
    · exact ⟨o, (af.ok.mem.base b o ((Heap.hide_ne s₁.heap hb).trans e)).1⟩
theorem good_true {c : ClaimW} {cl : Str → Option Addr} {mean : ExcName → Option Value} {args : List WData} {s' : Shared} (hr : ∀ cls, c.raises args cls = false) (hp : c.post args (.bool true) args = true) (h1 : OldK s₁.heap s'.heap) (h2 : s'.os = s₁.os) (h3 : AllBare s'.gens) :
    GoodWG c cl mean args s₁ (.ok (.ret (.bool true))) s' :=
  ⟨.inl ⟨_, _, [], rfl, hr, ReadsW.bool true, hp, fun _ => ⟨List.nodup_nil, fun _ hm => (nomatch hm)⟩⟩, h1, h2, h3⟩
end
end Ev
namespace Ev
open PySem PySem.W PyProof.Rows PySem.SeqAt
noncomputable def fragOf (h : Heap) (as : List Addr) : Frag := as.filterMap fun a => (h.get? a).map fun o => (a, o)
theorem lookup_frag {h : Heap} : ∀ {l : List Nat} {a : Addr} {o : Obj}, (l.filterMap fun a => (h.get? a).map fun o => (a, o)).lookup a = some o → h.get? a = some o
  | [], _, _, e => by exact nN e
  | b :: r, a, o, e => by
    rw [List.filterMap_cons] at e
    cases hb : h.get? b with
    | none => rw [hb] at e; exact lookup_frag e
    | some x =>
      rw [hb] at e
      simp only [Option.map_some, List.lookup_cons] at e
      split at e
      · rename_i q
        cases e; rw [beq_iff_eq.mp q]; exact hb
      · exact lookup_frag e
theorem fragOf_in (h : Heap) (as : List Addr) : (fragOf h as).In h := fun _ _ e => lookup_frag e
structure Sight where
  Y : Lay
  P : Prog
  T : Tops
  law : Str
  lawA : Addr
  shapes : List Shape
  K2 : Frag
  as : List Addr
noncomputable def clsNames : List Str := ["__getattribute__", "__getattr__", headersStr, "__setattr__", "__setitem__", "__delitem__", "__init__"]
noncomputable def obsE (Z : Sight) (s : Shared) :=
  let K := fragOf s.heap Z.as
  let J := Z.Y.K K
  ([tabIn K Z.Y.tab, codeIn K Z.Y.code Z.Y.tab, defsIn J Z.T.lams Z.Y.code 0 Z.Y.fns,
    (Z.P.fs.zip Z.Y.fns).all (fun p => (!p.1.ko || ((fdD J p.2).params.kwonlyargs.length == 1 && ((fdD J p.2).params.kwarg.isNone && p.1.dfl.isEmpty))) && (!p.1.kd || ((fdD J p.2).params.kwonlyargs.isEmpty && (fdD J p.2).params.defaults.isEmpty))),
    patIn J ((Z.Y.res[0]?).getD 0) codeName, patIn J ((Z.Y.res[1]?).getD 0) codeValue, patIn J ((Z.Y.res[2]?).getD 0) codeTwin,
    (clsIn J Z.Y.cls).any (·.hasDict), plainOver J Z.Y.cls, noSeq J Z.Y.cls, makesIn J Z.Y.cls, Nat.blt sysModules s.heap.objs.size],
   coreAll J Z.T 0 Z.Y.fns, Z.T.globs.map (fun p => globIn K p.1),
   Z.T.meths.map (fun p => (findIn J (.ref Z.Y.cls) ⟨p.1.toArray⟩, typeIn J (.ref (Z.Y.fn p.2)))),
   clsNames.map (fun n => findIn J (.ref Z.Y.cls) n), [Z.P.setN, Z.P.delN, Z.P.initN].map (fun k => typeIn J (.ref (Z.Y.fn k))),
   Z.Y.fns.map (fun a => shp (fdD J a)), Z.K2.map (fun p => J.lookup p.1), nsIn K mainGlobals Z.law)
noncomputable def valE (Z : Sight) :=
  ([true, true, true, true, true, true, true, true, true, true, true, true],
   Z.P.fs.map some, Z.T.globs.map (fun p => globV Z.Y p.2),
   Z.T.meths.map (fun p => (some (some (Value.ref (Z.Y.fn p.2))), some (Value.type "function"))),
   [some (some (Value.builtin "object.__getattribute__")), some none, some none, some (some (.builtin "object.__setattr__")), some (some (.ref (Z.Y.fn Z.P.setN))), some (some (.ref (Z.Y.fn Z.P.delN))), some (some (.ref (Z.Y.fn Z.P.initN)))],
   [some (Value.type "function"), some (.type "function"), some (.type "function")],
   Z.shapes, Z.K2.map (fun p => some p.2), some (some (Value.ref Z.lawA)))
theorem sub_of {K J : Frag} (e : K.map (fun p => J.lookup p.1) = K.map (fun p => some p.2)) : ∀ a o, K.lookup a = some o → J.lookup a = some o := by
  induction K with
  | nil => intro a o h; exact nN h
  | cons p r ih =>
    intro a o h
    rw [List.map_cons, List.map_cons, List.cons.injEq] at e
    rw [show p = (p.1, p.2) from rfl, List.lookup_cons] at h
    split at h
    · rename_i q
      cases h; rw [beq_iff_eq.mp q]; exact e.1
    · exact ih e.2 a o h
theorem meths_of {K : Frag} {cls : Addr} {fnA : Nat → Addr} : ∀ {M : List (Tx × Nat)}, M.map (fun p => (findIn K (.ref cls) ⟨p.1.toArray⟩, typeIn K (.ref (fnA p.2)))) = M.map (fun p => (some (some (Value.ref (fnA p.2))), some (Value.type "function"))) → MethsOk K cls fnA M
  | [], _ => trivial
  | p :: r, e => by
    rw [List.map_cons, List.map_cons, List.cons.injEq, Prod.mk.injEq] at e
    exact ⟨e.1, meths_of e.2⟩
theorem obs_law {Z : Sight} {s₀ s₁ : Shared} {prog : Program} {w : World} {mg mb : Str → Option Value} (e : obsE Z s₀ = valE Z) (keeps : ∀ b o, s₀.heap.get? b = some o → s₁.heap.get? b = some o) (hsome : (Z.T.globs.all fun p => (globV Z.Y p.2).isSome) = true) (hpos : 0 < Z.Y.fns.length)
    (hdr : Z.T.meths.lookup headersTx = none) (hb : BindsS Z.K2 ⟨prog, w.params⟩ Z.shapes Z.P.fs) (hsz : s₀.heap.objs.size ≤ s₁.heap.objs.size) :
    ∃ K : Frag, K.In s₁.heap ∧ Checks K Z.K2 ⟨prog, w.params⟩ Z.Y Z.P Z.T ∧ ClsOk (baseOf prog w s₁.heap K Z.Y mg mb) Z.P Z.T.meths ∧ nsIn K mainGlobals Z.law = some (some (.ref Z.lawA)) ∧ sysModules < s₁.heap.objs.size := by
  unfold obsE valE at e
  dsimp only at e
  simp only [Prod.mk.injEq, List.cons.injEq, List.map_cons, List.map_nil, clsNames, and_true] at e
  obtain ⟨⟨b1, b2, b3, b4, b5, b6, b7, b8, b9, b10, b11, b12⟩, e1, e2, e3, ⟨f1, f2, f3, f4, f5, f6, f7⟩, ⟨t1, t2, t3⟩, e6, e7, e8⟩ := e
  refine ⟨fragOf s₀.heap Z.as, Frag.In.keeps (fragOf_in _ _) keeps, { tab := b1, code := b2, core := e1, defs := b3, binds := hb.toK (by rw [List.map_map]; exact e6), sub := sub_of e7, kws := b4, globs := e2, some := hsome, re0 := b5, re1 := b6, re2 := b7, pos := hpos },
    { hga := f1, hk := f2, meth := fun h => (meths_of e3).get h, hdr := hdr, getH := f3, cls := b8, setattr := f4, plain := b9, noseq := b10, setitem := ⟨f5, t1⟩, delitem := ⟨f6, t2⟩, makes := b11, init := ⟨f7, t3⟩ }, e8, ?_⟩
  exact Nat.lt_of_lt_of_le (Nat.le_of_ble_eq_true b12) hsz
noncomputable def fdOf : Stmt → Option (Str × Arguments)
  | .FunctionDef n ps _ _ _ _ _ _ _ _ => some (n, ps)
  | _ => none
noncomputable def inCls : Stmt → List Stmt
  | .ClassDef _ _ _ b _ _ _ _ _ _ _ => b
  | x => [x]
noncomputable def shapesOf (p : Program) (l : List (Str × Value)) : List Shape := l.map fun x => (((((p.main.body.flatMap inCls).filterMap fdOf).lookup x.1).getD ⟨[], [], none, [], [], none, []⟩), x.2, .none)
end Ev
namespace Ev.Lib
noncomputable def f_heappush : Fn := { np := 2, dfl := [], ko := false, kd := false, slots := 2, body := [
  sExpr (eMeth (eVar 0) .append none [eVar 1]),
  sExpr (eCall (eLit (.fn 2)) [eVar 0, eLit (.int 0), eBin false .sub (eCall (eLit (.bi .len)) [eVar 0]) (eLit (.int 1))])] }
noncomputable def f_heappop : Fn := { np := 1, dfl := [], ko := false, kd := false, slots := 3, body := [
  sAssign (tVar 1) (eMeth (eVar 0) .pop none []),
  sIte (bOf (eVar 0)) [
    sAssign (tVar 2) (eIdx (eVar 0) (eLit (.int 0))),
    sAssign (tIdx (eVar 0) (eLit (.int 0))) (eVar 1),
    sExpr (eCall (eLit (.fn 3)) [eVar 0, eLit (.int 0)]),
    sRet (eVar 2)] [],
  sRet (eVar 1)] }
noncomputable def f__siftdown : Fn := { np := 3, dfl := [], ko := false, kd := false, slots := 6, body := [
  sAssign (tVar 3) (eIdx (eVar 0) (eVar 2)),
  sWhile (bCmp .gt (eVar 2) (eVar 1)) [
    sAssign (tVar 4) (eBin false .shr (eBin false .sub (eVar 2) (eLit (.int 1))) (eLit (.int 1))),
    sAssign (tVar 5) (eIdx (eVar 0) (eVar 4)),
    sIte (bCmp .lt (eVar 3) (eVar 5)) [
      sAssign (tIdx (eVar 0) (eVar 2)) (eVar 5),
      sAssign (tVar 2) (eVar 4),
      sCont] [],
    sBrk],
  sAssign (tIdx (eVar 0) (eVar 2)) (eVar 3)] }
noncomputable def f__siftup : Fn := { np := 2, dfl := [], ko := false, kd := false, slots := 7, body := [
  sAssign (tVar 2) (eCall (eLit (.bi .len)) [eVar 0]),
  sAssign (tVar 3) (eVar 1),
  sAssign (tVar 4) (eIdx (eVar 0) (eVar 1)),
  sAssign (tVar 5) (eBin false .add (eBin false .mul (eLit (.int 2)) (eVar 1)) (eLit (.int 1))),
  sWhile (bCmp .lt (eVar 5) (eVar 2)) [
    sAssign (tVar 6) (eBin false .add (eVar 5) (eLit (.int 1))),
    sIte (bAO true [bCmp .lt (eVar 6) (eVar 2), bNot (bCmp .lt (eIdx (eVar 0) (eVar 5)) (eIdx (eVar 0) (eVar 6)))]) [
      sAssign (tVar 5) (eVar 6)] [],
    sAssign (tIdx (eVar 0) (eVar 1)) (eIdx (eVar 0) (eVar 5)),
    sAssign (tVar 1) (eVar 5),
    sAssign (tVar 5) (eBin false .add (eBin false .mul (eLit (.int 2)) (eVar 1)) (eLit (.int 1)))],
  sAssign (tIdx (eVar 0) (eVar 1)) (eVar 4),
  sExpr (eCall (eLit (.fn 2)) [eVar 0, eVar 3, eVar 1])] }
noncomputable def f_translate : Fn := { np := 1, dfl := [], ko := false, kd := false, slots := 3, body := [
  sAssign (tVar 1) (eCall (eLit (.ty .object)) []),
  sAssign (tVar 2) (eCall (eLit (.fn 5)) [eVar 0, eVar 1, eLit (.str [46])]),
  sRet (eCall (eLit (.fn 6)) [eVar 2, eVar 1])] }
noncomputable def f__translate : Fn := { np := 3, dfl := [], ko := false, kd := false, slots := 13, body := [
  sAssign (tVar 3) (eList true []),
  sAssign (tVar 4) (eAttrApp (eVar 3)),
  sAsgT [5, 6] (eTup [eLit (.int 0), eCall (eLit (.bi .len)) [eVar 0]]),
  sWhile (bCmp .lt (eVar 5) (eVar 6)) [
    sAssign (tVar 7) (eIdx (eVar 0) (eVar 5)),
    sAssign (tVar 5) (eBin false .add (eVar 5) (eLit (.int 1))),
    sIte (bCmp .eq (eVar 7) (eLit (.str [42]))) [
      sIte (bAO false [bNot (bOf (eVar 3)), bCmp .isnot (eIdx (eVar 3) (eNeg (eLit (.int 1)))) (eVar 1)]) [
        sExpr (eCall (eVar 4) [eVar 1])] []] [
      sIte (bCmp .eq (eVar 7) (eLit (.str [63]))) [
        sExpr (eCall (eVar 4) [eVar 2])] [
        sIte (bCmp .eq (eVar 7) (eLit (.str [91]))) [
          sAssign (tVar 8) (eVar 5),
          sIte (bAO true [bCmp .lt (eVar 8) (eVar 6), bCmp .eq (eIdx (eVar 0) (eVar 8)) (eLit (.str [33]))]) [
            sAssign (tVar 8) (eBin false .add (eVar 8) (eLit (.int 1)))] [],
          sIte (bAO true [bCmp .lt (eVar 8) (eVar 6), bCmp .eq (eIdx (eVar 0) (eVar 8)) (eLit (.str [93]))]) [
            sAssign (tVar 8) (eBin false .add (eVar 8) (eLit (.int 1)))] [],
          sWhile (bAO true [bCmp .lt (eVar 8) (eVar 6), bCmp .ne (eIdx (eVar 0) (eVar 8)) (eLit (.str [93]))]) [
            sAssign (tVar 8) (eBin false .add (eVar 8) (eLit (.int 1)))],
          sIte (bCmp .ge (eVar 8) (eVar 6)) [
            sExpr (eCall (eVar 4) [eLit (.str [92, 91])])] [
            sAssign (tVar 9) (eSlc false (eVar 0) (eVar 5) (eVar 8)),
            sIte (bCmp .notin (eLit (.str [45])) (eVar 9)) [
              sAssign (tVar 9) (eMeth (eVar 9) .replace none [eLit (.str [92]), eLit (.str [92, 92])])] [
              sAssign (tVar 10) (eList true []),
              sAssign (tVar 11) (eIte (bCmp .eq (eIdx (eVar 0) (eVar 5)) (eLit (.str [33]))) (eBin false .add (eVar 5) (eLit (.int 2))) (eBin false .add (eVar 5) (eLit (.int 1)))),
              sWhile (bOf (eLit (.bool true))) [
                sAssign (tVar 11) (eMeth (eVar 0) .find none [eLit (.str [45]), eVar 11, eVar 8]),
                sIte (bCmp .lt (eVar 11) (eLit (.int 0))) [
                  sBrk] [],
                sExpr (eMeth (eVar 10) .append none [eSlc false (eVar 0) (eVar 5) (eVar 11)]),
                sAssign (tVar 5) (eBin false .add (eVar 11) (eLit (.int 1))),
                sAssign (tVar 11) (eBin false .add (eVar 11) (eLit (.int 3)))],
              sAssign (tVar 12) (eSlc false (eVar 0) (eVar 5) (eVar 8)),
              sIte (bOf (eVar 12)) [
                sExpr (eMeth (eVar 10) .append none [eVar 12])] [
                sFail],
              sFor [11] (iRange [eBin false .sub (eCall (eLit (.bi .len)) [eVar 10]) (eLit (.int 1)), eLit (.int 0), eNeg (eLit (.int 1))]) [
                sIte (bCmp .gt (eIdx (eIdx (eVar 10) (eBin false .sub (eVar 11) (eLit (.int 1)))) (eNeg (eLit (.int 1)))) (eIdx (eIdx (eVar 10) (eVar 11)) (eLit (.int 0)))) [
                  sAssign (tIdx (eVar 10) (eBin false .sub (eVar 11) (eLit (.int 1)))) (eBin false .add (eSlc false (eIdx (eVar 10) (eBin false .sub (eVar 11) (eLit (.int 1)))) (eLit (.none)) (eNeg (eLit (.int 1)))) (eSlc false (eIdx (eVar 10) (eVar 11)) (eLit (.int 1)) (eLit (.none)))),
                  sFail] []],
              sAssign (tVar 9) (eGJ [45, 92] [45] (eVar 10))],
            sAssign (tVar 9) (eMeth (eLit (.re 2)) .sub none [eLam, eVar 9]),
            sAssign (tVar 5) (eBin false .add (eVar 8) (eLit (.int 1))),
            sIte (bNot (bOf (eVar 9))) [
              sExpr (eCall (eVar 4) [eLit (.str [40, 63, 33, 41])])] [
              sIte (bCmp .eq (eVar 9) (eLit (.str [33]))) [
                sExpr (eCall (eVar 4) [eLit (.str [46])])] [
                sIte (bCmp .eq (eIdx (eVar 9) (eLit (.int 0))) (eLit (.str [33]))) [
                  sAssign (tVar 9) (eBin false .add (eLit (.str [94])) (eSlc false (eVar 9) (eLit (.int 1)) (eLit (.none))))] [
                  sIte (bCmp .in_ (eIdx (eVar 9) (eLit (.int 0))) (eTup [eLit (.str [94]), eLit (.str [91])])) [
                    sAssign (tVar 9) (eBin false .add (eLit (.str [92])) (eVar 9))] []],
                sExpr (eCall (eVar 4) [eFstr [eLit (.str [91]), eVar 9, eLit (.str [93])]])]]]] [
          sExpr (eCall (eVar 4) [eCall eFail [eVar 7]])]]]],
  sAssert (bCmp .eq (eVar 5) (eVar 6)),
  sRet (eVar 3)] }
noncomputable def f__join_translated_parts : Fn := { np := 2, dfl := [], ko := false, kd := false, slots := 7, body := [
  sAssign (tVar 2) (eList true []),
  sAssign (tVar 3) (eAttrApp (eVar 2)),
  sAsgT [4, 5] (eTup [eLit (.int 0), eCall (eLit (.bi .len)) [eVar 0]]),
  sWhile (bAO true [bCmp .lt (eVar 4) (eVar 5), bCmp .isnot (eIdx (eVar 0) (eVar 4)) (eVar 1)]) [
    sExpr (eCall (eVar 3) [eIdx (eVar 0) (eVar 4)]),
    sAug 4 .add (eLit (.int 1))],
  sWhile (bCmp .lt (eVar 4) (eVar 5)) [
    sAssert (bCmp .is (eIdx (eVar 0) (eVar 4)) (eVar 1)),
    sAug 4 .add (eLit (.int 1)),
    sIte (bCmp .eq (eVar 4) (eVar 5)) [
      sExpr (eCall (eVar 3) [eLit (.str [46, 42])]),
      sBrk] [],
    sAssert (bCmp .isnot (eIdx (eVar 0) (eVar 4)) (eVar 1)),
    sAssign (tVar 6) (eList true []),
    sWhile (bAO true [bCmp .lt (eVar 4) (eVar 5), bCmp .isnot (eIdx (eVar 0) (eVar 4)) (eVar 1)]) [
      sExpr (eMeth (eVar 6) .append none [eIdx (eVar 0) (eVar 4)]),
      sAug 4 .add (eLit (.int 1))],
    sAssign (tVar 6) (eMeth (eLit (.str [])) .join none [eVar 6]),
    sIte (bCmp .eq (eVar 4) (eVar 5)) [
      sExpr (eCall (eVar 3) [eLit (.str [46, 42])]),
      sExpr (eCall (eVar 3) [eVar 6])] [
      sExpr (eCall (eVar 3) [eFstr [eLit (.str [40, 63, 62, 46, 42, 63]), eVar 6, eLit (.str [41])]])]],
  sAssert (bCmp .eq (eVar 4) (eVar 5)),
  sAssign (tVar 2) (eMeth (eLit (.str [])) .join none [eVar 2]),
  sRet (eFstr [eLit (.str [40, 63, 115, 58]), eVar 2, eLit (.str [41, 92, 90])])] }
noncomputable def f___init__ : Fn := { np := 2, dfl := [.none], ko := false, kd := false, slots := 4, body := [
  sAssign (tVar 1) (eIte (bCmp .isnot (eVar 1) (eLit (.none))) (eVar 1) (eList true [])),
  sIte (bCmp .isnot (eCall (eLit (.ty .type)) [eVar 1]) (eLit (.ty .list))) [
    sFail] [],
  sAssign (tAttr (eVar 0) [95, 104, 101, 97, 100, 101, 114, 115]) (eVar 1),
  sIte (bOf (eLit (.bool true))) [
    sFor [2, 3] (iVal (eVar 1)) [
      sExpr (eMethk (eVar 0) 8 [eVar 2] (eLit (.bool true))),
      sExpr (eMethk (eVar 0) 8 [eVar 3] (eLit (.bool false)))]] []] }
noncomputable def f__convert_string_type : Fn := { np := 2, dfl := [], ko := true, kd := false, slots := 4, body := [
  sIte (bCmp .is (eCall (eLit (.ty .type)) [eVar 1]) (eLit (.ty .str))) [
    sAssign (tVar 3) (eIte (bOf (eVar 2)) (eLit (.re 0)) (eLit (.re 1))),
    sIte (bOf (eMeth (eVar 3) .search none [eVar 1])) [
      sFail] [],
    sRet (eVar 1)] [],
  sFail] }
noncomputable def f___setitem__ : Fn := { np := 3, dfl := [], ko := false, kd := false, slots := 3, body := [
  sFail,
  sExpr (eMeth (eAttr (eVar 0) [95, 104, 101, 97, 100, 101, 114, 115]) .append none [eTup [eMethk (eVar 0) 8 [eVar 1] (eLit (.bool true)), eMethk (eVar 0) 8 [eVar 2] (eLit (.bool false))]])] }
noncomputable def f___delitem__ : Fn := { np := 2, dfl := [], ko := false, kd := false, slots := 2, body := [
  sAssign (tVar 1) (eMethk (eVar 0) 8 [eMeth (eVar 1) .lower none []] (eLit (.bool true))),
  sFail] }
noncomputable def f_get_all : Fn := { np := 2, dfl := [], ko := false, kd := false, slots := 2, body := [
  sAssign (tVar 1) (eMethk (eVar 0) 8 [eMeth (eVar 1) .lower none []] (eLit (.bool true))),
  sRet (eComp false (eIdx (eVar 2) (eLit (.int 1))) [⟨1, [2], iVal (eAttr (eVar 0) [95, 104, 101, 97, 100, 101, 114, 115]), [bCmp .eq (eMeth (eIdx (eVar 2) (eLit (.int 0))) .lower none []) (eVar 1)]⟩])] }
noncomputable def f_get : Fn := { np := 3, dfl := [.none], ko := false, kd := false, slots := 5, body := [
  sAssign (tVar 1) (eMethk (eVar 0) 8 [eMeth (eVar 1) .lower none []] (eLit (.bool true))),
  sFor [3, 4] (iVal (eAttr (eVar 0) [95, 104, 101, 97, 100, 101, 114, 115])) [
    sIte (bCmp .eq (eMeth (eVar 3) .lower none []) (eVar 1)) [
      sRet (eVar 4)] []],
  sRet (eVar 2)] }
noncomputable def f_items : Fn := { np := 1, dfl := [], ko := false, kd := false, slots := 1, body := [
  sRet (eSlc false (eAttr (eVar 0) [95, 104, 101, 97, 100, 101, 114, 115]) (eLit (.none)) (eLit (.none)))] }
noncomputable def f_add_header : Fn := { np := 3, dfl := [], ko := false, kd := true, slots := 7, body := [
  sAssign (tVar 4) (eList true []),
  sIte (bCmp .isnot (eVar 2) (eLit (.none))) [
    sAssign (tVar 2) (eMethk (eVar 0) 8 [eVar 2] (eLit (.bool false))),
    sExpr (eMeth (eVar 4) .append none [eVar 2])] [],
  sItems (eVar 3),
  sExpr (eMeth (eAttr (eVar 0) [95, 104, 101, 97, 100, 101, 114, 115]) .append none [eTup [eMethk (eVar 0) 8 [eVar 1] (eLit (.bool true)), eMeth (eLit (.str [59, 32])) .join none [eVar 4]]])] }
end Ev.Lib
namespace Ev.L2
open PySem
noncomputable def f__law_table : Fn := { np := 1, dfl := [], ko := false, kd := false, slots := 5, body := [
  sAssign (tVar 1) eNew,
  sFor [2] (iRange [eLit (.int 4)]) [
    sFor [3, 4] (iVal (eIdx (eVar 0) (eVar 2))) [
      sExpr (eMeth (eVar 1) .other (some 14) [eIdx (eLit (.str [97, 98, 99, 100, 65, 66, 67, 68])) (eBin false .add (eVar 2) (eBin false .mul (eLit (.int 4)) (eVar 3))), eIdx (eLit (.str [97, 98, 99, 100])) (eVar 4)])]],
  sRet (eVar 1)] }
noncomputable def f__law_names : Fn := { np := 1, dfl := [], ko := false, kd := false, slots := 5, body := [
  sAssign (tVar 1) (eBin false .add (eBin false .add (eLit (.str [91])) (eVar 0)) (eLit (.str [93]))),
  sIte (bCmp .eq (eCall (eLit (.bi .len)) [eVar 0]) (eLit (.int 3))) [
    sAssign (tVar 1) (eBin false .add (eBin false .add (eLit (.str [91, 33])) (eMeth (eLit (.str [])) .join none [eComp false (eVar 5) [⟨1, [5], iVal (eLit (.str [97, 65, 98, 66, 99, 67, 100, 68])), [bCmp .notin (eVar 5) (eVar 0)]⟩]])) (eLit (.str [93])))] [],
  sIte (bCmp .eq (eCall (eLit (.bi .len)) [eVar 0]) (eLit (.int 4))) [
    sAssign (tVar 1) (eBin false .add (eBin false .add (eBin false .add (eBin false .add (eLit (.str [91])) (eIdx (eVar 0) (eLit (.int 0)))) (eLit (.str [45]))) (eIdx (eVar 0) (eLit (.int 3)))) (eLit (.str [93])))] [],
  sAssign (tVar 2) (eCall (eLit (.fn 4)) [eVar 1]),
  sIte (bCmp .ne (eBin false .add (eSlc false (eVar 2) (eLit (.none)) (eLit (.int 5))) (eSlc false (eVar 2) (eNeg (eLit (.int 4))) (eLit (.none)))) (eLit (.str [40, 63, 115, 58, 91, 93, 41, 92, 90]))) [
    sRet (eLit (.str []))] [],
  sAssign (tVar 3) (eCmp .eq (eIdx (eVar 2) (eLit (.int 5))) (eLit (.str [94]))),
  sAssign (tVar 4) (eIte (bOf (eVar 3)) (eSlc false (eVar 2) (eLit (.int 6)) (eNeg (eLit (.int 4)))) (eSlc false (eVar 2) (eLit (.int 5)) (eNeg (eLit (.int 4))))),
  sIte (bCmp .eq (eSlc false (eVar 4) (eLit (.int 1)) (eLit (.int 2))) (eLit (.str [45]))) [
    sRet (eMeth (eLit (.str [])) .join none [eComp false (eVar 5) [⟨1, [5], iVal (eLit (.str [97, 65, 98, 66, 99, 67, 100, 68])), [bCmp2 .le .le (eSlc false (eVar 4) (eLit (.none)) (eLit (.int 1))) (eVar 5) (eSlc false (eVar 4) (eLit (.int 2)) (eLit (.int 3)))]⟩]])] [],
  sRet (eMeth (eLit (.str [])) .join none [eComp false (eVar 5) [⟨1, [5], iVal (eLit (.str [97, 65, 98, 66, 99, 67, 100, 68])), [bCmp .ne (eCmp .in_ (eVar 5) (eVar 4)) (eVar 3)]⟩]])] }
noncomputable def f__law_word : Fn := { np := 1, dfl := [], ko := false, kd := false, slots := 10, body := [
  sAsgT [1, 2] (eTup [eList true [eTup [eLit (.int 0), eLit (.str []), eLit (.str [97, 98, 99, 100])]], eList true [eLit (.str [97, 98, 99, 100])]]),
  sWhile (bCmp .ne (eVar 1) (eList false [])) [
    sAsgT [3, 4, 5] (eCall (eLit (.fn 1)) [eVar 1]),
    sIte (bCmp .eq (eVar 5) (eLit (.str []))) [
      sRet (eVar 4)] [],
    sFor [6] (iVal (eLit (.str [48, 49]))) [
      sAssign (tVar 7) (eCall (eLit (.fn 16)) [eIte (bCmp .eq (eVar 6) (eLit (.str [48]))) (eVar 5) (eMeth (eVar 5) .upper none [])]),
      sAssign (tVar 8) (eComp false (eVar 11) [⟨2, [10, 11], iVal (eVar 0), [bCmp .in_ (eVar 10) (eVar 7)]⟩]),
      sAssign (tVar 9) (eMeth (eLit (.str [])) .join none [eComp false (eVar 10) [⟨1, [10], iVal (eLit (.str [97, 98, 99, 100])), [bCmp .in_ (eVar 10) (eVar 8)]⟩]]),
      sIte (bCmp .notin (eVar 9) (eVar 2)) [
        sExpr (eMeth (eVar 2) .append none [eVar 9]),
        sExpr (eCall (eLit (.fn 0)) [eVar 1, eTup [eBin false .add (eVar 3) (eLit (.int 1)), eBin false .add (eVar 4) (eVar 6), eVar 9]])] []]],
  sRet (eLit (.str []))] }
noncomputable def f__law_reach : Fn := { np := 1, dfl := [], ko := false, kd := false, slots := 3, body := [
  sAssign (tVar 1) (eComp false (eBin false .add (eList false [eVar 3]) (eMeth (eVar 0) .other (some 11) [eVar 3])) [⟨1, [3], iVal (eLit (.str [97, 98, 99, 100])), []⟩]),
  sFor [2] (iRange [eLit (.int 2)]) [
    sAssign (tVar 1) (eComp false (eComp false (eVar 4) [⟨1, [4], iVal (eLit (.str [97, 98, 99, 100])), [bCmp .ne (eComp false (eVar 5) [⟨1, [5], iVal (eVar 3), [bCmp .in_ (eVar 4) (eIdx (eVar 1) (eMeth (eLit (.str [97, 98, 99, 100])) .index none [eVar 5]))]⟩]) (eList false [])]⟩]) [⟨1, [3], iVal (eVar 1), []⟩])],
  sRet (eVar 1)] }
noncomputable def f__law_twins : Fn := { np := 1, dfl := [], ko := false, kd := false, slots := 3, body := [
  sAssign (tVar 1) (eComp true (eTup [eVar 3, eVar 3]) [⟨1, [3], iRange [eLit (.int 4)], []⟩]),
  sFor [2] (iRange [eLit (.int 6)]) [
    sAug 1 .add (eComp false (eTup [eVar 3, eVar 4]) [⟨2, [3], iRange [eLit (.int 4)], []⟩, ⟨0, [4], iRange [eLit (.int 4)], [bAO true [bCmp .notin (eTup [eVar 3, eVar 4]) (eVar 1), bCmp .ne (eComp false (eVar 5) [⟨2, [5], iVal (eIdx (eVar 0) (eVar 3)), []⟩, ⟨0, [6], iVal (eIdx (eVar 0) (eVar 4)), [bAO true [bCmp .eq (eIdx (eVar 5) (eLit (.int 0))) (eIdx (eVar 6) (eLit (.int 0))), bCmp .in_ (eTup [eIdx (eVar 5) (eLit (.int 1)), eIdx (eVar 6) (eLit (.int 1))]) (eVar 1)]]⟩]) (eList false [])]]⟩])],
  sRet (eComp false (eVar 3) [⟨2, [3, 4], iZip [eLit (.str [97, 98, 99, 100]), eVar 0], [bAO true [bCmp .eq (eIdx (eIdx (eVar 4) (eLit (.int 0))) (eLit (.int 0))) (eIdx (eIdx (eVar 4) (eLit (.int 1))) (eLit (.int 0))), bCmp .in_ (eTup [eIdx (eIdx (eVar 4) (eLit (.int 0))) (eLit (.int 1)), eIdx (eIdx (eVar 4) (eLit (.int 1))) (eLit (.int 1))]) (eVar 1)]]⟩])] }
noncomputable def f__law_step : Fn := { np := 3, dfl := [], ko := false, kd := false, slots := 3, body := [
  sRet (eComp false (eVar 3) [⟨1, [3], iRange [eLit (.int 4)], [bCmp .ne (eComp false (eVar 4) [⟨1, [4], iVal (eVar 1), [bCmp .in_ (eTup [eVar 2, eVar 3]) (eIdx (eVar 0) (eVar 4))]⟩]) (eList false [])]⟩])] }
noncomputable def f__law_shortest : Fn := { np := 2, dfl := [], ko := false, kd := false, slots := 10, body := [
  sAsgT [2, 3, 4] (eTup [eList false [eLit (.int 0), eLit (.int 1), eLit (.int 2), eLit (.int 3)], eList false [eList false [eLit (.int 0), eLit (.int 1), eLit (.int 2), eLit (.int 3)]], eList true [eList false [eLit (.int 0), eLit (.int 1), eLit (.int 2), eLit (.int 3)]]]),
  sFor [5] (iVal (eVar 1)) [
    sAssign (tVar 2) (eCall (eLit (.fn 20)) [eVar 0, eVar 2, eCall (eLit (.ty .int)) [eVar 5]])],
  sFor [6] (iRange [eLit (.int 16)]) [
    sIte (bCmp .in_ (eList false []) (eVar 3)) [
      sRet (eAO true [eCmp .eq (eVar 2) (eList false []), eCmp .eq (eCall (eLit (.bi .len)) [eVar 1]) (eVar 6)])] [],
    sAssign (tVar 7) (eList true []),
    sFor [8] (iVal (eVar 3)) [
      sFor [9] (iVal (eList false [eCall (eLit (.fn 20)) [eVar 0, eVar 8, eLit (.int 0)], eCall (eLit (.fn 20)) [eVar 0, eVar 8, eLit (.int 1)]])) [
        sIte (bCmp .notin (eVar 9) (eVar 4)) [
          sExpr (eMeth (eVar 4) .append none [eVar 9]),
          sExpr (eMeth (eVar 7) .append none [eVar 9])] []]],
    sAssign (tVar 3) (eVar 7)],
  sRet (eLit (.bool false))] }
noncomputable def f_law : Fn := { np := 1, dfl := [], ko := false, kd := false, slots := 7, body := [
  sAssign (tVar 1) (eComp false (eBin false .mod (eVar 7) (eLit (.int 64))) [⟨1, [7], iVal (eSlc false (eBin false .add (eSlc false (eVar 0) (eLit (.none)) (eLit (.int 4))) (eList false [eLit (.int 36), eLit (.int 24), eLit (.int 39), eLit (.int 57)])) (eLit (.none)) (eLit (.int 4))), []⟩]),
  sAssign (tVar 2) (eComp false (eList false [eTup [eBin false .mod (eBin false .fdiv (eVar 7) (eLit (.int 16))) (eLit (.int 2)), eBin false .mod (eVar 7) (eLit (.int 4))], eTup [eBin false .fdiv (eVar 7) (eLit (.int 32)), eBin false .mod (eBin false .fdiv (eVar 7) (eLit (.int 4))) (eLit (.int 4))]]) [⟨1, [7], iVal (eVar 1), []⟩]),
  sAssign (tVar 3) (eCall (eLit (.fn 15)) [eVar 2]),
  sAssign (tVar 4) (eCall (eLit (.fn 17)) [eMeth (eVar 3) .other (some 13) []]),
  sAssign (tVar 5) (eCall (eLit (.fn 19)) [eVar 2]),
  sAssign (tVar 6) (eComp false (eVar 7) [⟨1, [7], iVal (eCall (eLit (.fn 18)) [eVar 3]), [bCmp .eq (eComp false (eVar 8) [⟨1, [8], iVal (eVar 7), [bCmp .in_ (eVar 8) (eVar 5)]⟩]) (eList false [])]⟩]),
  sIte (bCmp .eq (eVar 4) (eLit (.str []))) [
    sRet (eCmp .ne (eVar 6) (eList false []))] [],
  sRet (eAO true [eCmp .eq (eVar 6) (eList false []), eCall (eLit (.fn 21)) [eVar 2, eVar 4]])] }
noncomputable def fs : List Fn := [Lib.f_heappush, Lib.f_heappop, Lib.f__siftdown, Lib.f__siftup, Lib.f_translate, Lib.f__translate, Lib.f__join_translated_parts, Lib.f___init__, Lib.f__convert_string_type, Lib.f___setitem__, Lib.f___delitem__, Lib.f_get_all, Lib.f_get, Lib.f_items, Lib.f_add_header, f__law_table, f__law_names, f__law_word, f__law_reach, f__law_twins, f__law_step, f__law_shortest, f_law]
noncomputable def prog : Prog := { fs := fs, initN := 7, setN := 9, delN := 10 }
noncomputable def globs : List (Tx × AV) := [([104, 101, 97, 112, 112, 117, 115, 104], .fn 0), ([104, 101, 97, 112, 112, 111, 112], .fn 1), ([95, 115, 105, 102, 116, 100, 111, 119, 110], .fn 2), ([95, 115, 105, 102, 116, 117, 112], .fn 3), ([116, 114, 97, 110, 115, 108, 97, 116, 101], .fn 4), ([95, 116, 114, 97, 110, 115, 108, 97, 116, 101], .fn 5), ([95, 106, 111, 105, 110, 95, 116, 114, 97, 110, 115, 108, 97, 116, 101, 100, 95, 112, 97, 114, 116, 115], .fn 6), ([95, 108, 97, 119, 95, 116, 97, 98, 108, 101], .fn 15), ([95, 108, 97, 119, 95, 110, 97, 109, 101, 115], .fn 16), ([95, 108, 97, 119, 95, 119, 111, 114, 100], .fn 17), ([95, 108, 97, 119, 95, 114, 101, 97, 99, 104], .fn 18), ([95, 108, 97, 119, 95, 116, 119, 105, 110, 115], .fn 19), ([95, 108, 97, 119, 95, 115, 116, 101, 112], .fn 20), ([95, 108, 97, 119, 95, 115, 104, 111, 114, 116, 101, 115, 116], .fn 21), ([108, 97, 119], .fn 22), ([72, 101, 97, 100, 101, 114, 115], .cls), ([95, 110, 97, 109, 101, 95, 100, 105, 115, 97, 108, 108, 111, 119, 101, 100, 95, 114, 101], .re 0), ([95, 118, 97, 108, 117, 101, 95, 100, 105, 115, 97, 108, 108, 111, 119, 101, 100, 95, 114, 101], .re 1), ([95, 116, 119, 105, 110, 95, 114, 101, 95, 49], .re 2), ([108, 101, 110], .bi .len), ([109, 97, 120], .bi .max), ([109, 105, 110], .bi .min), ([115, 117, 109], .bi .sum), ([105, 110, 116], .ty .int), ([115, 116, 114], .ty .str), ([108, 105, 115, 116], .ty .list), ([114, 97, 110, 103, 101], .ty .range), ([122, 105, 112], .ty .zip), ([116, 121, 112, 101], .ty .type), ([111, 98, 106, 101, 99, 116], .ty .object)]
noncomputable def meths : List (Tx × Nat) := [([95, 95, 105, 110, 105, 116, 95, 95], 7), ([95, 99, 111, 110, 118, 101, 114, 116, 95, 115, 116, 114, 105, 110, 103, 95, 116, 121, 112, 101], 8), ([103, 101, 116, 95, 97, 108, 108], 11), ([103, 101, 116], 12), ([105, 116, 101, 109, 115], 13), ([97, 100, 100, 95, 104, 101, 97, 100, 101, 114], 14)]
noncomputable def marks : List (Nat × Nat) := [(116, 10), (142, 29), (178, 10), (191, 16), (21, 54), (88, 16), (263, 17), (263, 36), (289, 55), (295, 16), (282, 11)]
end Ev.L2
namespace Ev.L2
open PySem PySem.W
noncomputable def tops : Tops := { globs, meths, marks, lams := [5] }
noncomputable def lay : Lay := { fns := [231, 238, 245, 252, 198, 217, 224, 76, 83, 97, 102, 121, 129, 146, 179, 259, 264, 269, 274, 279, 284, 291, 296], cls := 182, res := [48, 53, 191], code := 216, tab := 212 }
end Ev.L2
namespace Hp
variable {α : Type}
structure TO (lt : α → α → Bool) : Prop where
  asym : ∀ {a b}, lt a b = true → lt b a = false
  trans : ∀ {a b c}, lt b a = false → lt c b = false → lt c a = false
noncomputable def sd (lt : α → α → Bool) (item : α) : Nat → List α → Nat → List α
  | 0, xs, pos => xs.set pos item
  | f + 1, xs, pos => if 0 < pos then match xs[(pos - 1) / 2]? with
    | some p => if lt item p then sd lt item f (xs.set pos p) ((pos - 1) / 2) else xs.set pos item
    | none => xs
    else xs.set pos item
noncomputable def kid (lt : α → α → Bool) (xs : List α) (c : Nat) : Nat := match xs[c]?, xs[c + 1]? with
  | some a, some b => if lt a b then c else c + 1
  | _, _ => c
noncomputable def su (lt : α → α → Bool) : Nat → List α → Nat → List α × Nat
  | 0, xs, pos => (xs, pos)
  | f + 1, xs, pos => if 2 * pos + 1 < xs.length then match xs[kid lt xs (2 * pos + 1)]? with
    | some v => su lt f (xs.set pos v) (kid lt xs (2 * pos + 1))
    | none => (xs, pos)
    else (xs, pos)
noncomputable def push (lt : α → α → Bool) (xs : List α) (x : α) : List α := sd lt x xs.length (xs ++ [x]) xs.length
noncomputable def fix (lt : α → α → Bool) (x : α) (xs : List α) : List α := sd lt x (su lt xs.length xs 0).2 ((su lt xs.length xs 0).1.set (su lt xs.length xs 0).2 x) (su lt xs.length xs 0).2
noncomputable def rest (lt : α → α → Bool) (xs : List α) : List α := match xs.getLast? with
  | some l => match xs.dropLast with
    | [] => []
    | y :: ys => fix lt l (l :: ys)
  | none => []
noncomputable def Le (lt : α → α → Bool) (xs : List α) (i j : Nat) : Prop := ∀ a b, xs[i]? = some a → xs[j]? = some b → lt b a = false
noncomputable def Heap (lt : α → α → Bool) (xs : List α) : Prop := ∀ i, 0 < i → Le lt xs ((i - 1) / 2) i
structure Hole (lt : α → α → Bool) (xs : List α) (pos : Nat) : Prop where
  other : ∀ i, 0 < i → i ≠ pos → (i - 1) / 2 ≠ pos → Le lt xs ((i - 1) / 2) i
  over : 0 < pos → ∀ i, 0 < i → (i - 1) / 2 = pos → Le lt xs ((pos - 1) / 2) i
noncomputable def Under (lt : α → α → Bool) (item : α) (xs : List α) (pos : Nat) : Prop := ∀ i b, 0 < i → (i - 1) / 2 = pos → xs[i]? = some b → lt b item = false
theorem half_lt {i : Nat} (h : 0 < i) : (i - 1) / 2 < i := Nat.lt_of_le_of_lt (Nat.div_le_self _ _) (Nat.sub_lt h Nat.one_pos)
theorem half_ne {i : Nat} (h : 0 < i) : i ≠ (i - 1) / 2 := Nat.ne_of_gt (half_lt h)
theorem half_of {i p : Nat} (h : 0 < i) (e : (i - 1) / 2 = p) : i = 2 * p + 1 ∨ i = 2 * p + 1 + 1 := by omega
theorem half_l (p : Nat) : (2 * p + 1 - 1) / 2 = p := Nat.mul_div_cancel_left p (Nat.zero_lt_succ 1)
theorem half_r (p : Nat) : (2 * p + 1 + 1 - 1) / 2 = p := by rw [Nat.add_sub_cancel]; exact Nat.mul_add_div (Nat.zero_lt_succ 1) p 1
theorem lt_kid (p : Nat) : p < 2 * p + 1 := Nat.lt_succ_of_le (Nat.le_mul_of_pos_left p (Nat.zero_lt_succ 1))
theorem inj {a b : α} (h : some a = some b) : a = b := sJ h
theorem get_set_ne {xs : List α} {p i : Nat} {v : α} (h : p ≠ i) : (xs.set p v)[i]? = xs[i]? := by rw [List.getElem?_set_ne h]
theorem get_set {xs : List α} {p : Nat} {v : α} (h : p < xs.length) : (xs.set p v)[p]? = some v := by rw [List.getElem?_set_self h]
theorem set_eq {xs : List α} {p : Nat} {v a : α} (h : p < xs.length) (e : (xs.set p v)[p]? = some a) : v = a := inj ((get_set h).symm.trans e)
theorem set_ne {xs : List α} {p i : Nat} {v a : α} (h : p ≠ i) (e : (xs.set p v)[i]? = some a) : xs[i]? = some a := (get_set_ne h).symm.trans e
theorem lt_of {xs : List α} {i : Nat} {a : α} (h : xs[i]? = some a) : i < xs.length := (List.getElem?_eq_some_iff.mp h).1
theorem le_set_ne {lt : α → α → Bool} {xs : List α} {p i j : Nat} {v : α} (hi : p ≠ i) (hj : p ≠ j) (h : Le lt xs i j) : Le lt (xs.set p v) i j := fun a b ea eb => h a b (set_ne hi ea) (set_ne hj eb)
theorem heap_of_hole {lt : α → α → Bool} {xs : List α} {pos : Nat} {item : α} (hp : pos < xs.length) (H : Hole lt xs pos) (U : Under lt item xs pos) (L : 0 < pos → ∀ a, xs[(pos - 1) / 2]? = some a → lt item a = false) : Heap lt (xs.set pos item) := by
  intro i hi
  by_cases h1 : i = pos
  · rw [h1]
    rw [h1] at hi
    intro a b ea eb
    rw [← set_eq hp eb]
    exact L hi a (set_ne (half_ne hi) ea)
  · by_cases h2 : (i - 1) / 2 = pos
    · intro a b ea eb
      rw [h2] at ea
      rw [← set_eq hp ea]
      exact U i b hi h2 (set_ne (Ne.symm h1) eb)
    · exact le_set_ne (Ne.symm h2) (Ne.symm h1) (H.other i hi h1 h2)
section
variable {lt : α → α → Bool} {item : α} {xs : List α} {pos q : Nat} {p : α}
theorem sd_hole (O : TO lt) (h0 : 0 < pos) (hq : (pos - 1) / 2 = q) (hp : pos < xs.length) (hpp : xs[q]? = some p) (H : Hole lt xs pos) : Hole lt (xs.set pos p) q := by
  have hqp : q < pos := hq ▸ half_lt h0
  refine ⟨fun i hi h1 h2 => ?_, fun h3 i hi h2 => ?_⟩
  · by_cases e : i = pos
    · exact absurd hq (e ▸ h2)
    · by_cases e2 : (i - 1) / 2 = pos
      · intro a b ea eb
        rw [e2] at ea
        rw [← set_eq hp ea]
        have := H.over h0 i hi e2
        rw [hq] at this
        exact this p b hpp (set_ne (Ne.symm e) eb)
      · exact le_set_ne (Ne.symm e2) (Ne.symm e) (H.other i hi e e2)
  · have hl := half_lt h3
    intro a b ea eb
    have hap : lt p a = false := H.other q h3 (Nat.ne_of_lt hqp) (Nat.ne_of_lt (Nat.lt_trans hl hqp)) a p (set_ne (Nat.ne_of_gt (Nat.lt_trans hl hqp)) ea) hpp
    by_cases e : i = pos
    · rw [e] at eb
      rw [← set_eq hp eb]; exact hap
    · have := H.other i hi e (h2 ▸ Nat.ne_of_lt hqp)
      rw [h2] at this
      exact O.trans hap (this p b hpp (set_ne (Ne.symm e) eb))
theorem sd_under (O : TO lt) (h0 : 0 < pos) (hq : (pos - 1) / 2 = q) (hp : pos < xs.length) (hpp : xs[q]? = some p) (H : Hole lt xs pos) (hlt : lt item p = true) : Under lt item (xs.set pos p) q := fun i b hi h2 eb => by
  have hqp : q < pos := hq ▸ half_lt h0
  by_cases e : i = pos
  · rw [e] at eb
    rw [← set_eq hp eb]; exact O.asym hlt
  · have := H.other i hi e (h2 ▸ Nat.ne_of_lt hqp)
    rw [h2] at this
    exact O.trans (O.asym hlt) (this p b hpp (set_ne (Ne.symm e) eb))
end
theorem sd_heap {lt : α → α → Bool} (O : TO lt) {item : α} (f : Nat) : ∀ (xs : List α) (pos : Nat), pos ≤ f → pos < xs.length → Hole lt xs pos → Under lt item xs pos → Heap lt (sd lt item f xs pos) := by
  induction f with
  | zero => exact fun xs pos hf hp H U => heap_of_hole hp H U fun h => absurd h (Nat.not_lt.mpr hf)
  | succ f ih =>
    intro xs pos hf hp H U
    rw [sd]
    by_cases h0 : 0 < pos
    · have hlt := half_lt h0
      have hql := Nat.lt_trans hlt hp
      have hpp : xs[(pos - 1) / 2]? = some xs[(pos - 1) / 2] := List.getElem?_eq_getElem hql
      rw [if_pos h0, hpp]
      dsimp only
      by_cases hc : lt item xs[(pos - 1) / 2] = true
      · rw [if_pos hc]
        exact ih _ _ (Nat.le_of_lt_succ (Nat.lt_of_lt_of_le hlt hf)) (by rw [List.length_set]; exact Nat.lt_trans hlt hp) (sd_hole O h0 rfl hp hpp H) (sd_under O h0 rfl hp hpp H hc)
      · rw [if_neg hc]
        exact heap_of_hole hp H U fun _ a ea => inj (hpp.symm.trans ea) ▸ Bool.eq_false_iff.mpr hc
    · rw [if_neg h0]
      exact heap_of_hole hp H U fun h => absurd h h0
theorem swap_perm {xs : List α} {i j : Nat} {v item : α} (hi : i < xs.length) (hj : xs[j]? = some v) (hij : i ≠ j) : ((xs.set i v).set j item).Perm (xs.set i item) := by
  obtain ⟨hjl, hv⟩ := List.getElem?_eq_some_iff.mp hj
  have h := List.set_set_perm (as := xs.set i item) (i := i) (j := j) (by rw [List.length_set]; exact hi) (by rw [List.length_set]; exact hjl)
  rw [List.getElem_set_ne hij, List.getElem_set_self, hv, List.set_set] at h
  exact h
theorem sd_perm {lt : α → α → Bool} {item : α} (f : Nat) : ∀ (xs : List α) (pos : Nat), pos < xs.length → (sd lt item f xs pos).Perm (xs.set pos item) := by
  induction f with
  | zero => exact fun xs pos _ => .refl _
  | succ f ih =>
    intro xs pos hp
    rw [sd]
    by_cases h0 : 0 < pos
    · have hlt := half_lt h0
      have hql := Nat.lt_trans hlt hp
      have hpp : xs[(pos - 1) / 2]? = some xs[(pos - 1) / 2] := List.getElem?_eq_getElem hql
      rw [if_pos h0, hpp]
      dsimp only
      by_cases hc : lt item xs[(pos - 1) / 2] = true
      · rw [if_pos hc]
        exact (ih _ _ (by rw [List.length_set]; exact Nat.lt_trans hlt hp)).trans (swap_perm hp hpp (half_ne h0))
      · rw [if_neg hc]
    · rw [if_neg h0]
theorem push_len (xs : List α) (x : α) : xs.length < (xs ++ [x]).length := by rw [List.length_append]; exact Nat.lt_succ_self _
theorem push_perm {lt : α → α → Bool} (xs : List α) (x : α) : (push lt xs x).Perm (x :: xs) := by
  have h := sd_perm (lt := lt) (item := x) xs.length (xs ++ [x]) xs.length (push_len xs x)
  rw [List.set_append_right _ _ (Nat.le_refl _), Nat.sub_self] at h
  exact h.trans (List.perm_append_singleton x xs)
theorem push_heap {lt : α → α → Bool} (O : TO lt) {xs : List α} (H : Heap lt xs) (x : α) : Heap lt (push lt xs x) := by
  have hl : ∀ {i : Nat} {b : α}, 0 < i → (xs ++ [x])[i]? = some b → i ≤ xs.length := fun {i b} _ eb => by
    have := lt_of eb
    rw [List.length_append] at this
    exact Nat.le_of_lt_succ this
  have no : ∀ {i : Nat} {b : α}, 0 < i → (i - 1) / 2 = xs.length → (xs ++ [x])[i]? = some b → False := fun {i b} hi h2 eb => Nat.not_lt.mpr (hl hi eb) (h2 ▸ half_lt hi)
  refine sd_heap O xs.length (xs ++ [x]) xs.length (Nat.le_refl _) (push_len xs x) ⟨fun i hi h1 h2 a b ea eb => ?_, fun h3 i hi h2 a b ea eb => (no hi h2 eb).elim⟩ fun i b hi h2 eb => (no hi h2 eb).elim
  have h : i < xs.length := Nat.lt_of_le_of_ne (hl hi eb) h1
  rw [List.getElem?_append_left (Nat.lt_trans (half_lt hi) h)] at ea
  rw [List.getElem?_append_left h] at eb
  exact H i hi a b ea eb
theorem irr {lt : α → α → Bool} (O : TO lt) (a : α) : lt a a = false := Bool.eq_false_iff.mpr fun h => tF (h.symm.trans (O.asym h))
theorem kid_spec {lt : α → α → Bool} (O : TO lt) {xs : List α} {c : Nat} (hc : c < xs.length) : ∃ v, xs[kid lt xs c]? = some v ∧ (kid lt xs c = c ∨ kid lt xs c = c + 1) ∧ (∀ b, xs[c]? = some b → lt b v = false) ∧ ∀ b, xs[c + 1]? = some b → lt b v = false := by
  have ec : xs[c]? = some xs[c] := List.getElem?_eq_getElem hc
  have hk : kid lt xs c = match some xs[c], xs[c + 1]? with
    | some a, some b => if lt a b then c else c + 1
    | _, _ => c := by unfold kid; rw [ec]
  generalize xs[c] = a at *
  cases h : xs[c + 1]? with
  | none =>
    rw [h] at hk
    rw [show kid lt xs c = c from hk]
    exact ⟨a, ec, .inl rfl, fun b e => inj (ec.symm.trans e) ▸ irr O a, fun b e => nN e⟩
  | some b =>
    rw [h] at hk
    have hk : kid lt xs c = if lt a b then c else c + 1 := hk
    by_cases hlt : lt a b = true
    · rw [if_pos hlt] at hk
      rw [hk]
      exact ⟨a, ec, .inl rfl, fun y e => inj (ec.symm.trans e) ▸ irr O a, fun y e => inj e ▸ O.asym hlt⟩
    · rw [if_neg hlt] at hk
      rw [hk]
      exact ⟨b, h, .inr rfl, fun y e => inj (ec.symm.trans e) ▸ Bool.eq_false_iff.mpr hlt, fun y e => inj e ▸ irr O b⟩
structure Sunk (lt : α → α → Bool) (xs : List α) (pos : Nat) (r : List α × Nat) : Prop where
  inn : r.2 < r.1.length
  len : r.1.length = xs.length
  hole : Hole lt r.1 r.2
  leaf : xs.length ≤ 2 * r.2 + 1
  perm : ∀ item, (r.1.set r.2 item).Perm (xs.set pos item)
theorem su_hole {lt : α → α → Bool} {xs : List α} {pos k : Nat} {v : α} (hp : pos < xs.length) (hv : xs[k]? = some v) (hk : k = 2 * pos + 1 ∨ k = 2 * pos + 1 + 1) (hl : ∀ b, xs[2 * pos + 1]? = some b → lt b v = false) (hr : ∀ b, xs[2 * pos + 1 + 1]? = some b → lt b v = false) (H : Hole lt xs pos) : Hole lt (xs.set pos v) k := by
  have hkp : (k - 1) / 2 = pos := by
    rcases hk with rfl | rfl
    · exact half_l pos
    · exact half_r pos
  have hpk : pos < k := by
    rcases hk with rfl | rfl
    · exact lt_kid pos
    · exact Nat.lt_succ_of_lt (lt_kid pos)
  have hk0 : 0 < k := Nat.lt_of_le_of_lt (Nat.zero_le _) hpk
  refine ⟨fun i hi h1 h2 => ?_, fun h3 i hi h2 => ?_⟩
  · by_cases e : i = pos
    · rw [e] at hi ⊢
      intro a b ea eb
      rw [← set_eq hp eb]
      exact H.over hi k hk0 hkp a v (set_ne (half_ne hi) ea) hv
    · by_cases e2 : (i - 1) / 2 = pos
      · intro a b ea eb
        rw [e2] at ea
        rw [← set_eq hp ea]
        have eb := set_ne (Ne.symm e) eb
        rcases half_of hi e2 with rfl | rfl
        · exact hl b eb
        · exact hr b eb
      · exact le_set_ne (Ne.symm e2) (Ne.symm e) (H.other i hi e e2)
  · intro a b ea eb
    rw [hkp] at ea
    rw [← set_eq hp ea]
    have hik : k < i := h2 ▸ half_lt hi
    have := H.other i hi (Nat.ne_of_gt (Nat.lt_trans hpk hik)) (h2 ▸ Nat.ne_of_gt hpk)
    rw [h2] at this
    exact this v b hv (set_ne (Nat.ne_of_lt (Nat.lt_trans hpk hik)) eb)
theorem su_spec {lt : α → α → Bool} (O : TO lt) (f : Nat) : ∀ (xs : List α) (pos : Nat), xs.length ≤ f + pos → pos < xs.length → Hole lt xs pos → Sunk lt xs pos (su lt f xs pos) := by
  induction f with
  | zero => exact fun xs pos hf hp _ => absurd hp (Nat.not_lt.mpr (Nat.zero_add pos ▸ hf))
  | succ f ih =>
    intro xs pos hf hp H
    rw [su]
    by_cases hc : 2 * pos + 1 < xs.length
    · obtain ⟨v, hv, hk, hl, hr⟩ := kid_spec O hc
      rw [if_pos hc, hv]
      dsimp only
      generalize kid lt xs (2 * pos + 1) = k at *
      have hpk : pos < k := by
        rcases hk with rfl | rfl
        · exact lt_kid pos
        · exact Nat.lt_succ_of_lt (lt_kid pos)
      have S := ih (xs.set pos v) k (by rw [List.length_set]; exact Nat.le_trans hf (by rw [Nat.add_right_comm]; exact Nat.add_le_add_left hpk f)) (by rw [List.length_set]; exact lt_of hv) (su_hole hp hv hk hl hr H)
      have e : (xs.set pos v).length = xs.length := List.length_set ..
      exact ⟨S.inn, S.len.trans e, S.hole, e ▸ S.leaf, fun item => (S.perm item).trans (swap_perm hp hv (Nat.ne_of_lt hpk))⟩
    · rw [if_neg hc]
      exact ⟨hp, rfl, H, Nat.le_of_not_lt hc, fun _ => .refl _⟩
theorem su_len {lt : α → α → Bool} (f : Nat) : ∀ (xs : List α) (pos : Nat), pos < xs.length → (su lt f xs pos).2 < (su lt f xs pos).1.length ∧ (su lt f xs pos).1.length = xs.length := by
  induction f with
  | zero => exact fun xs pos hp => ⟨hp, rfl⟩
  | succ f ih =>
    intro xs pos hp
    rw [su]
    by_cases hc : 2 * pos + 1 < xs.length
    · rw [if_pos hc]
      cases hv : xs[kid lt xs (2 * pos + 1)]? with
      | none => exact ⟨hp, rfl⟩
      | some v =>
        have h := ih (xs.set pos v) (kid lt xs (2 * pos + 1)) (by rw [List.length_set]; exact lt_of hv)
        exact ⟨h.1, h.2.trans (List.length_set ..)⟩
    · rw [if_neg hc]; exact ⟨hp, rfl⟩
theorem fix_spec {lt : α → α → Bool} (O : TO lt) {x : α} {xs : List α} (hx : 0 < xs.length) (H : Hole lt xs 0) : Heap lt (fix lt x xs) ∧ (fix lt x xs).Perm (xs.set 0 x) := by
  have S := su_spec O xs.length xs 0 (Nat.le_refl _) hx H
  unfold fix
  generalize su lt xs.length xs 0 = r at *
  have hlen : (r.1.set r.2 x).length = xs.length := (List.length_set ..).trans S.len
  have hlt : r.2 < (r.1.set r.2 x).length := by rw [List.length_set]; exact S.inn
  have no : ∀ {i : Nat} {b : α}, 0 < i → (i - 1) / 2 = r.2 → (r.1.set r.2 x)[i]? = some b → False := fun {i b} hi h eb => by
    have h1 := lt_of eb
    rw [hlen] at h1
    have h2 := Nat.lt_of_lt_of_le h1 S.leaf
    rcases half_of hi h with rfl | rfl
    · exact Nat.lt_irrefl _ h2
    · exact Nat.not_lt.mpr (Nat.le_succ _) h2
  refine ⟨sd_heap O _ _ _ (Nat.le_refl _) hlt ⟨fun i hi h1 h2 => le_set_ne (Ne.symm h2) (Ne.symm h1) (S.hole.other i hi h1 h2), fun h3 i hi h2 a b ea eb => (no hi h2 eb).elim⟩ fun i b hi h2 eb => (no hi h2 eb).elim, ?_⟩
  have := sd_perm (lt := lt) (item := x) r.2 (r.1.set r.2 x) r.2 hlt
  rw [List.set_set] at this
  exact this.trans (S.perm x)
theorem heap_root {lt : α → α → Bool} (O : TO lt) {xs : List α} (H : Heap lt xs) {m : α} (hm : xs[0]? = some m) : ∀ (i : Nat) (b : α), xs[i]? = some b → lt b m = false := by
  intro i
  induction i using Nat.strongRecOn with
  | ind i ih =>
    intro b hb
    rcases Nat.eq_zero_or_pos i with h | h
    · rw [h] at hb
      exact inj (hm.symm.trans hb) ▸ irr O m
    · have hl := Nat.lt_trans (half_lt h) (lt_of hb)
      have e : xs[(i - 1) / 2]? = some xs[(i - 1) / 2] := List.getElem?_eq_getElem hl
      exact O.trans (ih _ (half_lt h) _ e) (H i h _ b e hb)
theorem rest_spec {lt : α → α → Bool} (O : TO lt) {m : α} {xs : List α} (H : Heap lt (m :: xs)) : Heap lt (rest lt (m :: xs)) ∧ (m :: rest lt (m :: xs)).Perm (m :: xs) ∧ ∀ b ∈ m :: xs, lt b m = false := by
  have root : ∀ b ∈ m :: xs, lt b m = false := fun b hb => by
    obtain ⟨i, hi⟩ := List.mem_iff_getElem?.mp hb
    exact heap_root O H rfl i b hi
  cases xs with
  | nil => exact ⟨fun i _ a b ea _ => nN ea, .refl _, root⟩
  | cons y r =>
    have hne : y :: r ≠ [] := List.cons_ne_nil y r
    have hl : (m :: y :: r).getLast? = some ((y :: r).getLast hne) := List.getLast?_eq_some_getLast (List.cons_ne_nil _ _)
    have hd : (m :: y :: r).dropLast = m :: (y :: r).dropLast := rfl
    have hr : rest lt (m :: y :: r) = fix lt ((y :: r).getLast hne) ((y :: r).getLast hne :: (y :: r).dropLast) := by unfold rest; rw [hl, hd]
    have hcat : (y :: r).dropLast ++ [(y :: r).getLast hne] = y :: r := List.dropLast_concat_getLast hne
    generalize (y :: r).getLast hne = l at *
    generalize (y :: r).dropLast = ys at *
    have g : ∀ {j : Nat} {a : α}, 0 < j → (l :: ys)[j]? = some a → (m :: y :: r)[j]? = some a := fun {j a} hj h => by
      obtain ⟨k, rfl⟩ := Nat.exists_eq_succ_of_ne_zero (Nat.ne_of_gt hj)
      have h : ys[k]? = some a := h
      show (y :: r)[k]? = some a
      rw [← hcat, List.getElem?_append_left (lt_of h)]; exact h
    have F := fix_spec O (x := l) (xs := l :: ys) (Nat.succ_pos _) ⟨fun i hi h1 h2 a b ea eb => H i hi a b (g (Nat.pos_of_ne_zero h2) ea) (g hi eb), fun h => absurd h (Nat.lt_irrefl _)⟩
    rw [hr]
    refine ⟨F.1, .cons m (F.2.trans ?_), root⟩
    rw [List.set_cons_zero, ← hcat]
    exact (List.perm_append_singleton l ys).symm
end Hp
namespace Ev
theorem lt_ok {a b : Nat} (h : Nat.blt a b = true) : a < b := Nat.le_of_ble_eq_true h
theorem bindE {α β : Type} {a : Option α} {f : α → Option β} {x : α} {r : Option β} (h : a = some x) (h2 : f x = r) : a.bind f = r := by rw [h]; exact h2
theorem mapE {α β : Type} {a : Option α} {f : α → β} {x : α} {r : Option β} (h : a = some x) (h2 : some (f x) = r) : a.map f = r := by rw [h]; exact h2
section
variable {W : Wd} {n i : Nat} {fr fr₁ fr₂ : Fr} {cs cs₁ cs₂ cs₃ cs₄ : Cells} {a b e f o : ME} {x y v : AV} {r as : List ME} {ss : List MS} {s : MS} {c : MB} {z : Option (AV × Cells)} {q : Option Ou}
theorem ss_next (h : s W n fr cs = some ⟨.next, fr₁, cs₁⟩) (h2 : evSs W n ss fr₁ cs₁ = q) : evSs W n (s :: ss) fr cs = q := bindE h h2
theorem ss_cont (h : s W n fr cs = some ⟨.cont, fr₁, cs₁⟩) : evSs W n (s :: ss) fr cs = some ⟨.cont, fr₁, cs₁⟩ := bindE h rfl
theorem ss_brk (h : s W n fr cs = some ⟨.brk, fr₁, cs₁⟩) : evSs W n (s :: ss) fr cs = some ⟨.brk, fr₁, cs₁⟩ := bindE h rfl
theorem ss_ret (h : s W n fr cs = some ⟨.ret v, fr₁, cs₁⟩) : evSs W n (s :: ss) fr cs = some ⟨.ret v, fr₁, cs₁⟩ := bindE h rfl
theorem as_var (h : e W n fr cs = some (v, cs₁)) (hi : i < fr.length) : sAssign (tVar i) e W n fr cs = some ⟨.next, fr.set i (some v), cs₁⟩ := bindE h (mapE (if_pos hi) rfl)
theorem as_idx {p : ME} (he : e W n fr cs = some (v, cs₁)) (ho : o W n fr cs₁ = some (x, cs₂)) (hi : p W n fr cs₂ = some (y, cs₃)) (hn : isInst cs₃ x = false) (hs : setIdx n x y v cs₃ = some cs₄) : sAssign (tIdx o p) e W n fr cs = some ⟨.next, fr, cs₄⟩ :=
  bindE he (mapE (bindE ho (bindE hi ((if_neg (by rw [hn]; exact Bool.false_ne_true)).trans (mapE hs rfl)))) rfl)
theorem s_if {t : Bool} {ss' : List MS} (h : c W n fr cs = some (t, cs₁)) (h2 : (if t then evSs W n ss fr cs₁ else evSs W n ss' fr cs₁) = q) : sIte c ss ss' W n fr cs = q := bindE h h2
theorem s_expr (h : e W n fr cs = some (.none, cs₁)) : sExpr e W n fr cs = some ⟨.next, fr, cs₁⟩ := bindE h rfl
theorem s_ret (h : e W n fr cs = some (v, cs₁)) : sRet e W n fr cs = some ⟨.ret v, fr, cs₁⟩ := mapE h rfl
theorem b_cmp {op : COp} {t : Bool} (ha : a W n fr cs = some (x, cs₁)) (hb : b W n fr cs₁ = some (y, cs₂)) (hc : cmpv cs₂ op x y = some t) : bCmp op a b W n fr cs = some (t, cs₂) := bindE ha (bindE hb (mapE hc rfl))
theorem e_cmp {op : COp} {t : Bool} (ha : a W n fr cs = some (x, cs₁)) (hb : b W n fr cs₁ = some (y, cs₂)) (hc : cmpv cs₂ op x y = some t) : eCmp op a b W n fr cs = some (.bool t, cs₂) := bindE ha (bindE hb (mapE hc rfl))
theorem e_bin {m : Bool} {op : BOp} (ha : a W n fr cs = some (x, cs₁)) (hb : b W n fr cs₁ = some (y, cs₂)) (hz : binv m op x y cs₂ = z) : eBin m op a b W n fr cs = z := bindE ha (bindE hb hz)
theorem e_idx (ha : a W n fr cs = some (x, cs₁)) (hb : b W n fr cs₁ = some (y, cs₂)) (hz : idxv cs₂ x y = some v) : eIdx a b W n fr cs = some (v, cs₂) := bindE ha (bindE hb (mapE hz rfl))
theorem e_call {xs : List AV} (hf : f W n fr cs = some (x, cs₁)) (ha : evEs W n as fr cs₁ = some (xs, cs₂)) (hz : callv W x xs n cs₂ = z) : eCall f as W n fr cs = z := bindE hf (bindE ha hz)
theorem es_cons {xs : List AV} (h : a W n fr cs = some (x, cs₁)) (h2 : evEs W n r fr cs₁ = some (xs, cs₂)) : evEs W n (a :: r) fr cs = some (x :: xs, cs₂) := bindE h (mapE h2 rfl)
theorem e_meth {nm : MN} {own : Option Nat} {xs : List AV} (ho : o W n fr cs = some (x, cs₁)) (ha : evEs W n as fr cs₁ = some (xs, cs₂)) (hn : isInst cs₁ x = false) (hm : methOk cs₁ x nm = true) (hz : mcall n x nm xs cs₂ = z) : eMeth o nm own as W n fr cs = z :=
  bindE ho (bindE ha ((if_neg (by rw [hn]; exact Bool.false_ne_true)).trans ((if_pos hm).trans hz)))
theorem e_own {nm : MN} {k : Nat} {xs : List AV} (ho : o W n fr cs = some (x, cs₁)) (ha : evEs W n as fr cs₁ = some (xs, cs₂)) (hn : isInst cs₁ x = true) (hz : W.cf k (x :: xs) none cs₂ = z) : eMeth o nm (some k) as W n fr cs = z :=
  bindE ho (bindE ha ((if_pos hn).trans hz))
theorem e_ownk {k : Nat} {xs : List AV} (ho : o W n fr cs = some (x, cs₁)) (ha : evEs W n as fr cs₁ = some (xs, cs₂)) (hk : e W n fr cs₂ = some (v, cs₃)) (hn : isInst cs₁ x = true) (hz : W.cf k (x :: xs) (some v) cs₃ = z) : eMethk o k as e W n fr cs = z :=
  bindE ho (bindE ha (bindE hk ((if_pos hn).trans hz)))
theorem run_of {F : Fn} {args ps : List AV} {kw : Option AV} {fl : Fl} (hb : F.bind args kw cs = some (ps, cs₁)) (h : evSs W n F.body (ps.map some ++ List.replicate (F.slots - ps.length) none) cs₁ = some ⟨fl, fr₁, cs₂⟩) (hv : retv fl = some v) : F.run W n args kw cs = some (v, cs₂) := bindE hb (bindE h (mapE hv rfl))
noncomputable def stepW (W : Wd) (n : Nat) (c : MB) (b : List MS) (fr : Fr) (cs : Cells) : Option Ou := (c W n fr cs).bind fun r => if r.1 then evSs W n b fr r.2 else some ⟨.brk, fr, r.2⟩
noncomputable def stepF (W : Wd) (n : Nat) (t : List Nat) (b : List MS) (x : AV) (fr : Fr) (cs : Cells) : Option Ou := (bindT t x fr).bind fun fr' => evSs W n b fr' cs
theorem st_t (hc : c W n fr cs = some (true, cs₁)) (h : evSs W n ss fr cs₁ = q) : stepW W n c ss fr cs = q := bindE hc h
theorem st_f (hc : c W n fr cs = some (false, cs₁)) : stepW W n c ss fr cs = some ⟨.brk, fr, cs₁⟩ := bindE hc rfl
theorem wh_next {st : Fr → Cells → Option Ou} {f : Nat} (h : st fr cs = some ⟨.next, fr₁, cs₁⟩) (h2 : whileGo st f fr₁ cs₁ = q) : whileGo st (f + 1) fr cs = q := bindE h h2
theorem wh_cont {st : Fr → Cells → Option Ou} {f : Nat} (h : st fr cs = some ⟨.cont, fr₁, cs₁⟩) (h2 : whileGo st f fr₁ cs₁ = q) : whileGo st (f + 1) fr cs = q := bindE h h2
theorem wh_brk {st : Fr → Cells → Option Ou} {f : Nat} (h : st fr cs = some ⟨.brk, fr₁, cs₁⟩) : whileGo st (f + 1) fr cs = some ⟨.next, fr₁, cs₁⟩ := bindE h rfl
theorem lt_int {x y : Int} : cmpv cs .lt (.int x) (.int y) = some (decide (x < y)) := rfl
theorem lt_true {x y : Int} (h : x < y) : cmpv cs .lt (.int x) (.int y) = some true := congrArg some (decide_eq_true h)
theorem lt_false {x y : Int} (h : ¬ x < y) : cmpv cs .lt (.int x) (.int y) = some false := congrArg some (decide_eq_false h)
theorem b_ao {t : Bool} {cs' : List MB} {g : Option (Bool × Cells)} {u : Bool} (h : c W n fr cs = some (t, cs₁)) (h2 : (if t = u then evAO W n u cs' fr cs₁ else some (t, cs₁)) = g) : bAO u (c :: cs') W n fr cs = g := bindE h h2
theorem ao_one {t u : Bool} (h : c W n fr cs = some (t, cs₁)) : evAO W n u [c] fr cs = some (t, cs₁) := bindE h (by cases t <;> cases u <;> rfl)
theorem b_not {t : Bool} (h : c W n fr cs = some (t, cs₁)) : bNot c W n fr cs = some (!t, cs₁) := mapE h rfl
theorem gt_int {x y : Int} : cmpv cs .gt (.int x) (.int y) = some (decide (y < x)) := rfl
theorem eq_int {x y : Int} : cmpv cs .eq (.int x) (.int y) = some (x == y) := rfl
theorem eq_str {x y : Tx} : cmpv cs .eq (.str x) (.str y) = some (x == y) := rfl
theorem shr_int {m : Bool} {x : Int} (h : 0 ≤ x) : binv m .shr (.int x) (.int 1) cs = some (.int (x / 2), cs) := mapE (if_pos ⟨rfl, h⟩) rfl
theorem mul_int {m : Bool} {x y : Int} (h : x.natAbs < 2 ^ 64) (h' : y.natAbs < 2 ^ 64) : binv m .mul (.int x) (.int y) cs = some (.int (x * y), cs) := if_pos ⟨h, h'⟩
theorem list_at {xs : List AV} (hc : cs[i]? = some (.list xs)) : listAt cs i = some xs := by unfold listAt; rw [hc]; rfl
theorem list_of {xs : List AV} (hc : cs[i]? = some (.list xs)) : listOf cs (.ref i) = some xs := list_at hc
theorem no_inst {xs : List AV} (hc : cs[i]? = some (.list xs)) : isInst cs (.ref i) = false := by
  show ((((cs[i]?).bind AObj.inst?).bind _).isSome) = false
  rw [hc]; rfl
theorem meth_list {nm : MN} {xs : List AV} (hc : cs[i]? = some (.list xs)) (h : nm.ofList = true) : methOk cs (.ref i) nm = true := by
  show ((listAt cs i).isSome && nm.ofList) = true
  rw [list_at hc, h]; rfl
theorem idxZ_nat {n p : Nat} (h : p < n) : idxZ n (p : Int) = some p := by
  unfold idxZ
  rw [if_pos (Int.natCast_nonneg p), if_pos (Int.ofNat_lt.mpr h), Int.toNat_natCast]
theorem set_self {o : AObj} (h : cs[i]? = some o) : cs.set i o = cs := by
  obtain ⟨hi, rfl⟩ := List.getElem?_eq_some_iff.mp h
  exact List.set_getElem_self hi
theorem get_set_self {o o' : AObj} (h : cs[i]? = some o) : (cs.set i o')[i]? = some o' := List.getElem?_set_self (List.getElem?_eq_some_iff.mp h).1
theorem set_take {cs : Cells} {i : Nat} {o : AObj} : (cs.set i o).take cs.length = cs.set i o := List.take_of_length_le (Nat.le_of_eq (List.length_set ..))
end
theorem below_ref {i : Nat} {r : List AV} : belows 0 (.ref i :: r) = false := by
  show (decide (i < 0) && _) = false
  rw [decide_eq_false (Nat.not_lt_zero i), Bool.false_and]
theorem call_run {P : Prog} {k j : Nat} {F : Fn} {args : List AV} {kw : Option AV} {cs cs₂ cs₃ : Cells} {v : AV} (h : P.fs[j]? = some F) (hb : belows 0 args = false) (hr : F.run (callAt P k) cs.length args kw cs = some (v, cs₂)) (hv : below 0 v = true) (ht : cs₂.take cs.length = cs₃) : (callAt P (k + 1)).cf j args kw cs = some (v, cs₃) := by
  refine bindE (f := fun F => closed (callAt P k) F args kw cs) h ?_
  show orElse (if (belows 0 args && kw.all (below 0)) = true then _ else none) _ (openRun (callAt P k) F args kw cs) = _
  rw [hb, Bool.false_and, if_neg Bool.false_ne_true]
  refine mapE hr ?_
  unfold shut
  rw [if_pos hv, ht]
namespace Lib
variable {α : Type} (enc : α → AV) (lt : α → α → Bool)
structure Enc : Prop where
  lt : ∀ (cs : Cells) (a b : α), ltv cs fuelEq (enc a) (enc b) = some (lt a b)
  below : ∀ a, below 0 (enc a) = true
variable {enc lt} {P : Prog} {k n i : Nat} {cs : Cells} {W : Wd}
noncomputable def sdTest : MB := bCmp .gt (eVar 2) (eVar 1)
noncomputable def sdBody : List MS := [
    sAssign (tVar 4) (eBin false .shr (eBin false .sub (eVar 2) (eLit (.int 1))) (eLit (.int 1))),
    sAssign (tVar 5) (eIdx (eVar 0) (eVar 4)),
    sIte (bCmp .lt (eVar 3) (eVar 5)) [
      sAssign (tIdx (eVar 0) (eVar 2)) (eVar 5),
      sAssign (tVar 2) (eVar 4),
      sCont] [],
    sBrk]
theorem idx_list {xs : List α} {p : Nat} {x : α} (hc : cs[i]? = some (.list (xs.map enc))) (hx : xs[p]? = some x) : idxv cs (.ref i) (.int (p : Int)) = some (enc x) := by
  show (listOf cs (.ref i)).bind (fun ys => (idxZ ys.length (p : Int)).bind fun k => ys[k]?) = _
  rw [list_of hc, Option.bind_some, List.length_map, idxZ_nat (List.getElem?_eq_some_iff.mp hx).1, Option.bind_some, List.getElem?_map, hx]; rfl
theorem set_list (E : Enc enc lt) {xs : List α} {p : Nat} {v : α} (hc : cs[i]? = some (.list (xs.map enc))) (hp : p < xs.length) : setIdx n (.ref i) (.int (p : Int)) (enc v) cs = some (cs.set i (.list ((xs.set p v).map enc))) := by
  show (listAt cs i).bind (fun ys => if put n i (enc v) = true ∧ (0 : Int) ≤ (p : Int) ∧ (p : Int) < ys.length then some (cs.set i (.list (ys.set (p : Int).toNat (enc v)))) else none) = _
  rw [list_at hc, Option.bind_some, if_pos, Int.toNat_natCast, List.map_set]
  exact ⟨by unfold put; rw [E.below, Bool.or_true], Int.natCast_nonneg p, by rw [List.length_map]; exact Int.ofNat_lt.mpr hp⟩
theorem half (p : Nat) : (((p + 1 : Nat) : Int) - 1) / 2 = ((p / 2 : Nat) : Int) := by rw [Int.natCast_succ, Int.add_sub_cancel]; exact (Int.natCast_ediv p 2).symm
theorem pred_nn (p : Nat) : (0 : Int) ≤ ((p + 1 : Nat) : Int) - 1 := by rw [Int.natCast_succ, Int.add_sub_cancel]; exact Int.natCast_nonneg p
noncomputable abbrev sdF (i : Nat) (p : Nat) (x : AV) (v4 v5 : Option AV) : Fr := [some (.ref i), some (.int 0), some (.int (p : Int)), some x, v4, v5]
theorem sd_head {x : AV} {p : Nat} {y : AV} {v4 v5 : Option AV} {t : Bool} (hx : idxv cs (.ref i) (.int ((p / 2 : Nat) : Int)) = some y) (hl : cmpv cs .lt x y = some t) {q : Option Ou}
    (h : (if t then evSs W n [sAssign (tIdx (eVar 0) (eVar 2)) (eVar 5), sAssign (tVar 2) (eVar 4), sCont] (sdF i (p + 1) x (some (.int ((p / 2 : Nat) : Int))) (some y)) cs else evSs W n [] (sdF i (p + 1) x (some (.int ((p / 2 : Nat) : Int))) (some y)) cs).bind
      (fun o => match o.fl with | .next => evSs W n [sBrk] o.fr o.cs | .brk => some o | .cont => some o | .ret _ => some o) = q) : stepW W n sdTest sdBody (sdF i (p + 1) x v4 v5) cs = q := by
  have s1 := as_var (i := 4) (W := W) (n := n) (fr := sdF i (p + 1) x v4 v5) (e_bin (e_bin (m := false) (op := .sub) (a := eVar 2) (b := eLit (.int 1)) rfl rfl rfl) (rfl : eLit (.int 1) W n _ _ = _) (shr_int (cs := cs) (m := false) (pred_nn p))) (lt_ok rfl)
  rw [half] at s1
  refine st_t (b_cmp rfl rfl (congrArg some (decide_eq_true (Int.natCast_pos.mpr (Nat.succ_pos p))))) (ss_next s1 (ss_next (as_var (e_idx rfl rfl hx) (lt_ok rfl)) ?_))
  refine (congrArg (Option.bind · _) ?_).trans h
  exact s_if (b_cmp rfl rfl hl) rfl
noncomputable def SdEnd (enc : α → AV) (i : Nat) (st : Fr → Cells → Option Ou) (item : α) (p f : Nat) (len : Nat) (cs : Cells) (v4 v5 : Option AV) (zs : List α) : Prop :=
  ∃ (v4' v5' : Option AV) (q : Nat) (ys : List α), whileGo st f (sdF i p (enc item) v4 v5) cs = some ⟨.next, sdF i q (enc item) v4' v5', cs.set i (.list (ys.map enc))⟩ ∧ q < ys.length ∧ ys.length = len ∧ ys.set q item = zs
theorem SdEnd.stop {st : Fr → Cells → Option Ou} {item : α} {p f : Nat} {xs : List α} {v4 v5 v4' v5' : Option AV} (hc : cs[i]? = some (.list (xs.map enc))) (h : st (sdF i p (enc item) v4 v5) cs = some ⟨.brk, sdF i p (enc item) v4' v5', cs⟩) (hp : p < xs.length) : SdEnd enc i st item p (f + 1) xs.length cs v4 v5 (xs.set p item) :=
  ⟨v4', v5', p, xs, (wh_brk h).trans (by rw [set_self hc]), hp, rfl, rfl⟩
theorem SdEnd.turn {st : Fr → Cells → Option Ou} {item x : α} {p q f : Nat} {xs zs : List α} {v4 v5 v4' v5' : Option AV} (h : st (sdF i p (enc item) v4 v5) cs = some ⟨.cont, sdF i q (enc item) v4' v5', cs.set i (.list ((xs.set p x).map enc))⟩)
    (h2 : SdEnd enc i st item q f (xs.set p x).length (cs.set i (.list ((xs.set p x).map enc))) v4' v5' zs) : SdEnd enc i st item p (f + 1) xs.length cs v4 v5 zs := by
  obtain ⟨v4'', v5'', r, ys, e, h1, h2, h3⟩ := h2
  rw [List.set_set] at e
  exact ⟨v4'', v5'', r, ys, wh_cont h e, h1, h2.trans (List.length_set ..), h3⟩
theorem sd_zero {x : AV} {v4 v5 : Option AV} : stepW W n sdTest sdBody (sdF i 0 x v4 v5) cs = some ⟨.brk, sdF i 0 x v4 v5, cs⟩ := st_f rfl
theorem sd_loop (E : Enc enc lt) {item : α} (g : Nat) : ∀ (p f : Nat) (xs : List α) (cs : Cells) (v4 v5 : Option AV), p ≤ g → p < f → cs[i]? = some (.list (xs.map enc)) → p < xs.length →
    SdEnd enc i (stepW W n sdTest sdBody) item p f xs.length cs v4 v5 (Hp.sd lt item g xs p) := by
  induction g with
  | zero =>
    intro p f xs cs v4 v5 hg hf hc hp
    obtain rfl := Nat.le_zero.mp hg
    obtain ⟨f, rfl⟩ := Nat.exists_eq_succ_of_ne_zero (Nat.ne_of_gt hf)
    exact .stop hc sd_zero hp
  | succ g ih =>
    intro p f xs cs v4 v5 hg hf hc hp
    obtain ⟨f, rfl⟩ := Nat.exists_eq_succ_of_ne_zero (Nat.ne_of_gt (Nat.lt_of_le_of_lt (Nat.zero_le _) hf))
    cases p with
    | zero => exact .stop hc sd_zero hp
    | succ p =>
    have hpp : p / 2 ≤ p := Nat.div_le_self p 2
    have hq : p / 2 < xs.length := Nat.lt_of_le_of_lt hpp (Nat.lt_of_succ_lt hp)
    have hx : xs[p / 2]? = some xs[p / 2] := List.getElem?_eq_getElem hq
    rw [Hp.sd, if_pos (Nat.succ_pos p), Nat.add_sub_cancel, hx]
    have hl := E.lt cs item xs[p / 2]
    generalize xs[p / 2] = y at *
    dsimp only
    cases hlt : lt item y with
    | true =>
      rw [hlt] at hl
      refine .turn (sd_head (idx_list hc hx) hl (bindE (ss_next (as_idx rfl rfl rfl (no_inst hc) (set_list E hc hp)) rfl) rfl)) ?_
      exact ih (p / 2) f (xs.set (p + 1) y) _ _ _ (Nat.le_trans hpp (Nat.le_of_succ_le_succ hg)) (Nat.lt_of_le_of_lt hpp (Nat.lt_of_succ_lt_succ hf)) (get_set_self hc) (by rw [List.length_set]; exact hq)
    | false =>
      rw [hlt] at hl
      exact .stop hc (sd_head (idx_list hc hx) hl rfl) hp
theorem sd_run (E : Enc enc lt) (hP : P.fs[2]? = some f__siftdown) {xs : List α} {p : Nat} {item : α} (hc : cs[i]? = some (.list (xs.map enc))) (hx : xs[p]? = some item) (hp : p < 3000) :
    (callAt P (k + 1)).cf 2 [.ref i, .int 0, .int (p : Int)] none cs = some (.none, cs.set i (.list ((Hp.sd lt item p xs p).map enc))) := by
  have hpl : p < xs.length := (List.getElem?_eq_some_iff.mp hx).1
  obtain ⟨v4, v5, q, ys, e, h1, h2, h3⟩ := sd_loop (W := callAt P k) (n := cs.length) (item := item) E p p loopFuel xs cs none none (Nat.le_refl _) (Nat.lt_trans hp (by decide)) hc hpl
  rw [← h3]
  have hset := set_list (n := cs.length) E (p := q) (v := item) (get_set_self (o' := .list (ys.map enc)) hc) h1
  rw [List.set_set] at hset
  exact call_run hP below_ref (run_of rfl (ss_next (as_var (e_idx rfl rfl (idx_list hc hx)) (lt_ok rfl)) (ss_next e (ss_next (as_idx rfl rfl rfl (no_inst (get_set_self hc)) hset) rfl))) rfl) rfl set_take
noncomputable def suTest : MB := bCmp .lt (eVar 5) (eVar 2)
noncomputable def suPick : MB := bAO true [bCmp .lt (eVar 6) (eVar 2), bNot (bCmp .lt (eIdx (eVar 0) (eVar 5)) (eIdx (eVar 0) (eVar 6)))]
noncomputable def suRest : List MS := [
    sAssign (tIdx (eVar 0) (eVar 1)) (eIdx (eVar 0) (eVar 5)),
    sAssign (tVar 1) (eVar 5),
    sAssign (tVar 5) (eBin false .add (eBin false .mul (eLit (.int 2)) (eVar 1)) (eLit (.int 1)))]
noncomputable def suBody : List MS := sAssign (tVar 6) (eBin false .add (eVar 5) (eLit (.int 1))) :: sIte suPick [sAssign (tVar 5) (eVar 6)] [] :: suRest
noncomputable abbrev suF (i p L : Nat) (x : AV) (c : Nat) (v6 : Option AV) : Fr := [some (.ref i), some (.int (p : Int)), some (.int (L : Int)), some (.int 0), some x, some (.int (c : Int)), v6]
theorem su_rest (E : Enc enc lt) {x : AV} {p L c : Nat} {v6 : Option AV} {xs : List α} {y : α} (hc : cs[i]? = some (.list (xs.map enc))) (hp : p < xs.length) (hy : xs[c]? = some y) (hl : c < 10000) :
    evSs W n suRest (suF i p L x c v6) cs = some ⟨.next, suF i c L x (2 * c + 1) v6, cs.set i (.list ((xs.set p y).map enc))⟩ :=
  ss_next (as_idx (e_idx rfl rfl (idx_list hc hy)) rfl rfl (no_inst hc) (set_list E hc hp)) (ss_next (as_var rfl (lt_ok rfl)) (ss_next (as_var (e_bin (e_bin rfl rfl (mul_int (by decide) (by rw [Int.natAbs_natCast]; exact Nat.lt_trans hl (by decide)))) rfl rfl) (lt_ok rfl)) rfl))
theorem su_step {x : AV} {p L c : Nat} {v6 : Option AV} {t : Bool} (hl : c < L) (h : suPick W n (suF i p L x c (some (.int ((c + 1 : Nat) : Int)))) cs = some (t, cs)) {q : Option Ou}
    (h2 : evSs W n suRest (suF i p L x (if t then c + 1 else c) (some (.int ((c + 1 : Nat) : Int)))) cs = q) : stepW W n suTest suBody (suF i p L x c v6) cs = q := by
  refine st_t (b_cmp rfl rfl (lt_true (Int.ofNat_lt.mpr hl))) (ss_next (as_var (v := .int ((c + 1 : Nat) : Int)) (e_bin rfl rfl rfl) (lt_ok rfl)) ?_)
  cases t with
  | true => exact ss_next (s_if h (ss_next (as_var rfl (lt_ok rfl)) rfl)) h2
  | false => exact ss_next (s_if h rfl) h2
theorem su_pick_one {x : AV} {p L c : Nat} (h : ¬ c + 1 < L) : suPick W n (suF i p L x c (some (.int ((c + 1 : Nat) : Int)))) cs = some (false, cs) := b_ao (b_cmp rfl rfl (lt_false fun z => h (Int.ofNat_lt.mp z))) rfl
theorem su_pick_two {x : AV} {p L c : Nat} {a b : AV} {t : Bool} (h : c + 1 < L) (ha : idxv cs (.ref i) (.int (c : Int)) = some a) (hb : idxv cs (.ref i) (.int ((c + 1 : Nat) : Int)) = some b) (ht : cmpv cs .lt a b = some t) :
    suPick W n (suF i p L x c (some (.int ((c + 1 : Nat) : Int)))) cs = some (!t, cs) :=
  b_ao (b_cmp rfl rfl (lt_true (Int.ofNat_lt.mpr h))) (ao_one (b_not (b_cmp (e_idx rfl rfl ha) (e_idx rfl rfl hb) ht)))
theorem su_turn (E : Enc enc lt) {x : AV} {xs : List α} {p c : Nat} {v6 : Option AV} (hl : xs.length < 3000) (hc : cs[i]? = some (.list (xs.map enc))) (hp : p < xs.length) (h : c < xs.length) :
    ∃ v, xs[Hp.kid lt xs c]? = some v ∧ c ≤ Hp.kid lt xs c ∧ stepW W n suTest suBody (suF i p xs.length x c v6) cs = some ⟨.next, suF i (Hp.kid lt xs c) xs.length x (2 * Hp.kid lt xs c + 1) (some (.int ((c + 1 : Nat) : Int))), cs.set i (.list ((xs.set p v).map enc))⟩ := by
  have ha : xs[c]? = some xs[c] := List.getElem?_eq_getElem h
  have hk : Hp.kid lt xs c = (match some xs[c], xs[c + 1]? with | some a, some b => if lt a b then c else c + 1 | _, _ => c) := by rw [← ha]; rfl
  cases hb : xs[c + 1]? with
  | none =>
    rw [hb] at hk
    rw [hk]
    exact ⟨_, ha, Nat.le_refl c, su_step h (su_pick_one fun z => by rw [List.getElem?_eq_getElem z] at hb; exact sN hb) (su_rest E hc hp ha (Nat.lt_trans h (Nat.lt_trans hl (by decide))))⟩
  | some b =>
    rw [hb] at hk
    have h2 := (List.getElem?_eq_some_iff.mp hb).1
    have hp2 := su_pick_two (W := W) (n := n) (p := p) (x := x) h2 (idx_list hc ha) (idx_list hc hb) (E.lt cs _ _)
    have hk : Hp.kid lt xs c = if lt xs[c] b then c else c + 1 := hk
    cases hlt : lt xs[c] b with
    | true =>
      rw [hlt] at hk hp2
      rw [show Hp.kid lt xs c = c from hk]
      exact ⟨_, ha, Nat.le_refl c, su_step h hp2 (su_rest E hc hp ha (Nat.lt_trans h (Nat.lt_trans hl (by decide))))⟩
    | false =>
      rw [hlt] at hk hp2
      rw [show Hp.kid lt xs c = c + 1 from hk]
      exact ⟨_, hb, Nat.le_succ c, su_step h hp2 (su_rest E hc hp hb (Nat.lt_trans h2 (Nat.lt_trans hl (by decide))))⟩
theorem su_loop (E : Enc enc lt) {x : AV} (g : Nat) : ∀ (p f : Nat) (xs : List α) (cs : Cells) (v6 : Option AV), xs.length ≤ g + p → xs.length < f + p → xs.length < 3000 → cs[i]? = some (.list (xs.map enc)) → p < xs.length →
    ∃ (v6' : Option AV), whileGo (stepW W n suTest suBody) f (suF i p xs.length x (2 * p + 1) v6) cs =
      some ⟨.next, suF i (Hp.su lt g xs p).2 xs.length x (2 * (Hp.su lt g xs p).2 + 1) v6', cs.set i (.list ((Hp.su lt g xs p).1.map enc))⟩ := by
  induction g with
  | zero => intro p f xs cs v6 hg _ _ _ hp; exact absurd hp (Nat.not_lt.mpr (Nat.zero_add p ▸ hg))
  | succ g ih =>
    intro p f xs cs v6 hg hf hl hc hp
    cases f with
    | zero => exact absurd (Nat.zero_add p ▸ hf) (Nat.lt_asymm hp)
    | succ f =>
    rw [Hp.su]
    by_cases h : 2 * p + 1 < xs.length
    · rw [if_pos h]
      obtain ⟨v, hv, hk, e⟩ := su_turn (W := W) (n := n) (v6 := v6) (x := x) E hl hc hp h
      rw [hv]
      have hkl : Hp.kid lt xs (2 * p + 1) < (xs.set p v).length := by rw [List.length_set]; exact (List.getElem?_eq_some_iff.mp hv).1
      have hpk : p + 1 ≤ Hp.kid lt xs (2 * p + 1) := Nat.le_trans (Nat.succ_le_succ (Nat.le_mul_of_pos_left p (by decide))) hk
      have hlen : (xs.set p v).length = xs.length := List.length_set ..
      have e' := ih (Hp.kid lt xs (2 * p + 1)) f (xs.set p v) (cs.set i (.list ((xs.set p v).map enc))) (some (.int ((2 * p + 1 + 1 : Nat) : Int))) (by rw [hlen]; exact Nat.le_trans hg (by rw [Nat.succ_add]; exact Nat.add_le_add_left hpk g)) (by rw [hlen]; exact Nat.lt_of_lt_of_le hf (by rw [Nat.succ_add]; exact Nat.add_le_add_left hpk f)) (by rw [hlen]; exact hl) (get_set_self hc) hkl
      rw [hlen, List.set_set] at e'
      exact e'.imp fun _ e' => wh_next e e'
    · rw [if_neg h]
      exact ⟨v6, (wh_brk (st_f (b_cmp rfl rfl (lt_false fun z => h (Int.ofNat_lt.mp z))))).trans (by rw [set_self hc])⟩
theorem len_list {β : Type} {f : β → AV} {xs : List β} (hc : cs[i]? = some (.list (xs.map f))) : callv W (.bi .len) [.ref i] n cs = some (.int (xs.length : Int), cs) := by
  show (listOf cs (.ref i)).map (fun ys => (AV.int (ys.length : Int), cs)) = _
  rw [list_of hc, Option.map_some, List.length_map]
theorem su_run (E : Enc enc lt) (hP : P.fs[2]? = some f__siftdown) (hQ : P.fs[3]? = some f__siftup) {xs : List α} {item : α} (hc : cs[i]? = some (.list (xs.map enc))) (hx : xs[0]? = some item) (hl : xs.length < 3000) :
    (callAt P (k + 2)).cf 3 [.ref i, .int 0] none cs = some (.none, cs.set i (.list ((Hp.fix lt item xs).map enc))) := by
  have hpl : 0 < xs.length := (List.getElem?_eq_some_iff.mp hx).1
  obtain ⟨v6, e⟩ := su_loop (W := callAt P (k + 1)) (n := cs.length) (x := enc item) E xs.length 0 loopFuel xs cs none (Nat.le_refl _) (Nat.lt_trans hl (by decide)) hl hc hpl
  have hu := Hp.su_len (lt := lt) xs.length xs 0 hpl
  unfold Hp.fix
  generalize Hp.su lt xs.length xs 0 = r at *
  have hset := set_list (n := cs.length) E (p := r.2) (v := item) (get_set_self (o' := .list (r.1.map enc)) hc) hu.1
  rw [List.set_set] at hset
  have hrun := sd_run (k := k) E hP (cs := cs.set i (.list ((r.1.set r.2 item).map enc))) (get_set_self hc) (List.getElem?_set_self hu.1) (Nat.lt_trans hu.1 (hu.2 ▸ hl))
  rw [List.set_set] at hrun
  exact call_run hQ below_ref (run_of rfl (ss_next (as_var (e_call rfl rfl (len_list hc)) (lt_ok rfl)) (ss_next (as_var rfl (lt_ok rfl)) (ss_next (as_var (e_idx rfl rfl (idx_list (p := 0) hc hx)) (lt_ok rfl)) (ss_next (as_var (e_bin (e_bin rfl rfl (mul_int (by decide) (by decide))) rfl rfl) (lt_ok rfl)) (ss_next e
    (ss_next (as_idx rfl rfl rfl (no_inst (get_set_self hc)) hset) (ss_next (s_expr (e_call rfl rfl hrun)) rfl))))))) rfl) rfl set_take
theorem append_list (E : Enc enc lt) {xs : List α} {x : α} (hc : cs[i]? = some (.list (xs.map enc))) (hl : xs.length < 2900) : mcall n (.ref i) .append [enc x] cs = some (.none, cs.set i (.list ((xs ++ [x]).map enc))) := by
  show (listAt cs i).bind (fun ys => if (put n i (enc x) && decide (ys.length < lim)) = true then some (AV.none, cs.set i (.list (ys ++ [enc x]))) else none) = _
  rw [list_at hc, Option.bind_some, if_pos, List.map_append]; · rfl
  rw [List.length_map, put, E.below, Bool.or_true, Bool.true_and]
  exact decide_eq_true (Nat.lt_trans hl (by decide))
theorem len_pred {L : Nat} {v : Int} (h : v + 1 = (L : Int)) : binv false .sub (.int (L : Int)) (.int 1) cs = some (.int v, cs) := by rw [← h]; exact congrArg (fun z : Int => some (AV.int z, cs)) (Int.add_sub_cancel v 1)
theorem push_run (E : Enc enc lt) (hP : P.fs[2]? = some f__siftdown) (hQ : P.fs[0]? = some f_heappush) {xs : List α} {x : α} (hc : cs[i]? = some (.list (xs.map enc))) (hl : xs.length < 2900) :
    (callAt P (k + 2)).cf 0 [.ref i, enc x] none cs = some (.none, cs.set i (.list ((Hp.push lt xs x).map enc))) := by
  have hg := get_set_self (o' := .list ((xs ++ [x]).map enc)) hc
  have hrun := sd_run (k := k) E hP hg (p := xs.length) (item := x) (List.getElem?_concat_length) (Nat.lt_trans hl (by decide))
  rw [List.set_set] at hrun
  exact call_run hQ below_ref (run_of rfl (ss_next (s_expr (e_meth rfl (es_cons rfl rfl) (no_inst hc) (meth_list hc rfl) (append_list E hc hl))) (ss_next (s_expr (e_call rfl (es_cons rfl (es_cons rfl (es_cons (e_bin (e_call rfl rfl (len_list hg)) rfl (len_pred (v := (xs.length : Int)) (by rw [List.length_append]; rfl))) rfl))) hrun)) rfl)) rfl) rfl set_take
theorem pop_list {ys : List AV} {v : AV} (hc : cs[i]? = some (.list ys)) (hl : ys.getLast? = some v) : mcall n (.ref i) .pop [] cs = some (v, cs.set i (.list ys.dropLast)) := by
  show (listAt cs i).bind (fun xs => (xs.getLast?).map fun v => (v, cs.set i (.list xs.dropLast))) = _
  rw [list_at hc, Option.bind_some, hl]; rfl
theorem truthy_list {ys : List AV} (hc : cs[i]? = some (.list ys)) : truthy cs (.ref i) = some (!ys.isEmpty) := by
  show (listOf cs (.ref i)).map (!·.isEmpty) = _
  rw [list_of hc]; rfl
theorem b_of {e : ME} {fr : Fr} {cs₁ : Cells} {x : AV} {t : Bool} (h : e W n fr cs = some (x, cs₁)) (ht : truthy cs₁ x = some t) : bOf e W n fr cs = some (t, cs₁) := bindE h (mapE ht rfl)
theorem pop_run (E : Enc enc lt) (hP : P.fs[2]? = some f__siftdown) (hQ : P.fs[3]? = some f__siftup) (hR : P.fs[1]? = some f_heappop) {xs : List α} {m : α} (hc : cs[i]? = some (.list ((m :: xs).map enc))) (hl : xs.length < 2900) :
    (callAt P (k + 3)).cf 1 [.ref i] none cs = some (enc m, cs.set i (.list ((Hp.rest lt (m :: xs)).map enc))) := by
  cases xs with
  | nil =>
    have hg := get_set_self (o' := .list []) hc
    exact call_run hR below_ref (run_of rfl (ss_next (as_var (e_meth rfl rfl (no_inst hc) (meth_list hc rfl) (pop_list hc rfl)) (lt_ok rfl)) (ss_next (s_if (b_of rfl (truthy_list hg)) rfl) (ss_ret (s_ret rfl)))) rfl) (E.below m) set_take
  | cons y ys =>
    have hrest : ∃ l zs, (m :: y :: ys).getLast? = some l ∧ (m :: y :: ys).dropLast = m :: zs ∧ zs.length = ys.length ∧ Hp.rest lt (m :: y :: ys) = Hp.fix lt l (l :: zs) :=
      ⟨(y :: ys).getLast (List.cons_ne_nil _ _), (y :: ys).dropLast, List.getLast?_eq_some_getLast (List.cons_ne_nil _ _), rfl, List.length_dropLast .., by unfold Hp.rest; rw [List.getLast?_eq_some_getLast (List.cons_ne_nil _ _)]; rfl⟩
    obtain ⟨l, zs, h1, h2, h3, hrest⟩ := hrest
    rw [hrest]
    have hp := pop_list (n := cs.length) (v := enc l) hc (by rw [List.getLast?_map, h1]; rfl)
    rw [← List.map_dropLast, h2] at hp
    have hg := get_set_self (o' := .list ((m :: zs).map enc)) hc
    have hset := set_list (n := cs.length) E (p := 0) (v := l) hg (Nat.succ_pos _)
    have hrun := su_run (k := k) E hP hQ (get_set_self (o' := .list (((m :: zs).set 0 l).map enc)) hg) (item := l) rfl (by rw [List.length_set, List.length_cons, h3]; exact Nat.lt_trans hl (by decide))
    rw [List.set_set] at hset hrun
    rw [List.set_set] at hrun
    exact call_run hR below_ref (run_of rfl (ss_next (as_var (e_meth rfl rfl (no_inst hc) (meth_list hc rfl) hp) (lt_ok rfl)) (ss_ret (s_if (b_of rfl (truthy_list hg)) (ss_next (as_var (e_idx rfl rfl (idx_list (p := 0) hg rfl)) (lt_ok rfl)) (ss_next (as_idx rfl rfl rfl (no_inst hg) hset) (ss_next (s_expr (e_call rfl rfl hrun)) (ss_ret (s_ret rfl)))))))) rfl) (E.below m) set_take
end Lib
end Ev
namespace Ev.Lib
section
variable {W : Wd} {n i f j : Nat} {fr fr₁ : Fr} {cs cs₁ cs₂ cs₃ : Cells} {xs : List AV} {x v : AV} {st : AV → Fr → Cells → Option Ou} {q : Option Ou}
theorem fc_end (hl : listAt cs i = some xs) (h : xs[j]? = none) : forCell st i (f + 1) j fr cs = some ⟨.next, fr, cs⟩ := bindE hl (by rw [h]; rfl)
theorem fc_next (hl : listAt cs i = some xs) (h : xs[j]? = some x) (hs : st x fr cs = some ⟨.next, fr₁, cs₁⟩) (h2 : forCell st i f (j + 1) fr₁ cs₁ = q) : forCell st i (f + 1) j fr cs = q := bindE hl (by rw [h]; exact bindE hs h2)
theorem fc_ret (hl : listAt cs i = some xs) (h : xs[j]? = some x) (hs : st x fr cs = some ⟨.ret v, fr₁, cs₁⟩) : forCell st i (f + 1) j fr cs = some ⟨.ret v, fr₁, cs₁⟩ := bindE hl (by rw [h]; exact bindE hs rfl)
variable {σ : Type} {cells : σ → Cells} {sg : AV → σ → Option σ} {s s' : σ} {r : Option σ}
theorem gc_end (hl : listAt (cells s) i = some xs) (h : xs[j]? = none) : goCell cells i sg (f + 1) j s = some s := bindE hl (by rw [h]; rfl)
theorem gc_next (hl : listAt (cells s) i = some xs) (h : xs[j]? = some x) (hs : sg x s = some s') (h2 : goCell cells i sg f (j + 1) s' = r) : goCell cells i sg (f + 1) j s = r := bindE hl (by rw [h]; exact bindE hs h2)
theorem drop_get {α : Type} {hl r : List α} {p : α} (h : hl.drop j = p :: r) : hl[j]? = some p ∧ hl.drop (j + 1) = r := by
  have h0 := List.getElem?_drop (xs := hl) (i := j) (j := 0)
  rw [h] at h0
  exact ⟨h0.symm, by rw [← List.drop_drop, h]; rfl⟩
noncomputable abbrev stC (W : Wd) (n : Nat) (elt : ME) (t : List Nat) (ifs : List MB) (fr : Fr) (x : AV) (s : List AV × Cells) : Option (List AV × Cells) := (bindN t x fr).bind fun fr' => (evAO W n true ifs fr' s.2).bind fun p => if p.1 then evC W n elt [] fr' p.2 s.1 else some (s.1, p.2)
theorem e_comp {m : Bool} {elt : ME} {k : Nat} {t : List Nat} {it : MI} {ifs : List MB} {i' : It} {acc : List AV} {z : Option (AV × Cells)} (hi : it.run W n fr cs = some (i', cs₁)) (hg : goIt (fun s : List AV × Cells => s.2) (stC W n elt t ifs (fr ++ List.replicate k none)) loopFuel i' ([], cs₁) = some (acc, cs₂)) (hm : mk m acc cs₂ = z) :
    eComp m elt [⟨k, t, it, ifs⟩] W n fr cs = z := bindE (bindE hi hg) hm
theorem i_val {e : ME} {i' : It} (h : e W n fr cs = some (x, cs₁)) (hi : itv cs₁ x = some i') : (iVal e).run W n fr cs = some (i', cs₁) := bindE h (mapE hi rfl)
theorem itv_cell (hc : cs[i]? = some (.list xs)) : itv cs (.ref i) = some (.cell i) := mapE (list_at hc) rfl
theorem s_for {t : List Nat} {it : MI} {b : List MS} {i' : It} (hi : it.run W n fr cs = some (i', cs₁)) (h : forGo (stepF W n t b) i' fr cs₁ = q) : sFor t it b W n fr cs = q := bindE hi h
theorem e_attr {o : ME} {nm : Tx} (h : o W n fr cs = some (x, cs₁)) (hv : attrv cs₁ x nm = some v) : eAttr o nm W n fr cs = some (v, cs₁) := bindE h (mapE hv rfl)
theorem e_ite {c : MB} {a b : ME} {t : Bool} {z : Option (AV × Cells)} (h : c W n fr cs = some (t, cs₁)) (h2 : (if t then a W n fr cs₁ else b W n fr cs₁) = z) : eIte c a b W n fr cs = z := bindE h h2
theorem e_tup2 {a b : ME} {y : AV} (h : a W n fr cs = some (x, cs₁)) (h2 : b W n fr cs₁ = some (y, cs₂)) : eTup [a, b] W n fr cs = some (.tup [x, y], cs₂) := bindE (es_cons h (es_cons h2 rfl)) rfl
end
variable {P : Prog} {k n i d l : Nat} {cs : Cells} {W : Wd}
noncomputable abbrev hTx : Tx := [95, 104, 101, 97, 100, 101, 114, 115]
noncomputable def encH (p : Tx × Tx) : AV := .tup [.str p.1, .str p.2]
structure Tab (cs : Cells) (i d l : Nat) (hl : List (Tx × Tx)) : Prop where
  inst : cs[i]? = some (.inst d)
  dict : cs[d]? = some (.idict [(hTx, .ref l)])
  list : cs[l]? = some (.list (hl.map encH))
theorem Tab.of {hl : List (Tx × Tx)} (t : Tab cs i d l hl) : instOf cs (.ref i) = some (d, [(hTx, .ref l)]) := by
  show ((cs[i]?).bind AObj.inst?).bind (fun d => ((cs[d]?).bind AObj.idict?).map fun es => (d, es)) = _
  rw [t.inst]
  show ((cs[d]?).bind AObj.idict?).map _ = _
  rw [t.dict]; rfl
theorem Tab.attr {hl : List (Tx × Tx)} (t : Tab cs i d l hl) : attrv cs (.ref i) hTx = some (.ref l) := bindE t.of rfl
theorem Tab.isI {hl : List (Tx × Tx)} (t : Tab cs i d l hl) : isInst cs (.ref i) = true := congrArg Option.isSome t.of
theorem getApp {x : Cells} {j : Nat} {o : AObj} (e : cs[j]? = some o) : (cs ++ x)[j]? = some o := by
  rw [List.getElem?_append_left (List.getElem?_eq_some_iff.mp e).1]; exact e
theorem Tab.app {hl : List (Tx × Tx)} (t : Tab cs i d l hl) (x : Cells) : Tab (cs ++ x) i d l hl := ⟨getApp t.inst, getApp t.dict, getApp t.list⟩
theorem Tab.lt {hl : List (Tx × Tx)} (t : Tab cs i d l hl) : l < cs.length := (List.getElem?_eq_some_iff.mp t.list).1
theorem conv_run (hP : P.fs[8]? = some f__convert_string_type) {s : Tx} {b : Bool} (hs : s.all okSign = true) : (callAt P (k + 1)).cf 8 [.ref i, .str s] (some (.bool b)) cs = some (.str s, cs) := by
  have hm : ∀ j, j < 2 → mcall cs.length (.re j) .search [.str s] cs = some (.none, cs) := fun j hj => if_pos ⟨hj, hs⟩
  refine call_run hP below_ref (run_of rfl (ss_ret (s_if (b_cmp (e_call rfl rfl rfl) rfl (rfl : isv (.ty .str) (.ty .str) = some true)) (ss_next (as_var (v := .re (cond b 0 1)) (e_ite (b_of rfl (rfl : _ = some b)) (by cases b <;> rfl)) (lt_ok rfl)) (ss_next (s_if (b_of (e_meth rfl rfl rfl rfl (hm _ ?_)) (rfl : _ = some false)) rfl) (ss_ret (s_ret rfl)))))) rfl) rfl List.take_length
  cases b <;> decide
theorem mem_all {s : Tx} {p : Nat → Bool} (h : s.all p = true) (f : Nat → Nat) (hf : ∀ c, p c = true → p (f c) = true) : (s.map f).all p = true := by
  rw [List.all_map]
  exact List.all_eq_true.mpr fun c hc => hf c (List.all_eq_true.mp h c hc)
theorem low_ok {c : Nat} (h : okSign c = true) : okSign (lowC c) = true := by
  obtain ⟨h1, h2⟩ := aT h
  have h1 := of_decide_eq_true h1
  unfold lowC
  by_cases hc : 65 ≤ c ∧ c ≤ 90
  · rw [if_pos hc]
    exact aI ⟨decide_eq_true (Nat.le_trans h1 (Nat.le_add_right c 32)), decide_eq_true (Nat.lt_of_le_of_lt (Nat.add_le_add_right hc.2 32) (by decide))⟩
  · rw [if_neg hc]; exact h
theorem ok_ascii {s : Tx} (h : s.all okSign = true) : ascii s = true :=
  List.all_eq_true.mpr fun c hc => decide_eq_true (Nat.lt_trans (of_decide_eq_true (aT (List.all_eq_true.mp h c hc)).2) (by decide))
theorem lower_run {s : Tx} (h : s.all okSign = true) : mcall n (.str s) .lower [] cs = some (.str (s.map lowC), cs) := if_pos (ok_ascii h)
theorem name_run (hP : P.fs[8]? = some f__convert_string_type) {hl : List (Tx × Tx)} (t : Tab cs i d l hl) {nm : Tx} {fr : Fr} (hn : nm.all okSign = true) (h0 : eVar 0 (callAt P (k + 1)) n fr cs = some (.ref i, cs)) (h1 : eVar 1 (callAt P (k + 1)) n fr cs = some (.str nm, cs)) :
    eMethk (eVar 0) 8 [eMeth (eVar 1) .lower none []] (eLit (.bool true)) (callAt P (k + 1)) n fr cs = some (.str (nm.map lowC), cs) :=
  e_ownk h0 (es_cons (e_meth h1 rfl rfl rfl (lower_run hn)) rfl) rfl t.isI (conv_run hP (mem_all hn lowC fun _ => low_ok))
theorem append_h {hl : List (Tx × Tx)} {a b : Tx} (hc : cs[l]? = some (.list (hl.map encH))) (hlen : hl.length < 3000) : mcall n (.ref l) .append [.tup [.str a, .str b]] cs = some (.none, cs.set l (.list ((hl ++ [(a, b)]).map encH))) := by
  refine bindE (f := fun ys => if (put n l (.tup [.str a, .str b]) && decide (ys.length < lim)) = true then some (AV.none, cs.set l (.list (ys ++ [.tup [.str a, .str b]]))) else none) (list_at hc) ?_
  rw [if_pos, List.map_append]; · rfl
  rw [List.length_map]
  exact aI ⟨Bool.or_true _, decide_eq_true (Nat.lt_trans hlen (by decide))⟩
theorem mk_cell {xs : List AV} (h : xs.length ≤ lim) : mk true xs cs = some (.ref cs.length, cs ++ [.list xs]) := if_pos h
theorem app_get {x : Cells} {j : Nat} : (cs ++ x)[cs.length + j]? = x[j]? := by rw [List.getElem?_append_right (Nat.le_add_right ..), Nat.add_sub_cancel_left]
theorem app_set {x : Cells} {j : Nat} {o : AObj} : (cs ++ x).set (cs.length + j) o = cs ++ x.set j o := by rw [List.set_append_right _ _ (Nat.le_add_right ..), Nat.add_sub_cancel_left]
theorem add_run (hP : P.fs[8]? = some f__convert_string_type) (hQ : P.fs[14]? = some f_add_header) {hl : List (Tx × Tx)} (t : Tab cs i d l hl) (hlen : hl.length < 3000) {nm v : Tx} (hn : nm.all okSign = true) (hv : v.all okSign = true) (hvl : v.length ≤ lim) :
    (callAt P (k + 2)).cf 14 [.ref i, .str nm, .str v] none cs = some (.none, cs.set l (.list ((hl ++ [(nm, v)]).map encH))) := by
  have e0 : cs ++ [AObj.dict []] ++ [AObj.list []] = cs ++ [.dict [], .list []] := List.append_assoc ..
  have hmk : mk true [] (cs ++ [AObj.dict []]) = some (.ref (cs.length + 1), cs ++ [.dict [], .list []]) := by rw [mk_cell (Nat.zero_le _), e0, List.length_append]; rfl
  have t1 := t.app [.dict [], .list []]
  have t2 := t.app [.dict [], .list [.str v]]
  have g1 : (cs ++ [AObj.dict [], AObj.list []])[cs.length + 1]? = some (.list []) := app_get
  have g2 : (cs ++ [AObj.dict [], AObj.list [.str v]])[cs.length + 1]? = some (.list [.str v]) := app_get
  have g3 : (cs ++ [AObj.dict [], AObj.list [.str v]])[cs.length]? = some (.dict []) := app_get (j := 0)
  have hap : mcall cs.length (.ref (cs.length + 1)) .append [.str v] (cs ++ [.dict [], .list []]) = some (.none, cs ++ [.dict [], .list [.str v]]) := by
    refine bindE (f := fun ys => if (put cs.length (cs.length + 1) (.str v) && decide (ys.length < lim)) = true then some (AV.none, (cs ++ [AObj.dict [], AObj.list []]).set (cs.length + 1) (.list (ys ++ [.str v]))) else none) (list_at g1) ?_
    refine (if_pos (aI ⟨Bool.or_true _, decide_eq_true (by decide)⟩)).trans ?_
    rw [app_set]; rfl
  have ha := append_h (n := cs.length) (a := nm) (b := v) t2.list hlen
  rw [List.set_append_left _ _ t.lt] at ha
  have hj : mcall cs.length (.str [59, 32]) .join [.ref (cs.length + 1)] (cs ++ [.dict [], .list [.str v]]) = some (.str v, cs ++ [.dict [], .list [.str v]]) :=
    bindE (f := fun xs => if (joinTx [59, 32] xs).length ≤ lim then some (AV.str (joinTx [59, 32] xs), cs ++ [AObj.dict [], .list [.str v]]) else none) (bindE (list_of g2) rfl) (if_pos hvl)
  have hit : sItems (eVar 3) (callAt P (k + 1)) cs.length [some (.ref i), some (.str nm), some (.str v), some (.ref cs.length), some (.ref (cs.length + 1)), none, none] (cs ++ [.dict [], .list [.str v]]) = some ⟨.next, [some (.ref i), some (.str nm), some (.str v), some (.ref cs.length), some (.ref (cs.length + 1)), none, none], cs ++ [.dict [], .list [.str v]]⟩ :=
    bindE rfl (bindE (bindE rfl (show dictAt _ _ = some [] from by unfold dictAt; rw [g3]; rfl)) rfl)
  refine call_run hQ below_ref (run_of rfl (ss_next (as_var (v := .ref (cs.length + 1)) (bindE rfl hmk) (lt_ok rfl)) (ss_next (s_if (b_cmp rfl rfl (rfl : _ = some true)) (ss_next (as_var (e_ownk rfl (es_cons rfl rfl) rfl t1.isI (conv_run hP hv)) (lt_ok rfl)) (ss_next (s_expr (e_meth rfl rfl (no_inst g1) (meth_list g1 rfl) hap)) rfl)))
    (ss_next hit (ss_next (s_expr (e_meth (e_attr rfl t2.attr) (es_cons (e_tup2 (e_ownk rfl (es_cons rfl rfl) rfl t2.isI (conv_run hP hn)) (e_meth rfl rfl rfl rfl hj)) rfl) (no_inst t2.list) (meth_list t2.list rfl) ha)) rfl)))) rfl) rfl ?_
  rw [List.take_append_of_le_length (Nat.le_of_eq (List.length_set ..).symm), set_take]
theorem new_run (hQ : P.fs[7]? = some f___init__) (hI : P.initN = 7) : (callAt P (k + 1)).new cs = some (.ref cs.length, cs ++ [.inst (cs.length + 1), .idict [(hTx, .ref (cs.length + 2))], .list []]) := by
  have e0 : cs ++ [AObj.inst (cs.length + 1), .idict []] ++ [AObj.list []] = cs ++ [.inst (cs.length + 1), .idict [], .list []] := List.append_assoc ..
  have hmk : mk true [] (cs ++ [.inst (cs.length + 1), .idict []]) = some (.ref (cs.length + 2), cs ++ [.inst (cs.length + 1), .idict [], .list []]) := by rw [mk_cell (Nat.zero_le _), e0, List.length_append]; rfl
  have g0 : (cs ++ [AObj.inst (cs.length + 1), .idict [], .list []])[cs.length]? = some (.inst (cs.length + 1)) := app_get (j := 0)
  have g1 : (cs ++ [AObj.inst (cs.length + 1), .idict [], .list []])[cs.length + 1]? = some (.idict []) := app_get
  have g2 : (cs ++ [AObj.inst (cs.length + 1), .idict [], .list []])[cs.length + 2]? = some (.list []) := app_get
  have g3 : (cs ++ [AObj.inst (cs.length + 1), .idict [(hTx, .ref (cs.length + 2))], .list []])[cs.length + 2]? = some (.list []) := app_get
  have ht : callv (callAt P k) (.ty .type) [.ref (cs.length + 2)] cs.length (cs ++ [.inst (cs.length + 1), .idict [], .list []]) = some (.ty .list, cs ++ [.inst (cs.length + 1), .idict [], .list []]) := mapE (list_of g2) rfl
  have hi : instOf (cs ++ [AObj.inst (cs.length + 1), .idict [], .list []]) (.ref cs.length) = some (cs.length + 1, []) :=
    bindE rfl (bindE (show instAt _ _ = some (cs.length + 1) from by unfold instAt; rw [g0]; rfl) (mapE (show idictAt _ _ = some [] from by unfold idictAt; rw [g1]; rfl) rfl))
  have hput : put cs.length (cs.length + 1) (.ref (cs.length + 2)) = true := by unfold put; rw [decide_eq_true (Nat.le_succ _)]; rfl
  have hset : (cs ++ [AObj.inst (cs.length + 1), .idict [], .list []]).set (cs.length + 1) (.idict (dput hTx (.ref (cs.length + 2)) [])) = cs ++ [.inst (cs.length + 1), .idict [(hTx, .ref (cs.length + 2))], .list []] := app_set
  have hta : sAssign (tAttr (eVar 0) hTx) (eVar 1) (callAt P k) cs.length [some (.ref cs.length), some (.ref (cs.length + 2)), none, none] (cs ++ [.inst (cs.length + 1), .idict [], .list []]) = some ⟨.next, [some (.ref cs.length), some (.ref (cs.length + 2)), none, none], cs ++ [.inst (cs.length + 1), .idict [(hTx, .ref (cs.length + 2))], .list []]⟩ :=
    bindE rfl (mapE (bindE rfl (bindE hi (if_pos hput))) (by rw [hset]))
  have hrun : f___init__.run (callAt P k) cs.length [.ref cs.length] none (cs ++ [.inst (cs.length + 1), .idict []]) = some (.none, cs ++ [.inst (cs.length + 1), .idict [(hTx, .ref (cs.length + 2))], .list []]) :=
    run_of rfl (ss_next (as_var (e_ite (b_cmp rfl rfl (rfl : _ = some false)) (bindE rfl hmk)) (lt_ok rfl)) (ss_next (s_if (b_cmp (e_call rfl rfl ht) rfl (rfl : _ = some false)) rfl) (ss_next hta (ss_next (s_if (b_of rfl (rfl : _ = some true)) (ss_next (s_for (i_val rfl (itv_cell g3)) (fc_end (f := 3999) (list_at g3) rfl)) rfl)) rfl)))) rfl
  show (P.fs[P.initN]?).bind (fun F => (F.run (callAt P k) cs.length [.ref cs.length] none (cs ++ [.inst (cs.length + 1), .idict []])).bind fun r => if r.1.none? then some (AV.ref cs.length, r.2) else none) = _
  rw [hI]
  exact bindE hQ (bindE hrun rfl)
end Ev.Lib
namespace Ev.Lib
variable {W : Wd} {n k : Nat} {t : List Nat} {fr : Fr} {cs : Cells} {ifs : List MB} {e : ME}
theorem goItems_pure {fx : AV → Fr} {b : AV → Bool} {g : AV → AV} (xs : List AV) : ∀ acc : List AV, (∀ x ∈ xs, bindN t x fr = some (fx x)) → (∀ x ∈ xs, evAO W n true ifs (fx x) cs = some (b x, cs)) → (∀ x ∈ xs, b x = true → e W n (fx x) cs = some (g x, cs)) → acc.length + xs.length ≤ lim →
    goItems (stC W n e t ifs fr) xs (acc, cs) = some (acc ++ (xs.filter b).map g, cs) := by
  induction xs with
  | nil => intro acc _ _ _ _; rw [List.filter_nil, List.map_nil, List.append_nil]; rfl
  | cons x xs ih =>
    intro acc h1 h2 h3 hl
    rw [List.length_cons] at hl
    have ih := fun acc => ih acc (fun y hy => h1 y (List.mem_cons_of_mem _ hy)) (fun y hy => h2 y (List.mem_cons_of_mem _ hy)) (fun y hy => h3 y (List.mem_cons_of_mem _ hy))
    have hb1 := h1 x List.mem_cons_self
    have hb2 := h2 x List.mem_cons_self
    cases hb : b x with
    | false =>
      rw [hb] at hb2
      rw [List.filter_cons_of_neg (by rw [hb]; exact Bool.false_ne_true)]
      exact bindE (x := (acc, cs)) (bindE hb1 (bindE hb2 rfl)) (ih acc (Nat.le_of_succ_le hl))
    | true =>
      rw [hb] at hb2
      rw [List.filter_cons_of_pos hb, List.map_cons]
      refine bindE (x := (acc ++ [g x], cs)) (bindE hb1 (bindE hb2 (bindE (h3 x List.mem_cons_self hb) (if_pos (Nat.lt_of_lt_of_le (Nat.lt_add_of_pos_right (Nat.succ_pos _)) hl))))) ?_
      refine (ih (acc ++ [g x]) (by rw [List.length_append, List.length_singleton, Nat.add_assoc, Nat.add_comm 1]; exact hl)).trans ?_
      rw [List.append_assoc]; rfl
theorem comp_pure {m : Bool} {it : MI} {fx : AV → Fr} {b : AV → Bool} {g : AV → AV} {xs : List AV} {z : Option (AV × Cells)} (hI : it.run W n fr cs = some (.items xs, cs)) (h1 : ∀ x ∈ xs, bindN t x (fr ++ List.replicate k none) = some (fx x)) (h2 : ∀ x ∈ xs, evAO W n true ifs (fx x) cs = some (b x, cs)) (h3 : ∀ x ∈ xs, b x = true → e W n (fx x) cs = some (g x, cs)) (hl : xs.length ≤ lim)
    (hm : mk m ((xs.filter b).map g) cs = z) : eComp m e [⟨k, t, it, ifs⟩] W n fr cs = z :=
  e_comp hI ((goItems_pure xs [] h1 h2 h3 (Nat.le_trans (Nat.le_of_eq (Nat.zero_add _)) hl)).trans (by rw [List.nil_append])) hm
theorem allStr_ones (l : List Nat) : allStr (l.map fun c => AV.str [c]) = some (l.map fun c => [c]) := by
  induction l with
  | nil => rfl
  | cons c l ih => exact bindE rfl (mapE ih rfl)
theorem joinTx_ones (l : List Nat) : joinTx [] (l.map fun c => [c]) = l := by
  induction l with
  | nil => rfl
  | cons c l ih => rw [List.map_cons, joinTx_cons, ih]; rfl
theorem allInt_map (l : List Int) : allInt (l.map AV.int) = some l := by
  induction l with
  | nil => rfl
  | cons c l ih => exact bindE rfl (mapE ih rfl)
end Ev.Lib
namespace Ev.Lib
section
variable {W : Wd} {n i k : Nat} {fr fr₁ : Fr} {cs cs₁ cs₂ cs₃ cs₄ : Cells} {a b e o : ME} {x y v z : AV} {ys xs : List AV} {as : List ME}
theorem idx_lst (hx : xs[k]? = some x) : idxv cs (.lst xs) (.int (k : Int)) = some x := by
  show (idxZ xs.length (k : Int)).bind (fun k => xs[k]?) = _
  rw [idxZ_nat (List.getElem?_eq_some_iff.mp hx).1, Option.bind_some, hx]
theorem idx_str {s : Tx} {c : Nat} (hx : s[k]? = some c) : idxv cs (.str s) (.int (k : Int)) = some (.str [c]) := by
  show (idxZ s.length (k : Int)).bind (fun k => (s[k]?).map fun c => AV.str [c]) = _
  rw [idxZ_nat (List.getElem?_eq_some_iff.mp hx).1, Option.bind_some, hx]; rfl
theorem asg_t {is : List Nat} (h : e W n fr cs = some (.tup xs, cs₁)) (hl : is.length = xs.length) : sAsgT is e W n fr cs = some ⟨.next, setAll is xs fr, cs₁⟩ := bindE h (bindE rfl (if_pos hl))
theorem asg_l {is : List Nat} (h : e W n fr cs = some (.lst xs, cs₁)) (hl : is.length = xs.length) : sAsgT is e W n fr cs = some ⟨.next, setAll is xs fr, cs₁⟩ := bindE h (bindE rfl (if_pos hl))
theorem e_tup (h : evEs W n as fr cs = some (xs, cs₁)) (hl : xs.length ≤ 100) : eTup as W n fr cs = some (.tup xs, cs₁) := bindE h (if_pos (Nat.le_trans hl (by decide)))
theorem len_at (hc : cs[i]? = some (.list xs)) : callv W (.bi .len) [.ref i] n cs = some (.int (xs.length : Int), cs) := by
  show (listOf cs (.ref i)).map (fun ys => (AV.int (ys.length : Int), cs)) = _
  rw [list_of hc]; rfl
theorem e_slc {m : Bool} {lo hi : ME} {l h : AV} {q : Option (AV × Cells)} (ho : o W n fr cs = some (x, cs₁)) (hl : lo W n fr cs₁ = some (l, cs₂)) (hh : hi W n fr cs₂ = some (h, cs₃)) (hq : slcv m cs₃ x l h = q) : eSlc m o lo hi W n fr cs = q := bindE ho (bindE hl (bindE hh hq))
theorem e_neg {j : Int} (h : a W n fr cs = some (.int j, cs₁)) : eNeg a W n fr cs = some (.int (-j), cs₁) := bindE h rfl
end
theorem forItems_cons {st : AV → Fr → Cells → Option Ou} {x : AV} {r : List AV} {fr fr' : Fr} {cs cs' : Cells} {q : Option Ou} (h : st x fr cs = some ⟨.next, fr', cs'⟩) (h2 : forItems st r fr' cs' = q) : forItems st (x :: r) fr cs = q := bindE h h2
theorem forItems_ret {st : AV → Fr → Cells → Option Ou} {x v : AV} {r : List AV} {fr fr' : Fr} {cs cs' : Cells} (h : st x fr cs = some ⟨.ret v, fr', cs'⟩) : forItems st (x :: r) fr cs = some ⟨.ret v, fr', cs'⟩ := bindE h rfl
theorem mk_lst {l : List AV} {cs : Cells} (hl : l.length ≤ 1000) : mk false l cs = some (.lst l, cs) := if_pos (Nat.le_trans hl (by decide))
theorem filter_all {α : Type} {l : List α} : (l.filter fun _ => true) = l := List.filter_eq_self.mpr fun _ _ => rfl
theorem goCell_pure {W : Wd} {n l : Nat} {t : List Nat} {fr : Fr} {cs : Cells} {ifs : List MB} {e : ME} {fx : AV → Fr} {b : AV → Bool} {g : AV → AV} {xs : List AV} (hc : cs[l]? = some (.list xs)) (h1 : ∀ x ∈ xs, bindN t x fr = some (fx x)) (h2 : ∀ x ∈ xs, evAO W n true ifs (fx x) cs = some (b x, cs)) (h3 : ∀ x ∈ xs, b x = true → e W n (fx x) cs = some (g x, cs)) (r : List AV) :
    ∀ (f j : Nat) (acc : List AV), xs.drop j = r → r.length < f → acc.length + r.length ≤ lim → goCell (fun s : List AV × Cells => s.2) l (stC W n e t ifs fr) f j (acc, cs) = some (acc ++ (r.filter b).map g, cs) := by
  induction r with
  | nil =>
    intro f j acc hd hf ha
    obtain ⟨f, rfl⟩ := Nat.exists_eq_succ_of_ne_zero (Nat.ne_of_gt hf)
    exact (gc_end (s := (acc, cs)) (list_at hc) (List.getElem?_eq_none (List.drop_eq_nil_iff.mp hd))).trans (by rw [List.filter_nil, List.map_nil, List.append_nil])
  | cons x r ih =>
    intro f j acc hd hf ha
    obtain ⟨f, rfl⟩ := Nat.exists_eq_succ_of_ne_zero (Nat.ne_of_gt (Nat.lt_of_le_of_lt (Nat.zero_le _) hf))
    obtain ⟨h0, hd'⟩ := drop_get hd
    have hm := List.mem_of_getElem? h0
    rw [List.length_cons] at ha
    have hll : acc.length < lim := Nat.lt_of_lt_of_le (Nat.lt_add_of_pos_right (Nat.succ_pos _)) ha
    have hb1 := h1 x hm
    have hb2 := h2 x hm
    cases hb : b x with
    | false =>
      rw [hb] at hb2
      rw [List.filter_cons_of_neg (by rw [hb]; exact Bool.false_ne_true)]
      exact gc_next (s := (acc, cs)) (list_at hc) h0 (bindE hb1 (bindE hb2 rfl)) (ih f (j + 1) acc hd' (Nat.lt_of_succ_lt_succ hf) (Nat.le_of_succ_le ha))
    | true =>
      rw [hb] at hb2
      rw [List.filter_cons_of_pos hb, List.map_cons]
      refine gc_next (s := (acc, cs)) (s' := (acc ++ [g x], cs)) (list_at hc) h0 (bindE hb1 (bindE hb2 (bindE (h3 x hm hb) (if_pos hll)))) ?_
      rw [ih f (j + 1) (acc ++ [g x]) hd' (Nat.lt_of_succ_lt_succ hf) (by rw [List.length_append, List.length_singleton, Nat.add_assoc, Nat.add_comm 1]; exact ha), List.append_assoc]
      rfl
theorem comp_cell {W : Wd} {n k l : Nat} {t : List Nat} {fr : Fr} {cs : Cells} {ifs : List MB} {e : ME} {m : Bool} {it : MI} {fx : AV → Fr} {b : AV → Bool} {g : AV → AV} {xs : List AV} {z : Option (AV × Cells)} (hI : it.run W n fr cs = some (.cell l, cs)) (hc : cs[l]? = some (.list xs)) (h1 : ∀ x ∈ xs, bindN t x (fr ++ List.replicate k none) = some (fx x)) (h2 : ∀ x ∈ xs, evAO W n true ifs (fx x) cs = some (b x, cs)) (h3 : ∀ x ∈ xs, b x = true → e W n (fx x) cs = some (g x, cs)) (hl : xs.length < 3000)
    (hm : mk m ((xs.filter b).map g) cs = z) : eComp m e [⟨k, t, it, ifs⟩] W n fr cs = z :=
  e_comp hI ((goCell_pure hc h1 h2 h3 xs loopFuel 0 [] rfl (Nat.lt_trans hl (by decide)) (Nat.le_trans (Nat.le_of_eq (Nat.zero_add _)) (Nat.le_of_lt (Nat.lt_trans hl (by decide))))).trans (by rw [List.nil_append])) hm
theorem cf_closed {P : Prog} {k j : Nat} {F : Fn} {args : List AV} {cs cs' : Cells} {v : AV} (h : P.fs[j]? = some F) (hb : belows 0 args = true) (hr : F.run (callAt P k) 0 args none [] = some (v, cs')) (hv : below 0 v = true) : (callAt P (k + 1)).cf j args none cs = some (v, cs) := by
  refine bindE (f := fun F => closed (callAt P k) F args none cs) h ?_
  show orElse (if (belows 0 args && true) = true then (F.run (callAt P k) 0 args none []).bind fun r => if below 0 r.1 = true then some r.1 else none else none) (fun v => some (v, cs)) _ = _
  rw [hb, hr, if_pos (by rfl), Option.bind_some, if_pos hv]; rfl
theorem bel_map {α : Type} {f : α → AV} (hf : ∀ x, below 0 (f x) = true) (l : List α) : belows 0 (l.map f) = true := by
  induction l with
  | nil => rfl
  | cons x r ih => exact aI ⟨hf x, ih⟩
theorem bel_ints (l : List Int) : belows 0 (l.map AV.int) = true := bel_map (fun _ => rfl) l
theorem eq_nil {xs : List AV} {cs : Cells} : cmpv cs .eq (.lst xs) (.lst []) = some xs.isEmpty := by
  cases xs with
  | nil => rfl
  | cons x r => rfl
theorem ne_nil {xs : List AV} {cs : Cells} : cmpv cs .ne (.lst xs) (.lst []) = some (!xs.isEmpty) := by
  cases xs with
  | nil => rfl
  | cons x r => rfl
theorem ne_cell {cs : Cells} {i : Nat} {xs : List AV} (hc : cs[i]? = some (.list xs)) : cmpv cs .ne (.ref i) (.lst []) = some (!xs.isEmpty) := by
  show ((listOf cs (.ref i)).bind (fun xs => (listOf cs (.lst [])).bind fun ys => if xs.length = ys.length then eqvs (eqv cs 7) xs ys else some false)).map (!·) = _
  rw [list_of hc]
  cases xs with
  | nil => rfl
  | cons x r => rfl
noncomputable def headTx (x : AV) : Tx := (((x.tup?.getD []).head?).bind AV.str?).getD []
theorem all_run {P : Prog} {k i d l : Nat} {cs : Cells} (hP : P.fs[8]? = some f__convert_string_type) (hQ : P.fs[11]? = some f_get_all) {hl : List (Tx × Tx)} (t : Tab cs i d l hl) (hk : ∀ p ∈ hl, p.1.all okSign = true) (hlen : hl.length ≤ 1000) {nm : Tx} (hn : nm.all okSign = true) :
    (callAt P (k + 2)).cf 11 [.ref i, .str nm] none cs = some (.lst ((hl.filter fun p => decide (p.1.map lowC = nm.map lowC)).map fun p => .str p.2), cs) := by
  have hnm := as_var (i := 1) (name_run (P := P) (k := k) (n := cs.length) (fr := [some (.ref i), some (.str nm)]) hP t hn rfl rfl) (lt_ok rfl)
  have hc : eComp false (eIdx (eVar 2) (eLit (.int 1))) [⟨1, [2], iVal (eAttr (eVar 0) hTx), [bCmp .eq (eMeth (eIdx (eVar 2) (eLit (.int 0))) .lower none []) (eVar 1)]⟩] (callAt P (k + 1)) cs.length [some (.ref i), some (.str (nm.map lowC))] cs = some (.lst ((hl.filter fun p => decide (p.1.map lowC = nm.map lowC)).map fun p => .str p.2), cs) := by
    refine comp_cell (fx := fun x => [some (.ref i), some (.str (nm.map lowC)), some x]) (b := fun x => decide ((headTx x).map lowC = nm.map lowC)) (g := fun x => (x.tup?.getD []).getD 1 .none) (i_val (e_attr rfl t.attr) (itv_cell t.list)) t.list (fun x hx => rfl) (fun x hx => ?_) (fun x hx _ => ?_) (by rw [List.length_map]; exact Nat.lt_of_le_of_lt hlen (by decide)) ?_
    · obtain ⟨p, hp, rfl⟩ := List.mem_map.mp hx
      exact ao_one (b_cmp (e_meth (e_idx rfl rfl rfl) rfl rfl rfl (lower_run (hk p hp))) rfl (by rw [eq_str]; exact congrArg some (Bool.eq_iff_iff.mpr (by rw [beq_iff_eq, decide_eq_true_iff]; exact Iff.rfl))))
    · obtain ⟨p, hp, rfl⟩ := List.mem_map.mp hx
      exact e_idx rfl rfl rfl
    · rw [List.filter_map, List.map_map]
      exact mk_lst (by rw [List.length_map]; exact Nat.le_trans (List.length_filter_le _ _) hlen)
  exact call_run hQ below_ref (run_of rfl (ss_next hnm (ss_ret (s_ret hc))) rfl) (bel_map (fun _ => rfl) _) List.take_length
end Ev.Lib
namespace Bf
structure En (σ C : Type) where
  size : Nat
  word : List C
  st : σ
section
variable {σ C : Type} [DecidableEq σ] (lt : En σ C → En σ C → Bool) (step : σ → C → σ) (goal dead : σ → Bool) (cs : List C)
noncomputable def run (s : σ) (w : List C) : σ := w.foldl step s
noncomputable def push1 (e : En σ C) (hm : List (En σ C) × List σ) (c : C) : List (En σ C) × List σ :=
  if dead (step e.st c) = false ∧ step e.st c ∉ hm.2 then (Hp.push lt hm.1 ⟨e.size + 1, e.word ++ [c], step e.st c⟩, hm.2 ++ [step e.st c]) else hm
noncomputable def spread (e : En σ C) (hm : List (En σ C) × List σ) : List (En σ C) × List σ := cs.foldl (push1 lt step dead e) hm
noncomputable def go : Nat → List (En σ C) → List σ → Option (Option (En σ C))
  | 0, _, _ => none
  | f + 1, xs, ms => match xs with
    | [] => some none
    | e :: r => if goal e.st then some (some e) else go f (spread lt step dead cs e (Hp.rest lt (e :: r), ms)).1 (spread lt step dead cs e (Hp.rest lt (e :: r), ms)).2
noncomputable def Good : σ → List C → Prop
  | _, [] => True
  | s, c :: w => goal s = false ∧ c ∈ cs ∧ dead (step s c) = false ∧ Good (step s c) w
variable (start : σ) (U : List σ)
structure Sys : Prop where
  to : Hp.TO lt
  size : ∀ a b, lt a b = false → b.size ≤ a.size
  univ : ∀ s ∈ U, ∀ c ∈ cs, dead (step s c) = false → step s c ∈ U
structure EnOk (ms : List σ) (e : En σ C) : Prop where
  good : Good step goal dead cs start e.word
  len : e.word.length = e.size
  run : run step start e.word = e.st
  met : e.st ∈ ms
  cs : ∀ c ∈ e.word, c ∈ cs
structure Inv (xs : List (En σ C)) (ms ps : List σ) : Prop where
  heap : Hp.Heap lt xs
  ent : ∀ e ∈ xs, EnOk step goal dead cs start ms e
  clo : ∀ s ∈ ms, s ∈ ps ∨ ∃ e ∈ xs, e.st = s
  pgo : ∀ s ∈ ps, goal s = false
  pcl : ∀ s ∈ ps, ∀ c ∈ cs, dead (step s c) = false → step s c ∈ ms
  two : ∀ e ∈ xs, ∀ e' ∈ xs, e.size ≤ e'.size + 1
  reach : ∀ u, Good step goal dead cs start u → run step start u ∈ ps ∨ ∃ e ∈ xs, ∃ v, Good step goal dead cs e.st v ∧ run step e.st v = run step start u ∧ e.size + v.length ≤ u.length
  nd : ms.Nodup
  sub : ∀ s ∈ ms, s ∈ U
end
theorem nodup_le {α : Type} [DecidableEq α] {l : List α} : ∀ {m : List α}, l.Nodup → (∀ x ∈ l, x ∈ m) → l.length ≤ m.length := by
  induction l with
  | nil => intro m _ _; exact Nat.zero_le _
  | cons a l ih =>
    intro m hn hs
    obtain ⟨h1, h2⟩ := List.nodup_cons.mp hn
    have ha := hs a List.mem_cons_self
    have hl := ih (m := m.erase a) h2 fun x hx => (List.mem_erase_of_ne (fun e => h1 (by rw [← e]; exact hx))).mpr (hs x (List.mem_cons_of_mem _ hx))
    rw [List.length_erase_of_mem ha] at hl
    rw [List.length_cons]
    have := List.length_pos_of_mem ha
    omega
section
variable {σ C : Type} [DecidableEq σ] {lt : En σ C → En σ C → Bool} {step : σ → C → σ} {goal dead : σ → Bool} {cs : List C} {start : σ} {U : List σ}
structure Mid (step : σ → C → σ) (dead : σ → Bool) (cs : List C) (lt : En σ C → En σ C → Bool) (e : En σ C) (xs : List (En σ C)) (ms : List σ) (l : List C) (hm : List (En σ C) × List σ) : Prop where
  heap : Hp.Heap lt hm.1
  old : ∀ x ∈ xs, x ∈ hm.1
  ent : ∀ x ∈ hm.1, x ∈ xs ∨ ∃ c ∈ cs, x = ⟨e.size + 1, e.word ++ [c], step e.st c⟩ ∧ x.st ∈ hm.2 ∧ dead x.st = false
  keep : ∀ s ∈ ms, s ∈ hm.2
  new : ∀ s ∈ hm.2, s ∈ ms ∨ ((∃ x ∈ hm.1, x.st = s) ∧ ∃ c ∈ cs, s = step e.st c ∧ dead s = false)
  all : ∀ c ∈ l, dead (step e.st c) = false → step e.st c ∈ hm.2
  nd : hm.2.Nodup
  len : hm.1.length + ms.length = xs.length + hm.2.length
theorem Mid.push (T : Hp.TO lt) {e : En σ C} {xs : List (En σ C)} {ms : List σ} {l : List C} {hm : List (En σ C) × List σ} (M : Mid step dead cs lt e xs ms l hm) {c : C} (hc : c ∈ cs) : Mid step dead cs lt e xs ms (l ++ [c]) (push1 lt step dead e hm c) := by
  unfold push1
  by_cases h : dead (step e.st c) = false ∧ step e.st c ∉ hm.2
  · rw [if_pos h]
    have hp : ∀ x, x ∈ Hp.push lt hm.1 ⟨e.size + 1, e.word ++ [c], step e.st c⟩ ↔ x = ⟨e.size + 1, e.word ++ [c], step e.st c⟩ ∨ x ∈ hm.1 := fun x => (Hp.push_perm hm.1 _).mem_iff.trans List.mem_cons
    refine ⟨Hp.push_heap T M.heap _, fun x hx => (hp x).mpr (.inr (M.old x hx)), fun x hx => ?_, fun s hs => List.mem_append_left _ (M.keep s hs), fun s hs => ?_, fun d hd hdd => ?_, ?_, ?_⟩
    · rcases (hp x).mp hx with rfl | hx
      · exact .inr ⟨c, hc, rfl, List.mem_append_right _ List.mem_cons_self, h.1⟩
      · rcases M.ent x hx with h | ⟨d, hd, he, hm, hdd⟩
        · exact .inl h
        · exact .inr ⟨d, hd, he, List.mem_append_left _ hm, hdd⟩
    · rcases List.mem_append.mp hs with hs | hs
      · rcases M.new s hs with h | ⟨⟨x, hx, he⟩, h⟩
        · exact .inl h
        · exact .inr ⟨⟨x, (hp x).mpr (.inr hx), he⟩, h⟩
      · obtain rfl := List.mem_singleton.mp hs
        exact .inr ⟨⟨_, (hp _).mpr (.inl rfl), rfl⟩, c, hc, rfl, h.1⟩
    · rcases List.mem_append.mp hd with hd | hd
      · exact List.mem_append_left _ (M.all d hd hdd)
      · rw [List.mem_singleton.mp hd]; exact List.mem_append_right _ List.mem_cons_self
    · exact List.nodup_append.mpr ⟨M.nd, List.nodup_cons.mpr ⟨List.not_mem_nil, List.nodup_nil⟩, fun a ha b hb e => h.2 (by rw [← List.mem_singleton.mp hb, ← e]; exact ha)⟩
    · rw [(Hp.push_perm hm.1 _).length_eq, List.length_cons, List.length_append, List.length_singleton]
      have := M.len
      omega
  · rw [if_neg h]
    refine { M with all := fun d hd hdd => ?_ }
    rcases List.mem_append.mp hd with hd | hd
    · exact M.all d hd hdd
    · rw [List.mem_singleton.mp hd] at hdd ⊢
      exact Classical.byContradiction fun z => h ⟨hdd, z⟩
theorem mid_all (T : Hp.TO lt) {e : En σ C} {xs : List (En σ C)} {ms : List σ} (r : List C) : ∀ {l : List C} {hm : List (En σ C) × List σ}, (∀ c ∈ r, c ∈ cs) → Mid step dead cs lt e xs ms l hm → Mid step dead cs lt e xs ms (l ++ r) (r.foldl (push1 lt step dead e) hm) := by
  induction r with
  | nil => intro l hm _ M; rw [List.append_nil]; exact M
  | cons c r ih =>
    intro l hm hr M
    have := ih (fun d hd => hr d (List.mem_cons_of_mem _ hd)) (M.push T (hr c List.mem_cons_self))
    rw [List.append_assoc] at this
    exact this
theorem run_snoc (s : σ) (w : List C) (c : C) : run step s (w ++ [c]) = step (run step s w) c := by unfold run; rw [List.foldl_append]; rfl
theorem good_snoc {c : C} (w : List C) : ∀ {s : σ}, Good step goal dead cs s w → goal (run step s w) = false → c ∈ cs → dead (step (run step s w) c) = false → Good step goal dead cs s (w ++ [c]) := by
  induction w with
  | nil => intro s _ h1 h2 h3; exact ⟨h1, h2, h3, trivial⟩
  | cons d w ih => intro s h h1 h2 h3; exact ⟨h.1, h.2.1, h.2.2.1, ih h.2.2.2 h1 h2 h3⟩
theorem turn (S : Sys lt step dead cs U) {e : En σ C} {r : List (En σ C)} {ms ps : List σ} (I : Inv lt step goal dead cs start U (e :: r) ms ps) (hg : goal e.st = false) :
    Inv lt step goal dead cs start U (spread lt step dead cs e (Hp.rest lt (e :: r), ms)).1 (spread lt step dead cs e (Hp.rest lt (e :: r), ms)).2 (e.st :: ps) ∧
    (spread lt step dead cs e (Hp.rest lt (e :: r), ms)).1.length + ms.length + 1 = (e :: r).length + (spread lt step dead cs e (Hp.rest lt (e :: r), ms)).2.length ∧ ∀ x ∈ (spread lt step dead cs e (Hp.rest lt (e :: r), ms)).1, x.size ≤ e.size + 1 := by
  obtain ⟨h1, h2, h3⟩ := Hp.rest_spec S.to I.heap
  have hmin : ∀ x ∈ e :: r, e.size ≤ x.size := fun x hx => S.size x e (h3 x hx)
  have hmem : ∀ x, x ∈ e :: r ↔ x = e ∨ x ∈ Hp.rest lt (e :: r) := fun x => h2.mem_iff.symm.trans List.mem_cons
  have e0 := I.ent e List.mem_cons_self
  have M : Mid step dead cs lt e (Hp.rest lt (e :: r)) ms ([] ++ cs) (spread lt step dead cs e (Hp.rest lt (e :: r), ms)) :=
    mid_all S.to cs (fun c hc => hc) ⟨h1, fun x hx => hx, fun x hx => .inl hx, fun s hs => hs, fun s hs => .inl hs, fun c hc => (nomatch hc), I.nd, rfl⟩
  rw [List.nil_append] at M
  have hlen := h2.length_eq
  rw [List.length_cons] at hlen
  generalize spread lt step dead cs e (Hp.rest lt (e :: r), ms) = hm at M
  generalize Hp.rest lt (e :: r) = xs at M hmem hlen
  have hsz : ∀ x ∈ hm.1, e.size ≤ x.size ∧ x.size ≤ e.size + 1 := fun x hx => by
    rcases M.ent x hx with h | ⟨c, _, rfl, _, _⟩
    · have hx' := (hmem x).mpr (.inr h)
      exact ⟨hmin x hx', I.two x hx' e List.mem_cons_self⟩
    · exact ⟨Nat.le_succ _, Nat.le_refl _⟩
  have clo : ∀ s ∈ hm.2, s ∈ e.st :: ps ∨ ∃ x ∈ hm.1, x.st = s := fun s hs => by
    rcases M.new s hs with h | ⟨h, _⟩
    · rcases I.clo s h with h | ⟨x, hx, rfl⟩
      · exact .inl (List.mem_cons_of_mem _ h)
      · rcases (hmem x).mp hx with rfl | hx
        · exact .inl List.mem_cons_self
        · exact .inr ⟨x, M.old x hx, rfl⟩
    · exact .inr h
  have pcl : ∀ s ∈ e.st :: ps, ∀ c ∈ cs, dead (step s c) = false → step s c ∈ hm.2 := fun s hs c hc hd => by
    rcases List.mem_cons.mp hs with rfl | hs
    · exact M.all c hc hd
    · exact M.keep _ (I.pcl s hs c hc hd)
  have far : ∀ (v : List C) (t : σ), t ∈ hm.2 → Good step goal dead cs t v → run step t v ∈ e.st :: ps ∨ ∃ x ∈ hm.1, ∃ w, Good step goal dead cs x.st w ∧ run step x.st w = run step t v ∧ x.size + w.length ≤ e.size + 1 + v.length := by
    intro v
    induction v with
    | nil =>
      intro t ht hgd
      rcases clo t ht with h | ⟨x, hx, rfl⟩
      · exact .inl h
      · exact .inr ⟨x, hx, [], trivial, rfl, (hsz x hx).2⟩
    | cons c v ih =>
      intro t ht hgd
      rcases clo t ht with h | ⟨x, hx, rfl⟩
      · rcases ih (step t c) (pcl t h c hgd.2.1 hgd.2.2.1) hgd.2.2.2 with h | ⟨x, hx, w, g, e1, e2⟩
        · exact .inl h
        · exact .inr ⟨x, hx, w, g, e1, Nat.le_trans e2 (Nat.add_le_add_left (Nat.le_succ _) _)⟩
      · exact .inr ⟨x, hx, c :: v, hgd, rfl, Nat.add_le_add_right (hsz x hx).2 _⟩
  refine ⟨⟨M.heap, fun x hx => ?_, clo, fun s hs => ?_, pcl, fun x hx y hy => Nat.le_trans (hsz x hx).2 (Nat.succ_le_succ (hsz y hy).1), fun u hu => ?_, M.nd, fun s hs => ?_⟩, ?_, fun x hx => (hsz x hx).2⟩
  · rcases M.ent x hx with h | ⟨c, hc, rfl, hm', hdd⟩
    · have o := I.ent x ((hmem x).mpr (.inr h))
      exact ⟨o.good, o.len, o.run, M.keep _ o.met, o.cs⟩
    · refine ⟨good_snoc e.word e0.good (by rw [e0.run]; exact hg) hc (by rw [e0.run]; exact hdd), by rw [List.length_append, e0.len]; rfl, by rw [run_snoc, e0.run], hm', fun d hd => ?_⟩
      rcases List.mem_append.mp hd with hd | hd
      · exact e0.cs d hd
      · rw [List.mem_singleton.mp hd]; exact hc
  · rcases List.mem_cons.mp hs with rfl | hs
    · exact hg
    · exact I.pgo s hs
  · rcases I.reach u hu with h | ⟨x, hx, v, g, e1, e2⟩
    · exact .inl (List.mem_cons_of_mem _ h)
    · rcases (hmem x).mp hx with rfl | hx
      · cases v with
        | nil => exact .inl (by rw [← e1]; exact List.mem_cons_self)
        | cons c v =>
          rcases far v (step x.st c) (M.all c g.2.1 g.2.2.1) g.2.2.2 with h | ⟨y, hy, w, g', e3, e4⟩
          · exact .inl (e1 ▸ h)
          · refine .inr ⟨y, hy, w, g', e3.trans e1, Nat.le_trans e4 (Nat.le_trans (Nat.le_of_eq ?_) e2)⟩
            rw [List.length_cons]; omega
      · exact .inr ⟨x, M.old x hx, v, g, e1, e2⟩
  · rcases M.new s hs with h | ⟨_, c, hc, rfl, hd⟩
    · exact I.sub s h
    · exact S.univ _ (I.sub _ e0.met) c hc hd
  · have := M.len
    rw [List.length_cons]
    rw [List.length_cons] at hlen
    omega
noncomputable def Found (step : σ → C → σ) (goal dead : σ → Bool) (cs : List C) (start : σ) : Option (En σ C) → Prop
  | none => ∀ u, Good step goal dead cs start u → goal (run step start u) = false
  | some e => Good step goal dead cs start e.word ∧ e.word.length = e.size ∧ run step start e.word = e.st ∧ goal e.st = true ∧ (∀ c ∈ e.word, c ∈ cs) ∧ ∀ u, Good step goal dead cs start u → goal (run step start u) = true → e.size ≤ u.length
theorem go_found (S : Sys lt step dead cs U) : ∀ (f : Nat) {xs : List (En σ C)} {ms ps : List σ}, Inv lt step goal dead cs start U xs ms ps → xs.length + U.length < f + ms.length → ∃ r, go lt step goal dead cs f xs ms = some r ∧ Found step goal dead cs start r := by
  intro f
  induction f with
  | zero =>
    intro xs ms ps I h
    have := nodup_le I.nd I.sub
    omega
  | succ f ih =>
    intro xs ms ps I h
    cases xs with
    | nil =>
      refine ⟨none, rfl, fun u hu => ?_⟩
      rcases I.reach u hu with h | ⟨x, hx, _⟩
      · exact I.pgo _ h
      · cases hx
    | cons e r =>
      unfold go
      dsimp only
      cases hg : goal e.st with
      | true =>
        have o := I.ent e List.mem_cons_self
        refine ⟨some e, if_pos rfl, o.good, o.len, o.run, hg, o.cs, fun u hu hgu => ?_⟩
        rcases I.reach u hu with h | ⟨x, hx, v, g, e1, e2⟩
        · rw [I.pgo _ h] at hgu; cases hgu
        · exact Nat.le_trans (S.size x e ((Hp.rest_spec S.to I.heap).2.2 x hx)) (Nat.le_trans (Nat.le_add_right _ _) e2)
      | false =>
        obtain ⟨I', hl, _⟩ := turn S I hg
        rw [if_neg Bool.false_ne_true]
        exact ih I' (by omega)
theorem inv0 (hs : start ∈ U) : Inv lt step goal dead cs start U [⟨0, [], start⟩] [start] [] := by
  refine ⟨fun i hi a b ea eb => ?_, fun e he => ?_, fun s h => .inr ⟨_, List.mem_cons_self, (List.mem_singleton.mp h).symm⟩, fun s h => (nomatch h), fun s h => (nomatch h), fun e he e' he' => ?_, fun u hu => .inr ⟨_, List.mem_cons_self, u, hu, rfl, Nat.le_of_eq (Nat.zero_add _)⟩, List.nodup_cons.mpr ⟨List.not_mem_nil, List.nodup_nil⟩, fun s h => by rw [List.mem_singleton.mp h]; exact hs⟩
  · rw [List.getElem?_eq_none (Nat.succ_le_of_lt hi)] at eb; cases eb
  · rw [List.mem_singleton.mp he]; exact ⟨trivial, rfl, rfl, List.mem_cons_self, fun c h => (nomatch h)⟩
  · rw [List.mem_singleton.mp he, List.mem_singleton.mp he']; exact Nat.le_succ _
end
end Bf
namespace J2
theorem stops {α : Type} {X : List α} {p : Nat → α → Bool} (hm : ∀ i x, p i x = true → p (i + 1) x = true) : ∀ n, X.length < n → ∃ i, i < n ∧ ∀ x ∈ X, p (i + 1) x = true → p i x = true := by
  intro n hn
  refine Classical.byContradiction fun h => ?_
  have hc : ∀ i, i ≤ n → i ≤ (X.filter (p i)).length := by
    intro i
    induction i with
    | zero => exact fun _ => Nat.zero_le _
    | succ i ih =>
      intro hi
      have ih := ih (Nat.le_of_succ_le hi)
      have : ∃ x ∈ X, p (i + 1) x = true ∧ p i x = false := Classical.byContradiction fun z => h ⟨i, hi, fun x hx hp => by
        cases hq : p i x with
        | true => rfl
        | false => exact absurd ⟨x, hx, hp, hq⟩ z⟩
      obtain ⟨x, hx, h1, h2⟩ := this
      have hlt : ∀ Y : List α, x ∈ Y → (Y.filter (p i)).length < (Y.filter (p (i + 1))).length := by
        intro Y
        induction Y with
        | nil => intro hx; cases hx
        | cons y Y ihY =>
          intro hx
          have hle : ∀ Z : List α, (Z.filter (p i)).length ≤ (Z.filter (p (i + 1))).length := by
            intro Z
            induction Z with
            | nil => exact Nat.le_refl _
            | cons z Z ihZ =>
              rw [List.filter_cons, List.filter_cons]
              by_cases hz : p i z = true
              · rw [if_pos hz, if_pos (hm _ _ hz)]; exact Nat.succ_le_succ ihZ
              · rw [if_neg hz]
                by_cases hz' : p (i + 1) z = true
                · rw [if_pos hz']; exact Nat.le_succ_of_le ihZ
                · rw [if_neg hz']; exact ihZ
          rw [List.filter_cons, List.filter_cons]
          rcases List.mem_cons.mp hx with rfl | hx
          · rw [if_pos h1, if_neg (by rw [h2]; exact Bool.false_ne_true), List.length_cons]
            exact Nat.lt_succ_of_le (hle Y)
          · have ihY := ihY hx
            by_cases hz : p i y = true
            · rw [if_pos hz, if_pos (hm _ _ hz)]; exact Nat.succ_lt_succ ihY
            · rw [if_neg hz]
              by_cases hz' : p (i + 1) y = true
              · rw [if_pos hz']; exact Nat.lt_succ_of_lt ihY
              · rw [if_neg hz']; exact ihY
      exact Nat.le_trans (Nat.succ_le_succ ih) (hlt X hx)
  exact absurd (Nat.le_trans (hc n (Nat.le_refl _)) (List.length_filter_le _ _)) (Nat.not_le.mpr hn)
noncomputable abbrev Roads := Nat → Nat → Nat × Nat
noncomputable abbrev R4 : List Nat := [0, 1, 2, 3]
theorem mem_R4 {v : Nat} : v ∈ R4 ↔ v < 4 := List.mem_range (n := 4)
theorem two_of {c : Nat} (h : c < 2) : c = 0 ∨ c = 1 := by omega
theorem four_of {x : Nat} (h : x < 4) : x = 0 ∨ x = 1 ∨ x = 2 ∨ x = 3 := by omega
structure Ok (g : Roads) : Prop where
  col : ∀ k i, (g k i).1 < 2
  en : ∀ k i, (g k i).2 < 4
noncomputable def on (c : Nat) (p : List Nat × Nat) : List Nat × Nat := (c :: p.1, p.2)
noncomputable def ways (g : Roads) : Nat → Nat → List (List Nat × Nat)
  | 0, t => [([], t)]
  | n + 1, t => (ways g n (g t 0).2).map (on (g t 0).1) ++ (ways g n (g t 1).2).map (on (g t 1).1)
noncomputable def behind (u : List Nat) (p : List Nat × Nat) : List Nat × Nat := (u ++ p.1, p.2)
noncomputable def step (g : Roads) (S : List Nat) (c : Nat) : List Nat := R4.filter fun v => S.any fun k => decide (g k 0 = (c, v)) || decide (g k 1 = (c, v))
section
variable {g : Roads}
theorem ways_len : ∀ (n t : Nat), (ways g n t).length = 2 ^ n
  | 0, _ => rfl
  | n + 1, t => by
    unfold ways
    rw [List.length_append, List.length_map, List.length_map, ways_len n, ways_len n, Nat.pow_succ, Nat.mul_two]
theorem way_cons {n t : Nat} {q : List Nat × Nat} : q ∈ ways g (n + 1) t ↔ ∃ i, (i = 0 ∨ i = 1) ∧ ∃ p ∈ ways g n (g t i).2, q = on (g t i).1 p := by
  show q ∈ (ways g n (g t 0).2).map (on (g t 0).1) ++ (ways g n (g t 1).2).map (on (g t 1).1) ↔ _
  rw [List.mem_append, List.mem_map, List.mem_map]
  constructor
  · rintro (⟨p, hp, e⟩ | ⟨p, hp, e⟩)
    · exact ⟨0, .inl rfl, p, hp, e.symm⟩
    · exact ⟨1, .inr rfl, p, hp, e.symm⟩
  · rintro ⟨i, rfl | rfl, p, hp, e⟩
    · exact .inl ⟨p, hp, e.symm⟩
    · exact .inr ⟨p, hp, e.symm⟩
theorem way_ok (O : Ok g) : ∀ {n t : Nat} {p : List Nat × Nat}, t < 4 → p ∈ ways g n t → p.2 < 4 ∧ p.1.length = n ∧ ∀ c ∈ p.1, c < 2
  | 0, t, p, ht, h => by rw [List.mem_singleton.mp h]; exact ⟨ht, rfl, fun c hc => (nomatch hc)⟩
  | n + 1, t, p, ht, h => by
    obtain ⟨i, _, q, hq, rfl⟩ := way_cons.mp h
    obtain ⟨h1, h2, h3⟩ := way_ok O (O.en t i) hq
    exact ⟨h1, congrArg (· + 1) h2, fun c hc => (List.mem_cons.mp hc).elim (fun e => e ▸ O.col t i) (h3 c)⟩
theorem way_append : ∀ {n m t : Nat} {p q : List Nat × Nat}, p ∈ ways g n t → q ∈ ways g m p.2 → behind p.1 q ∈ ways g (n + m) t
  | 0, m, t, p, q, hp, hq => by rw [List.mem_singleton.mp hp] at hq ⊢; rw [Nat.zero_add]; exact hq
  | n + 1, m, t, p, q, hp, hq => by
    obtain ⟨i, hi, r, hr, rfl⟩ := way_cons.mp hp
    rw [Nat.add_right_comm]
    exact way_cons.mpr ⟨i, hi, _, way_append hr hq, rfl⟩
theorem way_split : ∀ {n m t : Nat} {q : List Nat × Nat}, q ∈ ways g (n + m) t → ∃ p ∈ ways g n t, ∃ r ∈ ways g m p.2, q = behind p.1 r
  | 0, m, t, q, h => by rw [Nat.zero_add] at h; exact ⟨([], t), List.mem_cons_self, q, h, rfl⟩
  | n + 1, m, t, q, h => by
    rw [Nat.add_right_comm] at h
    obtain ⟨i, hi, r, hr, rfl⟩ := way_cons.mp h
    obtain ⟨p, hp, r', hr', rfl⟩ := way_split hr
    exact ⟨_, way_cons.mpr ⟨i, hi, p, hp, rfl⟩, r', hr', rfl⟩
theorem mem_step (O : Ok g) {S : List Nat} {c v : Nat} : v ∈ step g S c ↔ ∃ k ∈ S, ∃ i, (i = 0 ∨ i = 1) ∧ g k i = (c, v) := by
  unfold step
  rw [List.mem_filter, mem_R4, List.any_eq_true]
  constructor
  · rintro ⟨_, k, hk, h⟩
    rcases Bool.or_eq_true_iff.mp h with h | h
    · exact ⟨k, hk, 0, .inl rfl, of_decide_eq_true h⟩
    · exact ⟨k, hk, 1, .inr rfl, of_decide_eq_true h⟩
  · rintro ⟨k, hk, i, hi, e⟩
    refine ⟨by have := O.en k i; rw [e] at this; exact this, k, hk, Bool.or_eq_true_iff.mpr ?_⟩
    rcases hi with rfl | rfl
    · exact .inl (decide_eq_true e)
    · exact .inr (decide_eq_true e)
theorem mem_run (O : Ok g) : ∀ {w : List Nat} {S : List Nat} {v : Nat}, v ∈ w.foldl (step g) S ↔ ∃ u ∈ S, (w, v) ∈ ways g w.length u
  | [], S, v => by
    constructor
    · exact fun h => ⟨v, h, List.mem_cons_self⟩
    · rintro ⟨u, hu, h⟩
      rw [(Prod.mk.inj (List.mem_singleton.mp h)).2]; exact hu
  | c :: w, S, v => by
    rw [List.foldl_cons, mem_run O]
    constructor
    · rintro ⟨u, hu, h⟩
      obtain ⟨k, hk, i, hi, e⟩ := (mem_step O).mp hu
      exact ⟨k, hk, way_cons.mpr ⟨i, hi, (w, v), by rw [e]; exact h, by rw [e]; rfl⟩⟩
    · rintro ⟨k, hk, h⟩
      obtain ⟨i, hi, p, hp, e⟩ := way_cons.mp h
      obtain ⟨e1, e2⟩ := Prod.mk.inj e
      obtain ⟨e3, e4⟩ := List.cons.inj e1
      refine ⟨(g k i).2, (mem_step O).mpr ⟨k, hk, i, hi, by rw [e3]⟩, ?_⟩
      have : p = (w, v) := Prod.ext e4.symm e2.symm
      rw [← this]; exact hp
noncomputable def words : Nat → List (List Nat)
  | 0 => [[]]
  | n + 1 => (words n).map (0 :: ·) ++ (words n).map (1 :: ·)
theorem words_len : ∀ n, (words n).length = 2 ^ n
  | 0 => rfl
  | n + 1 => by unfold words; rw [List.length_append, List.length_map, List.length_map, words_len n, Nat.pow_succ, Nat.mul_two]
theorem mem_words : ∀ {n : Nat} {w : List Nat}, w ∈ words n ↔ w.length = n ∧ ∀ c ∈ w, c < 2
  | 0, w => by
    constructor
    · intro h; rw [List.mem_singleton.mp h]; exact ⟨rfl, fun c hc => (nomatch hc)⟩
    · intro h; rw [List.length_eq_zero_iff.mp h.1]; exact List.mem_cons_self
  | n + 1, w => by
    unfold words
    rw [List.mem_append, List.mem_map, List.mem_map]
    constructor
    · rintro (⟨u, hu, rfl⟩ | ⟨u, hu, rfl⟩)
      · obtain ⟨h1, h2⟩ := mem_words.mp hu
        exact ⟨congrArg (· + 1) h1, fun c hc => (List.mem_cons.mp hc).elim (fun e => by rw [e]; decide) (h2 c)⟩
      · obtain ⟨h1, h2⟩ := mem_words.mp hu
        exact ⟨congrArg (· + 1) h1, fun c hc => (List.mem_cons.mp hc).elim (fun e => by rw [e]; decide) (h2 c)⟩
    · rintro ⟨h1, h2⟩
      cases w with
      | nil => cases h1
      | cons c w =>
        have hw : w ∈ words n := mem_words.mpr ⟨Nat.succ.inj h1, fun d hd => h2 d (List.mem_cons_of_mem _ hd)⟩
        have hc := h2 c List.mem_cons_self
        rcases two_of hc with rfl | rfl
        · exact .inl ⟨w, hw, rfl⟩
        · exact .inr ⟨w, hw, rfl⟩
theorem nodup_map {α β : Type} {f : α → β} (hf : ∀ a b, f a = f b → a = b) {l : List α} (h : l.Nodup) : (l.map f).Nodup :=
  List.Pairwise.map (R := fun a b => a ≠ b) (S := fun a b => a ≠ b) f (fun a b hab e => hab (hf a b e)) h
theorem words_nodup : ∀ n, (words n).Nodup
  | 0 => List.nodup_cons.mpr ⟨List.not_mem_nil, List.nodup_nil⟩
  | n + 1 => by
    unfold words
    refine List.nodup_append.mpr ⟨nodup_map (fun a b e => (List.cons.inj e).2) (words_nodup n), nodup_map (fun a b e => (List.cons.inj e).2) (words_nodup n), fun a ha b hb e => ?_⟩
    obtain ⟨u, _, rfl⟩ := List.mem_map.mp ha
    obtain ⟨v, _, rfl⟩ := List.mem_map.mp hb
    exact absurd (List.cons.inj e).1 (by decide)
theorem grow (M : Nat) : ∀ k, M ^ (k + 1) + (k + 1) * M ^ k ≤ (M + 1) ^ (k + 1)
  | 0 => by rw [Nat.pow_one, Nat.pow_zero, Nat.zero_add, Nat.mul_one, Nat.pow_one]; exact Nat.le_refl _
  | k + 1 => by
    have ih := grow M k
    have h := Nat.mul_le_mul_right (M + 1) ih
    rw [← Nat.pow_succ] at h
    refine Nat.le_trans ?_ h
    have h2 : (M ^ (k + 1) + (k + 1) * M ^ k) * (M + 1) = M ^ (k + 1) * M + (k + 1) * M ^ k * M + (M ^ (k + 1) + (k + 1) * M ^ k) := by rw [Nat.mul_add_one, Nat.add_mul]
    have h3 : (k + 1) * M ^ k * M = (k + 1) * M ^ (k + 1) := by rw [Nat.mul_assoc, ← Nat.pow_succ]
    have h4 : (k + 1 + 1) * M ^ (k + 1) = (k + 1) * M ^ (k + 1) + M ^ (k + 1) := Nat.succ_mul _ _
    have h5 : M ^ (k + 1 + 1) = M ^ (k + 1) * M := Nat.pow_succ ..
    rw [h2, h3, h4, h5]
    omega
theorem four (M : Nat) : ∃ k, 4 * M ^ k < (M + 1) ^ k := by
  cases M with
  | zero => exact ⟨1, by decide⟩
  | succ M =>
    have h := grow (M + 1) (4 * M + 3)
    have hp : 0 < (M + 1) ^ (4 * M + 3 + 1) := Nat.pow_pos (Nat.succ_pos _)
    refine ⟨4 * M + 3 + 1, ?_⟩
    have e : (4 * M + 3 + 1) * (M + 1) ^ (4 * M + 3) = 4 * (M + 1) ^ (4 * M + 3 + 1) := by
      rw [show (M + 1) ^ (4 * M + 3 + 1) = (M + 1) ^ (4 * M + 3) * (M + 1) from Nat.pow_succ .., show 4 * M + 3 + 1 = 4 * (M + 1) from rfl, Nat.mul_assoc, Nat.mul_comm (M + 1)]
    rw [e] at h
    omega
end
end J2
namespace J2
section
variable {g : Roads}
noncomputable def com (g : Roads) : Nat → Nat × Nat → Bool
  | 0, p => p.1 == p.2
  | n + 1, p => com g n p || [0, 1].any fun a => [0, 1].any fun b => (g p.1 a).1 == (g p.2 b).1 && com g n ((g p.1 a).2, (g p.2 b).2)
theorem zero_one {i : Nat} : i ∈ [0, 1] ↔ i = 0 ∨ i = 1 := by
  rw [List.mem_cons, List.mem_cons]
  exact or_congr_right ⟨fun h => h.elim id fun h => (nomatch h), .inl⟩
theorem com_succ {n : Nat} {p : Nat × Nat} : com g (n + 1) p = true ↔ com g n p = true ∨ ∃ a, (a = 0 ∨ a = 1) ∧ ∃ b, (b = 0 ∨ b = 1) ∧ (g p.1 a).1 = (g p.2 b).1 ∧ com g n ((g p.1 a).2, (g p.2 b).2) = true := by
  show (com g n p || [0, 1].any fun a => [0, 1].any fun b => (g p.1 a).1 == (g p.2 b).1 && com g n ((g p.1 a).2, (g p.2 b).2)) = true ↔ _
  rw [Bool.or_eq_true, List.any_eq_true]
  refine or_congr_right ⟨?_, ?_⟩
  · rintro ⟨a, ha, h⟩
    obtain ⟨b, hb, h⟩ := List.any_eq_true.mp h
    obtain ⟨h1, h2⟩ := aT h
    exact ⟨a, zero_one.mp ha, b, zero_one.mp hb, beq_iff_eq.mp h1, h2⟩
  · rintro ⟨a, ha, b, hb, h1, h2⟩
    exact ⟨a, zero_one.mpr ha, List.any_eq_true.mpr ⟨b, zero_one.mpr hb, aI ⟨beq_iff_eq.mpr h1, h2⟩⟩⟩
theorem com_iff : ∀ {n : Nat} {p : Nat × Nat}, com g n p = true ↔ ∃ r, r ≤ n ∧ ∃ q ∈ ways g r p.1, q ∈ ways g r p.2
  | 0, p => by
    show (p.1 == p.2) = true ↔ _
    rw [beq_iff_eq]
    constructor
    · exact fun h => ⟨0, Nat.le_refl _, ([], p.1), List.mem_cons_self, by rw [h]; exact List.mem_cons_self⟩
    · rintro ⟨r, hr, q, h1, h2⟩
      obtain rfl := Nat.le_zero.mp hr
      exact (Prod.mk.inj (List.mem_singleton.mp h1 ▸ List.mem_singleton.mp h2)).2
  | n + 1, p => by
    rw [com_succ]
    constructor
    · rintro (h | ⟨a, ha, b, hb, hc, h⟩)
      · obtain ⟨r, hr, z⟩ := com_iff.mp h
        exact ⟨r, Nat.le_succ_of_le hr, z⟩
      · obtain ⟨r, hr, q, h1, h2⟩ := com_iff.mp h
        exact ⟨r + 1, Nat.succ_le_succ hr, on (g p.1 a).1 q, way_cons.mpr ⟨a, ha, q, h1, rfl⟩, way_cons.mpr ⟨b, hb, q, h2, by rw [hc]⟩⟩
    · rintro ⟨r, hr, q, h1, h2⟩
      cases r with
      | zero => exact .inl (com_iff.mpr ⟨0, Nat.zero_le _, q, h1, h2⟩)
      | succ r =>
        obtain ⟨a, ha, u, hu, e⟩ := way_cons.mp h1
        obtain ⟨b, hb, v, hv, e'⟩ := way_cons.mp h2
        obtain ⟨e1, e2⟩ := Prod.mk.inj (e.symm.trans e')
        obtain ⟨e3, e4⟩ := List.cons.inj e1
        have : u = v := Prod.ext e4 e2
        exact .inr ⟨a, ha, b, hb, e3, com_iff.mpr ⟨r, Nat.le_of_succ_le_succ hr, u, hu, this ▸ hv⟩⟩
theorem com_mono {n m : Nat} (h : n ≤ m) {p : Nat × Nat} (hp : com g n p = true) : com g m p = true := by
  obtain ⟨r, hr, z⟩ := com_iff.mp hp
  exact com_iff.mpr ⟨r, Nat.le_trans hr h, z⟩
theorem com_sym {n a b : Nat} (h : com g n (a, b) = true) : com g n (b, a) = true := by
  obtain ⟨r, hr, q, h1, h2⟩ := com_iff.mp h
  exact com_iff.mpr ⟨r, hr, q, h2, h1⟩
noncomputable abbrev pairs6 : List (Nat × Nat) := [(0, 1), (0, 2), (0, 3), (1, 2), (1, 3), (2, 3)]
theorem pairs_all' : ∀ a, a < 4 → ∀ b, b < 4 → (!(Nat.blt a b) || pairs6.contains (a, b)) = true := by decide
theorem pairs_all (a : Nat) (ha : a < 4) (b : Nat) (hb : b < 4) (h : a < b) : (a, b) ∈ pairs6 := by
  have := pairs_all' a ha b hb
  rw [show Nat.blt a b = true from Nat.ble_eq.mpr h] at this
  exact List.contains_iff_mem.mp this
theorem com_six (O : Ok g) {n : Nat} {p : Nat × Nat} (h1 : p.1 < 4) (h2 : p.2 < 4) (h : com g n p = true) : com g 6 p = true := by
  obtain ⟨i, hi, hs⟩ := stops (X := pairs6) (p := com g) (fun i x hx => com_mono (Nat.le_succ i) hx) 7 (by decide)
  have stay : ∀ a b, a < 4 → b < 4 → com g (i + 1) (a, b) = true → com g i (a, b) = true := fun a b ha hb hc => by
    rcases Nat.lt_trichotomy a b with l | l | l
    · exact hs _ (pairs_all a ha b hb l) hc
    · exact com_mono (Nat.zero_le _) (beq_iff_eq.mpr l)
    · exact com_sym (hs _ (pairs_all b hb a ha l) (com_sym hc))
  have all : ∀ d a b, a < 4 → b < 4 → com g (i + d) (a, b) = true → com g i (a, b) = true := by
    intro d
    induction d with
    | zero => exact fun a b _ _ h => h
    | succ d ih =>
      intro a b ha hb h
      rcases com_succ.mp h with h | ⟨x, hx, y, hy, hc, h⟩
      · exact ih a b ha hb h
      · exact stay a b ha hb (com_succ.mpr (.inr ⟨x, hx, y, hy, hc, ih _ _ (O.en a x) (O.en b y) h⟩))
  exact com_mono (Nat.le_of_lt_succ hi) (all n p.1 p.2 h1 h2 (com_mono (Nat.le_add_left n i) h))
noncomputable def twin (g : Roads) (t : Nat) : Bool := (g t 0).1 == (g t 1).1 && com g 6 ((g t 0).2, (g t 1).2)
noncomputable def rc (g : Roads) (x : Nat) : Nat → Nat → Bool
  | 0, y => x == y
  | n + 1, y => rc g x n y || R4.any fun z => rc g x n z && ((g z 0).2 == y || (g z 1).2 == y)
theorem rc_succ (O : Ok g) {x n y : Nat} (hx : x < 4) : rc g x (n + 1) y = true ↔ rc g x n y = true ∨ ∃ z, z < 4 ∧ rc g x n z = true ∧ ∃ i, (i = 0 ∨ i = 1) ∧ (g z i).2 = y := by
  show (rc g x n y || R4.any fun z => rc g x n z && ((g z 0).2 == y || (g z 1).2 == y)) = true ↔ _
  rw [Bool.or_eq_true, List.any_eq_true]
  refine or_congr_right ⟨?_, ?_⟩
  · rintro ⟨z, hz, h⟩
    obtain ⟨h1, h2⟩ := aT h
    rcases Bool.or_eq_true_iff.mp h2 with h2 | h2
    · exact ⟨z, mem_R4.mp hz, h1, 0, .inl rfl, beq_iff_eq.mp h2⟩
    · exact ⟨z, mem_R4.mp hz, h1, 1, .inr rfl, beq_iff_eq.mp h2⟩
  · rintro ⟨z, hz, h1, i, hi, h2⟩
    refine ⟨z, mem_R4.mpr hz, aI ⟨h1, Bool.or_eq_true_iff.mpr ?_⟩⟩
    rcases hi with rfl | rfl
    · exact .inl (beq_iff_eq.mpr h2)
    · exact .inr (beq_iff_eq.mpr h2)
theorem rc_iff (O : Ok g) {x : Nat} (hx : x < 4) : ∀ {n y : Nat}, rc g x n y = true ↔ ∃ r, r ≤ n ∧ ∃ w, (w, y) ∈ ways g r x
  | 0, y => by
    show (x == y) = true ↔ _
    rw [beq_iff_eq]
    constructor
    · exact fun h => ⟨0, Nat.le_refl _, [], by rw [h]; exact List.mem_cons_self⟩
    · rintro ⟨r, hr, w, h⟩
      obtain rfl := Nat.le_zero.mp hr
      exact (Prod.mk.inj (List.mem_singleton.mp h)).2.symm
  | n + 1, y => by
    rw [rc_succ O hx]
    constructor
    · rintro (h | ⟨z, hz, h, i, hi, e⟩)
      · obtain ⟨r, hr, w⟩ := (rc_iff O hx).mp h
        exact ⟨r, Nat.le_succ_of_le hr, w⟩
      · obtain ⟨r, hr, w, hw⟩ := (rc_iff O hx).mp h
        have h1 : (([(g z i).1], y) : List Nat × Nat) ∈ ways g 1 z := way_cons.mpr ⟨i, hi, ([], y), by rw [e]; exact List.mem_cons_self, rfl⟩
        exact ⟨r + 1, Nat.succ_le_succ hr, _, way_append hw h1⟩
    · rintro ⟨r, hr, w, hw⟩
      cases Nat.lt_or_ge r (n + 1) with
      | inl hl => exact .inl ((rc_iff O hx).mpr ⟨r, Nat.le_of_lt_succ hl, w, hw⟩)
      | inr hge =>
        obtain rfl := Nat.le_antisymm hr hge
        obtain ⟨p, hp, q, hq, e⟩ := way_split hw
        obtain ⟨i, hi, u, hu, e'⟩ := way_cons.mp hq
        have e2 : y = q.2 := (Prod.mk.inj e).2
        have e3 : q.2 = u.2 := by rw [e']; rfl
        have e4 : u.2 = (g p.2 i).2 := by rw [List.mem_singleton.mp hu]
        exact .inr ⟨p.2, (way_ok O hx hp).1, (rc_iff O hx).mpr ⟨n, Nat.le_refl _, p.1, hp⟩, i, hi, by rw [e2, e3, e4]⟩
theorem rc_four (O : Ok g) {x n y : Nat} (hx : x < 4) (hy : y < 4) (h : rc g x n y = true) : rc g x 4 y = true := by
  have mono : ∀ {a b z : Nat}, a ≤ b → rc g x a z = true → rc g x b z = true := fun hab hz => by
    obtain ⟨r, hr, w⟩ := (rc_iff O hx).mp hz
    exact (rc_iff O hx).mpr ⟨r, Nat.le_trans hr hab, w⟩
  obtain ⟨i, hi, hs⟩ := stops (X := R4) (p := rc g x) (fun i z hz => mono (Nat.le_succ i) hz) 5 (by decide)
  have all : ∀ d y, y < 4 → rc g x (i + d) y = true → rc g x i y = true := by
    intro d
    induction d with
    | zero => exact fun _ _ h => h
    | succ d ih =>
      intro y hy h
      rcases (rc_succ O hx).mp h with h | ⟨z, hz, h, k, hk, e⟩
      · exact ih y hy h
      · exact hs y (mem_R4.mpr hy) ((rc_succ O hx).mpr (.inr ⟨z, hz, ih z hz h, k, hk, e⟩))
  exact mono (Nat.le_of_lt_succ hi) (all n y hy (mono (Nat.le_add_left n i) h))
theorem rc_add (O : Ok g) {x a b y : Nat} (hx : x < 4) : rc g x (a + b) y = true ↔ ∃ z, z < 4 ∧ rc g x a z = true ∧ rc g z b y = true := by
  rw [rc_iff O hx]
  constructor
  · rintro ⟨r, hr, w, hw⟩
    by_cases h : r ≤ a
    · have hy := (way_ok O hx hw).1
      exact ⟨y, hy, (rc_iff O hx).mpr ⟨r, h, w, hw⟩, (rc_iff O hy).mpr ⟨0, Nat.zero_le _, [], List.mem_cons_self⟩⟩
    · have e : r = a + (r - a) := by omega
      rw [e] at hw
      obtain ⟨p, hp, q, hq, e'⟩ := way_split hw
      have hz := (way_ok O hx hp).1
      have e2 : y = q.2 := (Prod.mk.inj e').2
      exact ⟨p.2, hz, (rc_iff O hx).mpr ⟨a, Nat.le_refl _, p.1, hp⟩, (rc_iff O hz).mpr ⟨r - a, by omega, q.1, by rw [e2]; exact hq⟩⟩
  · rintro ⟨z, hz, h1, h2⟩
    obtain ⟨r, hr, w, hw⟩ := (rc_iff O hx).mp h1
    obtain ⟨r', hr', w', hw'⟩ := (rc_iff O hz).mp h2
    exact ⟨r + r', Nat.add_le_add hr hr', _, way_append hw hw'⟩
noncomputable def alone (g : Roads) (x : Nat) : Bool := R4.all fun y => !(rc g x 4 y) || !(twin g y)
theorem ways_nodup (O : Ok g) : ∀ (n : Nat) {t : Nat}, t < 4 → (∀ r w y, (w, y) ∈ ways g r t → twin g y = false) → (ways g n t).Nodup
  | 0, _, _, _ => List.nodup_cons.mpr ⟨List.not_mem_nil, List.nodup_nil⟩
  | n + 1, t, ht, H => by
    have inj : ∀ c (a b : List Nat × Nat), on c a = on c b → a = b := fun c a b e => Prod.ext (List.cons.inj (Prod.mk.inj e).1).2 (Prod.mk.inj e).2
    have Hi : ∀ i, (i = 0 ∨ i = 1) → ∀ r w y, (w, y) ∈ ways g r (g t i).2 → twin g y = false := fun i hi r w y h => H (r + 1) ((g t i).1 :: w) y (way_cons.mpr ⟨i, hi, (w, y), h, rfl⟩)
    show ((ways g n (g t 0).2).map (on (g t 0).1) ++ (ways g n (g t 1).2).map (on (g t 1).1)).Nodup
    refine List.nodup_append.mpr ⟨nodup_map (inj _) (ways_nodup O n (O.en t 0) (Hi 0 (.inl rfl))), nodup_map (inj _) (ways_nodup O n (O.en t 1) (Hi 1 (.inr rfl))), fun a ha b hb e => ?_⟩
    obtain ⟨p, hp, rfl⟩ := List.mem_map.mp ha
    obtain ⟨q, hq, rfl⟩ := List.mem_map.mp hb
    obtain ⟨e1, e2⟩ := Prod.mk.inj e
    obtain ⟨e3, e4⟩ := List.cons.inj e1
    have hpq : p = q := Prod.ext e4 e2
    have ht' : twin g t = true := aI ⟨beq_iff_eq.mpr e3, com_six O (O.en t 0) (O.en t 1) (com_iff.mpr ⟨n, Nat.le_refl _, p, hp, hpq ▸ hq⟩)⟩
    rw [H 0 [] t List.mem_cons_self] at ht'
    cases ht'
noncomputable def blocks (W : List (List Nat)) : Nat → List (List Nat)
  | 0 => [[]]
  | k + 1 => W.flatMap fun u => (blocks W k).map (u ++ ·)
theorem flat_len {α β : Type} {f : α → List β} {b : Nat} : ∀ l : List α, (∀ x ∈ l, (f x).length ≤ b) → (l.flatMap f).length ≤ l.length * b
  | [], _ => Nat.zero_le _
  | x :: l, h => by
    have h1 := h x List.mem_cons_self
    have h2 := flat_len l fun y hy => h y (List.mem_cons_of_mem _ hy)
    rw [List.flatMap_cons, List.length_append, List.length_cons, Nat.succ_mul]; omega
theorem blocks_len (W : List (List Nat)) : ∀ k, (blocks W k).length ≤ W.length ^ k
  | 0 => Nat.le_refl _
  | k + 1 => by
    rw [Nat.pow_succ, Nat.mul_comm]
    exact flat_len W fun u _ => by rw [List.length_map]; exact blocks_len W k
theorem alone_all (O : Ok g) {x : Nat} (hx : x < 4) (ha : alone g x = true) {w : List Nat} (hw : ∀ c ∈ w, c < 2) : w.foldl (step g) R4 ≠ [] := by
  intro hd
  have H : ∀ r w y, (w, y) ∈ ways g r x → twin g y = false := fun r w y h => by
    have hy := (way_ok O hx h).1
    have h4 := rc_four O hx hy ((rc_iff O hx).mpr ⟨r, Nat.le_refl _, w, h⟩)
    have := List.all_eq_true.mp ha y (mem_R4.mpr hy)
    rw [h4] at this
    exact (Bool.not_eq_true' _).mp this
  have hne : ∀ t, t < 4 → ∀ e, (w, e) ∉ ways g w.length t := fun t ht e h => by
    have := (mem_run O (S := R4)).mpr ⟨t, mem_R4.mpr ht, h⟩
    rw [hd] at this; cases this
  have hmem : w ∈ words w.length := mem_words.mpr ⟨rfl, hw⟩
  have hlen : ((words w.length).erase w).length = 2 ^ w.length - 1 := by rw [List.length_erase_of_mem hmem, words_len]
  have hin : ∀ k {t : Nat} {p : List Nat × Nat}, t < 4 → p ∈ ways g (w.length * k) t → p.1 ∈ blocks ((words w.length).erase w) k := by
    intro k
    induction k with
    | zero => intro t p ht hp; rw [List.mem_singleton.mp (show p ∈ [([], t)] from hp)]; exact List.mem_cons_self
    | succ k ih =>
      intro t p ht hp
      rw [Nat.mul_succ, Nat.add_comm] at hp
      obtain ⟨u, hu, v, hv, rfl⟩ := way_split hp
      obtain ⟨h1, h2, h3⟩ := way_ok O ht hu
      have hum : u.1 ∈ (words w.length).erase w := (List.mem_erase_of_ne fun e => hne t ht u.2 (by have hu' := hu; rw [show u = (w, u.2) from Prod.ext e rfl] at hu'; exact hu')).mpr (mem_words.mpr ⟨h2, h3⟩)
      exact List.mem_flatMap.mpr ⟨u.1, hum, List.mem_map_of_mem (f := (u.1 ++ ·)) (ih h1 hv)⟩
  obtain ⟨k, hk⟩ := four (2 ^ w.length - 1)
  have hp1 : 2 ^ w.length - 1 + 1 = 2 ^ w.length := Nat.sub_add_cancel (Nat.pow_pos (by decide))
  rw [hp1, ← Nat.pow_mul] at hk
  have hcov := Bf.nodup_le (l := ways g (w.length * k) x) (m := (blocks ((words w.length).erase w) k).flatMap fun u => R4.map fun v => (u, v)) (ways_nodup O _ hx H) fun p hp =>
    List.mem_flatMap.mpr ⟨p.1, hin k hx hp, List.mem_map.mpr ⟨p.2, mem_R4.mpr (way_ok O hx hp).1, rfl⟩⟩
  rw [ways_len] at hcov
  have h1 := flat_len (f := fun u : List Nat => R4.map fun v => (u, v)) (b := 4) (blocks ((words w.length).erase w) k) fun u _ => Nat.le_refl _
  have h2 := blocks_len ((words w.length).erase w) k
  rw [hlen] at h2
  omega
noncomputable def Few (g : Roads) (t n : Nat) : Prop := ∃ Q : List (List Nat × Nat), Q.length + 1 ≤ 2 ^ n ∧ (∀ p ∈ ways g n t, p ∈ Q) ∧ ∀ p ∈ Q, p.2 < 4
theorem few_twin (O : Ok g) {t : Nat} (ht : t < 4) (h : twin g t = true) : ∃ n, Few g t n := by
  obtain ⟨h1, h2⟩ := aT h
  have h1 := beq_iff_eq.mp h1
  obtain ⟨r, _, q, ha, hb⟩ := com_iff.mp h2
  have hm : on (g t 1).1 q ∈ (ways g r (g t 1).2).map (on (g t 1).1) := List.mem_map_of_mem hb
  refine ⟨r + 1, (ways g r (g t 0).2).map (on (g t 0).1) ++ ((ways g r (g t 1).2).map (on (g t 1).1)).erase (on (g t 1).1 q), ?_, fun p hp => ?_, fun p hp => ?_⟩
  · rw [List.length_append, List.length_erase_of_mem hm, List.length_map, List.length_map, ways_len, ways_len, Nat.pow_succ]
    have : 0 < 2 ^ r := Nat.pow_pos (by decide)
    omega
  · rcases List.mem_append.mp (show p ∈ (ways g r (g t 0).2).map (on (g t 0).1) ++ (ways g r (g t 1).2).map (on (g t 1).1) from hp) with h | h
    · exact List.mem_append_left _ h
    · by_cases e : p = on (g t 1).1 q
      · rw [e, ← h1]; exact List.mem_append_left _ (List.mem_map_of_mem ha)
      · exact List.mem_append_right _ ((List.mem_erase_of_ne e).mpr h)
  · have : p ∈ ways g (r + 1) t := by
      rcases List.mem_append.mp hp with h | h
      · exact List.mem_append_left _ h
      · exact List.mem_append_right _ (List.mem_of_mem_erase h)
    exact (way_ok O ht this).1
theorem few_front (O : Ok g) {u i n : Nat} (hi : i = 0 ∨ i = 1) (h : Few g (g u i).2 n) : Few g u (n + 1) := by
  obtain ⟨Q, h1, h2, h3⟩ := h
  have other : ∀ j, (ways g n (g u j).2).length = 2 ^ n := fun j => ways_len _ _
  rcases hi with rfl | rfl
  · refine ⟨Q.map (on (g u 0).1) ++ (ways g n (g u 1).2).map (on (g u 1).1), ?_, fun p hp => ?_, fun p hp => ?_⟩
    · rw [List.length_append, List.length_map, List.length_map, other, Nat.pow_succ]; omega
    · rcases List.mem_append.mp (show p ∈ (ways g n (g u 0).2).map (on (g u 0).1) ++ (ways g n (g u 1).2).map (on (g u 1).1) from hp) with h | h
      · obtain ⟨q, hq, rfl⟩ := List.mem_map.mp h
        exact List.mem_append_left _ (List.mem_map_of_mem (h2 q hq))
      · exact List.mem_append_right _ h
    · rcases List.mem_append.mp hp with h | h
      · obtain ⟨q, hq, rfl⟩ := List.mem_map.mp h; exact h3 q hq
      · obtain ⟨q, hq, rfl⟩ := List.mem_map.mp h; exact (way_ok O (O.en u 1) hq).1
  · refine ⟨(ways g n (g u 0).2).map (on (g u 0).1) ++ Q.map (on (g u 1).1), ?_, fun p hp => ?_, fun p hp => ?_⟩
    · rw [List.length_append, List.length_map, List.length_map, other, Nat.pow_succ]; omega
    · rcases List.mem_append.mp (show p ∈ (ways g n (g u 0).2).map (on (g u 0).1) ++ (ways g n (g u 1).2).map (on (g u 1).1) from hp) with h | h
      · exact List.mem_append_left _ h
      · obtain ⟨q, hq, rfl⟩ := List.mem_map.mp h
        exact List.mem_append_right _ (List.mem_map_of_mem (h2 q hq))
    · rcases List.mem_append.mp hp with h | h
      · obtain ⟨q, hq, rfl⟩ := List.mem_map.mp h; exact (way_ok O (O.en u 0) hq).1
      · obtain ⟨q, hq, rfl⟩ := List.mem_map.mp h; exact h3 q hq
theorem few_way (O : Ok g) {n y : Nat} (h : Few g y n) : ∀ {r x : Nat} {w : List Nat}, (w, y) ∈ ways g r x → Few g x (n + r)
  | 0, x, w, hw => by
    have e : y = x := (Prod.mk.inj (List.mem_singleton.mp hw)).2
    rw [Nat.add_zero, ← e]; exact h
  | r + 1, x, w, hw => by
    obtain ⟨i, hi, p, hp, e⟩ := way_cons.mp hw
    have e2 : y = p.2 := (Prod.mk.inj e).2
    exact few_front O hi (few_way O h (w := p.1) (by rw [e2]; exact hp))
theorem few_more (O : Ok g) {t n m : Nat} (h : Few g t n) : Few g t (n + m) := by
  obtain ⟨Q, h1, h2, h3⟩ := h
  refine ⟨Q.flatMap fun p => (ways g m p.2).map (behind p.1), ?_, fun p hp => ?_, fun p hp => ?_⟩
  · have := flat_len (f := fun p : List Nat × Nat => (ways g m p.2).map (behind p.1)) (b := 2 ^ m) Q fun p _ => by rw [List.length_map, ways_len]; exact Nat.le_refl _
    have hm := Nat.mul_le_mul_right (2 ^ m) h1
    rw [Nat.succ_mul] at hm
    have hp : 0 < 2 ^ m := Nat.pow_pos (by decide)
    rw [Nat.pow_add]
    omega
  · obtain ⟨u, hu, v, hv, rfl⟩ := way_split hp
    exact List.mem_flatMap.mpr ⟨u, h2 u hu, List.mem_map_of_mem hv⟩
  · obtain ⟨u, hu, hp⟩ := List.mem_flatMap.mp hp
    obtain ⟨v, hv, rfl⟩ := List.mem_map.mp hp
    exact (way_ok O (h3 u hu) hv).1
theorem few_pow (O : Ok g) {N : Nat} (h : ∀ t, t < 4 → Few g t N) : ∀ k t, t < 4 → ∃ Q : List (List Nat × Nat), Q.length ≤ (2 ^ N - 1) ^ k ∧ ∀ p ∈ ways g (N * k) t, p ∈ Q
  | 0, t, _ => ⟨[([], t)], Nat.le_refl _, fun p hp => hp⟩
  | k + 1, t, ht => by
    obtain ⟨Q, h1, h2, h3⟩ := h t ht
    have ih := fun u hu => few_pow O h k u hu
    have : ∃ f : Nat → List (List Nat × Nat), ∀ u, u < 4 → (f u).length ≤ (2 ^ N - 1) ^ k ∧ ∀ p ∈ ways g (N * k) u, p ∈ f u :=
      Classical.axiomOfChoice (r := fun u (Q : List (List Nat × Nat)) => u < 4 → Q.length ≤ (2 ^ N - 1) ^ k ∧ ∀ p ∈ ways g (N * k) u, p ∈ Q) fun u => (Classical.em (u < 4)).elim (fun hu => (ih u hu).elim fun Q hQ => ⟨Q, fun _ => hQ⟩) fun hu => ⟨[], fun z => absurd z hu⟩
    obtain ⟨f, hf⟩ := this
    refine ⟨Q.flatMap fun p => (f p.2).map (behind p.1), ?_, fun p hp => ?_⟩
    · have hl := flat_len (f := fun p : List Nat × Nat => (f p.2).map (behind p.1)) (b := (2 ^ N - 1) ^ k) Q fun p hp => by rw [List.length_map]; exact (hf p.2 (h3 p hp)).1
      refine Nat.le_trans hl ?_
      rw [Nat.pow_succ, Nat.mul_comm ((2 ^ N - 1) ^ k)]
      exact Nat.mul_le_mul_right _ (by omega)
    · rw [Nat.mul_succ, Nat.add_comm] at hp
      obtain ⟨u, hu, v, hv, rfl⟩ := way_split hp
      have hq := h2 u hu
      exact List.mem_flatMap.mpr ⟨u, hq, List.mem_map_of_mem ((hf u.2 (h3 u hq)).2 v hv)⟩
theorem none_dead (O : Ok g) (h : ∀ x, x < 4 → alone g x = false) : ∃ w : List Nat, (∀ c ∈ w, c < 2) ∧ w.foldl (step g) R4 = [] := by
  have hF : ∀ x, x < 4 → ∃ n, Few g x n := fun x hx => by
    have ha := h x hx
    have : ∃ y ∈ R4, (!(rc g x 4 y) || !(twin g y)) = false := Classical.byContradiction fun z => by
      have : alone g x = true := List.all_eq_true.mpr fun y hy => by
        cases hb : (!(rc g x 4 y) || !(twin g y)) with
        | true => rfl
        | false => exact absurd ⟨y, hy, hb⟩ z
      rw [this] at ha; cases ha
    obtain ⟨y, hy, hb⟩ := this
    obtain ⟨h1, h2⟩ := Bool.or_eq_false_iff.mp hb
    have h1 := Eq.mp (Bool.not_eq_false' _) h1
    have h2 := Eq.mp (Bool.not_eq_false' _) h2
    obtain ⟨n, hn⟩ := few_twin O (mem_R4.mp hy) h2
    obtain ⟨r, _, w, hw⟩ := (rc_iff O hx).mp h1
    exact ⟨_, few_way O hn hw⟩
  obtain ⟨n0, f0⟩ := hF 0 (by decide)
  obtain ⟨n1, f1⟩ := hF 1 (by decide)
  obtain ⟨n2, f2⟩ := hF 2 (by decide)
  obtain ⟨n3, f3⟩ := hF 3 (by decide)
  have hN : ∃ N, ∀ t, t < 4 → Few g t N := ⟨n0 + n1 + n2 + n3, fun t ht => by
    rcases four_of ht with rfl | rfl | rfl | rfl
    · rw [Nat.add_assoc, Nat.add_assoc]; exact few_more O f0
    · rw [Nat.add_comm n0, Nat.add_assoc, Nat.add_assoc]; exact few_more O f1
    · rw [Nat.add_comm (n0 + n1), Nat.add_assoc]; exact few_more O f2
    · rw [Nat.add_comm]; exact few_more O f3⟩
  obtain ⟨N, hN⟩ := hN
  obtain ⟨k, hk⟩ := four (2 ^ N - 1)
  have hp1 : 2 ^ N - 1 + 1 = 2 ^ N := Nat.sub_add_cancel (Nat.pow_pos (by decide))
  rw [hp1, ← Nat.pow_mul] at hk
  have : ∃ f : Nat → List (List Nat × Nat), ∀ u, u < 4 → (f u).length ≤ (2 ^ N - 1) ^ k ∧ ∀ p ∈ ways g (N * k) u, p ∈ f u :=
    Classical.axiomOfChoice (r := fun u (Q : List (List Nat × Nat)) => u < 4 → Q.length ≤ (2 ^ N - 1) ^ k ∧ ∀ p ∈ ways g (N * k) u, p ∈ Q) fun u => (Classical.em (u < 4)).elim (fun hu => (few_pow O hN k u hu).elim fun Q hQ => ⟨Q, fun _ => hQ⟩) fun hu => ⟨[], fun z => absurd z hu⟩
  obtain ⟨f, hf⟩ := this
  refine Classical.byContradiction fun hno => ?_
  have hcov := Bf.nodup_le (l := words (N * k)) (m := R4.flatMap fun t => (f t).map (·.1)) (words_nodup _) fun w hw => by
    obtain ⟨h1, h2⟩ := mem_words.mp hw
    have : w.foldl (step g) R4 ≠ [] := fun e => hno ⟨w, h2, e⟩
    obtain ⟨v, hv⟩ := List.exists_mem_of_ne_nil _ this
    obtain ⟨u, hu, hw'⟩ := (mem_run O).mp hv
    rw [h1] at hw'
    exact List.mem_flatMap.mpr ⟨u, hu, List.mem_map.mpr ⟨(w, v), (hf u (mem_R4.mp hu)).2 _ hw', rfl⟩⟩
  rw [words_len] at hcov
  have hl := flat_len (f := fun t => (f t).map (·.1)) (b := (2 ^ N - 1) ^ k) R4 fun t ht => by rw [List.length_map]; exact (hf t (mem_R4.mp ht)).1
  rw [show R4.length = 4 from rfl] at hl
  omega
theorem eden (O : Ok g) : (∃ x, x < 4 ∧ alone g x = true) ↔ ∀ w : List Nat, (∀ c ∈ w, c < 2) → w.foldl (step g) R4 ≠ [] := by
  constructor
  · rintro ⟨x, hx, ha⟩ w hw
    exact alone_all O hx ha hw
  · intro h
    refine Classical.byContradiction fun hno => ?_
    obtain ⟨w, h1, h2⟩ := none_dead O fun x hx => by
      cases ha : alone g x with
      | false => rfl
      | true => exact absurd ⟨x, hx, ha⟩ hno
    exact h w h1 h2
end
end J2
namespace J2
open Bf
noncomputable def ltw : List Nat → List Nat → Bool
  | [], [] => false
  | [], _ :: _ => true
  | _ :: _, [] => false
  | a :: r, b :: q => if a < b then true else if b < a then false else ltw r q
theorem ltw_irr : ∀ a : List Nat, ltw a a = false
  | [] => rfl
  | a :: r => by rw [ltw, if_neg (Nat.lt_irrefl a), if_neg (Nat.lt_irrefl a)]; exact ltw_irr r
theorem ltw_asymm : ∀ {a b : List Nat}, ltw a b = true → ltw b a = false
  | [], [], h => nomatch h
  | [], _ :: _, _ => rfl
  | _ :: _, [], h => nomatch h
  | a :: r, b :: q, h => by
    rw [ltw] at h ⊢
    by_cases h1 : a < b
    · rw [if_neg (Nat.lt_asymm h1), if_pos h1]
    · rw [if_neg h1] at h
      by_cases h2 : b < a
      · rw [if_pos h2] at h; cases h
      · rw [if_neg h2] at h
        rw [if_neg h2, if_neg h1]; exact ltw_asymm h
theorem ltw_trans : ∀ {a b c : List Nat}, ltw a b = false → ltw b c = false → ltw a c = false ∧ (a = c → a = b)
  | a, b, [], h1, h2 => by
    cases b with
    | nil =>
      cases a with
      | nil => exact ⟨rfl, fun h => h⟩
      | cons => exact ⟨rfl, fun h => nomatch h⟩
    | cons y q =>
      cases a with
      | nil => cases h1
      | cons => exact ⟨rfl, fun h => nomatch h⟩
  | a, [], z :: t, h1, h2 => nomatch h2
  | [], y :: q, z :: t, h1, h2 => nomatch h1
  | x :: r, y :: q, z :: t, h1, h2 => by
    rw [ltw] at h1 h2 ⊢
    by_cases a1 : x < y
    · rw [if_pos a1] at h1; cases h1
    rw [if_neg a1] at h1
    by_cases a2 : y < z
    · rw [if_pos a2] at h2; cases h2
    rw [if_neg a2] at h2
    have a3 : ¬ x < z := by omega
    rw [if_neg a3]
    by_cases b1 : y < x
    · have b2 : z < x := by omega
      rw [if_pos b2]
      exact ⟨rfl, fun e => absurd (List.cons.inj e).1 (Nat.ne_of_gt b2)⟩
    · rw [if_neg b1] at h1
      by_cases b2 : z < y
      · have b3 : z < x := by omega
        rw [if_pos b3]
        exact ⟨rfl, fun e => absurd (List.cons.inj e).1 (Nat.ne_of_gt b3)⟩
      · rw [if_neg b2] at h2
        have b3 : ¬ z < x := by omega
        rw [if_neg b3]
        have ih := ltw_trans h1 h2
        exact ⟨ih.1, fun e => by rw [ih.2 (List.cons.inj e).2, show x = y from by omega]⟩
noncomputable abbrev E := En (List Nat) Nat
noncomputable def lt (a b : E) : Bool := decide (a.size < b.size) || (decide (a.size = b.size) && (ltw a.word b.word || (decide (a.word = b.word) && ltw a.st b.st)))
theorem lt_iff {a b : E} : lt a b = true ↔ a.size < b.size ∨ (a.size = b.size ∧ (ltw a.word b.word = true ∨ (a.word = b.word ∧ ltw a.st b.st = true))) := by
  unfold lt
  rw [Bool.or_eq_true, Bool.and_eq_true, Bool.or_eq_true, Bool.and_eq_true, decide_eq_true_iff, decide_eq_true_iff, decide_eq_true_iff]
theorem not_lt {a b : E} (h : lt a b = false) : ¬ (a.size < b.size ∨ (a.size = b.size ∧ (ltw a.word b.word = true ∨ (a.word = b.word ∧ ltw a.st b.st = true)))) := fun z => by
  rw [lt_iff.mpr z] at h; cases h
theorem lt_to : Hp.TO lt := by
  refine ⟨fun {a b} h => ?_, fun {a b c} h1 h2 => ?_⟩
  · refine Bool.eq_false_iff.mpr fun z => ?_
    rcases lt_iff.mp h with h | ⟨h1, h⟩ <;> rcases lt_iff.mp z with z | ⟨z1, z⟩
    · omega
    · omega
    · omega
    · rcases h with h | ⟨h2, h⟩ <;> rcases z with z | ⟨z2, z⟩
      · rw [ltw_asymm h] at z; cases z
      · rw [z2, ltw_irr] at h; cases h
      · rw [h2, ltw_irr] at z; cases z
      · rw [ltw_asymm h] at z; cases z
  · refine Bool.eq_false_iff.mpr fun z => ?_
    have h1 := not_lt h1
    have h2 := not_lt h2
    rcases lt_iff.mp z with z | ⟨z1, z⟩
    · have a1 : ¬ b.size < a.size := fun q => h1 (.inl q)
      have a2 : ¬ c.size < b.size := fun q => h2 (.inl q)
      omega
    · have a1 : ¬ b.size < a.size := fun q => h1 (.inl q)
      have a2 : ¬ c.size < b.size := fun q => h2 (.inl q)
      have e1 : b.size = a.size := by omega
      have e2 : c.size = b.size := by omega
      have w1 : ltw b.word a.word = false := Bool.eq_false_iff.mpr fun q => h1 (.inr ⟨e1, .inl q⟩)
      have w2 : ltw c.word b.word = false := Bool.eq_false_iff.mpr fun q => h2 (.inr ⟨e2, .inl q⟩)
      obtain ⟨w3, w4⟩ := ltw_trans w2 w1
      rcases z with z | ⟨z2, z⟩
      · rw [w3] at z; cases z
      · have q2 := w4 z2
        have q1 : b.word = a.word := q2.symm.trans z2
        have s1 : ltw b.st a.st = false := Bool.eq_false_iff.mpr fun q => h1 (.inr ⟨e1, .inr ⟨q1, q⟩⟩)
        have s2 : ltw c.st b.st = false := Bool.eq_false_iff.mpr fun q => h2 (.inr ⟨e2, .inr ⟨q2, q⟩⟩)
        rw [(ltw_trans s2 s1).1] at z; cases z
theorem lt_size (a b : E) (h : lt a b = false) : b.size ≤ a.size := Nat.le_of_not_lt fun q => not_lt h (.inl q)
noncomputable def subl : List Nat → List (List Nat)
  | [] => [[]]
  | x :: l => (subl l).flatMap fun s => [s, x :: s]
theorem mem_subl {p : Nat → Bool} : ∀ l : List Nat, l.filter p ∈ subl l
  | [] => List.mem_cons_self
  | x :: l => by
    refine List.mem_flatMap.mpr ⟨l.filter p, mem_subl l, ?_⟩
    cases h : p x with
    | true => rw [List.filter_cons_of_pos h]; exact List.mem_cons_of_mem _ List.mem_cons_self
    | false => rw [List.filter_cons_of_neg (by rw [h]; exact Bool.false_ne_true)]; exact List.mem_cons_self
noncomputable def goal (s : List Nat) : Bool := s.isEmpty
noncomputable def dead (_ : List Nat) : Bool := false
noncomputable abbrev cs2 : List Nat := [0, 1]
theorem mem_cs {c : Nat} : c ∈ cs2 ↔ c < 2 := List.mem_range (n := 2)
section
variable {g : Roads}
noncomputable abbrev to (g : Roads) (w : List Nat) : List Nat := w.foldl (step g) R4
theorem sys : Sys lt (step g) dead cs2 (subl R4) := ⟨lt_to, lt_size, fun s _ c _ _ => mem_subl R4⟩
theorem good_prefix : ∀ {w S : List Nat}, (∀ c ∈ w, c < 2) → w.foldl (step g) S = [] → ∃ u v, w = u ++ v ∧ Good (step g) goal dead cs2 S u ∧ u.foldl (step g) S = []
  | [], S, _, h => ⟨[], [], rfl, trivial, h⟩
  | c :: w, S, hc, h => by
    cases hS : goal S with
    | true => exact ⟨[], c :: w, rfl, trivial, List.isEmpty_iff.mp hS⟩
    | false =>
      obtain ⟨u, v, e, hg, hu⟩ := good_prefix (w := w) (S := step g S c) (fun d hd => hc d (List.mem_cons_of_mem _ hd)) h
      exact ⟨c :: u, v, by rw [e]; rfl, ⟨hS, mem_cs.mpr (hc c List.mem_cons_self), rfl, hg⟩, hu⟩
structure Least (g : Roads) (w : List Nat) : Prop where
  two : ∀ c ∈ w, c < 2
  dead : to g w = []
  least : ∀ u, (∀ c ∈ u, c < 2) → to g u = [] → w.length ≤ u.length
theorem search (O : Ok g) : ∃ r : Option E, go lt (step g) goal dead cs2 100 [⟨0, [], R4⟩] [R4] = some r ∧ (r = none → ∃ x, x < 4 ∧ alone g x = true) ∧ ∀ e, r = some e → Least g e.word ∧ ∀ x, x < 4 → alone g x = false := by
  obtain ⟨r, h1, h2⟩ := go_found (sys (g := g)) 100 (inv0 (lt := lt) (step := step g) (goal := goal) (dead := dead) (cs := cs2) (start := R4) (U := subl R4) (mem_subl (p := fun _ => true) R4)) (by decide)
  refine ⟨r, h1, fun e => ?_, fun e he => ?_⟩
  · rw [e] at h2
    refine (eden O).mpr fun w hw hd => ?_
    obtain ⟨u, v, _, hg, hu⟩ := good_prefix hw hd
    have := h2 u hg
    rw [show Bf.run (step g) R4 u = [] from hu] at this
    cases this
  · rw [he] at h2
    obtain ⟨_, h3, h4, h5, h6, h7⟩ := h2
    have hd : to g e.word = [] := by
      have : Bf.run (step g) R4 e.word = e.st := h4
      rw [List.isEmpty_iff.mp h5] at this
      exact this
    have h2' : ∀ c ∈ e.word, c < 2 := fun c hc => mem_cs.mp (h6 c hc)
    refine ⟨⟨h2', hd, fun u hu hud => ?_⟩, fun x hx => ?_⟩
    · obtain ⟨a, b, eu, hg, ha⟩ := good_prefix hu hud
      have := h7 a hg (by rw [show Bf.run (step g) R4 a = [] from ha]; rfl)
      rw [h3, eu, List.length_append]; omega
    · cases ha : alone g x with
      | false => rfl
      | true => exact absurd hd ((eden O).mp ⟨x, hx, ha⟩ e.word h2')
noncomputable def add1 (gm : List (List Nat) × List (List Nat)) (t : List Nat) : List (List Nat) × List (List Nat) := if t ∈ gm.2 then gm else (gm.1 ++ [t], gm.2 ++ [t])
noncomputable def ahead (g : Roads) (L : List (List Nat)) : List (List Nat) := L.flatMap fun s => [step g s 0, step g s 1]
noncomputable def turnL (g : Roads) (gm : List (List Nat) × List (List Nat)) : List (List Nat) × List (List Nat) := (ahead g gm.1).foldl add1 ([], gm.2)
noncomputable def layr (g : Roads) : Nat → List (List Nat) × List (List Nat)
  | 0 => ([R4], [R4])
  | i + 1 => turnL g (layr g i)
theorem add_all : ∀ (ts : List (List Nat)) (A M : List (List Nat)), M.Nodup → ∃ A', ts.foldl add1 (A, M) = (A ++ A', M ++ A') ∧ (M ++ A').Nodup ∧ (∀ t ∈ ts, t ∈ M ++ A') ∧ ∀ t ∈ A', t ∈ ts
  | [], A, M, h => ⟨[], by rw [List.append_nil, List.append_nil]; rfl, by rw [List.append_nil]; exact h, fun t ht => (nomatch ht), fun t ht => (nomatch ht)⟩
  | t :: ts, A, M, h => by
    rw [List.foldl_cons]
    by_cases ht : t ∈ M
    · rw [show add1 (A, M) t = (A, M) from if_pos ht]
      obtain ⟨A', h1, h2, h3, h4⟩ := add_all ts A M h
      exact ⟨A', h1, h2, fun u hu => (List.mem_cons.mp hu).elim (fun e => List.mem_append_left _ (e ▸ ht)) (h3 u), fun u hu => List.mem_cons_of_mem _ (h4 u hu)⟩
    · rw [show add1 (A, M) t = (A ++ [t], M ++ [t]) from if_neg ht]
      obtain ⟨A', h1, h2, h3, h4⟩ := add_all ts (A ++ [t]) (M ++ [t]) (List.nodup_append.mpr ⟨h, List.nodup_cons.mpr ⟨List.not_mem_nil, List.nodup_nil⟩, fun a ha b hb e => ht (by rw [← List.mem_singleton.mp hb, ← e]; exact ha)⟩)
      rw [List.append_assoc] at h2
      refine ⟨t :: A', by rw [h1, List.append_assoc, List.append_assoc]; rfl, h2, fun u hu => ?_, fun u hu => (List.mem_cons.mp hu).elim (fun e => e ▸ List.mem_cons_self) fun hu => List.mem_cons_of_mem _ (h4 u hu)⟩
      rcases List.mem_cons.mp hu with e | hu
      · rw [e]; exact List.mem_append_right _ List.mem_cons_self
      · have := h3 u hu
        rw [List.append_assoc] at this
        exact this
theorem to_snoc (w : List Nat) (c : Nat) : to g (w ++ [c]) = step g (to g w) c := by
  show (w ++ [c]).foldl (step g) R4 = _
  rw [List.foldl_append]; rfl
structure LayOk (g : Roads) (i : Nat) : Prop where
  nd : (layr g i).2.Nodup
  sub : ∀ s ∈ (layr g i).2, ∃ w, (∀ c ∈ w, c < 2) ∧ w.length ≤ i ∧ to g w = s
  all : ∀ w, (∀ c ∈ w, c < 2) → w.length ≤ i → to g w ∈ (layr g i).2
  old : ∀ s ∈ (layr g i).2, s ∈ (layr g i).1 ∨ ∃ w, (∀ c ∈ w, c < 2) ∧ w.length < i ∧ to g w = s
  lin : ∀ s ∈ (layr g i).1, s ∈ (layr g i).2
  at_ : ∀ s ∈ (layr g i).1, ∃ w, (∀ c ∈ w, c < 2) ∧ w.length = i ∧ to g w = s
theorem lay_ok : ∀ i, LayOk g i
  | 0 => by
    refine ⟨List.nodup_cons.mpr ⟨List.not_mem_nil, List.nodup_nil⟩, fun s hs => ⟨[], fun c hc => (nomatch hc), Nat.le_refl _, (List.mem_singleton.mp hs).symm⟩, fun w _ hw => ?_, fun s hs => .inl hs, fun s hs => hs, fun s hs => ⟨[], fun c hc => (nomatch hc), rfl, (List.mem_singleton.mp hs).symm⟩⟩
    rw [List.length_eq_zero_iff.mp (Nat.le_zero.mp hw)]; exact List.mem_cons_self
  | i + 1 => by
    have I := lay_ok i
    obtain ⟨A, h1, h2, h3, h4⟩ := add_all (ahead g (layr g i).1) [] (layr g i).2 I.nd
    have e : layr g (i + 1) = (A, (layr g i).2 ++ A) := by
      show (ahead g (layr g i).1).foldl add1 ([], (layr g i).2) = _
      rw [h1, List.nil_append]
    have hA : ∀ s ∈ A, ∃ w, (∀ c ∈ w, c < 2) ∧ w.length = i + 1 ∧ to g w = s := fun s hs => by
      obtain ⟨t, ht, hs⟩ := List.mem_flatMap.mp (h4 s hs)
      obtain ⟨w, w1, w2, w3⟩ := I.at_ t ht
      have mk : ∀ c, c < 2 → s = step g t c → ∃ w, (∀ c ∈ w, c < 2) ∧ w.length = i + 1 ∧ to g w = s := fun c hc e =>
        ⟨w ++ [c], fun d hd => (List.mem_append.mp hd).elim (w1 d) fun hd => by rw [List.mem_singleton.mp hd]; exact hc, by rw [List.length_append, w2]; rfl, by rw [to_snoc, w3, e]⟩
      rcases List.mem_cons.mp hs with e | hs
      · exact mk 0 (by decide) e
      · exact mk 1 (by decide) (List.mem_singleton.mp hs)
    refine ⟨by rw [e]; exact h2, fun s hs => ?_, fun w hw hl => ?_, fun s hs => ?_, fun s hs => ?_, fun s hs => ?_⟩
    · rw [e] at hs
      rcases List.mem_append.mp hs with hs | hs
      · obtain ⟨w, w1, w2, w3⟩ := I.sub s hs
        exact ⟨w, w1, Nat.le_succ_of_le w2, w3⟩
      · obtain ⟨w, w1, w2, w3⟩ := hA s hs
        exact ⟨w, w1, Nat.le_of_eq w2, w3⟩
    · rw [e]
      by_cases hi : w.length ≤ i
      · exact List.mem_append_left _ (I.all w hw hi)
      · rcases List.eq_nil_or_concat w with rfl | ⟨u, c, rfl⟩
        · exact absurd (Nat.zero_le _) hi
        · rw [List.concat_eq_append] at hw hl hi ⊢
          rw [List.length_append] at hl hi
          have hl : u.length + 1 ≤ i + 1 := hl
          have hu : ∀ d ∈ u, d < 2 := fun d hd => hw d (List.mem_append_left _ hd)
          have hc : c < 2 := hw c (List.mem_append_right _ List.mem_cons_self)
          rw [to_snoc]
          rcases I.old _ (I.all u hu (Nat.le_of_succ_le_succ hl)) with h | ⟨v, v1, v2, v3⟩
          · refine h3 _ (List.mem_flatMap.mpr ⟨_, h, ?_⟩)
            rcases two_of hc with rfl | rfl
            · exact List.mem_cons_self
            · exact List.mem_cons_of_mem _ List.mem_cons_self
          · rw [← v3, ← to_snoc]
            exact List.mem_append_left _ (I.all _ (fun d hd => (List.mem_append.mp hd).elim (v1 d) fun hd => by rw [List.mem_singleton.mp hd]; exact hc) (by rw [List.length_append]; exact v2))
    · rw [e] at hs ⊢
      rcases List.mem_append.mp hs with hs | hs
      · obtain ⟨w, w1, w2, w3⟩ := I.sub s hs
        exact .inr ⟨w, w1, Nat.lt_succ_of_le w2, w3⟩
      · exact .inl hs
    · rw [e] at hs ⊢; exact List.mem_append_right _ hs
    · rw [e] at hs; exact hA s hs
theorem lay_least {w : List Nat} (L : Least g w) {i : Nat} : (i < w.length → [] ∉ (layr g i).1) ∧ (i = w.length → [] ∈ (layr g i).1) := by
  have I := lay_ok (g := g) i
  refine ⟨fun hi hm => ?_, fun hi => ?_⟩
  · obtain ⟨u, u1, u2, u3⟩ := I.at_ _ hm
    have := L.least u u1 u3
    omega
  · have h := I.all w L.two (Nat.le_of_eq hi.symm)
    rw [L.dead] at h
    rcases I.old _ h with h | ⟨u, u1, u2, u3⟩
    · exact h
    · have := L.least u u1 u3
      omega
theorem lay_len (i : Nat) : (layr g i).2.length ≤ 16 := by
  have I := lay_ok (g := g) i
  refine Nat.le_trans (Bf.nodup_le (m := subl R4) I.nd fun s hs => ?_) (by decide)
  obtain ⟨w, _, _, rfl⟩ := I.sub s hs
  rcases List.eq_nil_or_concat w with rfl | ⟨u, c, rfl⟩
  · exact mem_subl (p := fun _ => true) R4
  · rw [List.concat_eq_append, to_snoc]; exact mem_subl R4
theorem lay_grow {w : List Nat} (L : Least g w) : ∀ i, i ≤ w.length → i + 1 ≤ (layr g i).2.length
  | 0, _ => Nat.le_refl _
  | i + 1, hi => by
    have I := lay_ok (g := g) i
    have ih := lay_grow L i (Nat.le_of_succ_le hi)
    obtain ⟨A, h1, h2, h3, h4⟩ := add_all (ahead g (layr g i).1) [] (layr g i).2 I.nd
    have e : layr g (i + 1) = (A, (layr g i).2 ++ A) := by
      show (ahead g (layr g i).1).foldl add1 ([], (layr g i).2) = _
      rw [h1, List.nil_append]
    rw [e, List.length_append]
    cases A with
    | cons a A => rw [List.length_cons]; omega
    | nil =>
      exfalso
      rw [List.append_nil] at h3
      have clo : ∀ s ∈ (layr g i).2, ∀ c, c < 2 → step g s c ∈ (layr g i).2 := fun s hs c hc => by
        rcases I.old s hs with h | ⟨v, v1, v2, v3⟩
        · refine h3 _ (List.mem_flatMap.mpr ⟨_, h, ?_⟩)
          rcases two_of hc with rfl | rfl
          · exact List.mem_cons_self
          · exact List.mem_cons_of_mem _ List.mem_cons_self
        · rw [← v3, ← to_snoc]
          exact I.all _ (fun d hd => (List.mem_append.mp hd).elim (v1 d) fun hd => by rw [List.mem_singleton.mp hd]; exact hc) (by rw [List.length_append]; exact v2)
      have all : ∀ (u S : List Nat), S ∈ (layr g i).2 → (∀ c ∈ u, c < 2) → u.foldl (step g) S ∈ (layr g i).2 := by
        intro u
        induction u with
        | nil => exact fun S hS _ => hS
        | cons c u ihu => exact fun S hS hu => ihu _ (clo S hS c (hu c List.mem_cons_self)) fun d hd => hu d (List.mem_cons_of_mem _ hd)
      have := all w R4 (I.all [] (fun c hc => (nomatch hc)) (Nat.zero_le _)) L.two
      rw [show w.foldl (step g) R4 = [] from L.dead] at this
      obtain ⟨u, u1, u2, u3⟩ := I.sub _ this
      have := L.least u u1 u3
      omega
theorem least_len {w : List Nat} (L : Least g w) : w.length < 16 := Nat.le_trans (lay_grow L w.length (Nat.le_refl _)) (lay_len _)
end
end J2
namespace Ev.L2
open Ev.Lib J2
noncomputable def tT (l : List Nat) : Tx := l.map fun v => 97 + v
noncomputable def tU (l : List Nat) : Tx := l.map fun v => 65 + v
noncomputable abbrev lT (l : List Nat) : List AV := l.map fun v => .str [97 + v]
noncomputable def strIs (r : Option (AV × Cells)) (t : Tx) : Bool := ((r.bind fun z => z.1.str?).map (· == t)).getD false
theorem strIs_of {r : Option (AV × Cells)} {t : Tx} (h : strIs r t = true) : ∃ cs, r = some (.str t, cs) := by
  cases r with
  | none => exact fB h
  | some z =>
    obtain ⟨v, cs⟩ := z
    unfold strIs at h
    cases hs : v.str? with
    | none => rw [Option.bind_some, hs] at h; exact fB h
    | some u =>
      rw [Option.bind_some, hs] at h
      have h : (u == t) = true := h
      exact ⟨cs, by rw [str?_eq hs, beq_iff_eq.mp h]⟩
noncomputable def check (t : Tx) : Bool := strIs (f__law_names.run (callAt prog 9) 0 [.str t] none []) t
theorem check_T : ((subl R4).all fun s => s.isEmpty || check (tT s)) = true := by decide +kernel
theorem check_U : ((subl R4).all fun s => s.isEmpty || check (tU s)) = true := by decide +kernel
theorem names_T {s : List Nat} (hs : s ∈ subl R4) (hn : s ≠ []) (cs : Cells) : (callAt prog 10).cf 16 [.str (tT s)] none cs = some (.str (tT s), cs) := by
  have h := List.all_eq_true.mp check_T s hs
  cases s with
  | nil => exact absurd rfl hn
  | cons x s =>
    obtain ⟨cs2, e⟩ := strIs_of (show check (tT (x :: s)) = true from h)
    exact cf_closed (P := prog) (k := 9) (args := [.str (tT (x :: s))]) rfl rfl e rfl
theorem names_U {s : List Nat} (hs : s ∈ subl R4) (hn : s ≠ []) (cs : Cells) : (callAt prog 10).cf 16 [.str (tU s)] none cs = some (.str (tU s), cs) := by
  have h := List.all_eq_true.mp check_U s hs
  cases s with
  | nil => exact absurd rfl hn
  | cons x s =>
    obtain ⟨cs2, e⟩ := strIs_of (show check (tU (x :: s)) = true from h)
    exact cf_closed (P := prog) (k := 9) (args := [.str (tU (x :: s))]) rfl rfl e rfl
end Ev.L2
namespace Ev.L2
open Ev.Lib J2
theorem clamp_nat {m k : Nat} : clampZ m (k : Int) = min k m := by
  unfold clampZ
  rw [if_neg (Int.not_lt.mpr (Int.natCast_nonneg k))]
  rcases Nat.le_total k m with q | q
  · rw [Int.min_eq_left (Int.ofNat_le.mpr q), Nat.min_eq_left q, Int.max_eq_right (Int.natCast_nonneg _), Int.toNat_natCast]
  · rw [Int.min_eq_right (Int.ofNat_le.mpr q), Nat.min_eq_right q, Int.max_eq_right (Int.natCast_nonneg _), Int.toNat_natCast]
section
variable {W : Wd} {n d : Nat} {cs : Cells} {g : Roads}
theorem cut4 {l : List Int} (hl : l.length ≤ 1000) : slcv false cs (.lst (l.map .int)) .none (.int 4) = some (.lst ((l.take 4).map .int), cs) := by
  have b : boundv (l.map AV.int).length (l.map AV.int).length (.int 4) = some (min 4 l.length) := congrArg some ((clamp_nat (k := 4)).trans (by rw [List.length_map]))
  have e : cut (l.map AV.int) 0 (min 4 l.length) = (l.take 4).map .int := by
    unfold cut
    rw [List.drop_zero, ← List.map_take, List.take_eq_take_min, Nat.min_assoc, Nat.min_self, ← List.take_eq_take_min]
  show (boundv (l.map AV.int).length 0 .none).bind (fun lo => (boundv (l.map AV.int).length (l.map AV.int).length (.int 4)).bind fun h => mk false (cut (l.map AV.int) lo h) cs) = _
  rw [show boundv (l.map AV.int).length 0 .none = some 0 from rfl, Option.bind_some, b, Option.bind_some, e]
  exact mk_lst (by rw [List.length_map]; exact Nat.le_trans (List.length_take_le' ..) hl)
noncomputable def pad : List Int := [36, 24, 39, 57]
noncomputable def four' (ns : List Int) : List Int := (ns.take 4 ++ pad).take 4
theorem four_len (ns : List Int) : (four' ns).length = 4 := by
  unfold four'
  rw [List.length_take, List.length_append]
  exact Nat.min_eq_left (Nat.le_add_left 4 _)
noncomputable def eNums : ME := eComp false (eBin false .mod (eVar 7) (eLit (.int 64))) [⟨1, [7], iVal (eSlc false (eBin false .add (eSlc false (eVar 0) (eLit (.none)) (eLit (.int 4))) (eList false [eLit (.int 36), eLit (.int 24), eLit (.int 39), eLit (.int 57)])) (eLit (.none)) (eLit (.int 4))), []⟩]
noncomputable def nat64 (i : Int) : Nat := (i % 64).toNat
theorem nat64_lt (i : Int) : nat64 i < 64 ∧ ((nat64 i : Nat) : Int) = i % 64 := by unfold nat64; omega
noncomputable abbrev nats (l : List Nat) : List AV := l.map fun k : Nat => AV.int (k : Int)
theorem nums_run {v1 v2 v3 v4 v5 v6 : Option AV} {ns : List Int} (hn : ns.length ≤ 63) : eNums W n [some (.lst (ns.map .int)), v1, v2, v3, v4, v5, v6] cs = some (.lst (nats ((four' ns).map nat64)), cs) := by
  have hl2 : (ns.take 4 ++ pad).length ≤ 1000 := by rw [List.length_append]; exact Nat.le_trans (Nat.add_le_add_right (List.length_take_le ..) _) (by decide)
  have hadd : binv false .add (.lst ((ns.take 4).map .int)) (.lst (pad.map .int)) cs = some (.lst ((ns.take 4 ++ pad).map .int), cs) := by
    rw [List.map_append]
    exact mk_lst (by rw [← List.map_append, List.length_map]; exact hl2)
  have hI : (iVal (eSlc false (eBin false .add (eSlc false (eVar 0) (eLit (.none)) (eLit (.int 4))) (eList false [eLit (.int 36), eLit (.int 24), eLit (.int 39), eLit (.int 57)])) (eLit (.none)) (eLit (.int 4)))).run W n [some (.lst (ns.map .int)), v1, v2, v3, v4, v5, v6] cs = some (.items ((four' ns).map .int), cs) :=
    i_val (e_slc (e_bin (m := false) (op := .add) (a := eSlc false (eVar 0) (eLit (.none)) (eLit (.int 4))) (b := eList false [eLit (.int 36), eLit (.int 24), eLit (.int 39), eLit (.int 57)]) (e_slc rfl rfl rfl (cut4 (Nat.le_trans hn (by decide)))) rfl hadd) (rfl : eLit .none _ _ _ _ = _) (rfl : eLit (.int 4) _ _ _ _ = _) (cut4 hl2)) rfl
  refine comp_pure (xs := (four' ns).map .int) (fx := fun x => [some (.lst (ns.map .int)), v1, v2, v3, v4, v5, v6, some x]) (b := fun _ => true) (g := fun x => .int ((nat64 (x.int?.getD 0) : Nat) : Int)) hI (fun x _ => rfl) (fun x _ => rfl) (fun x hx _ => ?_) ?_ ?_
  · obtain ⟨i, _, rfl⟩ := List.mem_map.mp hx
    refine e_bin rfl rfl ?_
    show some (AV.int (i % 64), cs) = some (AV.int ((nat64 i : Nat) : Int), cs)
    rw [(nat64_lt i).2]
  · rw [List.length_map, four_len]; decide
  · rw [filter_all, List.map_map, show nats ((four' ns).map nat64) = (four' ns).map ((fun x : AV => AV.int ((nat64 (x.int?.getD 0) : Nat) : Int)) ∘ AV.int) from List.map_map ..]
    exact mk_lst (by rw [List.length_map, four_len]; decide)
noncomputable def road (x i : Nat) : Nat × Nat := if i = 0 then (x / 16 % 2, x % 4) else (x / 32 % 2, x / 4 % 4)
noncomputable def roads (xs : List Nat) : Roads := fun k i => road (xs.getD k 0) i
theorem roads_ok (xs : List Nat) : J2.Ok (roads xs) := by
  refine ⟨fun k i => ?_, fun k i => ?_⟩
  · show (road (xs.getD k 0) i).1 < 2
    unfold road
    by_cases h : i = 0
    · rw [if_pos h]; exact Nat.mod_lt _ (by decide)
    · rw [if_neg h]; exact Nat.mod_lt _ (by decide)
  · show (road (xs.getD k 0) i).2 < 4
    unfold road
    by_cases h : i = 0
    · rw [if_pos h]; exact Nat.mod_lt _ (by decide)
    · rw [if_neg h]; exact Nat.mod_lt _ (by decide)
noncomputable def encP (p : Nat × Nat) : AV := .tup [.int (p.1 : Int), .int (p.2 : Int)]
noncomputable def encG (g : Roads) (k : Nat) : AV := .lst [encP (g k 0), encP (g k 1)]
noncomputable def roadsV (g : Roads) : AV := .lst (R4.map (encG g))
noncomputable def eRoads : ME := eComp false (eList false [eTup [eBin false .mod (eBin false .fdiv (eVar 7) (eLit (.int 16))) (eLit (.int 2)), eBin false .mod (eVar 7) (eLit (.int 4))], eTup [eBin false .fdiv (eVar 7) (eLit (.int 32)), eBin false .mod (eBin false .fdiv (eVar 7) (eLit (.int 4))) (eLit (.int 4))]]) [⟨1, [7], iVal (eVar 1), []⟩]
theorem roads_run {v0 v2 v3 v4 v5 v6 : Option AV} {xs : List Nat} (hx : xs.length = 4) (h64 : ∀ x ∈ xs, x < 64) : eRoads W n [v0, some (.lst (nats xs)), v2, v3, v4, v5, v6] cs = some (roadsV (roads xs), cs) := by
  refine comp_pure (xs := nats xs) (fx := fun x => [v0, some (.lst (nats xs)), v2, v3, v4, v5, v6, some x]) (b := fun _ => true) (g := fun x => .lst [encP (road (x.int?.getD 0).toNat 0), encP (road (x.int?.getD 0).toNat 1)]) rfl (fun x _ => rfl) (fun x _ => rfl) (fun x hx _ => ?_) ?_ ?_
  · obtain ⟨k, hk, rfl⟩ := List.mem_map.mp hx
    have hk := h64 k hk
    have e : k / 32 % 2 = k / 32 := Nat.mod_eq_of_lt (Nat.div_lt_of_lt_mul hk)
    have h1 : encP (road k 1) = .tup [.int ((k : Int) / 32), .int ((k : Int) / 4 % 4)] := by
      unfold road encP
      rw [if_neg (by decide)]
      show AV.tup [.int ((k / 32 % 2 : Nat) : Int), _] = _
      rw [e]; rfl
    show _ = some (AV.lst [encP (road k 0), encP (road k 1)], cs)
    rw [h1]; rfl
  · rw [List.length_map, hx]; decide
  · rw [filter_all]
    match xs, hx with
    | [a, b, c, e], _ => rfl
noncomputable def nm (k c : Nat) : Nat := if c = 0 then 97 + k else 65 + k
noncomputable def hdOf (g : Roads) (k : Nat) : List (Tx × Tx) := [([nm k (g k 0).1], [97 + (g k 0).2]), ([nm k (g k 1).1], [97 + (g k 1).2])]
theorem hd_len {g : Roads} {k : Nat} : (hdOf g k).length = 2 := rfl
noncomputable def heads (g : Roads) : List (Tx × Tx) := R4.flatMap (hdOf g)
noncomputable def clT (hl : List (Tx × Tx)) : Cells := [.inst 1, .idict [(hTx, .ref 2)], .list (hl.map encH)]
theorem clT_tab {hl : List (Tx × Tx)} : Tab (clT hl) 0 1 2 hl := ⟨rfl, rfl, rfl⟩
theorem nm_facts : ∀ k, k < 4 → ∀ c, c < 2 → ([nm k c] : Tx).all okSign = true ∧ ([nm k c] : Tx).map lowC = [97 + k] ∧ ([97 + k] : Tx).all okSign = true ∧ ([97 + k] : Tx).map lowC = [97 + k] ∧ ([97, 98, 99, 100, 65, 66, 67, 68] : Tx)[k + 4 * c]? = some (nm k c) ∧ ([97, 98, 99, 100] : Tx)[k]? = some (97 + k) := by decide
noncomputable abbrev frB (g : Roads) (v2 v3 v4 : Option AV) : Fr := [some (roadsV g), some (.ref 0), v2, v3, v4]
noncomputable def tbBody : List MS := [
      sExpr (eMeth (eVar 1) .other (some 14) [eIdx (eLit (.str [97, 98, 99, 100, 65, 66, 67, 68])) (eBin false .add (eVar 2) (eBin false .mul (eLit (.int 4)) (eVar 3))), eIdx (eLit (.str [97, 98, 99, 100])) (eVar 4)])]
theorem tb_turn {k : Nat} {v3 v4 : Option AV} {p : Nat × Nat} (hk : k < 4) (h1 : p.1 < 2) (h2 : p.2 < 4) {hl : List (Tx × Tx)} (hlen : hl.length < 2000) :
    stepF (callAt prog (d + 2)) 0 [3, 4] tbBody (encP p) (frB g (some (.int (k : Int))) v3 v4) (clT hl) = some ⟨.next, frB g (some (.int (k : Int))) (some (.int (p.1 : Int))) (some (.int (p.2 : Int))), clT (hl ++ [([nm k p.1], [97 + p.2])])⟩ := by
  have a1 := add_run (P := prog) (k := d) (cs := clT hl) (i := 0) (d := 1) (l := 2) (nm := [nm k p.1]) (v := [97 + p.2]) rfl rfl clT_tab (Nat.lt_trans hlen (by decide)) (nm_facts k hk _ h1).1 (nm_facts p.2 h2 0 (by decide)).2.2.1 (by decide : 1 ≤ lim)
  have a1 : (callAt prog (d + 2)).cf 14 [.ref 0, .str [nm k p.1], .str [97 + p.2]] none (clT hl) = some (.none, clT (hl ++ [([nm k p.1], [97 + p.2])])) := a1
  have hm : binv false .mul (.int 4) (.int (p.1 : Int)) (clT hl) = some (.int ((4 * p.1 : Nat) : Int), clT hl) := (if_pos ⟨by decide, by rw [Int.natAbs_natCast]; omega⟩)
  have hx : eIdx (eLit (.str [97, 98, 99, 100, 65, 66, 67, 68])) (eBin false .add (eVar 2) (eBin false .mul (eLit (.int 4)) (eVar 3))) (callAt prog (d + 2)) 0 (frB g (some (.int (k : Int))) (some (.int (p.1 : Int))) (some (.int (p.2 : Int)))) (clT hl) = some (.str [nm k p.1], clT hl) :=
    e_idx rfl (e_bin rfl (e_bin rfl rfl hm) rfl) (idx_str (k := k + 4 * p.1) (nm_facts k hk _ h1).2.2.2.2.1)
  have hy : eIdx (eLit (.str [97, 98, 99, 100])) (eVar 4) (callAt prog (d + 2)) 0 (frB g (some (.int (k : Int))) (some (.int (p.1 : Int))) (some (.int (p.2 : Int)))) (clT hl) = some (.str [97 + p.2], clT hl) :=
    e_idx rfl rfl (idx_str (k := p.2) (nm_facts p.2 h2 0 (by decide)).2.2.2.2.2)
  exact bindE rfl (ss_next (s_expr (e_own rfl (es_cons hx (es_cons hy rfl)) rfl a1)) rfl)
noncomputable def tbOut : List MS := [sFor [3, 4] (iVal (eIdx (eVar 0) (eVar 2))) tbBody]
theorem tb_out {k : Nat} {v2 v3 v4 : Option AV} (O : J2.Ok g) (hk : k < 4) {hl : List (Tx × Tx)} (hlen : hl.length + 2 < 2000) :
    ∃ v3' v4', stepF (callAt prog (d + 2)) 0 [2] tbOut (.int (k : Int)) (frB g v2 v3 v4) (clT hl) = some ⟨.next, frB g (some (.int (k : Int))) v3' v4', clT (hl ++ hdOf g k)⟩ := by
  have t1 := tb_turn (g := g) (d := d) (v3 := v3) (v4 := v4) (p := g k 0) hk (O.col k 0) (O.en k 0) (hl := hl) (by omega)
  have t2 := tb_turn (g := g) (d := d) (v3 := some (.int ((g k 0).1 : Int))) (v4 := some (.int ((g k 0).2 : Int))) (p := g k 1) hk (O.col k 1) (O.en k 1) (hl := hl ++ [([nm k (g k 0).1], [97 + (g k 0).2])]) (by rw [List.length_append]; exact Nat.lt_of_le_of_lt (Nat.le_refl _) (by show hl.length + 1 < 2000; omega))
  rw [List.append_assoc] at t2
  have hi : idxv (clT hl) (roadsV g) (.int (k : Int)) = some (encG g k) := idx_lst (by rw [List.getElem?_map, show R4[k]? = some k from List.getElem?_range (n := 4) hk]; rfl)
  exact ⟨_, _, bindE rfl (ss_next (s_for (i' := .items [encP (g k 0), encP (g k 1)]) (i_val (e_idx rfl rfl hi) rfl) (forItems_cons t1 (forItems_cons t2 rfl))) rfl)⟩
theorem cf_ref {P : Prog} {k j : Nat} {F : Fn} {args : List AV} {cs' : Cells} {v : AV} (h : P.fs[j]? = some F) (hb : belows 0 args = true) (hr : F.run (callAt P k) 0 args none [] = some (v, cs')) (hv : below 0 v = false) : (callAt P (k + 1)).cf j args none [] = some (v, cs') := by
  refine bindE (f := fun F => closed (callAt P k) F args none []) h ?_
  show orElse (if (belows 0 args && true) = true then (F.run (callAt P k) 0 args none []).bind fun r => if below 0 r.1 = true then some r.1 else none else none) _ ((F.run (callAt P k) 0 args none []).map fun r => shut 0 r.1 r.2) = _
  rw [hb, hr, if_pos (by rfl), Option.bind_some, if_neg (by rw [hv]; exact Bool.false_ne_true)]
  show some (shut 0 v cs') = _
  unfold shut
  rw [hv, if_neg Bool.false_ne_true]
theorem table_run (O : J2.Ok g) : (callAt prog (d + 3)).cf 15 [roadsV g] none [] = some (.ref 0, clT (heads g)) := by
  have new0 : (callAt prog (d + 2)).new [] = some (.ref 0, clT []) := new_run (P := prog) (k := d + 1) (cs := []) rfl rfl
  obtain ⟨a0, b0, e0⟩ := tb_out (g := g) (d := d) (k := 0) (v2 := none) (v3 := none) (v4 := none) O (by decide) (hl := []) (by decide)
  obtain ⟨a1, b1, e1⟩ := tb_out (g := g) (d := d) (k := 1) (v2 := some (.int ((0 : Nat) : Int))) (v3 := a0) (v4 := b0) O (by decide) (hl := [] ++ hdOf g 0) (by rw [List.nil_append, hd_len]; decide)
  obtain ⟨a2, b2, e2⟩ := tb_out (g := g) (d := d) (k := 2) (v2 := some (.int ((1 : Nat) : Int))) (v3 := a1) (v4 := b1) O (by decide) (hl := [] ++ hdOf g 0 ++ hdOf g 1) (by rw [List.nil_append, List.length_append, hd_len, hd_len]; decide)
  obtain ⟨a3, b3, e3⟩ := tb_out (g := g) (d := d) (k := 3) (v2 := some (.int ((2 : Nat) : Int))) (v3 := a2) (v4 := b2) O (by decide) (hl := [] ++ hdOf g 0 ++ hdOf g 1 ++ hdOf g 2) (by rw [List.nil_append, List.length_append, List.length_append, hd_len, hd_len, hd_len]; decide)
  have el : forItems (stepF (callAt prog (d + 2)) 0 [2] tbOut) [.int ((0 : Nat) : Int), .int ((1 : Nat) : Int), .int ((2 : Nat) : Int), .int ((3 : Nat) : Int)] (frB g none none none) (clT []) = some ⟨.next, frB g (some (.int ((3 : Nat) : Int))) a3 b3, clT (heads g)⟩ := forItems_cons e0 (forItems_cons e1 (forItems_cons e2 (forItems_cons e3 rfl)))
  have s1 : sAssign (tVar 1) eNew (callAt prog (d + 2)) 0 [some (roadsV g), none, none, none, none] [] = some ⟨.next, frB g none none none, clT []⟩ := as_var new0 (lt_ok rfl)
  have s2 : sFor [2] (iRange [eLit (.int 4)]) tbOut (callAt prog (d + 2)) 0 (frB g none none none) (clT []) = _ := s_for (i' := .items [.int ((0 : Nat) : Int), .int ((1 : Nat) : Int), .int ((2 : Nat) : Int), .int ((3 : Nat) : Int)]) rfl el
  exact cf_ref (P := prog) (k := d + 2) (F := f__law_table) rfl rfl (run_of rfl (ss_next s1 (ss_next s2 (ss_ret (s_ret rfl)))) rfl) rfl
theorem heads_len : (heads g).length = 8 := rfl
noncomputable def itemsV (g : Roads) : AV := .lst ((heads g).map encH)
theorem items_run : (callAt prog (d + 1)).cf 13 [.ref 0] none (clT (heads g)) = some (itemsV g, clT (heads g)) := by
  have hs : slcv false (clT (heads g)) (.ref 2) .none .none = some (itemsV g, clT (heads g)) := rfl
  have bel : below 0 (itemsV g) = true := rfl
  exact call_run (P := prog) (k := d) (F := Lib.f_items) rfl below_ref (run_of rfl (ss_ret (s_ret (e_slc (e_attr rfl clT_tab.attr) rfl rfl hs))) rfl) bel rfl
end
end Ev.L2
namespace Ev.L2
open Ev.Lib J2
section
variable {W : Wd} {n d : Nat} {cs : Cells} {g : Roads} {v3 v4 v5 v6 v7 v8 v9 : Option AV}
theorem base_beq (b x y : Nat) : (([b + x] : Tx) == [b + y]) = decide (x = y) := Bool.eq_iff_iff.mpr (by
  rw [beq_iff_eq, decide_eq_true_iff]
  exact ⟨fun e => Nat.add_left_cancel (List.cons.inj e).1, fun e => by rw [e]⟩)
theorem memb_b {b c : Nat} (l : List Nat) : membv cs (.str [b + c]) (l.map fun v => .str [b + v]) = some (decide (c ∈ l)) := by
  induction l with
  | nil => rfl
  | cons x l ih =>
    show ((some (([b + x] : Tx) == [b + c])).bind fun t => (membv cs (.str [b + c]) (l.map fun v => .str [b + v])).map (t || ·)) = _
    rw [ih, base_beq]
    show some (decide (x = c) || decide (c ∈ l)) = _
    refine congrArg some (Bool.eq_iff_iff.mpr ?_)
    rw [Bool.or_eq_true, decide_eq_true_iff, decide_eq_true_iff, decide_eq_true_iff, List.mem_cons]
    exact or_congr_left ⟨fun h => h.symm, fun h => h.symm⟩
theorem map_inj {b : Nat} : ∀ {x y : List Nat}, x.map (b + ·) = y.map (b + ·) → x = y
  | [], [], _ => rfl
  | [], _ :: _, h => nomatch h
  | _ :: _, [], h => nomatch h
  | a :: r, c :: q, h => by
    have h := List.cons.inj h
    rw [Nat.add_left_cancel h.1, map_inj h.2]
theorem memb_t {t : List Nat} (l : List (List Nat)) : membv cs (.str (tT t)) (l.map fun s => .str (tT s)) = some (decide (t ∈ l)) := by
  induction l with
  | nil => rfl
  | cons x l ih =>
    show ((some (tT x == tT t)).bind fun z => (membv cs (.str (tT t)) (l.map fun s => .str (tT s))).map (z || ·)) = _
    rw [ih]
    show some ((tT x == tT t) || decide (t ∈ l)) = _
    refine congrArg some (Bool.eq_iff_iff.mpr ?_)
    rw [Bool.or_eq_true, beq_iff_eq, decide_eq_true_iff, decide_eq_true_iff, List.mem_cons]
    exact or_congr_left ⟨fun h => (map_inj h).symm, fun h => by rw [h]⟩
theorem joinStr {f : Nat → Nat} {l : List Nat} (h : l.length ≤ 1000) : mcall n (.str []) .join [.lst (l.map fun c => .str [f c])] cs = some (.str (l.map f), cs) := by
  have e : (l.map fun c => AV.str [f c]) = (l.map f).map fun c => .str [c] := by rw [List.map_map]; rfl
  rw [e]
  refine bindE (f := fun xs => if (joinTx [] xs).length ≤ lim then some (AV.str (joinTx [] xs), cs) else none) (allStr_ones (l.map f)) ?_
  rw [joinTx_ones]
  exact if_pos (by rw [List.length_map]; exact Nat.le_trans h (by decide))
noncomputable def tW (w : List Nat) : Tx := w.map fun c => 48 + c
theorem tx_lt {b : Nat} : ∀ {x y : List Nat}, ltTx (x.map (b + ·)) (y.map (b + ·)) = ltw x y
  | [], [] => rfl
  | [], _ :: _ => rfl
  | _ :: _, [] => rfl
  | a :: r, c :: q => by
    show (if b + a < b + c then true else if b + c < b + a then false else ltTx (r.map (b + ·)) (q.map (b + ·))) = (if a < c then true else if c < a then false else ltw r q)
    rw [tx_lt]
    by_cases h : a < c
    · rw [if_pos (Nat.add_lt_add_left h b), if_pos h]
    · rw [if_neg fun z => h (Nat.lt_of_add_lt_add_left z), if_neg h]
      by_cases h' : c < a
      · rw [if_pos (Nat.add_lt_add_left h' b), if_pos h']
      · rw [if_neg fun z => h' (Nat.lt_of_add_lt_add_left z), if_neg h']
noncomputable def encE (e : E) : AV := .tup [.int (e.size : Int), .str (tW e.word), .str (tT e.st)]
theorem encE_lt : Enc encE J2.lt := by
  refine ⟨fun cs a b => ?_, fun a => rfl⟩
  obtain ⟨k, u, p⟩ := a
  obtain ⟨m, v, q⟩ := b
  show (if ((k : Int) == (m : Int)) = true then (if (tW u == tW v) = true then (if (tT p == tT q) = true then some false else some (ltTx (tT p) (tT q))) else some (ltTx (tW u) (tW v))) else some (decide ((k : Int) < (m : Int)))) =
    some (decide (k < m) || (decide (k = m) && (ltw u v || (decide (u = v) && ltw p q))))
  have h1 : ((k : Int) == (m : Int)) = decide (k = m) := Bool.eq_iff_iff.mpr (by rw [beq_iff_eq, decide_eq_true_iff]; exact Int.ofNat_inj)
  have h2 : (tW u == tW v) = decide (u = v) := Bool.eq_iff_iff.mpr (by rw [beq_iff_eq, decide_eq_true_iff]; exact ⟨map_inj, fun e => by rw [e]⟩)
  have h3 : decide ((k : Int) < (m : Int)) = decide (k < m) := decide_eq_decide.mpr Int.ofNat_lt
  have h4 : (tT p == tT q) = decide (p = q) := Bool.eq_iff_iff.mpr (by rw [beq_iff_eq, decide_eq_true_iff]; exact ⟨map_inj, fun e => by rw [e]⟩)
  have h5 : ltTx (tW u) (tW v) = ltw u v := tx_lt
  have h6 : ltTx (tT p) (tT q) = ltw p q := tx_lt
  rw [h1, h2, h3, h4, h5, h6]
  by_cases e1 : k = m
  · subst e1
    rw [decide_eq_true (rfl : k = k), if_pos rfl, decide_eq_false (Nat.lt_irrefl k), Bool.false_or, Bool.true_and]
    by_cases e2 : u = v
    · subst e2
      rw [decide_eq_true (rfl : u = u), if_pos rfl, ltw_irr, Bool.false_or, Bool.true_and]
      by_cases e3 : p = q
      · subst e3
        rw [decide_eq_true (rfl : p = p), if_pos rfl, ltw_irr]
      · rw [decide_eq_false e3, if_neg Bool.false_ne_true]
    · rw [decide_eq_false e2, if_neg Bool.false_ne_true, Bool.false_and, Bool.or_false]
  · rw [decide_eq_false e1, if_neg Bool.false_ne_true, Bool.false_and, Bool.or_false]
noncomputable def hs (g : Roads) : List ((Nat × Nat) × Nat) := R4.flatMap fun k => [((k, (g k 0).1), (g k 0).2), ((k, (g k 1).1), (g k 1).2)]
noncomputable def encN (h : (Nat × Nat) × Nat) : AV := .tup [.str [nm h.1.1 h.1.2], .str [97 + h.2]]
theorem heads_hs : (heads g).map encH = (hs g).map encN := rfl
theorem mem_hs {h : (Nat × Nat) × Nat} : h ∈ hs g ↔ h.1.1 < 4 ∧ ∃ i, (i = 0 ∨ i = 1) ∧ g h.1.1 i = (h.1.2, h.2) := by
  unfold hs
  rw [List.mem_flatMap]
  constructor
  · rintro ⟨k, hk, hm⟩
    have hk := mem_R4.mp hk
    rcases List.mem_cons.mp hm with rfl | hm
    · exact ⟨hk, 0, .inl rfl, rfl⟩
    · rw [List.mem_singleton.mp hm]; exact ⟨hk, 1, .inr rfl, rfl⟩
  · rintro ⟨hk, i, hi, e⟩
    refine ⟨h.1.1, mem_R4.mpr hk, ?_⟩
    have e2 : h = ((h.1.1, (g h.1.1 i).1), (g h.1.1 i).2) := by rw [e]
    rcases hi with rfl | rfl
    · rw [e2]; exact List.mem_cons_self
    · rw [e2]; exact List.mem_cons_of_mem _ List.mem_cons_self
noncomputable def tN (S : List Nat) (c : Nat) : Tx := if c = 0 then tT S else tU S
noncomputable def el (g : Roads) (S : List Nat) (c : Nat) : List Nat := ((hs g).filter fun h => (tN S c).contains (nm h.1.1 h.1.2)).map (·.2)
theorem nm_in {S : List Nat} (hS : ∀ s ∈ S, s < 4) {k c c' : Nat} (hk : k < 4) (hc : c < 2) (hc' : c' < 2) : (tN S c).contains (nm k c') = true ↔ k ∈ S ∧ c' = c := by
  rw [List.contains_iff_mem]
  unfold tN nm
  constructor
  · intro h
    by_cases h0 : c = 0 <;> by_cases h1 : c' = 0
    · rw [if_pos h0, if_pos h1] at h
      obtain ⟨s, hs, e⟩ := List.mem_map.mp h
      exact ⟨Nat.add_left_cancel e ▸ hs, h1.trans h0.symm⟩
    · rw [if_pos h0, if_neg h1] at h
      obtain ⟨s, hs, e⟩ := List.mem_map.mp h
      have := hS s hs
      omega
    · rw [if_neg h0, if_pos h1] at h
      obtain ⟨s, hs, e⟩ := List.mem_map.mp h
      have := hS s hs
      omega
    · rw [if_neg h0, if_neg h1] at h
      obtain ⟨s, hs, e⟩ := List.mem_map.mp h
      exact ⟨Nat.add_left_cancel e ▸ hs, by omega⟩
  · rintro ⟨hk, rfl⟩
    by_cases h0 : c' = 0
    · rw [if_pos h0, if_pos h0]; exact List.mem_map_of_mem (f := fun v => 97 + v) hk
    · rw [if_neg h0, if_neg h0]; exact List.mem_map_of_mem (f := fun v => 65 + v) hk
theorem mem_el (O : J2.Ok g) {S : List Nat} (hS : ∀ s ∈ S, s < 4) {c v : Nat} (hc : c < 2) : v ∈ el g S c ↔ v ∈ step g S c := by
  rw [mem_step O]
  unfold el
  constructor
  · intro h
    obtain ⟨x, hx, rfl⟩ := List.mem_map.mp h
    obtain ⟨h1, h2⟩ := List.mem_filter.mp hx
    obtain ⟨hk, i, hi, e⟩ := mem_hs.mp h1
    have hc' : x.1.2 < 2 := by have := O.col x.1.1 i; rw [e] at this; exact this
    obtain ⟨h3, h4⟩ := (nm_in hS hk hc hc').mp h2
    exact ⟨x.1.1, h3, i, hi, by rw [e, h4]⟩
  · rintro ⟨k, hk, i, hi, e⟩
    have hk4 := hS k hk
    exact List.mem_map.mpr ⟨((k, c), v), List.mem_filter.mpr ⟨mem_hs.mpr ⟨hk4, i, hi, e⟩, (nm_in hS hk4 hc hc).mpr ⟨hk, rfl⟩⟩, rfl⟩
theorem step_eq (O : J2.Ok g) {S : List Nat} (hS : ∀ s ∈ S, s < 4) {c : Nat} (hc : c < 2) : (R4.filter fun v => decide (v ∈ el g S c)) = step g S c := by
  have h : step g S c = R4.filter fun v => decide (v ∈ step g S c) := by
    show R4.filter _ = _
    refine List.filter_congr fun v hv => Bool.eq_iff_iff.mpr ?_
    rw [decide_eq_true_iff]
    unfold step
    rw [List.mem_filter]
    exact ⟨fun h => ⟨hv, h⟩, fun h => h.2⟩
  rw [h]
  exact List.filter_congr fun v _ => decide_eq_decide.mpr (mem_el O hS hc)
noncomputable abbrev frW (g : Roads) (v3 v4 v5 v6 v7 v8 v9 : Option AV) : Fr := [some (itemsV g), some (.ref 0), some (.ref 1), v3, v4, v5, v6, v7, v8, v9]
noncomputable def cells2 (xs : List E) (ms : List (List Nat)) : Cells := [.list (xs.map encE), .list (ms.map fun s => .str (tT s))]
noncomputable def s7 : MS := sAssign (tVar 7) (eCall (eLit (.fn 16)) [eIte (bCmp .eq (eVar 6) (eLit (.str [48]))) (eVar 5) (eMeth (eVar 5) .upper none [])])
noncomputable def s8 : MS := sAssign (tVar 8) (eComp false (eVar 11) [⟨2, [10, 11], iVal (eVar 0), [bCmp .in_ (eVar 10) (eVar 7)]⟩])
noncomputable def s9 : MS := sAssign (tVar 9) (eMeth (eLit (.str [])) .join none [eComp false (eVar 10) [⟨1, [10], iVal (eLit (.str [97, 98, 99, 100])), [bCmp .in_ (eVar 10) (eVar 8)]⟩]])
noncomputable def pushSs : List MS := [
        sExpr (eMeth (eVar 2) .append none [eVar 9]),
        sExpr (eCall (eLit (.fn 0)) [eVar 1, eTup [eBin false .add (eVar 3) (eLit (.int 1)), eBin false .add (eVar 4) (eVar 6), eVar 9]])]
noncomputable def goBody : List MS := [s7, s8, s9, sIte (bCmp .notin (eVar 9) (eVar 2)) pushSs []]
theorem up_T {S : List Nat} (hS : ∀ s ∈ S, s < 4) : mcall n (.str (tT S)) .upper [] cs = some (.str (tU S), cs) := by
  have h1 : ascii (tT S) = true := by
    unfold tT ascii
    rw [List.all_map]
    exact List.all_eq_true.mpr fun x hx => decide_eq_true (Nat.lt_trans (Nat.add_lt_add_left (hS x hx) 97) (by decide))
  have h2 : (tT S).map upC = tU S := by
    unfold tT tU
    rw [List.map_map]
    refine List.map_congr_left fun x hx => ?_
    have := hS x hx
    show (if 97 ≤ 97 + x ∧ 97 + x ≤ 122 then 97 + x - 32 else 97 + x) = 65 + x
    rw [if_pos ⟨Nat.le_add_right _ _, by omega⟩]; omega
  rw [← h2]
  exact if_pos h1
theorem s7_run {S : List Nat} {c : Nat} (hm : S ∈ subl R4) (hn : S ≠ []) (hS : ∀ s ∈ S, s < 4) (hc : c < 2) : s7 (callAt prog 10) n (frW g v3 v4 (some (.str (tT S))) (some (.str [48 + c])) v7 v8 v9) cs = some ⟨.next, frW g v3 v4 (some (.str (tT S))) (some (.str [48 + c])) (some (.str (tN S c))) v8 v9, cs⟩ := by
  have ht : bCmp .eq (eVar 6) (eLit (.str [48])) (callAt prog 10) n (frW g v3 v4 (some (.str (tT S))) (some (.str [48 + c])) v7 v8 v9) cs = some (decide (c = 0), cs) := b_cmp rfl rfl (congrArg some (base_beq 48 c 0))
  refine as_var (i := 7) (v := .str (tN S c)) ?_ (lt_ok rfl)
  rcases two_of hc with rfl | rfl
  · exact e_call rfl (es_cons (e_ite ht rfl) rfl) (names_T hm hn cs)
  · exact e_call rfl (es_cons (e_ite ht (e_meth rfl rfl rfl rfl (up_T hS))) rfl) (names_U hm hn cs)
theorem s8_run {S : List Nat} {c : Nat} : s8 W n (frW g v3 v4 v5 v6 (some (.str (tN S c))) v8 v9) cs = some ⟨.next, frW g v3 v4 v5 v6 (some (.str (tN S c))) (some (.lst (lT (el g S c)))) v9, cs⟩ := by
  refine as_var (i := 8) (v := .lst (lT (el g S c))) ?_ (lt_ok rfl)
  refine comp_pure (xs := (hs g).map encN) (fx := fun x => [some (itemsV g), some (.ref 0), some (.ref 1), v3, v4, v5, v6, some (.str (tN S c)), v8, v9, some ((x.tup?.getD []).getD 0 .none), some ((x.tup?.getD []).getD 1 .none)]) (b := fun x => (tN S c).contains ((((x.tup?.getD []).getD 0 .none).str?.getD []).getD 0 0)) (g := fun x => (x.tup?.getD []).getD 1 .none) rfl (fun x hx => ?_) (fun x hx => ?_) (fun x hx _ => ?_) (show 8 ≤ lim by decide) ?_
  · obtain ⟨p, hp, rfl⟩ := List.mem_map.mp hx; rfl
  · obtain ⟨p, hp, rfl⟩ := List.mem_map.mp hx
    exact ao_one (b_cmp rfl rfl rfl)
  · obtain ⟨p, hp, rfl⟩ := List.mem_map.mp hx; rfl
  · rw [List.filter_map, List.map_map]
    have e : (((hs g).filter ((fun x : AV => (tN S c).contains ((((x.tup?.getD []).getD 0 .none).str?.getD []).getD 0 0)) ∘ encN)).map ((fun x : AV => (x.tup?.getD []).getD 1 .none) ∘ encN)) = lT (el g S c) := by
      unfold el lT
      rw [List.map_map]; rfl
    rw [e]
    refine mk_lst ?_
    unfold el
    rw [List.length_map, List.length_map]
    exact Nat.le_trans (List.length_filter_le _ _) (show 8 ≤ 1000 by decide)
theorem s9_run {S : List Nat} {c : Nat} (O : J2.Ok g) (hS : ∀ s ∈ S, s < 4) (hc : c < 2) : s9 W n (frW g v3 v4 v5 v6 v7 (some (.lst (lT (el g S c)))) v9) cs = some ⟨.next, frW g v3 v4 v5 v6 v7 (some (.lst (lT (el g S c)))) (some (.str (tT (step g S c)))), cs⟩ := by
  have h : eComp false (eVar 10) [⟨1, [10], iVal (eLit (.str [97, 98, 99, 100])), [bCmp .in_ (eVar 10) (eVar 8)]⟩] W n (frW g v3 v4 v5 v6 v7 (some (.lst (lT (el g S c)))) v9) cs = some (.lst ((step g S c).map fun v => .str [97 + v]), cs) := by
    refine comp_pure (xs := lT R4) (fx := fun x => [some (itemsV g), some (.ref 0), some (.ref 1), v3, v4, v5, v6, v7, some (.lst (lT (el g S c))), v9, some x]) (b := fun x => decide (((x.str?.getD []).getD 0 0 - 97) ∈ el g S c)) (g := fun x => x) rfl (fun x _ => rfl) (fun x hx => ?_) (fun x _ _ => rfl) (by decide) ?_
    · obtain ⟨v, hv, rfl⟩ := List.mem_map.mp hx
      refine ao_one (b_cmp rfl rfl ?_)
      show membv cs (.str [97 + v]) (lT (el g S c)) = some (decide (97 + v - 97 ∈ el g S c))
      rw [memb_b, Nat.add_sub_cancel_left]
    · rw [List.map_id', List.filter_map]
      have e : R4.filter ((fun x : AV => decide (((x.str?.getD []).getD 0 0 - 97) ∈ el g S c)) ∘ fun v => AV.str [97 + v]) = step g S c := by
        rw [← step_eq O hS hc]
        exact List.filter_congr fun v _ => by
          show decide (97 + v - 97 ∈ el g S c) = _
          rw [Nat.add_sub_cancel_left]
      rw [e]
      exact mk_lst (by rw [List.length_map]; exact Nat.le_trans (List.length_filter_le _ _) (show 4 ≤ 1000 by decide))
  exact as_var (i := 9) (v := .str (tT (step g S c))) (e_meth rfl (es_cons h rfl) rfl rfl (joinStr (f := fun v => 97 + v) (Nat.le_trans (List.length_filter_le _ _) (show 4 ≤ 1000 by decide)))) (lt_ok rfl)
noncomputable abbrev p1 (g : Roads) (e : E) (hm : List E × List (List Nat)) (c : Nat) : List E × List (List Nat) := Bf.push1 J2.lt (step g) J2.dead e hm c
theorem go_turn {e : E} {hm : List E × List (List Nat)} {c : Nat} (O : J2.Ok g) (hc : c < 2) (he : e.st ∈ subl R4) (hn : e.st ≠ []) (hS : ∀ s ∈ e.st, s < 4) (hx : hm.1.length < 2900) (hmm : hm.2.length < 2900) (hw : e.word.length ≤ 1000) :
    ∃ v7' v8' v9', stepF (callAt prog 10) 0 [6] goBody (.str [48 + c]) (frW g (some (.int (e.size : Int))) (some (.str (tW e.word))) (some (.str (tT e.st))) v6 v7 v8 v9) (cells2 hm.1 hm.2) =
      some ⟨.next, frW g (some (.int (e.size : Int))) (some (.str (tW e.word))) (some (.str (tT e.st))) (some (.str [48 + c])) v7' v8' v9', cells2 (p1 g e hm c).1 (p1 g e hm c).2⟩ := by
  have e7 := s7_run (g := g) (n := 0) (cs := cells2 hm.1 hm.2) (v3 := some (.int (e.size : Int))) (v4 := some (.str (tW e.word))) (v7 := v7) (v8 := v8) (v9 := v9) he hn hS hc
  have e8 := s8_run (W := callAt prog 10) (g := g) (n := 0) (cs := cells2 hm.1 hm.2) (v3 := some (.int (e.size : Int))) (v4 := some (.str (tW e.word))) (v5 := some (.str (tT e.st))) (v6 := some (.str [48 + c])) (v8 := v8) (v9 := v9) (S := e.st) (c := c)
  have e9 := s9_run (W := callAt prog 10) (g := g) (n := 0) (cs := cells2 hm.1 hm.2) (v3 := some (.int (e.size : Int))) (v4 := some (.str (tW e.word))) (v5 := some (.str (tT e.st))) (v6 := some (.str [48 + c])) (v7 := some (.str (tN e.st c))) (v9 := v9) O hS hc
  have ht : bCmp .notin (eVar 9) (eVar 2) (callAt prog 10) 0 (frW g (some (.int (e.size : Int))) (some (.str (tW e.word))) (some (.str (tT e.st))) (some (.str [48 + c])) (some (.str (tN e.st c))) (some (.lst (lT (el g e.st c)))) (some (.str (tT (step g e.st c))))) (cells2 hm.1 hm.2) = some (!decide (step g e.st c ∈ hm.2), cells2 hm.1 hm.2) := b_cmp rfl rfl (by
    show (membv (cells2 hm.1 hm.2) (.str (tT (step g e.st c))) (hm.2.map fun s => .str (tT s))).map (!·) = _
    rw [memb_t]; rfl)
  refine ⟨some (.str (tN e.st c)), some (.lst (lT (el g e.st c))), some (.str (tT (step g e.st c))), bindE rfl (ss_next e7 (ss_next e8 (ss_next e9 ?_)))⟩
  unfold p1 Bf.push1
  by_cases h : step g e.st c ∈ hm.2
  · rw [decide_eq_true h] at ht
    rw [if_neg fun z => z.2 h]
    exact ss_next (s_if ht rfl) rfl
  · rw [decide_eq_false h] at ht
    rw [if_pos ⟨rfl, h⟩]
    have hap : mcall 0 (.ref 1) .append [.str (tT (step g e.st c))] (cells2 hm.1 hm.2) = some (.none, cells2 hm.1 (hm.2 ++ [step g e.st c])) := by
      unfold cells2
      rw [List.map_append]
      exact if_pos (aI ⟨rfl, decide_eq_true (by rw [List.length_map]; exact Nat.lt_trans hmm (by decide))⟩)
    have hp := push_run (P := prog) (k := 8) (x := (⟨e.size + 1, e.word ++ [c], step g e.st c⟩ : E)) encE_lt rfl rfl (show (cells2 hm.1 (hm.2 ++ [step g e.st c]))[0]? = some (.list (hm.1.map encE)) from rfl) hx
    have hadd : binv false .add (.str (tW e.word)) (.str [48 + c]) (cells2 hm.1 (hm.2 ++ [step g e.st c])) = some (.str (tW (e.word ++ [c])), cells2 hm.1 (hm.2 ++ [step g e.st c])) := by
      refine (if_pos (show (tW e.word).length + 1 ≤ lim from ?_)).trans ?_
      · unfold tW; rw [List.length_map]; exact Nat.le_trans (Nat.succ_le_succ hw) (by decide)
      · unfold tW; rw [List.map_append]; rfl
    exact ss_next (s_if ht (ss_next (s_expr (e_meth rfl (es_cons rfl rfl) rfl rfl hap)) (ss_next (s_expr (e_call rfl (es_cons rfl (es_cons (e_tup (es_cons (e_bin rfl rfl rfl) (es_cons (e_bin rfl rfl hadd) (es_cons rfl rfl))) (by decide : 3 ≤ 100)) rfl)) hp)) rfl))) rfl
theorem p1_len (e : E) (hm : List E × List (List Nat)) (c : Nat) : (p1 g e hm c).1.length ≤ hm.1.length + 1 ∧ (p1 g e hm c).2.length ≤ hm.2.length + 1 := by
  unfold p1 Bf.push1
  by_cases h : J2.dead (step g e.st c) = false ∧ step g e.st c ∉ hm.2
  · rw [if_pos h]
    exact ⟨Nat.le_of_eq (Hp.push_perm hm.1 _).length_eq, Nat.le_of_eq (List.length_append ..)⟩
  · rw [if_neg h]; exact ⟨Nat.le_succ _, Nat.le_succ _⟩
noncomputable def wTest : MB := bCmp .ne (eVar 1) (eList false [])
noncomputable def wEnd : MB := bCmp .eq (eVar 5) (eLit (.str []))
noncomputable def wBody : List MS := [
    sAsgT [3, 4, 5] (eCall (eLit (.fn 1)) [eVar 1]),
    sIte wEnd [sRet (eVar 4)] [],
    sFor [6] (iVal (eLit (.str [48, 49]))) goBody]
noncomputable def flOf (r : Option E) : Fl := match r with
  | none => .next
  | some e => .ret (.str (tW e.word))
theorem subl_lt {S : List Nat} : ∀ {l : List Nat}, S ∈ subl l → ∀ s ∈ S, s ∈ l
  | [], h, s, hs => by rw [List.mem_singleton.mp h] at hs; cases hs
  | x :: l, h, s, hs => by
    obtain ⟨t, ht, h⟩ := List.mem_flatMap.mp h
    rcases List.mem_cons.mp h with rfl | h
    · exact List.mem_cons_of_mem _ (subl_lt ht s hs)
    · rw [List.mem_singleton.mp h] at hs
      rcases List.mem_cons.mp hs with rfl | hs
      · exact List.mem_cons_self
      · exact List.mem_cons_of_mem _ (subl_lt ht s hs)
theorem while_run (O : J2.Ok g) : ∀ (f : Nat) {F : Nat} {xs : List E} {ms ps : List (List Nat)} {r : Option E} {v3 v4 v5 v6 v7 v8 v9 : Option AV}, f ≤ F → Bf.Inv J2.lt (step g) goal dead cs2 R4 (subl R4) xs ms ps → Bf.go J2.lt (step g) goal dead cs2 f xs ms = some r → xs.length ≤ ms.length → (∀ e ∈ xs, e.size + f ≤ 1000) →
    ∃ fr' cs', whileGo (stepW (callAt prog 10) 0 wTest wBody) F (frW g v3 v4 v5 v6 v7 v8 v9) (cells2 xs ms) = some ⟨flOf r, fr', cs'⟩ := by
  intro f
  induction f with
  | zero => intro F xs ms ps r v3 v4 v5 v6 v7 v8 v9 _ _ h; cases h
  | succ f ih =>
    intro F xs ms ps r v3 v4 v5 v6 v7 v8 v9 hF I h h1 h3
    obtain ⟨F, rfl⟩ := Nat.exists_eq_succ_of_ne_zero (Nat.ne_of_gt (Nat.lt_of_lt_of_le (Nat.succ_pos f) hF))
    have hms : ms.length ≤ 16 := Bf.nodup_le I.nd I.sub
    cases xs with
    | nil =>
      obtain rfl : none = r := sJ h
      exact ⟨_, _, wh_brk (st_f (b_cmp rfl rfl (ne_cell (xs := []) rfl)))⟩
    | cons e r' =>
      have hxl := Nat.le_trans h1 hms
      have hpop := pop_run (P := prog) (k := 7) encE_lt rfl rfl rfl (show (cells2 (e :: r') ms)[0]? = some (.list ((e :: r').map encE)) from rfl) (by rw [List.length_cons] at hxl; omega)
      have hpop : (callAt prog 10).cf 1 [.ref 0] none (cells2 (e :: r') ms) = some (.tup [.int (e.size : Int), .str (tW e.word), .str (tT e.st)], cells2 (Hp.rest J2.lt (e :: r')) ms) := hpop
      have hc : wTest (callAt prog 10) 0 (frW g v3 v4 v5 v6 v7 v8 v9) (cells2 (e :: r') ms) = some (true, cells2 (e :: r') ms) := b_cmp rfl rfl (ne_cell (xs := (e :: r').map encE) rfl)
      have hcall : eCall (eLit (.fn 1)) [eVar 1] (callAt prog 10) 0 (frW g v3 v4 v5 v6 v7 v8 v9) (cells2 (e :: r') ms) = some (.tup [.int (e.size : Int), .str (tW e.word), .str (tT e.st)], cells2 (Hp.rest J2.lt (e :: r')) ms) := e_call rfl rfl hpop
      have s1 : sAsgT [3, 4, 5] (eCall (eLit (.fn 1)) [eVar 1]) (callAt prog 10) 0 (frW g v3 v4 v5 v6 v7 v8 v9) (cells2 (e :: r') ms) = some ⟨.next, frW g (some (.int (e.size : Int))) (some (.str (tW e.word))) (some (.str (tT e.st))) v6 v7 v8 v9, cells2 (Hp.rest J2.lt (e :: r')) ms⟩ :=
        asg_t (is := [3, 4, 5]) (xs := [.int (e.size : Int), .str (tW e.word), .str (tT e.st)]) hcall rfl
      have ht : wEnd (callAt prog 10) 0 (frW g (some (.int (e.size : Int))) (some (.str (tW e.word))) (some (.str (tT e.st))) v6 v7 v8 v9) (cells2 (Hp.rest J2.lt (e :: r')) ms) = some (goal e.st, cells2 (Hp.rest J2.lt (e :: r')) ms) := b_cmp rfl rfl (by
        show some (tT e.st == []) = _
        unfold goal
        cases e.st <;> rfl)
      have h : (if goal e.st = true then some (some e) else Bf.go J2.lt (step g) goal dead cs2 f (p1 g e (p1 g e (Hp.rest J2.lt (e :: r'), ms) 0) 1).1 (p1 g e (p1 g e (Hp.rest J2.lt (e :: r'), ms) 0) 1).2) = some r := h
      cases hg : goal e.st with
      | true =>
        rw [hg] at ht
        rw [hg, if_pos rfl] at h
        obtain rfl := sJ h
        exact ⟨_, _, bindE (st_t hc (ss_next s1 (ss_ret (s_if ht (ss_ret (s_ret rfl)))))) rfl⟩
      | false =>
        rw [hg] at ht
        rw [hg, if_neg Bool.false_ne_true] at h
        have hrl := (Hp.rest_spec lt_to I.heap).2.1.length_eq
        rw [List.length_cons] at hrl
        have hes := h3 e List.mem_cons_self
        have hent := I.ent e List.mem_cons_self
        have hst := I.sub _ hent.met
        have hne : e.st ≠ [] := fun z => by rw [z] at hg; cases hg
        have hS : ∀ s ∈ e.st, s < 4 := fun s hs => mem_R4.mp (subl_lt hst s hs)
        have hwl : e.word.length ≤ 1000 := by rw [hent.len]; exact Nat.le_trans (Nat.le_add_right _ _) hes
        obtain ⟨I', hl, hsz⟩ := Bf.turn sys I hg
        obtain ⟨l1, l2⟩ := p1_len (g := g) e (Hp.rest J2.lt (e :: r'), ms) 0
        obtain ⟨a7, a8, a9, t0⟩ := go_turn (g := g) (e := e) (hm := (Hp.rest J2.lt (e :: r'), ms)) (c := 0) (v6 := v6) (v7 := v7) (v8 := v8) (v9 := v9) O (by decide) hst hne hS (by show (Hp.rest J2.lt (e :: r')).length < 2900; omega) (by show ms.length < 2900; omega) hwl
        obtain ⟨b7, b8, b9, t1⟩ := go_turn (g := g) (e := e) (hm := p1 g e (Hp.rest J2.lt (e :: r'), ms) 0) (c := 1) (v6 := some (.str [48 + 0])) (v7 := a7) (v8 := a8) (v9 := a9) O (by decide) hst hne hS (Nat.lt_of_le_of_lt l1 (by show (Hp.rest J2.lt (e :: r')).length + 1 < 2900; omega)) (Nat.lt_of_le_of_lt l2 (by show ms.length + 1 < 2900; omega)) hwl
        have e2 := forItems_cons t0 (forItems_cons (r := []) (q := some ⟨.next, _, _⟩) t1 rfl)
        have I' : Bf.Inv J2.lt (step g) goal dead cs2 R4 (subl R4) (p1 g e (p1 g e (Hp.rest J2.lt (e :: r'), ms) 0) 1).1 (p1 g e (p1 g e (Hp.rest J2.lt (e :: r'), ms) 0) 1).2 (e.st :: ps) := I'
        have hl : (p1 g e (p1 g e (Hp.rest J2.lt (e :: r'), ms) 0) 1).1.length + ms.length + 1 = (e :: r').length + (p1 g e (p1 g e (Hp.rest J2.lt (e :: r'), ms) 0) 1).2.length := hl
        have hsz : ∀ x ∈ (p1 g e (p1 g e (Hp.rest J2.lt (e :: r'), ms) 0) 1).1, x.size ≤ e.size + 1 := hsz
        generalize p1 g e (p1 g e (Hp.rest J2.lt (e :: r'), ms) 0) 1 = hm at h e2 I' hl hsz
        obtain ⟨fr', cs', e3⟩ := ih (F := F) (v3 := some (.int (e.size : Int))) (v4 := some (.str (tW e.word))) (v5 := some (.str (tT e.st))) (v6 := some (.str [48 + 1])) (v7 := b7) (v8 := b8) (v9 := b9) (Nat.le_of_succ_le_succ hF) I' h (by omega) (fun x hx => by
          have := hsz x hx
          omega)
        exact ⟨fr', cs', wh_next (st_t hc (ss_next s1 (ss_next (s_if ht rfl) (ss_next (s_for (i' := .items [.str [48 + 0], .str [48 + 1]]) rfl e2) rfl)))) e3⟩
noncomputable def foundTx (r : Option E) : List Nat := (r.map (·.word)).getD []
theorem word_run (O : J2.Ok g) {r : Option E} (h : Bf.go J2.lt (step g) goal dead cs2 100 [⟨0, [], R4⟩] [R4] = some r) (cs : Cells) : (callAt prog 11).cf 17 [itemsV g] none cs = some (.str (tW (foundTx r)), cs) := by
  obtain ⟨fr', cs', e⟩ := while_run (g := g) O 100 (F := loopFuel) (xs := [⟨0, [], R4⟩]) (ms := [R4]) (v3 := none) (v4 := none) (v5 := none) (v6 := none) (v7 := none) (v8 := none) (v9 := none) (by decide) (Bf.inv0 (mem_subl (p := fun _ => true) R4)) h (Nat.le_refl _) (fun e he => by rw [List.mem_singleton.mp he]; show 0 + 100 ≤ 1000; decide)
  have hw : sWhile wTest wBody (callAt prog 10) 0 (frW g none none none none none none none) (cells2 [⟨0, [], R4⟩] [R4]) = some ⟨flOf r, fr', cs'⟩ := e
  have s1 : sAsgT [1, 2] (eTup [eList true [eTup [eLit (.int 0), eLit (.str []), eLit (.str [97, 98, 99, 100])]], eList true [eLit (.str [97, 98, 99, 100])]]) (callAt prog 10) 0 [some (itemsV g), none, none, none, none, none, none, none, none, none] [] = some ⟨.next, frW g none none none none none none none, cells2 [⟨0, [], R4⟩] [R4]⟩ := rfl
  have hb : belows 0 [itemsV g] = true := rfl
  cases r with
  | none => exact cf_closed (P := prog) (k := 10) (F := f__law_word) rfl hb (run_of rfl (ss_next s1 (ss_next hw (ss_ret (s_ret rfl)))) rfl) rfl
  | some e => exact cf_closed (P := prog) (k := 10) (F := f__law_word) rfl hb (run_of rfl (ss_next s1 (ss_ret hw)) rfl) rfl
end
end Ev.L2
namespace Ev.L2
open Ev.Lib J2
section
variable {W : Wd} {n d : Nat} {cs : Cells} {g : Roads} {v0 v1 v2 v3 v4 v5 v6 : Option AV}
theorem heads_at (O : J2.Ok g) {x : Nat} (hx : x < 4) : (heads g).filter (fun p => decide (p.1.map lowC = [97 + x])) = hdOf g x := by
  have e : ∀ k, k < 4 → (hdOf g k).filter (fun p => decide (p.1.map lowC = [97 + x])) = if k = x then hdOf g k else [] := fun k hk => by
    have t : decide (([97 + k] : Tx) = [97 + x]) = decide (k = x) := decide_eq_decide.mpr ⟨fun e => Nat.add_left_cancel (List.cons.inj e).1, fun e => by rw [e]⟩
    unfold hdOf
    rw [List.filter_cons, List.filter_cons, List.filter_nil]
    dsimp only
    rw [(nm_facts k hk _ (O.col k 0)).2.1, (nm_facts k hk _ (O.col k 1)).2.1, t]
    by_cases h : k = x
    · rw [decide_eq_true h, if_pos rfl, if_pos rfl, if_pos h]
    · rw [decide_eq_false h, if_neg Bool.false_ne_true, if_neg Bool.false_ne_true, if_neg h]
  unfold heads
  rw [List.filter_flatMap, List.flatMap_cons, List.flatMap_cons, List.flatMap_cons, List.flatMap_cons, List.flatMap_nil, e 0 (by decide), e 1 (by decide), e 2 (by decide), e 3 (by decide)]
  rcases four_of hx with rfl | rfl | rfl | rfl
  · exact rfl
  · exact rfl
  · exact rfl
  · exact rfl
theorem heads_ok (O : J2.Ok g) : ∀ p ∈ heads g, p.1.all okSign = true := fun p hp => by
  obtain ⟨k, hk, h⟩ := List.mem_flatMap.mp hp
  rcases List.mem_cons.mp h with rfl | h
  · exact (nm_facts k (mem_R4.mp hk) _ (O.col k 0)).1
  · rw [List.mem_singleton.mp h]; exact (nm_facts k (mem_R4.mp hk) _ (O.col k 1)).1
theorem all_at (O : J2.Ok g) {x : Nat} (hx : x < 4) : (callAt prog (d + 2)).cf 11 [.ref 0, .str [97 + x]] none (clT (heads g)) = some (.lst (lT [(g x 0).2, (g x 1).2]), clT (heads g)) := by
  have h := all_run (P := prog) (k := d) (i := 0) (d := 1) (l := 2) (cs := clT (heads g)) rfl rfl clT_tab (heads_ok O) (show 8 ≤ 1000 by decide) (nm := [97 + x]) (nm_facts x hx 0 (by decide)).2.2.1
  rw [(nm_facts x hx 0 (by decide)).2.2.2.1, heads_at O hx] at h
  exact h
noncomputable abbrev frR (v1 v2 : Option AV) : Fr := [some (.ref 0), v1, v2]
noncomputable def reachV (R : Nat → List Nat) : AV := .lst (R4.map fun x => .lst (lT (R x)))
noncomputable def near1 (g : Roads) (x : Nat) : List Nat := [x, (g x 0).2, (g x 1).2]
noncomputable def eNear : ME := eComp false (eBin false .add (eList false [eVar 3]) (eMeth (eVar 0) .other (some 11) [eVar 3])) [⟨1, [3], iVal (eLit (.str [97, 98, 99, 100])), []⟩]
theorem near_run (O : J2.Ok g) : eNear (callAt prog (d + 2)) n (frR v1 v2) (clT (heads g)) = some (reachV (near1 g), clT (heads g)) := by
  refine comp_pure (xs := lT R4) (fx := fun x => [some (.ref 0), v1, v2, some x]) (b := fun _ => true) (g := fun x => .lst (lT (near1 g ((x.str?.getD []).getD 0 0 - 97)))) rfl (fun x _ => rfl) (fun x _ => rfl) (fun x hx _ => ?_) (by decide) ?_
  · obtain ⟨v, hv, rfl⟩ := List.mem_map.mp hx
    show _ = some (AV.lst (lT (near1 g (97 + v - 97))), _)
    rw [Nat.add_sub_cancel_left]
    exact e_bin rfl (e_own rfl (es_cons rfl rfl) rfl (all_at O (mem_R4.mp hv))) rfl
  · rw [filter_all, List.map_map]
    have e : R4.map ((fun x : AV => AV.lst (lT (near1 g ((x.str?.getD []).getD 0 0 - 97)))) ∘ fun v => AV.str [97 + v]) = R4.map fun x => .lst (lT (near1 g x)) := List.map_congr_left fun v _ => by
      show AV.lst (lT (near1 g (97 + v - 97))) = _
      rw [Nat.add_sub_cancel_left]
    rw [e]; rfl
noncomputable def via (R : Nat → List Nat) (l : List Nat) : List Nat := R4.filter fun y => l.any fun z => decide (y ∈ R z)
noncomputable def unL (x : AV) : List Nat := (x.lst?.getD []).map fun s => (s.str?.getD []).getD 0 0 - 97
theorem unL_lT (l : List Nat) : unL (.lst (lT l)) = l := by
  show (lT l).map (fun s => (s.str?.getD []).getD 0 0 - 97) = l
  unfold lT
  rw [List.map_map]
  exact List.map_id'' (fun x => Nat.add_sub_cancel_left ..) l
noncomputable def bVia : MB := bCmp .ne (eComp false (eVar 5) [⟨1, [5], iVal (eVar 3), [bCmp .in_ (eVar 4) (eIdx (eVar 1) (eMeth (eLit (.str [97, 98, 99, 100])) .index none [eVar 5]))]⟩]) (eList false [])
noncomputable def eVia : ME := eComp false (eVar 4) [⟨1, [4], iVal (eLit (.str [97, 98, 99, 100])), [bVia]⟩]
noncomputable def s1 : MS := sAssign (tVar 1) (eComp false eVia [⟨1, [3], iVal (eVar 1), []⟩])
theorem idx_four : ∀ a, a < 4 → idxC (97 + a) [97, 98, 99, 100] 0 = some a := by decide
theorem bVia_run {R : Nat → List Nat} {l : List Nat} (hl : ∀ z ∈ l, z < 4) (h10 : l.length ≤ 1000) {y : Nat} : bVia W n [some (.ref 0), some (reachV R), v2, some (.lst (lT l)), some (.str [97 + y])] cs = some (l.any fun z => decide (y ∈ R z), cs) := by
  have hc : eComp false (eVar 5) [⟨1, [5], iVal (eVar 3), [bCmp .in_ (eVar 4) (eIdx (eVar 1) (eMeth (eLit (.str [97, 98, 99, 100])) .index none [eVar 5]))]⟩] W n [some (.ref 0), some (reachV R), v2, some (.lst (lT l)), some (.str [97 + y])] cs = some (.lst (lT (l.filter fun z => decide (y ∈ R z))), cs) := by
    refine comp_pure (xs := lT l) (fx := fun x => [some (.ref 0), some (reachV R), v2, some (.lst (lT l)), some (.str [97 + y]), some x]) (b := fun x => decide (y ∈ R ((x.str?.getD []).getD 0 0 - 97))) (g := fun x => x) rfl (fun x _ => rfl) (fun x hx => ?_) (fun x _ _ => rfl) ?_ ?_
    · obtain ⟨z, hz, rfl⟩ := List.mem_map.mp hx
      have hz4 := hl z hz
      have hm : mcall n (.str [97, 98, 99, 100]) .index [.str [97 + z]] cs = some (.int (z : Int), cs) := by
        show ((idxC (97 + z) [97, 98, 99, 100] 0).map fun (k : Nat) => (AV.int (k : Int), cs)) = _
        rw [idx_four z hz4]; rfl
      have hi : idxv cs (reachV R) (.int (z : Int)) = some (.lst (lT (R z))) := idx_lst (by rw [List.getElem?_map, show R4[z]? = some z from List.getElem?_range (n := 4) hz4]; rfl)
      refine ao_one (b_cmp rfl (e_idx rfl (e_meth rfl (es_cons rfl rfl) rfl rfl hm) hi) ?_)
      show membv cs (.str [97 + y]) (lT (R z)) = some (decide (y ∈ R (97 + z - 97)))
      rw [memb_b, Nat.add_sub_cancel_left]
    · rw [List.length_map]; exact Nat.le_trans h10 (by decide)
    · rw [List.map_id', List.filter_map]
      have e : l.filter ((fun x : AV => decide (y ∈ R ((x.str?.getD []).getD 0 0 - 97))) ∘ fun v => AV.str [97 + v]) = l.filter fun z => decide (y ∈ R z) := List.filter_congr fun z _ => by
        show decide (y ∈ R (97 + z - 97)) = _
        rw [Nat.add_sub_cancel_left]
      rw [e]
      exact mk_lst (by rw [List.length_map]; exact Nat.le_trans (List.length_filter_le _ _) h10)
  refine b_cmp hc rfl (ne_nil.trans (congrArg some (Bool.eq_iff_iff.mpr ?_)))
  rw [List.any_eq_true, Bool.not_eq_true', ← Bool.not_eq_true, List.isEmpty_iff, List.map_eq_nil_iff, List.filter_eq_nil_iff]
  constructor
  · intro h
    exact Classical.byContradiction fun z => h fun x hx hp => z ⟨x, hx, hp⟩
  · rintro ⟨x, hx, hp⟩ h
    exact h x hx hp
theorem eVia_run {R : Nat → List Nat} {l : List Nat} (hl : ∀ z ∈ l, z < 4) (h10 : l.length ≤ 1000) : eVia W n [some (.ref 0), some (reachV R), v2, some (.lst (lT l))] cs = some (.lst (lT (via R l)), cs) := by
  refine comp_pure (xs := lT R4) (fx := fun x => [some (.ref 0), some (reachV R), v2, some (.lst (lT l)), some x]) (b := fun x => l.any fun z => decide (((x.str?.getD []).getD 0 0 - 97) ∈ R z)) (g := fun x => x) rfl (fun x _ => rfl) (fun x hx => ?_) (fun x _ _ => rfl) (by decide) ?_
  · obtain ⟨y, hy, rfl⟩ := List.mem_map.mp hx
    refine ao_one ?_
    show _ = some (l.any fun z => decide ((97 + y - 97) ∈ R z), cs)
    rw [Nat.add_sub_cancel_left]
    exact bVia_run hl h10
  · rw [List.map_id', List.filter_map]
    have e : R4.filter ((fun x : AV => l.any fun z => decide (((x.str?.getD []).getD 0 0 - 97) ∈ R z)) ∘ fun v => AV.str [97 + v]) = via R l := List.filter_congr fun y _ => by
      show (l.any fun z => decide ((97 + y - 97) ∈ R z)) = _
      rw [Nat.add_sub_cancel_left]
    rw [e]
    exact mk_lst (by rw [List.length_map]; exact Nat.le_trans (List.length_filter_le _ _) (show 4 ≤ 1000 by decide))
theorem s1_run {R : Nat → List Nat} (hR : ∀ x, x < 4 → (∀ z ∈ R x, z < 4) ∧ (R x).length ≤ 1000) : s1 W n (frR (some (reachV R)) v2) cs = some ⟨.next, frR (some (reachV fun x => via R (R x))) v2, cs⟩ := by
  refine as_var (i := 1) (v := reachV fun x => via R (R x)) ?_ (lt_ok rfl)
  refine comp_pure (xs := R4.map fun x => .lst (lT (R x))) (fx := fun x => [some (.ref 0), some (reachV R), v2, some x]) (b := fun _ => true) (g := fun x => .lst (lT (via R (unL x)))) rfl (fun x _ => rfl) (fun x _ => rfl) (fun x hx _ => ?_) (show 4 ≤ lim by decide) ?_
  · obtain ⟨y, hy, rfl⟩ := List.mem_map.mp hx
    obtain ⟨h1, h2⟩ := hR y (mem_R4.mp hy)
    rw [unL_lT]
    exact eVia_run h1 h2
  · rw [filter_all, List.map_map]
    have e : R4.map ((fun x : AV => AV.lst (lT (via R (unL x)))) ∘ fun x => AV.lst (lT (R x))) = R4.map fun x => .lst (lT (via R (R x))) := List.map_congr_left fun y _ => by
      show AV.lst (lT (via R (unL (.lst (lT (R y)))))) = _
      rw [unL_lT]
    rw [e]; rfl
theorem via_lt {R : Nat → List Nat} {l : List Nat} : (∀ z ∈ via R l, z < 4) ∧ (via R l).length ≤ 1000 := ⟨fun z hz => mem_R4.mp (List.mem_filter.mp hz).1, Nat.le_trans (List.length_filter_le _ _) (show 4 ≤ 1000 by decide)⟩
noncomputable def reach2 (g : Roads) (x : Nat) : List Nat := via (near1 g) (near1 g x)
noncomputable def reach4 (g : Roads) (x : Nat) : List Nat := via (reach2 g) (reach2 g x)
theorem mem_via {R : Nat → List Nat} {l : List Nat} {y : Nat} : y ∈ via R l ↔ y < 4 ∧ ∃ z ∈ l, y ∈ R z := by
  unfold via
  rw [List.mem_filter, mem_R4, List.any_eq_true]
  exact and_congr_right fun _ => ⟨fun ⟨z, h1, h2⟩ => ⟨z, h1, of_decide_eq_true h2⟩, fun ⟨z, h1, h2⟩ => ⟨z, h1, decide_eq_true h2⟩⟩
theorem mem_near1 (O : J2.Ok g) {x y : Nat} (hx : x < 4) : y ∈ near1 g x ↔ rc g x 1 y = true := by
  rw [rc_succ O hx]
  unfold near1
  rw [List.mem_cons, List.mem_cons, List.mem_singleton]
  constructor
  · rintro (h | h | h)
    · exact .inl (beq_iff_eq.mpr h.symm)
    · exact .inr ⟨x, hx, beq_self_eq_true x, 0, .inl rfl, h.symm⟩
    · exact .inr ⟨x, hx, beq_self_eq_true x, 1, .inr rfl, h.symm⟩
  · rintro (h | ⟨z, hz, h, i, hi, e⟩)
    · exact .inl (beq_iff_eq.mp h).symm
    · obtain rfl : x = z := beq_iff_eq.mp h
      rcases hi with rfl | rfl
      · exact .inr (.inl e.symm)
      · exact .inr (.inr e.symm)
theorem mem_reach4 (O : J2.Ok g) {x y : Nat} (hx : x < 4) (hy : y < 4) : y ∈ reach4 g x ↔ rc g x 4 y = true := by
  have two : ∀ {x y : Nat}, x < 4 → y < 4 → (y ∈ reach2 g x ↔ rc g x 2 y = true) := fun {x y} hx hy => by
    unfold reach2
    rw [mem_via, rc_add (a := 1) (b := 1) O hx]
    constructor
    · rintro ⟨_, z, h1, h2⟩
      have hz : z < 4 := by
        rcases List.mem_cons.mp h1 with rfl | h1
        · exact hx
        rcases List.mem_cons.mp h1 with rfl | h1
        · exact O.en x 0
        · rw [List.mem_singleton.mp h1]; exact O.en x 1
      exact ⟨z, hz, (mem_near1 O hx).mp h1, (mem_near1 O hz).mp h2⟩
    · rintro ⟨z, hz, h1, h2⟩
      exact ⟨hy, z, (mem_near1 O hx).mpr h1, (mem_near1 O hz).mpr h2⟩
  unfold reach4
  rw [mem_via, rc_add (a := 2) (b := 2) O hx]
  constructor
  · rintro ⟨_, z, h1, h2⟩
    have hz := via_lt.1 z h1
    exact ⟨z, hz, (two hx hz).mp h1, (two hz hy).mp h2⟩
  · rintro ⟨z, hz, h1, h2⟩
    exact ⟨hy, z, (two hx hz).mpr h1, (two hz hy).mpr h2⟩
theorem reach_run (O : J2.Ok g) : (callAt prog (d + 3)).cf 18 [.ref 0] none (clT (heads g)) = some (reachV (reach4 g), clT (heads g)) := by
  have e1 := as_var (i := 1) (near_run (d := d) (n := 3) (g := g) (v1 := none) (v2 := none) O) (lt_ok rfl)
  have hR : ∀ x, x < 4 → (∀ z ∈ near1 g x, z < 4) ∧ (near1 g x).length ≤ 1000 := fun x hx => ⟨fun z hz => by
    rcases List.mem_cons.mp hz with rfl | hz
    · exact hx
    rcases List.mem_cons.mp hz with rfl | hz
    · exact O.en x 0
    · rw [List.mem_singleton.mp hz]; exact O.en x 1, show 3 ≤ 1000 by decide⟩
  have t1 : stepF (callAt prog (d + 2)) 3 [2] [s1] (.int 0) (frR (some (reachV (near1 g))) none) (clT (heads g)) = some ⟨.next, frR (some (reachV (reach2 g))) (some (.int 0)), clT (heads g)⟩ := bindE rfl (ss_next (s1_run hR) rfl)
  have t2 : stepF (callAt prog (d + 2)) 3 [2] [s1] (.int 1) (frR (some (reachV (reach2 g))) (some (.int 0))) (clT (heads g)) = some ⟨.next, frR (some (reachV (reach4 g))) (some (.int 1)), clT (heads g)⟩ := bindE rfl (ss_next (s1_run fun x _ => via_lt) rfl)
  have e2 : sFor [2] (iRange [eLit (.int 2)]) [s1] (callAt prog (d + 2)) 3 (frR (some (reachV (near1 g))) none) (clT (heads g)) = some ⟨.next, frR (some (reachV (reach4 g))) (some (.int 1)), clT (heads g)⟩ := s_for (i' := .items [.int 0, .int 1]) rfl (forItems_cons t1 (forItems_cons (r := []) (q := some ⟨.next, _, _⟩) t2 rfl))
  have hb : below 0 (reachV (reach4 g)) = true := by
    show belows 0 (R4.map fun x => AV.lst (lT (reach4 g x))) = true
    refine bel_map (fun x => ?_) R4
    show belows 0 (lT (reach4 g x)) = true
    exact bel_map (fun _ => rfl) (reach4 g x)
  exact call_run (P := prog) (k := d + 2) (F := f__law_reach) rfl below_ref (run_of rfl (ss_next e1 (ss_next e2 (ss_ret (s_ret rfl)))) rfl) hb rfl
end
end Ev.L2
namespace Ev.L2
open Ev.Lib J2
theorem comp2_pure {W : Wd} {n k : Nat} {t0 t1 : List Nat} {fr : Fr} {cs : Cells} {ifs : List MB} {e : ME} {m : Bool} {it0 it1 : MI} {f0 : AV → Fr} {ys : AV → List AV} {f1 : AV → AV → Fr} {b : AV → AV → Bool} {g : AV → AV → AV} {xs : List AV} {z : Option (AV × Cells)} (hI : it0.run W n fr cs = some (.items xs, cs)) (h0 : ∀ x ∈ xs, bindN t0 x (fr ++ List.replicate k none) = some (f0 x)) (hJ : ∀ x ∈ xs, it1.run W n (f0 x) cs = some (.items (ys x), cs))
    (h1 : ∀ x ∈ xs, ∀ y ∈ ys x, bindN t1 y (f0 x ++ List.replicate 0 none) = some (f1 x y)) (h2 : ∀ x ∈ xs, ∀ y ∈ ys x, evAO W n true ifs (f1 x y) cs = some (b x y, cs)) (h3 : ∀ x ∈ xs, ∀ y ∈ ys x, b x y = true → e W n (f1 x y) cs = some (g x y, cs))
    (hlen : ∀ acc : List AV, ∀ x ∈ xs, acc.length + (ys x).length ≤ lim ∨ 1000 < acc.length) (hb : ∀ r : List AV, (∀ x ∈ r, x ∈ xs) → r.length ≤ xs.length → (r.flatMap fun x => ((ys x).filter (b x)).map (g x)).length ≤ 1000)
    (hm : mk m (xs.flatMap fun x => ((ys x).filter (b x)).map (g x)) cs = z) : eComp m e [⟨k, t0, it0, []⟩, ⟨0, t1, it1, ifs⟩] W n fr cs = z := by
  have inner : ∀ (acc : List AV) x, x ∈ xs → acc.length + (ys x).length ≤ lim → evC W n e [⟨0, t1, it1, ifs⟩] (f0 x) cs acc = some (acc ++ ((ys x).filter (b x)).map (g x), cs) := fun acc x hx hle =>
    bindE (hJ x hx) (goItems_pure (ys x) acc (h1 x hx) (h2 x hx) (h3 x hx) hle)
  have outer : ∀ (r : List AV) (acc : List AV) (p : List AV), xs = p ++ r → acc = p.flatMap (fun x => ((ys x).filter (b x)).map (g x)) →
      goItems (fun (x : AV) (s : List AV × Cells) => (bindN t0 x (fr ++ List.replicate k none)).bind fun fr' => (evAO W n true [] fr' s.2).bind fun q => if q.1 then evC W n e [⟨0, t1, it1, ifs⟩] fr' q.2 s.1 else some (s.1, q.2)) r (acc, cs) = some (acc ++ r.flatMap (fun x => ((ys x).filter (b x)).map (g x)), cs) := by
    intro r
    induction r with
    | nil => intro acc p _ _; rw [List.flatMap_nil, List.append_nil]; rfl
    | cons x r ih =>
      intro acc p hp ha
      have hx : x ∈ xs := by rw [hp]; exact List.mem_append_right _ List.mem_cons_self
      have hle : acc.length + (ys x).length ≤ lim := by
        rcases hlen acc x hx with h | h
        · exact h
        · have := hb p (fun y hy => by rw [hp]; exact List.mem_append_left _ hy) (by rw [hp, List.length_append]; exact Nat.le_add_right _ _)
          rw [← ha] at this
          omega
      refine bindE (bindE (h0 x hx) (bindE (x := (true, cs)) rfl (inner acc x hx hle))) ?_
      refine (ih _ (p ++ [x]) (by rw [hp, List.append_assoc]; rfl) (by rw [List.flatMap_append, ha, List.flatMap_cons, List.flatMap_nil, List.append_nil])).trans ?_
      rw [List.flatMap_cons, List.append_assoc]
  exact bindE (x := (xs.flatMap fun x => ((ys x).filter (b x)).map (g x), cs)) (bindE hI (outer xs [] [] rfl rfl)) hm
section
variable {W : Wd} {n d : Nat} {cs : Cells} {g : Roads} {v0 v1 v2 v3 v4 v5 v6 : Option AV}
theorem int_beq' (a b : Nat) : ((a : Int) == (b : Int)) = decide (a = b) := Bool.eq_iff_iff.mpr (by rw [beq_iff_eq, decide_eq_true_iff]; exact Int.ofNat_inj)
theorem memb_p {p : Nat × Nat} (l : List (Nat × Nat)) : membv cs (encP p) (l.map encP) = some (decide (p ∈ l)) := by
  induction l with
  | nil => rfl
  | cons x l ih =>
    show ((some (((x.1 : Int) == (p.1 : Int)) && (((x.2 : Int) == (p.2 : Int)) && true))).bind fun t => (membv cs (encP p) (l.map encP)).map (t || ·)) = _
    rw [ih]
    show some ((((x.1 : Int) == (p.1 : Int)) && (((x.2 : Int) == (p.2 : Int)) && true)) || decide (p ∈ l)) = _
    rw [Bool.and_true, int_beq', int_beq']
    refine congrArg some (Bool.eq_iff_iff.mpr ?_)
    rw [Bool.or_eq_true, Bool.and_eq_true, decide_eq_true_iff, decide_eq_true_iff, decide_eq_true_iff, decide_eq_true_iff, List.mem_cons]
    exact or_congr_left ⟨fun h => Prod.ext h.1.symm h.2.symm, fun h => by rw [h]; exact ⟨rfl, rfl⟩⟩
noncomputable def like (g : Roads) (M : List (Nat × Nat)) (k j a b : Nat) : Bool := decide ((g k a).1 = (g j b).1) && decide (((g k a).2, (g j b).2) ∈ M)
noncomputable def nx (g : Roads) (M : List (Nat × Nat)) (k j : Nat) : Bool := (like g M k j 0 0 || like g M k j 0 1) || (like g M k j 1 0 || like g M k j 1 1)
noncomputable def isNew (g : Roads) (M : List (Nat × Nat)) (k j : Nat) : Bool := !(decide ((k, j) ∈ M)) && nx g M k j
noncomputable def newP (g : Roads) (M : List (Nat × Nat)) : List (Nat × Nat) := R4.flatMap fun k => (R4.filter (isNew g M k)).map fun j => (k, j)
noncomputable abbrev frM (g : Roads) (v2 : Option AV) : Fr := [some (roadsV g), some (.ref 0), v2]
noncomputable def cM (M : List (Nat × Nat)) : Cells := [.list (M.map encP)]
theorem roads_at {k : Nat} (hk : k < 4) : idxv cs (roadsV g) (.int (k : Int)) = some (encG g k) := idx_lst (by rw [List.getElem?_map, show R4[k]? = some k from List.getElem?_range (n := 4) hk]; rfl)
noncomputable def bLike : MB := bAO true [bCmp .eq (eIdx (eVar 5) (eLit (.int 0))) (eIdx (eVar 6) (eLit (.int 0))), bCmp .in_ (eTup [eIdx (eVar 5) (eLit (.int 1)), eIdx (eVar 6) (eLit (.int 1))]) (eVar 1)]
noncomputable def bNx : MB := bCmp .ne (eComp false (eVar 5) [⟨2, [5], iVal (eIdx (eVar 0) (eVar 3)), []⟩, ⟨0, [6], iVal (eIdx (eVar 0) (eVar 4)), [bLike]⟩]) (eList false [])
noncomputable def bNew : MB := bAO true [bCmp .notin (eTup [eVar 3, eVar 4]) (eVar 1), bNx]
noncomputable def eNew' : ME := eComp false (eTup [eVar 3, eVar 4]) [⟨2, [3], iRange [eLit (.int 4)], []⟩, ⟨0, [4], iRange [eLit (.int 4)], [bNew]⟩]
theorem bLike_run {M : List (Nat × Nat)} {p q : Nat × Nat} : bLike W n [some (roadsV g), some (.ref 0), v2, v3, v4, some (encP p), some (encP q)] (cM M) = some (decide (p.1 = q.1) && decide ((p.2, q.2) ∈ M), cM M) := by
  have h1 : bCmp .eq (eIdx (eVar 5) (eLit (.int 0))) (eIdx (eVar 6) (eLit (.int 0))) W n [some (roadsV g), some (.ref 0), v2, v3, v4, some (encP p), some (encP q)] (cM M) = some (decide (p.1 = q.1), cM M) := b_cmp (e_idx rfl rfl rfl) (e_idx rfl rfl rfl) (congrArg some (int_beq' _ _))
  have h2 : bCmp .in_ (eTup [eIdx (eVar 5) (eLit (.int 1)), eIdx (eVar 6) (eLit (.int 1))]) (eVar 1) W n [some (roadsV g), some (.ref 0), v2, v3, v4, some (encP p), some (encP q)] (cM M) = some (decide ((p.2, q.2) ∈ M), cM M) := b_cmp (e_tup2 (e_idx rfl rfl rfl) (e_idx rfl rfl rfl)) rfl (memb_p (p := (p.2, q.2)) M)
  refine b_ao h1 ?_
  cases decide (p.1 = q.1) with
  | false => rfl
  | true => exact ao_one h2
noncomputable def unP (x : AV) : Nat × Nat := ((((x.tup?.getD []).getD 0 .none).int?.getD 0).toNat, (((x.tup?.getD []).getD 1 .none).int?.getD 0).toNat)
theorem bNx_run {M : List (Nat × Nat)} {k j : Nat} (hk : k < 4) (hj : j < 4) : bNx W n [some (roadsV g), some (.ref 0), v2, some (.int (k : Int)), some (.int (j : Int))] (cM M) = some (nx g M k j, cM M) := by
  have hc : eComp false (eVar 5) [⟨2, [5], iVal (eIdx (eVar 0) (eVar 3)), []⟩, ⟨0, [6], iVal (eIdx (eVar 0) (eVar 4)), [bLike]⟩] W n [some (roadsV g), some (.ref 0), v2, some (.int (k : Int)), some (.int (j : Int))] (cM M) = some (.lst ([encP (g k 0), encP (g k 1)].flatMap fun x => ([encP (g j 0), encP (g j 1)].filter fun y => decide ((unP x).1 = (unP y).1) && decide (((unP x).2, (unP y).2) ∈ M)).map fun _ => x), cM M) := by
    have two : ∀ r : List AV, (r.flatMap fun x => ([encP (g j 0), encP (g j 1)].filter fun y => decide ((unP x).1 = (unP y).1) && decide (((unP x).2, (unP y).2) ∈ M)).map fun _ => x).length ≤ 2 * r.length := by
      intro r
      induction r with
      | nil => exact Nat.le_refl _
      | cons x r ih =>
        rw [List.flatMap_cons, List.length_append, List.length_cons, List.length_map]
        have := List.length_filter_le (fun y : AV => decide ((unP x).1 = (unP y).1) && decide (((unP x).2, (unP y).2) ∈ M)) [encP (g j 0), encP (g j 1)]
        have e : [encP (g j 0), encP (g j 1)].length = 2 := rfl
        omega
    refine comp2_pure (xs := [encP (g k 0), encP (g k 1)]) (f0 := fun x => [some (roadsV g), some (.ref 0), v2, some (.int (k : Int)), some (.int (j : Int)), some x, none]) (ys := fun _ => [encP (g j 0), encP (g j 1)]) (f1 := fun x y => [some (roadsV g), some (.ref 0), v2, some (.int (k : Int)), some (.int (j : Int)), some x, some y]) (b := fun x y => decide ((unP x).1 = (unP y).1) && decide (((unP x).2, (unP y).2) ∈ M)) (g := fun x _ => x) (i_val (e_idx rfl rfl (roads_at hk)) rfl) (fun x _ => rfl) (fun x _ => i_val (e_idx rfl rfl (roads_at hj)) rfl) (fun x _ y _ => rfl) (fun x hx y hy => ?_) (fun x _ y _ _ => rfl) (fun acc x _ => ?_) (fun r _ hl => ?_) ?_
    · have hx' : ∃ p, x = encP p := (List.mem_cons.mp hx).elim (fun e => ⟨_, e⟩) fun h => ⟨_, List.mem_singleton.mp h⟩
      have hy' : ∃ p, y = encP p := (List.mem_cons.mp hy).elim (fun e => ⟨_, e⟩) fun h => ⟨_, List.mem_singleton.mp h⟩
      obtain ⟨p, rfl⟩ := hx'
      obtain ⟨q, rfl⟩ := hy'
      exact ao_one bLike_run
    · by_cases h : 1000 < acc.length
      · exact .inr h
      · exact .inl (show acc.length + 2 ≤ 100000 by omega)
    · have h2 : [encP (g k 0), encP (g k 1)].length = 2 := rfl
      exact Nat.le_trans (two r) (by omega)
    · exact mk_lst (Nat.le_trans (two _) (show 2 * 2 ≤ 1000 by decide))
  refine b_cmp hc rfl (ne_nil.trans (congrArg some ?_))
  have e : ∀ a b, (decide ((unP (encP (g k a))).1 = (unP (encP (g j b))).1) && decide (((unP (encP (g k a))).2, (unP (encP (g j b))).2) ∈ M)) = like g M k j a b := fun a b => rfl
  rw [List.flatMap_cons, List.flatMap_cons, List.flatMap_nil, List.append_nil, List.filter_cons, List.filter_cons, List.filter_nil, List.filter_cons, List.filter_cons, List.filter_nil, e, e, e, e]
  unfold nx
  cases like g M k j 0 0 <;> cases like g M k j 0 1 <;> cases like g M k j 1 0 <;> cases like g M k j 1 1 <;> rfl
theorem bNew_run {M : List (Nat × Nat)} {k j : Nat} (hk : k < 4) (hj : j < 4) : bNew W n [some (roadsV g), some (.ref 0), v2, some (.int (k : Int)), some (.int (j : Int))] (cM M) = some (isNew g M k j, cM M) := by
  have h1 : bCmp .notin (eTup [eVar 3, eVar 4]) (eVar 1) W n [some (roadsV g), some (.ref 0), v2, some (.int (k : Int)), some (.int (j : Int))] (cM M) = some (!decide ((k, j) ∈ M), cM M) := b_cmp rfl rfl (by
    show (membv (cM M) (encP (k, j)) (M.map encP)).map (!·) = _
    rw [memb_p]; rfl)
  refine b_ao h1 ?_
  unfold isNew
  cases !decide ((k, j) ∈ M) with
  | false => rfl
  | true => exact ao_one (bNx_run hk hj)
theorem newP_len (M : List (Nat × Nat)) : (newP g M).length ≤ 16 := by
  have h := flat_len (f := fun k => (R4.filter (isNew g M k)).map fun j => (k, j)) (b := 4) R4 fun k _ => by rw [List.length_map]; exact List.length_filter_le _ _
  exact h
theorem eNew_run {M : List (Nat × Nat)} : eNew' W n (frM g v2) (cM M) = some (.lst ((newP g M).map encP), cM M) := by
  have hx : ∀ x ∈ nats R4, ∃ k : Nat, k < 4 ∧ x = .int (k : Int) := fun x h => by
    obtain ⟨k, hk, rfl⟩ := List.mem_map.mp h
    exact ⟨k, mem_R4.mp hk, rfl⟩
  have four : ∀ r : List AV, (r.flatMap fun x => ((nats R4).filter fun y => isNew g M (x.int?.getD 0).toNat (y.int?.getD 0).toNat).map fun y => encP ((x.int?.getD 0).toNat, (y.int?.getD 0).toNat)).length ≤ r.length * 4 := fun r => flat_len r fun x _ => by rw [List.length_map]; exact List.length_filter_le _ (nats R4)
  refine comp2_pure (xs := nats R4) (f0 := fun x => [some (roadsV g), some (.ref 0), v2, some x, none]) (ys := fun _ => nats R4) (f1 := fun x y => [some (roadsV g), some (.ref 0), v2, some x, some y]) (b := fun x y => isNew g M (x.int?.getD 0).toNat (y.int?.getD 0).toNat) (g := fun x y => encP ((x.int?.getD 0).toNat, (y.int?.getD 0).toNat)) rfl (fun x _ => rfl) (fun x _ => rfl) (fun x _ y _ => rfl) (fun x h y hy => ?_) (fun x h y hy _ => ?_) (fun acc x _ => ?_) (fun r _ hl => ?_) ?_
  · obtain ⟨k, hk, rfl⟩ := hx x h
    obtain ⟨j, hj, rfl⟩ := hx y hy
    exact ao_one (bNew_run hk hj)
  · obtain ⟨k, hk, rfl⟩ := hx x h
    obtain ⟨j, hj, rfl⟩ := hx y hy
    rfl
  · by_cases h : 1000 < acc.length
    · exact .inr h
    · exact .inl (show acc.length + 4 ≤ 100000 by omega)
  · have h4 : (nats R4).length = 4 := rfl
    exact Nat.le_trans (four r) (by omega)
  · have e : (nats R4).flatMap (fun x => ((nats R4).filter fun y => isNew g M (x.int?.getD 0).toNat (y.int?.getD 0).toNat).map fun y => encP ((x.int?.getD 0).toNat, (y.int?.getD 0).toNat)) = (newP g M).map encP := by
      unfold newP nats
      rw [List.flatMap_map, List.map_flatMap]
      congr 1
      funext k
      rw [List.filter_map, List.map_map, List.map_map]
      rfl
    rw [e]
    exact mk_lst (by rw [List.length_map]; exact Nat.le_trans (newP_len M) (by decide))
noncomputable def m1 : MS := sAug 1 .add eNew'
theorem m1_turn {M : List (Nat × Nat)} {i : AV} (hM : M.length ≤ 1000) : stepF W 0 [2] [m1] i (frM g v2) (cM M) = some ⟨.next, frM g (some i), cM (M ++ newP g M)⟩ := by
  have e1 : m1 W 0 (frM g (some i)) (cM M) = some ⟨.next, frM g (some i), cM (M ++ newP g M)⟩ := by
    refine bindE (eNew_run (v2 := some i)) ?_
    refine mapE (x := cM (M ++ newP g M)) ?_ rfl
    unfold cM
    rw [List.map_append]
    exact if_pos (aI ⟨rfl, decide_eq_true (by
      rw [List.length_map, List.length_map]
      exact Nat.le_trans (Nat.add_le_add hM (newP_len M)) (by decide))⟩)
  exact bindE rfl (ss_next e1 rfl)
noncomputable def meetM (g : Roads) : Nat → List (Nat × Nat)
  | 0 => R4.map fun k => (k, k)
  | i + 1 => meetM g i ++ newP g (meetM g i)
theorem meet_len : ∀ i, (meetM g i).length ≤ 4 + 16 * i
  | 0 => Nat.le_refl _
  | i + 1 => by
    have h := meet_len i
    have h2 := newP_len (g := g) (meetM g i)
    show (meetM g i ++ newP g (meetM g i)).length ≤ _
    rw [List.length_append]; omega
theorem mem_meet (O : J2.Ok g) : ∀ {i : Nat} {p : Nat × Nat}, p ∈ meetM g i ↔ p.1 < 4 ∧ p.2 < 4 ∧ com g i p = true
  | 0, p => by
    show p ∈ R4.map (fun k => (k, k)) ↔ _
    rw [List.mem_map]
    constructor
    · rintro ⟨k, hk, rfl⟩
      exact ⟨mem_R4.mp hk, mem_R4.mp hk, beq_self_eq_true k⟩
    · rintro ⟨h1, h2, h3⟩
      exact ⟨p.1, mem_R4.mpr h1, Prod.ext rfl (beq_iff_eq.mp h3)⟩
  | i + 1, p => by
    show p ∈ meetM g i ++ newP g (meetM g i) ↔ _
    have hl : ∀ k j a b, like g (meetM g i) k j a b = true ↔ (g k a).1 = (g j b).1 ∧ com g i ((g k a).2, (g j b).2) = true := fun k j a b => by
      unfold like
      rw [Bool.and_eq_true, decide_eq_true_iff, decide_eq_true_iff, mem_meet O]
      exact and_congr_right fun _ => ⟨fun h => h.2.2, fun h => ⟨O.en k a, O.en j b, h⟩⟩
    have hn : ∀ k j, nx g (meetM g i) k j = true ↔ ∃ a, (a = 0 ∨ a = 1) ∧ ∃ b, (b = 0 ∨ b = 1) ∧ (g k a).1 = (g j b).1 ∧ com g i ((g k a).2, (g j b).2) = true := fun k j => by
      unfold nx
      rw [Bool.or_eq_true, Bool.or_eq_true, Bool.or_eq_true, hl, hl, hl, hl]
      constructor
      · rintro ((h | h) | (h | h))
        · exact ⟨0, .inl rfl, 0, .inl rfl, h⟩
        · exact ⟨0, .inl rfl, 1, .inr rfl, h⟩
        · exact ⟨1, .inr rfl, 0, .inl rfl, h⟩
        · exact ⟨1, .inr rfl, 1, .inr rfl, h⟩
      · rintro ⟨a, rfl | rfl, b, rfl | rfl, h⟩
        · exact .inl (.inl h)
        · exact .inl (.inr h)
        · exact .inr (.inl h)
        · exact .inr (.inr h)
    rw [List.mem_append, mem_meet O, com_succ]
    constructor
    · rintro (⟨h1, h2, h3⟩ | h)
      · exact ⟨h1, h2, .inl h3⟩
      · obtain ⟨k, hk, h⟩ := List.mem_flatMap.mp h
        obtain ⟨j, hj, rfl⟩ := List.mem_map.mp h
        obtain ⟨hj, hb⟩ := List.mem_filter.mp hj
        exact ⟨mem_R4.mp hk, mem_R4.mp hj, .inr ((hn k j).mp (aT hb).2)⟩
    · rintro ⟨h1, h2, h3⟩
      by_cases hm : p ∈ meetM g i
      · exact .inl ((mem_meet O).mp hm)
      · right
        rcases h3 with h3 | h3
        · exact absurd ((mem_meet O).mpr ⟨h1, h2, h3⟩) hm
        · exact List.mem_flatMap.mpr ⟨p.1, mem_R4.mpr h1, List.mem_map.mpr ⟨p.2, List.mem_filter.mpr ⟨mem_R4.mpr h2, aI ⟨by rw [decide_eq_false hm]; rfl, (hn _ _).mpr h3⟩⟩, rfl⟩⟩
noncomputable def encT (g : Roads) (k : Nat) : AV := .tup [.str [97 + k], encG g k]
noncomputable def bTwin : MB := bAO true [bCmp .eq (eIdx (eIdx (eVar 4) (eLit (.int 0))) (eLit (.int 0))) (eIdx (eIdx (eVar 4) (eLit (.int 1))) (eLit (.int 0))), bCmp .in_ (eTup [eIdx (eIdx (eVar 4) (eLit (.int 0))) (eLit (.int 1)), eIdx (eIdx (eVar 4) (eLit (.int 1))) (eLit (.int 1))]) (eVar 1)]
theorem bTwin_run {M : List (Nat × Nat)} {k : Nat} : bTwin W n [some (roadsV g), some (.ref 0), v2, v3, some (encG g k)] (cM M) = some (decide ((g k 0).1 = (g k 1).1) && decide (((g k 0).2, (g k 1).2) ∈ M), cM M) := by
  have h1 : bCmp .eq (eIdx (eIdx (eVar 4) (eLit (.int 0))) (eLit (.int 0))) (eIdx (eIdx (eVar 4) (eLit (.int 1))) (eLit (.int 0))) W n [some (roadsV g), some (.ref 0), v2, v3, some (encG g k)] (cM M) = some (decide ((g k 0).1 = (g k 1).1), cM M) := b_cmp (e_idx (e_idx rfl rfl rfl) rfl rfl) (e_idx (e_idx rfl rfl rfl) rfl rfl) (congrArg some (int_beq' _ _))
  have h2 : bCmp .in_ (eTup [eIdx (eIdx (eVar 4) (eLit (.int 0))) (eLit (.int 1)), eIdx (eIdx (eVar 4) (eLit (.int 1))) (eLit (.int 1))]) (eVar 1) W n [some (roadsV g), some (.ref 0), v2, v3, some (encG g k)] (cM M) = some (decide (((g k 0).2, (g k 1).2) ∈ M), cM M) := b_cmp (e_tup2 (e_idx (e_idx rfl rfl rfl) rfl rfl) (e_idx (e_idx rfl rfl rfl) rfl rfl)) rfl (memb_p (p := ((g k 0).2, (g k 1).2)) M)
  refine b_ao h1 ?_
  cases decide ((g k 0).1 = (g k 1).1) with
  | false => rfl
  | true => exact ao_one h2
noncomputable def eTwins : ME := eComp false (eVar 3) [⟨2, [3, 4], iZip [eLit (.str [97, 98, 99, 100]), eVar 0], [bTwin]⟩]
noncomputable def twinsV (g : Roads) : AV := .lst (lT (R4.filter (twin g)))
theorem twins_run (O : J2.Ok g) (cs : Cells) : (callAt prog (d + 1)).cf 19 [roadsV g] none cs = some (twinsV g, cs) := by
  have s1 : sAssign (tVar 1) (eComp true (eTup [eVar 3, eVar 3]) [⟨1, [3], iRange [eLit (.int 4)], []⟩]) (callAt prog d) 0 [some (roadsV g), none, none] [] = some ⟨.next, frM g none, cM (meetM g 0)⟩ := rfl
  have t := fun i (v2 : Option AV) (x : AV) (hi : i ≤ 6) => m1_turn (W := callAt prog d) (g := g) (v2 := v2) (i := x) (M := meetM g i) (Nat.le_trans (meet_len i) (by omega))
  have el : forItems (stepF (callAt prog d) 0 [2] [m1]) [.int 0, .int 1, .int 2, .int 3, .int 4, .int 5] (frM g none) (cM (meetM g 0)) = some ⟨.next, frM g (some (.int 5)), cM (meetM g 6)⟩ :=
    forItems_cons (t 0 none (.int 0) (by decide)) (forItems_cons (t 1 (some (.int 0)) (.int 1) (by decide)) (forItems_cons (t 2 (some (.int 1)) (.int 2) (by decide)) (forItems_cons (t 3 (some (.int 2)) (.int 3) (by decide)) (forItems_cons (t 4 (some (.int 3)) (.int 4) (by decide)) (forItems_cons (t 5 (some (.int 4)) (.int 5) (by decide)) rfl)))))
  have s2 : sFor [2] (iRange [eLit (.int 6)]) [m1] (callAt prog d) 0 (frM g none) (cM (meetM g 0)) = _ := s_for (i' := .items [.int 0, .int 1, .int 2, .int 3, .int 4, .int 5]) rfl el
  have hc : eTwins (callAt prog d) 0 (frM g (some (.int 5))) (cM (meetM g 6)) = some (twinsV g, cM (meetM g 6)) := by
    refine comp_pure (xs := R4.map (encT g)) (fx := fun x => [some (roadsV g), some (.ref 0), some (.int 5), some ((x.tup?.getD []).getD 0 .none), some ((x.tup?.getD []).getD 1 .none)]) (b := fun x => twin g ((((x.tup?.getD []).getD 0 .none).str?.getD []).getD 0 0 - 97)) (g := fun x => (x.tup?.getD []).getD 0 .none) rfl (fun x hx => ?_) (fun x hx => ?_) (fun x hx _ => ?_) (show 4 ≤ lim by decide) ?_
    · obtain ⟨k, _, rfl⟩ := List.mem_map.mp hx; rfl
    · obtain ⟨k, _, rfl⟩ := List.mem_map.mp hx
      refine ao_one ?_
      show _ = some (twin g (97 + k - 97), cM (meetM g 6))
      rw [Nat.add_sub_cancel_left]
      refine bTwin_run.trans (congrArg (fun t => some (t, cM (meetM g 6))) (Bool.eq_iff_iff.mpr ?_))
      unfold twin
      rw [Bool.and_eq_true, Bool.and_eq_true, decide_eq_true_iff, decide_eq_true_iff, beq_iff_eq, mem_meet O]
      exact and_congr_right fun _ => ⟨fun h => h.2.2, fun h => ⟨O.en k 0, O.en k 1, h⟩⟩
    · obtain ⟨k, _, rfl⟩ := List.mem_map.mp hx; rfl
    · rw [List.filter_map, List.map_map]
      have e : (R4.filter ((fun x : AV => twin g ((((x.tup?.getD []).getD 0 .none).str?.getD []).getD 0 0 - 97)) ∘ encT g)).map ((fun x : AV => (x.tup?.getD []).getD 0 .none) ∘ encT g) = lT (R4.filter (twin g)) := by
        rw [List.filter_congr (q := twin g) fun k _ => by
          show twin g (97 + k - 97) = twin g k
          rw [Nat.add_sub_cancel_left]]
        rfl
      rw [e]
      exact mk_lst (by rw [List.length_map]; exact Nat.le_trans (List.length_filter_le _ _) (show 4 ≤ 1000 by decide))
  have hb : below 0 (twinsV g) = true := by
    show belows 0 (lT (R4.filter (twin g))) = true
    exact bel_map (fun _ => rfl) _
  exact cf_closed (P := prog) (k := d) (F := f__law_twins) rfl rfl (run_of rfl (ss_next s1 (ss_next s2 (ss_ret (s_ret hc)))) rfl) hb
end
end Ev.L2
namespace Ev.L2
open Ev.Lib J2
section
variable {W : Wd} {n d : Nat} {cs : Cells} {g : Roads} {v0 v1 v2 v3 v4 v5 v6 v7 v8 v9 : Option AV}
noncomputable abbrev sV (s : List Nat) : AV := .lst (nats s)
noncomputable abbrev sVs (l : List (List Nat)) : List AV := l.map fun s => sV s
noncomputable def bStep : MB := bCmp .ne (eComp false (eVar 4) [⟨1, [4], iVal (eVar 1), [bCmp .in_ (eTup [eVar 2, eVar 3]) (eIdx (eVar 0) (eVar 4))]⟩]) (eList false [])
noncomputable def eStep : ME := eComp false (eVar 3) [⟨1, [3], iRange [eLit (.int 4)], [bStep]⟩]
theorem bStep_run {S : List Nat} {c k : Nat} (hS : ∀ s ∈ S, s < 4) (hl : S.length ≤ 1000) : bStep W n [some (roadsV g), some (sV S), some (.int (c : Int)), some (.int (k : Int))] cs = some (S.any fun x => decide (g x 0 = (c, k)) || decide (g x 1 = (c, k)), cs) := by
  have hc : eComp false (eVar 4) [⟨1, [4], iVal (eVar 1), [bCmp .in_ (eTup [eVar 2, eVar 3]) (eIdx (eVar 0) (eVar 4))]⟩] W n [some (roadsV g), some (sV S), some (.int (c : Int)), some (.int (k : Int))] cs = some (.lst (nats (S.filter fun x => decide (g x 0 = (c, k)) || decide (g x 1 = (c, k)))), cs) := by
    refine comp_pure (xs := nats S) (fx := fun x => [some (roadsV g), some (sV S), some (.int (c : Int)), some (.int (k : Int)), some x]) (b := fun x => decide (g (x.int?.getD 0).toNat 0 = (c, k)) || decide (g (x.int?.getD 0).toNat 1 = (c, k))) (g := fun x => x) rfl (fun x _ => rfl) (fun x hx => ?_) (fun x _ _ => rfl) ?_ ?_
    · obtain ⟨s, hs, rfl⟩ := List.mem_map.mp hx
      refine ao_one (b_cmp rfl (e_idx rfl rfl (roads_at (hS s hs))) ?_)
      show membv cs (encP (c, k)) ([g s 0, g s 1].map encP) = some (decide (g s 0 = (c, k)) || decide (g s 1 = (c, k)))
      rw [memb_p]
      refine congrArg some (Bool.eq_iff_iff.mpr ?_)
      rw [decide_eq_true_iff, Bool.or_eq_true, decide_eq_true_iff, decide_eq_true_iff, List.mem_cons, List.mem_singleton]
      exact or_congr ⟨fun h => h.symm, fun h => h.symm⟩ ⟨fun h => h.symm, fun h => h.symm⟩
    · rw [List.length_map]; exact Nat.le_trans hl (by decide)
    · rw [List.map_id', List.filter_map]
      exact mk_lst (by rw [List.length_map]; exact Nat.le_trans (List.length_filter_le _ _) hl)
  refine b_cmp hc rfl (ne_nil.trans (congrArg some (Bool.eq_iff_iff.mpr ?_)))
  rw [List.any_eq_true, Bool.not_eq_true', ← Bool.not_eq_true, List.isEmpty_iff, List.map_eq_nil_iff, List.filter_eq_nil_iff]
  constructor
  · intro h
    exact Classical.byContradiction fun z => h fun x hx hp => z ⟨x, hx, hp⟩
  · rintro ⟨x, hx, hp⟩ h
    exact h x hx hp
theorem step_run {S : List Nat} {c : Nat} (hS : ∀ s ∈ S, s < 4) (hl : S.length ≤ 1000) (cs : Cells) : (callAt prog (d + 1)).cf 20 [roadsV g, sV S, .int (c : Int)] none cs = some (sV (step g S c), cs) := by
  have hc : eStep (callAt prog d) 0 [some (roadsV g), some (sV S), some (.int (c : Int))] [] = some (sV (step g S c), []) := by
    refine comp_pure (xs := nats R4) (fx := fun x => [some (roadsV g), some (sV S), some (.int (c : Int)), some x]) (b := fun x => S.any fun k => decide (g k 0 = (c, (x.int?.getD 0).toNat)) || decide (g k 1 = (c, (x.int?.getD 0).toNat))) (g := fun x => x) rfl (fun x _ => rfl) (fun x hx => ?_) (fun x _ _ => rfl) (show 4 ≤ lim by decide) ?_
    · obtain ⟨k, _, rfl⟩ := List.mem_map.mp hx
      exact ao_one (bStep_run hS hl)
    · rw [List.map_id', List.filter_map]
      exact mk_lst (by rw [List.length_map]; exact Nat.le_trans (List.length_filter_le _ _) (show 4 ≤ 1000 by decide))
  have hb : below 0 (sV (step g S c)) = true := by
    show belows 0 (nats (step g S c)) = true
    exact bel_map (fun _ => rfl) _
  have ha : belows 0 [roadsV g, sV S, .int (c : Int)] = true := by
    have h : belows 0 (nats S) = true := bel_map (fun _ => rfl) _
    show (below 0 (roadsV g) && (belows 0 (nats S) && belows 0 [AV.int (c : Int)])) = true
    rw [h]; rfl
  exact cf_closed (P := prog) (k := d) (F := f__law_step) rfl ha (run_of rfl (ss_ret (s_ret hc)) rfl) hb
theorem step_lt {S : List Nat} {c : Nat} : (∀ s ∈ step g S c, s < 4) ∧ (step g S c).length ≤ 1000 := ⟨fun s hs => mem_R4.mp (List.mem_filter.mp hs).1, Nat.le_trans (List.length_filter_le _ _) (show 4 ≤ 1000 by decide)⟩
theorem eqvs_nats : ∀ {s t : List Nat}, s.length = t.length → eqvs (eqv cs 7) (nats s) (nats t) = some (decide (s = t))
  | [], [], _ => rfl
  | [], _ :: _, h => nomatch h
  | _ :: _, [], h => nomatch h
  | a :: s, b :: t, h => by
    show ((some ((a : Int) == (b : Int))).bind fun z => (eqvs (eqv cs 7) (nats s) (nats t)).map (z && ·)) = _
    rw [eqvs_nats (Nat.succ.inj h), int_beq']
    show some (decide (a = b) && decide (s = t)) = _
    refine congrArg some (Bool.eq_iff_iff.mpr ?_)
    rw [Bool.and_eq_true, decide_eq_true_iff, decide_eq_true_iff, decide_eq_true_iff]
    exact ⟨fun h => by rw [h.1, h.2], fun h => ⟨(List.cons.inj h).1, (List.cons.inj h).2⟩⟩
theorem eqv_nats {s t : List Nat} : eqv cs 8 (sV s) (sV t) = some (decide (s = t)) := by
  show (if (nats s).length = (nats t).length then eqvs (eqv cs 7) (nats s) (nats t) else some false) = _
  rw [List.length_map, List.length_map]
  by_cases h : s.length = t.length
  · rw [if_pos h, eqvs_nats h]
  · rw [if_neg h, decide_eq_false fun e => h (by rw [e])]
theorem memb_l {t : List Nat} (l : List (List Nat)) : membv cs (sV t) (sVs l) = some (decide (t ∈ l)) := by
  induction l with
  | nil => rfl
  | cons x l ih =>
    show ((eqv cs 8 (sV x) (sV t)).bind fun z => (membv cs (sV t) (sVs l)).map (z || ·)) = _
    rw [ih, eqv_nats]
    show some (decide (x = t) || decide (t ∈ l)) = _
    refine congrArg some (Bool.eq_iff_iff.mpr ?_)
    rw [Bool.or_eq_true, decide_eq_true_iff, decide_eq_true_iff, decide_eq_true_iff, List.mem_cons]
    exact or_congr_left ⟨fun h => h.symm, fun h => h.symm⟩
noncomputable abbrev frY (g : Roads) (w : List Nat) (v2 v3 v5 v6 v7 v8 v9 : Option AV) : Fr := [some (roadsV g), some (.str (tW w)), v2, v3, some (.ref 0), v5, v6, v7, v8, v9]
noncomputable def wdBody : List MS := [sAssign (tVar 2) (eCall (eLit (.fn 20)) [eVar 0, eVar 2, eCall (eLit (.ty .int)) [eVar 5]])]
theorem wd_loop {w0 : List Nat} (w : List Nat) : ∀ {S : List Nat} {v5 : Option AV}, (∀ c ∈ w, c < 2) → (∀ s ∈ S, s < 4) → S.length ≤ 1000 → ∃ v5', forItems (stepF (callAt prog (d + 1)) 0 [5] wdBody) (w.map fun c => .str [48 + c]) (frY g w0 (some (sV S)) v3 v5 v6 v7 v8 v9) cs = some ⟨.next, frY g w0 (some (sV (w.foldl (step g) S))) v3 v5' v6 v7 v8 v9, cs⟩ := by
  induction w with
  | nil => intro S v5 _ _ _; exact ⟨v5, rfl⟩
  | cons c w ih =>
    intro S v5 hw hS hl
    have hc := hw c List.mem_cons_self
    obtain ⟨v5', e⟩ := ih (S := step g S c) (v5 := some (.str [48 + c])) (fun x hx => hw x (List.mem_cons_of_mem _ hx)) step_lt.1 step_lt.2
    have hi : callv (callAt prog (d + 1)) (.ty .int) [.str [48 + c]] 0 cs = some (.int (c : Int), cs) := by
      rcases two_of hc with rfl | rfl
      · exact rfl
      · exact rfl
    exact ⟨v5', forItems_cons (bindE rfl (ss_next (as_var (e_call rfl (es_cons rfl (es_cons rfl (es_cons (e_call rfl rfl hi) rfl))) (step_run hS hl cs)) (lt_ok rfl)) rfl)) e⟩
noncomputable def cK (M : List (List Nat)) (mid : List AObj) (A : List (List Nat)) : Cells := (.list (sVs M) :: mid) ++ [.list (sVs A)]
noncomputable def inBody : List MS := [
        sIte (bCmp .notin (eVar 9) (eVar 4)) [
          sExpr (eMeth (eVar 4) .append none [eVar 9]),
          sExpr (eMeth (eVar 7) .append none [eVar 9])] []]
theorem in_turn {w t : List Nat} {M A : List (List Nat)} {mid : List AObj} (hM : M.length ≤ 1000) (hA : A.length ≤ 1000) : stepF W 0 [9] inBody (sV t) (frY g w v2 v3 v5 v6 (some (.ref (mid.length + 1))) v8 v9) (cK M mid A) = some ⟨.next, frY g w v2 v3 v5 v6 (some (.ref (mid.length + 1))) v8 (some (sV t)), cK (add1 (A, M) t).2 mid (add1 (A, M) t).1⟩ := by
  have ht : bCmp .notin (eVar 9) (eVar 4) W 0 (frY g w v2 v3 v5 v6 (some (.ref (mid.length + 1))) v8 (some (sV t))) (cK M mid A) = some (!decide (t ∈ M), cK M mid A) := b_cmp rfl rfl (by
    show (membv (cK M mid A) (sV t) (sVs M)).map (!·) = _
    rw [memb_l]; rfl)
  have hb : ∀ i, put 0 i (sV t) = true := fun i => Bool.or_eq_true_iff.mpr (.inl rfl)
  unfold add1
  by_cases h : t ∈ M
  · rw [decide_eq_true h] at ht
    rw [if_pos h]
    exact bindE rfl (ss_next (s_if ht rfl) rfl)
  · rw [decide_eq_false h] at ht
    rw [if_neg h]
    have a1 : mcall 0 (.ref 0) .append [sV t] (cK M mid A) = some (.none, cK (M ++ [t]) mid A) := by
      unfold cK sVs
      rw [List.map_append]
      exact if_pos (aI ⟨hb 0, decide_eq_true (by rw [List.length_map]; exact Nat.lt_of_le_of_lt hM (by decide))⟩)
    have hl : listAt (cK (M ++ [t]) mid A) (mid.length + 1) = some (sVs A) := list_at ((Lib.app_get (cs := .list (sVs (M ++ [t])) :: mid) (x := [.list (sVs A)]) (j := 0)).trans rfl)
    have a2 : mcall 0 (.ref (mid.length + 1)) .append [sV t] (cK (M ++ [t]) mid A) = some (.none, cK (M ++ [t]) mid (A ++ [t])) := by
      show (listAt (cK (M ++ [t]) mid A) (mid.length + 1)).bind (fun ys => if (put 0 (mid.length + 1) (sV t) && decide (ys.length < lim)) = true then some (AV.none, (cK (M ++ [t]) mid A).set (mid.length + 1) (.list (ys ++ [sV t]))) else none) = _
      rw [hl, Option.bind_some, if_pos (aI ⟨hb _, decide_eq_true (by rw [List.length_map]; exact Nat.lt_of_le_of_lt hA (by decide))⟩)]
      have e := app_set (cs := .list (sVs (M ++ [t])) :: mid) (x := [.list (sVs A)]) (j := 0) (o := .list (sVs A ++ [sV t]))
      refine congrArg (fun z => some (AV.none, z)) (e.trans ?_)
      show _ = (AObj.list (sVs (M ++ [t])) :: mid) ++ [.list (sVs (A ++ [t]))]
      unfold sVs
      rw [List.map_append (l₁ := A)]; rfl
    have hn : isInst (cK M mid A) (.ref 0) = false := rfl
    have hn2 : isInst (cK (M ++ [t]) mid A) (.ref (mid.length + 1)) = false := by
      have : (cK (M ++ [t]) mid A)[mid.length + 1]? = some (.list (sVs A)) := (Lib.app_get (cs := .list (sVs (M ++ [t])) :: mid) (x := [.list (sVs A)]) (j := 0)).trans rfl
      unfold isInst instOf instAt
      show (((some (mid.length + 1)).bind fun i => (((cK (M ++ [t]) mid A)[i]?).bind AObj.inst?).bind fun d => (idictAt (cK (M ++ [t]) mid A) d).map fun es => (d, es))).isSome = false
      rw [Option.bind_some, this]; rfl
    have hm2 : methOk (cK (M ++ [t]) mid A) (.ref (mid.length + 1)) .append = true := by
      show ((listAt (cK (M ++ [t]) mid A) (mid.length + 1)).isSome && true) = true
      rw [hl]; rfl
    exact bindE rfl (ss_next (s_if ht (ss_next (s_expr (e_meth rfl (es_cons rfl rfl) hn rfl a1)) (ss_next (s_expr (e_meth rfl (es_cons rfl rfl) hn2 hm2 a2)) rfl))) rfl)
theorem add_len (A M : List (List Nat)) (t : List Nat) : (add1 (A, M) t).1.length ≤ A.length + 1 ∧ (add1 (A, M) t).2.length ≤ M.length + 1 := by
  unfold add1
  by_cases h : t ∈ M
  · rw [if_pos h]; exact ⟨Nat.le_succ _, Nat.le_succ _⟩
  · rw [if_neg h]; exact ⟨Nat.le_of_eq (List.length_append ..), Nat.le_of_eq (List.length_append ..)⟩
noncomputable def outBody : List MS := [sFor [9] (iVal (eList false [eCall (eLit (.fn 20)) [eVar 0, eVar 8, eLit (.int 0)], eCall (eLit (.fn 20)) [eVar 0, eVar 8, eLit (.int 1)]])) inBody]
theorem out_turn {w s : List Nat} {gm : List (List Nat) × List (List Nat)} {mid : List AObj} (hs : ∀ x ∈ s, x < 4) (hl : s.length ≤ 1000) (hM : gm.2.length ≤ 900) (hA : gm.1.length ≤ 900) :
    ∃ v9', stepF (callAt prog (d + 1)) 0 [8] outBody (sV s) (frY g w v2 v3 v5 v6 (some (.ref (mid.length + 1))) v8 v9) (cK gm.2 mid gm.1) = some ⟨.next, frY g w v2 v3 v5 v6 (some (.ref (mid.length + 1))) (some (sV s)) v9', cK (([step g s 0, step g s 1].foldl add1 gm)).2 mid (([step g s 0, step g s 1].foldl add1 gm)).1⟩ := by
  have c0 := step_run (d := d) (g := g) (c := 0) hs hl (cK gm.2 mid gm.1)
  have c1 := step_run (d := d) (g := g) (c := 1) hs hl (cK gm.2 mid gm.1)
  obtain ⟨q1, q2⟩ := add_len gm.1 gm.2 (step g s 0)
  have t0 := in_turn (W := callAt prog (d + 1)) (g := g) (w := w) (t := step g s 0) (M := gm.2) (A := gm.1) (mid := mid) (v2 := v2) (v3 := v3) (v5 := v5) (v6 := v6) (v8 := some (sV s)) (v9 := v9) (Nat.le_trans hM (by decide)) (Nat.le_trans hA (by decide))
  have t1 := in_turn (W := callAt prog (d + 1)) (g := g) (w := w) (t := step g s 1) (M := (add1 gm (step g s 0)).2) (A := (add1 gm (step g s 0)).1) (mid := mid) (v2 := v2) (v3 := v3) (v5 := v5) (v6 := v6) (v8 := some (sV s)) (v9 := some (sV (step g s 0))) (Nat.le_trans q2 (Nat.le_trans (Nat.succ_le_succ hM) (by decide))) (Nat.le_trans q1 (Nat.le_trans (Nat.succ_le_succ hA) (by decide)))
  have hI : (iVal (eList false [eCall (eLit (.fn 20)) [eVar 0, eVar 8, eLit (.int 0)], eCall (eLit (.fn 20)) [eVar 0, eVar 8, eLit (.int 1)]])).run (callAt prog (d + 1)) 0 (frY g w v2 v3 v5 v6 (some (.ref (mid.length + 1))) (some (sV s)) v9) (cK gm.2 mid gm.1) = some (.items [sV (step g s 0), sV (step g s 1)], cK gm.2 mid gm.1) :=
    i_val (x := .lst [sV (step g s 0), sV (step g s 1)]) (bindE (es_cons (e_call rfl rfl c0) (es_cons (e_call rfl rfl c1) rfl)) rfl) rfl
  exact ⟨_, bindE rfl (ss_next (s_for hI (forItems_cons t0 (forItems_cons (r := []) (q := some ⟨.next, _, _⟩) t1 rfl))) rfl)⟩
theorem two_len (gm : List (List Nat) × List (List Nat)) (a b : List Nat) : ([a, b].foldl add1 gm).1.length ≤ gm.1.length + 2 ∧ ([a, b].foldl add1 gm).2.length ≤ gm.2.length + 2 := by
  obtain ⟨q1, q2⟩ := add_len gm.1 gm.2 a
  obtain ⟨q3, q4⟩ := add_len (add1 gm a).1 (add1 gm a).2 b
  exact ⟨Nat.le_trans q3 (Nat.succ_le_succ q1), Nat.le_trans q4 (Nat.succ_le_succ q2)⟩
theorem out_items {w : List Nat} {mid : List AObj} (L : List (List Nat)) : ∀ {gm : List (List Nat) × List (List Nat)} {v8 v9 : Option AV}, (∀ s ∈ L, (∀ x ∈ s, x < 4) ∧ s.length ≤ 1000) → gm.2.length + 2 * L.length ≤ 900 → gm.1.length + 2 * L.length ≤ 900 →
    ∃ v8' v9', forItems (stepF (callAt prog (d + 1)) 0 [8] outBody) (sVs L) (frY g w v2 v3 v5 v6 (some (.ref (mid.length + 1))) v8 v9) (cK gm.2 mid gm.1) = some ⟨.next, frY g w v2 v3 v5 v6 (some (.ref (mid.length + 1))) v8' v9', cK ((ahead g L).foldl add1 gm).2 mid ((ahead g L).foldl add1 gm).1⟩ := by
  induction L with
  | nil => intro gm v8 v9 _ _ _; exact ⟨v8, v9, rfl⟩
  | cons s L ih =>
    intro gm v8 v9 hs hM hA
    rw [List.length_cons] at hM hA
    obtain ⟨h1, h2⟩ := hs s List.mem_cons_self
    obtain ⟨w9, e1⟩ := out_turn (d := d) (g := g) (w := w) (mid := mid) (gm := gm) (v2 := v2) (v3 := v3) (v5 := v5) (v6 := v6) (v8 := v8) (v9 := v9) h1 h2 (by omega) (by omega)
    obtain ⟨q1, q2⟩ := two_len gm (step g s 0) (step g s 1)
    obtain ⟨v8', v9', e2⟩ := ih (gm := [step g s 0, step g s 1].foldl add1 gm) (v8 := some (sV s)) (v9 := w9) (fun x hx => hs x (List.mem_cons_of_mem _ hx)) (by omega) (by omega)
    refine ⟨v8', v9', forItems_cons e1 ?_⟩
    rw [show ahead g (s :: L) = [step g s 0, step g s 1] ++ ahead g L from List.flatMap_cons .., List.foldl_append]
    exact e2
theorem out_cell {w : List Nat} {mid' : List AObj} {L0 : List (List Nat)} (r : List (List Nat)) : ∀ {gm : List (List Nat) × List (List Nat)} {v8 v9 : Option AV} {f j : Nat}, L0.drop j = r → r.length < f → (∀ s ∈ L0, (∀ x ∈ s, x < 4) ∧ s.length ≤ 1000) → gm.2.length + 2 * r.length ≤ 900 → gm.1.length + 2 * r.length ≤ 900 →
    ∃ v8' v9', forCell (stepF (callAt prog (d + 1)) 0 [8] outBody) (mid' ++ [AObj.list (sVs L0)]).length f j (frY g w v2 v3 v5 v6 (some (.ref ((mid' ++ [AObj.list (sVs L0)]).length + 1))) v8 v9) (cK gm.2 (mid' ++ [.list (sVs L0)]) gm.1) = some ⟨.next, frY g w v2 v3 v5 v6 (some (.ref ((mid' ++ [AObj.list (sVs L0)]).length + 1))) v8' v9', cK ((ahead g r).foldl add1 gm).2 (mid' ++ [.list (sVs L0)]) ((ahead g r).foldl add1 gm).1⟩ := by
  have hat : ∀ gm : List (List Nat) × List (List Nat), listAt (cK gm.2 (mid' ++ [.list (sVs L0)]) gm.1) (mid' ++ [AObj.list (sVs L0)]).length = some (sVs L0) := fun gm => by
    refine list_at ?_
    unfold cK
    have e : (AObj.list (sVs gm.2) :: (mid' ++ [AObj.list (sVs L0)])) ++ [AObj.list (sVs gm.1)] = (AObj.list (sVs gm.2) :: mid') ++ ([AObj.list (sVs L0)] ++ [AObj.list (sVs gm.1)]) := by
      rw [← List.cons_append, List.append_assoc]
    rw [e, show (mid' ++ [AObj.list (sVs L0)]).length = (AObj.list (sVs gm.2) :: mid').length + 0 from by rw [List.length_append]; rfl]
    exact Lib.app_get.trans rfl
  induction r with
  | nil =>
    intro gm v8 v9 f j hd hf hs _ _
    obtain ⟨f, rfl⟩ := Nat.exists_eq_succ_of_ne_zero (Nat.ne_of_gt hf)
    refine ⟨v8, v9, fc_end (hat gm) (List.getElem?_eq_none (List.drop_eq_nil_iff.mp ?_))⟩
    rw [← List.map_drop, hd]; rfl
  | cons s r ih =>
    intro gm v8 v9 f j hd hf hs hM hA
    obtain ⟨f, rfl⟩ := Nat.exists_eq_succ_of_ne_zero (Nat.ne_of_gt (Nat.lt_of_le_of_lt (Nat.zero_le _) hf))
    rw [List.length_cons] at hM hA
    obtain ⟨h0, hd'⟩ := drop_get hd
    obtain ⟨h1, h2⟩ := hs s (List.mem_of_getElem? h0)
    obtain ⟨w9, e1⟩ := out_turn (d := d) (g := g) (w := w) (mid := mid' ++ [.list (sVs L0)]) (gm := gm) (v2 := v2) (v3 := v3) (v5 := v5) (v6 := v6) (v8 := v8) (v9 := v9) h1 h2 (by omega) (by omega)
    obtain ⟨q1, q2⟩ := two_len gm (step g s 0) (step g s 1)
    obtain ⟨v8', v9', e2⟩ := ih (gm := [step g s 0, step g s 1].foldl add1 gm) (v8 := some (sV s)) (v9 := w9) (f := f) (j := j + 1) hd' (Nat.lt_of_succ_lt_succ hf) hs (by omega) (by omega)
    refine ⟨v8', v9', fc_next (hat gm) (by rw [List.getElem?_map, h0]; rfl) e1 ?_⟩
    rw [show ahead g (s :: r) = [step g s 0, step g s 1] ++ ahead g r from List.flatMap_cons .., List.foldl_append]
    exact e2
noncomputable def lTest : MB := bCmp .in_ (eList false []) (eVar 3)
noncomputable def lEnd : ME := eAO true [eCmp .eq (eVar 2) (eList false []), eCmp .eq (eCall (eLit (.bi .len)) [eVar 1]) (eVar 6)]
noncomputable def lBody : List MS := [
    sIte lTest [sRet lEnd] [],
    sAssign (tVar 7) (eList true []),
    sFor [8] (iVal (eVar 3)) outBody,
    sAssign (tVar 3) (eVar 7)]
noncomputable def LayV (lv : AV) (mid : List AObj) (L : List (List Nat)) : Prop := lv = .lst (sVs L) ∨ (lv = .ref mid.length ∧ ∃ mid', mid = mid' ++ [.list (sVs L)])
theorem lay_at {M : List (List Nat)} {mid' : List AObj} {L : List (List Nat)} {x : List AObj} : ((AObj.list (sVs M) :: (mid' ++ [.list (sVs L)])) ++ x)[(mid' ++ [AObj.list (sVs L)]).length]? = some (.list (sVs L)) := by
  have e : (AObj.list (sVs M) :: (mid' ++ [AObj.list (sVs L)])) ++ x = (AObj.list (sVs M) :: mid') ++ ([AObj.list (sVs L)] ++ x) := by
    rw [← List.cons_append, List.append_assoc]
  rw [e, show (mid' ++ [AObj.list (sVs L)]).length = (AObj.list (sVs M) :: mid').length + 0 from by rw [List.length_append]; rfl]
  exact Lib.app_get.trans rfl
theorem lTest_run {w : List Nat} {lv : AV} {mid : List AObj} {L M : List (List Nat)} (hL : LayV lv mid L) : lTest W 0 (frY g w v2 (some lv) v5 v6 v7 v8 v9) (.list (sVs M) :: mid) = some (decide ([] ∈ L), .list (sVs M) :: mid) := by
  rcases hL with rfl | ⟨rfl, mid', rfl⟩
  · exact b_cmp (x := sV []) rfl rfl (memb_l (t := []) L)
  · refine b_cmp (x := sV []) rfl rfl ?_
    have h := lay_at (M := M) (mid' := mid') (L := L) (x := [])
    rw [List.append_nil] at h
    have hd : dictAt (AObj.list (sVs M) :: (mid' ++ [.list (sVs L)])) (mid' ++ [AObj.list (sVs L)]).length = none := by unfold dictAt; rw [h]; rfl
    have hl : listAt (AObj.list (sVs M) :: (mid' ++ [.list (sVs L)])) (mid' ++ [AObj.list (sVs L)]).length = some (sVs L) := list_at h
    show inv (AObj.list (sVs M) :: (mid' ++ [.list (sVs L)])) (sV []) (.ref (mid' ++ [AObj.list (sVs L)]).length) = _
    have e : inv (AObj.list (sVs M) :: (mid' ++ [.list (sVs L)])) (sV []) (.ref (mid' ++ [AObj.list (sVs L)]).length) = (listAt (AObj.list (sVs M) :: (mid' ++ [.list (sVs L)])) (mid' ++ [AObj.list (sVs L)]).length).bind (membv (AObj.list (sVs M) :: (mid' ++ [.list (sVs L)])) (sV [])) := rfl
    rw [e, hl]
    exact memb_l (t := []) L
theorem layer_run {w : List Nat} {lv : AV} {mid : List AObj} {L M : List (List Nat)} (hL : LayV lv mid L) (hs : ∀ s ∈ L, (∀ x ∈ s, x < 4) ∧ s.length ≤ 1000) (hM : M.length + 2 * L.length ≤ 900) (hl : 2 * L.length ≤ 900) :
    ∃ v8' v9', sFor [8] (iVal (eVar 3)) outBody (callAt prog (d + 1)) 0 (frY g w v2 (some lv) v5 v6 (some (.ref (mid.length + 1))) v8 v9) (cK M mid []) = some ⟨.next, frY g w v2 (some lv) v5 v6 (some (.ref (mid.length + 1))) v8' v9', cK (turnL g (L, M)).2 mid (turnL g (L, M)).1⟩ := by
  rcases hL with rfl | ⟨rfl, mid', rfl⟩
  · obtain ⟨v8', v9', e⟩ := out_items (d := d) (g := g) (w := w) (mid := mid) (v2 := v2) (v3 := some (.lst (sVs L))) (v5 := v5) (v6 := v6) L (gm := ([], M)) (v8 := v8) (v9 := v9) hs hM (by show 0 + 2 * L.length ≤ 900; omega)
    exact ⟨v8', v9', s_for (i' := .items (sVs L)) (i_val rfl rfl) e⟩
  · obtain ⟨v8', v9', e⟩ := out_cell (d := d) (g := g) (w := w) (mid' := mid') (L0 := L) (v2 := v2) (v3 := some (.ref (mid' ++ [AObj.list (sVs L)]).length)) (v5 := v5) (v6 := v6) L (gm := ([], M)) (v8 := v8) (v9 := v9) (f := loopFuel) (j := 0) rfl (Nat.lt_of_le_of_lt (Nat.le_trans (Nat.le_mul_of_pos_left _ (by decide)) hl) (by decide)) hs hM (by show 0 + 2 * L.length ≤ 900; omega)
    exact ⟨v8', v9', s_for (i_val rfl (itv_cell lay_at)) e⟩
theorem lay_facts (i : Nat) : (∀ s ∈ (layr g i).1, (∀ x ∈ s, x < 4) ∧ s.length ≤ 1000) ∧ (layr g i).1.length ≤ 16 ∧ (layr g i).2.length ≤ 16 := by
  have I := lay_ok (g := g) i
  refine ⟨fun s hs => ?_, ?_, lay_len i⟩
  · obtain ⟨w, _, _, rfl⟩ := I.at_ s hs
    rcases List.eq_nil_or_concat w with rfl | ⟨u, c, rfl⟩
    · exact ⟨fun x hx => mem_R4.mp hx, show 4 ≤ 1000 by decide⟩
    · rw [List.concat_eq_append, to_snoc]; exact step_lt
  · refine Nat.le_trans ?_ (lay_len (g := g) i)
    cases i with
    | zero => exact Nat.le_refl _
    | succ i =>
      obtain ⟨A, h1, _⟩ := add_all (ahead g (layr g i).1) [] (layr g i).2 (lay_ok (g := g) i).nd
      have e : layr g (i + 1) = (A, (layr g i).2 ++ A) := by
        show (ahead g (layr g i).1).foldl add1 ([], (layr g i).2) = _
        rw [h1, List.nil_append]
      rw [e, List.length_append]; exact Nat.le_add_left _ _
theorem tW_len (w : List Nat) : (tW w).length = w.length := List.length_map ..
theorem and_two {a b : ME} {fr : Fr} (ha : a W n fr cs = some (.bool true, cs)) (hb : b W n fr cs = some (.bool true, cs)) : eAO true [a, b] W n fr cs = some (.bool true, cs) :=
  bindE ha (bindE (x := true) rfl (bindE hb rfl))
theorem nats_cons {i : Nat} (h : i < 16) : nats (List.range' i (16 - i)) = .int (i : Int) :: nats (List.range' (i + 1) (16 - (i + 1))) := by
  rw [show 16 - i = (16 - (i + 1)) + 1 from by omega, List.range'_succ]; rfl
theorem lay_loop {w : List Nat} (hw : Least g w) (r : Nat) : ∀ {i : Nat} {lv : AV} {mid : List AObj} {v6 v7 v8 v9 : Option AV}, i + r = w.length → LayV lv mid (layr g i).1 → ∃ fr' cs', forItems (stepF (callAt prog (d + 1)) 0 [6] lBody) (nats (List.range' i (16 - i))) (frY g w (some (sV [])) (some lv) v5 v6 v7 v8 v9) (.list (sVs (layr g i).2) :: mid) = some ⟨.ret (.bool true), fr', cs'⟩ := by
  have h16 := least_len hw
  induction r with
  | zero =>
    intro i lv mid v6 v7 v8 v9 h hL
    have hi : i = w.length := h
    have ht := lTest_run (W := callAt prog (d + 1)) (g := g) (w := w) (M := (layr g i).2) (v2 := some (sV [])) (v5 := v5) (v6 := some (.int (i : Int))) (v7 := v7) (v8 := v8) (v9 := v9) hL
    rw [decide_eq_true ((lay_least hw).2 hi)] at ht
    have c1 : eCmp .eq (eVar 2) (eList false []) (callAt prog (d + 1)) 0 (frY g w (some (sV [])) (some lv) v5 (some (.int (i : Int))) v7 v8 v9) (.list (sVs (layr g i).2) :: mid) = some (.bool true, .list (sVs (layr g i).2) :: mid) := e_cmp rfl rfl eq_nil
    have c2 : eCmp .eq (eCall (eLit (.bi .len)) [eVar 1]) (eVar 6) (callAt prog (d + 1)) 0 (frY g w (some (sV [])) (some lv) v5 (some (.int (i : Int))) v7 v8 v9) (.list (sVs (layr g i).2) :: mid) = some (.bool true, .list (sVs (layr g i).2) :: mid) := by
      refine e_cmp (x := .int (w.length : Int)) (e_call rfl rfl ?_) rfl ?_
      · show some (AV.int ((tW w).length : Int), _) = _
        rw [tW_len]
      · show some ((w.length : Int) == (i : Int)) = _
        rw [hi, beq_self_eq_true]
    have ce : lEnd (callAt prog (d + 1)) 0 (frY g w (some (sV [])) (some lv) v5 (some (.int (i : Int))) v7 v8 v9) (.list (sVs (layr g i).2) :: mid) = some (.bool true, .list (sVs (layr g i).2) :: mid) := and_two c1 c2
    rw [nats_cons (by omega)]
    exact ⟨_, _, forItems_ret (bindE rfl (ss_ret (s_if ht (ss_ret (s_ret ce)))))⟩
  | succ r ih =>
    intro i lv mid v6 v7 v8 v9 h hL
    have hi : i < w.length := by omega
    obtain ⟨f1, f2, f3⟩ := lay_facts (g := g) i
    have ht := lTest_run (W := callAt prog (d + 1)) (g := g) (w := w) (M := (layr g i).2) (v2 := some (sV [])) (v5 := v5) (v6 := some (.int (i : Int))) (v7 := v7) (v8 := v8) (v9 := v9) hL
    rw [decide_eq_false ((lay_least hw).1 hi)] at ht
    have e7 : sAssign (tVar 7) (eList true []) (callAt prog (d + 1)) 0 (frY g w (some (sV [])) (some lv) v5 (some (.int (i : Int))) v7 v8 v9) (.list (sVs (layr g i).2) :: mid) = some ⟨.next, frY g w (some (sV [])) (some lv) v5 (some (.int (i : Int))) (some (.ref (mid.length + 1))) v8 v9, cK (layr g i).2 mid []⟩ := rfl
    obtain ⟨v8', v9', e8⟩ := layer_run (d := d) (g := g) (w := w) (M := (layr g i).2) (v2 := some (sV [])) (v5 := v5) (v6 := some (.int (i : Int))) (v8 := v8) (v9 := v9) hL f1 (by omega) (by omega)
    have e8 : sFor [8] (iVal (eVar 3)) outBody (callAt prog (d + 1)) 0 (frY g w (some (sV [])) (some lv) v5 (some (.int (i : Int))) (some (.ref (mid.length + 1))) v8 v9) (cK (layr g i).2 mid []) = some ⟨.next, frY g w (some (sV [])) (some lv) v5 (some (.int (i : Int))) (some (.ref (mid.length + 1))) v8' v9', .list (sVs (layr g (i + 1)).2) :: (mid ++ [.list (sVs (layr g (i + 1)).1)])⟩ := e8
    obtain ⟨fr', cs', e⟩ := ih (i := i + 1) (lv := .ref (mid.length + 1)) (mid := mid ++ [.list (sVs (layr g (i + 1)).1)]) (v6 := some (.int (i : Int))) (v7 := some (.ref (mid.length + 1))) (v8 := v8') (v9 := v9') (by omega) (.inr ⟨by rw [List.length_append]; rfl, mid, rfl⟩)
    rw [nats_cons (by omega)]
    exact ⟨fr', cs', forItems_cons (bindE rfl (ss_next (s_if ht rfl) (ss_next e7 (ss_next e8 (ss_next rfl rfl))))) e⟩
theorem shortest_run {w : List Nat} (hw : Least g w) (cs : Cells) : (callAt prog (d + 2)).cf 21 [roadsV g, .str (tW w)] none cs = some (.bool true, cs) := by
  have s1 : sAsgT [2, 3, 4] (eTup [eList false [eLit (.int 0), eLit (.int 1), eLit (.int 2), eLit (.int 3)], eList false [eList false [eLit (.int 0), eLit (.int 1), eLit (.int 2), eLit (.int 3)]], eList true [eList false [eLit (.int 0), eLit (.int 1), eLit (.int 2), eLit (.int 3)]]]) (callAt prog (d + 1)) 0 [some (roadsV g), some (.str (tW w)), none, none, none, none, none, none, none, none] [] = some ⟨.next, frY g w (some (sV R4)) (some (.lst (sVs (layr g 0).1))) none none none none none, [.list (sVs (layr g 0).2)]⟩ := rfl
  obtain ⟨v5', e2⟩ := wd_loop (d := d) (g := g) (cs := [.list (sVs (layr g 0).2)]) (w0 := w) (v3 := some (.lst (sVs (layr g 0).1))) (v6 := none) (v7 := none) (v8 := none) (v9 := none) w (S := R4) (v5 := none) hw.two (fun s hs => mem_R4.mp hs) (show 4 ≤ 1000 by decide)
  rw [show w.foldl (step g) R4 = [] from hw.dead] at e2
  have hasc : ascii (tW w) = true := by
    unfold tW ascii
    rw [List.all_map]
    exact List.all_eq_true.mpr fun x hx => decide_eq_true (Nat.lt_trans (Nat.add_lt_add_left (hw.two x hx) 48) (by decide))
  have hit : itv [.list (sVs (layr g 0).2)] (.str (tW w)) = some (.items (w.map fun c => .str [48 + c])) := by
    refine (if_pos hasc).trans ?_
    unfold tW
    rw [List.map_map]; rfl
  have s2 : sFor [5] (iVal (eVar 1)) wdBody (callAt prog (d + 1)) 0 (frY g w (some (sV R4)) (some (.lst (sVs (layr g 0).1))) none none none none none) [.list (sVs (layr g 0).2)] = _ := s_for (i_val rfl hit) e2
  obtain ⟨fr', cs', e3⟩ := lay_loop (d := d) (g := g) (v5 := v5') hw w.length (i := 0) (lv := .lst (sVs (layr g 0).1)) (mid := []) (v6 := none) (v7 := none) (v8 := none) (v9 := none) (Nat.zero_add _) (.inl rfl)
  have s3 : sFor [6] (iRange [eLit (.int 16)]) lBody (callAt prog (d + 1)) 0 (frY g w (some (sV [])) (some (.lst (sVs (layr g 0).1))) v5' none none none none) [.list (sVs (layr g 0).2)] = some ⟨.ret (.bool true), fr', cs'⟩ := s_for (i' := .items (nats (List.range' 0 16))) rfl e3
  exact cf_closed (P := prog) (k := d + 1) (F := f__law_shortest) rfl rfl (run_of rfl (ss_next s1 (ss_next s2 (ss_ret s3))) rfl) rfl
end
end Ev.L2
namespace Ev.L2
open Ev.Lib J2
section
variable {W : Wd} {n d : Nat} {cs : Cells} {g : Roads} {v0 v1 v2 v3 v4 v5 v6 : Option AV}
noncomputable abbrev frZ (v0 v1 : Option AV) (g : Roads) (v4 v5 v6 : Option AV) : Fr := [v0, v1, some (roadsV g), some (.ref 0), v4, v5, v6]
noncomputable def bAlone : MB := bCmp .eq (eComp false (eVar 8) [⟨1, [8], iVal (eVar 7), [bCmp .in_ (eVar 8) (eVar 5)]⟩]) (eList false [])
noncomputable def eAlone : ME := eComp false (eVar 7) [⟨1, [7], iVal (eCall (eLit (.fn 18)) [eVar 3]), [bAlone]⟩]
noncomputable def noTwin (g : Roads) (l : List Nat) : Bool := l.all fun y => !(twin g y)
theorem bAlone_run {l : List Nat} (hl : ∀ y ∈ l, y < 4) (h10 : l.length ≤ 1000) : bAlone W n [v0, v1, v2, v3, v4, some (twinsV g), v6, some (.lst (lT l))] cs = some (noTwin g l, cs) := by
  have hc : eComp false (eVar 8) [⟨1, [8], iVal (eVar 7), [bCmp .in_ (eVar 8) (eVar 5)]⟩] W n [v0, v1, v2, v3, v4, some (twinsV g), v6, some (.lst (lT l))] cs = some (.lst (lT (l.filter (twin g))), cs) := by
    refine comp_pure (xs := lT l) (fx := fun x => [v0, v1, v2, v3, v4, some (twinsV g), v6, some (.lst (lT l)), some x]) (b := fun x => twin g ((x.str?.getD []).getD 0 0 - 97)) (g := fun x => x) rfl (fun x _ => rfl) (fun x hx => ?_) (fun x _ _ => rfl) ?_ ?_
    · obtain ⟨y, hy, rfl⟩ := List.mem_map.mp hx
      refine ao_one (b_cmp rfl rfl ?_)
      show membv cs (.str [97 + y]) (lT (R4.filter (twin g))) = some (twin g (97 + y - 97))
      rw [memb_b, Nat.add_sub_cancel_left]
      refine congrArg some (Bool.eq_iff_iff.mpr ?_)
      rw [decide_eq_true_iff, List.mem_filter]
      exact ⟨fun h => h.2, fun h => ⟨mem_R4.mpr (hl y hy), h⟩⟩
    · rw [List.length_map]; exact Nat.le_trans h10 (by decide)
    · rw [List.map_id', List.filter_map]
      have e : l.filter ((fun x : AV => twin g ((x.str?.getD []).getD 0 0 - 97)) ∘ fun v => AV.str [97 + v]) = l.filter (twin g) := List.filter_congr fun y _ => by
        show twin g (97 + y - 97) = _
        rw [Nat.add_sub_cancel_left]
      rw [e]
      exact mk_lst (by rw [List.length_map]; exact Nat.le_trans (List.length_filter_le _ _) h10)
  refine b_cmp hc rfl (eq_nil.trans (congrArg some (Bool.eq_iff_iff.mpr ?_)))
  unfold noTwin
  rw [List.isEmpty_iff, List.map_eq_nil_iff, List.filter_eq_nil_iff, List.all_eq_true]
  exact forall_congr' fun y => forall_congr' fun _ => by
    rw [Bool.not_eq_true']
    exact ⟨fun h => Bool.eq_false_iff.mpr h, fun h => Bool.eq_false_iff.mp h⟩
noncomputable def aloneV (g : Roads) : AV := .lst ((R4.filter fun x => noTwin g (reach4 g x)).map fun x => .lst (lT (reach4 g x)))
theorem eAlone_run (O : J2.Ok g) {v0 v1 v4 : Option AV} : eAlone (callAt prog 11) 0 (frZ v0 v1 g v4 (some (twinsV g)) v6) (clT (heads g)) = some (aloneV g, clT (heads g)) := by
  have hr := reach_run (d := 8) (g := g) O
  have hI : (iVal (eCall (eLit (.fn 18)) [eVar 3])).run (callAt prog 11) 0 (frZ v0 v1 g v4 (some (twinsV g)) v6) (clT (heads g)) = some (.items (R4.map fun x => .lst (lT (reach4 g x))), clT (heads g)) := i_val (e_call rfl rfl hr) rfl
  refine comp_pure (xs := R4.map fun x => .lst (lT (reach4 g x))) (fx := fun x => [v0, v1, some (roadsV g), some (.ref 0), v4, some (twinsV g), v6, some x]) (b := fun x => noTwin g (unL x)) (g := fun x => x) hI (fun x _ => rfl) (fun x hx => ?_) (fun x _ _ => rfl) (show 4 ≤ lim by decide) ?_
  · obtain ⟨x, _, rfl⟩ := List.mem_map.mp hx
    refine ao_one ?_
    show _ = some (noTwin g (unL (.lst (lT (reach4 g x)))), _)
    rw [unL_lT]
    exact bAlone_run via_lt.1 via_lt.2
  · rw [List.map_id', List.filter_map]
    have e : R4.filter ((fun x : AV => noTwin g (unL x)) ∘ fun x => AV.lst (lT (reach4 g x))) = R4.filter fun x => noTwin g (reach4 g x) := List.filter_congr fun x _ => by
      show noTwin g (unL (.lst (lT (reach4 g x)))) = _
      rw [unL_lT]
    rw [e]
    exact mk_lst (by rw [List.length_map]; exact Nat.le_trans (List.length_filter_le _ _) (show 4 ≤ 1000 by decide))
theorem noTwin_alone (O : J2.Ok g) {x : Nat} (hx : x < 4) : noTwin g (reach4 g x) = alone g x := by
  refine Bool.eq_iff_iff.mpr ?_
  unfold noTwin alone
  rw [List.all_eq_true, List.all_eq_true]
  constructor
  · intro h y hy
    by_cases hr : rc g x 4 y = true
    · rw [h y ((mem_reach4 O hx (mem_R4.mp hy)).mpr hr), Bool.or_true]
    · rw [Bool.eq_false_iff.mpr hr]; rfl
  · intro h y hy
    have hy4 := via_lt.1 y hy
    have := h y (mem_R4.mpr hy4)
    rw [(mem_reach4 O hx hy4).mp hy] at this
    exact this
theorem alone_empty (O : J2.Ok g) : ((R4.filter fun x => noTwin g (reach4 g x)).map fun x => AV.lst (lT (reach4 g x))).isEmpty = !(R4.any (alone g)) := by
  refine Bool.eq_iff_iff.mpr ?_
  rw [List.isEmpty_iff, List.map_eq_nil_iff, List.filter_eq_nil_iff, Bool.not_eq_true', ← Bool.not_eq_true, List.any_eq_true]
  constructor
  · rintro h ⟨x, hx, ha⟩
    exact h x hx (by rw [noTwin_alone O (mem_R4.mp hx)]; exact ha)
  · intro h x hx ha
    exact h ⟨x, hx, by rw [← noTwin_alone O (mem_R4.mp hx)]; exact ha⟩
theorem run (ns : List Int) (hn : ns.length ≤ 63) : ∃ cs', (callAt prog 12).cf 22 [.lst (ns.map .int)] none [] = some (.bool true, cs') := by
  have O := roads_ok ((four' ns).map nat64)
  have hxl : ((four' ns).map nat64).length = 4 := (List.length_map ..).trans (four_len ns)
  have hx64 : ∀ x ∈ (four' ns).map nat64, x < 64 := fun x hx => by
    obtain ⟨i, _, rfl⟩ := List.mem_map.mp hx
    exact (nat64_lt i).1
  generalize hg : roads ((four' ns).map nat64) = g at O
  obtain ⟨r, h1, h2, h3⟩ := search O
  have e1 := as_var (i := 1) (nums_run (W := callAt prog 11) (n := 0) (cs := []) (v1 := none) (v2 := none) (v3 := none) (v4 := none) (v5 := none) (v6 := none) hn) (lt_ok rfl)
  have e2 := as_var (i := 2) (roads_run (W := callAt prog 11) (n := 0) (cs := []) (v0 := some (.lst (ns.map .int))) (v2 := none) (v3 := none) (v4 := none) (v5 := none) (v6 := none) hxl hx64) (lt_ok rfl)
  rw [hg] at e2
  have ht := table_run (d := 8) O
  have hi := items_run (d := 10) (g := g)
  have hw := word_run O h1 (clT (heads g))
  have htw := twins_run (d := 10) O (clT (heads g))
  have e3 : sAssign (tVar 3) (eCall (eLit (.fn 15)) [eVar 2]) (callAt prog 11) 0 [some (.lst (ns.map .int)), some (.lst (nats ((four' ns).map nat64))), some (roadsV g), none, none, none, none] [] = some ⟨.next, frZ (some (.lst (ns.map .int))) (some (.lst (nats ((four' ns).map nat64)))) g none none none, clT (heads g)⟩ := as_var (e_call rfl rfl ht) (lt_ok rfl)
  have e4 : sAssign (tVar 4) (eCall (eLit (.fn 17)) [eMeth (eVar 3) .other (some 13) []]) (callAt prog 11) 0 (frZ (some (.lst (ns.map .int))) (some (.lst (nats ((four' ns).map nat64)))) g none none none) (clT (heads g)) = some ⟨.next, frZ (some (.lst (ns.map .int))) (some (.lst (nats ((four' ns).map nat64)))) g (some (.str (tW (foundTx r)))) none none, clT (heads g)⟩ := as_var (e_call rfl (es_cons (e_own rfl rfl rfl hi) rfl) hw) (lt_ok rfl)
  have e5 : sAssign (tVar 5) (eCall (eLit (.fn 19)) [eVar 2]) (callAt prog 11) 0 (frZ (some (.lst (ns.map .int))) (some (.lst (nats ((four' ns).map nat64)))) g (some (.str (tW (foundTx r)))) none none) (clT (heads g)) = some ⟨.next, frZ (some (.lst (ns.map .int))) (some (.lst (nats ((four' ns).map nat64)))) g (some (.str (tW (foundTx r)))) (some (twinsV g)) none, clT (heads g)⟩ := as_var (e_call rfl rfl htw) (lt_ok rfl)
  have e6 := as_var (i := 6) (eAlone_run (g := g) (v0 := some (.lst (ns.map .int))) (v1 := some (.lst (nats ((four' ns).map nat64)))) (v4 := some (.str (tW (foundTx r)))) (v6 := none) O) (lt_ok rfl)
  have ha := alone_empty O
  have hb : belows 0 [AV.lst (ns.map .int)] = true := aI ⟨bel_ints ns, rfl⟩
  have c7 : bCmp .eq (eVar 4) (eLit (.str [])) (callAt prog 11) 0 (frZ (some (.lst (ns.map .int))) (some (.lst (nats ((four' ns).map nat64)))) g (some (.str (tW (foundTx r)))) (some (twinsV g)) (some (aloneV g))) (clT (heads g)) = some ((foundTx r).isEmpty, clT (heads g)) := b_cmp rfl rfl (by
    show some (tW (foundTx r) == []) = _
    cases foundTx r <;> rfl)
  cases r with
  | none =>
    obtain ⟨x, hx, hxa⟩ := h2 rfl
    have hany : R4.any (alone g) = true := List.any_eq_true.mpr ⟨x, mem_R4.mpr hx, hxa⟩
    rw [hany] at ha
    have c8 : eCmp .ne (eVar 6) (eList false []) (callAt prog 11) 0 (frZ (some (.lst (ns.map .int))) (some (.lst (nats ((four' ns).map nat64)))) g (some (.str (tW (foundTx none)))) (some (twinsV g)) (some (aloneV g))) (clT (heads g)) = some (.bool true, clT (heads g)) := e_cmp rfl rfl (ne_nil.trans (by rw [ha]; rfl))
    exact ⟨[], cf_closed (P := prog) (k := 11) (j := 22) (cs := []) (F := f_law) (args := [.lst (ns.map .int)]) rfl hb (run_of rfl (ss_next e1 (ss_next e2 (ss_next e3 (ss_next e4 (ss_next e5 (ss_next e6 (ss_ret (s_if c7 (ss_ret (s_ret c8)))))))))) rfl) rfl⟩
  | some e =>
    obtain ⟨L, hno⟩ := h3 e rfl
    have hany : R4.any (alone g) = false := List.any_eq_false.mpr fun x hx => by rw [hno x (mem_R4.mp hx)]; exact Bool.false_ne_true
    rw [hany] at ha
    have hne : (foundTx (some e)).isEmpty = false := by
      show e.word.isEmpty = false
      cases hw : e.word with
      | nil =>
        have := L.dead
        rw [hw] at this
        exact nomatch (show R4 = [] from this)
      | cons c w => rfl
    rw [hne] at c7
    have c8 : eCmp .eq (eVar 6) (eList false []) (callAt prog 11) 0 (frZ (some (.lst (ns.map .int))) (some (.lst (nats ((four' ns).map nat64)))) g (some (.str (tW (foundTx (some e))))) (some (twinsV g)) (some (aloneV g))) (clT (heads g)) = some (.bool true, clT (heads g)) := e_cmp rfl rfl (eq_nil.trans (by rw [ha]; rfl))
    have hs := shortest_run (d := 9) L (clT (heads g))
    have c9 : eCall (eLit (.fn 21)) [eVar 2, eVar 4] (callAt prog 11) 0 (frZ (some (.lst (ns.map .int))) (some (.lst (nats ((four' ns).map nat64)))) g (some (.str (tW (foundTx (some e))))) (some (twinsV g)) (some (aloneV g))) (clT (heads g)) = some (.bool true, clT (heads g)) := e_call rfl rfl hs
    exact ⟨[], cf_closed (P := prog) (k := 11) (j := 22) (cs := []) (F := f_law) (args := [.lst (ns.map .int)]) rfl hb (run_of rfl (ss_next e1 (ss_next e2 (ss_next e3 (ss_next e4 (ss_next e5 (ss_next e6 (ss_next (s_if c7 rfl) (ss_ret (s_ret (and_two c8 c9)))))))))) rfl) rfl⟩
end
end Ev.L2
open PySem PySem.W PyProof.Rows PySem.SeqAt Ev
namespace Ev.L2
noncomputable def text : Program := PySem.Challenge.pw_kt0058_02
noncomputable def seenText : Program := view text [30]
noncomputable def loose : List Str := text.boundNames.filter (· != "law")
noncomputable def sight : Sight := { Y := lay, P := prog, T := tops, law := "law", lawA := 296, shapes := shapesOf text [("heappush", .none), ("heappop", .none), ("_siftdown", .none), ("_siftup", .none), ("translate", .none), ("_translate", .none), ("_join_translated_parts", .none), ("__init__", .ref 69), ("_convert_string_type", .none), ("__setitem__", .none), ("__delitem__", .none), ("get_all", .none), ("get", .ref 122), ("items", .none), ("add_header", .none), ("_law_table", .none), ("_law_names", .none), ("_law_word", .none), ("_law_reach", .none), ("_law_twins", .none), ("_law_step", .none), ("_law_shortest", .none), ("law", .none)], K2 := [(69, { cls := .type "tuple", data := .seq #[.none] }), (122, { cls := .type "tuple", data := .seq #[.none] })], as := [3, 47, 48, 52, 53, 69, 75, 76, 82, 83, 96, 97, 101, 102, 120, 121, 122, 128, 129, 145, 146, 178, 179, 181, 182, 190, 191, 197, 198, 212, 216, 217, 223, 224, 230, 231, 237, 238, 244, 245, 251, 252, 258, 259, 263, 264, 268, 269, 273, 274, 278, 279, 283, 284, 290, 291, 295, 296] }
end Ev.L2
set_option maxRecDepth 1000000
set_option maxHeartbeats 0
namespace Ev.L2
noncomputable def Left (w : World) : Prop := (openEnds treeTable text w 5754).map (fun s => (openSeen seenText loose (importedModules text.main.body) (fun _ => true) true s, obsE sight s)) = some (openGood seenText loose, valE sight)
theorem left_ff (w : World) : Left ((w.withFollow "special-get-raises" false).withFollow "comprehension-iter-twice" false) := by
  unfold Left openEnds fencedOpening topFrom
  rw [Fast.te14082659384304107361, Fast.te14364793385576792824, Fast.te10274390034422433532, Fast.te14289696077712309145, Fast.te1435165496053646825]
  kernel_rfl
theorem left_ft (w : World) : Left ((w.withFollow "special-get-raises" false).withFollow "comprehension-iter-twice" true) := by
  unfold Left openEnds fencedOpening topFrom
  rw [Fast.te14082659384304107361, Fast.te14364793385576792824, Fast.te10274390034422433532, Fast.te14289696077712309145, Fast.te1435165496053646825]
  kernel_rfl
theorem left_tf (w : World) : Left ((w.withFollow "special-get-raises" true).withFollow "comprehension-iter-twice" false) := by
  unfold Left openEnds fencedOpening topFrom
  rw [Fast.te14082659384304107361, Fast.te14364793385576792824, Fast.te10274390034422433532, Fast.te14289696077712309145, Fast.te1435165496053646825]
  kernel_rfl
theorem left_tt (w : World) : Left ((w.withFollow "special-get-raises" true).withFollow "comprehension-iter-twice" true) := by
  unfold Left openEnds fencedOpening topFrom
  rw [Fast.te14082659384304107361, Fast.te14364793385576792824, Fast.te10274390034422433532, Fast.te14289696077712309145, Fast.te1435165496053646825]
  kernel_rfl
theorem left (w : World) : Left w := byRow2 "comprehension-iter-twice" (byRow2 "special-get-raises" (P := fun w => Left (w.withFollow "comprehension-iter-twice" false)) left_ff left_tf) (byRow2 "special-get-raises" (P := fun w => Left (w.withFollow "comprehension-iter-twice" true)) left_ft left_tt) w
end Ev.L2
namespace Ev.L2
theorem bp_1_0 {φ : List Value → Prop} (h1 : ∀ a : Value, φ [a]) : ∀ vs : List Value, vs.length ≤ 1 → 1 ≤ vs.length + 0 → φ vs
  | [], _, h => absurd h (by simp)
  | [a], _, _ => h1 a
  | _ :: _ :: r, h, _ => absurd h (by simp)
theorem bp_2_0 {φ : List Value → Prop} (h2 : ∀ a b : Value, φ [a, b]) : ∀ vs : List Value, vs.length ≤ 2 → 2 ≤ vs.length + 0 → φ vs
  | [], _, h => absurd h (by simp)
  | [_], _, h => absurd h (by simp)
  | [a, b], _, _ => h2 a b
  | _ :: _ :: _ :: r, h, _ => absurd h (by simp)
theorem bp_2_1 {φ : List Value → Prop} (h1 : ∀ a : Value, φ [a]) (h2 : ∀ a b : Value, φ [a, b]) : ∀ vs : List Value, vs.length ≤ 2 → 2 ≤ vs.length + 1 → φ vs
  | [], _, h => absurd h (by simp)
  | [a], _, _ => h1 a
  | [a, b], _, _ => h2 a b
  | _ :: _ :: _ :: r, h, _ => absurd h (by simp)
theorem bp_3_0 {φ : List Value → Prop} (h3 : ∀ a b c : Value, φ [a, b, c]) : ∀ vs : List Value, vs.length ≤ 3 → 3 ≤ vs.length + 0 → φ vs
  | [], _, h => absurd h (by simp)
  | [_], _, h => absurd h (by simp)
  | [_, _], _, h => absurd h (by simp)
  | [a, b, c], _, _ => h3 a b c
  | _ :: _ :: _ :: _ :: r, h, _ => absurd h (by simp)
theorem bp_3_1 {φ : List Value → Prop} (h2 : ∀ a b : Value, φ [a, b]) (h3 : ∀ a b c : Value, φ [a, b, c]) : ∀ vs : List Value, vs.length ≤ 3 → 3 ≤ vs.length + 1 → φ vs
  | [], _, h => absurd h (by simp)
  | [_], _, h => absurd h (by simp)
  | [a, b], _, _ => h2 a b
  | [a, b, c], _, _ => h3 a b c
  | _ :: _ :: _ :: _ :: r, h, _ => absurd h (by simp)
theorem bind_all (S : Setting) : BindsS sight.K2 S sight.shapes prog.fs := by
  refine ⟨?_, ?_, ?_, ?_, ?_, ?_, ?_, ?_, ?_, ?_, ?_, ?_, ?_, ?_, ?_, ?_, ?_, ?_, ?_, ?_, ?_, ?_, ?_, trivial⟩ <;> intro fd
  · exact (show BindP _ _ _ 2 0 from bp_2_0 (fun a b => by kernel_rfl))
  · exact (show BindP _ _ _ 1 0 from bp_1_0 (fun a => by kernel_rfl))
  · exact (show BindP _ _ _ 3 0 from bp_3_0 (fun a b c => by kernel_rfl))
  · exact (show BindP _ _ _ 2 0 from bp_2_0 (fun a b => by kernel_rfl))
  · exact (show BindP _ _ _ 1 0 from bp_1_0 (fun a => by kernel_rfl))
  · exact (show BindP _ _ _ 3 0 from bp_3_0 (fun a b c => by kernel_rfl))
  · exact (show BindP _ _ _ 2 0 from bp_2_0 (fun a b => by kernel_rfl))
  · exact (show BindP _ _ _ 2 1 from bp_2_1 (fun a => by kernel_rfl) (fun a b => by kernel_rfl))
  · exact (show BindN _ _ _ 2 from fun vs v h => match vs, h with | [a, b], _ => by kernel_rfl | [], h => absurd h (by simp) | [_], h => absurd h (by simp) | _ :: _ :: _ :: _, h => absurd h (by simp))
  · exact (show BindP _ _ _ 3 0 from bp_3_0 (fun a b c => by kernel_rfl))
  · exact (show BindP _ _ _ 2 0 from bp_2_0 (fun a b => by kernel_rfl))
  · exact (show BindP _ _ _ 2 0 from bp_2_0 (fun a b => by kernel_rfl))
  · exact (show BindP _ _ _ 3 1 from bp_3_1 (fun a b => by kernel_rfl) (fun a b c => by kernel_rfl))
  · exact (show BindP _ _ _ 1 0 from bp_1_0 (fun a => by kernel_rfl))
  · exact (show BindD _ 3 from fun vs h => match vs, h with | [a, b, c], _ => by kernel_rfl | [], h => absurd h (by simp) | [_], h => absurd h (by simp) | [_, _], h => absurd h (by simp) | _ :: _ :: _ :: _ :: _, h => absurd h (by simp))
  · exact (show BindP _ _ _ 1 0 from bp_1_0 (fun a => by kernel_rfl))
  · exact (show BindP _ _ _ 1 0 from bp_1_0 (fun a => by kernel_rfl))
  · exact (show BindP _ _ _ 1 0 from bp_1_0 (fun a => by kernel_rfl))
  · exact (show BindP _ _ _ 1 0 from bp_1_0 (fun a => by kernel_rfl))
  · exact (show BindP _ _ _ 1 0 from bp_1_0 (fun a => by kernel_rfl))
  · exact (show BindP _ _ _ 3 0 from bp_3_0 (fun a b c => by kernel_rfl))
  · exact (show BindP _ _ _ 2 0 from bp_2_0 (fun a b => by kernel_rfl))
  · exact (show BindP _ _ _ 1 0 from bp_1_0 (fun a => by kernel_rfl))
end Ev.L2
set_option maxHeartbeats 8000000 in
theorem PySem.Challenge.cw_kt0058_02_holds : PySem.Challenge.rw_kt0058_02.Holds := by
  w_on
  refine holds_law (by kernel_rfl) fun said => ?_
  refine holds_openX (q := Ev.L2.seenText) (loose := Ev.L2.loose) (Xt := fun _ => true) (XP := fun _ _ => True) (Yf := obsE Ev.L2.sight) (Ya := fun _ => valE Ev.L2.sight) (N := 5754) Ev.L2.left (fun _ _ => trivial) (fun _ _ _ _ _ => trivial) (by rfl) (by rfl) (by rfl) (fun _ _ => recFacts_nil rfl) (by rfl) said (by decide +kernel) ⟨rfl, rfl, rfl, rfl, rfl, by decide +kernel⟩ ?hw ?hc
  case hw => w_witness2
  intro w s₀ s₁ mg mb G y fa o pm cd doc dV kV ho hd hcd hD hmg hg args vals as L hpre hlay hrd hwl hlo
  clear ho hd hcd hD
  refine Ground.open G ?_
  intro T B D TE TW
  wrow_args hpre hlay hrd hwl hlo
  rename IntsAre _ _ => hI
  rename Heap.IsList _ _ _ => hL
  obtain ⟨hat, hsz⟩ := X.script_at L
  obtain ⟨K, KX, C, cls, hlaw, hs⟩ := obs_law (mg := mg) (mb := mb) y L.keeps (by kernel_rfl) (by decide) (by rfl) (Ev.L2.bind_all ⟨PySem.Challenge.pw_kt0058_02, w.params⟩) (by rw [hsz]; exact Nat.le_succ _)
  have e := hmg.symm.trans (mg_of KX T.g hlaw)
  obtain rfl := Value.ref.inj (sJ e)
  refine Ev.law_top (Y := Ev.L2.lay) (P := Ev.L2.prog) (T := Ev.L2.tops) (lawN := 22) (k := 12) KX C T.g T.b T.nolimit T.builtins hs T.bmain cls hg ⟨0, X.script_obj L hL⟩ hI ?len (by decide) (Ev.L2.run _ ?len) (fun s' h1 h2 h3 => good_true (fun _ => rfl) (by wrow_post) h1 h2 h3)
  case len => omega
