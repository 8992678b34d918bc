import PyProof.Rows.All
import Wide.All
import OpenK.AllK
import Wide.FinOn
import PySem.Challenge.RW_kt0058_03
set_option Elab.async false
set_option linter.unusedVariables false
set_option linter.unusedSimpArgs false
set_option genSizeOf false
set_option genInjectivity false
set_option maxRecDepth 100000
namespace Ev
noncomputable abbrev Tx := List Nat
inductive TyN where | int | str | list | range | zip | type | object
  deriving DecidableEq
inductive BF where | len | max | min | sum
  deriving DecidableEq
inductive AV where
  | none
  | bool (b : Bool)
  | int (i : Int)
  | str (s : Tx)
  | tup (xs : List AV)
  | lst (xs : List AV)
  | ref (i : Nat)
  | fn (n : Nat)
  | cls
  | re (n : Nat)
  | bi (b : BF)
  | ty (t : TyN)
  | app (i : Nat)
  | lam
inductive BOp where | add | sub | mul | fdiv | mod | pow | shr
  deriving DecidableEq
inductive COp where | eq | ne | lt | le | gt | ge | is | isnot | in_ | notin
  deriving DecidableEq
inductive MN where | append | pop | join | lower | upper | replace | index | split | search | sub | other
  deriving DecidableEq
inductive AObj where
  | list (xs : List AV)
  | dict (es : List (Tx × AV))
  | idict (es : List (Tx × AV))
  | inst (d : Nat)
  | plain
noncomputable abbrev Cells := List AObj
noncomputable abbrev Fr := List (Option AV)
noncomputable def lim : Nat := 100000
noncomputable def natTx (n : Nat) : Tx := if n < 10 then [48 + n] else if n < 100 then [48 + n / 10, 48 + n % 10] else []
noncomputable def intTx : Tx → Option Int
  | [c] => if 48 ≤ c ∧ c ≤ 57 then some ((c - 48 : Nat) : Int) else none
  | _ => none
noncomputable def lowC (c : Nat) : Nat := if 65 ≤ c ∧ c ≤ 90 then c + 32 else c
noncomputable def upC (c : Nat) : Nat := if 97 ≤ c ∧ c ≤ 122 then c - 32 else c
noncomputable def ascii (s : Tx) : Bool := s.all (· < 128)
noncomputable def ltTx : Tx → Tx → Bool
  | [], [] => false
  | [], _ :: _ => true
  | _ :: _, [] => false
  | a :: r, b :: q => if a < b then true else if b < a then false else ltTx r q
noncomputable def replC (c : Nat) (y : Tx) (s : Tx) : Tx := s.flatMap fun x => if x = c then y else [x]
noncomputable def idxC (c : Nat) : Tx → Nat → Option Nat
  | [], _ => none
  | x :: r, i => if x = c then some i else idxC c r (i + 1)
noncomputable def joinTx (sep : Tx) : List Tx → Tx
  | [] => []
  | [x] => x
  | x :: r => x ++ sep ++ joinTx sep r
noncomputable def partTx (s p : Tx) : List Tx := (PySem.Builtin.Str.partsBetween ⟨s.toArray⟩ (PySem.Builtin.Str.occurrences ⟨s.toArray⟩ ⟨p.toArray⟩ 0 s.length (s.length + 1)) p.length).map fun x => x.cps.toList
noncomputable def partOk (s p : Tx) : Bool := !(decide (s.length < p.length) || decide (PySem.Builtin.Str.strKind ⟨s.toArray⟩ < PySem.Builtin.Str.strKind ⟨p.toArray⟩)) && (!(p.length == 0) && (!(PySem.Builtin.Str.occurrences ⟨s.toArray⟩ ⟨p.toArray⟩ 0 s.length (s.length + 1)).isEmpty && (partTx s p).all fun x => decide (x.length ≤ lim)))
noncomputable def insC (c : Nat) : Tx → Tx
  | [] => [c]
  | x :: r => if c ≤ x then c :: x :: r else x :: insC c r
noncomputable def sortTx (s : Tx) : Tx := s.foldr insC []
noncomputable def okSign (c : Nat) : Bool := 32 ≤ c && c < 127
noncomputable def noAmp (c : Nat) : Bool := c < 128 && c != 38 && c != 124 && c != 126
noncomputable def idxZ (n : Nat) (i : Int) : Option Nat := if 0 ≤ i then (if i < n then some i.toNat else none) else if 0 ≤ i + n then some (i + n).toNat else none
noncomputable def clampZ (n : Nat) (i : Int) : Nat := (max 0 (min (if i < 0 then i + n else i) (n : Int))).toNat
noncomputable def cut {α : Type} (xs : List α) (lo hi : Nat) : List α := (xs.take hi).drop lo
noncomputable def AV.int? : AV → Option Int
  | .int i => .some i
  | _ => .none
noncomputable def AV.str? : AV → Option Tx
  | .str s => .some s
  | _ => .none
noncomputable def AV.tup? : AV → Option (List AV)
  | .tup xs => .some xs
  | _ => .none
noncomputable def AV.lst? : AV → Option (List AV)
  | .lst xs => .some xs
  | _ => .none
noncomputable def AV.bool? : AV → Option Bool
  | .bool b => .some b
  | _ => .none
noncomputable def AV.ref? : AV → Option Nat
  | .ref i => .some i
  | _ => .none
noncomputable def AV.re? : AV → Option Nat
  | .re i => .some i
  | _ => .none
noncomputable def AV.ty? : AV → Option TyN
  | .ty t => .some t
  | _ => .none
noncomputable def AV.none? : AV → Bool
  | .none => true
  | _ => false
noncomputable def AV.bi? : AV → Bool
  | .bi _ => true
  | _ => false
noncomputable def AV.lam? : AV → Bool
  | .lam => true
  | _ => false
noncomputable def allStr : List AV → Option (List Tx)
  | [] => some []
  | x :: r => x.str?.bind fun s => (allStr r).map (s :: ·)
noncomputable def allInt : List AV → Option (List Int)
  | [] => some []
  | x :: r => x.int?.bind fun i => (allInt r).map (i :: ·)
mutual
noncomputable def below (n : Nat) : AV → Bool
  | .tup xs => belows n xs
  | .lst xs => belows n xs
  | .ref i => i < n
  | .app i => i < n
  | _ => true
noncomputable def belows (n : Nat) : List AV → Bool
  | [] => true
  | x :: r => below n x && belows n r
end
noncomputable def AObj.list? : AObj → Option (List AV)
  | .list xs => some xs
  | _ => none
noncomputable def AObj.dict? : AObj → Option (List (Tx × AV))
  | .dict es => some es
  | _ => none
noncomputable def AObj.inst? : AObj → Option Nat
  | .inst d => some d
  | _ => none
noncomputable def AObj.idict? : AObj → Option (List (Tx × AV))
  | .idict es => some es
  | _ => none
noncomputable def listAt (cs : Cells) (i : Nat) : Option (List AV) := (cs[i]?).bind AObj.list?
noncomputable def dictAt (cs : Cells) (i : Nat) : Option (List (Tx × AV)) := (cs[i]?).bind AObj.dict?
noncomputable def instAt (cs : Cells) (i : Nat) : Option Nat := (cs[i]?).bind AObj.inst?
noncomputable def idictAt (cs : Cells) (d : Nat) : Option (List (Tx × AV)) := (cs[d]?).bind AObj.idict?
noncomputable abbrev orElse {α β : Type} (a : Option α) (f : α → β) (d : β) : β := Option.elim a d f
noncomputable def one? {α : Type} : List α → Option α
  | [a] => some a
  | _ => none
noncomputable def two? {α : Type} : List α → Option (α × α)
  | [a, b] => some (a, b)
  | _ => none
noncomputable def listOf (cs : Cells) (a : AV) : Option (List AV) := orElse a.lst? some (a.ref?.bind (listAt cs))
noncomputable def eqvs (f : AV → AV → Option Bool) : List AV → List AV → Option Bool
  | [], ys => some ys.isEmpty
  | _ :: _, [] => some false
  | x :: xs, y :: ys => (f x y).bind fun a => (eqvs f xs ys).map (a && ·)
noncomputable def eqv (cs : Cells) : Nat → AV → AV → Option Bool
  | 0, _, _ => none
  | n + 1, a, b => orElse a.int? (fun x => b.int?.map (x == ·)) (orElse a.str? (fun x => b.str?.map (x == ·)) (orElse a.tup? (fun xs => b.tup?.bind (eqvs (eqv cs n) xs))
      ((listOf cs a).bind fun xs => (listOf cs b).bind fun ys => if xs.length = ys.length then eqvs (eqv cs n) xs ys else some false)))
noncomputable def ltvs (e f : AV → AV → Option Bool) : List AV → List AV → Option Bool
  | [], ys => some (!ys.isEmpty)
  | _ :: _, [] => some false
  | x :: xs, y :: ys => (e x y).bind fun t => if t then ltvs e f xs ys else f x y
noncomputable def ltv (cs : Cells) : Nat → AV → AV → Option Bool
  | 0, _, _ => none
  | n + 1, a, b => orElse a.int? (fun x => b.int?.map fun y => decide (x < y)) (orElse a.str? (fun x => b.str?.map (ltTx x)) (a.tup?.bind fun xs => b.tup?.bind (ltvs (eqv cs n) (ltv cs n) xs)))
noncomputable def fuelEq : Nat := 8
noncomputable def isv (a b : AV) : Option Bool := if b.none? then (if a.bi? then none else some a.none?) else orElse a.ref? (fun i => b.ref?.map (i == ·)) (orElse a.str? (fun _ => b.ref?.map fun _ => false) (a.ty?.bind fun x => b.ty?.map (x == ·)))
noncomputable def membv (cs : Cells) (a : AV) : List AV → Option Bool
  | [] => some false
  | y :: r => (eqv cs fuelEq y a).bind fun t => (membv cs a r).map (t || ·)
noncomputable def inv (cs : Cells) (a b : AV) : Option Bool := orElse b.str? (fun s => (a.str?.bind one?).map s.contains) (orElse b.tup? (membv cs a) ((listOf cs b).bind (membv cs a)))
noncomputable def ordv (f : Int → Int → Bool) (g : Tx → Tx → Bool) (a b : AV) : Option Bool := orElse a.int? (fun x => b.int?.map (f x)) (a.str?.bind fun x => b.str?.map (g x))
noncomputable def cmpv (cs : Cells) (op : COp) (a b : AV) : Option Bool := match op with
  | .eq => orElse a.bool? (fun x => b.bool?.map (x == ·)) (eqv cs fuelEq a b)
  | .ne => orElse a.bool? (fun x => b.bool?.map (x != ·)) (if a.none? then b.str?.map fun _ => true else (eqv cs fuelEq a b).map (!·))
  | .lt => ltv cs fuelEq a b
  | .gt => ordv (fun x y => decide (y < x)) (fun x y => ltTx y x) a b
  | .le => ordv (fun x y => decide (x ≤ y)) (fun x y => !ltTx y x) a b
  | .ge => a.int?.bind fun x => b.int?.map fun y => decide (y ≤ x)
  | .is => isv a b
  | .isnot => (isv a b).map (!·)
  | .in_ => inv cs a b
  | .notin => (inv cs a b).map (!·)
noncomputable def truthy (cs : Cells) (a : AV) : Option Bool := orElse a.bool? some (orElse a.int? (fun i => some (i != 0)) (orElse a.str? (fun s => some (!s.isEmpty)) (if a.none? then some false else (listOf cs a).map (!·.isEmpty))))
noncomputable def mk (m : Bool) (xs : List AV) (cs : Cells) : Option (AV × Cells) := if xs.length ≤ lim then some (if m then (.ref cs.length, cs ++ [.list xs]) else (.lst xs, cs)) else none
noncomputable def rep {α : Type} (n : Nat) (xs : List α) : List α := match n with
  | 0 => []
  | n + 1 => xs ++ rep n xs
noncomputable def powZ (a : Int) (b : Nat) : Int := a ^ b
noncomputable def intv (a b : AV) (cs : Cells) (f : Int → Int → Option Int) : Option (AV × Cells) := a.int?.bind fun x => b.int?.bind fun y => (f x y).map fun z => (.int z, cs)
noncomputable def binv (m : Bool) (op : BOp) (a b : AV) (cs : Cells) : Option (AV × Cells) := match op with
  | .add => orElse a.int? (fun x => b.int?.map fun y => (.int (x + y), cs)) (orElse a.str? (fun x => b.str?.bind fun y => if x.length + y.length ≤ lim then some (.str (x ++ y), cs) else none)
      ((listOf cs a).bind fun xs => (listOf cs b).bind fun ys => mk m (xs ++ ys) cs))
  | .sub => intv a b cs fun x y => some (x - y)
  | .mul => orElse a.int? (fun x => b.int?.bind fun y => if x.natAbs < 2 ^ 64 ∧ y.natAbs < 2 ^ 64 then some (.int (x * y), cs) else none)
      ((listOf cs a).bind fun xs => b.int?.bind fun n => if 0 ≤ n ∧ n ≤ 16 then mk m (rep n.toNat xs) cs else none)
  | .fdiv => intv a b cs fun x y => if 0 < y ∧ y.natAbs < 2 ^ 64 then some (x / y) else none
  | .mod => intv a b cs fun x y => if 0 < y then some (x % y) else none
  | .pow => intv a b cs fun x y => if 0 ≤ y ∧ y ≤ 16 ∧ 0 ≤ x ∧ x ≤ 16 then some (powZ x y.toNat) else none
  | .shr => intv a b cs fun x y => if y = 1 ∧ 0 ≤ x then some (x / 2) else none
noncomputable def augv (op : BOp) (a b : AV) : Option AV := match op with
  | .add => orElse a.int? (fun x => b.int?.map fun y => .int (x + y)) (a.str?.bind fun x => b.str?.bind fun y => if x.length + y.length ≤ lim then some (.str (x ++ y)) else none)
  | .fdiv => a.int?.bind fun x => b.int?.bind fun y => if 0 < y ∧ y.natAbs < 2 ^ 64 then some (.int (x / y)) else none
  | _ => none
noncomputable def idxv (cs : Cells) (o i : AV) : Option AV := orElse i.int? (fun i => orElse o.str? (fun s => (idxZ s.length i).bind fun k => (s[k]?).map fun c => .str [c])
    (orElse o.tup? (fun xs => (idxZ xs.length i).bind fun k => xs[k]?) ((listOf cs o).bind fun xs => (idxZ xs.length i).bind fun k => xs[k]?)))
  (i.str?.bind fun k => (o.ref?.bind (dictAt cs)).bind fun es => es.lookup k)
noncomputable def boundv (n d : Nat) (a : AV) : Option Nat := if a.none? then some d else a.int?.map (clampZ n)
noncomputable def slcv (m : Bool) (cs : Cells) (o lo hi : AV) : Option (AV × Cells) :=
  orElse o.str? (fun s => (boundv s.length 0 lo).bind fun l => (boundv s.length s.length hi).map fun h => (.str (cut s l h), cs))
    ((listOf cs o).bind fun xs => (boundv xs.length 0 lo).bind fun l => (boundv xs.length xs.length hi).bind fun h => mk m (cut xs l h) cs)
noncomputable def maxL : Int → List Int → Int
  | a, [] => a
  | a, x :: r => maxL (if a < x then x else a) r
noncomputable def minL : Int → List Int → Int
  | a, [] => a
  | a, x :: r => minL (if x < a then x else a) r
noncomputable def maxOf : List Int → Option Int
  | [] => none
  | x :: r => some (maxL x r)
noncomputable def minOf : List Int → Option Int
  | [] => none
  | x :: r => some (minL x r)
noncomputable def intsOf (cs : Cells) (args : List AV) : Option (List Int) := (one? args).bind fun a => (listOf cs a).bind allInt
noncomputable def bicall (f : BF) (args : List AV) (cs : Cells) : Option (AV × Cells) := match f with
  | .len => (one? args).bind fun a => orElse a.str? (fun s => some (.int s.length, cs)) ((listOf cs a).map fun xs => (.int xs.length, cs))
  | .max => orElse (two? args) (fun p => p.1.int?.bind fun a => p.2.int?.map fun b => (.int (if a < b then b else a), cs)) ((intsOf cs args).bind fun xs => (maxOf xs).map fun x => (.int x, cs))
  | .min => orElse (two? args) (fun p => p.1.int?.bind fun a => p.2.int?.map fun b => (.int (if b < a then b else a), cs)) ((intsOf cs args).bind fun xs => (minOf xs).map fun x => (.int x, cs))
  | .sum => (intsOf cs args).map fun xs => (.int xs.sum, cs)
noncomputable def tycall (t : TyN) (args : List AV) (cs : Cells) : Option (AV × Cells) := match t with
  | .int => (one? args).bind fun a => (a.str?.bind intTx).map fun i => (.int i, cs)
  | .str => (one? args).bind fun a => a.int?.bind fun i => if 0 ≤ i ∧ i < 100 then some (.str (natTx i.toNat), cs) else none
  | .type => (one? args).bind fun a => orElse a.str? (fun _ => some (.ty .str, cs)) ((listOf cs a).map fun _ => (.ty .list, cs))
  | .object => if args.isEmpty then some (.ref cs.length, cs ++ [.plain]) else none
  | _ => none
noncomputable def bcall (f : AV) (args : List AV) (cs : Cells) : Option (AV × Cells) := match f with
  | .bi b => bicall b args cs
  | .ty t => tycall t args cs
  | _ => none
noncomputable def put (n : Nat) (i : Nat) (v : AV) : Bool := n ≤ i || below 0 v
noncomputable def appendv (n : Nat) (i : Nat) (v : AV) (cs : Cells) : Option (AV × Cells) := (listAt cs i).bind fun xs => if put n i v && xs.length < lim then some (.none, cs.set i (.list (xs ++ [v]))) else none
noncomputable def MN.ofStr : MN → Bool
  | .join => true | .lower => true | .upper => true | .replace => true | .index => true
  | .split => true
  | _ => false
noncomputable def MN.ofList : MN → Bool
  | .append => true | .pop => true
  | _ => false
noncomputable def MN.ofRe : MN → Bool
  | .search => true | .sub => true
  | _ => false
noncomputable def methOk (cs : Cells) (o : AV) (nm : MN) : Bool := orElse o.str? (fun _ => nm.ofStr) (orElse o.ref? (fun i => (listAt cs i).isSome && nm.ofList) (o.re?.isSome && nm.ofRe))
noncomputable def strCall (nm : MN) (s : Tx) (args : List AV) (cs : Cells) : Option (AV × Cells) := match nm with
  | .join => (one? args).bind fun a => ((listOf cs a).bind allStr).bind fun xs => if (joinTx s xs).length ≤ lim then some (.str (joinTx s xs), cs) else none
  | .lower => if args.isEmpty && ascii s then some (.str (s.map lowC), cs) else none
  | .upper => if args.isEmpty && ascii s then some (.str (s.map upC), cs) else none
  | .replace => (two? args).bind fun p => (p.1.str?.bind one?).bind fun c => p.2.str?.bind fun _ => if c ∉ s then some (.str s, cs) else none
  | .index => (one? args).bind fun a => ((a.str?.bind one?).bind fun c => idxC c s 0).map fun (k : Nat) => (.int (k : Int), cs)
  | .split => (one? args).bind fun a => a.str?.bind fun p => if partOk s p then mk false ((partTx s p).map .str) cs else none
  | _ => none
noncomputable def listCall (n : Nat) (nm : MN) (i : Nat) (args : List AV) (cs : Cells) : Option (AV × Cells) := match nm with
  | .append => (one? args).bind fun v => appendv n i v cs
  | .pop => if args.isEmpty then (listAt cs i).bind fun xs => (xs.getLast?).map fun v => (v, cs.set i (.list xs.dropLast)) else none
  | _ => none
noncomputable def reCall (nm : MN) (k : Nat) (args : List AV) (cs : Cells) : Option (AV × Cells) := match nm with
  | .search => (one? args).bind fun a => a.str?.bind fun s => if k < 2 ∧ s.all okSign then some (.none, cs) else none
  | .sub => (two? args).bind fun p => if p.1.lam? then p.2.str?.bind fun s => if k = 2 ∧ s.all noAmp then some (.str s, cs) else none else none
  | _ => none
noncomputable def mcall (n : Nat) (o : AV) (nm : MN) (args : List AV) (cs : Cells) : Option (AV × Cells) := orElse o.str? (fun s => strCall nm s args cs) (orElse o.ref? (fun i => listCall n nm i args cs) (o.re?.bind fun k => reCall nm k args cs))
noncomputable def dput (k : Tx) (v : AV) (es : List (Tx × AV)) : List (Tx × AV) :=
  if es.any (fun kv => decide (kv.1 = k)) then es.map (fun kv => if kv.1 = k then (kv.1, v) else kv) else es ++ [(k, v)]
noncomputable def setIdx (n : Nat) (o i v : AV) (cs : Cells) : Option Cells := o.ref?.bind fun j =>
  orElse i.int? (fun k => (listAt cs j).bind fun xs => if put n j v ∧ 0 ≤ k ∧ k < xs.length then some (cs.set j (.list (xs.set k.toNat v))) else none)
    (i.str?.bind fun k => (dictAt cs j).bind fun es => if put n j v ∧ es.length < lim then some (cs.set j (.dict (dput k v es))) else none)
noncomputable def instOf (cs : Cells) (o : AV) : Option (Nat × List (Tx × AV)) := o.ref?.bind fun i => (instAt cs i).bind fun d => (idictAt cs d).map fun es => (d, es)
noncomputable def attrv (cs : Cells) (o : AV) (nm : Tx) : Option AV := (instOf cs o).bind fun p => p.2.lookup nm
noncomputable def isInst (cs : Cells) (o : AV) : Bool := (instOf cs o).isSome
noncomputable def rangeL (a c : Int) : Nat → List AV
  | 0 => []
  | n + 1 => .int a :: rangeL (a + c) c n
inductive It where
  | items (xs : List AV)
  | cell (i : Nat)
noncomputable def itv (cs : Cells) (a : AV) : Option It := orElse a.str? (fun s => if ascii s then some (.items (s.map fun c => .str [c])) else none) (orElse a.tup? (fun xs => some (.items xs)) (orElse a.lst? (fun xs => some (.items xs))
  (a.ref?.bind fun i => (listAt cs i).map fun _ => .cell i)))
inductive Fl where
  | next | brk | cont
  | ret (v : AV)
noncomputable def setAll (is : List Nat) (xs : List AV) (fr : Fr) : Fr := (is.zip xs).foldl (fun fr p => fr.set p.1 (some p.2)) fr
noncomputable def bindT (is : List Nat) (v : AV) (fr : Fr) : Option Fr := orElse (one? is) (fun i => if i < fr.length then some (fr.set i (some v)) else none)
  (v.tup?.bind fun xs => if is.length = xs.length ∧ is.all (· < fr.length) then some (setAll is xs fr) else none)
noncomputable def bindN (t : List Nat) (x : AV) (fr : Fr) : Option Fr := if t.all (fun i => decide (i < fr.length) && ((fr[i]?).join).isNone) then bindT t x fr else none
noncomputable abbrev CF := Nat → List AV → Option AV → Cells → Option (AV × Cells)
structure Wd where
  cf : CF
  setN : Nat
  delN : Nat
  new : Cells → Option (AV × Cells)
noncomputable def callv (W : Wd) (f : AV) (args : List AV) (n : Nat) (cs : Cells) : Option (AV × Cells) := match f with
  | .fn k => W.cf k args none cs
  | .app i => (one? args).bind fun v => appendv n i v cs
  | f => bcall f args cs
noncomputable def goItems {σ : Type} (st : AV → σ → Option σ) : List AV → σ → Option σ
  | [], s => some s
  | x :: r, s => (st x s).bind (goItems st r)
noncomputable def goCell {σ : Type} (cells : σ → Cells) (i : Nat) (st : AV → σ → Option σ) : Nat → Nat → σ → Option σ
  | 0, _, _ => none
  | f + 1, k, s => (listAt (cells s) i).bind fun xs => orElse xs[k]? (fun x => (st x s).bind (goCell cells i st f (k + 1))) (some s)
noncomputable def goIt {σ : Type} (cells : σ → Cells) (st : AV → σ → Option σ) (fuel : Nat) (it : It) (s : σ) : Option σ := match it with
  | .items xs => goItems st xs s
  | .cell i => goCell cells i st fuel 0 s
noncomputable def loopFuel : Nat := 4000
noncomputable abbrev Pc (α : Type) := Wd → Nat → Fr → Cells → Option (α × Cells)
noncomputable abbrev ME := Pc AV
noncomputable abbrev MB := Pc Bool
noncomputable def evEs (W : Wd) (n : Nat) : List ME → Fr → Cells → Option (List AV × Cells)
  | [], _, cs => some ([], cs)
  | e :: r, fr, cs => (e W n fr cs).bind fun q => (evEs W n r fr q.2).map fun p => (q.1 :: p.1, p.2)
noncomputable def evAO (W : Wd) (n : Nat) (o : Bool) : List MB → Fr → Cells → Option (Bool × Cells)
  | [], _, cs => some (o, cs)
  | e :: r, fr, cs => (e W n fr cs).bind fun q => if q.1 = o then evAO W n o r fr q.2 else some q
noncomputable def evAOV (W : Wd) (n : Nat) (o : Bool) : List ME → Fr → Cells → Option (AV × Cells)
  | [], _, _ => none
  | e :: r, fr, cs => (e W n fr cs).bind fun q => q.1.bool?.bind fun b => if r.isEmpty then some (.bool b, q.2) else if b = o then evAOV W n o r fr q.2 else some (.bool b, q.2)
structure MI where
  zip : Bool
  run : Pc It
structure Cl where
  k : Nat
  t : List Nat
  it : MI
  ifs : List MB
noncomputable def evC (W : Wd) (n : Nat) (elt : ME) : List Cl → Fr → Cells → List AV → Option (List AV × Cells)
  | [], fr, cs, acc => (elt W n fr cs).bind fun r => if acc.length < lim then some (acc ++ [r.1], r.2) else none
  | c :: r, fr, cs, acc => (c.it.run W n fr cs).bind fun q =>
      goIt (fun s : List AV × Cells => s.2) (fun x s => (bindN c.t x (fr ++ List.replicate c.k none)).bind fun fr' => (evAO W n true c.ifs fr' s.2).bind fun p =>
        if p.1 then evC W n elt r fr' p.2 s.1 else some (s.1, p.2)) loopFuel q.1 (acc, q.2)
noncomputable def eFail {α : Type} : Pc α := fun _ _ _ _ => none
noncomputable def eLit (v : AV) : ME := fun _ _ _ cs => some (v, cs)
noncomputable def eVar (i : Nat) : ME := fun _ _ fr cs => ((fr[i]?).join).map fun v => (v, cs)
noncomputable def eBin (m : Bool) (op : BOp) (a b : ME) : ME := fun W n fr cs => (a W n fr cs).bind fun r => (b W n fr r.2).bind fun q => binv m op r.1 q.1 q.2
noncomputable def eNeg (a : ME) : ME := fun W n fr cs => (a W n fr cs).bind fun r => r.1.int?.map fun i => (.int (-i), r.2)
noncomputable def eNot (a : ME) : ME := fun W n fr cs => (a W n fr cs).bind fun r => (truthy r.2 r.1).map fun b => (.bool (!b), r.2)
noncomputable def eAO (o : Bool) (es : List ME) : ME := fun W n fr cs => evAOV W n o es fr cs
noncomputable def eIte (c : MB) (a b : ME) : ME := fun W n fr cs => (c W n fr cs).bind fun r => if r.1 then a W n fr r.2 else b W n fr r.2
noncomputable def eCmp (op : COp) (a b : ME) : ME := fun W n fr cs => (a W n fr cs).bind fun r => (b W n fr r.2).bind fun q => (cmpv q.2 op r.1 q.1).map fun x => (.bool x, q.2)
noncomputable def eTup (es : List ME) : ME := fun W n fr cs => (evEs W n es fr cs).bind fun r => if r.1.length ≤ lim then some (.tup r.1, r.2) else none
noncomputable def eList (m : Bool) (es : List ME) : ME := fun W n fr cs => (evEs W n es fr cs).bind fun r => mk m r.1 r.2
noncomputable def eDict : ME := fun _ _ _ cs => some (.ref cs.length, cs ++ [.dict []])
noncomputable def eComp (m : Bool) (elt : ME) (c : List Cl) : ME := fun W n fr cs => (evC W n elt c fr cs []).bind fun r => mk m r.1 r.2
noncomputable def eCall (f : ME) (as : List ME) : ME := fun W n fr cs => (f W n fr cs).bind fun r => (evEs W n as fr r.2).bind fun q => callv W r.1 q.1 n q.2
noncomputable def eMeth (o : ME) (nm : MN) (own : Option Nat) (as : List ME) : ME := fun W n fr cs => (o W n fr cs).bind fun r => (evEs W n as fr r.2).bind fun q =>
  if isInst r.2 r.1 then own.bind fun k => W.cf k (r.1 :: q.1) none q.2 else if methOk r.2 r.1 nm then mcall n r.1 nm q.1 q.2 else none
noncomputable def eMethk (o : ME) (k : Nat) (as : List ME) (kw : ME) : ME := fun W n fr cs => (o W n fr cs).bind fun r => (evEs W n as fr r.2).bind fun q => (kw W n fr q.2).bind fun p => if isInst r.2 r.1 then W.cf k (r.1 :: q.1) (some p.1) p.2 else none
noncomputable def eNew : ME := fun W _ _ cs => W.new cs
noncomputable def eAttr (o : ME) (nm : Tx) : ME := fun W n fr cs => (o W n fr cs).bind fun r => (attrv r.2 r.1 nm).map fun v => (v, r.2)
noncomputable def eAttrApp (o : ME) : ME := fun W n fr cs => (o W n fr cs).bind fun r => r.1.ref?.bind fun i => (listAt r.2 i).map fun _ => (.app i, r.2)
noncomputable def eIdx (o i : ME) : ME := fun W n fr cs => (o W n fr cs).bind fun r => (i W n fr r.2).bind fun q => (idxv q.2 r.1 q.1).map fun v => (v, q.2)
noncomputable def eSlc (m : Bool) (o lo hi : ME) : ME := fun W n fr cs => (o W n fr cs).bind fun r => (lo W n fr r.2).bind fun p => (hi W n fr p.2).bind fun q => slcv m q.2 r.1 p.1 q.1
noncomputable def eFstr (es : List ME) : ME := fun W n fr cs => (evEs W n es fr cs).bind fun r => (allStr r.1).bind fun xs => if (joinTx [] xs).length ≤ lim then some (.str (joinTx [] xs), r.2) else none
noncomputable def eLam : ME := fun _ _ _ cs => some (.lam, cs)
noncomputable def bOf (e : ME) : MB := fun W n fr cs => (e W n fr cs).bind fun r => (truthy r.2 r.1).map fun b => (b, r.2)
noncomputable def bNot (a : MB) : MB := fun W n fr cs => (a W n fr cs).map fun r => (!r.1, r.2)
noncomputable def bAO (o : Bool) (es : List MB) : MB := fun W n fr cs => evAO W n o es fr cs
noncomputable def bIte (c a b : MB) : MB := fun W n fr cs => (c W n fr cs).bind fun r => if r.1 then a W n fr r.2 else b W n fr r.2
noncomputable def bCmp (op : COp) (a b : ME) : MB := fun W n fr cs => (a W n fr cs).bind fun r => (b W n fr r.2).bind fun q => (cmpv q.2 op r.1 q.1).map fun x => (x, q.2)
noncomputable def iVal (e : ME) : MI := ⟨false, fun W n fr cs => (e W n fr cs).bind fun r => (itv r.2 r.1).map fun i => (i, r.2)⟩
noncomputable def near (i : Int) : Bool := decide (-1000 ≤ i ∧ i ≤ 1000)
noncomputable def rangeOf : List Int → Option (List AV)
  | [k] => if near k then some (rangeL 0 1 k.toNat) else none
  | [i, j] => if near i && near j then some (rangeL i 1 (j - i).toNat) else none
  | _ => none
noncomputable def iRange (es : List ME) : MI := ⟨false, fun W n fr cs => (evEs W n es fr cs).bind fun q => ((allInt q.1).bind rangeOf).map fun xs => (.items xs, q.2)⟩
set_option genInjectivity true in
structure Ou where
  fl : Fl
  fr : Fr
  cs : Cells
noncomputable abbrev MS := Wd → Nat → Fr → Cells → Option Ou
noncomputable abbrev MT := AV → Wd → Nat → Fr → Cells → Option (Fr × Cells)
noncomputable def tVar (i : Nat) : MT := fun v _ _ fr cs => if i < fr.length then some (fr.set i (some v), cs) else none
noncomputable def tIdx (o i : ME) : MT := fun v W n fr cs => (o W n fr cs).bind fun r => (i W n fr r.2).bind fun q => if isInst q.2 r.1 then (W.cf W.setN [r.1, q.1, v] none q.2).map fun z => (fr, z.2)
    else (setIdx n r.1 q.1 v q.2).map fun cs => (fr, cs)
noncomputable def tAttr (o : ME) (nm : Tx) : MT := fun v W n fr cs => (o W n fr cs).bind fun r => (instOf r.2 r.1).bind fun p => if put n p.1 v then some (fr, r.2.set p.1 (.idict (dput nm v p.2))) else none
noncomputable def tWhole (o : ME) : MT := fun v W n fr cs => (o W n fr cs).bind fun r => r.1.ref?.bind fun i => v.lst?.bind fun ys => (listAt r.2 i).bind fun _ => if n ≤ i || belows 0 ys then some (fr, r.2.set i (.list ys)) else none
noncomputable def Ou.then (o : Ou) (k : Fr → Cells → Option Ou) : Option Ou := match o.fl with
  | .next => k o.fr o.cs
  | .cont => k o.fr o.cs
  | .brk => some ⟨.next, o.fr, o.cs⟩
  | .ret v => some ⟨.ret v, o.fr, o.cs⟩
noncomputable def whileGo (st : Fr → Cells → Option Ou) : Nat → Fr → Cells → Option Ou
  | 0, _, _ => none
  | f + 1, fr, cs => (st fr cs).bind fun o => o.then (whileGo st f)
noncomputable def forItems (st : AV → Fr → Cells → Option Ou) : List AV → Fr → Cells → Option Ou
  | [], fr, cs => some ⟨.next, fr, cs⟩
  | x :: r, fr, cs => (st x fr cs).bind fun o => o.then (forItems st r)
noncomputable def forCell (st : AV → Fr → Cells → Option Ou) (i : Nat) : Nat → Nat → Fr → Cells → Option Ou
  | 0, _, _, _ => none
  | f + 1, k, fr, cs => (listAt cs i).bind fun xs => orElse xs[k]? (fun x => (st x fr cs).bind fun o => o.then (forCell st i f (k + 1))) (some ⟨.next, fr, cs⟩)
noncomputable def forGo (st : AV → Fr → Cells → Option Ou) (it : It) (fr : Fr) (cs : Cells) : Option Ou := match it with
  | .items xs => forItems st xs fr cs
  | .cell i => forCell st i loopFuel 0 fr cs
noncomputable def extendv (n : Nat) (a b : AV) (cs : Cells) : Option Cells := a.ref?.bind fun i => (listAt cs i).bind fun xs => (listOf cs b).bind fun ys => if (n ≤ i || belows 0 ys) && xs.length + ys.length ≤ lim then some (cs.set i (.list (xs ++ ys))) else none
noncomputable def evSs (W : Wd) (n : Nat) : List MS → Fr → Cells → Option Ou
  | [], fr, cs => some ⟨.next, fr, cs⟩
  | s :: r, fr, cs => (s W n fr cs).bind fun o => match o.fl with
    | .next => evSs W n r o.fr o.cs
    | .brk => some o
    | .cont => some o
    | .ret _ => some o
noncomputable def sFail : MS := fun _ _ _ _ => none
noncomputable def sExpr (e : ME) : MS := fun W n fr cs => (e W n fr cs).bind fun r => if r.1.none? then some ⟨.next, fr, r.2⟩ else none
noncomputable def sAssign (t : MT) (e : ME) : MS := fun W n fr cs => (e W n fr cs).bind fun r => (t r.1 W n fr r.2).map fun q => ⟨.next, q.1, q.2⟩
noncomputable def sAsgT (is : List Nat) (e : ME) : MS := fun W n fr cs => (e W n fr cs).bind fun r => (orElse r.1.tup? some r.1.lst?).bind fun xs => if is.length = xs.length then some ⟨.next, setAll is xs fr, r.2⟩ else none
noncomputable def sAug (i : Nat) (op : BOp) (e : ME) : MS := fun W n fr cs => ((fr[i]?).join).bind fun a => (e W n fr cs).bind fun r =>
  if a.ref?.isSome then (match op with | .add => (extendv n a r.1 r.2).map fun cs => ⟨.next, fr, cs⟩ | _ => none) else (augv op a r.1).map fun q => ⟨.next, fr.set i (some q), r.2⟩
noncomputable def sDel (o i : ME) : MS := fun W n fr cs => (o W n fr cs).bind fun r => (i W n fr r.2).bind fun q => if isInst q.2 r.1 then (W.cf W.delN [r.1, q.1] none q.2).map fun z => ⟨.next, fr, z.2⟩ else none
noncomputable def sIte (c : MB) (a b : List MS) : MS := fun W n fr cs => (c W n fr cs).bind fun r => if r.1 then evSs W n a fr r.2 else evSs W n b fr r.2
noncomputable def sWhile (c : MB) (b : List MS) : MS := fun W n fr cs => whileGo (fun fr cs => (c W n fr cs).bind fun r => if r.1 then evSs W n b fr r.2 else some ⟨.brk, fr, r.2⟩) loopFuel fr cs
noncomputable def sFor (t : List Nat) (it : MI) (b : List MS) : MS := fun W n fr cs => (it.run W n fr cs).bind fun q => forGo (fun x fr cs => (bindT t x fr).bind fun fr' => evSs W n b fr' cs) q.1 fr q.2
noncomputable def sItems (a : ME) : MS := fun W n fr cs => (a W n fr cs).bind fun r => (r.1.ref?.bind (dictAt r.2)).bind fun es => if es.isEmpty then some ⟨.next, fr, r.2⟩ else none
noncomputable def sRet (e : ME) : MS := fun W n fr cs => (e W n fr cs).map fun r => ⟨.ret r.1, fr, r.2⟩
noncomputable def sBrk : MS := fun _ _ fr cs => some ⟨.brk, fr, cs⟩
noncomputable def sCont : MS := fun _ _ fr cs => some ⟨.cont, fr, cs⟩
noncomputable def sAssert (c : MB) : MS := fun W n fr cs => (c W n fr cs).bind fun r => if r.1 then some ⟨.next, fr, r.2⟩ else none
structure Fn where
  np : Nat
  dfl : List AV
  ko : Bool
  kd : Bool
  slots : Nat
  body : List MS
noncomputable def Fn.bind (F : Fn) (args : List AV) (kw : Option AV) (cs : Cells) : Option (List AV × Cells) :=
  if args.length ≤ F.np ∧ F.np ≤ args.length + F.dfl.length then
    let as := args ++ F.dfl.drop (F.dfl.length - (F.np - args.length))
    orElse kw (fun v => if F.ko && !F.kd then some (as ++ [v], cs) else none) (if F.ko then none else if F.kd then some (as ++ [.ref cs.length], cs ++ [.dict []]) else some (as, cs))
  else none
noncomputable def retv : Fl → Option AV
  | .ret v => some v
  | .next => some .none
  | .brk => none
  | .cont => none
noncomputable def shut (n : Nat) (v : AV) (cs : Cells) : AV × Cells := if below 0 v then (v, cs.take n) else (v, cs)
noncomputable def Fn.run (F : Fn) (W : Wd) (n : Nat) (args : List AV) (kw : Option AV) (cs : Cells) : Option (AV × Cells) :=
  (F.bind args kw cs).bind fun r => (evSs W n F.body (r.1.map some ++ List.replicate (F.slots - r.1.length) none) r.2).bind fun o => (retv o.fl).map fun v => (v, o.cs)
structure Prog where
  fs : List Fn
  initN : Nat
  setN : Nat
  delN : Nat
noncomputable def openRun (W : Wd) (F : Fn) (args : List AV) (kw : Option AV) (cs : Cells) : Option (AV × Cells) := (F.run W cs.length args kw cs).map fun r => shut cs.length r.1 r.2
noncomputable def closed (W : Wd) (F : Fn) (args : List AV) (kw : Option AV) (cs : Cells) : Option (AV × Cells) :=
  orElse (if belows 0 args && kw.all (below 0) then (F.run W 0 args kw []).bind fun r => if below 0 r.1 then some r.1 else none else none) (fun v => some (v, cs)) (openRun W F args kw cs)
noncomputable def callAt (P : Prog) : Nat → Wd
  | 0 => ⟨fun _ _ _ _ => none, P.setN, P.delN, fun _ => none⟩
  | k + 1 => ⟨fun f args kw cs => (P.fs[f]?).bind fun F => closed (callAt P k) F args kw cs, P.setN, P.delN,
      fun cs => (P.fs[P.initN]?).bind fun F => (F.run (callAt P k) cs.length [.ref cs.length] none (cs ++ [.inst (cs.length + 1), .idict []])).bind fun r => if r.1.none? then some (.ref cs.length, r.2) else none⟩
end Ev
namespace Ev
open PySem (Expr Stmt Str NameKind Scope Comprehension Pos Const Operator CmpOp UnaryOp)
noncomputable def tx (s : Str) : Tx := s.cps.toList
structure Cx where
  globs : List (Tx × AV)
  meths : List (Tx × Nat)
  marks : List (Nat × Nat)
  kinds : List (Str × NameKind)
  slots : List (Tx × Nat)
  n : Nat
  lamOk : Bool := true
noncomputable def Cx.mark (cx : Cx) (p : Pos) : Bool := cx.marks.contains (p.line, p.col)
noncomputable def kindOf (cx : Cx) (x : Str) : Option NameKind := cx.kinds.lookup x
noncomputable def classdictTx : Tx := [95, 95, 99, 108, 97, 115, 115, 100, 105, 99, 116, 95, 95]
noncomputable def isVar : Option NameKind → Bool
  | some .local => true
  | some .cell => true
  | some .free => true
  | _ => false
set_option genInjectivity true in
inductive NV where
  | lit (v : AV)
  | var (i : Nat)
  | no
noncomputable def nameV (cx : Cx) (x : Str) : NV :=
  if tx x = [95, 95, 100, 101, 98, 117, 103, 95, 95] then .lit (.bool true) else
  if kindOf cx x = some .globalImplicit then (cx.globs.lookup (tx x)).elim .no .lit
  else if isVar (kindOf cx x) && tx x != classdictTx then (cx.slots.lookup (tx x)).elim .no .var else .no
noncomputable def eName : NV → ME
  | .lit v => eLit v
  | .var i => eVar i
  | .no => eFail
noncomputable def NV.ty? : NV → Option TyN
  | .lit v => v.ty?
  | .var _ => none
  | .no => none
noncomputable def NV.cls? : NV → Bool
  | .lit .cls => true
  | _ => false
noncomputable def trSlot (cx : Cx) (x : Str) : Option Nat := if kindOf cx x = some .local ∨ kindOf cx x = some .cell then cx.slots.lookup (tx x) else none
noncomputable def mnames : List (Tx × MN) := [
  ([97, 112, 112, 101, 110, 100], .append), ([112, 111, 112], .pop), ([106, 111, 105, 110], .join), ([108, 111, 119, 101, 114], .lower), ([117, 112, 112, 101, 114], .upper),
  ([114, 101, 112, 108, 97, 99, 101], .replace), ([105, 110, 100, 101, 120], .index), ([115, 112, 108, 105, 116], .split),
  ([115, 101, 97, 114, 99, 104], .search), ([115, 117, 98], .sub)]
noncomputable def mnOf (x : Str) : MN := (mnames.lookup (tx x)).getD .other
noncomputable def trBOp : Operator → Option BOp
  | .Add => some .add | .Sub => some .sub | .Mult => some .mul | .FloorDiv => some .fdiv | .Mod => some .mod | .Pow => some .pow | .RShift => some .shr
  | _ => none
noncomputable def trCOp : CmpOp → COp
  | .Eq => .eq | .NotEq => .ne | .Lt => .lt | .LtE => .le | .Gt => .gt | .GtE => .ge | .Is => .is | .IsNot => .isnot | .In => .in_ | .NotIn => .notin
noncomputable def trConst : Const → ME
  | .none => eLit .none
  | .bool b => eLit (.bool b)
  | .int i => eLit (.int i)
  | .str s => if (tx s).length ≤ lim then eLit (.str (tx s)) else eFail
  | _ => eFail
noncomputable def ownNames (sc : Scope) : List Tx := (sc.names.filter fun p => (p.2 == .local || p.2 == .cell) && tx p.1 != [46, 48]).map fun p => tx p.1
noncomputable def numbered (n : Nat) : List Tx → List (Tx × Nat)
  | [] => []
  | x :: r => (x, n) :: numbered (n + 1) r
noncomputable def Cx.inner (cx : Cx) (sc : Scope) : Cx :=
  { cx with lamOk := false, kinds := sc.names.map (fun p => if p.2 == .free && kindOf cx p.1 == some .cell then (p.1, .cell) else p), slots := numbered cx.n (ownNames sc) ++ (sc.names.filterMap fun p => if p.2 == .free then (cx.slots.lookup (tx p.1)).map fun i => (tx p.1, i) else none), n := cx.n + (ownNames sc).length }
noncomputable def nameOf : Expr → Option Str
  | .Name x _ => some x
  | _ => none
noncomputable def tupleOf : Expr → Option (List Expr)
  | .Tuple es _ _ => some es
  | _ => none
noncomputable def trTarget (cx : Cx) (t : Expr) : Option (List Nat) := orElse (nameOf t) (fun x => (trSlot cx x).map fun i => [i])
  ((tupleOf t).bind fun es => (es.mapM fun e => (nameOf e).bind (trSlot cx)).bind fun is => if 2 ≤ is.length then some is else none)
noncomputable def globIs (cx : Cx) (x : Str) (v : TyN) : Bool := decide ((nameV cx x).ty? = some v)
noncomputable def appendTx : Tx := [97, 112, 112, 101, 110, 100]
noncomputable def itemsName : Tx := [105, 116, 101, 109, 115]
noncomputable def noFree (sc : Scope) : Bool := sc.names.all fun p => p.2 != .free
noncomputable def plainLam : PySem.Arguments → Bool
  | ⟨_, _, _, _, [], _, []⟩ => true
  | _ => false
noncomputable def scopeOk (cx : Cx) (sc : Scope) : Bool :=
  sc.kind == .function && !sc.isCoroutine && decide ((sc.names.map (·.1)).Nodup) && sc.names.all fun p => p.2 != .free || ((kindOf cx p.1 == some .cell || kindOf cx p.1 == some .free) && (cx.slots.lookup (tx p.1)).isSome && tx p.1 != classdictTx)
noncomputable def notSet : Expr → Bool
  | .Set .. => false
  | _ => true
noncomputable def nameTx : Tx := [110, 97, 109, 101]
noncomputable def headersName : Tx := [95, 104, 101, 97, 100, 101, 114, 115]
noncomputable def callOf : Expr → Option (Expr × List Expr)
  | .Call f as [] _ => some (f, as)
  | _ => none
noncomputable def plainBase (e : Expr) : Bool := (callOf e).all fun p => (nameOf p.1).isNone || !p.2.isEmpty
structure TrF where
  e : Cx → Expr → ME
  b : Cx → Expr → MB
noncomputable def trI (r : TrF) (cx : Cx) (e : Expr) : MI := orElse ((callOf e).bind fun p => (nameOf p.1).map fun x => (x, p.2))
  (fun p => if globIs cx p.1 .range then iRange (p.2.map (r.e cx)) else iVal (r.e cx e)) (iVal (r.e cx e))
noncomputable def tgtOk (t : Expr) (z : Bool) : Bool := !z || (tupleOf t).isSome
noncomputable def clOk (inn : Cx) (base : Nat) (z : Bool) (g : Comprehension) : Bool := g.is_async == 0 && (notSet g.iter && ((trTarget inn g.target).any (·.all fun i => decide (base ≤ i)) && tgtOk g.target z))
noncomputable def trCl (r : TrF) (cx inn : Cx) (k base : Nat) (g : Comprehension) : Option Cl :=
  if clOk inn base (trI r cx g.iter).zip g then some ⟨k, (trTarget inn g.target).getD [], trI r cx g.iter, g.ifs.map (r.b inn)⟩ else none
noncomputable def trCs (r : TrF) (cx inn : Cx) : List Comprehension → Option (List Cl)
  | [] => none
  | g :: gs => (trCl r cx inn (inn.n - cx.n) cx.n g).bind fun c => (gs.mapM (trCl r inn inn 0 cx.n)).map (c :: ·)
noncomputable def trComp (r : TrF) (cx : Cx) (m : Bool) (elt : Expr) (gens : List Comprehension) (sc : Scope) : ME :=
  if scopeOk cx sc then (trCs r cx (cx.inner sc) gens).elim eFail (eComp m (r.e (cx.inner sc) elt)) else eFail
noncomputable def trUn (op : UnaryOp) (a : ME) : ME := match op with
  | .USub => eNeg a
  | .Not => eNot a
  | _ => eFail
noncomputable def trKw (r : TrF) (cx : Cx) (o : Expr) (nm : Str) (as : List Expr) (k : PySem.Keyword) : ME :=
  if k.arg.map tx = some nameTx then (cx.meths.lookup (tx nm)).elim eFail fun m => eMethk (r.e cx o) m (as.map (r.e cx)) (r.e cx k.value) else eFail
noncomputable def trMeth (r : TrF) (cx : Cx) (o : Expr) (nm : Str) (ap : Pos) (as : List Expr) (ks : List PySem.Keyword) (p : Pos) : ME :=
  if plainBase o ∧ ap.endLine = p.line ∧ as.length < 20 then match ks with
    | [] => eMeth (r.e cx o) (mnOf nm) (cx.meths.lookup (tx nm)) (as.map (r.e cx))
    | k :: ks => if ks.isEmpty then trKw r cx o nm as k else eFail
  else eFail
noncomputable def trCall (r : TrF) (cx : Cx) (f : Expr) (as : List Expr) (ks : List PySem.Keyword) (p : Pos) : ME := match f with
  | .Name x _ => if ks.isEmpty && decide (as.length < 20) then (if (nameV cx x).cls? then (if as.isEmpty then eNew else eFail) else eCall (eName (nameV cx x)) (as.map (r.e cx))) else eFail
  | .Attribute o nm ap => trMeth r cx o nm ap as ks p
  | _ => eFail
noncomputable def trAttr (o : Expr) (a : ME) (nm : Str) : ME := if plainBase o then (if tx nm = appendTx then eAttrApp a else if tx nm = headersName then eAttr a (tx nm) else eFail) else eFail
noncomputable def trO (r : TrF) (cx : Cx) : Option Expr → ME
  | none => eLit .none
  | some e => r.e cx e
noncomputable def trSub (r : TrF) (cx : Cx) (m : Bool) (o : ME) (i : Expr) : ME := match i with
  | .Slice lo hi st _ => if st.isNone then eSlc m o (trO r cx lo) (trO r cx hi) else eFail
  | i => eIdx o (r.e cx i)
noncomputable def trF (r : TrF) (cx : Cx) : Expr → ME
  | .FormattedValue v c f _ => if c = -1 ∧ f.isNone then r.e cx v else eFail
  | .Constant (.str s) _ _ => if (tx s).length ≤ lim then eLit (.str (tx s)) else eFail
  | _ => eFail
noncomputable def trCmp (r : TrF) (cx : Cx) (ops : List CmpOp) (bs : List Expr) : Option (COp × ME) := (one? ops).bind fun op => (one? bs).bind fun b => if notSet b then some (trCOp op, r.e cx b) else none
noncomputable def boolOf : PySem.BoolOp → Bool
  | .And => true
  | .Or => false
noncomputable def stepE (r : TrF) (cx : Cx) (e : Expr) : ME := match e with
  | .Constant c _ _ => trConst c
  | .Name x _ => eName (nameV cx x)
  | .BoolOp op vs _ => eAO (boolOf op) (vs.map (r.e cx))
  | .IfExp c a b _ => eIte (r.b cx c) (r.e cx a) (r.e cx b)
  | .BinOp a op b p => (trBOp op).elim eFail fun o => eBin (cx.mark p) o (r.e cx a) (r.e cx b)
  | .UnaryOp op a _ => trUn op (r.e cx a)
  | .Compare a ops bs _ => (trCmp r cx ops bs).elim eFail fun q => eCmp q.1 (r.e cx a) q.2
  | .Tuple es _ _ => if es.isEmpty then eFail else eTup (es.map (r.e cx))
  | .List es p => eList (cx.mark p) (es.map (r.e cx))
  | .Dict ks vs _ => if ks.isEmpty && vs.isEmpty then eDict else eFail
  | .ListComp elt gens sc p => trComp r cx (cx.mark p) elt gens sc
  | .Call f as ks p => trCall r cx f as ks p
  | .Attribute o nm _ => trAttr o (r.e cx o) nm
  | .Subscript o i p => trSub r cx (cx.mark p) (r.e cx o) i
  | .JoinedStr vs _ => eFstr (vs.map (trF r cx))
  | .Lambda as _ sc _ => if noFree sc ∧ plainLam as ∧ cx.lamOk then eLam else eFail
  | _ => eFail
noncomputable def stepB (r : TrF) (cx : Cx) (e : Expr) : MB := match e with
  | .UnaryOp op a _ => match op with
    | .Not => bNot (r.b cx a)
    | _ => bOf (trUn op (r.e cx a))
  | .BoolOp op vs _ => bAO (boolOf op) (vs.map (r.b cx))
  | .IfExp c a b _ => bIte (r.b cx c) (r.b cx a) (r.b cx b)
  | .Compare a ops bs _ => (trCmp r cx ops bs).elim eFail fun q => bCmp q.1 (r.e cx a) q.2
  | e => bOf (stepE r cx e)
noncomputable def tr : Nat → TrF
  | 0 => ⟨fun _ _ => eFail, fun _ _ => eFail⟩
  | f + 1 => ⟨stepE (tr f), stepB (tr f)⟩
noncomputable def foldOk (e : Expr) : Bool := (tupleOf e).all fun vs => !(vs.all (PySem.constantsAlone 8)) || vs.all (PySem.foldedForSure 8)
noncomputable def trTSub (r : TrF) (cx : Cx) (o : Expr) : Expr → Option MT
  | .Slice lo hi st _ => if lo.isNone && (hi.isNone && st.isNone) then some (tWhole (r.e cx o)) else none
  | i => some (tIdx (r.e cx o) (r.e cx i))
noncomputable def trT (r : TrF) (cx : Cx) : Expr → Option MT
  | .Name x _ => (trSlot cx x).map tVar
  | .Subscript o i _ => trTSub r cx o i
  | .Attribute o nm _ => if tx nm = headersName then some (tAttr (r.e cx o) (tx nm)) else none
  | _ => none
noncomputable def isSlice : Expr → Bool
  | .Slice .. => true
  | _ => false
noncomputable def subOf : Expr → Option (Expr × Expr)
  | .Subscript o i _ => if isSlice i then none else some (o, i)
  | _ => none
noncomputable def trAsg (r : TrF) (cx : Cx) (t e : Expr) : MS := orElse (tupleOf t) (fun ts => (ts.mapM fun e => (nameOf e).bind (trSlot cx)).elim sFail fun is => if is.Nodup ∧ foldOk e = true then sAsgT is (r.e cx e) else sFail)
  ((trT r cx t).elim sFail fun c => sAssign c (r.e cx e))
noncomputable def trAug (r : TrF) (cx : Cx) (t : Expr) (op : BOp) (e : Expr) : MS := (nameOf t).elim sFail fun x => (trSlot cx x).elim sFail fun i => sAug i op (r.e cx e)
noncomputable def trDel (r : TrF) (cx : Cx) (ts : List Expr) : MS := ((one? ts).bind subOf).elim sFail fun p => sDel (r.e cx p.1) (r.e cx p.2)
noncomputable def itemsOf (e : Expr) : Option (Expr × Str × Pos × Pos) := match e with
  | .Call f [] [] p => match f with
    | .Attribute o nm q => some (o, nm, q, p)
    | _ => none
  | _ => none
noncomputable def itemsSrc (it : Expr) : Option Expr := (itemsOf it).bind fun q => if tx q.2.1 = itemsName ∧ plainBase q.1 = true ∧ q.2.2.1.endLine = q.2.2.2.line then some q.1 else none
noncomputable def trFor (r : TrF) (cx : Cx) (t it : Expr) (b : List MS) : MS := (trTarget cx t).elim sFail fun is =>
  orElse (itemsSrc it) (fun o => sItems (r.e cx o)) (if tgtOk t (trI r cx it).zip && notSet it then sFor is (trI r cx it) b else sFail)
noncomputable def isLC : Expr → Bool
  | .ListComp .. => true
  | _ => false
noncomputable def isSC : Expr → Bool
  | .SetComp .. => true
  | .DictComp .. => true
  | _ => false
noncomputable def stepS (r : TrF) (ss : Cx → List Stmt → List MS) (cx : Cx) (s : Stmt) : MS := match s with
  | .Expr e _ => if isLC e || isSC e then sFail else sExpr (r.e cx e)
  | .Assign ts e _ => if isSC e then sFail else (one? ts).elim sFail fun t => trAsg r cx t e
  | .AugAssign t op e _ => (trBOp op).elim sFail fun o => trAug r cx t o e
  | .Delete ts _ => trDel r cx ts
  | .If c a b _ => sIte (r.b cx c) (ss cx a) (ss cx b)
  | .While c b els _ => if els.isEmpty then sWhile (r.b cx c) (ss cx b) else sFail
  | .For t it b els _ => if els.isEmpty then trFor r cx t it (ss cx b) else sFail
  | .Return e _ => e.elim sFail fun e => sRet (r.e cx e)
  | .Break _ => sBrk
  | .Continue _ => sCont
  | .Assert c _ _ => sAssert (r.b cx c)
  | _ => sFail
noncomputable def trSs (r : TrF) : Nat → Cx → List Stmt → List MS
  | 0, _, _ => [sFail]
  | f + 1, cx, ss => ss.map (stepS r (trSs r f) cx)
noncomputable def Cx.top (globs : List (Tx × AV)) (meths : List (Tx × Nat)) (marks : List (Nat × Nat)) (sc : Scope) : Cx :=
  { globs, meths, marks, kinds := sc.names, slots := numbered 0 (ownNames sc), n := (ownNames sc).length }
end Ev
namespace Ev
open PySem
noncomputable def headersTx : Tx := [95, 104, 101, 97, 100, 101, 114, 115]
noncomputable def headersStr : Str := "_headers"
noncomputable abbrev hObj (hsh : Int) (tk : PySem.Tok) (v : PySem.Value) (n : Nat) : PySem.Obj := { cls := .type "dict", data := .dict #[⟨hsh, .str headersStr tk, v⟩] n }
noncomputable def HObj (o : PySem.Obj) : Prop := o = { cls := .type "dict", data := .dict #[] } ∨ ∃ hsh tk v n, o = hObj hsh tk v n
structure Base where
  prog : Program
  w : PySem.World
  h₀ : Heap
  tabs : List (Addr × Addr)
  ps : Addr → Array Value
  fnA : Nat → Addr
  clsA : Addr
  reA : Nat → Addr
  mg : Str → Option Value
  mb : Str → Option Value
  K : PySem.W.Frag
noncomputable def Base.isTab (B : Base) (a : Addr) : Prop := a ∈ B.tabs.map (·.2)
noncomputable def tyS : TyN → String
  | .int => "int" | .str => "str" | .list => "list" | .range => "range" | .zip => "zip" | .type => "type" | .object => "object"
noncomputable def bfS : BF → String
  | .len => "len" | .max => "max" | .min => "min" | .sum => "sum"
noncomputable def PTup (h : Heap) (a : Addr) (items : Array Value) : Prop := ∃ n, h.get? a = some { cls := .type "tuple", data := .seq items n }
theorem PTup.isTuple {h : Heap} {a : Addr} {items : Array Value} (x : PTup h a items) : h.IsTuple a items := let ⟨n, e⟩ := x; ⟨_, e, rfl, n, rfl⟩
mutual
inductive VRel (B : Base) (h : Heap) (W : Addr → Prop) (ρ : List Addr) : AV → Value → Prop
  | none : VRel B h W ρ .none .none
  | bool (b : Bool) : VRel B h W ρ (.bool b) (.bool b)
  | int (i : Int) (t : Tok) : VRel B h W ρ (.int i) (.int i t)
  | str (s : Tx) (t : Tok) (b : s.length ≤ lim) : VRel B h W ρ (.str s) (.str ⟨s.toArray⟩ t)
  | tup {xs : List AV} {vs : List Value} {a : Addr} (l : PTup h a vs.toArray) (b : xs.length ≤ lim) (w : ¬ W a) (r : VRels B h W ρ xs vs) : VRel B h W ρ (.tup xs) (.ref a)
  | lst {xs : List AV} {vs : List Value} {a : Addr} (l : h.PlainList a vs.toArray) (b : xs.length ≤ lim) (w : ¬ W a) (r : VRels B h W ρ xs vs) : VRel B h W ρ (.lst xs) (.ref a)
  | ref {i : Nat} {a : Addr} (e : ρ[i]? = some a) : VRel B h W ρ (.ref i) (.ref a)
  | fn (n : Nat) : VRel B h W ρ (.fn n) (.ref (B.fnA n))
  | cls : VRel B h W ρ .cls (.ref B.clsA)
  | re (n : Nat) : VRel B h W ρ (.re n) (.ref (B.reA n))
  | bi (b : BF) : VRel B h W ρ (.bi b) (.builtin (bfS b))
  | ty (t : TyN) : VRel B h W ρ (.ty t) (.type (tyS t))
  | app {i : Nat} {a f : Addr} {o : Obj} (e : ρ[i]? = some a) (g : h.get? f = some o) (w : ¬ W f) (c : o.cls = .type "builtin_function_or_method") (d : o.data = .fields #[.builtin "list.append", .ref a]) : VRel B h W ρ (.app i) (.ref f)
  | lam {f : Addr} {o : Obj} (g : h.get? f = some o) (w : ¬ W f) (c : o.cls = .type "function") : VRel B h W ρ .lam (.ref f)
inductive VRels (B : Base) (h : Heap) (W : Addr → Prop) (ρ : List Addr) : List AV → List Value → Prop
  | nil : VRels B h W ρ [] []
  | cons {x : AV} {v : Value} {xs : List AV} {vs : List Value} (hd : VRel B h W ρ x v) (tl : VRels B h W ρ xs vs) : VRels B h W ρ (x :: xs) (v :: vs)
end
section
variable {B : Base} {h h' : Heap} {W W' : Addr → Prop} {ρ ρ' : List Addr}
noncomputable def VInv (B : Base) (h : Heap) (W : Addr → Prop) (ρ : List Addr) (x : AV) (v : Value) : Prop := match x with
  | .none => v = .none
  | .bool b => v = .bool b
  | .int i => ∃ t, v = .int i t
  | .str s => ∃ t, v = .str ⟨s.toArray⟩ t ∧ s.length ≤ lim
  | .tup xs => ∃ vs a, v = .ref a ∧ PTup h a (List.toArray vs) ∧ xs.length ≤ lim ∧ ¬ W a ∧ VRels B h W ρ xs vs
  | .lst xs => ∃ vs a, v = .ref a ∧ h.PlainList a (List.toArray vs) ∧ xs.length ≤ lim ∧ ¬ W a ∧ VRels B h W ρ xs vs
  | .ref i => ∃ a, v = .ref a ∧ ρ[i]? = some a
  | .fn n => v = .ref (B.fnA n)
  | .cls => v = .ref B.clsA
  | .re n => v = .ref (B.reA n)
  | .bi b => v = .builtin (bfS b)
  | .ty t => v = .type (tyS t)
  | .app i => ∃ f a o, v = .ref f ∧ ρ[i]? = some a ∧ h.get? f = some o ∧ ¬ W f ∧ o.cls = .type "builtin_function_or_method" ∧ o.data = .fields #[.builtin "list.append", .ref a]
  | .lam => ∃ f o, v = .ref f ∧ h.get? f = some o ∧ ¬ W f ∧ o.cls = .type "function"
theorem VRel.inv {x : AV} {v : Value} (r : VRel B h W ρ x v) : VInv B h W ρ x v :=
  r.rec (motive_1 := fun x v _ => VInv B h W ρ x v) (motive_2 := fun _ _ _ => True) rfl (fun _ => rfl) (fun _ t => ⟨t, rfl⟩) (fun _ t b => ⟨t, rfl, b⟩) (fun l b w r _ => ⟨_, _, rfl, l, b, w, r⟩) (fun l b w r _ => ⟨_, _, rfl, l, b, w, r⟩) (fun e => ⟨_, rfl, e⟩) (fun _ => rfl) rfl (fun _ => rfl) (fun _ => rfl) (fun _ => rfl)
    (fun e g w c d => ⟨_, _, _, rfl, e, g, w, c, d⟩) (fun g w c => ⟨_, _, rfl, g, w, c⟩) trivial fun _ _ _ _ => trivial
theorem VRels.ind {P : List AV → List Value → Prop} (n : P [] []) (c : ∀ {x : AV} {v : Value} {xs : List AV} {vs : List Value}, VRel B h W ρ x v → VRels B h W ρ xs vs → P xs vs → P (x :: xs) (v :: vs)) {xs : List AV} {vs : List Value} (r : VRels B h W ρ xs vs) : P xs vs :=
  r.rec (motive_1 := fun _ _ _ => True) (motive_2 := fun xs vs _ => P xs vs) trivial (fun _ => trivial) (fun _ _ => trivial) (fun _ _ _ => trivial) (fun _ _ _ _ _ => trivial) (fun _ _ _ _ _ => trivial) (fun _ => trivial) (fun _ => trivial) trivial (fun _ => trivial) (fun _ => trivial) (fun _ => trivial)
    (fun _ _ _ _ _ => trivial) (fun _ _ _ => trivial) n fun q r _ ih => c q r ih
noncomputable def VsInv (B : Base) (h : Heap) (W : Addr → Prop) (ρ : List Addr) (xs : List AV) (vs : List Value) : Prop := match xs with
  | [] => vs = []
  | x :: xs => ∃ v us, vs = v :: us ∧ VRel B h W ρ x v ∧ VRels B h W ρ xs us
theorem VRels.inv {xs : List AV} {vs : List Value} (r : VRels B h W ρ xs vs) : VsInv B h W ρ xs vs := r.ind rfl fun q r _ => ⟨_, _, rfl, q, r⟩
theorem VRel.mono (hk : ∀ a o, h.get? a = some o → ¬ W a → h'.get? a = some o) (hW : ∀ a, a < h.objs.size → W' a → W a) (hρ : ∀ (i : Nat) (a : Addr), ρ[i]? = some a → ρ'[i]? = some a)
    {x : AV} {v : Value} (r : VRel B h W ρ x v) : VRel B h' W' ρ' x v :=
  r.rec (motive_1 := fun x v _ => VRel B h' W' ρ' x v) (motive_2 := fun xs vs _ => VRels B h' W' ρ' xs vs) .none .bool .int .str (fun ⟨o, ho⟩ b w _ q => .tup ⟨o, hk _ _ ho w⟩ b (fun z => w (hW _ (Heap.lt_size ho) z)) q)
    (fun ⟨o, ho⟩ b w _ q => .lst ⟨o, hk _ _ ho w⟩ b (fun z => w (hW _ (Heap.lt_size ho) z)) q) (fun e => .ref (hρ _ _ e)) .fn .cls .re .bi .ty (fun e g w c d => .app (hρ _ _ e) (hk _ _ g w) (fun z => w (hW _ (Heap.lt_size g) z)) c d)
    (fun g w c => .lam (hk _ _ g w) (fun z => w (hW _ (Heap.lt_size g) z)) c) .nil fun _ _ q r => .cons q r
theorem VRels.mono (hk : ∀ a o, h.get? a = some o → ¬ W a → h'.get? a = some o) (hW : ∀ a, a < h.objs.size → W' a → W a) (hρ : ∀ (i : Nat) (a : Addr), ρ[i]? = some a → ρ'[i]? = some a)
    {xs : List AV} {vs : List Value} (r : VRels B h W ρ xs vs) : VRels B h' W' ρ' xs vs := r.ind .nil fun q _ r => .cons (q.mono hk hW hρ) r
theorem VRels.length {xs : List AV} {vs : List Value} (r : VRels B h W ρ xs vs) : xs.length = vs.length := r.ind (P := fun xs vs => xs.length = vs.length) rfl fun _ _ e => congrArg (· + 1) e
theorem VRels.get {xs : List AV} {vs : List Value} (r : VRels B h W ρ xs vs) : ∀ {k : Nat} {x : AV}, xs[k]? = some x → ∃ v, vs[k]? = some v ∧ VRel B h W ρ x v :=
  r.ind (P := fun xs vs => ∀ {k : Nat} {x : AV}, xs[k]? = some x → ∃ v, vs[k]? = some v ∧ VRel B h W ρ x v) (fun e => nomatch e) fun q _ ih k => match k with
    | 0 => fun e => ⟨_, rfl, Option.some.inj e ▸ q⟩
    | k + 1 => fun e => ih (k := k) e
theorem VRels.append {xs ys : List AV} {vs us : List Value} (r : VRels B h W ρ xs vs) (z : VRels B h W ρ ys us) : VRels B h W ρ (xs ++ ys) (vs ++ us) := r.ind (P := fun xs vs => VRels B h W ρ (xs ++ ys) (vs ++ us)) z fun q _ r => .cons q r
theorem VRels.take {xs : List AV} {vs : List Value} (r : VRels B h W ρ xs vs) : ∀ k : Nat, VRels B h W ρ (xs.take k) (vs.take k) :=
  r.ind (P := fun xs vs => ∀ k : Nat, VRels B h W ρ (xs.take k) (vs.take k)) (fun k => by cases k <;> exact .nil) fun q _ ih k => match k with
    | 0 => .nil
    | k + 1 => .cons q (ih k)
theorem VRels.drop {xs : List AV} {vs : List Value} (r : VRels B h W ρ xs vs) : ∀ k : Nat, VRels B h W ρ (xs.drop k) (vs.drop k) :=
  r.ind (P := fun xs vs => ∀ k : Nat, VRels B h W ρ (xs.drop k) (vs.drop k)) (fun k => by cases k <;> exact .nil) fun q r ih k => match k with
    | 0 => .cons q r
    | k + 1 => ih k
theorem VRels.set {xs : List AV} {vs : List Value} (r : VRels B h W ρ xs vs) : ∀ (k : Nat) {x : AV} {v : Value}, VRel B h W ρ x v → VRels B h W ρ (xs.set k x) (vs.set k v) :=
  r.ind (P := fun xs vs => ∀ (k : Nat) {x : AV} {v : Value}, VRel B h W ρ x v → VRels B h W ρ (xs.set k x) (vs.set k v)) (fun _ _ _ _ => .nil) fun q r ih k => match k with
    | 0 => fun z => .cons z r
    | k + 1 => fun z => .cons q (ih k z)
theorem take_get {n i : Nat} {a : Addr} (e : decide (i < n) = true) (g : ρ[i]? = some a) : (ρ.take n)[i]? = some a := by
  rw [List.getElem?_take, if_pos (of_decide_eq_true e)]; exact g
theorem VRel.low {n : Nat} {x : AV} {v : Value} (e : Ev.below n x = true) (r : VRel B h W ρ x v) : VRel B h W (ρ.take n) x v :=
  r.rec (motive_1 := fun x v _ => Ev.below n x = true → VRel B h W (ρ.take n) x v) (motive_2 := fun xs vs _ => Ev.belows n xs = true → VRels B h W (ρ.take n) xs vs) (fun _ => .none) (fun b _ => .bool b) (fun i t _ => .int i t) (fun s t b _ => .str s t b)
    (fun l b w _ q e => .tup l b w (q e)) (fun l b w _ q e => .lst l b w (q e)) (fun g e => .ref (take_get e g)) (fun n _ => .fn n) (fun _ => .cls) (fun n _ => .re n) (fun b _ => .bi b) (fun t _ => .ty t) (fun g a w c d e => .app (take_get e g) a w c d) (fun g w c _ => .lam g w c)
    (fun _ => .nil) (fun _ _ q r e => .cons (q (Bool.and_eq_true_iff.mp e).1) (r (Bool.and_eq_true_iff.mp e).2)) e
theorem VRels.low {n : Nat} {xs : List AV} {vs : List Value} (e : Ev.belows n xs = true) (r : VRels B h W ρ xs vs) : VRels B h W (ρ.take n) xs vs :=
  r.ind (P := fun xs vs => Ev.belows n xs = true → VRels B h W (ρ.take n) xs vs) (fun _ => .nil) (fun q _ r e => .cons (q.low (Bool.and_eq_true_iff.mp e).1) (r (Bool.and_eq_true_iff.mp e).2)) e
end
inductive KVs (B : Base) (h : Heap) (W : Addr → Prop) (ρ : List Addr) : List (Tx × AV) → List (Str × Value) → Prop
  | nil : KVs B h W ρ [] []
  | cons {k : Tx} {x : AV} {v : Value} {es : List (Tx × AV)} {kvs : List (Str × Value)} (r : VRel B h W ρ x v) (t : KVs B h W ρ es kvs) : KVs B h W ρ ((k, x) :: es) ((⟨k.toArray⟩, v) :: kvs)
noncomputable def OptRel (B : Base) (h : Heap) (W : Addr → Prop) (ρ : List Addr) : Option AV → Option Value → Prop
  | some x, v => ∃ y, v = some y ∧ VRel B h W ρ x y
  | none, v => True
noncomputable def CRel (B : Base) (h : Heap) (W : Addr → Prop) (ρ : List Addr) (a : Addr) (o : AObj) : Prop := match o with
  | .list xs => ∃ vs, h.PlainList a (List.toArray vs) ∧ xs.length ≤ lim ∧ VRels B h W ρ xs vs
  | .dict es => ∃ kvs, h.DictOf (strKind B.prog B.w) a kvs ∧ KVs B h W ρ es kvs
  | .idict es => (es = [] ∧ h.get? a = some { cls := .type "dict", data := .dict #[] }) ∨ ∃ x v hsh tk n, es = [(headersTx, x)] ∧ h.get? a = some (hObj hsh tk v n) ∧ VRel B h W ρ x v
  | .inst d => ∃ dx, h.get? a = some { cls := .ref B.clsA, dict := some dx, data := .plain } ∧ ρ[d]? = some dx
  | .plain => ∃ o, h.get? a = some o ∧ o.cls = .type "object"
section
variable {B : Base} {h h' : Heap} {W W' : Addr → Prop} {ρ ρ' : List Addr}
theorem KVs.mono (hk : ∀ a o, h.get? a = some o → ¬ W a → h'.get? a = some o) (hW : ∀ a, a < h.objs.size → W' a → W a) (hρ : ∀ (i : Nat) (a : Addr), ρ[i]? = some a → ρ'[i]? = some a)
    {es : List (Tx × AV)} {kvs : List (Str × Value)} (r : KVs B h W ρ es kvs) : KVs B h' W' ρ' es kvs := by
  induction r with
  | nil => exact .nil
  | cons r _ ih => exact .cons (r.mono hk hW hρ) ih
theorem OptRel.mono (hk : ∀ a o, h.get? a = some o → ¬ W a → h'.get? a = some o) (hW : ∀ a, a < h.objs.size → W' a → W a) (hρ : ∀ (i : Nat) (a : Addr), ρ[i]? = some a → ρ'[i]? = some a) :
    ∀ {x : Option AV} {v : Option Value}, OptRel B h W ρ x v → OptRel B h' W' ρ' x v
  | some _, _, ⟨y, e, r⟩ => ⟨y, e, r.mono hk hW hρ⟩
  | none, _, _ => trivial
theorem CRel.mono {a : Addr} {o : AObj} (ha : h'.get? a = h.get? a) (hk : ∀ a o, h.get? a = some o → ¬ W a → h'.get? a = some o) (hW : ∀ a, a < h.objs.size → W' a → W a) (hρ : ∀ (i : Nat) (a : Addr), ρ[i]? = some a → ρ'[i]? = some a)
    (c : CRel B h W ρ a o) : CRel B h' W' ρ' a o := by
  cases o with
  | list => obtain ⟨vs, ⟨k, l⟩, b, r⟩ := c; exact ⟨vs, ⟨k, ha.trans l⟩, b, r.mono hk hW hρ⟩
  | dict => obtain ⟨kvs, ⟨x, y, z, l, q⟩, r⟩ := c; exact ⟨kvs, ⟨x, y, z, ha.trans l, q⟩, r.mono hk hW hρ⟩
  | idict =>
    rcases c with c | ⟨x, v, hsh, tk, n, e, ho, r⟩
    · exact .inl ⟨c.1, ha.trans c.2⟩
    · exact .inr ⟨x, v, hsh, tk, n, e, ha.trans ho, r.mono hk hW hρ⟩
  | inst => exact c.imp fun dx c => ⟨ha.trans c.1, hρ _ _ c.2⟩
  | plain => exact c.imp fun o c => ⟨ha.trans c.1, c.2⟩
theorem CRel.getSome {a : Addr} {o : AObj} (c : CRel B h W ρ a o) : ∃ ob, h.get? a = some ob := by
  cases o with
  | list => obtain ⟨_, ⟨_, l⟩, _⟩ := c; exact ⟨_, l⟩
  | dict => obtain ⟨_, ⟨_, _, _, l, _⟩, _⟩ := c; exact ⟨_, l⟩
  | idict =>
    rcases c with c | ⟨x, v, hsh, tk, n, e, ho, r⟩
    · exact ⟨_, c.2⟩
    · exact ⟨_, ho⟩
  | inst => exact c.elim fun _ c => ⟨_, c.1⟩
  | plain => exact c.elim fun _ c => ⟨_, c.1⟩
end
noncomputable def TabOk (B : Base) (h : Heap) (p : Addr × Addr) : Prop := ∃ ps : Array Value, h.get? p.2 = some { cls := .none, data := .fields ps } ∧ TriplesOk ps.toList ∧ ∃ more, ps = B.ps p.2 ++ more
section
variable {B : Base} {h : Heap} {W : Addr → Prop} {ρ : List Addr}
theorem VRel.bound {x : AV} {v : Value} (r : VRel B h W ρ x v) : Ev.below ρ.length x = true :=
  r.rec (motive_1 := fun x v _ => Ev.below ρ.length x = true) (motive_2 := fun xs vs _ => Ev.belows ρ.length xs = true) rfl (fun _ => rfl) (fun _ _ => rfl) (fun _ _ _ => rfl) (fun _ _ _ _ q => q) (fun _ _ _ _ q => q) (fun e => decide_eq_true (List.getElem?_eq_some_iff.mp e).1) (fun _ => rfl) rfl (fun _ => rfl) (fun _ => rfl) (fun _ => rfl)
    (fun e _ _ _ _ => decide_eq_true (List.getElem?_eq_some_iff.mp e).1) (fun _ _ _ => rfl) rfl fun _ _ q r => Bool.and_eq_true_iff.mpr ⟨q, r⟩
theorem VRels.bound {xs : List AV} {vs : List Value} (r : VRels B h W ρ xs vs) : Ev.belows ρ.length xs = true := r.ind (P := fun xs vs => Ev.belows ρ.length xs = true) rfl fun q _ r => Bool.and_eq_true_iff.mpr ⟨q.bound, r⟩
theorem KVs.low {n : Nat} {es : List (Tx × AV)} {kvs : List (Str × Value)} (e : (es.all fun p => Ev.below n p.2) = true) (r : KVs B h W ρ es kvs) : KVs B h W (ρ.take n) es kvs := by
  induction r with
  | nil => exact .nil
  | cons r _ ih => exact .cons (r.low (Bool.and_eq_true_iff.mp e).1) (ih (Bool.and_eq_true_iff.mp e).2)
theorem KVs.bound {es : List (Tx × AV)} {kvs : List (Str × Value)} (r : KVs B h W ρ es kvs) : (es.all fun p => Ev.below ρ.length p.2) = true := by
  induction r with
  | nil => rfl
  | cons r _ ih => exact Bool.and_eq_true_iff.mpr ⟨r.bound, ih⟩
end
noncomputable def belowO (k : Nat) : AObj → Bool
  | .list xs => belows k xs
  | .dict es => es.all fun p => below k p.2
  | .idict es => es.all fun p => below k p.2
  | .inst d => d < k
  | .plain => true
noncomputable def Low (k : Nat) (cs : Cells) : Prop := ∀ (i : Nat) (o : AObj), i < k → cs[i]? = some o → belowO k o = true
noncomputable def LowTo (n : Nat) (cs cs' : Cells) : Prop := ∀ k, k ≤ n → Low k cs → Low k cs'
theorem LowTo.refl (n : Nat) (cs : Cells) : LowTo n cs cs := fun _ _ l => l
theorem LowTo.trans {n : Nat} {a b c : Cells} (x : LowTo n a b) (y : LowTo n b c) : LowTo n a c := fun k hk l => y k hk (x k hk l)
theorem lookup_of_all {n : Nat} {k : Tx} {x : AV} {es : List (Tx × AV)} (h : (es.all fun p => below n p.2) = true) (e : es.lookup k = some x) : below n x = true := by
  induction es with
  | nil => cases e
  | cons p r ih =>
    rw [show p = (p.1, p.2) from rfl, List.lookup_cons] at e
    have h := Bool.and_eq_true_iff.mp h
    cases hk : k == p.1 with
    | true => rw [hk] at e; exact Option.some.inj e ▸ h.1
    | false => rw [hk] at e; exact ih h.2 e
section
variable {B : Base} {h : Heap} {W : Addr → Prop} {ρ : List Addr}
theorem CRel.low {n : Nat} {a : Addr} {o : AObj} (e : belowO n o = true) (c : CRel B h W ρ a o) : CRel B h W (ρ.take n) a o := by
  cases o with
  | list => exact c.imp fun vs c => ⟨c.1, c.2.1, c.2.2.low e⟩
  | dict => exact c.imp fun vs c => ⟨c.1, c.2.low e⟩
  | idict =>
    rcases c with c | ⟨x, v, hsh, tk, n, q, ho, r⟩
    · exact .inl c
    · exact .inr ⟨x, v, hsh, tk, n, q, ho, r.low (by rw [q] at e; exact (Bool.and_eq_true_iff.mp e).1)⟩
  | inst => exact c.imp fun dx c => ⟨c.1, take_get e c.2⟩
  | plain => exact c
theorem CRel.bound {a : Addr} {o : AObj} (c : CRel B h W ρ a o) : belowO ρ.length o = true := by
  cases o with
  | list => exact c.elim fun vs c => c.2.2.bound
  | dict => exact c.elim fun vs c => c.2.bound
  | idict =>
    rcases c with c | ⟨x, v, hsh, tk, n, e, ho, r⟩
    · rw [c.1]; rfl
    · rw [e]; exact Bool.and_eq_true_iff.mpr ⟨r.bound, rfl⟩
  | inst => exact c.elim fun _ c => decide_eq_true (List.getElem?_eq_some_iff.mp c.2).1
  | plain => rfl
end
structure Mem (B : Base) (W : Addr → Prop) (ρ : List Addr) (cs : Cells) (h : Heap) : Prop where
  len : cs.length = ρ.length
  cell : ∀ (i : Nat) (o : AObj) (a : Addr), cs[i]? = some o → ρ[i]? = some a → CRel B h W ρ a o
  inj : ρ.Nodup
  own : ∀ a ∈ ρ, W a ∧ B.h₀.objs.size ≤ a
  wlt : ∀ a, W a → a < h.objs.size
  base : ∀ a o, B.h₀.get? a = some o → h.get? a = some o ∧ ¬ W a
  tab : ∀ p ∈ B.tabs, TabOk B h p ∧ W p.2 ∧ p.2 < B.h₀.objs.size
  size : B.h₀.objs.size ≤ h.objs.size
structure Step (B : Base) (X : Addr → Prop) (ρ : List Addr) (W : Addr → Prop) (h : Heap) (ρ' : List Addr) (W' : Addr → Prop) (h' : Heap) : Prop where
  kept : ∀ a o, h.get? a = some o → a ∉ ρ → ¬ B.isTab a → ¬ X a → h'.get? a = some o
  wiff : ∀ a, a < h.objs.size → (W' a ↔ W a)
  pre : ∀ (i : Nat) (a : Addr), ρ[i]? = some a → ρ'[i]? = some a
  fresh : ∀ a ∈ ρ', a ∈ ρ ∨ h.objs.size ≤ a
  size : h.objs.size ≤ h'.objs.size
theorem Step.refl (B : Base) (X : Addr → Prop) (ρ : List Addr) (W : Addr → Prop) (h : Heap) : Step B X ρ W h ρ W h := ⟨fun _ _ e _ _ _ => e, fun _ _ => Iff.rfl, fun _ _ e => e, fun _ m => .inl m, Nat.le_refl _⟩
theorem Step.trans {B : Base} {X : Addr → Prop} {ρ ρ₁ ρ₂ : List Addr} {W W₁ W₂ : Addr → Prop} {h h₁ h₂ : Heap} (a : Step B X ρ W h ρ₁ W₁ h₁) (b : Step B X ρ₁ W₁ h₁ ρ₂ W₂ h₂) : Step B X ρ W h ρ₂ W₂ h₂ where
  kept := fun x o e n t y => b.kept x o (a.kept x o e n t y) (fun m => (a.fresh x m).elim n fun z => absurd (Heap.lt_size e) (Nat.not_lt.mpr z)) t y
  wiff := fun x l => (b.wiff x (Nat.lt_of_lt_of_le l a.size)).trans (a.wiff x l)
  pre := fun i x e => b.pre i x (a.pre i x e)
  fresh := fun x m => (b.fresh x m).elim (fun z => a.fresh x z) fun z => .inr (Nat.le_trans a.size z)
  size := Nat.le_trans a.size b.size
theorem Step.weaken {B : Base} {X Y : Addr → Prop} {ρ ρ₁ : List Addr} {W W₁ : Addr → Prop} {h h₁ : Heap} (a : Step B X ρ W h ρ₁ W₁ h₁) (k : ∀ x, x < h.objs.size → X x → Y x) : Step B Y ρ W h ρ₁ W₁ h₁ :=
  ⟨fun x o e n t y => a.kept x o e n t fun z => y (k x (Heap.lt_size e) z), a.wiff, a.pre, a.fresh, a.size⟩
section
variable {B : Base} {n : Nat} {X : Addr → Prop} {ρ ρ' : List Addr} {W W' : Addr → Prop} {cs cs' : Cells} {h h' : Heap}
theorem Mem.notW (m : Mem B W ρ cs h) {a : Addr} (w : ¬ W a) : a ∉ ρ ∧ ¬ B.isTab a :=
  ⟨fun z => w (m.own a z).1, fun z => by obtain ⟨p, hp, rfl⟩ := List.mem_map.mp z; exact w (m.tab p hp).2.1⟩
theorem Step.keptW (st : Step B X ρ W h ρ' W' h') (m : Mem B W ρ cs h) (hX : ∀ a, X a → W a) : ∀ a o, h.get? a = some o → ¬ W a → h'.get? a = some o :=
  fun a o e w => st.kept a o e (m.notW w).1 (m.notW w).2 fun x => w (hX a x)
theorem Step.val (st : Step B X ρ W h ρ' W' h') (m : Mem B W ρ cs h) (hX : ∀ a, X a → W a) {x : AV} {v : Value} (r : VRel B h W ρ x v) : VRel B h' W' ρ' x v :=
  r.mono (st.keptW m hX) (fun a l w => (st.wiff a l).mp w) st.pre
theorem Step.vals (st : Step B X ρ W h ρ' W' h') (m : Mem B W ρ cs h) (hX : ∀ a, X a → W a) {xs : List AV} {vs : List Value} (r : VRels B h W ρ xs vs) : VRels B h' W' ρ' xs vs :=
  r.mono (st.keptW m hX) (fun a l w => (st.wiff a l).mp w) st.pre
theorem Mem.cellAt (m : Mem B W ρ cs h) {i : Nat} {o : AObj} {a : Addr} (e : cs[i]? = some o) (g : ρ[i]? = some a) : CRel B h W ρ a o := m.cell i o a e g
theorem Mem.addrOf (m : Mem B W ρ cs h) {i : Nat} {o : AObj} (e : cs[i]? = some o) : ∃ a, ρ[i]? = some a := by
  have : i < ρ.length := m.len ▸ (List.getElem?_eq_some_iff.mp e).1
  exact ⟨ρ[i], by simp [this]⟩
theorem Mem.other (m : Mem B W ρ cs h) (hsz : h.objs.size ≤ h'.objs.size) (D : Addr → Prop) (hk : ∀ a o, h.get? a = some o → ¬ D a → h'.get? a = some o) (hD : ∀ a, D a → a < h.objs.size → W a) (hDρ : ∀ a ∈ ρ, ¬ D a) (hDt : ∀ a, B.isTab a → ¬ D a)
    (hW : ∀ a, a < h.objs.size → (W' a ↔ W a)) (hW' : ∀ a, W' a → a < h'.objs.size) : Mem B W' ρ cs h' := by
  have hk' : ∀ a o, h.get? a = some o → ¬ W a → h'.get? a = some o := fun a o e w => hk a o e fun d => w (hD a d (Heap.lt_size e))
  have hw : ∀ a, a < h.objs.size → W' a → W a := fun a l => (hW a l).mp
  have ρlt : ∀ a ∈ ρ, a < h.objs.size := fun a z => m.wlt a (m.own a z).1
  refine ⟨m.len, fun i o a e g => ?_, m.inj, fun a z => ⟨(hW a (ρlt a z)).mpr (m.own a z).1, (m.own a z).2⟩, hW', fun a o e => ?_, fun p hp => ?_, Nat.le_trans m.size hsz⟩
  · have c := m.cell i o a e g
    have ha : a ∈ ρ := List.mem_of_getElem? g
    have get : ∀ o, h.get? a = some o → h'.get? a = some o := fun o e => hk a o e (hDρ a ha)
    have : h'.get? a = h.get? a := by
      obtain ⟨o, ho⟩ := c.getSome
      rw [ho]; exact get o ho
    exact c.mono this hk' hw fun _ _ e => e
  · have z := m.base a o e
    exact ⟨hk' a o z.1 z.2, fun w => z.2 (hw a (Heap.lt_size z.1) w)⟩
  · obtain ⟨⟨ps, c, t⟩, w, l⟩ := m.tab p hp
    exact ⟨⟨ps, hk _ _ c (hDt _ (List.mem_map_of_mem hp)), t⟩, (hW _ (Nat.lt_of_lt_of_le l m.size)).mpr w, l⟩
end
theorem int?_eq {x : AV} {i : Int} (e : x.int? = some i) : x = .int i := (show x.int?.elim x .int = x by cases x <;> rfl).symm.trans (congrArg (Option.elim · x .int) e)
theorem str?_eq {x : AV} {i : Tx} (e : x.str? = some i) : x = .str i := (show x.str?.elim x .str = x by cases x <;> rfl).symm.trans (congrArg (Option.elim · x .str) e)
theorem tup?_eq {x : AV} {i : List AV} (e : x.tup? = some i) : x = .tup i := (show x.tup?.elim x .tup = x by cases x <;> rfl).symm.trans (congrArg (Option.elim · x .tup) e)
theorem lst?_eq {x : AV} {i : List AV} (e : x.lst? = some i) : x = .lst i := (show x.lst?.elim x .lst = x by cases x <;> rfl).symm.trans (congrArg (Option.elim · x .lst) e)
theorem bool?_eq {x : AV} {i : Bool} (e : x.bool? = some i) : x = .bool i := (show x.bool?.elim x .bool = x by cases x <;> rfl).symm.trans (congrArg (Option.elim · x .bool) e)
theorem ref?_eq {x : AV} {i : Nat} (e : x.ref? = some i) : x = .ref i := (show x.ref?.elim x .ref = x by cases x <;> rfl).symm.trans (congrArg (Option.elim · x .ref) e)
theorem re?_eq {x : AV} {i : Nat} (e : x.re? = some i) : x = .re i := (show x.re?.elim x .re = x by cases x <;> rfl).symm.trans (congrArg (Option.elim · x .re) e)
theorem ty?_eq {x : AV} {i : TyN} (e : x.ty? = some i) : x = .ty i := (show x.ty?.elim x .ty = x by cases x <;> rfl).symm.trans (congrArg (Option.elim · x .ty) e)
theorem none?_eq {x : AV} (e : x.none? = true) : x = .none := (show cond x.none? .none x = x by cases x <;> rfl).symm.trans (congrArg (cond · .none x) e)
theorem lam?_eq {x : AV} (e : x.lam? = true) : x = .lam := (show cond x.lam? .lam x = x by cases x <;> rfl).symm.trans (congrArg (cond · .lam x) e)
theorem one?_eq {α : Type} {xs : List α} {x : α} (e : one? xs = some x) : xs = [x] := match xs, e with
  | [_], e => by cases e; rfl
theorem two?_eq {α : Type} {xs : List α} {x : α × α} (e : two? xs = some x) : xs = [x.1, x.2] := match xs, e with
  | [_, _], e => by cases e; rfl
theorem orElse_eq {α β : Type} {a : Option α} {f : α → Option β} {d : Option β} {r : β} (e : orElse a f d = some r) : (∃ x, a = some x ∧ f x = some r) ∨ d = some r := by
  cases a with
  | none => exact .inr e
  | some x => exact .inl ⟨x, rfl, e⟩
theorem bind_eq {α β : Type} {a : Option α} {f : α → Option β} {r : β} (e : a.bind f = some r) : ∃ x, a = some x ∧ f x = some r := by
  cases a with
  | none => cases e
  | some x => exact ⟨x, rfl, e⟩
theorem map_eq {α β : Type} {a : Option α} {f : α → β} {r : β} (e : a.map f = some r) : ∃ x, a = some x ∧ f x = r := by
  cases a with
  | none => cases e
  | some x => exact ⟨x, rfl, Option.some.inj e⟩
theorem mapS {α β : Type} {a : Option α} {f : α → β} {r : β} (e : a.map f = some r) : ∃ x, a = some x ∧ some (f x) = some r := by
  cases a with
  | none => cases e
  | some x => exact ⟨x, rfl, e⟩
theorem if_eq {α : Type} {p : Prop} [Decidable p] {a : Option α} {r : α} (e : (if p then a else none) = some r) : p ∧ a = some r := by
  by_cases h : p
  · rw [if_pos h] at e; exact ⟨h, e⟩
  · rw [if_neg h] at e; cases e
theorem ite_eq {α : Type} {p : Prop} [Decidable p] {a b : Option α} {r : α} (e : (if p then a else b) = some r) : (p ∧ a = some r) ∨ b = some r := by
  by_cases h : p
  · rw [if_pos h] at e; exact .inl ⟨h, e⟩
  · rw [if_neg h] at e; exact .inr e
theorem pair_eq {α β : Type} {a a' : α} {b b' : β} (e : some (a, b) = some (a', b')) : a = a' ∧ b = b' := Prod.mk.inj (Option.some.inj e)
section
variable {B : Base} {h : Heap} {W : Addr → Prop} {ρ : List Addr} {cs : Cells} {x : AV} {v : Value}
theorem VRel.ofInt {i : Int} (p : VRel B h W ρ x v) (e : x.int? = some i) : ∃ t, v = .int i t := by rw [int?_eq e] at p; exact p.inv
theorem VRel.ofStr {s : Tx} (p : VRel B h W ρ x v) (e : x.str? = some s) : ∃ t, v = .str ⟨s.toArray⟩ t ∧ s.length ≤ lim := by rw [str?_eq e] at p; exact p.inv
theorem VRel.ofBool {b : Bool} (p : VRel B h W ρ x v) (e : x.bool? = some b) : v = .bool b := by rw [bool?_eq e] at p; exact p.inv
theorem VRel.ofRef {i : Nat} (p : VRel B h W ρ x v) (e : x.ref? = some i) : ∃ a, v = .ref a ∧ ρ[i]? = some a := by rw [ref?_eq e] at p; exact p.inv
theorem VRel.ofTup {xs : List AV} (p : VRel B h W ρ x v) (e : x.tup? = some xs) : ∃ vs a, v = .ref a ∧ PTup h a (List.toArray vs) ∧ xs.length ≤ lim ∧ ¬ W a ∧ VRels B h W ρ xs vs := by rw [tup?_eq e] at p; exact p.inv
theorem VRel.ofLst {xs : List AV} (p : VRel B h W ρ x v) (e : x.lst? = some xs) : ∃ vs a, v = .ref a ∧ h.PlainList a (List.toArray vs) ∧ xs.length ≤ lim ∧ ¬ W a ∧ VRels B h W ρ xs vs := by rw [lst?_eq e] at p; exact p.inv
theorem VRel.ofNone (p : VRel B h W ρ x v) (e : x.none? = true) : v = .none := by rw [none?_eq e] at p; exact p.inv
theorem VRels.ofOne {xs : List AV} {vs : List Value} (p : VRels B h W ρ xs vs) (e : one? xs = some x) : ∃ v, vs = [v] ∧ VRel B h W ρ x v := by
  rw [one?_eq e] at p
  obtain ⟨v, us, rfl, q, r⟩ := p.inv
  obtain rfl := r.inv
  exact ⟨v, rfl, q⟩
theorem VRels.ofTwo {xs : List AV} {vs : List Value} {y : AV × AV} (p : VRels B h W ρ xs vs) (e : two? xs = some y) : ∃ v u, vs = [v, u] ∧ VRel B h W ρ y.1 v ∧ VRel B h W ρ y.2 u := by
  rw [two?_eq e] at p
  obtain ⟨v, us, rfl, q, r⟩ := p.inv
  obtain ⟨u, us, rfl, q', r⟩ := r.inv
  obtain rfl := r.inv
  exact ⟨v, u, rfl, q, q'⟩
theorem listAt_eq {i : Nat} {xs : List AV} (e : listAt cs i = some xs) : cs[i]? = some (.list xs) := by
  obtain ⟨o, ho, e⟩ := bind_eq e
  rw [ho, (show o.list?.elim o .list = o by cases o <;> rfl).symm, e]; rfl
theorem dictAt_eq {i : Nat} {xs : List (Tx × AV)} (e : dictAt cs i = some xs) : cs[i]? = some (.dict xs) := by
  obtain ⟨o, ho, e⟩ := bind_eq e
  rw [ho, (show o.dict?.elim o .dict = o by cases o <;> rfl).symm, e]; rfl
theorem instAt_eq {i d : Nat} (e : instAt cs i = some d) : cs[i]? = some (.inst d) := by
  obtain ⟨o, ho, e⟩ := bind_eq e
  rw [ho, (show o.inst?.elim o .inst = o by cases o <;> rfl).symm, e]; rfl
theorem idictAt_eq {i : Nat} {xs : List (Tx × AV)} (e : idictAt cs i = some xs) : cs[i]? = some (.idict xs) := by
  obtain ⟨o, ho, e⟩ := bind_eq e
  rw [ho, (show o.idict?.elim o .idict = o by cases o <;> rfl).symm, e]; rfl
theorem Mem.listAt {i : Nat} {xs : List AV} {a : Addr} (m : Mem B W ρ cs h) (e : Ev.listAt cs i = some xs) (g : ρ[i]? = some a) : ∃ vs, h.PlainList a (List.toArray vs) ∧ xs.length ≤ lim ∧ VRels B h W ρ xs vs := m.cell i _ a (listAt_eq e) g
theorem Mem.dictAt {i : Nat} {es : List (Tx × AV)} {a : Addr} (m : Mem B W ρ cs h) (e : Ev.dictAt cs i = some es) (g : ρ[i]? = some a) : ∃ kvs, h.DictOf (strKind B.prog B.w) a kvs ∧ KVs B h W ρ es kvs := m.cell i _ a (dictAt_eq e) g
theorem Mem.instAt {i d : Nat} {a : Addr} (m : Mem B W ρ cs h) (e : Ev.instAt cs i = some d) (g : ρ[i]? = some a) : ∃ dx, h.get? a = some { cls := .ref B.clsA, dict := some dx, data := .plain } ∧ ρ[d]? = some dx := m.cell i _ a (instAt_eq e) g
theorem Mem.idictAt {i : Nat} {es : List (Tx × AV)} {a : Addr} (m : Mem B W ρ cs h) (e : Ev.idictAt cs i = some es) (g : ρ[i]? = some a) : (es = [] ∧ h.get? a = some { cls := .type "dict", data := .dict #[] }) ∨ ∃ x v hsh tk n, es = [(headersTx, x)] ∧ h.get? a = some (hObj hsh tk v n) ∧ VRel B h W ρ x v := m.cell i _ a (idictAt_eq e) g
theorem Mem.listOf {xs : List AV} (m : Mem B W ρ cs h) (p : VRel B h W ρ x v) (e : Ev.listOf cs x = some xs) : ∃ a vs, v = .ref a ∧ h.PlainList a (List.toArray vs) ∧ xs.length ≤ lim ∧ VRels B h W ρ xs vs := by
  rcases orElse_eq e with ⟨ys, hx, e⟩ | e
  · obtain ⟨vs, a, rfl, l, b, _, r⟩ := p.ofLst hx
    cases e
    exact ⟨a, vs, rfl, l, b, r⟩
  · obtain ⟨i, hi, e⟩ := bind_eq e
    obtain ⟨a, rfl, g⟩ := p.ofRef hi
    obtain ⟨vs, l, b, r⟩ := m.listAt e g
    exact ⟨a, vs, rfl, l, b, r⟩
end
end Ev
namespace Ev
open PySem PySem.W PyProof.Rows
structure Ok (B : Base) (W : Addr → Prop) (ρ : List Addr) (cs : Cells) (s : Shared) : Prop where
  mem : Mem B W ρ cs s.heap
  gens : AllBare s.gens
structure After (B : Base) (n : Nat) (X : Addr → Prop) (W : Addr → Prop) (ρ : List Addr) (cs : Cells) (s : Shared) (W' : Addr → Prop) (ρ' : List Addr) (cs' : Cells) (s' : Shared) : Prop where
  ok : Ok B W' ρ' cs' s'
  step : Step B X ρ W s.heap ρ' W' s'.heap
  os : s'.os = s.os
  low : LowTo n cs cs'
noncomputable abbrev Non : Addr → Prop := fun _ => False
section
variable {B : Base} {n : Nat} {X : Addr → Prop} {ρ ρ₁ ρ₂ : List Addr} {W W₁ W₂ : Addr → Prop} {cs cs₁ cs₂ : Cells} {s s₁ s₂ : Shared} {h h' : Heap}
theorem After.refl (o : Ok B W ρ cs s) : After B n X W ρ cs s W ρ cs s := ⟨o, Step.refl .., rfl, LowTo.refl _ _⟩
theorem After.trans (a : After B n X W ρ cs s W₁ ρ₁ cs₁ s₁) (b : After B n X W₁ ρ₁ cs₁ s₁ W₂ ρ₂ cs₂ s₂) : After B n X W ρ cs s W₂ ρ₂ cs₂ s₂ := ⟨b.ok, a.step.trans b.step, b.os.trans a.os, a.low.trans b.low⟩
theorem After.weaken {Y : Addr → Prop} (a : After B n X W ρ cs s W₁ ρ₁ cs₁ s₁) (k : ∀ x, x < s.heap.objs.size → X x → Y x) : After B n Y W ρ cs s W₁ ρ₁ cs₁ s₁ := ⟨a.ok, a.step.weaken k, a.os, a.low⟩
theorem After.up {Y : Addr → Prop} (a : After B n Non W ρ cs s W₁ ρ₁ cs₁ s₁) : After B n Y W ρ cs s W₁ ρ₁ cs₁ s₁ := a.weaken fun _ _ x => x.elim
theorem Ok.tok (o : Ok B W ρ cs s) (t : Nat) : Ok B W ρ cs { s with toks := t } := ⟨o.mem, o.gens⟩
theorem Ok.toks (o : Ok B W ρ cs s) (t : Nat) : After B n X W ρ cs s W ρ cs { s with toks := t } := ⟨o.tok t, Step.refl .., rfl, LowTo.refl _ _⟩
theorem After.val (a : After B n Non W ρ cs s W₁ ρ₁ cs₁ s₁) (o : Ok B W ρ cs s) {x : AV} {v : Value} (r : VRel B s.heap W ρ x v) : VRel B s₁.heap W₁ ρ₁ x v := a.step.val o.mem (fun _ x => x.elim) r
theorem After.vals (a : After B n Non W ρ cs s W₁ ρ₁ cs₁ s₁) (o : Ok B W ρ cs s) {x : List AV} {v : List Value} (r : VRels B s.heap W ρ x v) : VRels B s₁.heap W₁ ρ₁ x v := a.step.vals o.mem (fun _ x => x.elim) r
theorem After.length (a : After B n X W ρ cs s W₁ ρ₁ cs₁ s₁) (o : Ok B W ρ cs s) : cs.length ≤ cs₁.length := by
  rw [o.mem.len, a.ok.mem.len]
  rcases Nat.lt_or_ge ρ₁.length ρ.length with h | h
  · have e : ρ[ρ₁.length]? = some ρ[ρ₁.length] := by simp [h]
    have := (List.getElem?_eq_some_iff.mp (a.step.pre _ _ e)).1
    exact absurd this (Nat.lt_irrefl _)
  · exact h
theorem Ok.other (o : Ok B W ρ cs s) {h' : Heap} {tk : Nat} (D : Addr → Prop) (hsz : s.heap.objs.size ≤ h'.objs.size) (hk : ∀ a o, s.heap.get? a = some o → ¬ D a → h'.get? a = some o) (hD : ∀ a, D a → a < s.heap.objs.size → W a)
    (hDρ : ∀ a ∈ ρ, ¬ D a) (hDt : ∀ a, B.isTab a → ¬ D a) (hW : ∀ a, a < s.heap.objs.size → (W₁ a ↔ W a)) (hW' : ∀ a, W₁ a → a < h'.objs.size) : Ok B W₁ ρ cs { s with heap := h', toks := tk } :=
  ⟨o.mem.other hsz D hk hD hDρ hDt hW hW', o.gens⟩
theorem After.other (a : After B n X W ρ cs s W₁ ρ₁ cs₁ s₁) {h' : Heap} {tk : Nat} (D : Addr → Prop) (hsz : s₁.heap.objs.size ≤ h'.objs.size) (hk : ∀ a o, s₁.heap.get? a = some o → ¬ D a → h'.get? a = some o)
    (hD : ∀ a, D a → a < s₁.heap.objs.size → W₁ a) (hDX : ∀ x, D x → x < s.heap.objs.size → X x) (hDρ : ∀ a ∈ ρ₁, ¬ D a) (hDt : ∀ a, B.isTab a → ¬ D a) (hW : ∀ a, a < s₁.heap.objs.size → (W₂ a ↔ W₁ a)) (hW' : ∀ a, W₂ a → a < h'.objs.size) :
    After B n X W ρ cs s W₂ ρ₁ cs₁ { s₁ with heap := h', toks := tk } :=
  ⟨a.ok.other D hsz hk hD hDρ hDt hW hW', ⟨fun x o e m t y => hk x o (a.step.kept x o e m t y) fun d => y (hDX x d (Heap.lt_size e)), fun x l => (hW x (Nat.lt_of_lt_of_le l a.step.size)).trans (a.step.wiff x l), a.step.pre, a.step.fresh, Nat.le_trans a.step.size hsz⟩, a.os, a.low⟩
theorem Ok.grow (o : Ok B W ρ cs s) {h' : Heap} {tk : Nat} (hsz : s.heap.objs.size ≤ h'.objs.size) (hk : ∀ a o, s.heap.get? a = some o → h'.get? a = some o) : After B n X W ρ cs s W ρ cs { s with heap := h', toks := tk } :=
  (After.refl o).other (fun _ => False) hsz (fun a o e _ => hk a o e) (fun _ x => x.elim) (fun _ x => x.elim) (fun _ _ x => x) (fun _ _ x => x) (fun _ _ => Iff.rfl) fun a w => Nat.lt_of_lt_of_le (o.mem.wlt a w) hsz
theorem Ok.newNot (o : Ok B W ρ cs s) {a : Addr} (h : s.heap.objs.size ≤ a) : ¬ W a := fun w => absurd (o.mem.wlt a w) (Nat.not_lt.mpr h)
theorem Ok.push (o : Ok B W ρ cs s) (ob : Obj) {tk : Nat} : After B n X W ρ cs s W ρ cs { s with heap := s.heap.push ob, toks := tk } :=
  o.grow (by rw [Heap.size_push]; exact Nat.le_succ _) fun a x e => Heap.get?_push_of_some ob e
theorem getElem?_append_some {α : Type} {l : List α} {i : Nat} {a : α} (x : List α) (e : l[i]? = some a) : (l ++ x)[i]? = some a := by
  rw [List.getElem?_append_left (List.getElem?_eq_some_iff.mp e).1]; exact e
theorem Mem.alloc (m : Mem B W ρ cs h) {ob : Obj} {o : AObj} (c : CRel B (h.push ob) (fun a => W a ∨ a = h.objs.size) (ρ ++ [h.objs.size]) h.objs.size o) :
    Mem B (fun a => W a ∨ a = h.objs.size) (ρ ++ [h.objs.size]) (cs ++ [o]) (h.push ob) := by
  have k : ∀ a o, h.get? a = some o → (h.push ob).get? a = some o := fun a o e => Heap.get?_push_of_some ob e
  have ne : ∀ a, a < h.objs.size → a ≠ h.objs.size := fun a l e => Nat.lt_irrefl _ (e ▸ l)
  have ρlt : ∀ a ∈ ρ, a < h.objs.size := fun a z => m.wlt a (m.own a z).1
  refine ⟨by simp [m.len], fun i o' a e g => ?_, ?_, fun a z => ?_, fun a z => ?_, fun a o e => ⟨k a o (m.base a o e).1, fun z => z.elim (m.base a o e).2 (ne a (Heap.lt_size (m.base a o e).1))⟩, fun p hp => ?_, by rw [Heap.size_push]; exact Nat.le_succ_of_le m.size⟩
  · by_cases hi : i < cs.length
    · rw [List.getElem?_append_left hi] at e
      rw [List.getElem?_append_left (m.len ▸ hi)] at g
      have c' := m.cell i o' a e g
      obtain ⟨ob', ho'⟩ := c'.getSome
      exact c'.mono ((k a ob' ho').trans ho'.symm) (fun a o e _ => k a o e) (fun a l w => w.elim id fun z => absurd z (ne a l)) fun j b q => getElem?_append_some _ q
    · have hi' : i = cs.length := by
        have := (List.getElem?_eq_some_iff.mp e).1
        simp at this; omega
      subst hi'
      simp at e; subst e
      rw [m.len] at g
      simp at g; subst g
      exact c
  · exact List.nodup_append.mpr ⟨m.inj, by simp, fun a ha b hb => by simp at hb; subst hb; exact ne a (ρlt a ha)⟩
  · rcases List.mem_append.mp z with z | z
    · exact ⟨.inl (m.own a z).1, (m.own a z).2⟩
    · simp at z; subst z; exact ⟨.inr rfl, m.size⟩
  · rw [Heap.size_push]
    rcases z with z | rfl
    · exact Nat.lt_succ_of_lt (m.wlt a z)
    · exact Nat.lt_succ_self _
  · obtain ⟨⟨ps, c, t⟩, w, l⟩ := m.tab p hp
    exact ⟨⟨ps, k _ _ c, t⟩, .inl w, l⟩
theorem lowTo_append (hn : n ≤ cs.length) (o : AObj) : LowTo n cs (cs ++ [o]) := fun k hk l i ob hi e => by
  rw [List.getElem?_append_left (Nat.lt_of_lt_of_le hi (Nat.le_trans hk hn))] at e
  exact l i ob hi e
theorem Ok.alloc (o : Ok B W ρ cs s) (hn : n ≤ cs.length) {ob : Obj} {co : AObj} {tk : Nat} (c : CRel B (s.heap.push ob) (fun a => W a ∨ a = s.heap.objs.size) (ρ ++ [s.heap.objs.size]) s.heap.objs.size co) :
    After B n X W ρ cs s (fun a => W a ∨ a = s.heap.objs.size) (ρ ++ [s.heap.objs.size]) (cs ++ [co]) { s with heap := s.heap.push ob, toks := tk } :=
  ⟨⟨o.mem.alloc c, o.gens⟩, ⟨fun a ob' e _ _ _ => Heap.get?_push_of_some ob e, fun a l => ⟨fun w => w.elim id fun z => absurd z (Nat.ne_of_lt l), .inl⟩, fun i a e => getElem?_append_some _ e,
    fun a m => (List.mem_append.mp m).elim .inl fun z => .inr (by simp at z; exact Nat.le_of_eq z.symm), by rw [Heap.size_push]; exact Nat.le_succ _⟩, rfl, lowTo_append hn _⟩
theorem Mem.setCell (m : Mem B W ρ cs h) {i : Nat} {a : Addr} {o : AObj} (g : ρ[i]? = some a) (hs : Heap.SameBut a h h') (c : CRel B h' W ρ a o) : Mem B W ρ (cs.set i o) h' := by
  have ha : a ∈ ρ := List.mem_of_getElem? g
  have wa := (m.own a ha).1
  have k : ∀ b o, h.get? b = some o → ¬ W b → h'.get? b = some o := fun b o e w => (hs.2 b fun z => w (z ▸ wa)).trans e
  refine ⟨by simp [m.len], fun j o' b e q => ?_, m.inj, m.own, fun b w => hs.1 ▸ m.wlt b w, fun b o e => ⟨k b o (m.base b o e).1 (m.base b o e).2, (m.base b o e).2⟩, fun p hp => ?_, by rw [hs.1]; exact m.size⟩
  · rw [List.getElem?_set] at e
    by_cases hij : i = j
    · subst hij
      rw [if_pos rfl] at e
      split at e
      · cases e
        rw [g] at q; cases q
        exact c
      · cases e
    · rw [if_neg hij] at e
      have hb : b ≠ a := fun z => hij (by
        subst z
        have := (List.getElem?_inj (List.getElem?_eq_some_iff.mp g).1 m.inj).mp (g.trans q.symm)
        exact this)
      exact (m.cell j o' b e q).mono (hs.2 b hb) k (fun _ _ w => w) fun _ _ z => z
  · obtain ⟨⟨ps, z, t⟩, w, l⟩ := m.tab p hp
    have hne : p.2 ≠ a := fun e => absurd l (Nat.not_lt.mpr (e ▸ (m.own a ha).2))
    exact ⟨⟨ps, (hs.2 _ hne).trans z, t⟩, w, l⟩
theorem lowTo_set {i : Nat} {co : AObj} (hl : n ≤ i ∨ ∀ k old, cs[i]? = some old → belowO k old = true → belowO k co = true) : LowTo n cs (cs.set i co) := fun k hk l j ob hj e => by
  rw [List.getElem?_set] at e
  split at e
  · rename_i hij; subst hij
    split at e
    · cases e
      rename_i hlt
      rcases hl with hl | hl
      · exact absurd (Nat.lt_of_lt_of_le hj hk) (Nat.not_lt.mpr hl)
      · have e' : cs[i]? = some cs[i] := by simp [hlt]
        exact hl k _ e' (l i _ hj e')
    · cases e
  · exact l j ob hj e
theorem Ok.setCell (o : Ok B W ρ cs s) {i : Nat} {a : Addr} {co : AObj} {h' : Heap} {tk : Nat} (g : ρ[i]? = some a) (hs : Heap.SameBut a s.heap h') (c : CRel B h' W ρ a co)
    (hl : n ≤ i ∨ ∀ k old, cs[i]? = some old → belowO k old = true → belowO k co = true) :
    After B n X W ρ cs s W ρ (cs.set i co) { s with heap := h', toks := tk } :=
  ⟨⟨o.mem.setCell g hs c, o.gens⟩, ⟨fun b ob e m _ _ => (hs.2 b fun z => m (z ▸ List.mem_of_getElem? g)).trans e, fun _ _ => Iff.rfl, fun _ _ e => e, fun _ m => .inl m, Nat.le_of_eq hs.1.symm⟩, rfl, lowTo_set hl⟩
end
inductive Loc where
  | ns (L : Addr) (x : Str)
  | cel (c : Addr)
noncomputable def Loc.addr : Loc → Addr
  | .ns L _ => L
  | .cel c => c
noncomputable def Loc.apart : Loc → Loc → Prop
  | .ns L x, .ns L' y => L = L' → x ≠ y
  | .cel c, .cel d => c ≠ d
  | .ns L _, .cel c => L ≠ c
  | .cel c, .ns L _ => L ≠ c
noncomputable def LocRel (B : Base) (h : Heap) (W : Addr → Prop) (ρ : List Addr) (x : Option AV) : Loc → Prop
  | .ns L y => ∃ m, h.Ns L m ∧ OptRel B h W ρ x (m y)
  | .cel c => ∃ v, h.IsCell c v ∧ OptRel B h W ρ x v
structure Frm (B : Base) (lay : List Loc) (fr : Fr) (W : Addr → Prop) (ρ : List Addr) (h : Heap) : Prop where
  len : lay.length = fr.length
  rel : ∀ (i : Nat) (l : Loc) (x : Option AV), lay[i]? = some l → fr[i]? = some x → LocRel B h W ρ x l
  own : ∀ l ∈ lay, W l.addr ∧ l.addr ∉ ρ ∧ B.h₀.objs.size ≤ l.addr
  apart : ∀ (i j : Nat) (l l' : Loc), lay[i]? = some l → lay[j]? = some l' → i ≠ j → l.apart l'
noncomputable def layX (lay : List Loc) : Addr → Prop := fun a => ∃ l ∈ lay, l.addr = a
section
variable {B : Base} {n : Nat} {X : Addr → Prop} {ρ ρ' : List Addr} {W W' : Addr → Prop} {cs cs' : Cells} {h h' : Heap} {lay : List Loc} {fr : Fr}
theorem Mem.tabLt (m : Mem B W ρ cs h) {a : Addr} (t : B.isTab a) : a < B.h₀.objs.size := by
  obtain ⟨p, hp, rfl⟩ := List.mem_map.mp t
  exact (m.tab p hp).2.2
theorem LocRel.mono {x : Option AV} {l : Loc} (ha : h'.get? l.addr = h.get? l.addr) (hk : ∀ a o, h.get? a = some o → ¬ W a → h'.get? a = some o) (hW : ∀ a, a < h.objs.size → W' a → W a) (hρ : ∀ (i : Nat) (a : Addr), ρ[i]? = some a → ρ'[i]? = some a)
    (r : LocRel B h W ρ x l) : LocRel B h' W' ρ' x l := by
  cases l with
  | ns L y => obtain ⟨m, hn, o⟩ := r; exact ⟨m, by unfold Heap.Ns; rw [show h'.get? L = h.get? L from ha]; exact hn, o.mono hk hW hρ⟩
  | cel c => obtain ⟨v, hc, o⟩ := r; exact ⟨v, by unfold Heap.IsCell; rw [show h'.get? c = h.get? c from ha]; exact hc, o.mono hk hW hρ⟩
theorem LocRel.getSome {x : Option AV} {l : Loc} (r : LocRel B h W ρ x l) : ∃ o, h.get? l.addr = some o := by
  cases l with
  | ns L y => obtain ⟨m, ⟨o, _, _, ho, _⟩, _⟩ := r; exact ⟨o, ho⟩
  | cel c => obtain ⟨v, ⟨o, ho, _⟩, _⟩ := r; exact ⟨o, ho⟩
theorem Frm.relAt (F : Frm B lay fr W ρ h) {i : Nat} {l : Loc} (e : lay[i]? = some l) : ∃ x, fr[i]? = some x ∧ LocRel B h W ρ x l := by
  have : i < fr.length := F.len ▸ (List.getElem?_eq_some_iff.mp e).1
  exact ⟨fr[i], by simp [this], F.rel i l _ e (by simp [this])⟩
theorem Frm.step (F : Frm B lay fr W ρ h) (m : Mem B W ρ cs h) (st : Step B X ρ W h ρ' W' h') (hX : ∀ l ∈ lay, ¬ X l.addr) (hXW : ∀ a, X a → W a) : Frm B lay fr W' ρ' h' := by
  have lt : ∀ l ∈ lay, l.addr < h.objs.size := fun l hl => m.wlt _ (F.own l hl).1
  refine ⟨F.len, fun i l x e g => ?_, fun l hl => ⟨(st.wiff _ (lt l hl)).mpr (F.own l hl).1, fun z => (st.fresh _ z).elim (F.own l hl).2.1 fun q => absurd (lt l hl) (Nat.not_lt.mpr q), (F.own l hl).2.2⟩, F.apart⟩
  have hl : l ∈ lay := List.mem_of_getElem? e
  have r := F.rel i l x e g
  obtain ⟨o, ho⟩ := r.getSome
  refine r.mono ((st.kept _ o ho (F.own l hl).2.1 (fun t => ?_) (hX l hl)).trans ho.symm) (st.keptW m hXW) (fun a l w => (st.wiff a l).mp w) st.pre
  exact absurd (m.tabLt t) (Nat.not_lt.mpr (F.own l hl).2.2)
end
section
variable {B : Base} {n : Nat} {ρ ρ₁ : List Addr} {W W₁ : Addr → Prop} {cs cs₁ : Cells} {s s₁ : Shared} {lay : List Loc} {fr : Fr}
theorem Frm.after (F : Frm B lay fr W ρ s.heap) (o : Ok B W ρ cs s) (a : After B n Non W ρ cs s W₁ ρ₁ cs₁ s₁) : Frm B lay fr W₁ ρ₁ s₁.heap := F.step o.mem a.step (fun _ _ x => x) fun _ x => x.elim
end
end Ev
namespace Ev
open PySem PySem.W PyProof.Rows PySem.SeqAt
open AutoSeq1 (wpAny_loadPart')
open MeetsSeq MeetsSeq2 MeetsSeq3 SeqRoads2
noncomputable def LtAt (A : Around) (s : Shared) (y x : Value) (b : Bool) : Prop :=
  ∀ (prog : Program) (w : PySem.World) (E : Value → Shared → Prop) (Q : Value → Shared → Prop), Q (.bool b) s → wpAny (model prog w) A (richCompare .Lt y x) Q E s
noncomputable def scanLt (e f : Nat → Bool) (last : Bool) : Nat → Nat → Bool
  | _, 0 => last
  | i, k + 1 => if e i then scanLt e f last (i + 1) k else f i
theorem tuple_ltAt (l b : Addr) (items items2 : Array Value) (n n2 : Nat) (dd dd2 : Option Addr) (sl sl2 : Array (Option Value)) (e f : Nat → Bool) :
    Meets (Builtin.«tuple.__lt__» ⟨[.ref l, .ref b], []⟩)
      (fun A R s => s.heap.get? l = some { cls := .type "tuple", dict := dd, data := .seq items n, slots := sl } ∧ s.heap.get? b = some { cls := .type "tuple", dict := dd2, data := .seq items2 n2, slots := sl2 } ∧
        (∀ j (h1 : j < items.size) (h2 : j < items2.size), (∀ m, m < j → e m = true) → EqAt A.in1 s items[j] items2[j] (e j)) ∧
        (∀ j (h1 : j < items.size) (h2 : j < items2.size), (∀ m, m < j → e m = true) → e j = false → LtAt A.in1 s items[j] items2[j] (f j)) ∧
        R (.ok (.ret (.bool (scanLt e f (decide (items.size < items2.size)) 0 (min items.size items2.size))))) s) :=
  .of_wp fun prog w A R s h => by
    obtain ⟨hp, g, d, tk, os⟩ := s; obtain ⟨hl, hb, he, hf, h⟩ := h
    have f2 := AutoSeq1.sub_tuple_tuple
    have hZ : (items.toList.zip items2.toList).length = min items.size items2.size := by simp
    wp_walk using wpAny_loadPart' hl, wpAny_loadPart' hb, wpAny_forIn_list _ (fun rest b s' => b.1 = none ∧ s' = ⟨hp, g, d, tk, os⟩ ∧ ∃ i, rest = (items.toList.zip items2.toList).drop i ∧ (∀ m, m < i → e m = true) ∧
      R (.ok (.ret (.bool (scanLt e f (decide (items.size < items2.size)) i (min items.size items2.size - i))))) ⟨hp, g, d, tk, os⟩) _
    case turn =>
      rintro ⟨y, x⟩ rest b s' ⟨hb', rfl, i, hz, hall, hR⟩
      have hlt : i < (items.toList.zip items2.toList).length := by
        rcases Nat.lt_or_ge i (items.toList.zip items2.toList).length with h' | h'
        · exact h'
        · rw [List.drop_of_length_le h'] at hz; cases hz
      have hm : i < min items.size items2.size := hZ ▸ hlt
      have h1 : i < items.size := Nat.lt_of_lt_of_le hm (Nat.min_le_left _ _)
      have h2 : i < items2.size := Nat.lt_of_lt_of_le hm (Nat.min_le_right _ _)
      rw [List.drop_eq_getElem_cons hlt] at hz
      injection hz with hyx hrest
      have hy : y = items[i] := by have := congrArg Prod.fst hyx; simpa using this
      have hx : x = items2[i] := by have := congrArg Prod.snd hyx; simpa using this
      subst hy hx
      have hk : min items.size items2.size - i = (min items.size items2.size - (i + 1)) + 1 := by omega
      rw [hk] at hR
      refine wpAny_bind (he i h1 h2 hall prog w _ _ ?_)
      cases hy : e i with
      | true =>
        simp only [scanLt, hy, if_true] at hR
        wp_walk
        exact ⟨rfl, rfl, i + 1, hrest, fun m hm => (Nat.lt_or_ge m i).elim (hall m) fun q => by
          have : m = i := by omega
          subst this; exact hy, hR⟩
      | false =>
        simp only [scanLt, hy, Bool.false_eq_true, if_false] at hR
        have hf' : ∀ (E Q : Value → Shared → Prop), Q (.bool (f i)) _ → wpAny (model prog w) A.in1 (richCompare .Lt items[i] items2[i]) Q E _ := hf i h1 h2 hall hy prog w
        wp_walk using hf'
        exact ⟨_, rfl, hR⟩
    case fin =>
      rintro ⟨b1, b2⟩ s' ⟨hb', rfl, i, hz, hall, hR⟩
      simp only at hb'
      subst hb'
      have hge : min items.size items2.size ≤ i := by
        rcases Nat.lt_or_ge i (items.toList.zip items2.toList).length with h' | h'
        · rw [List.drop_eq_getElem_cons h'] at hz; cases hz
        · exact hZ ▸ h'
      rw [Nat.sub_eq_zero_of_le hge] at hR
      wp_walk
      exact ⟨_, rfl, by simpa [Builtin.Tuple.tupleCompareSizes, scanLt] using hR⟩
    case h =>
      exact ⟨rfl, rfl, 0, rfl, fun m hm => absurd hm (Nat.not_lt_zero _), by simpa using h⟩
end Ev
namespace Ev
open PySem PySem.W PyProof.Rows PySem.SeqAt
open MeetsSeq MeetsSeq2 MeetsSeq3 SeqRoads2
section
variable {B : Base} {W : Addr → Prop} {ρ : List Addr} {cs : Cells} {s : Shared} {h : Heap}
theorem seq_inj {c : Value} {d : Option Addr} {xs ys : List Value} {k m : Nat} {sl : Array (Option Value)} (e : some (⟨c, d, .seq xs.toArray k, sl⟩ : Obj) = some ⟨c, d, .seq ys.toArray m, sl⟩) : xs = ys :=
  congrArg Array.toList (Data.seq.inj (Obj.mk.inj (Option.some.inj e)).2.2.1).1
theorem PlainList.inj {a : Addr} {xs ys : List Value} (x : h.PlainList a xs.toArray) (y : h.PlainList a ys.toArray) : xs = ys :=
  x.elim fun _ e => y.elim fun _ f => seq_inj (e.symm.trans f)
theorem PTup.inj {a : Addr} {xs ys : List Value} (x : PTup h a xs.toArray) (y : PTup h a ys.toArray) : xs = ys :=
  x.elim fun _ e => y.elim fun _ f => seq_inj (e.symm.trans f)
theorem strOf_beq (x y : Tx) : ((⟨x.toArray⟩ : Str) == ⟨y.toArray⟩) = (x == y) := Bool.eq_iff_iff.mpr (by rw [beq_iff_eq, beq_iff_eq]; exact ⟨fun h => congrArg (fun z : Str => z.cps.toList) h, fun h => h ▸ rfl⟩)
theorem eqvs_iff {f : AV → AV → Option Bool} : ∀ {xs ys : List AV} {b : Bool}, eqvs f xs ys = some b →
    ∃ e : Nat → Bool, (∀ (j : Nat) (x y : AV), xs[j]? = some x → ys[j]? = some y → f x y = some (e j)) ∧ b = ((List.range (min xs.length ys.length)).all e && xs.length == ys.length) := by
  intro xs
  induction xs with
  | nil =>
    intro ys b h
    refine ⟨fun _ => true, fun j x y hx _ => (Option.some_ne_none _ (hx.symm.trans List.getElem?_nil)).elim, ?_⟩
    cases h
    cases ys <;> rfl
  | cons x xs ih =>
    intro ys b h
    cases ys with
    | nil => cases h; exact ⟨fun _ => true, fun j x y _ hy => (Option.some_ne_none _ (hy.symm.trans List.getElem?_nil)).elim, rfl⟩
    | cons y ys =>
      obtain ⟨a, h1, h⟩ := bind_eq h
      obtain ⟨b', h2, rfl⟩ := map_eq h
      obtain ⟨e, he, hb⟩ := ih h2
      refine ⟨fun j => Nat.casesOn j a e, fun j x' y' hx hy => ?_, ?_⟩
      · cases j with
        | zero => cases hx; cases hy; exact h1
        | succ j => exact he j x' y' hx hy
      · rw [hb, List.length_cons, List.length_cons, Nat.succ_min_succ, List.range_succ_eq_map, List.all_cons, List.all_map, Bool.and_assoc]
        congr 2
        exact Bool.eq_iff_iff.mpr (by simp only [beq_iff_eq, Nat.add_right_cancel_iff])
theorem items_at (o : Ok B W ρ cs s) {f : AV → AV → Option Bool} {P : Value → Value → Bool → Prop} (hf : ∀ {x y : AV} {v u : Value} {b : Bool}, VRel B s.heap W ρ x v → VRel B s.heap W ρ y u → f x y = some b → P v u b)
    {xs ys : List AV} {vs us : List Value} (rx : VRels B s.heap W ρ xs vs) (ry : VRels B s.heap W ρ ys us) {b : Bool} (e : eqvs f xs ys = some b) :
    ∃ e : Nat → Bool, (∀ (j : Nat) (h1 : j < vs.toArray.size) (h2 : j < us.toArray.size), P vs.toArray[j] us.toArray[j] (e j)) ∧ b = ((List.range (min vs.toArray.size us.toArray.size)).all e && vs.toArray.size == us.toArray.size) := by
  obtain ⟨f, hf', hb⟩ := eqvs_iff e
  refine ⟨f, fun j h1 h2 => ?_, by rw [List.size_toArray, List.size_toArray, ← rx.length, ← ry.length]; exact hb⟩
  have h1' : j < xs.length := rx.length ▸ h1
  have h2' : j < ys.length := ry.length ▸ h2
  obtain ⟨v, hv, rv⟩ := rx.get (List.getElem?_eq_getElem h1')
  obtain ⟨u, hu, ru⟩ := ry.get (List.getElem?_eq_getElem h2')
  rw [show vs.toArray[j] = v from (List.getElem?_eq_some_iff.mp hv).2, show us.toArray[j] = u from (List.getElem?_eq_some_iff.mp hu).2]
  exact hf rv ru (hf' j _ _ (List.getElem?_eq_getElem h1') (List.getElem?_eq_getElem h2'))
theorem eqv_elim (o : Ok B W ρ cs s) {n : Nat} {P R : Value → Value → Bool → Prop} (ih : ∀ {x y : AV} {v u : Value} {b : Bool}, VRel B s.heap W ρ x v → VRel B s.heap W ρ y u → eqv cs n x y = some b → P v u b)
    (kInt : ∀ (i j : Int) (t t' : Tok), R (.int i t) (.int j t') (i == j)) (kStr : ∀ (i j : Tx) (t t' : Tok), R (.str ⟨i.toArray⟩ t) (.str ⟨j.toArray⟩ t') (i == j))
    (kTup : ∀ {a a' : Addr} {vs us : List Value} {f : Nat → Bool}, PTup s.heap a vs.toArray → PTup s.heap a' us.toArray → (∀ (j : Nat) (h1 : j < vs.toArray.size) (h2 : j < us.toArray.size), P vs.toArray[j] us.toArray[j] (f j)) →
      R (.ref a) (.ref a') ((List.range (min vs.toArray.size us.toArray.size)).all f && vs.toArray.size == us.toArray.size))
    (kLst : ∀ {a a' : Addr} {vs us : List Value} {f : Nat → Bool}, s.heap.PlainList a vs.toArray → s.heap.PlainList a' us.toArray → vs.toArray.size = us.toArray.size → (∀ (j : Nat) (h1 : j < vs.toArray.size) (h2 : j < us.toArray.size), P vs.toArray[j] us.toArray[j] (f j)) →
      R (.ref a) (.ref a') ((List.range vs.toArray.size).all f))
    (kLen : ∀ {a a' : Addr} {vs us : List Value}, s.heap.PlainList a vs.toArray → s.heap.PlainList a' us.toArray → (vs.toArray.size != us.toArray.size) = true → R (.ref a) (.ref a') false)
    {x y : AV} {v u : Value} {b : Bool} (p : VRel B s.heap W ρ x v) (q : VRel B s.heap W ρ y u) (e : eqv cs (n + 1) x y = some b) : R v u b := by
  rcases orElse_eq e with ⟨i, hx, e⟩ | e
  · obtain ⟨j, hy, rfl⟩ := map_eq e
    obtain ⟨t, rfl⟩ := p.ofInt hx
    obtain ⟨t', rfl⟩ := q.ofInt hy
    exact kInt ..
  rcases orElse_eq e with ⟨i, hx, e⟩ | e
  · obtain ⟨j, hy, rfl⟩ := map_eq e
    obtain ⟨t, rfl, _⟩ := p.ofStr hx
    obtain ⟨t', rfl, _⟩ := q.ofStr hy
    exact kStr ..
  rcases orElse_eq e with ⟨xs, hx, e⟩ | e
  · obtain ⟨ys, hy, e⟩ := bind_eq e
    obtain ⟨vs, a, rfl, l, _, _, r⟩ := p.ofTup hx
    obtain ⟨us, a', rfl, l', _, _, r'⟩ := q.ofTup hy
    obtain ⟨f, hf, rfl⟩ := items_at o ih r r' e
    exact kTup l l' hf
  · obtain ⟨xs, hx, e⟩ := bind_eq e
    obtain ⟨ys, hy, e⟩ := bind_eq e
    obtain ⟨a, vs, rfl, l, _, r⟩ := o.mem.listOf p hx
    obtain ⟨a', us, rfl, l', _, r'⟩ := o.mem.listOf q hy
    have hsz : (vs.toArray.size = us.toArray.size) = (xs.length = ys.length) := by rw [List.size_toArray, List.size_toArray, r.length, r'.length]
    by_cases hl : xs.length = ys.length
    · rw [if_pos hl] at e
      obtain ⟨f, hf, hb⟩ := items_at o ih r r' e
      rw [← hsz] at hl
      rw [← hl, Nat.min_self, beq_self_eq_true, Bool.and_true] at hb
      rw [hb]
      exact kLst l l' hl hf
    · rw [if_neg hl] at e
      cases e
      exact kLen l l' (bne_iff_ne.mpr fun h => hl (hsz ▸ h))
theorem all_range {f : Nat → Bool} {n : Nat} (h : ∀ j, j < n → f j = true) : (List.range n).all f = true := List.all_eq_true.mpr fun j hj => h j (List.mem_range.mp hj)
theorem eqv_same (o : Ok B W ρ cs s) (n : Nat) : ∀ {x y : AV} {v u : Value} {b : Bool}, VRel B s.heap W ρ x v → VRel B s.heap W ρ y u → eqv cs n x y = some b → v = u → b = true := by
  induction n with
  | zero => intro x y v u b p q e; cases e
  | succ n ih =>
    refine fun p q e => eqv_elim o (P := fun v u b => v = u → b = true) (R := fun v u b => v = u → b = true) ih (fun i j t t' h => ?_) (fun i j t t' h => ?_) (fun l l' hf h => ?_) (fun l l' hz hf h => ?_) (fun l l' hz h => ?_) p q e
    · rw [(Value.int.inj h).1]; exact beq_self_eq_true j
    · rw [show i = j from congrArg (fun z : Str => z.cps.toList) (Value.str.inj h).1]; exact beq_self_eq_true j
    · cases h
      obtain rfl := PTup.inj l l'
      rw [Nat.min_self, beq_self_eq_true, Bool.and_true]
      exact all_range fun j hj => hf j hj hj rfl
    · cases h
      obtain rfl := PlainList.inj l l'
      exact all_range fun j hj => hf j hj hj rfl
    · cases h
      obtain rfl := PlainList.inj l l'
      exact absurd rfl (bne_iff_ne.mp hz)
theorem eqv_at (o : Ok B W ρ cs s) (n : Nat) : ∀ {x y : AV} {v u : Value} {b : Bool} {A : Around}, A.units + n < cLine → VRel B s.heap W ρ x v → VRel B s.heap W ρ y u → eqv cs n x y = some b → EqAt A s v u b := by
  induction n with
  | zero => intro x y v u b A hu p q e; cases e
  | succ n ih =>
    intro x y v u b A hu p q e
    have hu' : A.in1.units + n < cLine := by rw [Around.in1_units, Nat.add_assoc, Nat.add_comm 1]; exact hu
    have hlt : A.units < cLine := Nat.lt_of_le_of_lt (Nat.le_add_right _ _) hu
    have fin : ∀ {a a' : Addr} {b : Bool}, RcAt A s (.ref a) (.ref a') b → (Value.ref a = .ref a' → b = true) → EqAt A s (.ref a) (.ref a') b := fun {a a' b} h hs => by
      by_cases ha : a = a'
      · rw [hs (ha ▸ rfl), ha]; exact EqAt.same _
      · exact EqAt.of_refs ha h
    refine eqv_elim o (P := fun v u b => EqAt A.in1 s v u b) (R := fun v u b => (v = u → b = true) → EqAt A s v u b) (fun rv ru e => ih hu' rv ru e) (fun i j t t' _ => (EqGives.int _ _ _ _).at A s) (fun i j t t' _ => (EqGives.str _ _ _ _).at A s)
      (fun l l' hf => fin (RcAt.tuples l.isTuple l'.isTuple hlt hf)) (fun l l' hz hf => fin (RcAt.lists l.isList l'.isList hz hlt hf)) (fun l l' hz => fin (RcAt.lists_lengths l.isList l'.isList hz hlt)) p q e (eqv_same o _ p q e)
theorem eqv_rc (o : Ok B W ρ cs s) {n : Nat} {x y : AV} {v u : Value} {b : Bool} {A : Around} (hu : A.units + n < cLine) (p : VRel B s.heap W ρ x v) (q : VRel B s.heap W ρ y u) (e : eqv cs n x y = some b) : RcAt A s v u b := by
  cases n with
  | zero => cases e
  | succ n =>
    have hu' : A.in1.units + n < cLine := by rw [Around.in1_units, Nat.add_assoc, Nat.add_comm 1]; exact hu
    have hlt : A.units < cLine := Nat.lt_of_le_of_lt (Nat.le_add_right _ _) hu
    exact eqv_elim o (P := fun v u b => EqAt A.in1 s v u b) (R := fun v u b => RcAt A s v u b) (fun rv ru e => eqv_at o n hu' rv ru e) (fun i j t t' => RcAt.int_int i t j t') (fun i j t t' prog w E Q h => RcAt.str_str _ t _ t' prog w E Q (by rw [strOf_beq]; exact h))
      (fun l l' hf => RcAt.tuples l.isTuple l'.isTuple hlt hf) (fun l l' hz hf => RcAt.lists l.isList l'.isList hz hlt hf) (fun l l' hz => RcAt.lists_lengths l.isList l'.isList hz hlt) p q e
end
end Ev
namespace Ev
open PySem PySem.W PyProof.Rows PySem.SeqAt
open MeetsSeq MeetsSeq2 MeetsSeq3 SeqRoads2
noncomputable def copOf : COp → CmpOp
  | .eq => .Eq | .ne => .NotEq | .lt => .Lt | .le => .LtE | .gt => .Gt | .ge => .GtE | .is => .Is | .isnot => .IsNot | .in_ => .In | .notin => .NotIn
theorem copOf_tr (o : CmpOp) : copOf (trCOp o) = o := by cases o <;> rfl
theorem ltTx_iff (a : Tx) : ∀ b : Tx, ltTx a b = decide (a < b) := by
  induction a with
  | nil => intro b; cases b <;> rfl
  | cons a r ih =>
    intro b
    cases b with
    | nil => rfl
    | cons b q =>
      rw [ltTx, ih q]
      by_cases h : a < b
      · rw [if_pos h]; exact (decide_eq_true (List.cons_lt_cons_iff.mpr (.inl h))).symm
      · rw [if_neg h]
        by_cases h' : b < a
        · rw [if_pos h']; exact (decide_eq_false fun z => (List.cons_lt_cons_iff.mp z).elim h fun z => Nat.lt_irrefl _ (z.1 ▸ h')).symm
        · rw [if_neg h']
          obtain rfl := Nat.le_antisymm (Nat.le_of_not_lt h') (Nat.le_of_not_lt h)
          exact decide_eq_decide.mpr ⟨fun z => List.cons_lt_cons_iff.mpr (.inr ⟨rfl, z⟩), fun z => (List.cons_lt_cons_iff.mp z).elim (fun z => absurd z (Nat.lt_irrefl _)) (·.2)⟩
section
variable {B : Base} {W : Addr → Prop} {ρ : List Addr} {cs : Cells} {s : Shared} {A : Around} {E : Value → Shared → Prop} {Q : Value → Shared → Prop}
theorem eqv_cmp (o : Ok B W ρ cs s) {n : Nat} (hu : A.units + n < cLine) {x y : AV} {v u : Value} {b : Bool} (p : VRel B s.heap W ρ x v) (q : VRel B s.heap W ρ y u) (e : eqv cs n x y = some b) (hQ : Q (.bool b) s) :
    wpAny (model B.prog B.w) A (compareOp .Eq v u) Q E s := eqv_rc o hu p q e _ _ _ _ hQ
theorem eqv_cmp_ne (o : Ok B W ρ cs s) {n : Nat} (hu : A.units + n < cLine) {x y : AV} {v u : Value} {b : Bool} (p : VRel B s.heap W ρ x v) (q : VRel B s.heap W ρ y u) (e : eqv cs n x y = some b) (hQ : Q (.bool (!b)) s) :
    wpAny (model B.prog B.w) A (compareOp .NotEq v u) Q E s := by
  cases n with
  | zero => cases e
  | succ n =>
    have hu' : A.in1.units + n < cLine := by rw [Around.in1_units, Nat.add_assoc, Nat.add_comm 1]; exact hu
    have hlt : A.units < cLine := Nat.lt_of_le_of_lt (Nat.le_add_right _ _) hu
    exact eqv_elim o (P := fun v u b => EqAt A.in1 s v u b) (R := fun v u b => Q (.bool (!b)) s → wpAny (model B.prog B.w) A (compareOp .NotEq v u) Q E s) (fun rv ru e => eqv_at o n hu' rv ru e) (fun i j t t' h => P.ne_int h) (fun i j t t' h => P.ne_str h)
      (fun l l' hf h => l.elim fun m l => l'.elim fun m' l' => richCompare_meets_room (op := .NotEq) ⟨_, l, rfl⟩ ⟨_, l', rfl⟩ F.slot_tuple_ne F.entry_tuple_ne (F.args_tuple_ne_2 _ _) (tuple_neAt _ _ _ _ _ _ _ _ _ _ _) ⟨l, l', hf, ⟨(fun x => nomatch x), h⟩⟩ hlt)
      (fun l l' hz hf h => l.elim fun m l => l'.elim fun m' l' => richCompare_meets_room (op := .NotEq) ⟨_, l, rfl⟩ ⟨_, l', rfl⟩ F.slot_list_ne F.entry_list_ne (F.args_list_ne_2 _ _) (list_neAt _ _ _ _ _ _ _ _ _ _ hz _) ⟨l, l', hf, ⟨(fun x => nomatch x), h⟩⟩ hlt)
      (fun l l' hz h => l.elim fun m l => l'.elim fun m' l' => richCompare_meets_room (op := .NotEq) ⟨_, l, rfl⟩ ⟨_, l', rfl⟩ F.slot_list_ne F.entry_list_ne (F.args_list_ne_2 _ _) (list_ne_lengthsAt _ _ _ _ _ _ _ _ _ _ hz) ⟨l, l', ⟨(fun x => nomatch x), h⟩⟩ hlt) p q e hQ
theorem get_nil {j : Nat} {x : AV} {P : Prop} (h : ([] : List AV)[j]? = some x) : P := (Option.some_ne_none _ (h.symm.trans List.getElem?_nil)).elim
theorem ltvs_scan {e f : AV → AV → Option Bool} {xs : List AV} : ∀ {ys : List AV} {b : Bool}, ltvs e f xs ys = some b →
    ∃ g k : Nat → Bool, (∀ (j : Nat) (x y : AV), xs[j]? = some x → ys[j]? = some y → (∀ m, m < j → g m = true) → e x y = some (g j)) ∧ (∀ (j : Nat) (x y : AV), xs[j]? = some x → ys[j]? = some y → (∀ m, m < j → g m = true) → g j = false → f x y = some (k j)) ∧
      ∀ i, scanLt (fun j => g (j - i)) (fun j => k (j - i)) (decide (xs.length < ys.length)) i (min xs.length ys.length) = b := by
  induction xs with
  | nil =>
    intro ys b h
    cases h
    exact ⟨fun _ => true, fun _ => true, fun j x y hx => get_nil hx, fun j x y hx => get_nil hx, fun i => by cases ys <;> rfl⟩
  | cons x xs ih =>
    intro ys b h
    cases ys with
    | nil => cases h; exact ⟨fun _ => true, fun _ => true, fun j x y _ hx => get_nil hx, fun j x y _ hx => get_nil hx, fun i => rfl⟩
    | cons y ys =>
      obtain ⟨t, h1, h⟩ := bind_eq h
      have hz : ∀ {P : Nat → Prop} {a b : AV}, (x :: xs)[0]? = some a → (y :: ys)[0]? = some b → e a b = some t := fun ha hb => by cases ha; cases hb; exact h1
      cases t with
      | true =>
        obtain ⟨g, k, hg, hk, hb⟩ := ih (show ltvs e f xs ys = some b from h)
        refine ⟨fun j => Nat.casesOn j true g, fun j => Nat.casesOn j true k, fun j x' y' hx hy hm => ?_, fun j x' y' hx hy hm hf => ?_, fun i => ?_⟩
        · cases j with
          | zero => exact hz (P := fun _ => True) hx hy
          | succ j => exact hg j x' y' hx hy fun m hm' => hm (m + 1) (Nat.succ_lt_succ hm')
        · cases j with
          | zero => cases hf
          | succ j => exact hk j x' y' hx hy (fun m hm' => hm (m + 1) (Nat.succ_lt_succ hm')) hf
        · rw [List.length_cons, List.length_cons, Nat.succ_min_succ, scanLt, Nat.sub_self, ← hb (i + 1), show decide (xs.length + 1 < ys.length + 1) = decide (xs.length < ys.length) from decide_eq_decide.mpr Nat.succ_lt_succ_iff]
          show scanLt _ _ _ _ _ = _
          have key : ∀ n j, i + 1 ≤ j → scanLt (fun j => Nat.casesOn (j - i) true g) (fun j => Nat.casesOn (j - i) true k) (decide (xs.length < ys.length)) j n = scanLt (fun j => g (j - (i + 1))) (fun j => k (j - (i + 1))) (decide (xs.length < ys.length)) j n := by
            intro n
            induction n with
            | zero => intro j _; rfl
            | succ n ih =>
              intro j hj
              rw [scanLt, scanLt, ih (j + 1) (Nat.le_succ_of_le hj), show j - i = (j - (i + 1)) + 1 from (Nat.succ_pred_eq_of_pos (Nat.sub_pos_of_lt hj)).symm]
          exact key _ _ (Nat.le_refl _)
      | false =>
        refine ⟨fun j => Nat.casesOn j false fun _ => true, fun j => b, fun j x' y' hx hy hm => ?_, fun j x' y' hx hy hm hf => ?_, fun i => ?_⟩
        · cases j with
          | zero => exact hz (P := fun _ => True) hx hy
          | succ j => exact nomatch hm 0 (Nat.succ_pos _)
        · cases j with
          | zero => cases hx; cases hy; exact h
          | succ j => cases hf
        · rw [List.length_cons, List.length_cons, Nat.succ_min_succ, scanLt, Nat.sub_self]
          rfl
theorem at_both {xs ys : List AV} {vs us : List Value} (r : VRels B s.heap W ρ xs vs) (r' : VRels B s.heap W ρ ys us) (j : Nat) (h1 : j < vs.toArray.size) (h2 : j < us.toArray.size) :
    ∃ x y, xs[j]? = some x ∧ ys[j]? = some y ∧ VRel B s.heap W ρ x vs.toArray[j] ∧ VRel B s.heap W ρ y us.toArray[j] := by
  have h1' : j < xs.length := r.length ▸ h1
  have h2' : j < ys.length := r'.length ▸ h2
  obtain ⟨v, hv, rv⟩ := r.get (List.getElem?_eq_getElem h1')
  obtain ⟨u, hu, ru⟩ := r'.get (List.getElem?_eq_getElem h2')
  exact ⟨_, _, List.getElem?_eq_getElem h1', List.getElem?_eq_getElem h2', (show vs.toArray[j] = v from (List.getElem?_eq_some_iff.mp hv).2) ▸ rv, (show us.toArray[j] = u from (List.getElem?_eq_some_iff.mp hu).2) ▸ ru⟩
theorem ltv_at (o : Ok B W ρ cs s) (n : Nat) : ∀ {A : Around} {x y : AV} {v u : Value} {b : Bool}, A.units + n < cLine → VRel B s.heap W ρ x v → VRel B s.heap W ρ y u → ltv cs n x y = some b → LtAt A s v u b := by
  induction n with
  | zero => intro A x y v u b hu p q e; cases e
  | succ n ih =>
    intro A x y v u b hu p q e
    have hu' : A.in1.units + n < cLine := by rw [Around.in1_units, Nat.add_assoc, Nat.add_comm 1]; exact hu
    rcases orElse_eq e with ⟨i, hx, e⟩ | e
    · obtain ⟨j, hy, rfl⟩ := map_eq e
      obtain ⟨t, rfl⟩ := p.ofInt hx
      obtain ⟨t', rfl⟩ := q.ofInt hy
      exact fun prog w E Q hq => P.lt_int hq
    rcases orElse_eq e with ⟨i, hx, e⟩ | e
    · obtain ⟨j, hy, rfl⟩ := map_eq e
      obtain ⟨t, rfl, _⟩ := p.ofStr hx
      obtain ⟨t', rfl, _⟩ := q.ofStr hy
      exact fun prog w E Q hq => P.lt_str (by rw [ltTx_iff] at hq; exact hq)
    · obtain ⟨xs, hx, e⟩ := bind_eq e
      obtain ⟨ys, hy, e⟩ := bind_eq e
      obtain ⟨vs, a, rfl, ⟨m, l⟩, _, _, r⟩ := p.ofTup hx
      obtain ⟨us, a', rfl, ⟨m', l'⟩, _, _, r'⟩ := q.ofTup hy
      obtain ⟨g, k, hg, hk, hb⟩ := ltvs_scan e
      have hb : scanLt g k (decide (vs.toArray.size < us.toArray.size)) 0 (min vs.toArray.size us.toArray.size) = b := by rw [List.size_toArray, List.size_toArray, ← r.length, ← r'.length]; exact hb 0
      refine fun prog w E Q hq => richCompare_meets_room (op := .Lt) ⟨_, l, rfl⟩ ⟨_, l', rfl⟩ F.slot_tuple_lt F.entry_tuple_lt (F.args_tuple_lt_2 _ _) (tuple_ltAt _ _ _ _ _ _ _ _ _ _ g k)
        ⟨l, l', fun j h1 h2 hm => ?_, fun j h1 h2 hm hf => ?_, (fun x => nomatch x), hb.symm ▸ hq⟩ (Nat.lt_of_le_of_lt (Nat.le_add_right _ _) hu)
      · obtain ⟨x, y, hx, hy, rx, ry⟩ := at_both r r' j h1 h2
        exact eqv_at o n hu' rx ry (hg j x y hx hy hm)
      · obtain ⟨x, y, hx, hy, rx, ry⟩ := at_both r r' j h1 h2
        exact ih hu' rx ry (hk j x y hx hy hm hf)
end
end Ev
namespace Ev
open PySem PySem.W PyProof.Rows PySem.SeqAt
open MeetsSeq MeetsSeq2 MeetsSeq3 SeqRoads2
noncomputable def tyI (s : String) : TyN := if s = "int" then .int else if s = "str" then .str else if s = "list" then .list else if s = "range" then .range else if s = "zip" then .zip else if s = "type" then .type else .object
theorem tyS_inj {x y : TyN} (h : tyS x = tyS y) : x = y :=
  have k : ∀ x, tyI (tyS x) = x := fun x => by cases x <;> kernel_rfl
  (k x).symm.trans ((congrArg tyI h).trans (k y))
theorem kvs_lookup {B : Base} {h : Heap} {W : Addr → Prop} {ρ : List Addr} {k : Tx} {es : List (Tx × AV)} {kvs : List (Str × Value)} (r : KVs B h W ρ es kvs) : OptRel B h W ρ (es.lookup k) (valueAt kvs ⟨k.toArray⟩) ∧ (es.lookup k).isSome = (valueAt kvs ⟨k.toArray⟩).isSome := by
  induction r with
  | nil => exact ⟨trivial, rfl⟩
  | @cons k' x v es kvs r t ih =>
    by_cases hk : k = k'
    · subst hk
      have e : valueAt ((⟨k.toArray⟩, v) :: kvs) ⟨k.toArray⟩ = some v := by unfold valueAt; rw [List.find?_cons, decide_eq_true rfl]; rfl
      rw [e, List.lookup_cons, beq_self_eq_true]; exact ⟨⟨v, rfl, r⟩, rfl⟩
    · have e : valueAt ((⟨k'.toArray⟩, v) :: kvs) ⟨k.toArray⟩ = valueAt kvs ⟨k.toArray⟩ := by
        unfold valueAt
        rw [List.find?_cons, decide_eq_false (fun h => hk (congrArg (fun z : Str => z.cps.toList) h).symm)]
      rw [e, List.lookup_cons, beq_false_of_ne hk]; exact ih
section
variable {B : Base} {W : Addr → Prop} {ρ : List Addr} {cs : Cells} {s : Shared} {A : Around} {E : Value → Shared → Prop} {Q : Value → Shared → Prop}
theorem notSys (hs : sysModules < B.h₀.objs.size) (o : Ok B W ρ cs s) {a : Addr} (m : a ∈ ρ) : (a == sysModules) = false := by
  have := (o.mem.own a m).2
  exact beq_false_of_ne fun e => by subst e; exact absurd hs (Nat.not_lt.mpr this)
theorem fuel8 {A : Around} (hu : A.units + 16 < cLine) : A.units + fuelEq < cLine ∧ A.in1.units + fuelEq < cLine :=
  ⟨Nat.lt_of_le_of_lt (Nat.add_le_add_left (by decide : fuelEq ≤ 16) _) hu, Nat.lt_of_le_of_lt (show A.units + 1 + 8 ≤ A.units + 16 by rw [Nat.add_assoc]; exact Nat.add_le_add_left (by decide) _) hu⟩
theorem strs_rel {h : Heap} {xs : List AV} {vs : List Value} (r : VRels B h W ρ xs vs) : ∀ {ts : List Tx}, allStr xs = some ts → ∃ l : List (Str × Tok), vs = strValues l ∧ l.map (·.1) = ts.map fun x => (⟨x.toArray⟩ : Str) :=
  r.ind (P := fun xs vs => ∀ {ts : List Tx}, allStr xs = some ts → ∃ l : List (Str × Tok), vs = strValues l ∧ l.map (·.1) = ts.map fun x => (⟨x.toArray⟩ : Str)) (fun e => ⟨[], rfl, by rw [← Option.some.inj e]; rfl⟩) fun q r ih ts e => by
    obtain ⟨t, hx, e⟩ := bind_eq e
    obtain ⟨us, hj, e⟩ := map_eq e
    obtain ⟨tk, hv, _⟩ := q.ofStr hx
    obtain ⟨l, h1, h2⟩ := ih hj
    refine ⟨(⟨t.toArray⟩, tk) :: l, by rw [hv, h1]; rfl, ?_⟩
    rw [← e, List.map_cons, List.map_cons, h2]
theorem memb_at (o : Ok B W ρ cs s) (hu : A.units + fuelEq < cLine) {x : AV} {u : Value} {ys : List AV} {vs : List Value} (rx : VRel B s.heap W ρ x u) (ry : VRels B s.heap W ρ ys vs) : ∀ {b : Bool}, membv cs x ys = some b →
    ∃ f : Value → Bool, (∀ y ∈ vs, EqAt A s y u (f y)) ∧ vs.toArray.any f = b := by
  have key : ∀ {b : Bool}, membv cs x ys = some b → ∃ bs : List Bool, bs.length = vs.length ∧ bs.any id = b ∧ ∀ (j : Nat) (v : Value) (c : Bool), vs[j]? = some v → bs[j]? = some c → EqAt A s v u c :=
    ry.ind (P := fun ys vs => ∀ {b : Bool}, membv cs x ys = some b → ∃ bs : List Bool, bs.length = vs.length ∧ bs.any id = b ∧ ∀ (j : Nat) (v : Value) (c : Bool), vs[j]? = some v → bs[j]? = some c → EqAt A s v u c)
      (fun e => ⟨[], rfl, Option.some.inj e, fun j v c h => (nomatch h)⟩) fun q r ih b e => by
        obtain ⟨t, ht, e⟩ := bind_eq e
        obtain ⟨c, hc, e⟩ := map_eq e
        obtain ⟨bs, h1, h2, h3⟩ := ih hc
        refine ⟨t :: bs, congrArg (· + 1) h1, by rw [← e, ← h2]; rfl, fun j v c hv hb => ?_⟩
        cases j with
        | zero => obtain rfl := Option.some.inj hv; obtain rfl := Option.some.inj hb; exact eqv_at o _ hu q rx ht
        | succ j => exact h3 j v c hv hb
  intro b e
  obtain ⟨bs, h1, h2, h3⟩ := key e
  classical
  refine ⟨fun y => decide (∃ j : Nat, vs[j]? = some y ∧ bs[j]? = some true), fun y hy => ?_, ?_⟩
  · show EqAt A s y u (decide (∃ j : Nat, vs[j]? = some y ∧ bs[j]? = some true))
    by_cases h : ∃ j : Nat, vs[j]? = some y ∧ bs[j]? = some true
    · obtain ⟨j, hv, hb⟩ := id h
      rw [decide_eq_true h]
      exact h3 j y true hv hb
    · rw [decide_eq_false h]
      obtain ⟨j, hj⟩ := List.mem_iff_getElem?.mp hy
      have hlt : j < bs.length := h1 ▸ (List.getElem?_eq_some_iff.mp hj).1
      have hb : bs[j]? = some bs[j] := List.getElem?_eq_getElem hlt
      cases hc : bs[j] with
      | true => exact absurd ⟨j, hj, hc ▸ hb⟩ h
      | false => exact h3 j y false hj (hc ▸ hb)
  · rw [List.any_toArray, ← h2]
    refine Bool.eq_iff_iff.mpr (List.any_eq_true.trans (Iff.trans ⟨fun ⟨y, _, h⟩ => ?_, fun ⟨t, ht, h⟩ => ?_⟩ List.any_eq_true.symm))
    · obtain ⟨j, _, hb⟩ := of_decide_eq_true h
      exact ⟨true, List.mem_of_getElem? hb, rfl⟩
    · obtain rfl : t = true := h
      obtain ⟨j, hj⟩ := List.mem_iff_getElem?.mp ht
      have hlt : j < vs.length := h1 ▸ (List.getElem?_eq_some_iff.mp hj).1
      exact ⟨vs[j], List.getElem_mem hlt, decide_eq_true ⟨j, List.getElem?_eq_getElem hlt, hj⟩⟩
theorem inv_sound (hs : sysModules < B.h₀.objs.size) (o : Ok B W ρ cs s) (hu : A.units + 16 < cLine) {x y : AV} {v u : Value} {b : Bool} (p : VRel B s.heap W ρ x v) (q : VRel B s.heap W ρ y u) (e : inv cs x y = some b) (neg : Bool)
    (hQ : ∀ t, Q (.bool (if neg then !b else b)) { s with toks := t }) : wpAny (model B.prog B.w) A (compareOp (if neg then .NotIn else .In) v u) Q E s := by
  rcases orElse_eq e with ⟨z, hy, e⟩ | e
  · obtain ⟨c, hx, rfl⟩ := map_eq e
    obtain ⟨k, hx, hk⟩ := bind_eq hx
    obtain rfl := one?_eq hk
    obtain ⟨t, rfl, _⟩ := p.ofStr hx
    obtain ⟨t', rfl, _⟩ := q.ofStr hy
    have hone := (StrLaws.found_one ⟨z.toArray⟩ c).trans (show decide (c ∈ z) = z.contains c from List.elem_eq_mem .. |>.symm)
    rw [← hone] at hQ
    cases neg
    · exact P.in_str (hQ s.toks)
    · exact P.notIn_str (hQ s.toks)
  · rcases orElse_eq e with ⟨ys, hy, e⟩ | e
    · obtain ⟨vs, a, rfl, l, _, _, r⟩ := q.ofTup hy
      obtain ⟨f, hf, rfl⟩ := memb_at o (fuel8 hu).2 p r e
      cases neg
      · exact in_tupleAt f l.isTuple (fun y hy => hf y (List.mem_toArray.mp hy)) (hQ s.toks)
      · exact notIn_tupleAt f l.isTuple (fun y hy => hf y (List.mem_toArray.mp hy)) (hQ s.toks)
    · obtain ⟨ys, hy, e⟩ := bind_eq e
      obtain ⟨a, vs, rfl, l, _, r⟩ := o.mem.listOf q hy
      obtain ⟨f, hf, rfl⟩ := memb_at o (fuel8 hu).2 p r e
      cases neg
      · exact in_listAt f l.isList (fun y hy => hf y (List.mem_toArray.mp hy)) (hQ s.toks)
      · exact notIn_listAt f l.isList (fun y hy => hf y (List.mem_toArray.mp hy)) (hQ s.toks)
theorem type_ne {a b : String} (h : a ≠ b) : Value.type a ≠ .type b := fun e => h (Value.type.inj e)
theorem CRel.cls {h : Heap} {a : Addr} {o : AObj} (c : CRel B h W ρ a o) : ∃ ob, h.get? a = some ob ∧ ob.cls ≠ .type "tuple" := by
  cases o with
  | list => obtain ⟨_, ⟨_, l⟩, _⟩ := c; exact ⟨_, l, type_ne (by decide)⟩
  | dict => obtain ⟨_, ⟨o, _, _, ho, hc, _⟩, _⟩ := c; exact ⟨o, ho, by rw [hc.1]; exact type_ne (by decide)⟩
  | idict =>
    rcases c with c | ⟨x, v, hsh, tk, n, e, ho, r⟩
    · exact ⟨_, c.2, type_ne (by decide)⟩
    · exact ⟨_, ho, type_ne (by decide)⟩
  | inst => exact c.elim fun _ c => ⟨_, c.1, nofun⟩
  | plain => exact c.elim fun _ c => ⟨_, c.1, by rw [c.2]; exact type_ne (by decide)⟩
theorem Mem.cellObj {h : Heap} (m : Mem B W ρ cs h) {i : Nat} {a : Addr} (g : ρ[i]? = some a) : ∃ ob, h.get? a = some ob ∧ ob.cls ≠ .type "tuple" :=
  (m.cell i _ a (List.getElem?_eq_getElem (m.len ▸ (List.getElem?_eq_some_iff.mp g).1)) g).cls
theorem VRel.noneB {h : Heap} {x : AV} {v : Value} (r : VRel B h W ρ x v) : x.bi? = false → plainIs v .none = true ∧ (v == .none) = x.none? :=
  r.rec (motive_1 := fun x v _ => x.bi? = false → plainIs v .none = true ∧ (v == .none) = x.none?) (motive_2 := fun _ _ _ => True) (fun _ => ⟨rfl, rfl⟩) (fun _ _ => ⟨rfl, rfl⟩) (fun _ _ _ => ⟨rfl, rfl⟩) (fun _ _ _ _ => ⟨rfl, rfl⟩) (fun _ _ _ _ _ _ => ⟨rfl, rfl⟩) (fun _ _ _ _ _ _ => ⟨rfl, rfl⟩) (fun _ _ => ⟨rfl, rfl⟩) (fun _ _ => ⟨rfl, rfl⟩) (fun _ => ⟨rfl, rfl⟩) (fun _ _ => ⟨rfl, rfl⟩)
    (fun _ e => Bool.noConfusion e) (fun _ _ => ⟨rfl, rfl⟩) (fun _ _ _ _ _ _ => ⟨rfl, rfl⟩) (fun _ _ _ _ => ⟨rfl, rfl⟩) trivial fun _ _ _ _ => trivial
theorem isSame_sound (o : Ok B W ρ cs s) {x y : AV} {v u : Value} {b : Bool} (p : VRel B s.heap W ρ x v) (q : VRel B s.heap W ρ y u) (e : isv x y = some b) {R : Bool → Shared → Prop} (hQ : R b s) :
    wpAny (model B.prog B.w) A (isSame v u) R E s := by
  rcases ite_eq e with ⟨hy, e⟩ | e
  · obtain rfl := q.ofNone hy
    cases hb : x.bi? with
    | true => rw [hb] at e; cases e
    | false =>
      rw [hb] at e
      refine wpAny_isSame_plain (p.noneB hb).1 ?_
      rw [(p.noneB hb).2, Option.some.inj e]; exact hQ
  rcases orElse_eq e with ⟨i, hx, e⟩ | e
  · obtain ⟨j, hy, rfl⟩ := map_eq e
    obtain ⟨a, rfl, g⟩ := p.ofRef hx
    obtain ⟨a', rfl, g'⟩ := q.ofRef hy
    by_cases hij : i = j
    · subst hij
      obtain rfl := Option.some.inj (g.symm.trans g')
      rw [beq_self_eq_true] at hQ
      exact wpAny_isSame_ref_self hQ
    · obtain ⟨ob, h1, h2⟩ := o.mem.cellObj g
      obtain ⟨ob', h1', _⟩ := o.mem.cellObj g'
      rw [beq_false_of_ne hij] at hQ
      exact wpAny_isSame_ref_other (fun z => hij ((List.getElem?_inj (List.getElem?_eq_some_iff.mp g).1 o.mem.inj).mp (g.trans (z ▸ g'.symm)))) h1 h1' h2 hQ
  rcases orElse_eq e with ⟨i, hx, e⟩ | e
  · obtain ⟨j, hy, rfl⟩ := map_eq e
    obtain ⟨t, rfl, _⟩ := p.ofStr hx
    obtain ⟨a', rfl, g'⟩ := q.ofRef hy
    exact wpAny_isSame_plain rfl hQ
  · obtain ⟨i, hx, e⟩ := bind_eq e
    obtain ⟨j, hy, rfl⟩ := map_eq e
    rw [ty?_eq hx] at p
    rw [ty?_eq hy] at q
    obtain rfl := p.inv
    obtain rfl := q.inv
    refine wpAny_isSame_plain rfl ?_
    have : (Value.type (tyS i) == Value.type (tyS j)) = (i == j) := Bool.eq_iff_iff.mpr (by rw [beq_iff_eq, beq_iff_eq]; exact ⟨fun h => tyS_inj (Value.type.inj h), fun h => h ▸ rfl⟩)
    rw [this]; exact hQ
theorem ord_sound {op : CmpOp} {f : Int → Int → Bool} {g : Tx → Tx → Bool} {x y : AV} {v u : Value} {b : Bool} (p : VRel B s.heap W ρ x v) (q : VRel B s.heap W ρ y u) (e : ordv f g x y = some b)
    (h1 : ∀ (i j : Int) (t t' : Tok), Q (.bool (f i j)) s → wpAny (model B.prog B.w) A (compareOp op (.int i t) (.int j t')) Q E s) (h2 : ∀ (i j : Tx) (t t' : Tok), Q (.bool (g i j)) s → wpAny (model B.prog B.w) A (compareOp op (.str ⟨i.toArray⟩ t) (.str ⟨j.toArray⟩ t')) Q E s)
    (hQ : Q (.bool b) s) : wpAny (model B.prog B.w) A (compareOp op v u) Q E s := by
  rcases orElse_eq e with ⟨i, hx, e⟩ | e
  · obtain ⟨j, hy, rfl⟩ := map_eq e
    obtain ⟨t, rfl⟩ := p.ofInt hx
    obtain ⟨t', rfl⟩ := q.ofInt hy
    exact h1 _ _ _ _ hQ
  · obtain ⟨i, hx, e⟩ := bind_eq e
    obtain ⟨j, hy, rfl⟩ := map_eq e
    obtain ⟨t, rfl, _⟩ := p.ofStr hx
    obtain ⟨t', rfl, _⟩ := q.ofStr hy
    exact h2 _ _ _ _ hQ
theorem bools_sound {op : CmpOp} {f : Bool → Bool → Bool} {d : Option Bool} {x y : AV} {v u : Value} {b : Bool} (p : VRel B s.heap W ρ x v) (q : VRel B s.heap W ρ y u) (e : orElse x.bool? (fun x => y.bool?.map (f x)) d = some b)
    (h1 : ∀ i j : Bool, Q (.bool (f i j)) s → wpAny (model B.prog B.w) A (compareOp op (.bool i) (.bool j)) Q E s) (h2 : d = some b → wpAny (model B.prog B.w) A (compareOp op v u) Q E s) (hQ : Q (.bool b) s) : wpAny (model B.prog B.w) A (compareOp op v u) Q E s := by
  rcases orElse_eq e with ⟨i, hx, e⟩ | e
  · obtain ⟨j, hy, rfl⟩ := map_eq e
    obtain rfl := p.ofBool hx
    obtain rfl := q.ofBool hy
    exact h1 _ _ hQ
  · exact h2 e
theorem cmpv_sound (hs : sysModules < B.h₀.objs.size) (o : Ok B W ρ cs s) (hu : A.units + 16 < cLine) {op : COp} {x y : AV} {v u : Value} {b : Bool} (p : VRel B s.heap W ρ x v) (q : VRel B s.heap W ρ y u) (e : cmpv cs op x y = some b)
    (hQ : ∀ t, Q (.bool b) { s with toks := t }) : wpAny (model B.prog B.w) A (compareOp (copOf op) v u) Q E s := by
  have hu8 := (fuel8 hu).1
  have h0 : Q (.bool b) s := hQ s.toks
  cases op with
  | eq => exact bools_sound p q e (fun i j h => eq_bool h) (fun e => eqv_cmp o hu8 p q e h0) h0
  | ne =>
    refine bools_sound p q e (fun i j h => ne_bool h) (fun e => ?_) h0
    by_cases hx : x.none? = true
    · rw [if_pos hx] at e
      obtain ⟨z, hy, rfl⟩ := map_eq e
      obtain rfl := p.ofNone hx
      obtain ⟨t, rfl, _⟩ := q.ofStr hy
      exact EqNone.ne_none_str h0
    · rw [if_neg hx] at e
      obtain ⟨c, hc, rfl⟩ := map_eq e
      exact eqv_cmp_ne o hu8 p q hc h0
  | lt => exact ltv_at o _ hu8 p q e _ _ _ _ h0
  | gt => exact ord_sound p q e (fun i j t t' h => P.gt_int h) (fun i j t t' h => P.gt_str (by rw [ltTx_iff] at h; exact h)) h0
  | le => exact ord_sound p q e (fun i j t t' h => P.le_int h) (fun i j t t' h => P.le_str (by rw [ltTx_iff] at h; exact h)) h0
  | ge =>
    obtain ⟨i, hx, e⟩ := bind_eq e
    obtain ⟨j, hy, rfl⟩ := map_eq e
    obtain ⟨t, rfl⟩ := p.ofInt hx
    obtain ⟨t', rfl⟩ := q.ofInt hy
    exact P.ge_int h0
  | is => exact wpAny_bind (m := isSame v u) (isSame_sound o p q e (wpAny_pure h0))
  | isnot =>
    obtain ⟨c, hc, rfl⟩ := map_eq e
    exact wpAny_bind (m := isSame v u) (isSame_sound o p q hc (wpAny_pure h0))
  | in_ => exact inv_sound hs o hu p q e false hQ
  | notin =>
    obtain ⟨c, hc, rfl⟩ := map_eq e
    exact inv_sound hs o hu p q hc true hQ
end
end Ev
namespace Ev
open PySem PySem.W PyProof.Rows PySem.SeqAt
open MeetsSeq MeetsSeq2 MeetsSeq3 SeqRoads2
noncomputable abbrev PostV (B : Base) (n : Nat) (W : Addr → Prop) (ρ : List Addr) (cs : Cells) (s : Shared) (cs' : Cells) (x : AV) (Q : Value → Shared → Prop) : Prop :=
  ∀ v W' ρ' s', After B n Non W ρ cs s W' ρ' cs' s' → VRel B s'.heap W' ρ' x v → Q v s'
theorem PostV.to {B : Base} {n : Nat} {W : Addr → Prop} {ρ : List Addr} {cs cs₁ cs₂ : Cells} {s : Shared} {x y : AV} {Q : Value → Shared → Prop} (hQ : PostV B n W ρ cs s cs₂ y Q) (e : some (x, cs₁) = some (y, cs₂)) : PostV B n W ρ cs s cs₁ x Q := by cases e; exact hQ
noncomputable abbrev PostT (s : Shared) (b : Bool) (R : Bool → Shared → Prop) : Prop := ∀ t, R b { s with toks := t }
theorem PostT.to {s : Shared} {b b' : Bool} {R : Bool → Shared → Prop} (hQ : PostT s b' R) (e : some b = some b') : PostT s b R := by cases e; exact hQ
noncomputable def bopOf : BOp → Operator
  | .add => .Add | .sub => .Sub | .mul => .Mult | .fdiv => .FloorDiv | .mod => .Mod | .pow => .Pow | .shr => .RShift
theorem bopOf_tr {o : Operator} {b : BOp} (h : trBOp o = some b) : bopOf b = o := by cases o <;> simp [trBOp] at h <;> subst h <;> rfl
theorem lim_size {n : Nat} (h : n ≤ lim) : n ≤ sizeLine := Nat.le_trans h (by decide)
theorem lim_63 {n : Nat} (h : n ≤ lim) : (n : Int) < 2 ^ 63 := Int.lt_of_le_of_lt (Int.ofNat_le.mpr h) (by decide)
theorem not_63 {n : Nat} (h : n ≤ lim) : ¬ (n : Int) ≥ 2 ^ 63 := Int.not_le.mpr (lim_63 h)
theorem pos_ne {y : Int} (h : 0 < y) : y ≠ 0 := fun e => Int.lt_irrefl _ (e ▸ h)
theorem strOf_append (x y : Tx) : (⟨x.toArray⟩ : Str) ++ ⟨y.toArray⟩ = ⟨(x ++ y).toArray⟩ := by
  show (⟨x.toArray ++ y.toArray⟩ : Str) = _
  simp
theorem strOf_len (x : Tx) : (⟨x.toArray⟩ : Str).length = x.length := by simp [Str.length]
section
variable {B : Base} {n : Nat} {W : Addr → Prop} {ρ : List Addr} {cs cs' : Cells} {s : Shared} {A : Around} {E : Value → Shared → Prop} {Q : Value → Shared → Prop}
theorem mk_post (o : Ok B W ρ cs s) (hn : n ≤ cs.length) {m : Bool} {xs : List AV} {vs : List Value} {x : AV} (r : VRels B s.heap W ρ xs vs) (e : mk m xs cs = some (x, cs')) (hQ : PostV B n W ρ cs s cs' x Q) {k : Nat} (tk : Nat) :
    Q (.ref s.heap.objs.size) { s with heap := s.heap.push { cls := .type "list", data := .seq vs.toArray k }, toks := tk } := by
  obtain ⟨hb, e⟩ := if_eq e
  cases m with
  | false =>
    obtain ⟨rfl, rfl⟩ := pair_eq e
    have a : After B n Non W ρ cs s W ρ cs { s with heap := s.heap.push { cls := .type "list", data := .seq vs.toArray k }, toks := tk } := o.push _
    exact hQ _ _ _ _ a (.lst ⟨k, Heap.get?_push_size _ rfl⟩ hb (o.newNot (Nat.le_refl _)) (a.vals o r))
  | true =>
    obtain ⟨rfl, rfl⟩ := pair_eq e
    refine hQ _ _ _ _ (o.alloc hn ⟨vs, ⟨k, Heap.get?_push_size _ rfl⟩, hb, ?_⟩) (.ref ?_)
    · exact r.mono (fun a o e _ => Heap.get?_push_of_some _ e) (fun a l w => w.elim id fun z => absurd z (Nat.ne_of_lt l)) fun _ _ e => getElem?_append_some _ e
    · rw [o.mem.len]; exact List.getElem?_concat_length
theorem VRels.empty {h : Heap} {xs : List AV} {vs : List Value} (r : VRels B h W ρ xs vs) : xs.isEmpty = vs.isEmpty := r.ind (P := fun xs vs => xs.isEmpty = vs.isEmpty) rfl fun _ _ _ => rfl
theorem len_ne {α : Type} (z : List α) : ((z.length : Int) != 0) = !z.isEmpty := by cases z <;> rfl
theorem truthy_sound (o : Ok B W ρ cs s) {x : AV} {v : Value} {b : Bool} (p : VRel B s.heap W ρ x v) (e : truthy cs x = some b) {R : Bool → Shared → Prop} (hQ : PostT s b R) :
    wpAny (model B.prog B.w) A (PySem.truthy v) R E s := by
  rcases orElse_eq e with ⟨z, hx, h⟩ | e
  · rw [p.ofBool hx]; exact wpAny_truthy_bool (hQ.to h s.toks)
  rcases orElse_eq e with ⟨z, hx, h⟩ | e
  · obtain ⟨t, hv⟩ := p.ofInt hx; rw [hv]; exact P.truthy_int (hQ.to h s.toks)
  rcases orElse_eq e with ⟨z, hx, h⟩ | e
  · obtain ⟨t, hv, bd⟩ := p.ofStr hx
    rw [hv]
    refine P.truthy_str (by rw [strOf_len]; exact not_63 bd) ?_
    rw [strOf_len, len_ne]; exact hQ.to h _
  rcases ite_eq e with ⟨hx, h⟩ | e
  · rw [p.ofNone hx]; exact truthy_none (hQ.to h s.toks)
  · obtain ⟨xs, hx, hb⟩ := map_eq e
    obtain ⟨a, vs, hv, l, bd, r⟩ := o.mem.listOf p hx
    rw [hv]
    refine wpAny_truthy_list l.isList (by rw [List.size_toArray, ← r.length]; exact lim_63 bd) ?_
    rw [← hb, show xs.isEmpty = vs.toArray.isEmpty from r.empty.trans (List.isEmpty_toArray ..).symm] at hQ
    exact hQ _
theorem neg_sound {i : Int} {v : Value} (o : Ok B W ρ cs s) {x : AV} (p : VRel B s.heap W ρ x v) (hx : x.int? = some i) (hQ : PostV B n W ρ cs s cs (.int (-i)) Q) : wpAny (model B.prog B.w) A (unaryOp .USub v) Q E s := by
  obtain ⟨t, hv⟩ := p.ofInt hx
  rw [hv]
  exact P.neg_int (hQ _ _ _ _ (o.toks _) (.int _ _))
theorem not_sound (o : Ok B W ρ cs s) {x : AV} {v : Value} {b : Bool} (p : VRel B s.heap W ρ x v) (e : truthy cs x = some b) (hQ : PostV B n W ρ cs s cs (.bool (!b)) Q) : wpAny (model B.prog B.w) A (unaryOp .Not v) Q E s := by
  unfold unaryOp
  refine wpAny_holding ?_
  show wpAny _ A (do return .bool (!(← PySem.truthy v))) Q E s
  exact wpAny_bind (truthy_sound o p e fun t => wpAny_pure (hQ _ _ _ _ (o.toks t) (.bool _)))
theorem rep_rel {h : Heap} : ∀ (k : Nat) {xs : List AV} {vs : List Value}, VRels B h W ρ xs vs → VRels B h W ρ (rep k xs) (List.replicate k vs).flatten
  | 0, _, _, _ => by simp [rep]; exact .nil
  | k + 1, xs, vs, r => by
    rw [rep, List.replicate_succ, List.flatten_cons]
    exact r.append (rep_rel k r)
theorem foldl_flat (k : Nat) (vs : List Value) : ∀ acc : Array Value, List.foldl (fun x1 x2 => x1 ++ x2) acc (List.replicate k vs.toArray) = acc ++ (List.replicate k vs).flatten.toArray := by
  induction k with
  | zero => intro acc; simp
  | succ k ih => intro acc; rw [List.replicate_succ, List.foldl_cons, ih, List.replicate_succ, List.flatten_cons]; simp
theorem noPylong {a b : Int} (h : b.natAbs < 2 ^ 64) : Builtin.divisionGoesByPylong a b = false := by
  unfold Builtin.divisionGoesByPylong
  rw [Bool.and_eq_false_iff]
  left
  apply decide_eq_false
  intro hgt
  dsimp only at hgt
  split at hgt
  · exact absurd hgt (by decide)
  · rename_i hb
    have hb0 : b.natAbs ≠ 0 := by simpa using hb
    have := (Nat.log2_lt hb0).mpr h
    omega
theorem mulOk {a b : Int} (h : a.natAbs < 2 ^ 64) : IntMulOk a b := by
  refine IntMulOk.of_left ?_
  unfold Builtin.Int.intBits
  split
  · decide
  · rename_i ha
    have ha0 : a.natAbs ≠ 0 := by simpa using ha
    have := (Nat.log2_lt ha0).mpr h
    omega
theorem powI {a : Int} {b : Nat} (t u : Tok) (ha : 0 ≤ a) (ha' : a ≤ 16) (hb : b ≤ 16) (h : ∀ t, Q (.int (a ^ b) t) { s with toks := s.toks + 1 }) : wpAny (model B.prog B.w) A (binaryOp .Pow (.int a t) (.int (b : Int) u)) Q E s := by
  have hb0 : (b : Int) ≥ 0 := Int.natCast_nonneg b
  by_cases h0 : b = 0
  · subst h0
    refine AutoIntOps.pow_0 hb0 (by simp) ?_
    show Q _ _
    simpa using h _
  · have h0' : ¬((b : Int) == 0) = true := by simpa using h0
    by_cases h1 : (a == 0 || a == 1) = true
    · refine AutoIntOps.pow_1 hb0 h0' h1 ?_
      show Q _ _
      have : a ^ b = a := by
        rcases Bool.or_eq_true_iff.mp h1 with z | z
        · rw [beq_iff_eq.mp z]; exact Int.zero_pow h0
        · rw [beq_iff_eq.mp z]; exact Int.one_pow
      rw [← this]; exact h _
    · refine AutoIntOps.pow_4 hb0 h0' h1 (by simp; omega) ?_ ?_
      · unfold Builtin.Int.intTooBig
        have hbits : Builtin.Int.intBits a ≤ 5 := by
          unfold Builtin.Int.intBits
          split
          · decide
          · rename_i hz
            have hz0 : a.natAbs ≠ 0 := by simpa using hz
            have := (Nat.log2_lt (k := 5) hz0).mpr (by omega)
            omega
        have : (Builtin.Int.intBits a : Int) * (b : Int) ≤ 5 * 16 := by
          have h1 : (Builtin.Int.intBits a : Int) ≤ 5 := by omega
          have h2 : (b : Int) ≤ 16 := by omega
          exact Int.mul_le_mul h1 h2 (Int.natCast_nonneg _) (by omega)
        simp only [gt_iff_lt, decide_eq_true_eq]
        have hl : (80 : Int) ≤ bitsLine := by decide
        omega
      · show Q _ _
        simpa using h _
theorem list_mul {l : Addr} {items : Array Value} {k : Nat} {x : Int} {u : Tok} (hl : s.heap.get? l = some { cls := .type "list", dict := none, data := .seq items k, slots := #[] })
    (hlo : -(2 ^ 63 : Int) ≤ x) (hhi : x < 2 ^ 63) (hsz : items.size * x.toNat ≤ 2 ^ 24)
    (h : Q (.ref s.heap.objs.size) { s with heap := s.heap.push { cls := .type "list", data := .seq (List.foldl (fun x1 x2 => x1 ++ x2) #[] (List.replicate (if items.isEmpty = true then 0 else x.toNat) items)) } }) :
    wpAny (model B.prog B.w) A (binaryOp .Mult (.ref l) (.int x u)) Q E s :=
  wpAny_binaryOp_repeat_ref (T := "list") (U := "int") (by decide) ⟨_, hl, rfl⟩ (fun s' => typeIs_int s' x u) noFill_list_mul F.fills_int_mul F.slot_int_rmul repeat_list F.slot_int_index.lookup
    (call_meets F.slot_int_rmul (typeIs_int s x u) F.entry_int_rmul (F.args_int_rmul_2 _ _) (int___rmul___int_list x u l items k)
      ⟨hl, rfl, ⟨_, hl, rfl⟩, call_meets F.slot_list_mul ⟨_, hl, rfl⟩ F.entry_list_mul (F.args_list_mul_2 _ _)
        (AutoListH.list___mul___list_int_3 l items k x u (by simp [Builtin.List.listFitsIndex]; omega) (by omega) (by simp [Builtin.List.listTooLong, sizeLine]; omega))
        ⟨hl, h⟩⟩)
theorem rep_fold (vs : List Value) (k : Nat) : List.foldl (fun x1 x2 => x1 ++ x2) (#[] : Array Value) (List.replicate (if vs.toArray.isEmpty = true then 0 else k) vs.toArray) = (List.replicate k vs).flatten.toArray := by
  rw [foldl_flat]
  by_cases hv : vs = []
  · subst hv; simp
  · rw [if_neg (by simpa using hv)]; simp
theorem intv_sound {f : Int → Int → Option Int} {op : Operator} (o : Ok B W ρ cs s) {x y z : AV} {v u : Value} (p : VRel B s.heap W ρ x v) (q : VRel B s.heap W ρ y u) (e : intv x y cs f = some (z, cs')) (hQ : PostV B n W ρ cs s cs' z Q)
    (h : ∀ (i j k : Int) (t t' : Tok), f i j = some k → (∀ t tk, Q (.int k t) { s with toks := tk }) → wpAny (model B.prog B.w) A (binaryOp op (.int i t) (.int j t')) Q E s) : wpAny (model B.prog B.w) A (binaryOp op v u) Q E s := by
  obtain ⟨i, hx, e⟩ := bind_eq e
  obtain ⟨j, hy, e⟩ := bind_eq e
  obtain ⟨k, hk, e⟩ := mapS e
  obtain ⟨t, rfl⟩ := p.ofInt hx
  obtain ⟨t', rfl⟩ := q.ofInt hy
  exact h _ _ _ _ _ hk fun t tk => hQ.to e _ _ _ _ (o.toks _) (.int _ _)
theorem nat_of {n : Int} (h : 0 ≤ n ∧ n ≤ 16) : n.toNat ≤ 16 := Int.toNat_le.mpr h.2
theorem binv_sound (o : Ok B W ρ cs s) (hn : n ≤ cs.length) {m : Bool} {op : BOp} {x y z : AV} {v u : Value} (p : VRel B s.heap W ρ x v) (q : VRel B s.heap W ρ y u) (e : binv m op x y cs = some (z, cs')) (hQ : PostV B n W ρ cs s cs' z Q) :
    wpAny (model B.prog B.w) A (binaryOp (bopOf op) v u) Q E s := by
  cases op with
  | add =>
    rcases orElse_eq e with ⟨i, hx, e⟩ | e
    · obtain ⟨j, hy, e⟩ := mapS e
      obtain ⟨t, hv⟩ := p.ofInt hx
      obtain ⟨t', hu⟩ := q.ofInt hy
      rw [hv, hu]
      exact P.add_int (hQ.to e _ _ _ _ (o.toks _) (.int _ _))
    rcases orElse_eq e with ⟨i, hx, e⟩ | e
    · obtain ⟨j, hy, e⟩ := bind_eq e
      obtain ⟨h, e⟩ := if_eq e
      obtain ⟨t, hv, _⟩ := p.ofStr hx
      obtain ⟨t', hu, _⟩ := q.ofStr hy
      rw [hv, hu]
      refine PyProof.Rows.add_str (fun t' tk => ?_) (by rw [strOf_len, strOf_len]; exact lim_size h)
      rw [strOf_append]
      exact hQ.to e _ _ _ _ (o.toks _) (.str _ _ (by rw [List.length_append]; exact h))
    · obtain ⟨xs, hx, e⟩ := bind_eq e
      obtain ⟨ys, hy, e⟩ := bind_eq e
      obtain ⟨a, vs, hv, ⟨_, l⟩, bd, r⟩ := o.mem.listOf p hx
      obtain ⟨a', us, hu, ⟨_, l'⟩, bd', r'⟩ := o.mem.listOf q hy
      rw [hv, hu]
      refine P.add_list l l' ?_ ?_
      · rw [show vs.toArray ++ us.toArray = (vs ++ us).toArray from List.append_toArray ..]
        exact mk_post o hn (r.append r') e hQ _
      · rw [List.size_toArray, List.size_toArray, ← r.length, ← r'.length]
        exact Nat.le_trans (Nat.add_le_add bd bd') (by decide)
  | sub => exact intv_sound o p q e hQ fun i j k t t' hk h => P.sub_int (Option.some.inj hk ▸ h _ _)
  | mul =>
    rcases orElse_eq e with ⟨i, hx, e⟩ | e
    · obtain ⟨j, hy, e⟩ := bind_eq e
      obtain ⟨h, e⟩ := if_eq e
      obtain ⟨t, hv⟩ := p.ofInt hx
      obtain ⟨t', hu⟩ := q.ofInt hy
      rw [hv, hu]
      exact P.mul_int (hQ.to e _ _ _ _ (o.toks _) (.int _ _)) (mulOk h.1)
    · obtain ⟨xs, hx, e⟩ := bind_eq e
      obtain ⟨k, hy, e⟩ := bind_eq e
      obtain ⟨h, e⟩ := if_eq e
      obtain ⟨a, vs, hv, ⟨_, l⟩, bd, r⟩ := o.mem.listOf p hx
      obtain ⟨t', hu⟩ := q.ofInt hy
      rw [hv, hu]
      refine list_mul l (Int.le_trans (by decide) h.1) (Int.lt_of_le_of_lt h.2 (by decide)) ?_ ?_
      · rw [List.size_toArray, ← r.length]
        exact Nat.le_trans (Nat.mul_le_mul bd (nat_of h)) (by decide)
      · rw [rep_fold]
        exact mk_post o hn (rep_rel k.toNat r) e hQ _
  | fdiv =>
    refine intv_sound o p q e hQ fun i j k t t' hk h => ?_
    obtain ⟨h0, hk⟩ := if_eq hk
    refine floordiv_int (pos_ne h0.1) ?_ (Or.inl (noPylong h0.2))
    rw [Int.fdiv_eq_ediv_of_nonneg _ (Int.le_of_lt h0.1), Option.some.inj hk]
    exact h _ _
  | mod =>
    refine intv_sound o p q e hQ fun i j k t t' hk h => ?_
    obtain ⟨h0, hk⟩ := if_eq hk
    refine mod_int (pos_ne h0) ?_
    rw [Int.fmod_eq_emod_of_nonneg _ (Int.le_of_lt h0), Option.some.inj hk]
    exact h _ _
  | pow =>
    refine intv_sound o p q e hQ fun i j k t t' hk h => ?_
    obtain ⟨h0, hk⟩ := if_eq hk
    have hj : j = (j.toNat : Int) := (Int.toNat_of_nonneg h0.1).symm
    rw [hj]
    exact powI t t' h0.2.2.1 h0.2.2.2 (nat_of ⟨h0.1, h0.2.1⟩) fun t => (Option.some.inj hk : i ^ j.toNat = k) ▸ h t _
  | shr =>
    refine intv_sound o p q e hQ fun i j k t t' hk h => ?_
    obtain ⟨⟨h1, h0⟩, e⟩ := if_eq hk
    rw [h1]
    exact wpAny_rshift1_int h0 (Option.some.inj e ▸ h _ _)
theorem augv_sound (o : Ok B W ρ cs s) {op : BOp} {x y z : AV} {v u : Value} (p : VRel B s.heap W ρ x v) (q : VRel B s.heap W ρ y u) (e : augv op x y = some z) (hQ : PostV B n W ρ cs s cs z Q) :
    wpAny (model B.prog B.w) A (inplaceOp (bopOf op) v u) Q E s := by
  cases op with
  | add =>
    rcases orElse_eq e with ⟨i, hx, e⟩ | e
    · obtain ⟨j, hy, e⟩ := mapS e
      obtain ⟨t, hv⟩ := p.ofInt hx
      obtain ⟨t', hu⟩ := q.ofInt hy
      rw [hv, hu]
      rw [← Option.some.inj e] at hQ
      exact P.iadd_int (hQ _ _ _ _ (o.toks _) (.int _ _))
    · obtain ⟨i, hx, e⟩ := bind_eq e
      obtain ⟨j, hy, e⟩ := bind_eq e
      obtain ⟨h, e⟩ := if_eq e
      obtain ⟨t, hv, _⟩ := p.ofStr hx
      obtain ⟨t', hu, _⟩ := q.ofStr hy
      rw [hv, hu]
      refine PyProof.Rows.iadd_str (fun t' tk => ?_) (by rw [strOf_len, strOf_len]; exact lim_size h)
      rw [strOf_append]
      rw [← Option.some.inj e] at hQ
      exact hQ _ _ _ _ (o.toks _) (.str _ _ (by rw [List.length_append]; exact h))
  | fdiv =>
    obtain ⟨i, hx, e⟩ := bind_eq e
    obtain ⟨j, hy, e⟩ := bind_eq e
    obtain ⟨h, e⟩ := if_eq e
    obtain ⟨t, hv⟩ := p.ofInt hx
    obtain ⟨t', hu⟩ := q.ofInt hy
    rw [hv, hu]
    refine ifloordiv_int (pos_ne h.1) ?_ (Or.inl (noPylong h.2))
    rw [Int.fdiv_eq_ediv_of_nonneg _ (Int.le_of_lt h.1)]
    rw [← Option.some.inj e] at hQ
    exact hQ _ _ _ _ (o.toks (s.toks + 1)) (.int _ s.toks)
  | _ => cases e
end
end Ev
namespace Ev
open PySem PySem.W PyProof.Rows PySem.SeqAt
open MeetsSeq MeetsSeq2 MeetsSeq3 SeqRoads2
theorem idxZ_seq {n : Nat} {i : Int} {k : Nat} (h : idxZ n i = some k) : seqIndex? i n = some k ∧ -(n : Int) ≤ i ∧ i < n ∧ ((0 ≤ i ∧ k = i.toNat) ∨ (i < 0 ∧ k = (i + n).toNat)) := by
  unfold idxZ at h
  by_cases h0 : 0 ≤ i
  · rw [if_pos h0] at h
    obtain ⟨h1, h⟩ := if_eq h
    cases h
    refine ⟨?_, Int.le_trans (Int.neg_nonpos_of_nonneg (Int.natCast_nonneg n)) h0, h1, .inl ⟨h0, rfl⟩⟩
    unfold seqIndex?
    simp [Int.not_lt.mpr h0, h0, h1]
  · rw [if_neg h0] at h
    obtain ⟨h1, h⟩ := if_eq h
    cases h
    have h2 := Int.not_le.mp h0
    refine ⟨?_, Int.neg_le_of_neg_le (Int.sub_nonneg.mp (by rw [Int.sub_neg, Int.add_comm]; exact h1)), Int.lt_of_lt_of_le h2 (Int.natCast_nonneg n), .inr ⟨h2, rfl⟩⟩
    unfold seqIndex?
    have h3 : i + n < n := Int.lt_of_lt_of_le (Int.add_lt_add_right h2 n) (Int.le_of_eq (Int.zero_add _))
    simp [h1, h2, h3]
noncomputable def clip (n d : Nat) (o : Option Int) : Int := o.elim d fun i => max 0 (min (if i < 0 then i + n else i) n)
theorem bound_rel {B : Base} {h : Heap} {W : Addr → Prop} {ρ : List Addr} {x : AV} {v : Value} {n d k : Nat} (hd : d ≤ n) (r : VRel B h W ρ x v) (e : boundv n d x = some k) :
    ∃ o : Option (Int × Tok), v = o.elim .none (fun p => .int p.1 p.2) ∧ clip n d (o.map (·.1)) = k ∧ k ≤ n := by
  rcases ite_eq e with ⟨hx, e⟩ | e
  · cases e; exact ⟨none, r.ofNone hx, rfl, hd⟩
  · obtain ⟨i, hx, rfl⟩ := map_eq e
    obtain ⟨t, rfl⟩ := r.ofInt hx
    refine ⟨some (i, t), rfl, ?_⟩
    exact ⟨(Int.toNat_of_nonneg (Int.le_max_left _ _)).symm, Int.toNat_le.mpr (Int.max_le.mpr ⟨Int.natCast_nonneg n, Int.min_le_right _ _⟩)⟩
theorem cut_length {α : Type} (xs : List α) (a b : Nat) : (cut xs a b).length ≤ xs.length := Nat.le_trans (List.length_drop ▸ Nat.sub_le _ _) (List.length_take_le' ..)
theorem clip_le {n d : Nat} (hd : d ≤ n) (o : Option Int) : clip n d o ≤ n := by
  cases o with
  | none => exact Int.ofNat_le.mpr hd
  | some i => exact Int.max_le.mpr ⟨Int.natCast_nonneg n, Int.min_le_right _ _⟩
theorem pick_cut {α : Type} (xs : List α) (a b : Nat) : (sliceRange a b 1).filterMap (xs.toArray[·]?) = cut xs a b := by
  rw [sliceRange_one, pick_run]
  unfold cut
  rw [List.drop_take]
theorem strSlice_cut (x : Tx) {l u : Option Int} {a b : Nat} (hl : clip x.length 0 l = a) (hu : clip x.length x.length u = b) : Txt.slice ⟨x.toArray⟩ l u = ⟨(cut x a b).toArray⟩ := by
  have e : Builtin.Str.strSliceIndices l u 1 (⟨x.toArray⟩ : Str).length = sliceRange a b 1 := by
    rw [← hl, ← hu, strOf_len]
    cases l <;> cases u <;> rfl
  unfold Txt.slice
  rw [e]
  have hp := pick_cut x a b
  split
  · rename_i h
    have hlen : (sliceRange (a : Int) b 1).length = x.length := by
      have : ((sliceRange (a : Int) b 1).length == (⟨x.toArray⟩ : Str).length) = true := by simpa using h
      rw [strOf_len] at this
      exact beq_iff_eq.mp this
    rw [sliceRange_one, List.length_map, List.length_range] at hlen
    have hb : b ≤ x.length := Int.ofNat_le.mp (hu ▸ clip_le (Nat.le_refl _) u)
    have : cut x a b = x := by
      have h1 : (cut x a b).length = x.length := by unfold cut; rw [List.length_drop, List.length_take, Nat.min_eq_left hb]; exact hlen
      exact (List.Sublist.trans (List.drop_sublist _ _) (List.take_sublist _ _)).eq_of_length h1
    rw [this]
  · show (⟨(List.filterMap (fun k => x.toArray[k]?) (sliceRange (a : Int) b 1)).toArray⟩ : Str) = _
    rw [hp]
theorem listSlice_cut (vs : List Value) {l u : Option Int} {a b : Nat} (hl : clip vs.length 0 l = a) (hu : clip vs.length vs.length u = b) : slicePick vs.toArray l u none = (cut vs a b).toArray := by
  unfold slicePick
  have e : sliceBounds l u none vs.toArray.size = ((a : Int), (b : Int), 1) := by
    rw [← hl, ← hu]
    cases l <;> cases u <;> rfl
  rw [e, pick_cut]
section
variable {B : Base} {n : Nat} {W : Addr → Prop} {ρ : List Addr} {cs cs' : Cells} {s : Shared} {A : Around} {E : Value → Shared → Prop} {Q : Value → Shared → Prop}
theorem cut_rel {h : Heap} {xs : List AV} {vs : List Value} (r : VRels B h W ρ xs vs) (a b : Nat) : VRels B h W ρ (cut xs a b) (cut vs a b) := (r.take b).drop a
theorem part_of (o : Option (Int × Tok)) : IsPart (o.elim .none fun p => .int p.1 p.2) (o.map (·.1)) := by
  cases o with
  | none => exact .none
  | some p => exact .int _ _
theorem fits_of {i : Int} (h1 : -(2 ^ 63 : Int) ≤ i) (h2 : i < 2 ^ 63) : (decide (i < -(2 ^ 63 : Int)) || decide (i ≥ 2 ^ 63)) = false := by rw [decide_eq_false (Int.not_lt.mpr h1), decide_eq_false (Int.not_le.mpr h2)]; rfl
theorem neg_63 {n : Nat} (h : n ≤ lim) : -(2 ^ 63 : Int) ≤ -(n : Int) := Int.neg_le_neg (Int.le_of_lt (lim_63 h))
theorem idxv_sound (o : Ok B W ρ cs s) {x i z : AV} {v u : Value} (p : VRel B s.heap W ρ x v) (q : VRel B s.heap W ρ i u) (e : idxv cs x i = some z) (hQ : PostV B n W ρ cs s cs z Q) :
    wpAny (model B.prog B.w) A (getItem v u) Q E s := by
  rcases orElse_eq e with ⟨i, hi, e⟩ | e
  · obtain ⟨tk', hu⟩ := q.ofInt hi
    rw [hu]
    rcases orElse_eq e with ⟨t, hx, e⟩ | e
    · obtain ⟨tk, hv, bd⟩ := p.ofStr hx
      obtain ⟨k, hk, e⟩ := bind_eq e
      obtain ⟨c, hc, e⟩ := map_eq e
      obtain ⟨h1, h3, h4, _⟩ := idxZ_seq hk
      rw [hv]
      refine P.getItem_str (c := c) (fits_of (Int.le_trans (neg_63 bd) h3) (Int.lt_trans h4 (lim_63 bd))) ?_ ?_
      · rw [strOf_len, h1]; exact (List.getElem?_toArray ..).trans hc
      · exact hQ _ _ _ _ (o.toks _) (e ▸ .str [c] _ (Nat.succ_le_succ (Nat.zero_le _)))
    have seq : ∀ {xs : List AV} {vs : List Value} {z : AV}, ((idxZ xs.length i).bind fun k => xs[k]?) = some z → VRels B s.heap W ρ xs vs → xs.length ≤ lim →
        ∃ k y, seqIndex? i vs.toArray.size = some k ∧ vs.toArray[k]? = some y ∧ VRel B s.heap W ρ z y ∧ -(2 ^ 63 : Int) ≤ i ∧ i < 2 ^ 63 ∧ ((0 ≤ i ∧ k = i.toNat) ∨ (i < 0 ∧ k = (i + vs.toArray.size).toNat)) ∧ -(vs.toArray.size : Int) ≤ i := fun e r bd => by
      obtain ⟨k, hk, hz⟩ := bind_eq e
      obtain ⟨h1, h3, h4, h5⟩ := idxZ_seq hk
      obtain ⟨y, hy, ry⟩ := r.get hz
      rw [List.size_toArray, ← r.length]
      exact ⟨k, y, h1, (List.getElem?_toArray ..).trans hy, ry, Int.le_trans (neg_63 bd) h3, Int.lt_trans h4 (lim_63 bd), h5, h3⟩
    rcases orElse_eq e with ⟨xs, hx, e⟩ | e
    · obtain ⟨vs, a, hv, ⟨m, l⟩, bd, _, r⟩ := p.ofTup hx
      rw [hv]
      obtain ⟨k, y, h1, hy, ry, h2, h3, _⟩ := seq e r bd
      exact P.getItem_tuple l h2 h3 h1 hy (hQ _ _ _ _ (After.refl o) ry)
    · obtain ⟨xs, hx, e⟩ := bind_eq e
      obtain ⟨a, vs, hv, l, bd, r⟩ := o.mem.listOf p hx
      obtain ⟨k, y, h1, hy, ry, h2, h3, h5, h6⟩ := seq e r bd
      have hq := hQ _ _ _ _ (After.refl o) ry
      rw [hv]
      rcases h5 with ⟨h0, hk⟩ | ⟨h0, hk⟩
      · exact wpAny_getItem_list l.isList h0 h3 (hk ▸ hy) hq
      · exact wpAny_getItem_list_neg l.isList h0 h6 h2 (hk ▸ hy) hq
  · obtain ⟨k, hi, e⟩ := bind_eq e
    obtain ⟨es, hx, e⟩ := bind_eq e
    obtain ⟨j, hx, hc⟩ := bind_eq hx
    obtain ⟨t, hu, _⟩ := q.ofStr hi
    obtain ⟨a, hv, g⟩ := p.ofRef hx
    obtain ⟨kvs, l, r⟩ := o.mem.dictAt hc g
    have hk := (kvs_lookup (k := k) r).1
    rw [e] at hk
    obtain ⟨y, hy, ry⟩ := hk
    rw [hu, hv]
    exact wpAny_getItem_of (strKind_is B.prog B.w _ _) l.mapOf hy (hQ _ _ _ _ (o.toks _) ry)
theorem slcv_sound (o : Ok B W ρ cs s) (hn : n ≤ cs.length) {m : Bool} {x lo hi z : AV} {v vl vu : Value} (p : VRel B s.heap W ρ x v) (pl : VRel B s.heap W ρ lo vl) (pu : VRel B s.heap W ρ hi vu) (e : slcv m cs x lo hi = some (z, cs')) (hQ : PostV B n W ρ cs s cs' z Q) :
    wpAny (model B.prog B.w) A (getItem v (.ref s.heap.objs.size)) Q E { s with heap := s.heap.push { cls := .type "slice", data := .fields #[vl, vu, .none] } } := by
  have a0 : After B n Non W ρ cs s W ρ cs { s with heap := s.heap.push { cls := .type "slice", data := .fields #[vl, vu, .none] } } := o.push _ (tk := s.toks)
  rcases orElse_eq e with ⟨t, hx, e⟩ | e
  · obtain ⟨tk, hv, bd⟩ := p.ofStr hx
    obtain ⟨l, hl, e⟩ := bind_eq e
    obtain ⟨h, hh, e⟩ := mapS e
    obtain ⟨ol, h1, c1, _⟩ := bound_rel (Nat.zero_le _) pl hl
    obtain ⟨ou, h2, c2, _⟩ := bound_rel (Nat.le_refl _) pu hh
    have hcut := strSlice_cut t c1 c2
    rw [hv]
    refine wpAny_getItem_str_slice (l := ol) (u := ou) (st := none) ⟨_, Heap.get?_push_size _ rfl, rfl, ?_⟩ rfl (post_val_or_str ⟨?_, fun t' k => ?_⟩)
    · rw [h1, h2]; cases ol <;> cases ou <;> rfl
    · show (Txt.slice ⟨t.toArray⟩ (ol.map (·.1)) (ou.map (·.1))).length ≤ sizeLine
      rw [hcut, strOf_len]
      exact lim_size (Nat.le_trans (cut_length _ _ _) bd)
    · show Q (.str (Txt.slice ⟨t.toArray⟩ (ol.map (·.1)) (ou.map (·.1))) t') _
      rw [hcut]
      exact hQ.to e _ _ _ _ (a0.trans (a0.ok.toks k)) (.str _ _ (Nat.le_trans (cut_length _ _ _) bd))
  · obtain ⟨xs, hx, e⟩ := bind_eq e
    obtain ⟨l, hl, e⟩ := bind_eq e
    obtain ⟨h, hh, e⟩ := bind_eq e
    obtain ⟨a, vs, hv, pli, bd, r⟩ := o.mem.listOf p hx
    rw [r.length] at hl hh bd
    obtain ⟨ol, h1, c1, _⟩ := bound_rel (Nat.zero_le _) pl hl
    obtain ⟨ou, h2, c2, _⟩ := bound_rel (Nat.le_refl _) pu hh
    rw [hv]
    refine wpAny_getItem_list_slice (lo := ol.map (·.1)) (hi := ou.map (·.1)) (st := none) (pli.isList.push _) (Heap.IsSliceOf.new ..) (h1 ▸ part_of ol) (h2 ▸ part_of ou) .none (by decide) ?_ ?_
    · rw [listSlice_cut vs c1 c2]
      exact mk_post a0.ok hn (cut_rel (a0.vals o r) _ _) e (fun v W' ρ' s' a rv => hQ v W' ρ' s' (a0.trans a) rv) _
    · exact lim_size bd
end
end Ev
namespace Ev
open PySem PySem.W PyProof.Rows PySem.SeqAt
open MeetsSeq MeetsSeq2 MeetsSeq3 SeqRoads2
theorem size_update (h : Heap) (a : Addr) (f : Obj → Obj) : (h.update a f).objs.size = h.objs.size := (Heap.SameBut.update (h := h) (a := a) (f := f)).1
theorem runs_size {M : Model} {Γ : Ctx} {p : Pos} {t : Sem Fin} {fs : List Frame} {s s' : Shared} {e : End} (h : Runs M Γ p t fs s e s') : s.heap.objs.size ≤ s'.heap.objs.size := by
  induction h <;> (try simp only [Shared.setGen, size_update, Heap.size_push] at *) <;> omega
theorem wakes_size {M : Model} {Γ : Ctx} {p : Pos} {g : Nat} {r : Resume} {s s' : Shared} {res : GenResult} (h : Wakes M Γ p g r s res s') : s.heap.objs.size ≤ s'.heap.objs.size := by
  unfold Wakes at h
  split at h
  · exact h.elim
  · split at h
    · obtain ⟨e₁, s₁, hr, _, _, rfl⟩ := h; exact (runs_size hr : (s.setGen g .running).heap.objs.size ≤ _)
    all_goals (rw [h.2]; exact Nat.le_refl _)
  · obtain ⟨e₁, s₁, hr, _, _, rfl⟩ := h; exact (runs_size hr : (s.setGen g .running).heap.objs.size ≤ _)
  all_goals (rw [h.2]; exact Nat.le_refl _)
theorem wp_size {α : Type} (M : Model) (Γ : Ctx) (n : Nat) (t : Sem α) : ∀ (Q : α → Pos → Shared → Prop) (E : Value → Pos → Shared → Prop) (p : Pos) (s : Shared), n ≤ s.heap.objs.size → Sem.wp M Γ t Q E p s →
    Sem.wp M Γ t (fun a p' s' => n ≤ s'.heap.objs.size ∧ Q a p' s') (fun e p' s' => n ≤ s'.heap.objs.size ∧ E e p' s') p s := by
  induction t with
  | pure a => exact fun Q E p s hn h => ⟨hn, h⟩
  | raise e => exact fun Q E p s hn h => ⟨hn, h⟩
  | rule _ k ih => exact fun Q E p s hn h => ih () Q E p s hn h
  | «at» p' k ih => exact fun Q E p s hn h => ih () Q E p' s hn h
  | load a _ k ih => exact fun Q E p s hn ⟨o, ho, h⟩ => ⟨o, ho, ih o Q E p s hn h⟩
  | update a _ f k ih => exact fun Q E p s hn h => ⟨h.1, ih () Q E p _ (by simpa [size_update] using hn) h.2⟩
  | loadIfAlive a k ih => exact fun Q E p s hn h => ih _ Q E p s hn h
  | point _ k ih => exact fun Q E p s hn h => ih () Q E p s hn h
  | alloc o k ih => exact fun Q E p s hn h => ih _ Q E p _ (by rw [Heap.size_push]; omega) h
  | fresh k ih => exact fun Q E p s hn h => ih _ Q E p _ hn h
  | ask k ih => exact fun Q E p s hn h => ih _ Q E p s hn h
  | choose src m k ih => exact fun Q E p s hn h => ⟨h.1, ih _ Q E p _ hn h.2⟩
  | os q _ k ih => exact fun Q E p s hn h => ih _ Q E p _ hn h
  | call c hd _ _ k ih => exact fun Q E p s hn ⟨r, s', hr, h⟩ => ⟨r, s', hr, ih r Q E p s' (Nat.le_trans hn (runs_size hr)) h⟩
  | handled own k ih => exact fun Q E p s hn h => ih _ Q E p s hn h
  | genState g k ih => exact fun Q E p s hn ⟨st, hs, h⟩ => ⟨st, hs, ih _ Q E p s hn h⟩
  | newGen c k ih => exact fun Q E p s hn h => ih _ Q E p _ hn h
  | resume g r _ k ih => exact fun Q E p s hn ⟨res, s', hw, h⟩ => ⟨res, s', hw, ih res Q E p s' (Nat.le_trans hn (wakes_size hw)) h⟩
  | stack k ih => exact fun Q E p s hn h => ih _ Q E p s hn h
  | thread k ih => exact fun Q E p s hn h => ih _ Q E p s hn h
  | unsupported _ => exact fun Q E p s _ h => h
  | finish _ => exact fun Q E p s _ h => h
  | register _ _ => exact fun Q E p s _ h => h
  | yield _ _ _ _ => exact fun Q E p s _ h => h
  | fork _ _ => exact fun Q E p s _ h => h
  | await _ _ _ _ _ => exact fun Q E p s _ h => h
theorem with_size {α : Type} {M : Model} {A : Around} {s : Shared} {t : Sem α} {Q : α → Shared → Prop} {E : Value → Shared → Prop} (h : wpAny M A t (fun a s' => s.heap.objs.size ≤ s'.heap.objs.size → Q a s') E s) : wpAny M A t Q E s :=
  fun Γ p hΓ => Sem.wp_mono M Γ t (fun _ _ _ x => x.2 x.1) (fun _ _ _ x => x.2) p s (wp_size M Γ _ t _ _ p s (Nat.le_refl _) (h Γ p hΓ))
theorem digit_text (c : Nat) (h1 : 48 ≤ c) (h2 : c ≤ 57) : PySem.intText? ⟨#[c]⟩ = some ((c - 48 : Nat) : Int) := by
  have : ∀ k : Fin 10, PySem.intText? ⟨#[k.val + 48]⟩ = some ((k.val + 48 - 48 : Nat) : Int) := by decide +kernel
  have h := this ⟨c - 48, Nat.lt_succ_of_le (Nat.sub_le_iff_le_add.mpr h2)⟩
  rw [show c - 48 + 48 = c from Nat.sub_add_cancel h1] at h
  exact h
theorem nat_text : ∀ n : Nat, n < 100 → Str.ofString (toString (n : Int)) = ⟨(natTx n).toArray⟩ := by
  have : ∀ n : Fin 100, Str.ofString (toString (n.val : Int)) = ⟨(natTx n.val).toArray⟩ := by decide +kernel
  exact fun n h => this ⟨n, h⟩
set_option maxRecDepth 100000 in
theorem called_object : TypeCalled "object" "object.__new__" "object.__init__" :=
  ⟨by decide +kernel, by decide +kernel, ⟨_, _, F.mro_object⟩, madeBy_type F.mro_object (by rw [typeLookup_type, builtinLookup_eq_fast]; kernel_rfl) (by decide +kernel), by decide +kernel, by rw [isSubtype_type]; kernel_rfl, F.slot_object_init⟩
set_option maxRecDepth 100000 in
theorem madeHere_object : Bind.madeHere "object.__new__" (.type "object") = pure () := by kernel_rfl
set_option maxRecDepth 100000 in
theorem new_object_refuses : ((Manifest.find? "object").elim false (·.mro.any fun t => (Manifest.find? t).elim false (·.noNew))) = false := by kernel_rfl
set_option maxRecDepth 100000 in
theorem new_object_dict : typeHasDict (.type "object") = false := by kernel_rfl
set_option maxRecDepth 100000 in
theorem new_object_del : diesByItsTypesDel "object" = false := by kernel_rfl
theorem meets_object_new : Meets (Builtin.«object.__new__» ⟨[.type "object"], []⟩) (fun _ R s => R (.ok (.ret (.ref s.heap.objs.size))) { s with heap := s.heap.push { cls := .type "object", data := .plain } }) :=
  .of_wp fun prog w A R s h => by
    obtain ⟨hp, g, d, tk, os⟩ := s
    have h1 := madeHere_object
    have h2 := new_object_refuses
    have h3 := new_object_dict
    have h4 := new_object_del
    unfold Builtin.«object.__new__»
    refine wpAny_bind (wpAny_pure ?_)
    wp_walk
    exact ⟨_, rfl, h⟩
theorem meets_object_init {v : Value} : Meets (Builtin.«object.__init__» ⟨[v], []⟩) (fun _ R s => R (.ok (.ret .none)) s) :=
  .of_wp fun prog w A R s h => wpAny_pure ⟨_, rfl, h⟩
set_option maxRecDepth 100000 in
theorem call_object {prog : Program} {w : PySem.World} {A : Around} {E Q : Value → Shared → Prop} {s : Shared} (h : Q (.ref s.heap.objs.size) { s with heap := s.heap.push { cls := .type "object", data := .plain } }) :
    wpAny (model prog w) A (call (.type "object") []) Q E s :=
  callType_meets (Q₁ := fun obj s₁ => s₁.TypeIs obj "object" ∧ Q obj s₁) called_object (by kernel_rfl) (by kernel_rfl) F.entry_object_new F.entry_object_init meets_object_new ⟨⟨_, Heap.get?_push_size _ rfl, rfl⟩, h⟩
    fun obj s₁ hq => ⟨hq.1, F.args_object_init_1 _, _, meets_object_init, rfl, hq.2⟩
section
variable {B : Base} {n : Nat} {W : Addr → Prop} {ρ : List Addr} {cs cs' : Cells} {s : Shared} {A : Around} {E : Value → Shared → Prop} {Q : Value → Shared → Prop}
theorem ints_rel {h : Heap} {xs : List AV} {vs : List Value} (r : VRels B h W ρ xs vs) : ∀ {is : List Int}, allInt xs = some is → ∃ ps : Array (Int × Tok), vs.toArray = intItems ps ∧ ps.toList.map (·.1) = is :=
  r.ind (P := fun xs vs => ∀ {is : List Int}, allInt xs = some is → ∃ ps : Array (Int × Tok), vs.toArray = intItems ps ∧ ps.toList.map (·.1) = is) (fun e => ⟨#[], by simp [intItems], Option.some.inj e⟩) fun {x v xs vs} q r ih is e => by
    obtain ⟨i, hx, e⟩ := bind_eq e
    obtain ⟨js, hj, e⟩ := map_eq e
    obtain ⟨t, hv⟩ := q.ofInt hx
    obtain ⟨ps, h1, h2⟩ := ih hj
    refine ⟨#[(i, t)] ++ ps, ?_, by rw [Array.toList_append, List.map_append, h2]; exact e⟩
    rw [show (v :: vs).toArray = #[v] ++ vs.toArray by simp, h1, hv]
    simp [intItems]
theorem maxL_spec (r : List Int) : ∀ a : Int, maxL a r ∈ a :: r ∧ ∀ x ∈ a :: r, x ≤ maxL a r := by
  induction r with
  | nil => exact fun a => ⟨List.mem_cons_self, fun x hx => Int.le_of_eq (List.mem_singleton.mp hx)⟩
  | cons y r ih =>
    intro a
    have h := ih (if a < y then y else a)
    have h0 := h.2 _ List.mem_cons_self
    have ha : a ≤ (if a < y then y else a) ∧ y ≤ (if a < y then y else a) ∧ ((if a < y then y else a) = a ∨ (if a < y then y else a) = y) := by
      by_cases hy : a < y
      · rw [if_pos hy]; exact ⟨Int.le_of_lt hy, Int.le_refl _, .inr rfl⟩
      · rw [if_neg hy]; exact ⟨Int.le_refl _, Int.not_lt.mp hy, .inl rfl⟩
    refine ⟨(List.mem_cons.mp h.1).elim (fun e => ha.2.2.elim (fun q => List.mem_cons.mpr (.inl (e.trans q))) fun q => List.mem_cons_of_mem _ (List.mem_cons.mpr (.inl (e.trans q)))) fun e => List.mem_cons_of_mem _ (List.mem_cons_of_mem _ e), fun x hx => ?_⟩
    rcases List.mem_cons.mp hx with e | hx
    · exact Int.le_trans (e ▸ ha.1) h0
    · rcases List.mem_cons.mp hx with e | hx
      · exact Int.le_trans (e ▸ ha.2.1) h0
      · exact h.2 x (List.mem_cons_of_mem _ hx)
theorem minL_spec (r : List Int) : ∀ a : Int, minL a r ∈ a :: r ∧ ∀ x ∈ a :: r, minL a r ≤ x := by
  induction r with
  | nil => exact fun a => ⟨List.mem_cons_self, fun x hx => Int.le_of_eq (List.mem_singleton.mp hx).symm⟩
  | cons y r ih =>
    intro a
    have h := ih (if y < a then y else a)
    have h0 := h.2 _ List.mem_cons_self
    have ha : (if y < a then y else a) ≤ a ∧ (if y < a then y else a) ≤ y ∧ ((if y < a then y else a) = a ∨ (if y < a then y else a) = y) := by
      by_cases hy : y < a
      · rw [if_pos hy]; exact ⟨Int.le_of_lt hy, Int.le_refl _, .inr rfl⟩
      · rw [if_neg hy]; exact ⟨Int.le_refl _, Int.not_lt.mp hy, .inl rfl⟩
    refine ⟨(List.mem_cons.mp h.1).elim (fun e => ha.2.2.elim (fun q => List.mem_cons.mpr (.inl (e.trans q))) fun q => List.mem_cons_of_mem _ (List.mem_cons.mpr (.inl (e.trans q)))) fun e => List.mem_cons_of_mem _ (List.mem_cons_of_mem _ e), fun x hx => ?_⟩
    rcases List.mem_cons.mp hx with e | hx
    · exact Int.le_trans h0 (e ▸ ha.1)
    · rcases List.mem_cons.mp hx with e | hx
      · exact Int.le_trans h0 (e ▸ ha.2.1)
      · exact h.2 x (List.mem_cons_of_mem _ hx)
theorem grow_post (o : Ok B W ρ cs s) {x : AV} {v : Value} (hQ : PostV B n W ρ cs s cs x Q) (hv : ∀ h W ρ, VRel B h W ρ x v) {h' : Heap} {tk : Nat} (hk : ∀ a o, s.heap.get? a = some o → h'.get? a = some o) (hsz : s.heap.objs.size ≤ h'.objs.size) :
    Q v { s with heap := h', toks := tk } := hQ _ _ _ _ (o.grow hsz hk) (hv _ _ _)
theorem ints_of (o : Ok B W ρ cs s) {xs : List AV} {vs : List Value} {is : List Int} (p : VRels B s.heap W ρ xs vs) (e : intsOf cs xs = some is) : ∃ a ps, vs = [.ref a] ∧ s.heap.IsList a (intItems ps) ∧ ps.toList.map (·.1) = is := by
  obtain ⟨x, hx, e⟩ := bind_eq e
  obtain ⟨ys, hy, e⟩ := bind_eq e
  obtain ⟨v, hv, q⟩ := p.ofOne hx
  obtain ⟨a, us, hu, l, _, r⟩ := o.mem.listOf q hy
  obtain ⟨ps, h1, h2⟩ := ints_rel r e
  exact ⟨a, ps, hu ▸ hv, h1 ▸ l.isList, h2⟩
theorem best_max {ps : Array (Int × Tok)} {x : Int} {r : List Int} (h : ps.toList.map (·.1) = x :: r) : 0 < ps.size ∧ numAt ps (argBest (fun i j => decide (numAt ps i > numAt ps j)) (ps.size - 1)) = maxL x r := by
  have h0 : ps.size = r.length + 1 := by have := congrArg List.length h; rwa [List.length_map, Array.length_toList] at this
  obtain ⟨g1, g2⟩ := argBest_gt (numAt ps) (ps.size - 1)
  have hm := maxL_spec r x
  refine ⟨h0 ▸ Nat.succ_pos _, Int.le_antisymm (hm.2 _ ?_) ?_⟩
  · rw [← h, numAt_eq]; exact getD_mem (by rw [List.length_map, Array.length_toList]; omega)
  · rw [← h] at hm
    obtain ⟨j, hj, hjm⟩ := mem_getD hm.1
    rw [List.length_map, Array.length_toList] at hj
    rw [← hjm, ← numAt_eq]
    exact g2 j (Nat.le_sub_one_of_lt hj)
theorem best_min {ps : Array (Int × Tok)} {x : Int} {r : List Int} (h : ps.toList.map (·.1) = x :: r) : 0 < ps.size ∧ numAt ps (argBest (fun i j => decide (numAt ps i < numAt ps j)) (ps.size - 1)) = minL x r := by
  have h0 : ps.size = r.length + 1 := by have := congrArg List.length h; rwa [List.length_map, Array.length_toList] at this
  obtain ⟨g1, g2⟩ := argBest_lt (numAt ps) (ps.size - 1)
  have hm := minL_spec r x
  refine ⟨h0 ▸ Nat.succ_pos _, Int.le_antisymm ?_ (hm.2 _ ?_)⟩
  · rw [← h] at hm
    obtain ⟨j, hj, hjm⟩ := mem_getD hm.1
    rw [List.length_map, Array.length_toList] at hj
    rw [← hjm, ← numAt_eq]
    exact g2 j (Nat.le_sub_one_of_lt hj)
  · rw [← h, numAt_eq]; exact getD_mem (by rw [List.length_map, Array.length_toList]; omega)
theorem bicall_sound (hh : A.handled = none) (hlim : s.heap.NoLimit) (o : Ok B W ρ cs s) {f : BF} {xs : List AV} {vs : List Value} {z : AV} (p : VRels B s.heap W ρ xs vs) (e : bicall f xs cs = some (z, cs'))
    (hQ : PostV B n W ρ cs s cs' z Q) : wpAny (model B.prog B.w) A (call (.builtin (bfS f)) vs) Q E s := by
  cases f with
  | len =>
    obtain ⟨x, hx, e⟩ := bind_eq e
    obtain ⟨v, hvs, q⟩ := p.ofOne hx
    rw [hvs]
    rcases orElse_eq e with ⟨t, hx, e⟩ | e
    · obtain ⟨tk, hv, bd⟩ := q.ofStr hx
      rw [hv]
      refine P.len_str (by rw [strOf_len]; exact not_63 bd) ?_
      rw [strOf_len]
      exact hQ.to e _ _ _ _ (o.toks _) (.int _ _)
    · obtain ⟨ys, hx, e⟩ := mapS e
      obtain ⟨a, us, hv, l, bd, r⟩ := o.mem.listOf q hx
      rw [hv]
      refine Calls.call_len_list l.isList (by rw [List.size_toArray, ← r.length]; exact lim_63 bd) ?_
      rw [List.size_toArray, ← r.length]
      exact hQ.to e _ _ _ _ (o.toks _) (.int _ _)
  | max =>
    rcases orElse_eq e with ⟨y, hy, e⟩ | e
    · obtain ⟨v, u, hvs, q, q'⟩ := p.ofTwo hy
      obtain ⟨i, hi, e⟩ := bind_eq e
      obtain ⟨j, hj, e⟩ := mapS e
      obtain ⟨t, hv⟩ := q.ofInt hi
      obtain ⟨t', hu⟩ := q'.ofInt hj
      rw [hvs, hv, hu]
      refine with_size (max_two_ints hh fun h' tk hk hsz => ?_)
      exact grow_post (tk := tk) o (hQ.to e) (v := if j > i then .int j t' else .int i t) (fun h W ρ => by by_cases hab : i < j <;> simp only [hab, if_true, if_false, gt_iff_lt] <;> exact .int _ _) hk hsz
    · obtain ⟨is, hi, e⟩ := bind_eq e
      obtain ⟨m, hm, e⟩ := mapS e
      obtain ⟨a, ps, hvs, l, h2⟩ := ints_of o p hi
      cases is with
      | nil => cases hm
      | cons x r =>
        obtain ⟨h0, h1⟩ := best_max h2
        rw [hvs]
        refine with_size (max_intList hh l h0 fun v h' tk hv hk hsz => ?_)
        obtain ⟨t, rfl⟩ := intItems_at hv
        rw [h1]
        have hQ := hQ.to e
        exact grow_post o hQ (fun _ _ _ => .int _ _) hk hsz
  | min =>
    rcases orElse_eq e with ⟨y, hy, e⟩ | e
    · obtain ⟨v, u, hvs, q, q'⟩ := p.ofTwo hy
      obtain ⟨i, hi, e⟩ := bind_eq e
      obtain ⟨j, hj, e⟩ := mapS e
      obtain ⟨t, hv⟩ := q.ofInt hi
      obtain ⟨t', hu⟩ := q'.ofInt hj
      rw [hvs, hv, hu]
      refine with_size (min_two_ints hh fun h' tk hk hsz => ?_)
      exact grow_post (tk := tk) o (hQ.to e) (v := if j < i then .int j t' else .int i t) (fun h W ρ => by by_cases hab : j < i <;> simp only [hab, if_true, if_false] <;> exact .int _ _) hk hsz
    · obtain ⟨is, hi, e⟩ := bind_eq e
      obtain ⟨m, hm, e⟩ := mapS e
      obtain ⟨a, ps, hvs, l, h2⟩ := ints_of o p hi
      cases is with
      | nil => cases hm
      | cons x r =>
        obtain ⟨h0, h1⟩ := best_min h2
        rw [hvs]
        refine with_size (min_intList hh l h0 fun v h' tk hv hk hsz => ?_)
        obtain ⟨t, rfl⟩ := intItems_at hv
        rw [h1]
        have hQ := hQ.to e
        exact grow_post o hQ (fun _ _ _ => .int _ _) hk hsz
  | sum =>
    obtain ⟨is, hi, e⟩ := mapS e
    obtain ⟨a, ps, hvs, l, h2⟩ := ints_of o p hi
    rw [hvs]
    refine with_size (sum_intListG hh l fun h' tk t' hk hsz => ?_)
    rw [preSum_eq, h2, show ps.size = is.length by rw [← h2, List.length_map, Array.length_toList], List.take_length]
    exact grow_post o (hQ.to e) (fun _ _ _ => .int _ _) hk hsz
theorem natTx_len (k : Nat) : (natTx k).length ≤ lim := by
  have : (natTx k).length ≤ 2 := by unfold natTx; split <;> (try split) <;> simp
  exact Nat.le_trans this (by decide)
theorem tycall_sound (o : Ok B W ρ cs s) (hn : n ≤ cs.length) {f : TyN} {xs : List AV} {vs : List Value} {z : AV} (p : VRels B s.heap W ρ xs vs) (e : tycall f xs cs = some (z, cs'))
    (hQ : PostV B n W ρ cs s cs' z Q) : wpAny (model B.prog B.w) A (call (.type (tyS f)) vs) Q E s := by
  cases f with
  | int =>
    obtain ⟨x, hx, e⟩ := bind_eq e
    obtain ⟨v, hvs, q⟩ := p.ofOne hx
    obtain ⟨i, hi, e⟩ := mapS e
    obtain ⟨t, hx, hi⟩ := bind_eq hi
    obtain ⟨tk, hv, bd⟩ := q.ofStr hx
    rw [hvs, hv]
    match t, hi with
    | [c], hi =>
      obtain ⟨hc, hi⟩ := if_eq hi
      exact PySem.W.KIN.call_text ((digit_text _ hc.1 hc.2).trans hi) (by show 1 ≤ 640; decide) (hQ.to e _ _ _ _ (o.toks _) (.int _ _))
  | str =>
    obtain ⟨x, hx, e⟩ := bind_eq e
    obtain ⟨v, hvs, q⟩ := p.ofOne hx
    obtain ⟨i, hx, e⟩ := bind_eq e
    obtain ⟨hi, e⟩ := if_eq e
    obtain ⟨tk, hv⟩ := q.ofInt hx
    have hi' : i = (i.toNat : Int) := (Int.toNat_of_nonneg hi.1).symm
    have hlt : i.toNat < 100 := (Int.toNat_lt hi.1).mpr hi.2
    rw [hvs, hv]
    refine P.str_of_int ?_ ?_
    · rw [hi', Int.natAbs_natCast]
      by_cases h0 : i.toNat = 0
      · rw [h0]; decide
      · exact Nat.lt_trans ((Nat.log2_lt (k := 7) h0).mpr (Nat.lt_trans hlt (by decide))) (by decide)
    · have e1 : (Str.ofString (toString i) : Str) = ⟨(natTx i.toNat).toArray⟩ := by
        have := nat_text i.toNat hlt
        rw [← hi'] at this; exact this
      rw [e1]
      exact hQ.to e _ _ _ _ (o.toks _) (.str _ _ (natTx_len _))
  | type =>
    obtain ⟨x, hx, e⟩ := bind_eq e
    obtain ⟨v, hvs, q⟩ := p.ofOne hx
    rw [hvs]
    rcases orElse_eq e with ⟨t, hx, e⟩ | e
    · obtain ⟨tk, hv, bd⟩ := q.ofStr hx
      rw [hv]
      exact call_type_of (Tx := "str") rfl (by decide) (hQ.to e _ _ _ _ (After.refl o) (.ty .str))
    · obtain ⟨ys, hx, e⟩ := mapS e
      obtain ⟨a, us, hv, l, bd, r⟩ := o.mem.listOf q hx
      rw [hv]
      exact call_type_of (Tx := "list") l.isList.typeIs (by decide) (hQ.to e _ _ _ _ (After.refl o) (.ty .list))
  | object =>
    obtain ⟨hx, e⟩ := if_eq e
    rw [List.isEmpty_iff.mp hx] at p
    rw [p.inv]
    refine call_object (hQ.to e _ _ _ _ (o.alloc hn ⟨_, Heap.get?_push_size _ rfl, rfl⟩) (.ref ?_))
    rw [o.mem.len]; exact List.getElem?_concat_length
  | _ => cases e
theorem bcall_sound (hh : A.handled = none) (hlim : s.heap.NoLimit) (o : Ok B W ρ cs s) (hn : n ≤ cs.length) {f : AV} {fv : Value} {xs : List AV} {vs : List Value} {z : AV} (pf : VRel B s.heap W ρ f fv) (p : VRels B s.heap W ρ xs vs) (e : bcall f xs cs = some (z, cs'))
    (hQ : PostV B n W ρ cs s cs' z Q) : wpAny (model B.prog B.w) A (call fv vs) Q E s := by
  cases f with
  | bi => rw [pf.inv]; exact bicall_sound hh hlim o p e hQ
  | ty => rw [pf.inv]; exact tycall_sound o hn p e hQ
  | _ => cases e
end
end Ev
namespace Ev
open PySem PySem.W PyProof.Rows PySem.SeqAt
open MeetsSeq MeetsSeq2 MeetsSeq3 SeqRoads2
open Builtin.Str (occurrences tooLong)
theorem occ_find (s : Str) (c hi : Nat) : ∀ (l : List Nat) (free : Nat), (∀ i ∈ l, free ≤ i) →
    (forIn l ((#[] : Array Nat), free) (StrLaws.occBody s ⟨#[c]⟩ hi 1)).run.fst = match l.find? (fun i => decide (i + 1 ≤ hi ∧ s.cps.toList[i]? = some c ∧ i + 1 ≤ s.length)) with | some k => #[k] | none => #[]
  | [], _, _ => rfl
  | a :: l, free, hf => by
    rw [List.forIn_cons]
    have ha : free ≤ a := hf a (List.mem_cons_self ..)
    have hone : (⟨#[c]⟩ : Str).length = 1 := rfl
    by_cases hc : a + 1 ≤ hi ∧ s.cps.toList[a]? = some c ∧ a + 1 ≤ s.length
    · have hs : Builtin.Str.subAt s ⟨#[c]⟩ a = true := ((StrLaws.subAt_one s c a).mpr hc.2.1).2
      have e : StrLaws.occBody s ⟨#[c]⟩ hi 1 a (#[], free) = pure (ForInStep.yield (#[a], a + 1)) := by
        unfold StrLaws.occBody
        rw [if_pos ⟨⟨⟨by simp, ha⟩, hc.1⟩, hs⟩]; rfl
      rw [e]
      have stay : ∀ (l : List Nat) (st : Array Nat × Nat), 1 ≤ st.fst.size → (forIn l st (StrLaws.occBody s ⟨#[c]⟩ hi 1)).run.fst = st.fst := by
        intro l
        induction l with
        | nil => intro st _; rfl
        | cons b l ih =>
          intro st h
          rw [List.forIn_cons]
          have : StrLaws.occBody s ⟨#[c]⟩ hi 1 b st = pure (ForInStep.yield (st.fst, st.snd)) := by
            unfold StrLaws.occBody
            rw [if_neg (fun h' => by have := h'.1.1.1; omega)]
          rw [this]
          exact ih (st.fst, st.snd) h
      rw [List.find?_cons, decide_eq_true hc]
      exact stay l (#[a], a + 1) (by simp)
    · have e : StrLaws.occBody s ⟨#[c]⟩ hi 1 a (#[], free) = pure (ForInStep.yield (#[], free)) := by
        unfold StrLaws.occBody
        rw [if_neg (fun h => hc (by
          have h3 := (StrLaws.subAt_one s c a)
          have h4 := h.2
          have h5 := h.1.2
          rw [hone] at h5
          have h6 : a + 1 ≤ s.length := by
            by_cases hx : a + 1 ≤ s.length
            · exact hx
            · exfalso
              have : s.cps.toList[a]? = none := List.getElem?_eq_none (by simp [Str.length] at hx ⊢; omega)
              rw [StrLaws.subAt_eq] at h4
              have h7 : ((s.cps.toList.drop a).take 1 == [c]) = true := h4
              rw [StrLaws.take1_drop, this] at h7
              cases h7
          exact ⟨h5, h3.mp ⟨by rw [hone]; exact h6, h4⟩, h6⟩))]
      rw [e, List.find?_cons, decide_eq_false hc]
      exact occ_find s c hi l free fun i hi' => hf i (List.mem_cons_of_mem _ hi')
theorem idxC_spec (c : Nat) : ∀ (s : Tx) (i k : Nat), idxC c s i = some k → i ≤ k ∧ s[k - i]? = some c ∧ ∀ j, j < k - i → s[j]? ≠ some c
  | [], _, _, h => nomatch h
  | x :: r, i, k, h => by
    rw [idxC] at h
    split at h
    · cases h
      rename_i hx
      subst hx
      exact ⟨Nat.le_refl _, by simp, fun j hj => absurd hj (by omega)⟩
    · rename_i hx
      obtain ⟨h1, h2, h3⟩ := idxC_spec c r (i + 1) k h
      have e : k - i = (k - (i + 1)) + 1 := by omega
      refine ⟨by omega, by rw [e]; simpa using h2, fun j hj => ?_⟩
      cases j with
      | zero => simpa using hx
      | succ j => have := h3 j (by omega); simpa using this
theorem occ_index {s : Tx} {c k : Nat} (h : idxC c s 0 = some k) : occurrences ⟨s.toArray⟩ ⟨#[c]⟩ 0 (⟨s.toArray⟩ : Str).length 1 = [k] := by
  obtain ⟨_, h2, h3⟩ := idxC_spec c s 0 k h
  rw [Nat.sub_zero] at h2 h3
  rw [StrLaws.occ_eq, occ_find _ _ _ _ _ (fun _ _ => Nat.zero_le _)]
  have hlt : k < s.length := (List.getElem?_eq_some_iff.mp h2).1
  have : (List.range' 0 ((⟨s.toArray⟩ : Str).length + 1 - 0)).find? (fun i => decide (i + 1 ≤ (⟨s.toArray⟩ : Str).length ∧ (⟨s.toArray⟩ : Str).cps.toList[i]? = some c ∧ i + 1 ≤ (⟨s.toArray⟩ : Str).length)) = some k := by
    rw [List.find?_range'_eq_some]
    rw [strOf_len]
    refine ⟨by simp; exact ⟨hlt, by simpa using h2, hlt⟩, by simp [List.mem_range']; omega, fun j hj1 hj2 => ?_⟩
    have := h3 j hj2
    simp
    exact .inr (.inl this)
  rw [this]
theorem strJoin (sep : Tx) : ∀ xs : List Tx, Str.join ⟨sep.toArray⟩ (xs.map fun x => (⟨x.toArray⟩ : Str)) = ⟨(joinTx sep xs).toArray⟩
  | [] => rfl
  | [x] => rfl
  | x :: y :: r => by
    show (⟨x.toArray⟩ : Str) ++ ⟨sep.toArray⟩ ++ Str.join ⟨sep.toArray⟩ ((y :: r).map fun x => (⟨x.toArray⟩ : Str)) = _
    rw [strJoin sep (y :: r), strOf_append, strOf_append]
    rfl
theorem joinTx_len (sep : Tx) : ∀ xs : List Tx, (xs.map List.length).sum + xs.length * sep.length ≤ (joinTx sep xs).length + sep.length
  | [] => by simp
  | [x] => by simp [joinTx]
  | x :: y :: r => by
    have := joinTx_len sep (y :: r)
    simp only [joinTx, List.map_cons, List.sum_cons, List.length_cons, List.length_append] at this ⊢
    have e : (r.length + 1 + 1) * sep.length = (r.length + 1) * sep.length + sep.length := by rw [Nat.add_mul, Nat.one_mul]
    omega
theorem foldl_join (k : Nat) : ∀ (l : List Str) (a : Nat), l.foldl (fun a x => a + x.length + k) a = a + (l.map Str.length).sum + l.length * k
  | [], a => by simp
  | x :: l, a => by
    rw [List.foldl_cons, foldl_join k l, List.map_cons, List.sum_cons, List.length_cons, Nat.add_mul]; omega
theorem joinOk {sep : Tx} {xs : List Tx} (hs : sep.length ≤ lim) (ht : (joinTx sep xs).length ≤ lim) : JoinOk ⟨sep.toArray⟩ (xs.map fun x => (⟨x.toArray⟩ : Str)) = true := by
  unfold JoinOk
  rw [Bool.not_eq_true']
  have h := joinTx_len sep xs
  have e : ((xs.map fun x => (⟨x.toArray⟩ : Str)).toArray.foldl (fun a x => a + x.length + (⟨sep.toArray⟩ : Str).length) 0) = (xs.map List.length).sum + xs.length * sep.length := by
    rw [List.foldl_toArray, foldl_join, strOf_len, List.map_map, List.length_map]
    have : (Str.length ∘ fun x : Tx => (⟨x.toArray⟩ : Str)) = List.length := by funext x; exact strOf_len x
    rw [this, Nat.zero_add]
  rw [e]
  apply decide_eq_false
  have h1 : lim = 100000 := rfl
  have h2 : (200000 : Nat) ≤ sizeLine := by decide
  omega
end Ev
namespace Ev
open PySem PySem.W PyProof.Rows PySem.SeqAt
open MeetsSeq MeetsSeq2 MeetsSeq3 SeqRoads2
open Builtin.Str (occurrences tooLong partsBetween)
noncomputable def mnS : MN → String
  | .append => "append" | .pop => "pop" | .join => "join" | .lower => "lower" | .upper => "upper" | .replace => "replace" | .index => "index" | .split => "split" | .search => "search" | .sub => "sub" | .other => ""
noncomputable def midL : MN → String
  | .append => "list.append" | .pop => "list.pop" | _ => ""
noncomputable def midT : MN → String
  | .join => "str.join" | .lower => "str.lower" | .upper => "str.upper" | .replace => "str.replace" | .index => "str.index" | .split => "str.split" | _ => ""
noncomputable def midOf (x : AV) (k : MN) : String := orElse x.str? (fun _ => midT k) (midL k)
theorem names_ok : ∀ p ∈ mnames, (⟨p.1.toArray⟩ : Str) = Str.ofString (mnS p.2) := by
  have : (mnames.all fun p => decide ((⟨p.1.toArray⟩ : Str) = Str.ofString (mnS p.2))) = true := by decide +kernel
  exact fun p hp => of_decide_eq_true (List.all_eq_true.mp this p hp)
theorem lookup_mem {α β : Type} [BEq α] [LawfulBEq α] {l : List (α × β)} {n : α} {c : β} (h : l.lookup n = some c) : (n, c) ∈ l := by
  induction l with
  | nil => cases h
  | cons p r ih =>
    rw [show p = (p.1, p.2) from rfl, List.lookup_cons] at h
    cases hb : n == p.1 with
    | true => rw [hb] at h; rw [beq_iff_eq.mp hb, ← Option.some.inj h]; exact List.mem_cons_self
    | false => rw [hb] at h; exact List.mem_cons_of_mem _ (ih h)
theorem mnOf_name {x : Str} {k : MN} (h : mnOf x = k) (hk : k ≠ .other) : x = Str.ofString (mnS k) := by
  unfold mnOf at h
  cases hl : mnames.lookup (tx x) with
  | none => rw [hl] at h; exact absurd h.symm hk
  | some m =>
    rw [hl] at h
    rw [← h]
    exact names_ok _ (lookup_mem hl)
section
variable {B : Base} {n : Nat} {W : Addr → Prop} {ρ : List Addr} {cs cs' : Cells} {s : Shared} {A : Around} {E : Value → Shared → Prop} {Q : Value → Shared → Prop}
theorem belows_append {k : Nat} (xs ys : List AV) : belows k (xs ++ ys) = (belows k xs && belows k ys) := by
  induction xs with
  | nil => rfl
  | cons x xs ih => rw [List.cons_append, belows, belows, ih, Bool.and_assoc]
theorem below_mono {a b : Nat} (hab : a ≤ b) {x : AV} : below a x = true → below b x = true :=
  AV.rec (motive_1 := fun x => below a x = true → below b x = true) (motive_2 := fun xs => belows a xs = true → belows b xs = true) (fun h => h) (fun _ h => h) (fun _ h => h) (fun _ h => h) (fun _ ih h => ih h) (fun _ ih h => ih h) (fun _ h => decide_eq_true (Nat.lt_of_lt_of_le (of_decide_eq_true h) hab))
    (fun _ h => h) (fun h => h) (fun _ h => h) (fun _ h => h) (fun _ h => h) (fun _ h => decide_eq_true (Nat.lt_of_lt_of_le (of_decide_eq_true h) hab)) (fun h => h) (fun h => h) (fun _ _ ih1 ih2 h => Bool.and_eq_true_iff.mpr ⟨ih1 (Bool.and_eq_true_iff.mp h).1, ih2 (Bool.and_eq_true_iff.mp h).2⟩) x
theorem belows_mono {a b : Nat} (hab : a ≤ b) {xs : List AV} (h : belows a xs = true) : belows b xs = true := by
  induction xs with
  | nil => rfl
  | cons x xs ih => exact Bool.and_eq_true_iff.mpr ⟨below_mono hab (Bool.and_eq_true_iff.mp h).1, ih (Bool.and_eq_true_iff.mp h).2⟩
theorem belows_take {k : Nat} {xs : List AV} (m : Nat) (h : belows k xs = true) : belows k (xs.take m) = true := by
  rw [← List.take_append_drop m xs, belows_append] at h
  exact (Bool.and_eq_true_iff.mp h).1
theorem put_low {i : Nat} {v : AV} (h : put n i v = true) : n ≤ i ∨ below 0 v = true := (Bool.or_eq_true_iff.mp h).imp of_decide_eq_true id
theorem turn_list (o : Ok B W ρ cs s) {i : Nat} {a : Addr} {xs : List AV} {ys : List AV} {us : List Value} (g : ρ[i]? = some a) (hc : listAt cs i = some xs) (r : VRels B s.heap W ρ ys us) (hb : ys.length ≤ lim)
    (hl : n ≤ i ∨ ∀ k, belows k xs = true → belows k ys = true) {h' : Heap} {tk : Nat} (l : h'.PlainList a us.toArray) (hs : Heap.SameBut a s.heap h') :
    After B n Non W ρ cs s W ρ (cs.set i (.list ys)) { s with heap := h', toks := tk } := by
  have wa := (o.mem.own a (List.mem_of_getElem? g)).1
  refine o.setCell g hs ⟨us, l, hb, r.mono (fun b ob e w => (hs.2 b fun z => w (z ▸ wa)).trans e) (fun _ _ w => w) fun _ _ e => e⟩ (hl.imp id fun h k old ho hold => ?_)
  rw [← Option.some.inj ((listAt_eq hc).symm.trans ho)] at hold
  exact h k hold
theorem turn_append (o : Ok B W ρ cs s) {i : Nat} {a : Addr} {xs : List AV} {vs : List Value} {x : AV} {v : Value} (g : ρ[i]? = some a) (hc : listAt cs i = some xs) (r : VRels B s.heap W ρ xs vs) (p : VRel B s.heap W ρ x v) (hg : (put n i x && decide (xs.length < lim)) = true)
    {h' : Heap} {tk : Nat} (l : h'.PlainList a (vs ++ [v]).toArray) (hs : Heap.SameBut a s.heap h') : After B n Non W ρ cs s W ρ (cs.set i (.list (xs ++ [x]))) { s with heap := h', toks := tk } := by
  have hg := Bool.and_eq_true_iff.mp hg
  refine turn_list o g hc (r.append (.cons p .nil)) (by rw [List.length_append]; exact of_decide_eq_true hg.2) ((put_low hg.1).imp id fun h k hk => ?_) l hs
  rw [belows_append, hk]
  exact Bool.and_eq_true_iff.mpr ⟨rfl, Bool.and_eq_true_iff.mpr ⟨below_mono (Nat.zero_le k) h, rfl⟩⟩
theorem appendv_sound (o : Ok B W ρ cs s) {i : Nat} {a : Addr} {x z : AV} {v : Value} (g : ρ[i]? = some a) (p : VRel B s.heap W ρ x v) (e : appendv n i x cs = some (z, cs')) (hQ : PostV B n W ρ cs s cs' z Q) :
    wpAny (model B.prog B.w) A (call (.builtin "list.append") [.ref a, v]) Q E s := by
  obtain ⟨xs, hc, e⟩ := bind_eq e
  obtain ⟨hg, e⟩ := if_eq e
  obtain ⟨vs, l, bd, r⟩ := o.mem.listAt hc g
  refine wpAny_list_append_plain l (fun h' l' hs => ?_) (by rw [List.size_toArray, ← r.length]; exact lim_size bd)
  exact hQ.to e _ _ _ _ (turn_append (tk := s.toks) o g hc r p hg (by rw [List.push_toArray] at l'; exact l') hs) .none
theorem strTab {k : MN} (h : k.ofStr = true) : Slot "str" (Str.ofString (mnS k)) (midT k) ∧ typeOf (.builtin (midT k)) = pure (.type "method_descriptor") := by
  cases k with
  | join => exact ⟨F.slot_str_join, F.type_str_join⟩
  | lower => exact ⟨F.slot_str_lower, F.type_str_lower⟩
  | upper => exact ⟨F.slot_str_upper, F.type_str_upper⟩
  | replace => exact ⟨F.slot_str_replace, F.type_str_replace⟩
  | index => exact ⟨F.slot_str_index, F.type_str_index⟩
  | split => exact ⟨F.slot_str_split, F.type_str_split⟩
  | _ => cases h
theorem listTab {k : MN} (h : k.ofList = true) : Slot "list" (Str.ofString (mnS k)) (midL k) ∧ typeOf (.builtin (midL k)) = pure (.type "method_descriptor") := by
  cases k with
  | append => exact ⟨F.slot_list_append, F.type_list_append⟩
  | pop => exact ⟨F.slot_list_pop, F.type_list_pop⟩
  | _ => cases h
theorem getm_sound (o : Ok B W ρ cs s) {x : AV} {v : Value} (p : VRel B s.heap W ρ x v) {nm : Str} {k : MN} (hk : mnOf nm = k) (e : methOk cs x k = true) (hre : x.re? = none) {pl : Sem Bool} {R : Value × List Value → Shared → Prop} (hQ : R (.builtin (midOf x k), [v]) s) :
    wpAny (model B.prog B.w) A (getMethod v nm pl) R E s := by
  have hn : k ≠ .other → nm = Str.ofString (mnS k) := mnOf_name hk
  unfold methOk at e
  unfold midOf at hQ
  cases hx : x.str? with
  | some t =>
    obtain ⟨tk, hv, _⟩ := p.ofStr hx
    rw [hx] at e hQ
    rw [hv] at hQ ⊢
    rw [hn fun h => by rw [h] at e; cases e]
    exact GM.of _ (typeIs_str _ _ _) (strTab e).1 (strTab e).2 GM.noRef hQ
  | none =>
    rw [hx] at e hQ
    cases hr : x.ref? with
    | some i =>
      rw [hr] at e
      obtain ⟨h1, h2⟩ := Bool.and_eq_true_iff.mp e
      obtain ⟨xs, hc⟩ := Option.isSome_iff_exists.mp h1
      obtain ⟨a, hv, g⟩ := p.ofRef hr
      obtain ⟨vs, ⟨m, l⟩, bd, r⟩ := o.mem.listAt hc g
      rw [hv] at hQ ⊢
      rw [hn fun h => by rw [h] at h2; cases h2]
      exact getMethod_list_of (listTab h2).1 (listTab h2).2 ⟨_, l, rfl, _, rfl⟩ ⟨_, l, rfl⟩ hQ
    | none => rw [hr, hre] at e; cases e
theorem strs_from {h : Heap} {l : List Str} : ∀ {k : Nat}, (∀ x ∈ l.map (fun x : Str => x.cps.toList), decide (x.length ≤ lim) = true) → VRels B h W ρ ((l.map fun x => x.cps.toList).map AV.str) (strsFrom k l) := by
  induction l with
  | nil => intro k _; exact .nil
  | cons x l ih => intro k hb; exact .cons (.str _ _ (of_decide_eq_true (hb _ List.mem_cons_self))) (ih fun y hy => hb y (List.mem_cons_of_mem _ hy))
theorem strCall_sound (o : Ok B W ρ cs s) (hn : n ≤ cs.length) {t : Tx} {z : AV} {k : MN} {xs : List AV} {tk : Tok} {vs : List Value} (bd : t.length ≤ lim) (q : VRels B s.heap W ρ xs vs) (e : strCall k t xs cs = some (z, cs'))
    (hQ : PostV B n W ρ cs s cs' z Q) : wpAny (model B.prog B.w) A (call (.builtin (midT k)) (.str ⟨t.toArray⟩ tk :: vs)) Q E s := by
  cases k with
  | join =>
    obtain ⟨x, hx, e⟩ := bind_eq e
    obtain ⟨ts, hts, e⟩ := bind_eq e
    obtain ⟨ys, hy, hs⟩ := bind_eq hts
    obtain ⟨hlen, e⟩ := if_eq e
    obtain ⟨v, hvs, q⟩ := q.ofOne hx
    obtain ⟨b, us, hv, l, bd', r⟩ := o.mem.listOf q hy
    obtain ⟨sl, h1, h2⟩ := strs_rel r hs
    rw [hvs, hv]
    refine SC.join (texts := ts.map fun x => (⟨x.toArray⟩ : Str)) (h1 ▸ l.isList) h2 (joinOk bd hlen) fun t' k => ?_
    rw [show Txt.join ⟨t.toArray⟩ (ts.map fun x => (⟨x.toArray⟩ : Str)) = ⟨(joinTx t ts).toArray⟩ from (StrLaws.glued_eq_join _ _).trans (strJoin t ts)]
    exact hQ.to e _ _ _ _ (o.toks _) (.str _ _ hlen)
  | lower =>
    obtain ⟨h, e⟩ := if_eq e
    obtain ⟨hx, ha⟩ := Bool.and_eq_true_iff.mp h
    rw [List.isEmpty_iff.mp hx] at q
    rw [q.inv]
    have hl : Txt.lower ⟨t.toArray⟩ = ⟨(t.map lowC).toArray⟩ := by
      rw [lower_ascii (fun c hc => of_decide_eq_true (List.all_eq_true.mp ha c (List.mem_toArray.mp (Array.mem_toList_iff.mp hc))))]
      simp; intro c _; rfl
    refine SC.lower ?_ ?_
    · rw [hl, strOf_len, List.length_map]; exact decide_eq_false (Nat.not_lt.mpr (lim_size bd))
    · rw [hl]; exact hQ.to e _ _ _ _ (o.toks _) (.str _ _ (by rw [List.length_map]; exact bd))
  | upper =>
    obtain ⟨h, e⟩ := if_eq e
    obtain ⟨hx, ha⟩ := Bool.and_eq_true_iff.mp h
    rw [List.isEmpty_iff.mp hx] at q
    rw [q.inv]
    have hl : Txt.upper ⟨t.toArray⟩ = ⟨(t.map upC).toArray⟩ := by
      rw [upper_ascii (fun c hc => of_decide_eq_true (List.all_eq_true.mp ha c (List.mem_toArray.mp (Array.mem_toList_iff.mp hc))))]
      simp; intro c _; rfl
    refine SC.upper ?_ ?_
    · rw [hl, strOf_len, List.length_map]; exact decide_eq_false (Nat.not_lt.mpr (lim_size bd))
    · rw [hl]; exact hQ.to e _ _ _ _ (o.toks _) (.str _ _ (by rw [List.length_map]; exact bd))
  | replace =>
    obtain ⟨p, hp, e⟩ := bind_eq e
    obtain ⟨c, hc, e⟩ := bind_eq e
    obtain ⟨k, h1, hk⟩ := bind_eq hc
    obtain ⟨y, h2, e⟩ := bind_eq e
    obtain ⟨hn, e⟩ := if_eq e
    obtain ⟨v, u, hvs, q, q'⟩ := q.ofTwo hp
    obtain ⟨tk2, hv, _⟩ := q.ofStr h1
    obtain ⟨tk3, hu, _⟩ := q'.ofStr h2
    rw [hvs, hv, hu, one?_eq hk]
    have hocc : occurrences ⟨t.toArray⟩ ⟨#[c]⟩ 0 (⟨t.toArray⟩ : Str).length ((⟨t.toArray⟩ : Str).length + 1) = [] :=
      List.eq_nil_iff_forall_not_mem.mpr fun i hi => hn (List.mem_of_getElem? ((StrLaws.subAt_one ⟨t.toArray⟩ c i).mp (StrLaws.occ_spec _ _ _ _ _ i hi)))
    have hg := gives_str_replace ⟨t.toArray⟩ ⟨#[c]⟩ ⟨y.toArray⟩ tk tk2 tk3 (fun h => by rw [hocc] at h; cases h)
    rw [hocc] at hg
    exact call_gives F.slot_str_replace (typeIs_str _ _ _) F.entry_str_replace (F.args_str_replace_3 _ _ _) hg (hQ.to e _ _ _ _ (After.refl o) (.str _ _ bd))
  | index =>
    obtain ⟨x, hx, e⟩ := bind_eq e
    obtain ⟨i, hi, e⟩ := mapS e
    obtain ⟨c, hc, hi⟩ := bind_eq hi
    obtain ⟨k, h1, hk⟩ := bind_eq hc
    obtain ⟨v, hvs, q⟩ := q.ofOne hx
    obtain ⟨tk2, hv, _⟩ := q.ofStr h1
    rw [hvs, hv, one?_eq hk]
    exact SC.index (occ_index hi) (hQ.to e _ _ _ _ (o.toks _) (.int _ _))
  | split =>
    obtain ⟨x, hx, e⟩ := bind_eq e
    obtain ⟨p, hp, e⟩ := bind_eq e
    obtain ⟨hk, e⟩ := if_eq e
    obtain ⟨v, hvs, q⟩ := q.ofOne hx
    obtain ⟨tk2, hv, _⟩ := q.ofStr hp
    obtain ⟨h1, hk⟩ := Bool.and_eq_true_iff.mp hk
    obtain ⟨h2, hk⟩ := Bool.and_eq_true_iff.mp hk
    obtain ⟨h3, hk⟩ := Bool.and_eq_true_iff.mp hk
    have hlen : ((partTx t p).map AV.str).length ≤ lim := (if_eq e).1
    have r : VRels B s.heap W ρ ((partTx t p).map .str) (strsFrom s.toks (partsBetween ⟨t.toArray⟩ (occurrences ⟨t.toArray⟩ ⟨p.toArray⟩ 0 t.length (t.length + 1)) p.length)) := strs_from (List.all_eq_true.mp hk)
    rw [List.length_map, partTx, List.length_map] at hlen
    rw [hvs, hv]
    exact call_meets F.slot_str_split (typeIs_str _ _ _) F.entry_str_split (F.args_str_split_2 _ _) (meets_str_split_sep ⟨t.toArray⟩ ⟨p.toArray⟩ tk tk2 ((Bool.not_eq_true' _).mp h1) ((Bool.not_eq_true' _).mp h2) ((Bool.not_eq_true' _).mp h3) (lim_size bd) (lim_size hlen))
      (mk_post o hn r e hQ _)
  | _ => cases e
theorem pop_last {vs : List Value} (h : 0 < vs.length) : (vs.toArray).eraseIdxIfInBounds (vs.toArray.size - 1) = (vs.take (vs.length - 1)).toArray := by
  have h0 : vs.toArray.size - 1 < vs.toArray.size := Nat.sub_one_lt_of_lt h
  unfold Array.eraseIdxIfInBounds
  rw [dif_pos h0, List.eraseIdx_toArray, List.eraseIdx_eq_take_drop_succ, List.size_toArray, Nat.sub_one_add_one (Nat.ne_of_gt h), List.drop_length, List.append_nil]
theorem listCall_sound (o : Ok B W ρ cs s) {i : Nat} {a : Addr} {z : AV} {k : MN} {xs : List AV} {vs : List Value} (g : ρ[i]? = some a) (q : VRels B s.heap W ρ xs vs) (e : listCall n k i xs cs = some (z, cs'))
    (hQ : PostV B n W ρ cs s cs' z Q) : wpAny (model B.prog B.w) A (call (.builtin (midL k)) (.ref a :: vs)) Q E s := by
  cases k with
  | append =>
    obtain ⟨x, hx, e⟩ := bind_eq e
    obtain ⟨v, hvs, q⟩ := q.ofOne hx
    rw [hvs]
    exact appendv_sound o g q e hQ
  | pop =>
    obtain ⟨hx, e⟩ := if_eq e
    obtain ⟨xs, hc, e⟩ := bind_eq e
    obtain ⟨y, hy, e⟩ := mapS e
    rw [List.isEmpty_iff.mp hx] at q
    obtain ⟨vs, ⟨m', l⟩, bd, r⟩ := o.mem.listAt hc g
    rw [List.getLast?_eq_getElem?] at hy
    obtain ⟨u, hu, ru⟩ := r.get hy
    rw [r.length] at hu
    have hpos : 0 < vs.length := Nat.lt_of_le_of_lt (Nat.zero_le _) (List.getElem?_eq_some_iff.mp hu).1
    rw [q.inv]
    refine call_meets F.slot_list_pop ⟨_, l, rfl⟩ F.entry_list_pop (F.args_list_pop_1 _) (list_pop_last a vs.toArray m' u ((List.getElem?_toArray ..).trans hu) (by rw [List.size_toArray, ← r.length]; exact lim_size bd)) ⟨l, ?_⟩
    have l2 := IsL.update l (fun xs => xs.eraseIdxIfInBounds (vs.toArray.size - 1))
    simp only [pop_last hpos] at l2
    rw [List.dropLast_eq_take] at e
    have af := turn_list (n := n) (tk := s.toks) o g hc (r.take (xs.length - 1)) (Nat.le_trans (List.length_take_le' ..) bd) (.inr fun k hk => belows_take _ hk) ⟨_, r.length ▸ l2⟩ (Heap.SameBut.update ..)
    exact hQ.to e _ _ _ _ af (af.val o ru)
  | _ => cases e
theorem mcall_sound (o : Ok B W ρ cs s) (hn : n ≤ cs.length) {x z : AV} {k : MN} {xs : List AV} {v : Value} {vs : List Value} (p : VRel B s.heap W ρ x v) (q : VRels B s.heap W ρ xs vs) (hre : x.re? = none) (e : mcall n x k xs cs = some (z, cs'))
    (hQ : PostV B n W ρ cs s cs' z Q) : wpAny (model B.prog B.w) A (call (.builtin (midOf x k)) (v :: vs)) Q E s := by
  unfold mcall at e
  unfold midOf
  cases hx : x.str? with
  | some t =>
    obtain ⟨tk, hv, bd⟩ := p.ofStr hx
    rw [hx] at e
    rw [hv]
    exact strCall_sound o hn bd q e hQ
  | none =>
    rw [hx] at e
    have e : orElse x.ref? (fun i => listCall n k i xs cs) (x.re?.bind fun j => reCall k j xs cs) = some (z, cs') := e
    rcases orElse_eq e with ⟨i, hi, e⟩ | e
    · obtain ⟨a, hv, g⟩ := p.ofRef hi
      rw [hv]
      exact listCall_sound o g q e hQ
    · rw [hre] at e; cases e
end
end Ev
namespace Ev
open PySem PySem.W PyProof.Rows PySem.SeqAt
open MeetsSeq MeetsSeq2 MeetsSeq3 SeqRoads2
open AutoSeq1 (wpAny_loadPart')
noncomputable abbrev PostU (B : Base) (n : Nat) (W : Addr → Prop) (ρ : List Addr) (cs : Cells) (s : Shared) (cs' : Cells) (Q : Unit → Shared → Prop) : Prop :=
  ∀ W' ρ' s', After B n Non W ρ cs s W' ρ' cs' s' → Q () s'
set_option maxRecDepth 100000 in
theorem iadd_seq : seqSlot? (.type "list") (dunderI "add") = pure (some (.builtin "list.__iadd__")) := PySem.seqSlot_of F.slot_list_iadd.lookup (by decide +kernel)
set_option maxRecDepth 100000 in
theorem iadd_fills : fillsInplaceSlot (.type "list") "add" true = pure false := by
  have h := F.slot_list_iadd.lookup
  unfold fillsInplaceSlot
  show (typeLookup (.type "list") (dunderI "add") >>= fun fi => pure (fi.isSome && !isSeqSlot fi)) = pure false
  rw [h]
  show (pure _ : Sem Bool) = _
  congr 1
theorem iadd_list {prog : Program} {w : PySem.World} {A : Around} {E Q : Value → Shared → Prop} {s : Shared} {l b : Addr} {items items2 : Array Value} {n n2 : Nat} (hl : IsL s.heap l items n) (hb : IsL s.heap b items2 n2)
    (hsz : items.size + items2.size ≤ sizeLine) (h : Q (.ref l) { s with heap := s.heap.update l (Obj.mapSeq fun x => x ++ items2) }) : wpAny (model prog w) A (inplaceOp .Add (.ref l) (.ref b)) Q E s := by
  have hT : s.TypeIs (.ref l) "list" := ⟨_, hl, rfl⟩
  have hT2 : s.TypeIs (.ref b) "list" := ⟨_, hb, rfl⟩
  unfold inplaceOp
  refine wpAny_holding ?_
  refine wpAny_bind (wpAny_typeOf hT (wpAny_bind (wpAny_of_eq iadd_fills ?_)))
  show wpAny _ A (if false = true then _ else _) Q E s
  rw [if_neg Bool.false_ne_true]
  refine wpAny_bind (wpAny_binaryOp1_none (nm := "add") hT hT2 noFill_list_add ?_)
  refine wpAny_bind (wpAny_of_eq iadd_seq ?_)
  refine wpAny_bind (wpAny_rule ?_)
  exact call_meets F.slot_list_iadd hT F.entry_list_iadd (F.args_list_iadd_2 _ _) (AutoSeq1.list___iadd___list_list_0 l items n b items2 n2 (extend_door hsz) (Nat.le_trans (Nat.le_add_right _ _) hsz) (Nat.le_succ_of_le hsz)) ⟨hl, hb, h⟩
theorem list_setAt {prog : Program} {w : PySem.World} {A : Around} {E : Value → Shared → Prop} {s : Shared} {l : Addr} {items : Array Value} {n : Nat} {k : Int} {t : Tok} {v : Value} {Q : Unit → Shared → Prop} (ho : IsL s.heap l items n) (h0 : 0 ≤ k) (hfit : k < 2 ^ 63) (hn : k < items.size)
    (hQ : Q () { s with heap := s.heap.update l (Obj.mapSeq (·.setIfInBounds k.toNat v)) }) : wpAny (model prog w) A (setItem (.ref l) (.int k t) v) Q E s := PySem.W.ki_setAt ho h0 hfit hn hQ
theorem setItem_whole {prog : Program} {w : PySem.World} {A : Around} {E : Value → Shared → Prop} {Q : Unit → Shared → Prop} {s : Shared} {l sl b : Addr} {items new : Array Value} {n n2 : Nat} (hl : IsL s.heap l items n) (hb : IsL s.heap b new n2)
    (hs : s.heap.IsSliceOf sl .none .none .none) (hne : l ≠ b) (h1 : items.size + new.size ≤ sizeLine)
    (h : Q () { s with heap := s.heap.update l (Obj.mapSeq fun xs => xs.extract 0 0 ++ new ++ xs.extract items.size xs.size) }) : wpAny (model prog w) A (setItem (.ref l) (.ref sl) (.ref b)) Q E s := by
  obtain ⟨os, hos, hcs, hds⟩ := id hs
  have hTs : s.TypeIs (.ref sl) "slice" := ⟨os, hos, hcs⟩
  have hT : s.TypeIs (.ref l) "list" := ⟨_, hl, rfl⟩
  have hTb : s.TypeIs (.ref b) "list" := ⟨_, hb, rfl⟩
  unfold setItem
  try with_reducible refine wpAny_holding ?_
  first | refine wpAny_bind (wpAny_pure ?_) | skip
  refine wpAny_bind (wpAny_sequenceKey hT (by decide) ?_)
  refine wpAny_bind (wpAny_callSpecial?_slot (name := Str.ofString "__setitem__") hT slot_list_setitem
    (wpAny_call_entry slot_list_setitem hT entry_list_setitem ?_ (args_list_setitem _ _ _)))
  show wpAny _ _ (Builtin.List.listSubscript? (.ref sl) >>= _) _ _ s
  refine wpAny_bind ?_
  unfold Builtin.List.listSubscript?
  refine wpAny_bind (wpAny_specialOf hTs slice_no_index ?_)
  simp only [Option.isNone_none, if_true]
  refine wpAny_pure ?_
  show wpAny _ _ (typeOf (.ref sl) >>= _) _ _ s
  refine wpAny_bind (wpAny_typeOf hTs ?_)
  rw [if_neg (by decide)]
  rw [listSliceParts_eq]
  refine wpAny_bind (wpAny_bind (wpAny_field hos hds (x := .none) rfl (wpAny_bind (wpAny_listPart .none ?_))))
  rw [if_neg (by decide)]
  refine wpAny_bind (wpAny_field hos hds (x := .none) rfl (wpAny_bind (wpAny_listPart .none ?_)))
  refine wpAny_bind (wpAny_field hos hds (x := .none) rfl (wpAny_bind (wpAny_listPart .none (wpAny_pure ?_))))
  have f2 : Builtin.List.listSameRef (.ref l) (.ref b) = false := beq_false_of_ne hne
  rw [f2, if_neg Bool.false_ne_true]
  refine wpAny_bind (m := Builtin.List.listAllItems (.ref b) _) ?_
  unfold Builtin.List.listAllItems
  refine wpAny_bind (wpAny_typeOf hTb ?_)
  rw [if_pos (by decide)]
  unfold Builtin.List.listItems
  refine wpAny_bind (wpAny_seqItems hb rfl (wpAny_pure ?_))
  refine wpAny_bind (wpAny_bind (wpAny_seqItems hl rfl (wpAny_pure ?_)))
  refine wpAny_bind (wpAny_of_eq (sliceIndices_raw none none none items.size (by simp)) ?_)
  have f4 : Builtin.List.listTooLong (items.size + new.size) = false := decide_eq_false (by omega)
  simp only [sliceBounds, Option.getD_none, beq_self_eq_true, if_true]
  refine wpAny_bind (wpAny_rule ?_)
  rw [f4, if_neg Bool.false_ne_true]
  simp only [show (1 : Int) > 0 from by decide, if_true, Int.toNat_zero, show (max (0 : Int) (items.size : Int)).toNat = items.size from by omega]
  refine wpAny_bind (m := Builtin.List.listUpdate (.ref l) _) ?_
  have hz' : (items.extract 0 0 ++ new ++ items.extract items.size items.size).size ≤ sizeLine + 1 := by simp; omega
  refine wpAny_updateSeq hl rfl ?_ (by omega) hz'
  refine wpAny_bind (wpAny_letGo (wpAny_pure ⟨.none, rfl, wpAny_pure h⟩))
section
variable {B : Base} {n : Nat} {W : Addr → Prop} {ρ : List Addr} {cs cs' : Cells} {s : Shared} {A : Around} {E : Value → Shared → Prop}
theorem belows_set {k : Nat} {v : AV} (hv : below k v = true) {xs : List AV} : ∀ (j : Nat), belows k xs = true → belows k (xs.set j v) = true := by
  induction xs with
  | nil => exact fun _ _ => rfl
  | cons y ys ih =>
    intro j h
    have h := Bool.and_eq_true_iff.mp h
    cases j with
    | zero => exact Bool.and_eq_true_iff.mpr ⟨hv, h.2⟩
    | succ j => exact Bool.and_eq_true_iff.mpr ⟨h.1, ih j h.2⟩
theorem all_dput {k : Nat} {key : Tx} {v : AV} (hv : below k v = true) {es : List (Tx × AV)} (h : (es.all fun p => below k p.2) = true) : ((dput key v es).all fun p => below k p.2) = true := by
  rw [List.all_eq_true] at h ⊢
  intro p hp
  unfold dput at hp
  split at hp
  · obtain ⟨q, hq, e⟩ := List.mem_map.mp hp
    rw [← e]
    split
    · exact hv
    · exact h q hq
  · rcases List.mem_append.mp hp with hp | hp
    · exact h p hp
    · rw [List.mem_singleton.mp hp]; exact hv
theorem kvs_len {h : Heap} {es : List (Tx × AV)} {kvs : List (Str × Value)} (r : KVs B h W ρ es kvs) : kvs.length = es.length := by
  induction r with
  | nil => rfl
  | cons _ _ ih => exact congrArg (· + 1) ih
theorem str_inj {a b : Tx} (h : (⟨a.toArray⟩ : Str) = ⟨b.toArray⟩) : a = b := congrArg (fun z : Str => z.cps.toList) h
theorem str_iff {a b : Tx} : ((⟨a.toArray⟩ : Str) = ⟨b.toArray⟩) = (a = b) := propext ⟨str_inj, fun h => h ▸ rfl⟩
theorem kvs_stored {h : Heap} {key : Tx} {x : AV} {v : Value} (rv : VRel B h W ρ x v) {es : List (Tx × AV)} {kvs : List (Str × Value)} (r : KVs B h W ρ es kvs) : KVs B h W ρ (dput key x es) (stored kvs ⟨key.toArray⟩ v) := by
  have hany : (kvs.any fun kv => decide (kv.1 = ⟨key.toArray⟩)) = es.any fun kv => decide (kv.1 = key) := by
    clear rv
    induction r with
    | nil => rfl
    | cons _ _ ih => rw [List.any_cons, List.any_cons, ih, decide_eq_decide.mpr (Iff.of_eq str_iff)]
  have hA : KVs B h W ρ (es.map fun kv => if kv.1 = key then (kv.1, x) else kv) (kvs.map fun kv => if kv.1 = ⟨key.toArray⟩ then (kv.1, v) else kv) := by
    clear hany
    induction r with
    | nil => exact .nil
    | @cons k _ _ _ _ r _ ih =>
      rw [List.map_cons, List.map_cons]
      by_cases hk : k = key
      · rw [if_pos hk, if_pos (str_iff.mpr hk)]; exact .cons rv ih
      · rw [if_neg hk, if_neg fun z => hk (str_inj z)]; exact .cons r ih
  have hB : KVs B h W ρ (es ++ [(key, x)]) (kvs ++ [(⟨key.toArray⟩, v)]) := by
    clear hany hA
    induction r with
    | nil => exact .cons rv .nil
    | cons r _ ih => exact .cons r ih
  unfold dput stored
  rw [hany]
  split
  · exact hA
  · exact hB
theorem setIdx_sound (o : Ok B W ρ cs s) {x i z : AV} {v u y : Value} (p : VRel B s.heap W ρ x v) (q : VRel B s.heap W ρ i u) (r : VRel B s.heap W ρ z y) (e : setIdx n x i z cs = some cs') {Q : Unit → Shared → Prop} (hQ : PostU B n W ρ cs s cs' Q) :
    wpAny (model B.prog B.w) A (setItem v u y) Q E s := by
  obtain ⟨j, hx, e⟩ := bind_eq e
  obtain ⟨a, hv, g⟩ := p.ofRef hx
  rw [hv]
  rcases orElse_eq e with ⟨k, hi, e⟩ | e
  · obtain ⟨xs, hc, e⟩ := bind_eq e
    obtain ⟨⟨hp, h0, h1⟩, e⟩ := if_eq e
    obtain ⟨vs, ⟨m, l⟩, bd, rr⟩ := o.mem.listAt hc g
    obtain ⟨t, hu⟩ := q.ofInt hi
    rw [hu]
    refine list_setAt l h0 (Int.lt_trans h1 (lim_63 bd)) (by rw [List.size_toArray, ← rr.length]; exact h1) ?_
    have l2 := IsL.update l (fun xs => xs.setIfInBounds k.toNat y)
    rw [List.setIfInBounds_toArray] at l2
    rw [← Option.some.inj e] at hQ
    exact hQ _ _ _ (turn_list (tk := s.toks) o g hc (rr.set _ r) (by rw [List.length_set]; exact bd) ((put_low hp).imp id fun h b hb => belows_set (below_mono (Nat.zero_le _) h) _ hb) ⟨_, l2⟩ (Heap.SameBut.update ..))
  · obtain ⟨k, hi, e⟩ := bind_eq e
    obtain ⟨es, hc, e⟩ := bind_eq e
    obtain ⟨⟨hp, h1⟩, e⟩ := if_eq e
    obtain ⟨kvs, l, rr⟩ := o.mem.dictAt hc g
    obtain ⟨t, hu, _⟩ := q.ofStr hi
    rw [hu]
    rw [← Option.some.inj e] at hQ
    refine wpAny_setItem_pairs (strKind_is B.prog B.w _ _) l (fun h' l' hs => ?_) (by rw [kvs_len rr]; exact lim_size (Nat.le_of_lt h1))
    have wa := (o.mem.own a (List.mem_of_getElem? g)).1
    refine hQ _ _ _ (o.setCell g hs ⟨_, l', (kvs_stored r rr).mono (fun b ob e w => (hs.2 b fun z => w (z ▸ wa)).trans e) (fun _ _ w => w) fun _ _ e => e⟩ ((put_low hp).imp id fun h b old ho hold => ?_))
    rw [← Option.some.inj ((dictAt_eq hc).symm.trans ho)] at hold
    exact all_dput (below_mono (Nat.zero_le _) h) hold
theorem extendv_sound (o : Ok B W ρ cs s) {x z : AV} {v y : Value} (p : VRel B s.heap W ρ x v) (r : VRel B s.heap W ρ z y) (e : extendv n x z cs = some cs') {Q : Value → Shared → Prop} (hQ : ∀ W' ρ' s', After B n Non W ρ cs s W' ρ' cs' s' → Q v s') :
    wpAny (model B.prog B.w) A (inplaceOp .Add v y) Q E s := by
  obtain ⟨i, hx, e⟩ := bind_eq e
  obtain ⟨xs, hc, e⟩ := bind_eq e
  obtain ⟨ys, hy, e⟩ := bind_eq e
  obtain ⟨hg, e⟩ := if_eq e
  obtain ⟨h1, h2⟩ := Bool.and_eq_true_iff.mp hg
  have h2 := of_decide_eq_true h2
  obtain ⟨a, hv, g⟩ := p.ofRef hx
  obtain ⟨b, us, hu, ⟨m', l'⟩, bd', r'⟩ := o.mem.listOf r hy
  obtain ⟨vs, ⟨m, l⟩, bd, rr⟩ := o.mem.listAt hc g
  rw [← Option.some.inj e, hv] at hQ
  rw [hv, hu]
  refine iadd_list l l' (by rw [List.size_toArray, List.size_toArray, ← rr.length, ← r'.length]; exact lim_size h2) ?_
  have l2 := IsL.update l (fun xs => xs ++ us.toArray)
  rw [List.append_toArray] at l2
  exact hQ _ _ _ (turn_list (tk := s.toks) o g hc (rr.append r') (by rw [List.length_append]; exact h2) ((Bool.or_eq_true_iff.mp h1).imp of_decide_eq_true fun h b hb => by rw [belows_append, hb, belows_mono (Nat.zero_le _) h]; rfl) ⟨_, l2⟩ (Heap.SameBut.update ..))
end
end Ev
namespace Ev
open PySem PySem.W PyProof.Rows PySem.SeqAt
noncomputable def GlobOk (B : Base) (p : Tx × AV) : Prop := ∃ v, (∀ h W ρ, VRel B h W ρ p.2 v) ∧ (B.mg ⟨p.1.toArray⟩ = some v ∨ (B.mg ⟨p.1.toArray⟩ = none ∧ B.mb ⟨p.1.toArray⟩ = some v))
structure Stat (B : Base) : Prop where
  sysm : sysModules < B.h₀.objs.size
  g : B.h₀.Ns mainGlobals B.mg
  b : B.h₀.Ns builtinsNs B.mb
  lim : B.h₀.NoLimit
  k : B.K.In B.h₀
structure EnvOk (B : Base) (cx : Cx) (env : Env) (lay : List Loc) : Prop where
  kind : env.scope.kind = .function
  names : cx.kinds = env.scope.names
  globals : env.globals = mainGlobals
  builtins : env.builtins = builtinsNs
  globs : ∀ p ∈ cx.globs, GlobOk B p
  loc : ∀ (x : Str) (i : Nat), kindOf cx x = some .local → cx.slots.lookup (tx x) = some i → lay[i]? = some (.ns env.locals x)
  cel : ∀ (x : Str) (i : Nat), (kindOf cx x = some .cell ∨ kindOf cx x = some .free) → cx.slots.lookup (tx x) = some i → ∃ c, env.cells.lookup x = some c ∧ lay[i]? = some (.cel c)
theorem str_tx (x : Str) : (⟨(tx x).toArray⟩ : Str) = x := rfl
theorem tx_of {x : Str} {t : Tx} (h : tx x = t) : x = ⟨t.toArray⟩ := h ▸ rfl
section
variable {B : Base} {cx : Cx} {env : Env} {lay : List Loc} {fr : Fr} {n : Nat} {W : Addr → Prop} {ρ : List Addr} {cs cs' : Cells} {s : Shared} {A : Around} {E : Value → Shared → Prop} {Q : Value → Shared → Prop} {M : Model}
theorem Mem.ns {h : Heap} {a : Addr} {m : Str → Option Value} (mm : Mem B W ρ cs h) (x : B.h₀.Ns a m) : h.Ns a m := x.at' fun o e => (mm.base a o e).1
theorem Frm.at (F : Frm B lay fr W ρ s.heap) {i : Nat} {l : Loc} {v : AV} (hl : lay[i]? = some l) (hf : (fr[i]?).join = some v) : LocRel B s.heap W ρ (some v) l := F.rel i _ _ hl (Option.join_eq_some_iff.mp hf)
theorem load_sound (X : EnvOk B cx env lay) (F : Frm B lay fr W ρ s.heap) {x : Str} {i : Nat} {v : AV} (hv : isVar (kindOf cx x) = true) (hc : kindOf cx x = some .free → tx x ≠ classdictTx) (hi : cx.slots.lookup (tx x) = some i) (hf : (fr[i]?).join = some v) (hQ : ∀ u, VRel B s.heap W ρ v u → Q u s) : wpAny M A (loadName env x) Q E s := by
  have hk : env.kindOf x = kindOf cx x := by unfold Env.kindOf kindOf; rw [X.names]
  cases h : kindOf cx x with
  | none => rw [h] at hv; cases hv
  | some k =>
    rw [h] at hv hk
    cases k with
    | «local» =>
      obtain ⟨m, hn, y, hy, r⟩ := F.at (X.loc x i h hi) hf
      exact wpAny_loadName_local X.kind hk hn hy (hQ _ r)
    | cell =>
      obtain ⟨c, hc, hl⟩ := X.cel x i (.inl h) hi
      obtain ⟨y, hn, z, hz, r⟩ := F.at hl hf
      exact wpAny_loadName_cell X.kind hk hc (hz ▸ hn) (hQ _ r)
    | free =>
      obtain ⟨c, hcc, hl⟩ := X.cel x i (.inr h) hi
      obtain ⟨y, hn, z, hz, r⟩ := F.at hl hf
      exact wpAny_loadName_free X.kind hk hcc (hz ▸ hn) (hQ _ r) (beq_false_of_ne fun hx => hc h (by rw [hx]; decide +kernel))
    | _ => cases hv
theorem nameV_lit {cx : Cx} {x : Str} {v : AV} (e : nameV cx x = .lit v) : (tx x = [95, 95, 100, 101, 98, 117, 103, 95, 95] ∧ v = .bool true) ∨ (tx x ≠ [95, 95, 100, 101, 98, 117, 103, 95, 95] ∧ kindOf cx x = some .globalImplicit ∧ cx.globs.lookup (tx x) = some v) := by
  unfold nameV at e
  by_cases hd : tx x = [95, 95, 100, 101, 98, 117, 103, 95, 95]
  · rw [if_pos hd] at e; exact .inl ⟨hd, (NV.lit.inj e).symm⟩
  · rw [if_neg hd] at e
    by_cases hg : kindOf cx x = some .globalImplicit
    · rw [if_pos hg] at e
      cases hl : cx.globs.lookup (tx x) with
      | none => rw [hl] at e; cases e
      | some u => rw [hl] at e; exact .inr ⟨hd, hg, by rw [NV.lit.inj e]⟩
    · rw [if_neg hg] at e
      split at e
      · cases hl : cx.slots.lookup (tx x) <;> rw [hl] at e <;> cases e
      · cases e
theorem nameV_var {cx : Cx} {x : Str} {i : Nat} (e : nameV cx x = .var i) : tx x ≠ [95, 95, 100, 101, 98, 117, 103, 95, 95] ∧ isVar (kindOf cx x) = true ∧ tx x ≠ classdictTx ∧ cx.slots.lookup (tx x) = some i := by
  unfold nameV at e
  by_cases hd : tx x = [95, 95, 100, 101, 98, 117, 103, 95, 95]
  · rw [if_pos hd] at e; cases e
  · rw [if_neg hd] at e
    by_cases hg : kindOf cx x = some .globalImplicit
    · rw [if_pos hg] at e
      cases hl : cx.globs.lookup (tx x) <;> rw [hl] at e <;> cases e
    · rw [if_neg hg] at e
      by_cases hv : (isVar (kindOf cx x) && tx x != classdictTx) = true
      · rw [if_pos hv] at e
        have hv := Bool.and_eq_true_iff.mp hv
        cases hl : cx.slots.lookup (tx x) with
        | none => rw [hl] at e; cases e
        | some u => rw [hl] at e; exact ⟨hd, hv.1, bne_iff_ne.mp hv.2, by rw [NV.var.inj e]⟩
      · rw [if_neg hv] at e; cases e
theorem debug_ne {x : Str} (hd : tx x ≠ [95, 95, 100, 101, 98, 117, 103, 95, 95]) : (x == ("__debug__" : Str)) = false := beq_false_of_ne fun h => hd (by rw [h]; decide +kernel)
theorem name_sound (S : Stat B) (o : Ok B W ρ cs s) (X : EnvOk B cx env lay) (F : Frm B lay fr W ρ s.heap) {x : Str} {pos : Pos} {Wd : Wd} {v : AV} (e : eName (nameV cx x) Wd n fr cs = some (v, cs')) (hQ : PostV B n W ρ cs s cs' v Q) :
    wpAny M A (eval (.Name x pos) env) Q E s := by
  cases hn : nameV cx x with
  | no => rw [hn] at e; cases e
  | var i =>
    rw [hn] at e
    obtain ⟨u, hu, e⟩ := mapS e
    obtain ⟨h1, h2, h3, h4⟩ := nameV_var hn
    exact wpAny_Name (load_sound X F h2 (fun _ => h3) h4 hu fun w r => hQ.to e _ _ _ _ (After.refl o) r) (debug_ne h1)
  | lit u =>
    rw [hn] at e
    have hQ := hQ.to e
    rcases nameV_lit hn with ⟨hd, hv⟩ | ⟨hd, hg, hl⟩
    · have hx : x = ("__debug__" : Str) := by rw [tx_of hd]; decide +kernel
      rw [hv] at hQ
      rw [hx]
      show wpAny M A (do standAt pos; if (("__debug__" : Str) == ("__debug__" : Str)) = true then debugConstant else loadName env "__debug__") Q E s
      refine wpAny_bind (wpAny_standAt ?_)
      rw [if_pos (beq_self_eq_true _)]
      exact wpAny_bind (wpAny_rule (wpAny_pure (hQ _ _ _ _ (After.refl o) (.bool _))))
    · refine wpAny_Name ?_ (debug_ne hd)
      obtain ⟨vv, hr, hm⟩ := X.globs _ (lookup_mem hl)
      rw [str_tx] at hm
      have hq := hQ _ _ _ _ (After.refl o) (hr s.heap W ρ)
      unfold loadName
      have hk : env.kindOf x = kindOf cx x := by unfold Env.kindOf kindOf; rw [X.names]
      simp only [Env.blockKind, X.kind, hk.trans hg, ScopeKind.isAnnotationScope, Bool.false_and, Bool.false_eq_true, if_false]
      rcases hm with hm | ⟨hm, hm'⟩
      · exact Calls.loadGlobal_global (X.globals ▸ o.mem.ns S.g) hm hq
      · exact Calls.loadGlobal_builtin (X.globals ▸ o.mem.ns S.g) hm (X.builtins ▸ o.mem.ns S.b) hm' hq
noncomputable def LocPut (h h' : Heap) (v : Value) : Loc → Prop
  | .ns L y => ∀ m, h.Ns L m → h'.Ns L (fun z => if z = y then some v else m z)
  | .cel c => h'.IsCell c (some v)
theorem Frm.turn {h h' : Heap} {i : Nat} {l : Loc} {x : AV} {v : Value} (F : Frm B lay fr W ρ h) (hl : lay[i]? = some l) (hs : Heap.SameBut l.addr h h') (hv : LocPut h h' v l)
    (rv : VRel B h W ρ x v) : Frm B lay (fr.set i (some x)) W ρ h' := by
  have hlm : l ∈ lay := List.mem_of_getElem? hl
  have hk : ∀ a o, h.get? a = some o → ¬ W a → h'.get? a = some o := fun a o e w => (hs.2 a fun z => w (z ▸ (F.own l hlm).1)).trans e
  have mono : ∀ {x : AV} {v : Value}, VRel B h W ρ x v → VRel B h' W ρ x v := fun r => r.mono hk (fun _ _ w => w) fun _ _ e => e
  refine ⟨by rw [List.length_set]; exact F.len, fun j l' x' hj hx' => ?_, F.own, F.apart⟩
  rw [List.getElem?_set] at hx'
  by_cases hij : i = j
  · subst hij
    rw [if_pos rfl] at hx'
    split at hx'
    · cases hx'
      rw [hl] at hj; cases hj
      cases l with
      | ns L y =>
        obtain ⟨z, hz, r⟩ := F.relAt hl
        obtain ⟨m, hn, _⟩ := r
        exact ⟨_, hv m hn, v, by simp, mono rv⟩
      | cel c => exact ⟨some v, hv, v, rfl, mono rv⟩
    · cases hx'
  · rw [if_neg hij] at hx'
    have r := F.rel j l' x' hj hx'
    have ap := F.apart i j l l' hl hj hij
    have optm : ∀ {y : Option Value}, OptRel B h W ρ x' y → OptRel B h' W ρ x' y := fun r => r.mono hk (fun _ _ w => w) fun _ _ e => e
    cases l' with
    | ns L' y' =>
      obtain ⟨m, hn, ro⟩ := r
      cases l with
      | ns L y =>
        by_cases hL : L = L'
        · subst hL
          refine ⟨_, hv m hn, ?_⟩
          have : y' ≠ y := fun z => ap rfl z.symm
          simp only [if_neg this]; exact optm ro
        · exact ⟨m, hn.sameBut hs fun z => hL z.symm, optm ro⟩
      | cel c => exact ⟨m, hn.sameBut hs ap, optm ro⟩
    | cel c' =>
      obtain ⟨y, hn, ro⟩ := r
      refine ⟨y, hn.sameBut hs ?_, optm ro⟩
      cases l with
      | ns L y => exact fun z => ap z.symm
      | cel c => exact fun z => ap z.symm
noncomputable def locX (lay : List Loc) (i : Nat) : Addr → Prop := fun a => ∃ l, lay[i]? = some l ∧ l.addr = a
theorem store_sound (o : Ok B W ρ cs s) (X : EnvOk B cx env lay) (F : Frm B lay fr W ρ s.heap) {x : Str} {i : Nat} (hi : trSlot cx x = some i) {z : AV} {v : Value} (p : VRel B s.heap W ρ z v) {Q : Unit → Shared → Prop}
    (hQ : ∀ s', After B n (locX lay i) W ρ cs s W ρ cs s' → Frm B lay (fr.set i (some z)) W ρ s'.heap → i < fr.length → Q () s') : wpAny M A (storeName env x v) Q E s := by
  have hk : env.kindOf x = kindOf cx x := by unfold Env.kindOf kindOf; rw [X.names]
  have fin : ∀ (l : Loc) (h' : Heap) (tk : Nat), lay[i]? = some l → Heap.SameBut l.addr s.heap h' → LocPut s.heap h' v l → Q () { s with heap := h', toks := tk } := by
    intro l h' tk hl hs hv
    have hlm : l ∈ lay := List.mem_of_getElem? hl
    have ow := F.own l hlm
    refine hQ _ ((After.refl o).other (fun a => a = l.addr) (Nat.le_of_eq hs.1.symm) (fun a ob e d => (hs.2 a d).trans e) (fun a d _ => d ▸ ow.1) (fun a d _ => ⟨l, hl, d.symm⟩) (fun a m d => ow.2.1 (d ▸ m)) (fun a t d => absurd (o.mem.tabLt t) (Nat.not_lt.mpr (d ▸ ow.2.2))) (fun _ _ => Iff.rfl) fun a w => hs.1 ▸ o.mem.wlt a w)
      (F.turn hl hs hv p) (F.len ▸ (List.getElem?_eq_some_iff.mp hl).1)
  unfold trSlot at hi
  split at hi
  · rename_i h
    rcases h with h | h
    · have hl := X.loc x i h hi
      obtain ⟨y, _, m, hn, _⟩ := F.relAt hl
      refine wpAny_storeName_local (hk.trans h) hn (fun h' hn' hs => fin _ h' _ hl hs fun m' hm' => ?_) (by rw [X.kind]; rfl)
      have : m' = m := by rw [hm'.eq_nsMap, hn.eq_nsMap]
      subst this; exact hn'
    · obtain ⟨c, hc, hl⟩ := X.cel x i (.inl h) hi
      obtain ⟨y, _, u, hn, _⟩ := F.relAt hl
      exact wpAny_storeName_cell X.kind (hk.trans h) hc hn fun h' hn' hs => fin _ h' s.toks hl hs hn'
  · cases hi
end
end Ev
namespace Ev
open PySem PySem.W PyProof.Rows PySem.SeqAt
inductive ISt (B : Base) (h : Heap) (W : Addr → Prop) (ρ : List Addr) (I : Addr) : It → Nat → List Addr → Prop
  | list {a : Addr} {xs : List AV} {vs : List Value} {k : Nat} (it : h.IsListIter I a k) (l : h.PlainList a vs.toArray) (w : ¬ W a) (r : VRels B h W ρ xs vs) : ISt B h W ρ I (.items xs) k [I]
  | cell {i : Nat} {a : Addr} {k : Nat} (it : h.IsListIter I a k) (g : ρ[i]? = some a) : ISt B h W ρ I (.cell i) k [I]
  | tuple {a : Addr} {xs : List AV} {vs : List Value} {k : Nat} (it : h.IsTupleIter I a k) (l : PTup h a vs.toArray) (w : ¬ W a) (r : VRels B h W ρ xs vs) : ISt B h W ρ I (.items xs) k [I]
  | str {z : Tx} {t : Tok} {k : Nat} (it : h.IsStrIter I "str_ascii_iterator" ⟨z.toArray⟩ t k) : ISt B h W ρ I (.items (z.map fun c => .str [c])) k [I]
  | range {a c : Int} {n k : Nat} (it : IsRangeIter h I (a + (k : Nat) * c) ((n : Int) - (k : Nat)) c) (hk : k ≤ n) : ISt B h W ρ I (.items (rangeL a c n)) k [I]
structure IterAt (B : Base) (h : Heap) (W : Addr → Prop) (ρ : List Addr) (I : Addr) (it : It) (k : Nat) (pr : List Addr) : Prop where
  st : ISt B h W ρ I it k pr
  priv : ∀ a ∈ pr, W a ∧ a ∉ ρ ∧ B.h₀.objs.size ≤ a
noncomputable def itemAt (cs : Cells) : It → Nat → Option (Option AV)
  | .items xs, k => some xs[k]?
  | .cell i, k => (listAt cs i).map fun xs => xs[k]?
theorem VRels.getNone {B : Base} {h : Heap} {W : Addr → Prop} {ρ : List Addr} {xs : List AV} {vs : List Value} {k : Nat} (r : VRels B h W ρ xs vs) (e : xs[k]? = none) : vs[k]? = none := List.getElem?_eq_none (r.length ▸ List.getElem?_eq_none_iff.mp e)
theorem rangeL_get (a c : Int) : ∀ (n k : Nat), k < n → (rangeL a c n)[k]? = some (.int (a + (k : Nat) * c))
  | 0, _, h => absurd h (Nat.not_lt_zero _)
  | n + 1, 0, _ => by simp [rangeL]
  | n + 1, k + 1, h => by
    simp only [rangeL, List.getElem?_cons_succ]
    rw [rangeL_get (a + c) c n k (Nat.lt_of_succ_lt_succ h)]
    congr 2
    push_cast
    rw [Int.add_mul, Int.one_mul]; omega
theorem rangeL_len (a c : Int) : ∀ n : Nat, (rangeL a c n).length = n
  | 0 => rfl
  | n + 1 => by simp [rangeL, rangeL_len (a + c) c n]
section
variable {B : Base} {n : Nat} {X W W' : Addr → Prop} {ρ ρ' : List Addr} {cs cs' : Cells} {s : Shared} {A : Around} {E : Value → Shared → Prop} {h h' : Heap} {I : Addr} {it : It} {k : Nat} {pr : List Addr}
theorem ISt.mono (st : ISt B h W ρ I it k pr) (hpr : ∀ a ∈ pr, h'.get? a = h.get? a) (hk : ∀ a o, h.get? a = some o → ¬ W a → h'.get? a = some o) (hW : ∀ a, a < h.objs.size → W' a → W a) (hρ : ∀ (i : Nat) (a : Addr), ρ[i]? = some a → ρ'[i]? = some a) :
    ISt B h' W' ρ' I it k pr := by
  cases st with
  | list it l w r =>
    obtain ⟨m, l⟩ := l
    exact .list (by unfold Heap.IsListIter; rw [hpr I (by simp)]; exact it) ⟨m, hk _ _ l w⟩ (fun z => w (hW _ (Heap.lt_size l) z)) (r.mono hk hW hρ)
  | cell it g => exact .cell (by unfold Heap.IsListIter; rw [hpr I (by simp)]; exact it) (hρ _ _ g)
  | tuple it l w r =>
    obtain ⟨m, l⟩ := l
    exact .tuple (by unfold Heap.IsTupleIter; rw [hpr I (by simp)]; exact it) ⟨m, hk _ _ l w⟩ (fun z => w (hW _ (Heap.lt_size l) z)) (r.mono hk hW hρ)
  | str it => exact .str (by unfold Heap.IsStrIter; rw [hpr I (by simp)]; exact it)
  | range it hkn => exact .range ((hpr I (by simp)).trans it) hkn
theorem ISt.priv_some (st : ISt B h W ρ I it k pr) : ∀ a ∈ pr, ∃ o, h.get? a = some o := by
  cases st with
  | list it => intro a ha; simp at ha; subst ha; obtain ⟨o, ho, _⟩ := it; exact ⟨o, ho⟩
  | cell it => intro a ha; simp at ha; subst ha; obtain ⟨o, ho, _⟩ := it; exact ⟨o, ho⟩
  | tuple it => intro a ha; simp at ha; subst ha; obtain ⟨o, ho, _⟩ := it; exact ⟨o, ho⟩
  | str it => intro a ha; simp at ha; subst ha; obtain ⟨o, ho, _⟩ := it; exact ⟨o, ho⟩
  | range it => intro a ha; simp at ha; subst ha; exact ⟨_, it⟩
theorem IterAt.step (a : IterAt B h W ρ I it k pr) (m : Mem B W ρ cs h) (st : Step B X ρ W h ρ' W' h') (hX : ∀ x ∈ pr, ¬ X x) (hXW : ∀ x, X x → W x) : IterAt B h' W' ρ' I it k pr := by
  have lt : ∀ x ∈ pr, x < h.objs.size := fun x hx => m.wlt x (a.priv x hx).1
  refine ⟨a.st.mono (fun x hx => ?_) (st.keptW m hXW) (fun x l w => (st.wiff x l).mp w) st.pre, fun x hx => ⟨(st.wiff x (lt x hx)).mpr (a.priv x hx).1, fun z => (st.fresh x z).elim (a.priv x hx).2.1 fun q => absurd (lt x hx) (Nat.not_lt.mpr q), (a.priv x hx).2.2⟩⟩
  obtain ⟨o, ho⟩ := a.st.priv_some x hx
  rw [ho]
  exact st.kept x o ho (a.priv x hx).2.1 (fun t => absurd (m.tabLt t) (Nat.not_lt.mpr (a.priv x hx).2.2)) (hX x hx)
noncomputable def simpleTgt : Expr → Bool
  | .Name .. => true
  | .Tuple .. => true
  | _ => false
noncomputable def plainIters : List String := ["list_iterator", "tuple_iterator", "str_ascii_iterator", "range_iterator"]
theorem go_plain {tgt : Expr} {v : Value} {o : Obj} {T : String} {Q : Unit → Shared → Prop} {M : Model} (ho : s.heap.get? I = some o) (hc : o.cls = .type T) (hT : T ∈ plainIters) (h : Q () s) : wpAny M A (letOwnedTupleGo tgt (.ref I) v) Q E s := by
  have hno : (["enumerate", "zip", "dict_itemiterator", "dict_reverseitemiterator", "odict_iterator", "itertools.zip_longest", "itertools.pairwise"].contains T) = false := by
    revert hT; unfold plainIters
    intro hT
    simp at hT
    rcases hT with rfl | rfl | rfl | rfl <;> decide
  unfold letOwnedTupleGo
  split
  all_goals first
    | exact wpAny_pure h
    | (cases v <;> first
        | exact wpAny_pure h
        | (refine wpAny_bind (wpAny_load ho ?_)
           split
           · rename_i n vs hcn hd
             rw [hc] at hcn; cases hcn
             rw [hno, Bool.false_and, if_neg Bool.false_ne_true]
             exact wpAny_pure h
           · exact wpAny_pure h))
theorem After.turn (o : Ok B W ρ cs s) (hp : W I ∧ I ∉ ρ ∧ B.h₀.objs.size ≤ I) {h' : Heap} {tk : Nat} (he : Heap.ExtBut I s.heap h') (hsz : s.heap.objs.size ≤ h'.objs.size) : After B n (fun a => a = I) W ρ cs s W ρ cs { s with heap := h', toks := tk } :=
  (After.refl o).other (fun a => a = I) hsz (fun a ob e d => he a ob d e) (fun a d _ => d ▸ hp.1) (fun a d _ => d) (fun a m d => hp.2.1 (d ▸ m)) (fun a t d => absurd (o.mem.tabLt t) (Nat.not_lt.mpr (d ▸ hp.2.2))) (fun _ _ => Iff.rfl) fun a w => Nat.lt_of_lt_of_le (o.mem.wlt a w) hsz
theorem next_plain (hh : A.handled = none) (o : Ok B W ρ cs s) (a : IterAt B s.heap W ρ I it k pr) {Q : Option Value → Shared → Prop} {y : Option AV} (hy : itemAt cs it k = some y) (ht : pr.length = 1)
    (hnone : y = none → ∀ s', After B n (· ∈ pr) W ρ cs s W ρ cs s' → Q none s')
    (hsome : ∀ x, y = some x → ∀ v W' s', After B n (· ∈ pr) W ρ cs s W' ρ cs s' → VRel B s'.heap W' ρ x v → IterAt B s'.heap W' ρ I it (k + 1) pr → Q (some v) s') :
    wpAny (model B.prog B.w) A (pyNext (.ref I)) Q E s := by
  obtain ⟨st, priv⟩ := a
  have pI := priv
  have one : ∀ {s' : Shared} {W'' : Addr → Prop}, After B n (fun a => a = I) W ρ cs s W'' ρ cs s' → pr = [I] → After B n (· ∈ pr) W ρ cs s W'' ρ cs s' := fun a e => a.weaken fun x _ hx => by rw [e]; simp [hx]
  cases st with
  | @list al xs vs k it l w r =>
    have pI := priv I (by simp)
    have ne : al ≠ I := fun z => w (z ▸ pI.1)
    cases hx : xs[k]? with
    | none =>
      have : y = none := by simp only [itemAt, hx, Option.some.injEq] at hy; exact hy.symm
      refine with_size (wpAny_pyNext_list_end hh it l.isList (by rw [List.getElem?_toArray]; exact r.getNone hx) fun h' he hsz => ?_)
      exact hnone this _ (one (After.turn (tk := s.toks) o pI he hsz) rfl)
    | some x =>
      have : y = some x := by simp only [itemAt, hx, Option.some.injEq] at hy; exact hy.symm
      obtain ⟨v, hv, rv⟩ := r.get hx
      refine wpAny_pyNext_list_item it l.isList (x := v) (by rw [List.getElem?_toArray]; exact hv) fun h' it' hs => ?_
      have af := After.turn (n := n) (tk := s.toks) o pI hs.extBut (Nat.le_of_eq hs.1.symm)
      have hk : ∀ a ob, s.heap.get? a = some ob → ¬ W a → h'.get? a = some ob := fun a ob e w' => hs.extBut a ob (fun z => w' (z ▸ pI.1)) e
      refine (hsome x this v W _ (one af rfl) (rv.mono hk (fun _ _ w => w) fun _ _ e => e) ⟨.list it' ?_ w (r.mono hk (fun _ _ w => w) fun _ _ e => e), priv⟩)
      obtain ⟨m, l⟩ := l
      exact ⟨m, hk _ _ l w⟩
  | @cell i al k it g =>
    have pI := priv I (by simp)
    have ne : al ≠ I := fun z => pI.2.1 (z ▸ List.mem_of_getElem? g)
    obtain ⟨xs, hc, hy⟩ := map_eq hy
    obtain ⟨vs, l, bd, r⟩ := o.mem.listAt hc g
    cases hx : xs[k]? with
    | none =>
      have : y = none := hy.symm.trans hx
      refine with_size (wpAny_pyNext_list_end hh it l.isList (by rw [List.getElem?_toArray]; exact r.getNone hx) fun h' he hsz => ?_)
      exact hnone this _ (one (After.turn (tk := s.toks) o pI he hsz) rfl)
    | some x =>
      have : y = some x := hy.symm.trans hx
      obtain ⟨v, hv, rv⟩ := r.get hx
      refine wpAny_pyNext_list_item it l.isList (x := v) (by rw [List.getElem?_toArray]; exact hv) fun h' it' hs => ?_
      have af := After.turn (n := n) (tk := s.toks) o pI hs.extBut (Nat.le_of_eq hs.1.symm)
      have hk : ∀ a ob, s.heap.get? a = some ob → ¬ W a → h'.get? a = some ob := fun a ob e w' => hs.extBut a ob (fun z => w' (z ▸ pI.1)) e
      exact (hsome x this v W _ (one af rfl) (rv.mono hk (fun _ _ w => w) fun _ _ e => e) ⟨.cell it' g, priv⟩)
  | @tuple al xs vs k it l w r =>
    have pI := priv I (by simp)
    have ne : al ≠ I := fun z => w (z ▸ pI.1)
    cases hx : xs[k]? with
    | none =>
      have : y = none := by simp only [itemAt, hx, Option.some.injEq] at hy; exact hy.symm
      refine with_size (wpAny_pyNext_tuple_end hh it l.isTuple (by rw [List.getElem?_toArray]; exact r.getNone hx) fun h' he hsz => ?_)
      exact hnone this _ (one (After.turn (tk := s.toks) o pI he hsz) rfl)
    | some x =>
      have : y = some x := by simp only [itemAt, hx, Option.some.injEq] at hy; exact hy.symm
      obtain ⟨v, hv, rv⟩ := r.get hx
      refine wpAny_pyNext_tuple_item it l.isTuple (x := v) (by rw [List.getElem?_toArray]; exact hv) fun h' it' hs => ?_
      have af := After.turn (n := n) (tk := s.toks) o pI hs.extBut (Nat.le_of_eq hs.1.symm)
      have hk : ∀ a ob, s.heap.get? a = some ob → ¬ W a → h'.get? a = some ob := fun a ob e w' => hs.extBut a ob (fun z => w' (z ▸ pI.1)) e
      refine (hsome x this v W _ (one af rfl) (rv.mono hk (fun _ _ w => w) fun _ _ e => e) ⟨.tuple it' ?_ w (r.mono hk (fun _ _ w => w) fun _ _ e => e), priv⟩)
      obtain ⟨m, l⟩ := l
      exact ⟨m, hk _ _ l w⟩
  | @str z t k it =>
    have pI := priv I (by simp)
    cases hx : z[k]? with
    | none =>
      have : y = none := by simp only [itemAt, List.getElem?_map, hx, Option.map_none, Option.some.injEq] at hy; exact hy.symm
      refine with_size (wpAny_pyNext_ascii_end hh it (by simpa using hx) fun h' he hsz => ?_)
      exact hnone this _ (one (After.turn (tk := s.toks) o pI he hsz) rfl)
    | some c =>
      have : y = some (.str [c]) := by simp only [itemAt, List.getElem?_map, hx, Option.map_some, Option.some.injEq] at hy; exact hy.symm
      refine wpAny_pyNext_ascii_item it (c := c) (by simpa using hx) fun h' it' hs => ?_
      have af := After.turn (n := n) (tk := s.toks + 1) o pI hs.extBut (Nat.le_of_eq hs.1.symm)
      exact (hsome _ this _ W _ (one af rfl) (.str [c] _ (by unfold lim; simp)) ⟨.str it', priv⟩)
  | @range ra rc rn k it hkn =>
    have pI := priv I (by simp)
    rcases Nat.lt_or_ge k rn with hlt | hge
    · have : y = some (.int (ra + (k : Nat) * rc)) := by simp only [itemAt, rangeL_get ra rc rn k hlt, Option.some.injEq] at hy; exact hy.symm
      refine wpAny_pyNext_range_item it (by omega) fun h' it' hs => ?_
      have af := After.turn (n := n) (tk := s.toks + 1) o pI hs.extBut (Nat.le_of_eq hs.1.symm)
      refine (hsome _ this _ W _ (one af rfl) (.int _ _) ⟨.range (k := k + 1) ?_ hlt, priv⟩)
      have e1 : ra + ((k + 1 : Nat) : Int) * rc = ra + (k : Int) * rc + rc := by push_cast; rw [Int.add_mul, Int.one_mul, Int.add_assoc]
      have e2 : (rn : Int) - ((k + 1 : Nat) : Int) = (rn : Int) - (k : Int) - 1 := by push_cast; omega
      rw [e1, e2]; exact it'
    · have : y = none := by
        simp only [itemAt, Option.some.injEq] at hy
        rw [← hy]; exact List.getElem?_eq_none (by rw [rangeL_len]; exact hge)
      refine with_size (wpAny_pyNext_range_end hh it (by omega) fun h' he hsz => ?_)
      exact hnone this _ (one (After.turn (tk := s.toks) o pI he hsz) rfl)
theorem ISt.plainObj (st : ISt B h W ρ I it k pr) (ht : pr.length = 1) : ∃ o T, h.get? I = some o ∧ o.cls = .type T ∧ T ∈ plainIters := by
  cases st with
  | list it => obtain ⟨o, ho, hc, _⟩ := it; exact ⟨o, _, ho, hc, by decide⟩
  | cell it => obtain ⟨o, ho, hc, _⟩ := it; exact ⟨o, _, ho, hc, by decide⟩
  | tuple it => obtain ⟨o, ho, hc, _⟩ := it; exact ⟨o, _, ho, hc, by decide⟩
  | str it => obtain ⟨o, ho, hc, _⟩ := it; exact ⟨o, _, ho, hc, by decide⟩
  | range it => exact ⟨_, _, it, rfl, by decide⟩
theorem next_sound (hh : A.handled = none) (o : Ok B W ρ cs s) (a : IterAt B s.heap W ρ I it k pr) {tgt : Expr} {Q : Option Value → Shared → Prop} {y : Option AV} (hy : itemAt cs it k = some y) (ht : pr.length = 1 ∨ ∃ es c p, tgt = .Tuple es c p)
    (hnone : y = none → ∀ s', After B n (· ∈ pr) W ρ cs s W ρ cs s' → Q none s')
    (hsome : ∀ x, y = some x → ∀ v W' s', After B n (· ∈ pr) W ρ cs s W' ρ cs s' → VRel B s'.heap W' ρ x v → IterAt B s'.heap W' ρ I it (k + 1) pr → Q (some v) s') :
    wpAny (model B.prog B.w) A (pyNext (.ref I)) (fun r s₁ => match r with
      | none => Q none s₁
      | some v => wpAny (model B.prog B.w) A (letOwnedTupleGo tgt (.ref I) v) (fun _ s₂ => Q (some v) s₂) E s₁) E s := by
  by_cases h1 : pr.length = 1
  · refine next_plain hh o a hy h1 (fun e s' af => hnone e s' af) fun x e v W' s' af r ia => ?_
    obtain ⟨ob, T, ho, hc, hT⟩ := ia.st.plainObj h1
    exact go_plain ho hc hT (hsome x e v W' s' af r ia)
  obtain ⟨es, c, p, htgt⟩ : ∃ es c p, tgt = .Tuple es c p := ht.elim (fun h => absurd h h1) id
  clear ht
  subst htgt
  obtain ⟨st, priv⟩ := a
  cases st with
  | list => exact absurd rfl h1
  | cell => exact absurd rfl h1
  | tuple => exact absurd rfl h1
  | str => exact absurd rfl h1
  | range => exact absurd rfl h1
theorem self_sound {Q : Value → Shared → Prop} (st : ISt B s.heap W ρ I it k pr) (hQ : Q (.ref I) s) : wpAny (model B.prog B.w) A (pyIter (.ref I)) Q E s := by
  cases st with
  | list it l w r => exact wpAny_pyIter_listiter it hQ
  | cell it g => exact wpAny_pyIter_listiter it hQ
  | tuple it l w r => exact wpAny_pyIter_tupleiter it hQ
  | str it => exact wpAny_pyIter_striter_ascii it hQ
  | range it hk => exact wpAny_pyIter_rangeiter it hQ
theorem iter_make (o : Ok B W ρ cs s) {x : AV} {v : Value} (p : VRel B s.heap W ρ x v) (e : itv cs x = some it) {Q : Value → Shared → Prop}
    (hQ : ∀ I W' s', s.heap.objs.size ≤ I → After B n Non W ρ cs s W' ρ cs s' → IterAt B s'.heap W' ρ I it 0 [I] → Q (.ref I) s') : wpAny (model B.prog B.w) A (pyIter v) Q E s := by
  have fresh : ∀ (ob : Obj), ob.isFreed = false → (∀ {W' : Addr → Prop}, (∀ a, a < s.heap.objs.size → W' a → W a) → ISt B (s.heap.push ob) W' ρ s.heap.objs.size it 0 [s.heap.objs.size]) → Q (.ref s.heap.objs.size) { s with heap := s.heap.push ob } := by
    intro ob hf hI
    have hW : ∀ a, a < s.heap.objs.size → (W a ∨ a = s.heap.objs.size) → W a := fun a l w => w.elim id fun q => absurd q (Nat.ne_of_lt l)
    refine hQ s.heap.objs.size (fun a => W a ∨ a = s.heap.objs.size) _ (Nat.le_refl _) ?_ ⟨hI hW, fun a ha => ?_⟩
    · exact (After.refl o).other (tk := s.toks) (fun _ => False) (by rw [Heap.size_push]; exact Nat.le_succ _) (fun a x e _ => Heap.get?_push_of_some _ e) (fun _ x => x.elim) (fun _ x => x.elim) (fun _ _ x => x) (fun _ _ x => x) (fun a l => ⟨hW a l, .inl⟩)
        fun a w => by rw [Heap.size_push]; exact w.elim (fun w => Nat.lt_succ_of_lt (o.mem.wlt a w)) fun q => q ▸ Nat.lt_succ_self _
    · simp at ha; subst ha
      exact ⟨.inr rfl, fun m => absurd (o.mem.wlt _ (o.mem.own _ m).1) (Nat.lt_irrefl _), o.mem.size⟩
  have up : ∀ {ob : Obj} {W' : Addr → Prop}, (∀ a, a < s.heap.objs.size → W' a → W a) → ∀ {xs : List AV} {vs : List Value}, VRels B s.heap W ρ xs vs → VRels B (s.heap.push ob) W' ρ xs vs := fun hW _ _ r => r.mono (fun a o e _ => Heap.get?_push_of_some _ e) hW fun _ _ e => e
  rcases orElse_eq e with ⟨z, hx, e⟩ | e
  · obtain ⟨ha, e⟩ := if_eq e
    obtain rfl := Option.some.inj e
    obtain ⟨t, hv, bd⟩ := p.ofStr hx
    rw [hv]
    exact wpAny_pyIter_ascii (by simpa [ascii] using ha) (fresh _ rfl fun hW => .str ⟨_, Heap.get?_push_size _ rfl, rfl, rfl⟩)
  rcases orElse_eq e with ⟨z, hx, e⟩ | e
  · obtain rfl := Option.some.inj e
    obtain ⟨vs, a, hv, l, bd, w, r⟩ := p.ofTup hx
    rw [hv]
    refine wpAny_pyIter_tuple l.isTuple (fresh _ rfl fun hW => ?_)
    obtain ⟨m, l⟩ := l
    exact .tuple ⟨_, Heap.get?_push_size _ rfl, rfl, rfl⟩ ⟨m, Heap.get?_push_of_some _ l⟩ (fun q => w (hW _ (Heap.lt_size l) q)) (up hW r)
  rcases orElse_eq e with ⟨z, hx, e⟩ | e
  · obtain rfl := Option.some.inj e
    obtain ⟨vs, a, hv, l, bd, w, r⟩ := p.ofLst hx
    rw [hv]
    refine wpAny_pyIter_list l.isList (fresh _ rfl fun hW => ?_)
    obtain ⟨m, l⟩ := l
    exact .list ⟨_, Heap.get?_push_size _ rfl, rfl, rfl⟩ ⟨m, Heap.get?_push_of_some _ l⟩ (fun q => w (hW _ (Heap.lt_size l) q)) (up hW r)
  · obtain ⟨i, hx, e⟩ := bind_eq e
    obtain ⟨xs, hc, e⟩ := mapS e
    obtain rfl := Option.some.inj e
    obtain ⟨a, hv, g⟩ := p.ofRef hx
    obtain ⟨vs, l, bd, r⟩ := o.mem.listAt hc g
    rw [hv]
    exact wpAny_pyIter_list l.isList (fresh _ rfl fun hW => .cell ⟨_, Heap.get?_push_size _ rfl, rfl, rfl⟩ g)
theorem range_make (o : Ok B W ρ cs s) {r : Addr} {a b c : Int} {t u v : Tok} (hr : IsRange s.heap r a b c t u v) (hsm : Builtin.Range.small a b c = true) {m : Nat} (hm : Builtin.Range.rangeSize a b c = (m : Int)) {Q : Value → Shared → Prop}
    (hQ : ∀ I W' s', s.heap.objs.size ≤ I → After B n Non W ρ cs s W' ρ cs s' → IterAt B s'.heap W' ρ I (.items (rangeL a c m)) 0 [I] → Q (.ref I) s') : wpAny (model B.prog B.w) A (pyIter (.ref r)) Q E s := by
  refine wpAny_pyIter_range hr hsm ?_
  have hW : ∀ a, a < s.heap.objs.size → (W a ∨ a = s.heap.objs.size) → W a := fun a l w => w.elim id fun q => absurd q (Nat.ne_of_lt l)
  refine hQ s.heap.objs.size (fun a => W a ∨ a = s.heap.objs.size) _ (Nat.le_refl _) ?_ ⟨.range (n := m) (k := 0) ?_ (Nat.zero_le _), fun a ha => ?_⟩
  · exact (After.refl o).other (tk := s.toks) (fun _ => False) (by rw [Heap.size_push]; exact Nat.le_succ _) (fun a x e _ => Heap.get?_push_of_some _ e) (fun _ x => x.elim) (fun _ x => x.elim) (fun _ _ x => x) (fun _ _ x => x) (fun a l => ⟨hW a l, .inl⟩)
      fun a w => by rw [Heap.size_push]; exact w.elim (fun w => Nat.lt_succ_of_lt (o.mem.wlt a w)) fun q => q ▸ Nat.lt_succ_self _
  · have := Heap.get?_push_size s.heap (o := { cls := .type "range_iterator", data := .fields #[rawInt a, rawInt (Builtin.Range.rangeSize a b c), rawInt c] }) rfl
    rw [hm] at this ⊢
    simpa using this
  · simp at ha; subst ha
    exact ⟨.inr rfl, fun m => absurd (o.mem.wlt _ (o.mem.own _ m).1) (Nat.lt_irrefl _), o.mem.size⟩
end
end Ev
namespace Ev
open PySem PySem.W PyProof.Rows PySem.SeqAt
section
variable {M : Model} {A : Around} {E : Value → Shared → Prop} {s : Shared} {env : Env}
noncomputable def KeepOk (M : Model) (A : Around) (s : Shared) (f : Value) : Prop := ∀ (Q : Keeper → Shared → Prop) (E : Value → Shared → Prop), (∀ k, Q k s) → wpAny M A (keeperOf f) Q E s
theorem KeepOk.plain {f : Value} (h : ∀ a, f ≠ .ref a) : KeepOk M A s f := fun Q E hq => by
  cases f <;> first | exact wpAny_pure (hq _) | exact absurd rfl (h _)
theorem KeepOk.func {a : Addr} {o : Obj} {fd : FuncData} (ho : s.heap.get? a = some o) (hd : o.data = .func fd) : KeepOk M A s (.ref a) := fun Q E hq => by
  unfold keeperOf
  refine wpAny_bind (wpAny_load ho ?_)
  rw [hd]; exact wpAny_pure (hq _)
theorem KeepOk.bound {a : Addr} {o : Obj} {vs : Array Value} (ho : s.heap.get? a = some o) (hd : o.data = .fields vs) (hc : o.cls = .type "builtin_function_or_method") : KeepOk M A s (.ref a) := fun Q E hq => by
  unfold keeperOf
  refine wpAny_bind (wpAny_load ho ?_)
  rw [hd]
  have h1 : (o.cls != .type "method") = true := by rw [hc]; decide
  dsimp only
  rw [if_pos h1]
  exact wpAny_pure (hq _)
theorem wpAny_operate {vs : List Value} {m : Sem Value} {Q : Value → Shared → Prop} (h : wpAny M A m Q E s) : wpAny M A (operate vs m) Q E s := fun Γ p hΓ => by rw [Sem.wp_operate]; exact h Γ p hΓ
theorem evalArgs_any {f : Value} {args : List (Bool × Sem Value)} {keywords : List (Option Str × Sem Value)} {Q : Args → Shared → Prop} (hs : args.any (·.1) = false) (hall : keywords.all (·.1.isSome) = true)
    (h : wpAny M A (spliced args) (fun vs s₁ => wpAny M A (evalAll (keywords.map (·.2))) (fun ks s₂ => Q ⟨vs, (keywords.filterMap (·.1)).zip ks⟩ s₂) E s₁) E s) : wpAny M A (evalArgs f true args keywords) Q E s := by
  cases args with
  | nil =>
    refine evalArgs_kw_nil hall ?_
    intro Γ p hΓ
    have h1 := h Γ p hΓ
    rw [show spliced [] = pure [] from rfl, Sem.wp_pure'] at h1
    exact h1 Γ p hΓ
  | cons x rest =>
    obtain ⟨b, x⟩ := x
    have : b = false := by simp at hs; simpa using hs.1
    subst this
    exact evalArgs_kw hall h
theorem callWith_gen {pos : Pos} {f : Value} {first : List Value} {args : List (Bool × Sem Value)} {keywords : List (Option Str × Sem Value)} {Q : Value → Shared → Prop} (hs : args.any (·.1) = false) (hall : keywords.all (·.1.isSome) = true)
    (h : wpAny M A (spliced args) (fun vs s₁ => wpAny M A (evalAll (keywords.map (·.2))) (fun ks s₂ => KeepOk M A s₂ f ∧ wpAny M A (call f (first ++ vs) ((keywords.filterMap (·.1)).zip ks)) Q E s₂) E s₁) E s) :
    wpAny M A (callWith pos f first args keywords) Q E s := by
  unfold callWith
  refine wpAny_bind (wpAny_holding (evalArgs_any hs hall (wpAny_mono h (fun vs s₁ h₁ => wpAny_mono h₁ (fun ks s₂ h₂ => ?_) fun _ _ x => x) fun _ _ x => x)))
  refine wpAny_bind (wpAny_standAt ?_)
  have hst : (args.any (·.1) || keywords.any (·.1.isNone)) = false := by
    rw [hs, Bool.false_or]
    rw [List.any_eq_false]
    intro x hx
    have := List.all_eq_true.mp hall x hx
    cases hx1 : x.1 with
    | none => rw [hx1] at this; cases this
    | some _ => simp
  rw [hst]
  have tail : ∀ {t : Sem Value}, wpAny M A t Q E s₂ → wpAny M A (t >>= fun r => holding [r] point >>= fun _ => pure r) Q E s₂ :=
    fun ht => wpAny_bind (wpAny_mono ht (fun r s₃ hr => wpAny_bind (wpAny_holding (wpAny_point (wpAny_pure hr)))) fun _ _ x => x)
  refine wpAny_bind (h₂.1 _ _ fun k => ?_)
  cases k
  · dsimp only
    split
    · exact tail h₂.2
    · exact tail (by unfold callMarked; exact Calls.wpAny_keep h₂.2)
  · dsimp only
    split
    · exact tail h₂.2
    · exact tail (by unfold callMarked; exact Calls.wpAny_keep h₂.2)
  · exact tail h₂.2
  · exact tail (wpAny_operate h₂.2)
end
end Ev
namespace Ev
open PySem PySem.W PyProof.Rows PySem.SeqAt
section
variable {B : Base} {cx : Cx} {env : Env} {lay : List Loc} {fr : Fr} {n : Nat} {X W W' : Addr → Prop} {ρ ρ' : List Addr} {cs cs' : Cells} {s : Shared} {A : Around} {E : Value → Shared → Prop} {I : Addr} {it : It} {k : Nat} {pr : List Addr}
theorem After.fresh {Y : Addr → Prop} {ρ₁ ρ₂ : List Addr} {W₁ W₂ : Addr → Prop} {cs₁ cs₂ : Cells} {s₁ s₂ : Shared} (a : After B n X W ρ cs s W₁ ρ₁ cs₁ s₁) (b : After B n Y W₁ ρ₁ cs₁ s₁ W₂ ρ₂ cs₂ s₂) (h : ∀ x, Y x → s.heap.objs.size ≤ x) : After B n X W ρ cs s W₂ ρ₂ cs₂ s₂ :=
  ((a.weaken (Y := fun x => X x ∨ Y x) fun _ _ => .inl).trans (b.weaken fun _ _ => .inr)).weaken fun x l y => y.elim id fun y => absurd l (Nat.not_lt.mpr (h x y))
theorem draw_sound (hh : A.handled = none) {xs : List AV} : ∀ (m k : Nat) {s : Shared} {W : Addr → Prop} {Q : List Value → Shared → Prop}, Ok B W ρ cs s → IterAt B s.heap W ρ I (.items xs) k [I] → k + m ≤ xs.length →
    (∀ us W' s', After B n (· ∈ [I]) W ρ cs s W' ρ cs s' → VRels B s'.heap W' ρ ((xs.drop k).take m) us → IterAt B s'.heap W' ρ I (.items xs) (k + m) [I] → Q us s') → wpAny (model B.prog B.w) A (draw (.ref I) m) Q E s
  | 0, k, s, W, Q, o, a, _, hQ => by
    show wpAny _ _ (pure []) Q E s
    exact wpAny_pure (hQ [] W s (After.refl o) (by simp; exact .nil) a)
  | m + 1, k, s, W, Q, o, a, hle, hQ => by
    show wpAny _ _ (pyNext (.ref I) >>= _) Q E s
    have hx : xs[k]? = some xs[k] := by simp
    refine wpAny_bind (next_plain (n := n) hh o a (y := some xs[k]) (by simp [itemAt]) rfl (fun e => nomatch e) fun x ex v W₁ s₁ af r ia => ?_)
    cases ex
    refine wpAny_bind (wpAny_holding (draw_sound hh m (k + 1) af.ok ia (by omega) fun us W₂ s₂ af₂ r₂ ia₂ => wpAny_pure ?_))
    have hXW : ∀ a ∈ [I], W₁ a := fun a ha => (ia.priv a ha).1
    refine hQ (v :: us) W₂ s₂ (af.trans af₂) ?_ (by rw [show k + (m + 1) = k + 1 + m from by omega]; exact ia₂)
    have hd : (xs.drop k).take (m + 1) = xs[k] :: (xs.drop (k + 1)).take m := by
      rw [List.drop_eq_getElem_cons (by omega), List.take_succ_cons]
    rw [hd]
    exact .cons (af₂.step.val af.ok.mem hXW r) r₂
theorem unpackItems_sound (hh : A.handled = none) (o : Ok B W ρ cs s) {x : AV} {v : Value} {xs : List AV} (p : VRel B s.heap W ρ x v) (hy : orElse x.tup? some x.lst? = some xs) {Q : List Value → Shared → Prop}
    (hQ : ∀ us W' s', After B n Non W ρ cs s W' ρ cs s' → VRels B s'.heap W' ρ xs us → Q us s') : wpAny (model B.prog B.w) A (unpackItems v xs.length none) Q E s := by
  have hx : x = .tup xs ∨ x = .lst xs := by
    rcases orElse_eq hy with ⟨z, h, e⟩ | h
    · exact .inl (Option.some.inj e ▸ tup?_eq h)
    · exact .inr (lst?_eq h)
  have hit : itv cs x = some (.items xs) := by rcases hx with rfl | rfl <;> rfl
  have hno : ∀ {R : Bool → Shared → Prop}, R false s → wpAny (model B.prog B.w) A (notIterableAtAll v) R E s := by
    intro R hR
    unfold notIterableAtAll
    rcases hx with rfl | rfl
    · obtain ⟨_, _, rfl, l, _⟩ := p.inv
      refine wpAny_bind (wpAny_specialOf l.isTuple.typeIs F.slot_tuple_iter.lookup ?_)
      exact wpAny_pure hR
    · obtain ⟨_, _, rfl, l, _⟩ := p.inv
      refine wpAny_bind (wpAny_specialOf l.isList.typeIs slot_list_iter.lookup ?_)
      exact wpAny_pure hR
  unfold unpackItems
  refine wpAny_bind (hno ?_)
  simp only [Bool.false_eq_true, if_false]
  refine wpAny_bind (wpAny_holding (iter_make (n := n) o p hit fun I W₁ s₁ fresh af₁ ia₁ => ?_))
  refine wpAny_bind (wpAny_holding (draw_sound (n := n) hh xs.length 0 af₁.ok ia₁ (by omega) fun us W₂ s₂ af₂ r₂ ia₂ => ?_))
  have hlen : us.length = xs.length := by
    have := r₂.length
    rw [List.drop_zero, List.take_length] at this; exact this.symm
  rw [if_neg (by omega)]
  refine wpAny_bind (wpAny_holding (next_plain (n := n) hh af₂.ok ia₂ (y := none) (by simp [itemAt]) rfl (fun _ s₃ af₃ => ?_) fun x ex => nomatch ex))
  simp only [Option.isSome_none, Bool.false_eq_true, if_false]
  have hXW : ∀ a ∈ [I], W₂ a := fun a ha => (ia₂.priv a ha).1
  refine wpAny_pure (hQ us W₂ s₃ (af₁.fresh ((af₂.trans af₃)) fun a ha => ?_) ?_)
  · simp at ha; subst ha; exact fresh
  · have := af₃.step.vals af₂.ok.mem hXW r₂
    rw [List.drop_zero, List.take_length] at this; exact this
end
end Ev
namespace Ev
open PySem PySem.W PyProof.Rows PySem.SeqAt
inductive KwRel (B : Base) (h : Heap) (W : Addr → Prop) (ρ : List Addr) : Option AV → List (Str × Value) → Prop
  | none : KwRel B h W ρ none []
  | some {x : AV} {v : Value} (r : VRel B h W ρ x v) : KwRel B h W ρ (some x) [("name", v)]
noncomputable def CallOk (B : Base) (cf : CF) (A : Around) : Prop := ∀ {k : Nat} {args : List AV} {kw : Option AV} {cs cs' : Cells} {z : AV} {n : Nat} {W : Addr → Prop} {ρ : List Addr} {s : Shared} {vs : List Value} {kws : List (Str × Value)} {Q E : Value → Shared → Prop},
  cf k args kw cs = some (z, cs') → n ≤ cs.length → Ok B W ρ cs s → VRels B s.heap W ρ args vs → KwRel B s.heap W ρ kw kws → PostV B n W ρ cs s cs' z Q → wpAny (model B.prog B.w) A (call (.ref (B.fnA k)) vs kws) Q E s
noncomputable def NewOk (B : Base) (new : Cells → Option (AV × Cells)) (A : Around) : Prop := ∀ {cs cs' : Cells} {z : AV} {n : Nat} {W : Addr → Prop} {ρ : List Addr} {s : Shared} {Q E : Value → Shared → Prop},
  new cs = some (z, cs') → n ≤ cs.length → Ok B W ρ cs s → PostV B n W ρ cs s cs' z Q → wpAny (model B.prog B.w) A (call (.ref B.clsA) []) Q E s
noncomputable def InstAt (B : Base) (h : Heap) (a dx : Addr) : Prop := h.get? a = some { cls := .ref B.clsA, dict := some dx, data := .plain }
noncomputable def Kept (B : Base) (h : Heap) : Prop := ∀ a o, B.h₀.get? a = some o → h.get? a = some o
theorem headers_str {x : Str} (h : tx x = headersTx) : x = headersStr := by rw [tx_of h]; decide +kernel
structure Rx (B : Base) (M0 : List (Tx × Nat)) (W : Wd) (A : Around) : Prop where
  S : Stat B
  hh : A.handled = none
  room : A.units + 16 < cLine
  fnObj : ∀ k, ∃ o fd, B.h₀.get? (B.fnA k) = some o ∧ o.data = .func fd
  call : CallOk B W.cf A
  new : NewOk B W.new A
  meth : ∀ {nm : Str} {k : Nat}, M0.lookup (tx nm) = some k → ∀ {s : Shared} {a dx : Addr} {o : Obj} {pl : Sem Bool} {R : Value × List Value → Shared → Prop} {E : Value → Shared → Prop}, Kept B s.heap → InstAt B s.heap a dx → s.heap.get? dx = some o → HObj o → nm ≠ headersStr → R (.ref (B.fnA k), [.ref a]) s →
    wpAny (model B.prog B.w) A (getMethod (.ref a) nm pl) R E s
  hdr : M0.lookup headersTx = none
  getA : ∀ {s : Shared} {a dx : Addr} {hsh : Int} {tk : Tok} {v : Value} {n : Nat} {E Q : Value → Shared → Prop}, Kept B s.heap → InstAt B s.heap a dx → s.heap.get? dx = some (hObj hsh tk v n) → handedIn v = true → (∀ t, Q v { s with toks := t }) → wpAny (model B.prog B.w) A (getAttr (.ref a) headersStr true) Q E s
  setA : ∀ {s : Shared} {a dx : Addr} {o : Obj} {v : Value} {E : Value → Shared → Prop} {Q : Unit → Shared → Prop}, Kept B s.heap → InstAt B s.heap a dx → s.heap.get? dx = some o → HObj o →
    (∀ h' tk hsh tk' n, Heap.SameBut dx s.heap h' → h'.get? dx = some (hObj hsh tk' v n) → Q () { s with heap := h', toks := tk }) → wpAny (model B.prog B.w) A (setAttr (.ref a) headersStr v) Q E s
  setI : ∀ {cs cs' : Cells} {r i v z : AV} {n : Nat} {W' : Addr → Prop} {ρ : List Addr} {s : Shared} {rv iv vv : Value} {Q : Unit → Shared → Prop} {E : Value → Shared → Prop}, isInst cs r = true → W.cf W.setN [r, i, v] none cs = some (z, cs') → n ≤ cs.length → Ok B W' ρ cs s →
    VRel B s.heap W' ρ r rv → VRel B s.heap W' ρ i iv → VRel B s.heap W' ρ v vv → PostU B n W' ρ cs s cs' Q → wpAny (model B.prog B.w) A (setItem rv iv vv) Q E s
  delI : ∀ {cs cs' : Cells} {r i z : AV} {n : Nat} {W' : Addr → Prop} {ρ : List Addr} {s : Shared} {rv iv : Value} {Q : Unit → Shared → Prop} {E : Value → Shared → Prop}, isInst cs r = true → W.cf W.delN [r, i] none cs = some (z, cs') → n ≤ cs.length → Ok B W' ρ cs s →
    VRel B s.heap W' ρ r rv → VRel B s.heap W' ρ i iv → PostU B n W' ρ cs s cs' Q → wpAny (model B.prog B.w) A (delItem rv iv) Q E s
  reM : ∀ {nm : Str} {k : Nat} {cs : Cells} {xs : List AV} {z : AV} {cs' : Cells} {n : Nat}, methOk cs (.re k) (mnOf nm) = true → mcall n (.re k) (mnOf nm) xs cs = some (z, cs') → ∀ {s : Shared} {pl : Sem Bool} {R : Value × List Value → Shared → Prop} {E : Value → Shared → Prop}, Kept B s.heap →
    (∀ f, (∀ s', Kept B s'.heap → KeepOk (model B.prog B.w) A s' f) →
      (∀ {s' : Shared} {W' : Addr → Prop} {ρ : List Addr} {vs : List Value} {Q : Value → Shared → Prop} {E : Value → Shared → Prop}, Ok B W' ρ cs s' → n ≤ cs.length → VRels B s'.heap W' ρ xs vs → PostV B n W' ρ cs s' cs' z Q → wpAny (model B.prog B.w) A (PySem.call f (.ref (B.reA k) :: vs) []) Q E s') → R (f, [.ref (B.reA k)]) s) →
    wpAny (model B.prog B.w) A (getMethod (.ref (B.reA k)) nm pl) R E s
structure EnvX (B : Base) (M0 : List (Tx × Nat)) (A : Around) (cx : Cx) (env : Env) (lay : List Loc) : Prop extends EnvOk B cx env lay where
  meths : cx.meths = M0
  len : lay.length = cx.n
  lam : cx.lamOk = true → ∀ {args : Arguments} {body : Expr} {sc : Scope} {pos : Pos} {n : Nat} {W : Addr → Prop} {ρ : List Addr} {cs : Cells} {s : Shared} {Q E : Value → Shared → Prop}, plainLam args = true → noFree sc = true → Ok B W ρ cs s → PostV B n W ρ cs s cs .lam Q →
    wpAny (model B.prog B.w) A (eval (.Lambda args body sc pos) env) Q E s
structure At (B : Base) (M0 : List (Tx × Nat)) (A : Around) (n : Nat) (cx : Cx) (env : Env) (lay : List Loc) (fr : Fr) (W : Addr → Prop) (ρ : List Addr) (cs : Cells) (s : Shared) : Prop where
  X : EnvX B M0 A cx env lay
  ok : Ok B W ρ cs s
  F : Frm B lay fr W ρ s.heap
  hn : n ≤ cs.length
section
variable {B : Base} {M0 : List (Tx × Nat)} {Wo : Wd} {cx : Cx} {A : Around} {n f : Nat}
section
variable {env : Env} {lay : List Loc} {fr : Fr} {W W₁ : Addr → Prop} {ρ ρ₁ : List Addr} {cs cs₁ : Cells} {s s₁ : Shared}
theorem At.after (T : At B M0 A n cx env lay fr W ρ cs s) (a : After B n Non W ρ cs s W₁ ρ₁ cs₁ s₁) : At B M0 A n cx env lay fr W₁ ρ₁ cs₁ s₁ := ⟨T.X, a.ok, T.F.after T.ok a, Nat.le_trans T.hn (a.length T.ok)⟩
end
noncomputable abbrev PostB (B : Base) (n : Nat) (W : Addr → Prop) (ρ : List Addr) (cs : Cells) (s : Shared) (cs' : Cells) (x : Bool) (Q : Bool → Shared → Prop) : Prop :=
  ∀ W' ρ' s', After B n Non W ρ cs s W' ρ' cs' s' → Q x s'
noncomputable abbrev PostVs (B : Base) (n : Nat) (W : Addr → Prop) (ρ : List Addr) (cs : Cells) (s : Shared) (cs' : Cells) (xs : List AV) (Q : List Value → Shared → Prop) : Prop :=
  ∀ vs W' ρ' s', After B n Non W ρ cs s W' ρ' cs' s' → VRels B s'.heap W' ρ' xs vs → Q vs s'
section
variable {W W₁ : Addr → Prop} {ρ ρ₁ : List Addr} {cs cs₁ cs₂ : Cells} {s s₁ : Shared}
theorem After.post {x : AV} {Q : Value → Shared → Prop} (a : After B n Non W ρ cs s W₁ ρ₁ cs₁ s₁) (hQ : PostV B n W ρ cs s cs₂ x Q) : PostV B n W₁ ρ₁ cs₁ s₁ cs₂ x Q := fun v W' ρ' s' b r => hQ v W' ρ' s' (a.trans b) r
theorem After.postB {x : Bool} {Q : Bool → Shared → Prop} (a : After B n Non W ρ cs s W₁ ρ₁ cs₁ s₁) (hQ : PostB B n W ρ cs s cs₂ x Q) : PostB B n W₁ ρ₁ cs₁ s₁ cs₂ x Q := fun W' ρ' s' b => hQ W' ρ' s' (a.trans b)
end
noncomputable def SE (B : Base) (M0 : List (Tx × Nat)) (Wo : Wd) (A : Around) (n : Nat) (cx : Cx) (c : ME) (e : Expr) : Prop :=
  ∀ ⦃env : Env⦄ ⦃lay : List Loc⦄ ⦃fr : Fr⦄ ⦃W : Addr → Prop⦄ ⦃ρ : List Addr⦄ ⦃cs : Cells⦄ ⦃r : AV × Cells⦄ ⦃s : Shared⦄ ⦃Q E : Value → Shared → Prop⦄, At B M0 A n cx env lay fr W ρ cs s →
    c Wo n fr cs = some r → PostV B n W ρ cs s r.2 r.1 Q → wpAny (model B.prog B.w) A (eval e env) Q E s
noncomputable def SB (B : Base) (M0 : List (Tx × Nat)) (Wo : Wd) (A : Around) (n : Nat) (cx : Cx) (c : MB) (e : Expr) : Prop :=
  ∀ ⦃env : Env⦄ ⦃lay : List Loc⦄ ⦃fr : Fr⦄ ⦃W : Addr → Prop⦄ ⦃ρ : List Addr⦄ ⦃cs : Cells⦄ ⦃r : Bool × Cells⦄ ⦃s : Shared⦄ ⦃Q : Bool → Shared → Prop⦄ ⦃E : Value → Shared → Prop⦄, At B M0 A n cx env lay fr W ρ cs s →
    c Wo n fr cs = some r → PostB B n W ρ cs s r.2 r.1 Q → wpAny (model B.prog B.w) A (isTrue e env (eval e env)) Q E s
noncomputable def SEs (B : Base) (M0 : List (Tx × Nat)) (Wo : Wd) (A : Around) (n : Nat) (cx : Cx) (c : List ME) (es : List Expr) : Prop :=
  ∀ ⦃env : Env⦄ ⦃lay : List Loc⦄ ⦃fr : Fr⦄ ⦃W : Addr → Prop⦄ ⦃ρ : List Addr⦄ ⦃cs : Cells⦄ ⦃r : List AV × Cells⦄ ⦃s : Shared⦄ ⦃Q : List Value → Shared → Prop⦄ ⦃E : Value → Shared → Prop⦄ ⦃pos : Pos⦄, At B M0 A n cx env lay fr W ρ cs s →
    evEs Wo n c fr cs = some r → PostVs B n W ρ cs s r.2 r.1 Q → wpAny (model B.prog B.w) A (spliced (backTo pos (starEach es env))) Q E s
theorem SE_fail {x : Expr} : SE B M0 Wo A n cx eFail x := by
  intro env lay fr W ρ cs r s Q E T e
  cases e
theorem SB_fail {x : Expr} : SB B M0 Wo A n cx eFail x := by
  intro env lay fr W ρ cs r s Q E T e
  cases e
noncomputable def isStar : Expr → Bool
  | .Starred .. => true
  | _ => false
noncomputable def NoStar (es : List Expr) : Prop := ∀ (env : Env) (pos : Pos), (backTo pos (starEach es env)).any (·.1) = false ∧ (backTo pos (starEach es env)).all (fun x => !x.1) = true
theorem star_not {x : Expr} {r : List Expr} {env : Env} (h : isStar x = false) : starEach (x :: r) env = (false, eval x env) :: starEach r env := by
  cases x <;> first | rfl | cases h
structure TrOk (B : Base) (M0 : List (Tx × Nat)) (Wo : Wd) (A : Around) (n : Nat) (cx : Cx) (t : Expr → ME) : Prop where
  e : ∀ x, SE B M0 Wo A n cx (t x) x
  star : ∀ x, isStar x = true → t x = eFail
theorem TrOk.noStar {t : Expr → ME} (T : TrOk B M0 Wo A n cx t) {fr : Fr} : ∀ {es : List Expr} {cs : Cells} {r : List AV × Cells}, evEs Wo n (es.map t) fr cs = some r → NoStar es
  | [], _, _, _ => fun env pos => ⟨rfl, rfl⟩
  | x :: xs, cs, r, e => fun env pos => by
    obtain ⟨q, hq, e⟩ := bind_eq e
    obtain ⟨p, hp, e⟩ := map_eq e
    have ih := T.noStar hp env pos
    have hx : isStar x = false := by
      cases hs : isStar x with
      | false => rfl
      | true => rw [T.star x hs] at hq; cases hq
    rw [star_not hx]
    exact ih
theorem TrOk.all {t : Expr → ME} (T : TrOk B M0 Wo A n cx t) : ∀ es : List Expr, SEs B M0 Wo A n cx (es.map t) es := by
  intro es
  induction es with
  | nil =>
    intro env lay fr W ρ cs r s Q E pos T' e hQ
    obtain rfl := Option.some.inj e
    exact wpAny_pure (hQ _ _ _ _ (After.refl T'.ok) .nil)
  | cons x xs ih =>
    intro env lay fr W ρ cs r s Q E pos T' e hQ
    obtain ⟨q, hq, e⟩ := bind_eq e
    obtain ⟨p, hp, rfl⟩ := map_eq e
    have hx : isStar x = false := by
      cases hs : isStar x with
      | false => rfl
      | true => rw [T.star x hs] at hq; cases hq
    rw [star_not hx]
    show wpAny _ A (spliced ((false, eval x env) :: backTo pos (starEach xs env))) Q E s
    rw [spliced]
    refine wpAny_bind (T.e x T' hq fun v₁ W₁ ρ₁ s₁ af₁ r₁ => ?_)
    refine wpAny_bind (wpAny_pure ?_)
    refine wpAny_bind (wpAny_holding (ih (T'.after af₁) hp fun vs W₂ ρ₂ s₂ af₂ r₂ => wpAny_pure ?_))
    exact hQ _ _ _ _ (af₁.trans af₂) (.cons (af₂.val af₁.ok r₁) r₂)
theorem SE_bin {a b : ME} {m : Bool} {o : BOp} {x y : Expr} {op : Operator} {p : Pos} (ho : trBOp op = some o) (h1 : SE B M0 Wo A n cx a x) (h2 : SE B M0 Wo A n cx b y) : SE B M0 Wo A n cx (eBin m o a b) (.BinOp x op y p) := by
  intro env lay fr W ρ cs r s Q E T e hQ
  obtain ⟨q, hq, e⟩ := bind_eq e
  obtain ⟨r', hr, e⟩ := bind_eq e
  rw [arm_eval_BinOp]
  refine wpAny_bind (h1 T hq fun v₁ W₁ ρ₁ s₁ af₁ r₁ => ?_)
  refine wpAny_bind (wpAny_holding (h2 (T.after af₁) hr fun v₂ W₂ ρ₂ s₂ af₂ r₂ => ?_))
  refine wpAny_bind (wpAny_standAt (wpAny_operate ?_))
  rw [← bopOf_tr ho]
  exact binv_sound af₂.ok ((T.after af₁).after af₂).hn (af₂.val af₁.ok r₁) r₂ e ((af₁.trans af₂).post hQ)
theorem SE_neg {a : ME} {x : Expr} {p : Pos} (h1 : SE B M0 Wo A n cx a x) : SE B M0 Wo A n cx (eNeg a) (.UnaryOp .USub x p) := by
  intro env lay fr W ρ cs r s Q E T e hQ
  obtain ⟨q, hq, e⟩ := bind_eq e
  obtain ⟨i, hi, rfl⟩ := map_eq e
  refine wpAny_UnaryOp (h1 T hq fun v₁ W₁ ρ₁ s₁ af₁ r₁ => ?_)
  exact neg_sound af₁.ok r₁ hi (af₁.post hQ)
theorem SE_not {a : ME} {x : Expr} {p : Pos} (h1 : SE B M0 Wo A n cx a x) : SE B M0 Wo A n cx (eNot a) (.UnaryOp .Not x p) := by
  intro env lay fr W ρ cs r s Q E T e hQ
  obtain ⟨q, hq, e⟩ := bind_eq e
  obtain ⟨b, hb, rfl⟩ := map_eq e
  refine wpAny_UnaryOp (h1 T hq fun v₁ W₁ ρ₁ s₁ af₁ r₁ => ?_)
  exact not_sound af₁.ok r₁ hb (af₁.post hQ)
theorem SE_ite {c : MB} {a b : ME} {x y z : Expr} {p : Pos} (h0 : SB B M0 Wo A n cx c x) (h1 : SE B M0 Wo A n cx a y) (h2 : SE B M0 Wo A n cx b z) : SE B M0 Wo A n cx (eIte c a b) (.IfExp x y z p) := by
  intro env lay fr W ρ cs r s Q E T e hQ
  obtain ⟨⟨q, cs₁⟩, hq, e⟩ := bind_eq e
  refine wpAny_IfExp (h0 T hq fun W₁ ρ₁ s₁ af₁ => ?_)
  cases q with
  | false => exact h2 (T.after af₁) e (af₁.post hQ)
  | true => exact h1 (T.after af₁) e (af₁.post hQ)
theorem SE_lit_const {c : Const} {k : Nat} {p : Pos} : SE B M0 Wo A n cx (trConst c) (.Constant c k p) := by
  intro env lay fr W ρ cs r s Q E T e hQ
  rw [arm_eval_Constant]
  cases c with
  | none =>
    obtain rfl := Option.some.inj e
    exact wpAny_pure (hQ _ _ _ _ (After.refl T.ok) .none)
  | bool b =>
    obtain rfl := Option.some.inj e
    exact wpAny_pure (hQ _ _ _ _ (After.refl T.ok) (.bool _))
  | int i =>
    obtain rfl := Option.some.inj e
    exact wpAny_mkInt (hQ _ _ _ _ (T.ok.toks _) (.int _ _))
  | str t =>
    have e : (if (tx t).length ≤ lim then eLit (.str (tx t)) else eFail) Wo n fr cs = some r := e
    by_cases hb : (tx t).length ≤ lim
    · rw [if_pos hb] at e
      obtain rfl := Option.some.inj e
      have := VRel.str (B := B) (h := s.heap) (W := W) (ρ := ρ) (tx t) s.toks hb
      rw [str_tx] at this
      exact wpAny_mkText (hQ _ _ _ _ (T.ok.toks _) this)
    · rw [if_neg hb] at e; cases e
  | float _ => cases e
  | bytes _ => cases e
  | ellipsis => cases e
  | complex _ _ => cases e
theorem SE_name (S : Stat B) {x : Str} {p : Pos} : SE B M0 Wo A n cx (eName (nameV cx x)) (.Name x p) :=
  by intro env lay fr W ρ cs r s Q E T e hQ; exact name_sound S T.ok T.X.toEnvOk T.F e hQ
theorem chain1 {op : CmpOp} {y : Expr} {m : Sem Value} (hb : behindInMarks op y = false) : markedBehindIn op y m = m := by
  unfold markedBehindIn
  rw [hb]
theorem SE_cmp (R : Rx B M0 Wo A) {op : CmpOp} {a b : ME} {x y : Expr} {p : Pos} (hb : behindInMarks op y = false) (h1 : SE B M0 Wo A n cx a x) (h2 : SE B M0 Wo A n cx b y) : SE B M0 Wo A n cx (eCmp (trCOp op) a b) (.Compare x [op] [y] p) := by
  intro env lay fr W ρ cs r s Q E T e hQ
  obtain ⟨q, hq, e⟩ := bind_eq e
  obtain ⟨q', hr, e⟩ := bind_eq e
  obtain ⟨z, hz, rfl⟩ := map_eq e
  rw [arm_eval_Compare]
  refine wpAny_bind (h1 T hq fun v₁ W₁ ρ₁ s₁ af₁ r₁ => ?_)
  show wpAny _ A (compareChain p v₁ [op] [markedBehindIn op y (eval y env)]) Q E s₁
  rw [chain1 hb, compareChain]
  refine wpAny_bind (wpAny_holding (h2 (T.after af₁) hr fun v₂ W₂ ρ₂ s₂ af₂ r₂ => ?_))
  refine wpAny_bind (wpAny_standAt (wpAny_operate ?_))
  have := cmpv_sound (A := A) (E := E) R.S.sysm af₂.ok R.room (af₂.val af₁.ok r₁) r₂ hz (Q := Q) fun t => hQ _ _ _ _ ((af₁.trans af₂).trans (af₂.ok.toks t)) (.bool _)
  rw [copOf_tr] at this; exact this
theorem SB_cmp (R : Rx B M0 Wo A) {op : CmpOp} {a b : ME} {x y : Expr} {p : Pos} (hb : behindInMarks op y = false) (h1 : SE B M0 Wo A n cx a x) (h2 : SE B M0 Wo A n cx b y) : SB B M0 Wo A n cx (bCmp (trCOp op) a b) (.Compare x [op] [y] p) := by
  intro env lay fr W ρ cs r s Q E T e hQ
  obtain ⟨q, hq, e⟩ := bind_eq e
  obtain ⟨q', hr, e⟩ := bind_eq e
  obtain ⟨z, hz, rfl⟩ := map_eq e
  rw [arm_isTrue_Compare]
  refine wpAny_bind (h1 T hq fun v₁ W₁ ρ₁ s₁ af₁ r₁ => ?_)
  show wpAny _ A (testChain p v₁ [op] [markedBehindIn op y (eval y env)]) Q E s₁
  rw [chain1 hb, testChain]
  refine wpAny_bind (wpAny_holding (h2 (T.after af₁) hr fun v₂ W₂ ρ₂ s₂ af₂ r₂ => ?_))
  refine wpAny_bind (wpAny_standAt (wpAny_bind (wpAny_operate ?_)))
  have := cmpv_sound (A := A) (E := E) R.S.sysm af₂.ok R.room (af₂.val af₁.ok r₁) r₂ hz (Q := fun c s₃ => wpAny (model B.prog B.w) A (holding [c] (PySem.truthy c)) Q E s₃) fun t => wpAny_holding (truthy_sound (af₂.ok.tok t) (x := .bool z) (.bool _) rfl fun t' => hQ _ _ _ ((af₁.trans af₂).trans (af₂.ok.toks t')))
  rw [copOf_tr] at this; exact this
noncomputable def plainTest : Expr → Bool
  | .UnaryOp .Not _ _ => false
  | .BoolOp .. => false
  | .IfExp .. => false
  | .Compare .. => false
  | _ => true
theorem isTrue_plain {e : Expr} {env : Env} {w : Sem Value} (h : plainTest e = true) : isTrue e env w = (do let v ← w; standAt e.pos; holding [v] (PySem.truthy v)) := by
  cases e <;> first | rfl | (cases h; done) | (rename_i op _ _; cases op <;> first | rfl | cases h)
theorem SB_plain {c : ME} {x : Expr} (hx : plainTest x = true) (h1 : SE B M0 Wo A n cx c x) : SB B M0 Wo A n cx (bOf c) x := by
  intro env lay fr W ρ cs r s Q E T e hQ
  obtain ⟨q, hq, e⟩ := bind_eq e
  obtain ⟨b, hb, rfl⟩ := map_eq e
  rw [isTrue_plain hx]
  refine wpAny_bind (h1 T hq fun v₁ W₁ ρ₁ s₁ af₁ r₁ => ?_)
  exact wpAny_bind (wpAny_standAt (wpAny_holding (truthy_sound af₁.ok r₁ hb fun t => hQ _ _ _ (af₁.trans (af₁.ok.toks t)))))
theorem SB_not {a : MB} {x : Expr} {p : Pos} (h1 : SB B M0 Wo A n cx a x) : SB B M0 Wo A n cx (bNot a) (.UnaryOp .Not x p) := by
  intro env lay fr W ρ cs r s Q E T e hQ
  obtain ⟨q, hq, rfl⟩ := map_eq e
  exact wpAny_isTrue_Not (h1 T hq fun W₁ ρ₁ s₁ af₁ => hQ _ _ _ af₁)
theorem SB_ite {c a b : MB} {x y z : Expr} {p : Pos} (h0 : SB B M0 Wo A n cx c x) (h1 : SB B M0 Wo A n cx a y) (h2 : SB B M0 Wo A n cx b z) : SB B M0 Wo A n cx (bIte c a b) (.IfExp x y z p) := by
  intro env lay fr W ρ cs r s Q E T e hQ
  obtain ⟨⟨q, cs₁⟩, hq, e⟩ := bind_eq e
  rw [arm_isTrue_IfExp]
  refine wpAny_bind (h0 T hq fun W₁ ρ₁ s₁ af₁ => ?_)
  cases q with
  | false => exact h2 (T.after af₁) e (af₁.postB hQ)
  | true => exact h1 (T.after af₁) e (af₁.postB hQ)
theorem allTrue_sound (op : BoolOp) {t : Expr → MB} (h : ∀ x, SB B M0 Wo A n cx (t x) x) {env : Env} {lay : List Loc} {fr : Fr} {E : Value → Shared → Prop} {Q : Bool → Shared → Prop} (es : List Expr) : ∀ {W : Addr → Prop} {ρ : List Addr} {cs : Cells} {r : Bool × Cells} {s : Shared}, At B M0 A n cx env lay fr W ρ cs s →
    evAO Wo n (boolOf op) (es.map t) fr cs = some r → PostB B n W ρ cs s r.2 r.1 Q → wpAny (model B.prog B.w) A (allTrue op es env) Q E s := by
  induction es with
  | nil =>
    intro W ρ cs r s T e hQ
    obtain rfl := Option.some.inj e
    cases op <;> exact wpAny_pure (hQ _ _ _ (After.refl T.ok))
  | cons x xs ih =>
    intro W ρ cs r s T e hQ
    rw [arm_allTrue_cons]
    obtain ⟨⟨q, cs₁⟩, hq, e⟩ := bind_eq e
    refine wpAny_bind (h x T hq fun W₁ ρ₁ s₁ af₁ => ?_)
    cases op <;> cases q
    · obtain rfl := Option.some.inj e; exact wpAny_pure (hQ _ _ _ af₁)
    · exact ih (T.after af₁) e (af₁.postB hQ)
    · exact ih (T.after af₁) e (af₁.postB hQ)
    · obtain rfl := Option.some.inj e; exact wpAny_pure (hQ _ _ _ af₁)
theorem SB_bool {op : BoolOp} {t : Expr → MB} (h : ∀ x, SB B M0 Wo A n cx (t x) x) {xs : List Expr} {p : Pos} : SB B M0 Wo A n cx (bAO (boolOf op) (xs.map t)) (.BoolOp op xs p) := by
  intro env lay fr W ρ cs r s Q E T e hQ
  rw [arm_isTrue_BoolOp]; exact allTrue_sound op h xs T e hQ
end
end Ev
namespace Ev
open PySem PySem.W PyProof.Rows PySem.SeqAt
section
variable {B : Base} {M0 : List (Tx × Nat)} {Wo : Wd} {cx : Cx} {A : Around} {n f : Nat}
theorem SE_tup {r : List ME} {xs : List Expr} {k : Nat} {p : Pos} (h : SEs B M0 Wo A n cx r xs) : SE B M0 Wo A n cx (eTup r) (.Tuple xs k p) := by
  intro env lay fr W ρ cs r s Q E T e hQ
  obtain ⟨q, hq, e⟩ := bind_eq e
  obtain ⟨hl, e⟩ := if_eq e
  obtain rfl := Option.some.inj e
  rw [arm_eval_Tuple]
  refine wpAny_bind (wpAny_standAt (wpAny_bind (h T hq fun vs W₁ ρ₁ s₁ af₁ r₁ => ?_)))
  refine wpAny_newTuple ?_ (by rw [← r₁.length]; exact lim_size hl)
  have af : After B n Non W₁ ρ₁ q.2 s₁ W₁ ρ₁ q.2 { s₁ with heap := s₁.heap.push { cls := .type "tuple", data := .seq vs.toArray } } := af₁.ok.push _ (tk := s₁.toks)
  exact hQ _ _ _ _ (af₁.trans af) (.tup ⟨_, Heap.get?_push_size _ rfl⟩ hl (af₁.ok.newNot (Nat.le_refl _)) (af.vals af₁.ok r₁))
theorem SE_list {r : List ME} {xs : List Expr} {m : Bool} {p : Pos} (h : SEs B M0 Wo A n cx r xs) : SE B M0 Wo A n cx (eList m r) (.List xs p) := by
  intro env lay fr W ρ cs r s Q E T e hQ
  obtain ⟨q, hq, e⟩ := bind_eq e
  rw [arm_eval_List]
  refine wpAny_bind (wpAny_standAt (wpAny_bind (h T hq fun vs W₁ ρ₁ s₁ af₁ r₁ => ?_)))
  refine wpAny_newList ?_ (by rw [← r₁.length]; exact lim_size (if_eq e).1)
  exact mk_post af₁.ok (T.after af₁).hn r₁ e (af₁.post hQ) s₁.toks
theorem SE_dict {p : Pos} : SE B M0 Wo A n cx eDict (.Dict [] [] p) := by
  intro env lay fr W ρ cs r s Q E T e hQ
  obtain rfl := Option.some.inj e
  refine wpAny_Dict_empty ?_
  refine hQ _ _ _ _ (T.ok.alloc T.hn (tk := s.toks) (co := .dict []) ⟨[], Heap.DictOf.new _, .nil⟩) (.ref ?_)
  rw [T.ok.mem.len]; exact List.getElem?_concat_length
theorem attributeBase_plain {o : Expr} {nm : Str} {env : Env} {w : Sem Value} (h : plainBase o = true) : attributeBase o nm env w = w := by
  unfold attributeBase
  split
  · cases h
  · rfl
theorem KeepOk.ofBase {M : Model} {s : Shared} {a : Addr} (h : ∃ o fd, B.h₀.get? a = some o ∧ o.data = .func fd) (k : Kept B s.heap) : KeepOk M A s (.ref a) := by
  obtain ⟨o, fd, ho, hd⟩ := h
  exact .func (k _ _ ho) hd
theorem Ok.kept {W : Addr → Prop} {ρ : List Addr} {cs : Cells} {s : Shared} (o : Ok B W ρ cs s) : Kept B s.heap := fun a ob e => (o.mem.base a ob e).1
end
end Ev
namespace Ev
open PySem PySem.W PyProof.Rows PySem.SeqAt
section
variable {B : Base} {M0 : List (Tx × Nat)} {Wo : Wd} {cx : Cx} {A : Around} {n f : Nat}
set_option maxRecDepth 100000 in
theorem check_append {a : Addr} {v : Value} {items : Array Value} {M : Model} {s : Shared} {E : Value → Shared → Prop} {Q : Unit → Shared → Prop} (hl : s.heap.IsList a items) (hq : Q () s) : wpAny M A (checkBoundCall "list.append" ⟨[.ref a, v], []⟩) Q E s := by
  have hT : s.TypeIs (.ref a) "list" := hl.typeIs
  obtain ⟨ob, hob, hcb, nb, hdb⟩ := hl
  obtain ⟨sg, hs⟩ : ∃ sg, sg = (Manifest.signature? "list.append").getD ((Manifest.signature? "list.append").get (by decide +kernel)) := ⟨_, rfl⟩
  have h1 : Manifest.signature? "list.append" = some sg := by rw [hs]; kernel_rfl
  have h2 : builtinKind "list.append" = some .method := by kernel_rfl
  have h3 : Manifest.varargsMethods.contains "list.append" = false := by decide +kernel
  unfold checkBoundCall
  rw [h1, h2]
  dsimp only
  rw [if_neg (by decide)]
  refine wpAny_bind (wpAny_isInstance (b := false) hT (by rw [isSubtype_type]; kernel_rfl) ?_)
  rw [h3]
  rw [if_neg (by decide)]
  refine wpAny_bind ?_
  show wpAny M A (do return match (← loadHead a).data with | .cls _ => true | _ => false) _ _ s
  refine wpAny_bind (m := loadHead a) (wpAny_loadPart hob (wpAny_pure ?_))
  rw [hdb]
  refine wpAny_bind (wpAny_typeOf hT ?_)
  dsimp only
  exact wpAny_of_eq (by subst hs; kernel_rfl) hq
theorem call_app {f a : Addr} {ob : Obj} {v : Value} {items : Array Value} {k : Nat} {prog : Program} {w : PySem.World} {s : Shared} {E Q : Value → Shared → Prop} (g : s.heap.get? f = some ob) (c : ob.cls = .type "builtin_function_or_method") (d : ob.data = .fields #[.builtin "list.append", .ref a])
    (hl : s.heap.get? a = some { cls := .type "list", data := .seq items k }) (hsz : items.size ≤ sizeLine)
    (h : Q .none { s with heap := s.heap.update a (Obj.mapSeq (·.push v)) }) : wpAny (model prog w) A (call (.ref f) [v]) Q E s := by
  refine wpAny_call (codeAny_of_tree ?_)
  show wpAny _ A.in1 (callAny (.ref f) ⟨[v], []⟩) _ _ s
  simp only [callAny]
  refine wpAny_bind (wpAny_load g ?_)
  simp only [c, d, show (Value.type "builtin_function_or_method" == Value.type "method" || Value.type "builtin_function_or_method" == Value.type "builtin_function_or_method" || Value.type "builtin_function_or_method" == Value.type "method-wrapper") = true by decide, if_true]
  show wpAny _ A.in1 (if (Value.type "builtin_function_or_method" != Value.type "method") = true then _ else _) _ _ s
  rw [if_pos (by decide)]
  refine wpAny_bind (check_append ⟨_, hl, rfl, _, rfl⟩ ?_)
  refine wpAny_bind (wpAny_pure (wpAny_pure ?_))
  refine ⟨Code.quiet_builtin _ (by decide +kernel), codeAny_builtin entry_list_append ?_⟩
  show wpAny _ _ (updateSeq a (·.push v) >>= fun _ => ret .none) _ _ s
  exact wpAny_bind (wpAny_updateSeq hl rfl (wpAny_pure h))
theorem appv_sound {W : Addr → Prop} {ρ : List Addr} {cs cs' : Cells} {s : Shared} {Q E : Value → Shared → Prop} (o : Ok B W ρ cs s) {i : Nat} {x z : AV} {v fv : Value} (pf : VRel B s.heap W ρ (.app i) fv) (p : VRel B s.heap W ρ x v) (e : appendv n i x cs = some (z, cs')) (hQ : PostV B n W ρ cs s cs' z Q) :
    KeepOk (model B.prog B.w) A s fv ∧ wpAny (model B.prog B.w) A (call fv [v]) Q E s := by
  obtain ⟨f, a, ob, hf, g, gf, w, c, d⟩ := pf.inv
  rw [hf]
  obtain ⟨xs, hc, e⟩ := bind_eq e
  obtain ⟨hg, e⟩ := if_eq e
  obtain ⟨vs, ⟨k, l⟩, bd, r⟩ := o.mem.listAt hc g
  refine ⟨.bound gf d c, call_app gf c d l (by rw [List.size_toArray, ← r.length]; exact lim_size bd) ?_⟩
  refine hQ.to e _ _ _ _ (turn_append (tk := s.toks) o g hc r p hg ?_ (Heap.SameBut.update ..)) .none
  exact ⟨k + 1, (Heap.get?_update_self (Obj.mapSeq (·.push v)) l rfl).trans (by simp [Obj.mapSeq])⟩
theorem callv_sound (R : Rx B M0 Wo A) {W : Addr → Prop} {ρ : List Addr} {cs cs' : Cells} {s : Shared} {Q E : Value → Shared → Prop} (o : Ok B W ρ cs s) (hn : n ≤ cs.length) {g z : AV} {xs : List AV} {fv : Value} {vs : List Value} (pf : VRel B s.heap W ρ g fv) (p : VRels B s.heap W ρ xs vs)
    (e : callv Wo g xs n cs = some (z, cs')) (hQ : PostV B n W ρ cs s cs' z Q) : KeepOk (model B.prog B.w) A s fv ∧ wpAny (model B.prog B.w) A (call fv vs) Q E s := by
  cases g with
  | fn k =>
    obtain rfl := pf.inv
    exact ⟨.ofBase (R.fnObj k) o.kept, R.call e hn o p .none hQ⟩
  | app i =>
    obtain ⟨y, hy, e⟩ := bind_eq e
    obtain ⟨v, rfl, r⟩ := p.ofOne hy
    exact appv_sound o pf r e hQ
  | bi b =>
    obtain rfl := pf.inv
    exact ⟨.plain (fun a e => nomatch e), bcall_sound R.hh (R.S.lim.keeps o.kept) o hn pf p e hQ⟩
  | ty t =>
    obtain rfl := pf.inv
    exact ⟨.plain (fun a e => nomatch e), bcall_sound R.hh (R.S.lim.keeps o.kept) o hn pf p e hQ⟩
  | _ => cases e
end
end Ev
namespace Ev
open PySem PySem.W PyProof.Rows PySem.SeqAt
section
variable {B : Base} {M0 : List (Tx × Nat)} {Wo : Wd} {cx : Cx} {A : Around} {n f : Nat}
theorem SE_call (R : Rx B M0 Wo A) {a : ME} {x : Str} {xs : List Expr} {p q : Pos} {t : Expr → ME} (h1 : SE B M0 Wo A n cx a (.Name x p)) (h2 : TrOk B M0 Wo A n cx t) : SE B M0 Wo A n cx (eCall a (xs.map t)) (.Call (.Name x p) xs [] q) := by
  intro env lay fr W ρ cs r s Q E T e hQ
  obtain ⟨g, hg, e⟩ := bind_eq e
  obtain ⟨as, has, e⟩ := bind_eq e
  refine wpAny_Call_Name_kw (h1 T hg fun v₁ W₁ ρ₁ s₁ af₁ r₁ => ?_)
  refine callWith_gen ((h2.noStar has) env q).1 rfl (h2.all xs (T.after af₁) has fun vs W₂ ρ₂ s₂ af₂ r₂ => wpAny_pure ?_)
  exact callv_sound R af₂.ok ((T.after af₁).after af₂).hn (af₂.val af₁.ok r₁) r₂ e ((af₁.trans af₂).post hQ)
theorem SE_new (R : Rx B M0 Wo A) (hk : ∀ s, Kept B s.heap → KeepOk (model B.prog B.w) A s (.ref B.clsA)) {x : Str} {p q : Pos} (h1 : SE B M0 Wo A n cx (eLit .cls) (.Name x p)) : SE B M0 Wo A n cx eNew (.Call (.Name x p) [] [] q) := by
  intro env lay fr W ρ cs r s Q E T e hQ
  refine wpAny_Call_Name_kw (h1 T rfl fun v₁ W₁ ρ₁ s₁ af₁ r₁ => ?_)
  obtain rfl := r₁.inv
  refine callWith_gen rfl rfl (wpAny_pure (wpAny_pure ⟨hk _ af₁.ok.kept, ?_⟩))
  exact R.new e T.hn af₁.ok (af₁.post hQ)
theorem methodCall_gen {o : Expr} {nm : Str} {ap pos : Pos} {env : Env} {ov : Value} {es : List Expr} {ks : List Keyword} {s : Shared} {Q E : Value → Shared → Prop} (hline : ap.endLine = pos.line) (hns : NoStar es) (hlen : es.length < 20) (hks : ks.length ≤ 1) (hka : (backToKw pos (keywordEach ks env)).all (·.1.isSome) = true)
    (h : ∀ pl, wpAny (model B.prog B.w) A (getMethod ov nm pl) (fun q s₁ => wpAny (model B.prog B.w) A (callWith pos q.1 q.2 (backTo pos (starEach es env)) (backToKw pos (keywordEach ks env))) Q E s₁) E s) :
    wpAny (model B.prog B.w) A (methodCall o nm ap pos env ov (es.length + ks.length) (backTo pos (starEach es env)) (backToKw pos (keywordEach ks env))) Q E s := by
  have hform : methodCallForm (es.length + ks.length) (backTo pos (starEach es env)) (backToKw pos (keywordEach ks env)) = true := by
    have h1 : (if (backToKw pos (keywordEach ks env)).isEmpty then 0 else 1) ≤ 1 := by split <;> decide
    exact Bool.and_eq_true_iff.mpr ⟨Bool.and_eq_true_iff.mpr ⟨(hns env pos).2, hka⟩, decide_eq_true (Nat.lt_of_le_of_lt (Nat.add_le_add (Nat.add_le_add (Nat.le_of_lt hlen) hks) h1) (by decide))⟩
  unfold methodCall calleeOf methodCallPos
  rw [hform]
  have hb : (ap.endLine == pos.line) = true := by rw [hline]; exact beq_self_eq_true _
  simp only [hb, if_true, Bool.not_true, Bool.or_true]
  refine wpAny_bind (wpAny_holding (wpAny_mono (h _) (fun q s₁ h₁ => ?_) fun _ _ x => x))
  exact wpAny_bind (wpAny_pure h₁)
theorem isInst_at {W : Addr → Prop} {ρ : List Addr} {cs : Cells} {s : Shared} (o : Ok B W ρ cs s) {x : AV} {v : Value} (p : VRel B s.heap W ρ x v) {d : Nat} {es : List (Tx × AV)} (e : instOf cs x = some (d, es)) : ∃ a dx, v = .ref a ∧ idictAt cs d = some es ∧ ρ[d]? = some dx ∧ InstAt B s.heap a dx ∧ ∃ o, s.heap.get? dx = some o ∧ HObj o := by
  obtain ⟨i, hi, e⟩ := bind_eq e
  obtain ⟨d', hd, e⟩ := bind_eq e
  obtain ⟨es', he, e⟩ := mapS e
  obtain ⟨rfl, rfl⟩ := pair_eq e
  obtain ⟨a, rfl, g⟩ := p.ofRef hi
  obtain ⟨dx, ga, gd⟩ := o.mem.instAt hd g
  refine ⟨a, dx, rfl, he, gd, ga, ?_⟩
  rcases o.mem.idictAt he gd with c | ⟨x, v, hsh, tk, k, _, ho, _⟩
  · exact ⟨_, c.2, .inl rfl⟩
  · exact ⟨_, ho, .inr ⟨_, _, _, _, rfl⟩⟩
theorem Rx.own (R : Rx B M0 Wo A) {W : Addr → Prop} {ρ : List Addr} {cs : Cells} {s : Shared} (o : Ok B W ρ cs s) {x : AV} {v : Value} (p : VRel B s.heap W ρ x v) (e : isInst cs x = true) {nm : Str} {k : Nat} (hk : M0.lookup (tx nm) = some k) {pl : Sem Bool} {Q : Value × List Value → Shared → Prop} {E : Value → Shared → Prop}
    (hQ : Q (.ref (B.fnA k), [v]) s) : wpAny (model B.prog B.w) A (getMethod v nm pl) Q E s := by
  obtain ⟨⟨d, es⟩, he⟩ := Option.isSome_iff_exists.mp e
  obtain ⟨a, dx, rfl, _, _, hI, ob, hob, hH⟩ := isInst_at o p he
  refine R.meth hk o.kept hI hob hH (fun e => ?_) hQ
  have := R.hdr
  rw [show headersTx = tx nm by rw [e]; decide +kernel, hk] at this; cases this
theorem SE_meth (R : Rx B M0 Wo A) {a : ME} {o : Expr} {nm : Str} {ap p : Pos} {xs : List Expr} {t : Expr → ME} (hb : plainBase o = true) (hline : ap.endLine = p.line) (hlen : xs.length < 20) (h1 : SE B M0 Wo A n cx a o) (h2 : TrOk B M0 Wo A n cx t) :
    SE B M0 Wo A n cx (eMeth a (mnOf nm) (cx.meths.lookup (tx nm)) (xs.map t)) (.Call (.Attribute o nm ap) xs [] p) := by
  intro env lay fr W ρ cs r s Q E T e hQ
  obtain ⟨g, hg, e⟩ := bind_eq e
  obtain ⟨as, has, e⟩ := bind_eq e
  have hns := h2.noStar has
  rw [arm_eval_Call, attributeBase_plain hb]
  refine wpAny_bind (h1 T hg fun v₁ W₁ ρ₁ s₁ af₁ r₁ => wpAny_bind (wpAny_standAt ?_))
  refine methodCall_gen (ks := []) hline hns hlen (Nat.zero_le _) rfl fun pl => ?_
  have T₁ := T.after af₁
  have go : ∀ {fv : Value} {first : List Value}, (∀ {vs : List Value} {W₂ : Addr → Prop} {ρ₂ : List Addr} {s₂ : Shared}, After B n Non W₁ ρ₁ g.2 s₁ W₂ ρ₂ as.2 s₂ → VRels B s₂.heap W₂ ρ₂ as.1 vs → KeepOk (model B.prog B.w) A s₂ fv ∧ wpAny (model B.prog B.w) A (call fv (first ++ vs)) Q E s₂) →
      wpAny (model B.prog B.w) A (callWith p fv first (backTo p (starEach xs env)) (backToKw p (keywordEach [] env))) Q E s₁ := fun hc =>
    callWith_gen (hns env p).1 rfl (h2.all xs T₁ has fun vs W₂ ρ₂ s₂ af₂ r₂ => wpAny_pure (hc af₂ r₂))
  cases hi : isInst g.2 g.1 with
  | true =>
    rw [hi, if_pos rfl] at e
    obtain ⟨k, hk, e⟩ := bind_eq e
    rw [T.X.meths] at hk
    exact R.own af₁.ok r₁ hi hk (go fun af₂ r₂ => ⟨.ofBase (R.fnObj k) af₂.ok.kept, R.call e (T₁.after af₂).hn af₂.ok (.cons (af₂.val af₁.ok r₁) r₂) .none ((af₁.trans af₂).post hQ)⟩)
  | false =>
    rw [hi, if_neg Bool.false_ne_true] at e
    obtain ⟨hm, e⟩ := if_eq e
    cases hk : g.1.re? with
    | some k =>
      rw [re?_eq hk] at r₁ hm e
      obtain rfl := r₁.inv
      exact R.reM (cs := as.2) hm e af₁.ok.kept fun fv hkeep hcall => go fun af₂ r₂ => ⟨hkeep _ af₂.ok.kept, hcall af₂.ok (T₁.after af₂).hn r₂ ((af₁.trans af₂).post hQ)⟩
    | none => exact getm_sound af₁.ok r₁ rfl hm hk (go fun af₂ r₂ => ⟨.plain (fun a e => nomatch e), mcall_sound af₂.ok (T₁.after af₂).hn (af₂.val af₁.ok r₁) r₂ hk e ((af₁.trans af₂).post hQ)⟩)
theorem name_kw {k : Str} (h : tx k = nameTx) : k = "name" := by rw [tx_of h]; decide +kernel
theorem SE_methk (R : Rx B M0 Wo A) {a c : ME} {o y : Expr} {nm kn : Str} {ap p kp : Pos} {k : Nat} {xs : List Expr} {t : Expr → ME} (hb : plainBase o = true) (hline : ap.endLine = p.line) (hlen : xs.length < 20) (hkn : tx kn = nameTx) (hk : cx.meths.lookup (tx nm) = some k)
    (h1 : SE B M0 Wo A n cx a o) (h2 : TrOk B M0 Wo A n cx t) (h4 : SE B M0 Wo A n cx c y) :
    SE B M0 Wo A n cx (eMethk a k (xs.map t) c) (.Call (.Attribute o nm ap) xs [⟨some kn, y, kp⟩] p) := by
  intro env lay fr W ρ cs r s Q E T e hQ
  obtain rfl := name_kw hkn
  obtain ⟨g, hg, e⟩ := bind_eq e
  obtain ⟨as, has, e⟩ := bind_eq e
  obtain ⟨kw, hkw, e⟩ := bind_eq e
  obtain ⟨hi, e⟩ := if_eq e
  have hns := h2.noStar has
  rw [arm_eval_Call, attributeBase_plain hb]
  refine wpAny_bind (h1 T hg fun v₁ W₁ ρ₁ s₁ af₁ r₁ => wpAny_bind (wpAny_standAt ?_))
  refine methodCall_gen (ks := [⟨some "name", y, kp⟩]) hline hns hlen (Nat.le_refl _) rfl fun pl => ?_
  rw [T.X.meths] at hk
  refine R.own af₁.ok r₁ hi hk ?_
  refine callWith_gen (hns env p).1 rfl (h2.all xs (T.after af₁) has fun vs W₂ ρ₂ s₂ af₂ r₂ => ?_)
  show wpAny _ A (evalAll [do let v ← eval y env; standAt p; pure v]) _ E s₂
  have T₂ := (T.after af₁).after af₂
  refine wpAny_evalAll_cons (wpAny_bind (h4 T₂ hkw fun v₃ W₃ ρ₃ s₃ af₃ r₃ => wpAny_bind (wpAny_standAt (wpAny_pure (wpAny_evalAll_nil ?_)))))
  exact ⟨.ofBase (R.fnObj k) af₃.ok.kept, R.call e (T₂.after af₃).hn af₃.ok (.cons (af₃.val af₂.ok (af₂.val af₁.ok r₁)) (af₃.vals af₂.ok r₂)) (.some r₃) (((af₁.trans af₂).trans af₃).post hQ)⟩
end
end Ev
set_option maxHeartbeats 4000000
namespace Ev
open PySem PySem.W PyProof.Rows PySem.SeqAt
theorem slot_md_get : Slot "method_descriptor" "__get__" "method_descriptor.__get__" :=
  .of (owner := "method_descriptor") (n := "__get__") (by rw [typeLookup_type, builtinLookup_eq_fast]; kernel_rfl) (by decide +kernel) (by decide +kernel) (by decide +kernel)
    (by first | exact .inl (by decide +kernel) | exact .inr (by decide +kernel)) (by rw [isSubtype_type]; kernel_rfl)
theorem entry_md_get : entryFor table "method_descriptor.__get__" = some Builtin.«method_descriptor.__get__» := entryFor_of_tree (by kernel_rfl)
theorem args_md_get (a b c : Value) : argsOk "method_descriptor.__get__" ⟨[a, b, c], []⟩ := by unfold argsOk; kernel_rfl
theorem lk_list_append : typeLookup (.type "list") "append" = pure (some (.builtin "list.append")) := by rw [typeLookup_type, builtinLookup_eq_fast]; kernel_rfl
theorem md_noset : typeLookup (.type "method_descriptor") "__set__" = pure none := by rw [typeLookup_type, builtinLookup_eq_fast]; kernel_rfl
theorem md_nodel : typeLookup (.type "method_descriptor") "__delete__" = pure none := by rw [typeLookup_type, builtinLookup_eq_fast]; kernel_rfl
theorem sub_list_list : isSubtype (.type "list") (.type "list") = pure true := by rw [isSubtype_type]; kernel_rfl
theorem owner_list_append : (".".intercalate ("list.append".cutAt '.').dropLast) = "list" := by decide +kernel
theorem told_append : Manifest.toldItsClass.contains "list.append" = false := by decide +kernel
theorem sub_list_owner : isSubtype (.type "list") (.type (".".intercalate ("list.append".cutAt '.').dropLast)) = pure true := by rw [owner_list_append, isSubtype_type]; kernel_rfl
theorem type_list_append : typeOf (.builtin "list.append") = pure (.type "method_descriptor") := by kernel_rfl
section
variable {prog : Program} {w : PySem.World} {A : Around} {E : Value → Shared → Prop} {h : Heap} {g : Array GenState} {d : Drawn} {t : Nat} {os : OsState} {a : Addr} {items : Array Value} {kk : Nat}
noncomputable abbrev appObj (a : Addr) : Obj := { cls := .type "builtin_function_or_method", data := .fields #[.builtin "list.append", .ref a] }
theorem app_bind {R : Fin → Shared → Prop} (hx : h.get? a = some { cls := .type "list", data := .seq items kk }) (hq : R (.done (.ret (.ref h.objs.size))) ⟨h.push (appObj a), g, d, t, os⟩) :
    wpAny (model prog w) A (Builtin.«method_descriptor.__get__» ⟨[.builtin "list.append", .ref a, .type "list"], []⟩) R E ⟨h, g, d, t, os⟩ := by
  have hT : (⟨h, g, d, t, os⟩ : Shared).TypeIs (.ref a) "list" := ⟨_, hx, rfl⟩
  have f1 := told_append
  have f2 := sub_list_owner
  unfold Builtin.«method_descriptor.__get__»
  repeat (any_goals (first | assumption | wp_step))
theorem app_get {R : Result → Shared → Prop} (hx : h.get? a = some { cls := .type "list", data := .seq items kk }) (hq : R (.ok (.ret (.ref h.objs.size))) ⟨h.push (appObj a), g, d, t, os⟩) :
    codeAny (model prog w) A (.call (.builtin "method_descriptor.__get__") ⟨[.builtin "list.append", .ref a, .type "list"], []⟩) R ⟨h, g, d, t, os⟩ := by
  have hT5 : (⟨h, g, d, t, os⟩ : Shared).TypeIs (.builtin "list.append") "method_descriptor" := type_list_append
  exact codeAny_call_builtin slot_md_get.plain entry_md_get (slot_md_get.check _ _ _ _ _ _ _ _ hT5 (args_md_get _ _ _) (app_bind hx hq))
theorem app_entry {tk : Tok} {Q : Fin → Shared → Prop} (hx : h.get? a = some { cls := .type "list", data := .seq items kk }) (hq : Q (.done (.ret (.ref h.objs.size))) ⟨h.push (appObj a), g, d, t, os⟩) :
    wpAny (model prog w) A (Builtin.«object.__getattribute__» ⟨[.ref a, .str "append" tk], []⟩) Q E ⟨h, g, d, t, os⟩ := by
  have hT : (⟨h, g, d, t, os⟩ : Shared).TypeIs (.ref a) "list" := ⟨_, hx, rfl⟩
  have f4 := lk_list_append
  have f5 := type_list_append
  have f6 := slot_md_get.lookup
  have f7 := md_noset
  have f8 := md_nodel
  repeat (any_goals (first | assumption | wp_step))
  refine app_get hx ?_
  repeat (any_goals (first | assumption | wp_step))
theorem app_call {tk : Tok} {R : Result → Shared → Prop} (hx : h.get? a = some { cls := .type "list", data := .seq items kk }) (hq : R (.ok (.ret (.ref h.objs.size))) ⟨h.push (appObj a), g, d, t, os⟩) :
    codeAny (model prog w) A (.call (.builtin "list.__getattribute__") ⟨[.ref a, .str "append" tk], []⟩) R ⟨h, g, d, t, os⟩ :=
  codeAny_call_builtin F.slot_list_getattribute.plain F.entry_list_ga (F.slot_list_getattribute.check _ _ _ _ _ _ _ _ (show (⟨h, g, d, t, os⟩ : Shared).TypeIs (.ref a) "list" from ⟨_, hx, rfl⟩) (F.args_list_getattribute_2 _ _) (app_entry hx hq))
theorem app_attr {Q : Value → Shared → Prop} (hx : h.get? a = some { cls := .type "list", data := .seq items kk }) (hq : ∀ t', Q (.ref h.objs.size) ⟨h.push (appObj a), g, d, t', os⟩) :
    wpAny (model prog w) A (getAttr (.ref a) "append" true) Q E ⟨h, g, d, t, os⟩ := by
  have hT : ∀ t', (⟨h, g, d, t', os⟩ : Shared).TypeIs (.ref a) "list" := fun _ => ⟨_, hx, rfl⟩
  have f2 := F.slot_list_getattribute.lookup
  have f3 := F.slot_list_getattribute.bind (.ref a)
  unfold getAttr getAttrBy
  repeat (any_goals (first | assumption | exact hT _ | wp_step))
  refine app_call hx ?_
  repeat (any_goals (first | assumption | exact hq _ | wp_step))
end
end Ev
namespace Ev
open PySem PySem.W PyProof.Rows PySem.SeqAt
section
variable {B : Base} {M0 : List (Tx × Nat)} {Wo : Wd} {cx : Cx} {A : Around} {n f : Nat}
theorem VRel.handed {h : Heap} {W : Addr → Prop} {ρ : List Addr} {x : AV} {v : Value} (p : VRel B h W ρ x v) : handedIn v = true := by
  cases p with
  | bi b => cases b <;> decide +kernel
  | _ => rfl
theorem SE_attr (R : Rx B M0 Wo A) {a : ME} {o : Expr} {nm : Str} {p : Pos} (hb : plainBase o = true) (hnm : tx nm = headersName) (h1 : SE B M0 Wo A n cx a o) : SE B M0 Wo A n cx (eAttr a (tx nm)) (.Attribute o nm p) := by
  intro env lay fr W ρ cs r s Q E T e hQ
  have hs : nm = headersStr := headers_str hnm
  obtain ⟨g, hg, e⟩ := bind_eq e
  obtain ⟨z, hz, rfl⟩ := map_eq e
  obtain ⟨⟨d, es⟩, hi, hz⟩ := bind_eq hz
  rw [arm_eval_Attribute, attributeBase_plain hb]
  refine wpAny_bind (h1 T hg fun v₁ W₁ ρ₁ s₁ af₁ r₁ => wpAny_bind (wpAny_standAt (wpAny_bind (wpAny_holding ?_))))
  obtain ⟨ad, dx, hv, hd, gd, hI, -⟩ := isInst_at af₁.ok r₁ hi
  rw [hv, hs]
  rcases af₁.ok.mem.idictAt hd gd with c | ⟨x, vv, hsh, tk, k, hes, ho, r⟩
  · rw [c.1] at hz; cases hz
  rw [hes, hnm] at hz
  obtain rfl : x = z := Option.some.inj hz
  refine R.getA af₁.ok.kept hI ho r.handed fun t => ?_
  have af := af₁.trans (af₁.ok.toks (n := n) (X := Non) t)
  exact wpAny_bind (wpAny_letTemporaryGo (wpAny_pure (hQ _ _ _ _ af ((af₁.ok.toks (n := n) (X := Non) t).val af₁.ok r))))
theorem append_str {x : Str} (h : tx x = appendTx) : x = "append" := by rw [tx_of h]; decide +kernel
theorem SE_attrApp {a : ME} {o : Expr} {nm : Str} {p : Pos} (hb : plainBase o = true) (hnm : tx nm = appendTx) (h1 : SE B M0 Wo A n cx a o) : SE B M0 Wo A n cx (eAttrApp a) (.Attribute o nm p) := by
  intro env lay fr W ρ cs r s Q E T e hQ
  obtain rfl := append_str hnm
  obtain ⟨g, hg, e⟩ := bind_eq e
  obtain ⟨i, hi, e⟩ := bind_eq e
  obtain ⟨xs, hx, rfl⟩ := map_eq e
  rw [arm_eval_Attribute, attributeBase_plain hb]
  refine wpAny_bind (h1 T hg fun v₁ W₁ ρ₁ s₁ af₁ r₁ => wpAny_bind (wpAny_standAt (wpAny_bind (wpAny_holding ?_))))
  obtain ⟨ad, hv, gi⟩ := r₁.ofRef hi
  obtain ⟨vs, ⟨k, l⟩, bd, r⟩ := af₁.ok.mem.listAt hx gi
  rw [hv]
  refine app_attr l fun t' => wpAny_bind (wpAny_letTemporaryGo (wpAny_pure ?_))
  have af : After B n Non W₁ ρ₁ g.2 s₁ W₁ ρ₁ g.2 { s₁ with heap := s₁.heap.push (appObj ad), toks := t' } := af₁.ok.push _
  exact hQ _ _ _ _ (af₁.trans af) (.app gi (Heap.get?_push_size _ rfl) (af₁.ok.newNot (Nat.le_refl _)) rfl rfl)
theorem listOf_type {W : Addr → Prop} {ρ : List Addr} {cs : Cells} {s : Shared} (o : Ok B W ρ cs s) {x : AV} {v : Value} (p : VRel B s.heap W ρ x v) {xs : List AV} (e : listOf cs x = some xs) : s.TypeIs v "list" := by
  obtain ⟨a, vs, rfl, l, _⟩ := o.mem.listOf p e
  exact l.isList.typeIs
noncomputable def Itemed (s : Shared) (v : Value) : Prop := ∃ T id, s.TypeIs v T ∧ typeLookup (.type T) "__getitem__" = pure (some (.builtin id))
theorem Itemed.list {s : Shared} {v : Value} (h : s.TypeIs v "list") : Itemed s v := ⟨_, _, h, F.slot_list_getitem.lookup⟩
theorem Itemed.str {s : Shared} {x : Str} {t : Tok} : Itemed s (.str x t) := ⟨_, _, typeIs_str s x t, F.slot_str_getitem.lookup⟩
theorem idx_itemed {W : Addr → Prop} {ρ : List Addr} {cs : Cells} {s : Shared} (o : Ok B W ρ cs s) {x i z : AV} {v : Value} (p : VRel B s.heap W ρ x v) (e : idxv cs x i = some z) : Itemed s v := by
  rcases orElse_eq e with ⟨k, _, e⟩ | e
  · rcases orElse_eq e with ⟨z, hx, e⟩ | e
    · obtain ⟨t, rfl, _⟩ := p.ofStr hx
      exact .str
    rcases orElse_eq e with ⟨z, hx, e⟩ | e
    · obtain ⟨vs, a, rfl, l, _⟩ := p.ofTup hx
      exact ⟨_, _, l.isTuple.typeIs, F.slot_tuple_getitem.lookup⟩
    · obtain ⟨xs, hx, e⟩ := bind_eq e
      exact .list (listOf_type o p hx)
  · obtain ⟨k, _, e⟩ := bind_eq e
    obtain ⟨es, he, e⟩ := bind_eq e
    obtain ⟨j, hj, he⟩ := bind_eq he
    obtain ⟨a, rfl, g⟩ := p.ofRef hj
    obtain ⟨kvs, l, _⟩ := o.mem.dictAt he g
    exact ⟨_, _, l.typeIs, F.slot_dict_getitem.lookup⟩
theorem slc_itemed {W : Addr → Prop} {ρ : List Addr} {cs : Cells} {s : Shared} (o : Ok B W ρ cs s) {m : Bool} {x lo hi : AV} {z : AV × Cells} {v : Value} (p : VRel B s.heap W ρ x v) (e : slcv m cs x lo hi = some z) : Itemed s v := by
  rcases orElse_eq e with ⟨z, hx, e⟩ | e
  · obtain ⟨t, rfl, _⟩ := p.ofStr hx
    exact .str
  · obtain ⟨xs, hx, e⟩ := bind_eq e
    exact .list (listOf_type o p hx)
theorem inPython_no {M : Model} {A : Around} {E : Value → Shared → Prop} {s : Shared} {v : Value} (h : Itemed s v) {Q : Bool → Shared → Prop} (hq : Q false s) : wpAny M A (getitemInPython v) Q E s := by
  obtain ⟨T, id, hT, hl⟩ := h
  rw [getitemInPython_of_ne hT.not_modules]
  exact wpAny_bind (wpAny_specialOf hT hl (wpAny_pure hq))
theorem subscripted_not {sl : Expr} (h : ∀ a b p, sl ≠ .Slice a b none p) (o i : Value) : subscripted sl false o i = operate [o, i] (getItem o i) := by
  unfold subscripted
  split
  · exact absurd rfl (h _ _ _)
  · simp_all
  · rfl
theorem SE_idx {a b : ME} {x y : Expr} {p : Pos} (hy : ∀ a b p, y ≠ .Slice a b none p) (h1 : SE B M0 Wo A n cx a x) (h2 : SE B M0 Wo A n cx b y) : SE B M0 Wo A n cx (eIdx a b) (.Subscript x y p) := by
  intro env lay fr W ρ cs r s Q E T e hQ
  obtain ⟨q, hq, e⟩ := bind_eq e
  obtain ⟨r', hr, e⟩ := bind_eq e
  obtain ⟨z, hz, rfl⟩ := map_eq e
  rw [arm_eval_Subscript]
  refine wpAny_bind (h1 T hq fun v₁ W₁ ρ₁ s₁ af₁ r₁ => ?_)
  refine wpAny_bind (wpAny_holding (h2 (T.after af₁) hr fun v₂ W₂ ρ₂ s₂ af₂ r₂ => ?_))
  have r₁' := af₂.val af₁.ok r₁
  refine wpAny_bind (wpAny_standAt (wpAny_bind (inPython_no (idx_itemed af₂.ok r₁' hz) ?_)))
  rw [subscripted_not hy]
  refine wpAny_bind (wpAny_operate ?_)
  exact idxv_sound af₂.ok r₁' r₂ hz fun v₃ W₃ ρ₃ s₃ af₃ r₃ => wpAny_bind (wpAny_letTemporaryGo (wpAny_pure (hQ _ _ _ _ ((af₁.trans af₂).trans af₃) r₃)))
noncomputable def SO (B : Base) (M0 : List (Tx × Nat)) (Wo : Wd) (A : Around) (n : Nat) (cx : Cx) (c : ME) (e : Option Expr) : Prop :=
  ∀ ⦃env : Env⦄ ⦃lay : List Loc⦄ ⦃fr : Fr⦄ ⦃W : Addr → Prop⦄ ⦃ρ : List Addr⦄ ⦃cs : Cells⦄ ⦃r : AV × Cells⦄ ⦃s : Shared⦄ ⦃Q E : Value → Shared → Prop⦄, At B M0 A n cx env lay fr W ρ cs s →
    c Wo n fr cs = some r → PostV B n W ρ cs s r.2 r.1 Q → wpAny (model B.prog B.w) A (valueOrNone (evalOpt e env)) Q E s
theorem SO_all {t : TrF} (h : ∀ x, SE B M0 Wo A n cx (t.e cx x) x) (e : Option Expr) : SO B M0 Wo A n cx (trO t cx e) e := by
  intro env lay fr W ρ cs r s Q E T e' hQ
  cases e with
  | none =>
    obtain rfl := Option.some.inj e'
    exact wpAny_pure (hQ _ _ _ _ (After.refl T.ok) .none)
  | some x => rw [arm_evalOpt_some]; exact h x T e' hQ
theorem SE_slc {a b c : ME} {x : Expr} {lo hi : Option Expr} {m : Bool} {p q : Pos} (h1 : SE B M0 Wo A n cx a x) (h2 : SO B M0 Wo A n cx b lo) (h3 : SO B M0 Wo A n cx c hi) : SE B M0 Wo A n cx (eSlc m a b c) (.Subscript x (.Slice lo hi none q) p) := by
  intro env lay fr W ρ cs r s Q E T e hQ
  obtain ⟨g, hg, e⟩ := bind_eq e
  obtain ⟨l, hl, e⟩ := bind_eq e
  obtain ⟨h, hh, e⟩ := bind_eq e
  rw [arm_eval_Subscript]
  refine wpAny_bind (h1 T hg fun v₁ W₁ ρ₁ s₁ af₁ r₁ => wpAny_bind (wpAny_holding ?_))
  rw [arm_eval_Slice]
  refine wpAny_bind (h2 (T.after af₁) hl fun v₂ W₂ ρ₂ s₂ af₂ r₂ => ?_)
  have T₂ := (T.after af₁).after af₂
  refine wpAny_bind (wpAny_holding (h3 T₂ hh fun v₃ W₃ ρ₃ s₃ af₃ r₃ => ?_))
  refine wpAny_bind (wpAny_holding (wpAny_pure ?_))
  refine wpAny_newObj_type (T := "slice") (data := .fields #[v₂, v₃, .none]) ?_
  have r₁' := af₃.val af₂.ok (af₂.val af₁.ok r₁)
  have a0 : After B n Non W₃ ρ₃ h.2 s₃ W₃ ρ₃ h.2 { s₃ with heap := s₃.heap.push { cls := .type "slice", data := .fields #[v₂, v₃, .none] } } := af₃.ok.push _ (tk := s₃.toks)
  refine wpAny_bind (wpAny_standAt (wpAny_bind (inPython_no (slc_itemed a0.ok (a0.val af₃.ok r₁') e) ?_)))
  show wpAny _ A (operate [_, _] (getItem _ _) >>= _) Q E _
  refine wpAny_bind (wpAny_operate ?_)
  exact slcv_sound af₃.ok (T₂.after af₃).hn r₁' (af₃.val af₂.ok r₂) r₃ e fun v₄ W₄ ρ₄ s₄ af₄ r₄ => wpAny_bind (wpAny_letTemporaryGo (wpAny_pure (hQ _ _ _ _ (((af₁.trans af₂).trans af₃).trans af₄) r₄)))
theorem joinTx_cons (x : Tx) (r : List Tx) : joinTx [] (x :: r) = x ++ joinTx [] r := by
  cases r with
  | nil => exact (List.append_nil x).symm
  | cons y r => exact congrArg (· ++ joinTx [] (y :: r)) (List.append_nil x)
theorem strOf_app (a b : Tx) : ((⟨a.toArray⟩ : Str) ++ (⟨b.toArray⟩ : Str)) = ⟨(a ++ b).toArray⟩ := by
  show Str.append _ _ = _
  unfold Str.append
  simp
noncomputable def SP (B : Base) (M0 : List (Tx × Nat)) (Wo : Wd) (A : Around) (n : Nat) (cx : Cx) (c : ME) (e : Expr) : Prop :=
  ∀ ⦃env : Env⦄ ⦃lay : List Loc⦄ ⦃fr : Fr⦄ ⦃W : Addr → Prop⦄ ⦃ρ : List Addr⦄ ⦃cs : Cells⦄ ⦃r : AV × Cells⦄ ⦃s : Shared⦄ ⦃t : Tx⦄ ⦃Q E : Value → Shared → Prop⦄, At B M0 A n cx env lay fr W ρ cs s →
    c Wo n fr cs = some r → r.1.str? = some t → PostV B n W ρ cs s r.2 (.str t) Q → wpAny (model B.prog B.w) A (eval e env) Q E s
theorem SE.sp {a : ME} {x : Expr} (h : SE B M0 Wo A n cx a x) : SP B M0 Wo A n cx a x := by
  intro env lay fr W ρ cs r s t Q E T e ht hQ
  exact h T e (by rw [str?_eq ht]; exact hQ)
theorem SP_form {a : ME} {x : Expr} {p : Pos} (h : SE B M0 Wo A n cx a x) : SP B M0 Wo A n cx a (.FormattedValue x (-1) none p) := by
  intro env lay fr W ρ cs r s t Q E T e ht hQ
  refine wpAny_FormattedValue_plain (h T e fun v₁ W₁ ρ₁ s₁ af₁ r₁ => ?_)
  obtain ⟨tk, hv, bd⟩ := r₁.ofStr ht
  rw [hv]
  refine wpAny_formatField_str (hQ _ _ _ _ af₁ (.str _ _ bd)) (hQ _ _ _ _ (af₁.trans (af₁.ok.toks _)) (.str _ _ bd)) ?_
  rw [strOf_len]; exact lim_size bd
theorem joins_sound {t : Expr → ME} (h : ∀ x, SP B M0 Wo A n cx (t x) x) {env : Env} {lay : List Loc} {fr : Fr} {E : Value → Shared → Prop} (es : List Expr) : ∀ {W : Addr → Prop} {ρ : List Addr} {cs : Cells} {s : Shared} {r : List AV × Cells} {ts : List Tx} {acc : Tx} {Q : Str → Shared → Prop}, At B M0 A n cx env lay fr W ρ cs s →
    evEs Wo n (es.map t) fr cs = some r → allStr r.1 = some ts → (acc ++ joinTx [] ts).length ≤ lim → (∀ W' ρ' s', After B n Non W ρ cs s W' ρ' r.2 s' → Q ⟨(acc ++ joinTx [] ts).toArray⟩ s') → Joins (model B.prog B.w) A E (evalEach es env) ⟨acc.toArray⟩ Q s := by
  induction es with
  | nil =>
    intro W ρ cs s r ts acc Q T e ht hl hQ
    obtain rfl := Option.some.inj e
    obtain rfl := Option.some.inj ht
    refine Joins_nil (M := model B.prog B.w) (A := A) ?_
    have := hQ _ _ _ (After.refl T.ok)
    rw [show acc ++ joinTx [] [] = acc from List.append_nil acc] at this
    exact this
  | cons x xs ih =>
    intro W ρ cs s r ts acc Q T e ht hl hQ
    obtain ⟨q, hq, e⟩ := bind_eq e
    obtain ⟨p, hp, rfl⟩ := map_eq e
    obtain ⟨t₁, hx, ht⟩ := bind_eq ht
    obtain ⟨us, hu, rfl⟩ := map_eq ht
    rw [joinTx_cons, ← List.append_assoc] at hl hQ
    refine Joins_cons (M := model B.prog B.w) (A := A) (h x T hq hx fun v₁ W₁ ρ₁ s₁ af₁ r₁ => ?_)
    obtain ⟨tk, hv, bd⟩ := r₁.inv
    refine ⟨_, _, hv, ?_, ?_⟩
    · rw [strOf_app acc t₁, strOf_len]
      rw [List.length_append] at hl
      exact lim_size (Nat.le_trans (Nat.le_add_right _ _) hl)
    · rw [strOf_app acc t₁]
      exact ih (T.after af₁) hp hu hl fun W₂ ρ₂ s₂ af₂ => hQ _ _ _ (af₁.trans af₂)
theorem SE_fstr {t : Expr → ME} (h : ∀ x, SP B M0 Wo A n cx (t x) x) {xs : List Expr} {p : Pos} : SE B M0 Wo A n cx (eFstr (xs.map t)) (.JoinedStr xs p) := by
  intro env lay fr W ρ cs r s Q E T e hQ
  obtain ⟨q, hq, e⟩ := bind_eq e
  obtain ⟨ts, ht, e⟩ := bind_eq e
  obtain ⟨hl, e⟩ := if_eq e
  obtain rfl := Option.some.inj e
  have many : wpAny (model B.prog B.w) A (joinParts Str.empty (evalEach xs env)) Q E s := by
    refine wpAny_joinPartsRec _ _ _ _ ?_
    exact joins_sound h (E := E) (acc := []) (Q := fun out s₁ => out.length ≤ sizeLine ∧ Q (.str out s₁.toks) { s₁ with toks := s₁.toks + 1 }) xs T hq ht hl fun W₁ ρ₁ s₁ af₁ => ⟨by rw [strOf_len]; exact lim_size hl, hQ _ _ _ _ (af₁.trans (af₁.ok.toks _)) (.str _ _ hl)⟩
  rw [arm_eval_JoinedStr]
  cases xs with
  | nil => exact many
  | cons x xs =>
    cases xs with
    | nil =>
      obtain ⟨q', hq', e⟩ := bind_eq hq
      obtain rfl := Option.some.inj e
      obtain ⟨t₁, hx, ht⟩ := bind_eq ht
      obtain rfl := Option.some.inj ht
      exact h x T hq' hx hQ
    | cons => exact many
theorem boolV_sound (op : BoolOp) {t : Expr → ME} (h : ∀ x, SE B M0 Wo A n cx (t x) x) {env : Env} {lay : List Loc} {fr : Fr} {p : Pos} {E Q : Value → Shared → Prop} (es : List Expr) : ∀ {W : Addr → Prop} {ρ : List Addr} {cs : Cells} {s : Shared} {r : AV × Cells}, At B M0 A n cx env lay fr W ρ cs s →
    evAOV Wo n (boolOf op) (es.map t) fr cs = some r → PostV B n W ρ cs s r.2 r.1 Q → wpAny (model B.prog B.w) A (boolOp p op (evalEach es env)) Q E s := by
  induction es with
  | nil => intro W ρ cs s r T e hQ; cases e
  | cons x xs ih =>
    intro W ρ cs s r T e hQ
    obtain ⟨q, hq, e⟩ := bind_eq e
    obtain ⟨b, hb, e⟩ := bind_eq e
    cases xs with
    | nil =>
      obtain rfl := Option.some.inj e
      rw [arm_evalEach_cons, arm_evalEach_nil]
      exact h x T hq (bool?_eq hb ▸ hQ)
    | cons x2 xs2 =>
      rw [arm_evalEach_cons, arm_evalEach_cons]
      show wpAny _ A (do
        let v ← eval x env
        standAt p
        let t ← holding [v] (PySem.truthy v)
        match op, t with
        | .And, false | .Or, true => pure v
        | _, _ => boolOp p op (eval x2 env :: evalEach xs2 env)) Q E s
      refine wpAny_bind (h x T hq fun v₁ W₁ ρ₁ s₁ af₁ r₁ => wpAny_bind (wpAny_standAt ?_))
      have ht : truthy q.2 q.1 = some b := by unfold truthy; rw [hb]; rfl
      refine wpAny_bind (wpAny_holding (truthy_sound af₁.ok r₁ ht fun t' => ?_))
      have af := af₁.trans (af₁.ok.toks (n := n) (X := Non) t')
      have rv := (af₁.ok.toks (n := n) (X := Non) t').val af₁.ok r₁
      rw [bool?_eq hb] at rv
      cases op <;> cases b
      · obtain rfl := Option.some.inj e; exact wpAny_pure (hQ _ _ _ _ af rv)
      · exact ih (T.after af) e (af.post hQ)
      · exact ih (T.after af) e (af.post hQ)
      · obtain rfl := Option.some.inj e; exact wpAny_pure (hQ _ _ _ _ af rv)
theorem SE_bool {op : BoolOp} {t : Expr → ME} (h : ∀ x, SE B M0 Wo A n cx (t x) x) {xs : List Expr} {p : Pos} : SE B M0 Wo A n cx (eAO (boolOf op) (xs.map t)) (.BoolOp op xs p) := by
  intro env lay fr W ρ cs r s Q E T e hQ
  rw [arm_eval_BoolOp]
  exact boolV_sound op h xs T e hQ
theorem SE_lam (h : cx.lamOk = true) {args : Arguments} {body : Expr} {sc : Scope} {pos : Pos} (h1 : plainLam args = true) (h2 : noFree sc = true) : SE B M0 Wo A n cx eLam (.Lambda args body sc pos) := by
  intro env lay fr W ρ cs r s Q E T e hQ
  obtain rfl := Option.some.inj e
  exact T.X.lam h h1 h2 T.ok hQ
end
end Ev
namespace Ev
open PySem PySem.W PyProof.Rows PySem.SeqAt
noncomputable def ownP (sc : Scope) : List (Str × NameKind) := sc.names.filter fun p => (p.2 == .local || p.2 == .cell) && tx p.1 != [46, 48]
theorem ownNames_eq (sc : Scope) : ownNames sc = (ownP sc).map fun p => tx p.1 := rfl
noncomputable def locOf (L : Addr) (cells : List (Str × Addr)) (p : Str × NameKind) : Loc := if p.2 == .cell then .cel ((cells.lookup p.1).getD 0) else .ns L p.1
noncomputable def layOf (L : Addr) (cells : List (Str × Addr)) (sc : Scope) : List Loc := (ownP sc).map (locOf L cells)
theorem tx_inj {x y : Str} (h : tx x = tx y) : x = y := by rw [← str_tx x, ← str_tx y, h]
theorem mem_ownP {sc : Scope} {p : Str × NameKind} (h : p ∈ ownP sc) : p ∈ sc.names ∧ (p.2 = .local ∨ p.2 = .cell) := by
  obtain ⟨h1, h2⟩ := List.mem_filter.mp h
  simp only [Bool.and_eq_true, Bool.or_eq_true, beq_iff_eq] at h2
  exact ⟨h1, h2.1⟩
theorem lookup_of_mem {α β : Type} [BEq α] [LawfulBEq α] : ∀ {l : List (α × β)} {p : α × β}, (l.map (·.1)).Nodup → p ∈ l → l.lookup p.1 = some p.2
  | (a, b) :: r, p, h, m => by
    rw [List.map_cons, List.nodup_cons] at h
    rw [List.lookup_cons]
    rcases List.mem_cons.mp m with e | m
    · subst e; simp
    · have : (p.1 == a) = false := by
        apply beq_false_of_ne
        intro e; exact h.1 (e ▸ List.mem_map_of_mem (f := fun x => x.1) m)
      rw [this]; exact lookup_of_mem h.2 m
theorem mem_of_lookup' {α β : Type} [BEq α] [LawfulBEq α] : ∀ {l : List (α × β)} {n : α} {c : β}, l.lookup n = some c → (n, c) ∈ l
  | (k, v) :: r, n, c, h => by
    rw [List.lookup_cons] at h
    cases hb : n == k with
    | true => rw [hb] at h; cases h; rw [beq_iff_eq.mp hb]; exact List.mem_cons_self
    | false => rw [hb] at h; exact List.mem_cons_of_mem _ (mem_of_lookup' h)
theorem nodup_key {α β : Type} {l : List (α × β)} (h : (l.map (·.1)).Nodup) {i j : Nat} {p q : α × β} (hi : l[i]? = some p) (hj : l[j]? = some q) (e : p.1 = q.1) : i = j := by
  have h1 : (l.map (·.1))[i]? = some p.1 := by rw [List.getElem?_map, hi]; rfl
  have h2 : (l.map (·.1))[j]? = some q.1 := by rw [List.getElem?_map, hj]; rfl
  exact (List.getElem?_inj (List.getElem?_eq_some_iff.mp h1).1 h).mp (h1.trans (e ▸ h2.symm))
theorem ownP_nodup {sc : Scope} (h : (sc.names.map (·.1)).Nodup) : ((ownP sc).map (·.1)).Nodup := h.sublist (List.filter_sublist.map _)
noncomputable def clOf (env : Env) : List (Str × NameKind) → List (Str × Addr) → List (Str × Addr)
  | [], acc => acc
  | (x, k) :: r, acc => clOf env r (if k == .free then (x, (env.cells.lookup x).getD 0) :: acc else acc)
theorem closure_go {env : Env} (f : Str × NameKind → List (Str × Addr) → Sem (ForInStep (List (Str × Addr))))
    (hf : ∀ n k cs, f (n, k) cs = if k == .free then (do let a ← cellOf env n; pure (.yield ((n, a) :: cs))) else pure (.yield cs)) :
    ∀ (names : List (Str × NameKind)) (acc : List (Str × Addr)), (∀ p ∈ names, p.2 = .free → (env.cells.lookup p.1).isSome = true) → (forIn names acc f : Sem (List (Str × Addr))) = pure (clOf env names acc)
  | [], acc, _ => by rw [List.forIn_nil]; rfl
  | (x, k) :: r, acc, h => by
    rw [List.forIn_cons, hf, clOf]
    have hr := closure_go f hf r
    by_cases hk : k = .free
    · subst hk
      have hs := h (x, .free) List.mem_cons_self rfl
      obtain ⟨c, hc⟩ := Option.isSome_iff_exists.mp hs
      simp only [beq_self_eq_true, if_true, cellOf, hc, Option.getD_some, pure_bind]
      exact hr _ fun p hp => h p (List.mem_cons_of_mem _ hp)
    · have hb : (k == NameKind.free) = false := by simpa using hk
      simp only [hb, Bool.false_eq_true, if_false, pure_bind]
      exact hr _ fun p hp => h p (List.mem_cons_of_mem _ hp)
theorem closureFor_eq {sc : Scope} {env : Env} (h : ∀ p ∈ sc.names, p.2 = .free → (env.cells.lookup p.1).isSome = true) : closureFor sc env = pure (clOf env sc.names []) := by
  unfold closureFor
  show (forIn sc.names [] _ >>= fun cs => pure cs) = _
  rw [closure_go (env := env) _ (fun n k cs => ?_) _ _ h]
  · rfl
  · by_cases hk : (k == NameKind.free) = true
    · simp only [hk, if_true]
    · simp only [hk, if_false, Bool.false_eq_true]
theorem clOf_acc {env : Env} {x : Str} {c : Addr} (hc : env.cells.lookup x = some c) : ∀ {names : List (Str × NameKind)} {acc : List (Str × Addr)}, acc.lookup x = some c → (clOf env names acc).lookup x = some c
  | [], acc, h => h
  | (y, k) :: r, acc, h => by
    rw [clOf]
    refine clOf_acc hc ?_
    split
    · rw [List.lookup_cons]
      cases hb : x == y with
      | true => rw [← beq_iff_eq.mp hb, hc]; rfl
      | false => exact h
    · exact h
theorem clOf_mem {env : Env} {x : Str} {c : Addr} (hc : env.cells.lookup x = some c) : ∀ {names : List (Str × NameKind)} {acc : List (Str × Addr)}, (x, NameKind.free) ∈ names → (clOf env names acc).lookup x = some c
  | (y, k) :: r, acc, h => by
    rw [clOf]
    rcases List.mem_cons.mp h with e | h
    · cases e
      refine clOf_acc hc ?_
      simp [hc]
    · exact clOf_mem hc h
theorem cellsFrom_app : ∀ (names : List (Str × NameKind)) (n : Nat) (acc : List (Str × Addr)), cellsFrom n names acc = cellsFrom n names [] ++ acc
  | [], _, _ => rfl
  | (x, k) :: r, n, acc => by
    simp only [cellsFrom]
    split
    · rw [cellsFrom_app r (n + 1) ((x, n) :: acc), cellsFrom_app r (n + 1) [(x, n)], List.append_assoc]; rfl
    · exact cellsFrom_app r n acc
theorem cellsFrom_some {x : Str} : ∀ {names : List (Str × NameKind)} {n : Nat} {acc : List (Str × Addr)}, ((x, NameKind.cell) ∈ names ∨ (acc.lookup x).isSome = true) → ((cellsFrom n names acc).lookup x).isSome = true
  | [], _, _, h => h.elim (fun h => nomatch h) id
  | (y, k) :: r, n, acc, h => by
    rw [cellsFrom]
    split
    · rename_i hk
      refine cellsFrom_some ?_
      rcases h with h | h
      · rcases List.mem_cons.mp h with e | h
        · cases e; exact .inr (by simp)
        · exact .inl h
      · refine .inr ?_
        rw [List.lookup_cons]
        split
        · rfl
        · exact h
    · rename_i hk
      refine cellsFrom_some ?_
      rcases h with h | h
      · rcases List.mem_cons.mp h with e | h
        · cases e; simp at hk
        · exact .inl h
      · exact .inr h
theorem cellsFrom_mem {x : Str} {c : Addr} : ∀ {names : List (Str × NameKind)} {n : Nat} {acc : List (Str × Addr)}, (x, c) ∈ cellsFrom n names acc → (x, NameKind.cell) ∈ names ∨ (x, c) ∈ acc
  | [], _, _, h => .inr h
  | (y, k) :: r, n, acc, h => by
    rw [cellsFrom] at h
    split at h
    · rename_i hk
      rcases cellsFrom_mem h with h | h
      · exact .inl (List.mem_cons_of_mem _ h)
      · rcases List.mem_cons.mp h with e | h
        · cases e; rw [beq_iff_eq.mp hk]; exact .inl List.mem_cons_self
        · exact .inr h
    · exact (cellsFrom_mem h).imp (List.mem_cons_of_mem _) id
theorem pushCells_size : ∀ (names : List (Str × NameKind)) (h : Heap), h.objs.size ≤ (pushCells h names).objs.size
  | [], h => Nat.le_refl _
  | (x, k) :: r, h => by
    rw [pushCells]
    split
    · exact Nat.le_trans (by rw [Heap.size_push]; exact Nat.le_succ _) (pushCells_size r _)
    · exact pushCells_size r h
section
variable {M : Model} {A : Around} {E : Value → Shared → Prop} {s : Shared}
noncomputable abbrev compEnv (scope : Scope) (L : Addr) (cells : List (Str × Addr)) (env : Env) : Env :=
  { scope := scope, locals := L, globals := env.globals, cells := cells, qual := env.qual, func := none, code := env.code, frame := env.frame, builtins := env.builtins }
theorem newEnv_comp {scope : Scope} {cl : List (Str × Addr)} {env : Env} {Q : Env → Shared → Prop}
    (hQ : Q (compEnv scope s.heap.objs.size (cellsFrom (s.heap.objs.size + 1) scope.names cl) env) { s with heap := pushCells (s.heap.push { cls := .type "dict", data := .dict #[] }) scope.names }) :
    wpAny M A (newFunctionEnv scope env.globals cl [] env.qual none .none (some env)) Q E s := by
  simp only [newFunctionEnv, Option.isSome_some, if_true]
  refine wpAny_bind (wpAny_alloc ?_)
  refine wpAny_bind (wpAny_layCells _ (fun name kind cells => by cases hkc : kind == NameKind.cell <;> simp [hkc]) _ _ _ _ ?_)
  rw [show ({ s with heap := s.heap.push { cls := .type "dict", data := .dict #[] } } : Shared).heap.objs.size = s.heap.objs.size + 1 from Heap.size_push ..]
  refine wpAny_bind ?_
  rw [List.forIn_nil]
  exact wpAny_pure (wpAny_pure hQ)
end
section
variable {B : Base} {n : Nat} {X W W' : Addr → Prop} {ρ ρ' : List Addr} {cs cs' : Cells} {s : Shared} {lay own : List Loc} {fr fo : Fr} {h : Heap}
noncomputable def Plus (W : Addr → Prop) (a b : Nat) : Addr → Prop := fun x => W x ∨ (a ≤ x ∧ x < b)
theorem Ok.room (o : Ok B W ρ cs s) {h' : Heap} {tk : Nat} (hsz : s.heap.objs.size ≤ h'.objs.size) (hk : ∀ a o, s.heap.get? a = some o → h'.get? a = some o) :
    After B n X W ρ cs s (Plus W s.heap.objs.size h'.objs.size) ρ cs { s with heap := h', toks := tk } :=
  (After.refl o).other (fun _ => False) hsz (fun a o e _ => hk a o e) (fun _ x => x.elim) (fun _ x => x.elim) (fun _ _ x => x) (fun _ _ x => x) (fun a l => ⟨fun w => w.elim id fun w => absurd l (Nat.not_lt.mpr w.1), .inl⟩)
    fun a w => w.elim (fun w => Nat.lt_of_lt_of_le (o.mem.wlt a w) hsz) fun w => w.2
theorem apart_of_ne {l l' : Loc} (h : l.addr ≠ l'.addr) : l.apart l' := by
  cases l <;> cases l' <;> simp only [Loc.apart, Loc.addr] at h ⊢
  · exact fun e => absurd e h
  · exact h
  · exact fun e => h e.symm
  · exact h
theorem Frm.more (F : Frm B lay fr W ρ h) (G : Frm B own fo W ρ h) (hd : ∀ l ∈ lay, ∀ l' ∈ own, l.addr ≠ l'.addr) : Frm B (lay ++ own) (fr ++ fo) W ρ h := by
  refine ⟨by rw [List.length_append, List.length_append, F.len, G.len], fun i l x hl hx => ?_, fun l hl => (List.mem_append.mp hl).elim (F.own l) (G.own l), fun i j l l' hi hj hij => ?_⟩
  · by_cases hi : i < lay.length
    · rw [List.getElem?_append_left hi] at hl
      rw [List.getElem?_append_left (F.len ▸ hi)] at hx
      exact F.rel i l x hl hx
    · rw [List.getElem?_append_right (Nat.le_of_not_lt hi)] at hl
      rw [List.getElem?_append_right (F.len ▸ Nat.le_of_not_lt hi)] at hx
      exact G.rel _ l x hl (F.len ▸ hx)
  · by_cases h1 : i < lay.length <;> by_cases h2 : j < lay.length
    · rw [List.getElem?_append_left h1] at hi
      rw [List.getElem?_append_left h2] at hj
      exact F.apart i j l l' hi hj hij
    · rw [List.getElem?_append_left h1] at hi
      rw [List.getElem?_append_right (Nat.le_of_not_lt h2)] at hj
      exact apart_of_ne (hd l (List.mem_of_getElem? hi) l' (List.mem_of_getElem? hj))
    · rw [List.getElem?_append_right (Nat.le_of_not_lt h1)] at hi
      rw [List.getElem?_append_left h2] at hj
      exact apart_of_ne (Ne.symm (hd l' (List.mem_of_getElem? hj) l (List.mem_of_getElem? hi)))
    · rw [List.getElem?_append_right (Nat.le_of_not_lt h1)] at hi
      rw [List.getElem?_append_right (Nat.le_of_not_lt h2)] at hj
      exact G.apart _ _ l l' hi hj (by omega)
theorem Frm.forget (F : Frm B lay fr W ρ h) (hl : fo.length = fr.length) (hf : ∀ (i : Nat) (x : Option AV), fo[i]? = some x → x = none ∨ fr[i]? = some x) : Frm B lay fo W ρ h := by
  refine ⟨by rw [hl]; exact F.len, fun i l x e g => ?_, F.own, F.apart⟩
  rcases hf i x g with rfl | hx
  · have hi : i < fr.length := hl ▸ (List.getElem?_eq_some_iff.mp g).1
    have r := F.rel i l _ e (show fr[i]? = some fr[i] by simp [hi])
    cases l with
    | ns L y => obtain ⟨m, hm, _⟩ := r; exact ⟨m, hm, trivial⟩
    | cel c => obtain ⟨v, hv, _⟩ := r; exact ⟨v, hv, trivial⟩
  · exact F.rel i l x e hx
theorem Frm.ofOwn {sc : Scope} {L : Addr} {cells : List (Str × Addr)} (hnd : (sc.names.map (·.1)).Nodup) (hlen : fo.length = (ownP sc).length)
    (hloc : ∀ (i : Nat) (p : Str × NameKind) (x : Option AV), (ownP sc)[i]? = some p → fo[i]? = some x → p.2 = .local → ∃ m, h.Ns L m ∧ OptRel B h W ρ x (m p.1))
    (hcel : ∀ (i : Nat) (p : Str × NameKind) (x : Option AV), (ownP sc)[i]? = some p → fo[i]? = some x → p.2 = .cell → ∃ c v, cells.lookup p.1 = some c ∧ h.IsCell c v ∧ OptRel B h W ρ x v)
    (hapart : ∀ x y c, cells.lookup x = some c → cells.lookup y = some c → (x, NameKind.cell) ∈ sc.names → (y, NameKind.cell) ∈ sc.names → x = y)
    (hL : ∀ x c, cells.lookup x = some c → (x, NameKind.cell) ∈ sc.names → c ≠ L)
    (hW : W L ∧ L ∉ ρ ∧ B.h₀.objs.size ≤ L) (hWc : ∀ x c, cells.lookup x = some c → (x, NameKind.cell) ∈ sc.names → W c ∧ c ∉ ρ ∧ B.h₀.objs.size ≤ c) : Frm B (layOf L cells sc) fo W ρ h := by
  have at' : ∀ {i : Nat} {l : Loc}, (layOf L cells sc)[i]? = some l → ∃ p x, (ownP sc)[i]? = some p ∧ fo[i]? = some x ∧ p ∈ sc.names ∧ ((p.2 = .local ∧ l = .ns L p.1) ∨ (p.2 = .cell ∧ ∃ c, cells.lookup p.1 = some c ∧ l = .cel c)) := by
    intro i l hl
    unfold layOf at hl
    rw [List.getElem?_map] at hl
    obtain ⟨p, hp, rfl⟩ := Option.map_eq_some_iff.mp hl
    have hi : i < fo.length := hlen ▸ (List.getElem?_eq_some_iff.mp hp).1
    have hx : fo[i]? = some fo[i] := by simp [hi]
    have hm := mem_ownP (List.mem_of_getElem? hp)
    refine ⟨p, _, hp, hx, hm.1, ?_⟩
    rcases hm.2 with h1 | h1
    · exact .inl ⟨h1, by unfold locOf; rw [h1]; rfl⟩
    · obtain ⟨c, v, hc, _⟩ := hcel i p _ hp hx h1
      exact .inr ⟨h1, c, hc, by unfold locOf; rw [h1, hc]; rfl⟩
  refine ⟨by unfold layOf; rw [List.length_map, hlen], fun i l x hl hx => ?_, fun l hl => ?_, fun i j l l' hi hj hij => ?_⟩
  · obtain ⟨p, x', hp, hx', hm, hc⟩ := at' hl
    rw [hx] at hx'; cases hx'
    rcases hc with ⟨h1, rfl⟩ | ⟨h1, c, hc, rfl⟩
    · exact hloc i p x hp hx h1
    · obtain ⟨c', v, hc', r⟩ := hcel i p x hp hx h1
      rw [hc] at hc'; cases hc'
      exact ⟨v, r⟩
  · obtain ⟨i, hl⟩ := List.mem_iff_getElem?.mp hl
    obtain ⟨p, x', hp, hx', hm, hc⟩ := at' hl
    rcases hc with ⟨h1, rfl⟩ | ⟨h1, c, hc, rfl⟩
    · exact hW
    · exact hWc _ _ hc (by rw [← h1]; exact hm)
  · obtain ⟨p, _, hp, _, hpm, hpc⟩ := at' hi
    obtain ⟨q, _, hq, _, hqm, hqc⟩ := at' hj
    have hne : p.1 ≠ q.1 := fun e => hij (nodup_key (ownP_nodup hnd) hp hq e)
    rcases hpc with ⟨h1, rfl⟩ | ⟨h1, c, hc, rfl⟩ <;> rcases hqc with ⟨h2, rfl⟩ | ⟨h2, c', hc', rfl⟩
    · exact fun _ => hne
    · exact fun e => hL _ _ hc' (by rw [← h2]; exact hqm) e.symm
    · exact fun e => hL _ _ hc (by rw [← h1]; exact hpm) e.symm
    · intro e; subst e
      exact hne (hapart _ _ _ hc hc' (by rw [← h1]; exact hpm) (by rw [← h2]; exact hqm))
end
end Ev
namespace Ev
open PySem PySem.W PyProof.Rows PySem.SeqAt
theorem numbered_lookup {t : Tx} : ∀ {l : List Tx} {n i : Nat}, (numbered n l).lookup t = some i → ∃ j, i = n + j ∧ l[j]? = some t
  | [], _, _, h => nomatch h
  | x :: r, n, i, h => by
    rw [numbered, List.lookup_cons] at h
    cases hb : t == x with
    | true => rw [hb] at h; cases h; exact ⟨0, rfl, by rw [beq_iff_eq.mp hb]; rfl⟩
    | false =>
      rw [hb] at h
      obtain ⟨j, rfl, hj⟩ := numbered_lookup h
      exact ⟨j + 1, by omega, by simpa using hj⟩
theorem mem_unique {α β : Type} {l : List (α × β)} (h : (l.map (·.1)).Nodup) {p q : α × β} (hp : p ∈ l) (hq : q ∈ l) (e : p.1 = q.1) : p = q := by
  obtain ⟨i, hi⟩ := List.mem_iff_getElem?.mp hp
  obtain ⟨j, hj⟩ := List.mem_iff_getElem?.mp hq
  have := nodup_key h hi hj e
  subst this
  rw [hi] at hj; cases hj; rfl
structure ScOk (cx : Cx) (sc : Scope) : Prop where
  kind : sc.kind = .function
  co : sc.isCoroutine = false
  nd : (sc.names.map (·.1)).Nodup
  free : ∀ p ∈ sc.names, p.2 = .free → (kindOf cx p.1 = some .cell ∨ kindOf cx p.1 = some .free) ∧ (cx.slots.lookup (tx p.1)).isSome = true
theorem ScOk.of {cx : Cx} {sc : Scope} (h : scopeOk cx sc = true) : ScOk cx sc := by
  unfold scopeOk at h
  simp only [Bool.and_eq_true, beq_iff_eq, Bool.not_eq_true', decide_eq_true_eq, List.all_eq_true, Bool.or_eq_true, bne_iff_ne, ne_eq] at h
  obtain ⟨⟨⟨h1, h2⟩, h3⟩, h4⟩ := h
  refine ⟨h1, h2, h3, fun p hp hf => ?_⟩
  rcases h4 p hp with h5 | h5
  · exact absurd hf h5
  · exact h5.1
noncomputable abbrev innEnv (sc : Scope) (L N : Addr) (env : Env) : Env := { compEnv sc L (cellsFrom N sc.names (clOf env sc.names [])) env with scope := relabel sc env }
noncomputable abbrev innCells (sc : Scope) (N : Addr) (env : Env) : List (Str × Addr) := cellsFrom N sc.names (clOf env sc.names [])
section
variable {B : Base} {M0 : List (Tx × Nat)} {cx : Cx} {A : Around} {env : Env} {lay : List Loc}
theorem inner_kind {sc : Scope} {x : Str} {k : NameKind} (h : kindOf (cx.inner sc) x = some k) : ∃ p ∈ sc.names, p.1 = x ∧ k = if p.2 == .free && kindOf cx p.1 == some .cell then .cell else p.2 := by
  have := mem_of_lookup' (show (cx.inner sc).kinds.lookup x = some k from h)
  obtain ⟨p, hp, e⟩ := List.mem_map.mp this
  refine ⟨p, hp, ?_⟩
  split at e
  · rename_i hc; cases e; rw [if_pos hc]; exact ⟨rfl, rfl⟩
  · rename_i hc; rw [if_neg hc]; cases e; exact ⟨rfl, rfl⟩
theorem innCells_own {sc : Scope} {N : Addr} {x : Str} (hx : (x, NameKind.cell) ∈ sc.names) : ∃ c, (innCells sc N env).lookup x = some c ∧ (cellsFrom N sc.names []).lookup x = some c := by
  obtain ⟨c, hc⟩ := Option.isSome_iff_exists.mp (cellsFrom_some (n := N) (acc := []) (.inl hx))
  refine ⟨c, ?_, hc⟩
  show (cellsFrom N sc.names (clOf env sc.names [])).lookup x = some c
  rw [cellsFrom_app, List.lookup_append, hc]; rfl
theorem EnvX.inner (X : EnvX B M0 A cx env lay) {sc : Scope} (hk : ScOk cx sc) {L N : Addr} : EnvX B M0 A (cx.inner sc) (innEnv sc L N env) (lay ++ layOf L (innCells sc N env) sc) := by
  have kindEq : ∀ x, env.kindOf x = kindOf cx x := fun x => by unfold Env.kindOf kindOf; rw [X.names]
  have uniq : ∀ {p q : Str × NameKind}, p ∈ sc.names → q ∈ sc.names → p.1 = q.1 → p = q := fun hp hq e => mem_unique hk.nd hp hq e
  have slots : ∀ {x : Str} {i : Nat}, (cx.inner sc).slots.lookup (tx x) = some i → (∃ j q, i = cx.n + j ∧ (ownP sc)[j]? = some q ∧ q.1 = x) ∨ (∃ q ∈ sc.names, q.2 = .free ∧ q.1 = x ∧ cx.slots.lookup (tx x) = some i) := by
    intro x i h
    have h : (numbered cx.n (ownNames sc) ++ (sc.names.filterMap fun p => if p.2 == .free then (cx.slots.lookup (tx p.1)).map fun i => (tx p.1, i) else none)).lookup (tx x) = some i := h
    rw [List.lookup_append] at h
    cases h1 : (numbered cx.n (ownNames sc)).lookup (tx x) with
    | some i' =>
      rw [h1] at h; cases h
      obtain ⟨j, rfl, hj⟩ := numbered_lookup h1
      rw [ownNames_eq, List.getElem?_map] at hj
      obtain ⟨q, hq, e⟩ := Option.map_eq_some_iff.mp hj
      exact .inl ⟨j, q, rfl, hq, tx_inj e⟩
    | none =>
      rw [h1] at h
      obtain ⟨q, hq, e⟩ := List.mem_filterMap.mp (mem_of_lookup' (show List.lookup (tx x) _ = some i from h))
      split at e
      · rename_i hf
        obtain ⟨i', hi', e⟩ := Option.map_eq_some_iff.mp e
        have h1 := (Prod.mk.inj e).1
        have h2 := (Prod.mk.inj e).2
        subst h2
        exact .inr ⟨q, hq, beq_iff_eq.mp hf, tx_inj h1, by rw [← h1]; exact hi'⟩
      · cases e
  have atOwn : ∀ {j : Nat} {q : Str × NameKind}, (ownP sc)[j]? = some q → (lay ++ layOf L (innCells sc N env) sc)[cx.n + j]? = some (locOf L (innCells sc N env) q) := by
    intro j q hq
    rw [List.getElem?_append_right (by rw [X.len]; omega), X.len, show cx.n + j - cx.n = j by omega]
    unfold layOf
    rw [List.getElem?_map, hq]; rfl
  refine { kind := hk.kind, names := ?_, globals := X.globals, builtins := X.builtins, globs := X.globs, loc := fun x i hl hi => ?_, cel := fun x i hl hi => ?_, meths := X.meths, len := ?_, lam := fun h => nomatch h }
  · show sc.names.map _ = sc.names.map _
    refine List.map_congr_left fun p hp => ?_
    obtain ⟨y, k⟩ := p
    rw [X.kind]
    simp only [beq_self_eq_true, Bool.and_true, kindEq]
  · obtain ⟨p, hp, rfl, hpk⟩ := inner_kind hl
    have hp2 : p.2 = .local := by
      split at hpk
      · cases hpk
      · exact hpk.symm
    rcases slots hi with ⟨j, q, rfl, hq, e⟩ | ⟨q, hq, hf, e, _⟩
    · have := uniq (mem_ownP (List.mem_of_getElem? hq)).1 hp e
      subst this
      rw [atOwn hq]
      unfold locOf; rw [hp2]; rfl
    · have := uniq hq hp e
      subst this
      rw [hf] at hp2; cases hp2
  · obtain ⟨p, hp, rfl, hpk⟩ := inner_kind (k := if kindOf (cx.inner sc) x = some .cell then .cell else .free) (x := x) (by rcases hl with h | h <;> rw [h] <;> rfl)
    rcases slots hi with ⟨j, q, rfl, hq, e⟩ | ⟨q, hq, hf, e, hsl⟩
    · have hqm := mem_ownP (List.mem_of_getElem? hq)
      have := uniq hqm.1 hp e
      subst this
      have hq2 : q.2 = .cell := by
        rcases hqm.2 with h | h
        · rw [h] at hpk
          rcases hl with h' | h' <;> rw [h'] at hpk <;> simp at hpk
        · exact h
      obtain ⟨c, hc, _⟩ := innCells_own (env := env) (N := N) (sc := sc) (x := q.1) (by rw [← hq2]; exact hqm.1)
      refine ⟨c, hc, ?_⟩
      rw [atOwn hq]
      unfold locOf; rw [hq2, hc]; rfl
    · have := uniq hq hp e
      subst this
      have hfr := hk.free q hq hf
      obtain ⟨c, hc, hlc⟩ := X.cel q.1 i hfr.1 hsl
      refine ⟨c, ?_, ?_⟩
      · show (cellsFrom N sc.names (clOf env sc.names [])).lookup q.1 = some c
        rw [cellsFrom_app, List.lookup_append]
        have hn : (cellsFrom N sc.names []).lookup q.1 = none := by
          cases h1 : (cellsFrom N sc.names []).lookup q.1 with
          | none => rfl
          | some c' =>
            rcases cellsFrom_mem (mem_of_lookup' h1) with h2 | h2
            · have := uniq h2 hq rfl
              rw [← this] at hf; cases hf
            · cases h2
        rw [hn]
        exact clOf_mem hc (by rw [← hf]; exact hq)
      · rw [List.getElem?_append_left (List.getElem?_eq_some_iff.mp hlc).1]; exact hlc
  · rw [List.length_append, X.len]
    show cx.n + (layOf L (innCells sc N env) sc).length = cx.n + (ownNames sc).length
    unfold layOf; rw [List.length_map, ownNames_eq, List.length_map]
theorem EnvX.clos (X : EnvX B M0 A cx env lay) {sc : Scope} (hk : ScOk cx sc) : closureFor sc env = pure (clOf env sc.names []) := by
  refine closureFor_eq fun p hp hf => ?_
  obtain ⟨h1, h2⟩ := hk.free p hp hf
  obtain ⟨i, hi⟩ := Option.isSome_iff_exists.mp h2
  obtain ⟨c, hc, _⟩ := X.cel p.1 i h1 hi
  rw [hc]; rfl
end
end Ev
namespace Ev
open PySem PySem.W PyProof.Rows PySem.SeqAt
theorem nameOf_eq {t : Expr} {x : Str} (h : nameOf t = some x) : ∃ p, t = .Name x p := by
  cases t with
  | Name y p => exact ⟨p, congrArg (Expr.Name · p) (Option.some.inj h)⟩
  | _ => cases h
theorem tupleOf_eq {t : Expr} {es : List Expr} (h : tupleOf t = some es) : ∃ c p, t = .Tuple es c p := by
  cases t with
  | Tuple ys c p => exact ⟨c, p, congrArg (Expr.Tuple · c p) (Option.some.inj h)⟩
  | _ => cases h
section
variable {B : Base} {M0 : List (Tx × Nat)} {Wo : Wd} {cx : Cx} {A : Around} {n f : Nat} {env : Env} {lay : List Loc} {fr : Fr}
noncomputable def slotX (is : List Nat) (lay : List Loc) : Addr → Prop := fun a => ∃ i ∈ is, locX lay i a
theorem locX_lay {i : Nat} {a : Addr} (h : locX lay i a) : layX lay a := let ⟨l, hl, e⟩ := h; ⟨l, List.mem_of_getElem? hl, e⟩
theorem slotX_lay {is : List Nat} {a : Addr} (h : slotX is lay a) : layX lay a := let ⟨i, _, hi⟩ := h; locX_lay hi
theorem Frm.layW {W : Addr → Prop} {ρ : List Addr} {h : Heap} (F : Frm B lay fr W ρ h) : ∀ a, layX lay a → W a := fun a ⟨l, hl, e⟩ => e ▸ (F.own l hl).1
noncomputable def NameSlots (cx : Cx) (es : List Expr) (is : List Nat) : Prop := (es.mapM fun e => (nameOf e).bind (trSlot cx)) = some is
theorem NameSlots.nil {is : List Nat} (h : NameSlots cx [] is) : is = [] := by
  unfold NameSlots at h
  rw [List.mapM_nil] at h
  exact (Option.some.inj h).symm
theorem NameSlots.cons {e : Expr} {es : List Expr} {is : List Nat} (h : NameSlots cx (e :: es) is) : ∃ x p i js, e = .Name x p ∧ trSlot cx x = some i ∧ is = i :: js ∧ NameSlots cx es js := by
  unfold NameSlots at h
  rw [List.mapM_cons] at h
  obtain ⟨i, hi, h⟩ := bind_eq h
  obtain ⟨js, hj, h⟩ := bind_eq h
  obtain ⟨x, hx, hi⟩ := bind_eq hi
  obtain ⟨p, hp⟩ := nameOf_eq hx
  exact ⟨x, p, i, js, hp, hi, (Option.some.inj h).symm, hj⟩
theorem NameSlots.each {es : List Expr} : ∀ {is : List Nat}, NameSlots cx es is → es.length = is.length ∧ (assignEach es env).length = es.length ∧ (assignEach es env).findIdx? (·.1) = none := by
  induction es with
  | nil => intro is h; rw [h.nil]; exact ⟨rfl, rfl, rfl⟩
  | cons e es ih =>
    intro is h
    obtain ⟨x, p, i, js, rfl, _, rfl, h'⟩ := h.cons
    have := ih h'
    have e : assignEach (.Name x p :: es) env = (false, assign (.Name x p) env) :: assignEach es env := rfl
    rw [e, List.findIdx?_cons, this.2.2, List.length_cons, List.length_cons, List.length_cons, this.1, this.2.1, this.1]
    exact ⟨rfl, rfl, rfl⟩
theorem assigns_sound (X : EnvOk B cx env lay) {Q : Unit → Shared → Prop} {E : Value → Shared → Prop} {es : List Expr} : ∀ {is : List Nat}, NameSlots cx es is → ∀ {xs : List AV} {vs : List Value} {W : Addr → Prop} {ρ : List Addr} {cs : Cells} {s : Shared} {fr : Fr}, Ok B W ρ cs s → Frm B lay fr W ρ s.heap → VRels B s.heap W ρ xs vs → is.length = xs.length →
    (∀ s', After B n (slotX is lay) W ρ cs s W ρ cs s' → Frm B lay (setAll is xs fr) W ρ s'.heap → Q () s') → wpAny (model B.prog B.w) A (assignInOrder ((assignEach es env).map (·.2)) vs) Q E s := by
  induction es with
  | nil =>
    intro is h xs vs W ρ cs s fr o F r hl hQ
    obtain rfl := h.nil
    obtain rfl := List.length_eq_zero_iff.mp hl.symm
    obtain rfl := r.inv
    exact wpAny_pure (hQ s (After.refl o) F)
  | cons e es ih =>
    intro is h xs vs W ρ cs s fr o F r hl hQ
    obtain ⟨x, p, i, js, rfl, hi, rfl, h'⟩ := h.cons
    cases xs with
    | nil => cases hl
    | cons z xs =>
    obtain ⟨v, us, rfl, hd, tl⟩ := r.inv
    show wpAny _ A (do holding us (assign (.Name x p) env v); assignInOrder ((assignEach es env).map (·.2)) us) Q E s
    refine wpAny_bind (wpAny_holding (wpAny_assign_Name (store_sound (n := n) o X F hi hd fun s₁ af₁ F₁ hlt => ?_)))
    refine ih h' af₁.ok F₁ (af₁.step.vals o.mem (fun a ha => F.layW a (locX_lay ha)) tl) (Nat.succ.inj hl) fun s₂ af₂ F₂ => ?_
    exact hQ s₂ ((af₁.weaken fun a _ ha => ⟨i, List.mem_cons_self, ha⟩).trans (af₂.weaken fun a _ ⟨j, hj, ha⟩ => ⟨j, List.mem_cons_of_mem _ hj, ha⟩)) F₂
theorem bindT_sound (hh : A.handled = none) (X : EnvOk B cx env lay) {t : Expr} {is : List Nat} (ht : trTarget cx t = some is) {x : AV} {v : Value} {fr' : Fr} {W : Addr → Prop} {ρ : List Addr} {cs : Cells} {s : Shared} {Q : Unit → Shared → Prop} {E : Value → Shared → Prop} (o : Ok B W ρ cs s) (F : Frm B lay fr W ρ s.heap) (p : VRel B s.heap W ρ x v)
    (e : bindT is x fr = some fr') (hQ : ∀ W' s', After B n (slotX is lay) W ρ cs s W' ρ cs s' → Frm B lay fr' W' ρ s'.heap → Q () s') : wpAny (model B.prog B.w) A (assign t env v) Q E s := by
  rcases orElse_eq ht with ⟨y, hy, h⟩ | h
  · obtain ⟨i, hi, rfl⟩ := map_eq h
    obtain ⟨q, rfl⟩ := nameOf_eq hy
    obtain ⟨_, e⟩ := if_eq (show (if i < fr.length then some (fr.set i (some x)) else none) = some fr' from e)
    obtain rfl := Option.some.inj e
    exact wpAny_assign_Name (store_sound (n := n) o X F hi p fun s₁ af₁ F₁ _ => hQ W s₁ (af₁.weaken fun a _ ha => ⟨i, List.mem_cons_self, ha⟩) F₁)
  · obtain ⟨es, hes, h⟩ := bind_eq h
    obtain ⟨is', ns, h⟩ := bind_eq h
    obtain ⟨h2, h⟩ := if_eq h
    obtain rfl := Option.some.inj h
    obtain ⟨c, q, rfl⟩ := tupleOf_eq hes
    rcases orElse_eq e with ⟨i, hi, _⟩ | e
    · rw [one?_eq hi] at h2; exact absurd h2 (Nat.not_succ_le_self 1)
    obtain ⟨xs, hx, e⟩ := bind_eq e
    obtain ⟨⟨hl, _⟩, e⟩ := if_eq e
    obtain rfl := Option.some.inj e
    rw [arm_assign_Tuple]
    refine wpAny_bind (wpAny_standAt ?_)
    unfold unpack
    have ns : NameSlots cx es is' := ns
    have he := ns.each (env := env)
    rw [he.2.1, he.2.2, he.1, hl]
    refine wpAny_bind (wpAny_holding (unpackItems_sound (n := n) hh o p (by rw [hx]; rfl) fun us W₁ s₁ af₁ r₁ => ?_))
    exact assigns_sound (n := n) X ns af₁.ok (F.after o af₁) r₁ hl fun s₂ af₂ F₂ => hQ W₁ s₂ (af₁.up.trans af₂) F₂
noncomputable abbrev ifsGo (env : Env) (ifs : List Expr) (b : Bool) : Sem Bool := forIn ifs b fun c r => if r = true then do let ok ← isTrue c env (eval c env); pure (ForInStep.yield ok) else pure (ForInStep.yield r)
theorem ifsGo_false {Q : Bool → Shared → Prop} {E : Value → Shared → Prop} {s : Shared} (h : Q false s) (ifs : List Expr) : wpAny (model B.prog B.w) A (ifsGo env ifs false) Q E s := by
  induction ifs with
  | nil => unfold ifsGo; rw [List.forIn_nil]; exact wpAny_pure h
  | cons c r ih =>
    unfold ifsGo; rw [List.forIn_cons, if_neg Bool.false_ne_true]
    exact wpAny_bind (wpAny_pure ih)
theorem ifs_sound {t : Expr → MB} (hb : ∀ x, SB B M0 Wo A n cx (t x) x) {E : Value → Shared → Prop} {Q : Bool → Shared → Prop} (ifs : List Expr) : ∀ {W : Addr → Prop} {ρ : List Addr} {cs : Cells} {s : Shared} {r : Bool × Cells}, At B M0 A n cx env lay fr W ρ cs s →
    evAO Wo n true (ifs.map t) fr cs = some r → PostB B n W ρ cs s r.2 r.1 Q → wpAny (model B.prog B.w) A (ifsGo env ifs true) Q E s := by
  induction ifs with
  | nil =>
    intro W ρ cs s r T e hQ
    obtain rfl := Option.some.inj e
    unfold ifsGo; rw [List.forIn_nil]; exact wpAny_pure (hQ _ _ _ (After.refl T.ok))
  | cons x xs ih =>
    intro W ρ cs s r T e hQ
    obtain ⟨⟨q, cs₁⟩, hq, e⟩ := bind_eq e
    unfold ifsGo; rw [List.forIn_cons, if_pos rfl]
    refine wpAny_bind (wpAny_bind (hb x T hq fun W₁ ρ₁ s₁ af₁ => wpAny_pure ?_))
    cases q with
    | false =>
      obtain rfl := Option.some.inj e
      exact ifsGo_false (hQ _ _ _ af₁) xs
    | true => exact ih (T.after af₁) e (af₁.postB hQ)
end
inductive Runs {σ : Type} (cells : σ → Cells) (st : AV → σ → Option σ) (it : It) : Nat → σ → σ → Prop
  | done {k : Nat} {a : σ} (h : itemAt (cells a) it k = some none) : Runs cells st it k a a
  | step {k : Nat} {x : AV} {a b c : σ} (h : itemAt (cells a) it k = some (some x)) (e : st x a = some b) (r : Runs cells st it (k + 1) b c) : Runs cells st it k a c
theorem runs_items {σ : Type} {cells : σ → Cells} {st : AV → σ → Option σ} {xs : List AV} (ys : List AV) : ∀ {k : Nat} {a c : σ}, xs.drop k = ys → goItems st ys a = some c → Runs cells st (.items xs) k a c := by
  induction ys with
  | nil =>
    intro k a c hd h
    obtain rfl := Option.some.inj h
    exact .done (congrArg some (List.getElem?_eq_none (List.drop_eq_nil_iff.mp hd)))
  | cons y ys ih =>
    intro k a c hd h
    obtain ⟨b, hb, h⟩ := bind_eq h
    have h0 : xs[k]? = some y := by
      have := List.getElem?_drop (xs := xs) (i := k) (j := 0)
      rw [hd] at this; exact this.symm
    exact .step (congrArg some h0) hb (ih (by rw [← List.drop_drop, hd]; rfl) h)
theorem runs_cell {σ : Type} {cells : σ → Cells} {st : AV → σ → Option σ} {i : Nat} (fu : Nat) : ∀ {k : Nat} {a c : σ}, goCell cells i st fu k a = some c → Runs cells st (.cell i) k a c := by
  induction fu with
  | zero => intro k a c h; cases h
  | succ fu ih =>
    intro k a c h
    obtain ⟨xs, hc, h⟩ := bind_eq h
    have hi : itemAt (cells a) (.cell i) k = some xs[k]? := congrArg (Option.map fun xs => xs[k]?) hc
    cases hx : xs[k]? with
    | none =>
      rw [hx] at h hi
      obtain rfl := Option.some.inj h
      exact .done hi
    | some x =>
      rw [hx] at h hi
      obtain ⟨b, hb, h⟩ := bind_eq h
      exact .step hi hb (ih h)
theorem runs_of {σ : Type} {cells : σ → Cells} {st : AV → σ → Option σ} {fu : Nat} {it : It} {a c : σ} (h : goIt cells st fu it a = some c) : Runs cells st it 0 a c := by
  cases it with
  | items xs => exact runs_items xs rfl h
  | cell i => exact runs_cell _ h
end Ev
namespace Ev
open PySem PySem.W PyProof.Rows PySem.SeqAt
section
variable {B : Base} {M0 : List (Tx × Nat)} {Wo : Wd} {cx : Cx} {A : Around} {n f : Nat}
structure TrAll (B : Base) (M0 : List (Tx × Nat)) (Wo : Wd) (A : Around) (n : Nat) (cx : Cx) (t : TrF) : Prop where
  e : ∀ x, SE B M0 Wo A n cx (t.e cx x) x
  b : ∀ x, SB B M0 Wo A n cx (t.b cx x) x
  star : ∀ x, isStar x = true → t.e cx x = eFail
theorem TrAll.ok {t : TrF} (H : TrAll B M0 Wo A n cx t) : TrOk B M0 Wo A n cx (t.e cx) := ⟨H.e, H.star⟩
noncomputable def SI (B : Base) (M0 : List (Tx × Nat)) (Wo : Wd) (A : Around) (n : Nat) (cx : Cx) (c : MI) (e : Expr) : Prop :=
  ∀ ⦃env : Env⦄ ⦃lay : List Loc⦄ ⦃fr : Fr⦄ ⦃W : Addr → Prop⦄ ⦃ρ : List Addr⦄ ⦃cs : Cells⦄ ⦃s : Shared⦄ ⦃r : It × Cells⦄ ⦃Q E : Value → Shared → Prop⦄, At B M0 A n cx env lay fr W ρ cs s →
    c.run Wo n fr cs = some r → (∀ I pr W' ρ' s', After B n Non W ρ cs s W' ρ' r.2 s' → IterAt B s'.heap W' ρ' I r.1 0 pr → (∀ a ∈ pr, s.heap.objs.size ≤ a) → (pr.length = 1 ∨ c.zip = true) → Q (.ref I) s') →
    wpAny (model B.prog B.w) A (eval e env) (fun x s₁ => wpAny (model B.prog B.w) A (pyIter x) Q E s₁) E s
theorem mem_one {a b : Addr} (h : a ∈ [b]) : a = b := List.mem_singleton.mp h
theorem SI_val {a : ME} {x : Expr} (h : SE B M0 Wo A n cx a x) : SI B M0 Wo A n cx (iVal a) x := by
  intro env lay fr W ρ cs s r Q E T e hQ
  obtain ⟨q, hq, e⟩ := bind_eq e
  obtain ⟨i, hi, rfl⟩ := map_eq e
  refine h T hq fun v₁ W₁ ρ₁ s₁ af₁ r₁ => ?_
  refine iter_make (n := n) af₁.ok r₁ hi fun I W₂ s₂ fresh af₂ ia => ?_
  exact hQ I [I] W₂ ρ₁ s₂ (af₁.trans af₂) ia (fun a ha => mem_one ha ▸ Nat.le_trans af₁.step.size fresh) (.inl rfl)
theorem globIs_eq {x : Str} {t : TyN} (h : globIs cx x t = true) : nameV cx x = .lit (.ty t) := by
  have h : (nameV cx x).ty? = some t := of_decide_eq_true h
  cases hn : nameV cx x with
  | lit v => rw [hn] at h; exact congrArg NV.lit (ty?_eq h)
  | var i => rw [hn] at h; cases h
  | no => rw [hn] at h; cases h
theorem callTy {t : TyN} {x : Str} {xs : List Expr} {p q : Pos} {tr : Expr → ME} (S : Stat B) (hg : globIs cx x t = true) (h2 : TrOk B M0 Wo A n cx tr)
    {env : Env} {lay : List Loc} {fr : Fr} {W : Addr → Prop} {ρ : List Addr} {cs : Cells} {s : Shared} {r : List AV × Cells} {Q E : Value → Shared → Prop} (T : At B M0 A n cx env lay fr W ρ cs s)
    (e : evEs Wo n (xs.map tr) fr cs = some r) (hQ : ∀ vs W' ρ' s', After B n Non W ρ cs s W' ρ' r.2 s' → VRels B s'.heap W' ρ' r.1 vs → wpAny (model B.prog B.w) A (call (.type (tyS t)) vs) Q E s') :
    wpAny (model B.prog B.w) A (eval (.Call (.Name x p) xs [] q) env) Q E s := by
  have h1 : SE B M0 Wo A n cx (eName (nameV cx x)) (.Name x p) := SE_name S
  rw [globIs_eq hg] at h1
  refine wpAny_Call_Name_kw (h1 T rfl fun v₁ W₁ ρ₁ s₁ af₁ r₁ => ?_)
  obtain rfl := r₁.inv
  refine callWith_gen ((h2.noStar e) env q).1 rfl (h2.all xs (T.after af₁) e fun vs W₂ ρ₂ s₂ af₂ r₂ => wpAny_pure ⟨.plain (fun a e => nomatch e), ?_⟩)
  exact hQ vs _ _ _ (af₁.trans af₂) r₂
theorem range_fin {W : Addr → Prop} {ρ : List Addr} {cs : Cells} {s : Shared} {a b c : Int} {t u v : Tok} {tk m : Nat} {Q E : Value → Shared → Prop} (o : Ok B W ρ cs s) (hsm : Builtin.Range.small a b c = true) (hm : Builtin.Range.rangeSize a b c = (m : Int))
    (hQ : ∀ I W' s', s.heap.objs.size ≤ I → After B n Non W ρ cs s W' ρ cs s' → IterAt B s'.heap W' ρ I (.items (rangeL a c m)) 0 [I] → Q (.ref I) s') :
    wpAny (model B.prog B.w) A (pyIter (.ref s.heap.objs.size)) Q E { s with heap := s.heap.push { cls := .type "range", data := .fields #[.int a t, .int b u, .int c v] }, toks := tk } := by
  have a0 : After B n Non W ρ cs s W ρ cs { s with heap := s.heap.push { cls := .type "range", data := .fields #[.int a t, .int b u, .int c v] }, toks := tk } := o.push _
  refine range_make (n := n) a0.ok (IsRange.new ..) hsm hm fun I W₂ s₂ fresh af ia => ?_
  exact hQ I W₂ s₂ (Nat.le_trans a0.step.size fresh) (a0.trans af) ia
theorem size1 (a b : Int) : Builtin.Range.rangeSize a b 1 = ((b - a).toNat : Int) := by rw [rangeSize_one]; split <;> omega
theorem near_of {a : Int} (h : near a = true) : -1000 ≤ a ∧ a ≤ 1000 := of_decide_eq_true h
theorem small_of {a b : Int} (ha : near a = true) (hb : near b = true) : Builtin.Range.small a b 1 = true := by
  have ha := near_of ha
  have hb := near_of hb
  unfold Builtin.Range.small
  rw [size1]
  simp only [Builtin.Range.rangeFitsLong, Bool.and_eq_true, Bool.or_eq_true, decide_eq_true_eq, beq_iff_eq]
  refine ⟨by omega, .inr ?_⟩
  split <;> simp only [Bool.and_eq_true, decide_eq_true_eq] <;> omega
theorem VRels.ints {h : Heap} {W : Addr → Prop} {ρ : List Addr} {xs : List AV} {vs : List Value} (r : VRels B h W ρ xs vs) : ∀ {is : List Int}, allInt xs = some is → is.length = vs.length ∧ ∀ (k : Nat) (i : Int), is[k]? = some i → ∃ t, vs[k]? = some (.int i t) :=
  r.ind (P := fun xs vs => ∀ {is : List Int}, allInt xs = some is → is.length = vs.length ∧ ∀ (k : Nat) (i : Int), is[k]? = some i → ∃ t, vs[k]? = some (.int i t)) (fun e => by obtain rfl := Option.some.inj e; exact ⟨rfl, fun _ _ e => nomatch e⟩) fun q _ ih is e => by
    obtain ⟨i, hi, e⟩ := bind_eq e
    obtain ⟨js, hj, rfl⟩ := map_eq e
    obtain ⟨t, ht⟩ := q.ofInt hi
    refine ⟨congrArg (· + 1) (ih hj).1, fun k j hk => ?_⟩
    cases k with
    | zero => exact ⟨t, by rw [ht, ← Option.some.inj hk]; rfl⟩
    | succ k => exact (ih hj).2 k j hk
theorem len_two {α : Type} {xs : List α} (h : xs.length = 2) : ∃ a b, xs = [a, b] := by
  cases xs with
  | nil => cases h
  | cons a r => exact (List.length_eq_one_iff.mp (Nat.succ.inj h)).elim fun b e => ⟨a, b, by rw [e]⟩
theorem SI_range (S : Stat B) {x : Str} {xs : List Expr} {p q : Pos} {tr : Expr → ME} (hg : globIs cx x .range = true) (h2 : TrOk B M0 Wo A n cx tr) : SI B M0 Wo A n cx (iRange (xs.map tr)) (.Call (.Name x p) xs [] q) := by
  intro env lay fr W ρ cs s r Q E T e hQ
  obtain ⟨z, hz, e⟩ := bind_eq e
  obtain ⟨ys, hy, rfl⟩ := map_eq e
  obtain ⟨is, his, hy⟩ := bind_eq hy
  refine callTy S hg h2 T hz fun vs W₁ ρ₁ s₁ af₁ r₁ => ?_
  obtain ⟨hl, hi⟩ := r₁.ints his
  match is, hy, hl, hi with
  | [k], hy, hl, hi =>
    obtain ⟨hb, hy⟩ := if_eq hy
    obtain rfl := Option.some.inj hy
    obtain ⟨v, rfl⟩ := List.length_eq_one_iff.mp hl.symm
    obtain ⟨t, ht⟩ := hi 0 k rfl
    obtain rfl := Option.some.inj ht
    refine call_range_1 (range_fin (n := n) af₁.ok (small_of (by decide) hb) (m := k.toNat) (by rw [size1, Int.sub_zero]) fun I W₂ s₂ fresh af ia => ?_)
    exact hQ I [I] W₂ ρ₁ s₂ (af₁.trans af) ia (fun a ha => mem_one ha ▸ Nat.le_trans af₁.step.size fresh) (.inl rfl)
  | [i, j], hy, hl, hi =>
    obtain ⟨hb, hy⟩ := if_eq hy
    obtain rfl := Option.some.inj hy
    obtain ⟨v, u, rfl⟩ := len_two hl.symm
    obtain ⟨t, ht⟩ := hi 0 i rfl
    obtain rfl := Option.some.inj ht
    obtain ⟨t', ht⟩ := hi 1 j rfl
    obtain rfl := Option.some.inj ht
    refine call_range_2 (range_fin (n := n) af₁.ok (small_of (Bool.and_eq_true_iff.mp hb).1 (Bool.and_eq_true_iff.mp hb).2) (size1 _ _) fun I W₂ s₂ fresh af ia => ?_)
    exact hQ I [I] W₂ ρ₁ s₂ (af₁.trans af) ia (fun a ha => mem_one ha ▸ Nat.le_trans af₁.step.size fresh) (.inl rfl)
  | [], hy, _, _ => cases hy
  | _ :: _ :: _ :: _, hy, _, _ => cases hy
theorem callOf_eq {e : Expr} {q : Expr × List Expr} (h : callOf e = some q) : ∃ p, e = .Call q.1 q.2 [] p := by
  cases e with
  | Call g bs ks p =>
    cases ks with
    | nil => obtain rfl := Option.some.inj h; exact ⟨p, rfl⟩
    | cons => cases h
  | _ => cases h
theorem TrAll.it {t : TrF} (H : TrAll B M0 Wo A n cx t) (S : Stat B) (x : Expr) : SI B M0 Wo A n cx (trI t cx x) x := by
  unfold trI
  cases hc : (callOf x).bind fun p => (nameOf p.1).map fun x => (x, p.2) with
  | none => exact SI_val (H.e x)
  | some q =>
    obtain ⟨⟨g, as⟩, hx, hc⟩ := bind_eq hc
    obtain ⟨y, hy, rfl⟩ := map_eq hc
    obtain ⟨p, rfl⟩ := callOf_eq hx
    obtain ⟨p', hg⟩ := nameOf_eq hy
    have hg : g = .Name y p' := hg
    rw [hg]
    show SI B M0 Wo A n cx (if globIs cx y .range then _ else _) _
    by_cases h1 : globIs cx y .range = true
    · rw [if_pos h1]; exact SI_range S h1 H.ok
    rw [if_neg h1]
    exact SI_val (H.e _)
end
end Ev
namespace Ev
open PySem PySem.W PyProof.Rows PySem.SeqAt
section
variable {prog : Program} {w : PySem.World} {A : Around} {R : Result → Shared → Prop} {s : Shared}
theorem codeAny_compStart_gen {elt : Expr} {gens : List Comprehension} {sc : Scope} {pos : Pos} {d : Nat} {it acc : Value} {env : Env} {g : Comprehension} (hg : gens[d]? = some g) (ha : g.is_async = 0)
    (h0 : codeAny (model prog w) A (.compLoop (.ListComp elt gens sc pos) d it acc env) R s)
    (h : wpAny (model prog w) A (pyIter it) (fun it' s' => codeAny (model prog w) A (.compLoop (.ListComp elt gens sc pos) d it' acc env) R s') (notedBy (model prog w) A env fun x s' => R (.error x) s') s) :
    codeAny (model prog w) A (.compStart (.ListComp elt gens sc pos) d it acc env) R s := by
  refine codeAny_of_tree ?_
  show wpAny _ _ ((compStart (.ListComp elt gens sc pos) d it acc env).onRaise (fun x => do noteFrame x env; standAt theWindowsPlace)) _ _ s
  refine wpAny_notedAt ?_
  unfold compStart
  have hc : clausesOf (.ListComp elt gens sc pos) = gens := rfl
  rw [hc, hg]
  simp only [Option.elim, ha, bne_self_eq_false, Bool.false_eq_true, if_false]
  refine wpAny_bind (wpAny_askSetting (wpAny_ite ?_))
  split
  · exact wpAny_pure (And.intro rfl h0)
  · exact wpAny_bind (wpAny_rule (wpAny_bind (wpAny_standAt (wpAny_bind (wpAny_mono h (fun it' s' h' => wpAny_pure (And.intro rfl h')) fun _ _ x => x)))))
end
noncomputable def bodyT (elt : Expr) (gens : List Comprehension) (sc : Scope) (pos : Pos) (d : Nat) (acc : Value) (env : Env) : Sem Unit := match gens[d]? with
  | some g' => do
    let x ← eval g'.iter env
    standAt g'.iter.pos
    let x ← foldedSetIterable g'.iter env x
    let i ← holding [x] (pyIter x)
    let _ ← runOwn (.compStart (.ListComp elt gens sc pos) d i acc env) env
    pure ()
  | none => do
    let v ← eval elt env
    let _ ← call (.builtin "list.append") [acc, v]
    pure ()
theorem compTurn_eq {elt : Expr} {gens : List Comprehension} {sc : Scope} {pos : Pos} {d : Nat} {it acc : Value} {env : Env} {g : Comprehension} (hg : gens[d]? = some g) (ha : g.is_async = 0) (ha' : ∀ g', gens[d + 1]? = some g' → g'.is_async = 0) :
    compTurn (.ListComp elt gens sc pos) d it acc env = (do
      standAt g.iter.pos
      let r ← pyNext it
      match r with
      | none => pure (.done .next)
      | some v => do
        letOwnedTupleGo g.target it v
        assign g.target env v
        let ok ← ifsGo env g.ifs true
        if ok then (do bodyT elt gens sc pos (d + 1) acc env; again (.compLoop (.ListComp elt gens sc pos) d it acc env)) else again (.compLoop (.ListComp elt gens sc pos) d it acc env)) := by
  unfold compTurn bodyT
  simp only [hg, ha]
  cases hg' : gens[d + 1]? with
  | none => rfl
  | some g' =>
    have := ha' g' hg'
    simp only [this, bne_self_eq_false, Bool.false_eq_true, if_false]
    simp only [bind_assoc, pure_bind]
    rfl
section
variable {B : Base} {M0 : List (Tx × Nat)} {Wo : Wd} {cx : Cx} {A : Around} {n : Nat} {lay : List Loc} {D : Addr}
structure CSt (B : Base) (lay : List Loc) (D : Addr) (W : Addr → Prop) (ρ : List Addr) (cs : Cells) (s : Shared) (fr : Fr) (acc : List AV) : Prop where
  ok : Ok B W ρ cs s
  frm : Frm B lay fr W ρ s.heap
  lst : ∃ vs : List Value, s.heap.PlainList D vs.toArray ∧ VRels B s.heap W ρ acc vs
  lim : acc.length ≤ lim
  own : W D ∧ D ∉ ρ ∧ B.h₀.objs.size ≤ D
  off : ∀ l ∈ lay, l.addr ≠ D
noncomputable def compX (lay : List Loc) (base : Nat) (D : Addr) : Addr → Prop := fun a => a = D ∨ ∃ i, base ≤ i ∧ locX lay i a
theorem CSt.xW {W : Addr → Prop} {ρ : List Addr} {cs : Cells} {s : Shared} {fr : Fr} {acc : List AV} (c : CSt B lay D W ρ cs s fr acc) {base : Nat} : ∀ a, compX lay base D a → W a := fun a h => by
  rcases h with rfl | ⟨i, _, h⟩
  · exact c.own.1
  · exact c.frm.layW a (locX_lay h)
theorem CSt.ownAt {W W' : Addr → Prop} {ρ ρ' : List Addr} {cs : Cells} {s s' : Shared} {fr : Fr} {acc : List AV} {X : Addr → Prop} (c : CSt B lay D W ρ cs s fr acc) (st : Step B X ρ W s.heap ρ' W' s'.heap) : W' D ∧ D ∉ ρ' ∧ B.h₀.objs.size ≤ D := by
  have hlt := c.ok.mem.wlt D c.own.1
  exact ⟨(st.wiff D hlt).mpr c.own.1, fun m => (st.fresh D m).elim c.own.2.1 fun h => absurd hlt (Nat.not_lt.mpr h), c.own.2.2⟩
theorem CSt.accAt {W W' : Addr → Prop} {ρ ρ' : List Addr} {cs : Cells} {s s' : Shared} {fr : Fr} {acc : List AV} {X : Addr → Prop} (c : CSt B lay D W ρ cs s fr acc) (st : Step B X ρ W s.heap ρ' W' s'.heap) (hD : ¬ X D) (hXW : ∀ a, X a → W a) : ∃ vs : List Value, s'.heap.PlainList D vs.toArray ∧ VRels B s'.heap W' ρ' acc vs := by
  obtain ⟨vs, ⟨k, l⟩, r⟩ := c.lst
  exact ⟨vs, ⟨k, st.kept D _ l c.own.2.1 (fun t => absurd (c.ok.mem.tabLt t) (Nat.not_lt.mpr c.own.2.2)) hD⟩, st.vals c.ok.mem hXW r⟩
theorem CSt.after {W W' : Addr → Prop} {ρ ρ' : List Addr} {cs cs' : Cells} {s s' : Shared} {fr : Fr} {acc : List AV} {X : Addr → Prop} (c : CSt B lay D W ρ cs s fr acc) (af : After B n X W ρ cs s W' ρ' cs' s') (hX : ∀ l ∈ lay, ¬ X l.addr) (hD : ¬ X D) (hXW : ∀ a, X a → W a) : CSt B lay D W' ρ' cs' s' fr acc :=
  ⟨af.ok, c.frm.step c.ok.mem af.step hX hXW, c.accAt af.step hD hXW, c.lim, c.ownAt af.step, c.off⟩
theorem CSt.non {W W' : Addr → Prop} {ρ ρ' : List Addr} {cs cs' : Cells} {s s' : Shared} {fr : Fr} {acc : List AV} (c : CSt B lay D W ρ cs s fr acc) (af : After B n Non W ρ cs s W' ρ' cs' s') : CSt B lay D W' ρ' cs' s' fr acc :=
  c.after af (fun _ _ x => x) (fun x => x) fun _ x => x.elim
theorem CSt.forget {W : Addr → Prop} {ρ : List Addr} {cs : Cells} {s : Shared} {fr fo : Fr} {acc : List AV} (c : CSt B lay D W ρ cs s fr acc) (hl : fo.length = fr.length) (hf : ∀ (i : Nat) (x : Option AV), fo[i]? = some x → x = none ∨ fr[i]? = some x) : CSt B lay D W ρ cs s fo acc :=
  ⟨c.ok, c.frm.forget hl hf, c.lst, c.lim, c.own, c.off⟩
theorem setAll_other (is : List Nat) : ∀ (xs : List AV) (fr : Fr), (setAll is xs fr).length = fr.length ∧ ∀ i, i ∉ is → (setAll is xs fr)[i]? = fr[i]? := by
  induction is with
  | nil => intro xs fr; exact ⟨rfl, fun _ _ => rfl⟩
  | cons j is ih =>
    intro xs fr
    cases xs with
    | nil => exact ⟨rfl, fun _ _ => rfl⟩
    | cons x xs =>
      obtain ⟨h1, h2⟩ := ih xs (fr.set j (some x))
      refine ⟨h1.trans (List.length_set ..), fun i hi => (h2 i fun h => hi (List.mem_cons_of_mem _ h)).trans ?_⟩
      exact List.getElem?_set_ne fun h : j = i => hi (by rw [← h]; exact List.mem_cons_self)
theorem bindT_other {is : List Nat} {x : AV} {fr fr' : Fr} (e : bindT is x fr = some fr') : fr'.length = fr.length ∧ ∀ i, i ∉ is → fr'[i]? = fr[i]? := by
  rcases orElse_eq e with ⟨j, hj, e⟩ | e
  · obtain ⟨_, e⟩ := if_eq e
    rw [one?_eq hj, ← Option.some.inj e]
    exact ⟨List.length_set .., fun i hi => List.getElem?_set_ne fun h : j = i => hi (by rw [← h]; exact List.mem_cons_self)⟩
  · obtain ⟨xs, _, e⟩ := bind_eq e
    obtain ⟨_, e⟩ := if_eq e
    rw [← Option.some.inj e]
    exact setAll_other is xs fr
theorem bindN_bindT {is : List Nat} {x : AV} {fr fr' : Fr} (e : bindN is x fr = some fr') : bindT is x fr = some fr' ∧ fr.length = fr'.length ∧ ∀ (i : Nat) (y : Option AV), fr[i]? = some y → y = none ∨ fr'[i]? = some y := by
  obtain ⟨h, e⟩ := if_eq e
  obtain ⟨h3, h4⟩ := bindT_other e
  refine ⟨e, h3.symm, fun i y hy => ?_⟩
  by_cases hi : i ∈ is
  · have := (Bool.and_eq_true_iff.mp (List.all_eq_true.mp h i hi)).2
    rw [hy] at this
    exact .inl (Option.isNone_iff_eq_none.mp this)
  · exact .inr ((h4 i hi).trans hy)
theorem marks_of {e : Expr} (h : notSet e = true) : ∀ op, behindInMarks op e = false := by
  intro op
  cases e <;> first | rfl | cases h
theorem folded_of {e : Expr} (h : notSet e = true) : ∀ x env, foldedSetIterable e env x = pure x := by
  intro x env
  cases e <;> first | rfl | cases h
structure ClInv (t : TrF) (cx inn : Cx) (k base : Nat) (g : Comprehension) (is : List Nat) (c : Cl) : Prop where
  eq : c = ⟨k, is, trI t cx g.iter, g.ifs.map (t.b inn)⟩
  asy : g.is_async = 0
  tgt : trTarget inn g.target = some is
  low : ∀ i ∈ is, base ≤ i
  folded : ∀ x env, foldedSetIterable g.iter env x = pure x
  zip : tgtOk g.target (trI t cx g.iter).zip = true
theorem trCl_inv {t : TrF} {cx inn : Cx} {k base : Nat} {g : Comprehension} {c : Cl} (h : trCl t cx inn k base g = some c) : ∃ is, ClInv t cx inn k base g is c := by
  obtain ⟨h, e⟩ := if_eq h
  have h := Bool.and_eq_true_iff.mp h
  have h2 := Bool.and_eq_true_iff.mp h.2
  have h3 := Bool.and_eq_true_iff.mp h2.2
  cases ht : trTarget inn g.target with
  | none => rw [ht] at h3; cases h3.1
  | some is =>
    rw [ht] at h3 e
    exact ⟨is, (Option.some.inj e).symm, beq_iff_eq.mp h.1, ht, fun i hi => of_decide_eq_true (List.all_eq_true.mp h3.1 i hi), folded_of h2.1, h3.2⟩
noncomputable abbrev stepC (Wo : Wd) (n : Nat) (elt : ME) (is : List Nat) (ifs : List MB) (cc : List Cl) (fr : Fr) : AV → List AV × Cells → Option (List AV × Cells) := fun x s => (bindN is x fr).bind fun fr' => (evAO Wo n true ifs fr' s.2).bind fun p =>
        if p.1 then evC Wo n elt cc fr' p.2 s.1 else some (s.1, p.2)
noncomputable def BodyOk (B : Base) (A : Around) (Wo : Wd) (n : Nat) (lay : List Loc) (base : Nat) (D : Addr) (cenv : Env) (ee : ME) (elt : Expr) (gens : List Comprehension) (sc : Scope) (pos : Pos) (cc : List Cl) (d : Nat) : Prop :=
  ∀ {fr : Fr} {W : Addr → Prop} {ρ : List Addr} {cs : Cells} {s : Shared} {acc : List AV} {r : List AV × Cells} {Q : Unit → Shared → Prop} {E : Value → Shared → Prop}, CSt B lay D W ρ cs s fr acc → n ≤ cs.length → evC Wo n ee cc fr cs acc = some r →
    (∀ W' ρ' s', After B n (compX lay base D) W ρ cs s W' ρ' r.2 s' → CSt B lay D W' ρ' r.2 s' fr r.1 → Q () s') → wpAny (model B.prog B.w) A (bodyT elt gens sc pos d (.ref D) cenv) Q E s
theorem tgtOk_zip {t : Expr} {z : Bool} (h : tgtOk t z = true) {pr : List Addr} (hp : pr.length = 1 ∨ z = true) : pr.length = 1 ∨ ∃ es c p, t = .Tuple es c p := by
  refine hp.imp id fun hz => ?_
  rw [hz] at h
  obtain ⟨es, he⟩ := Option.isSome_iff_exists.mp h
  obtain ⟨c, p, h⟩ := tupleOf_eq he
  exact ⟨es, c, p, h⟩
theorem mark_none (A : Around) : A.mark none = A := rfl
theorem loop_sound (hh : A.handled = none) {cenv : Env} {inn : Cx} {base : Nat} {elt : Expr} {gens : List Comprehension} {sc : Scope} {pos : Pos} {d : Nat} (X : EnvX B M0 A inn cenv lay)
    {ee : ME} {is : List Nat} {tb : Expr → MB} {cc : List Cl} {t it : Expr} {ie : List Expr} (hg : gens[d]? = some ⟨t, it, ie, 0⟩) (ha' : ∀ g', gens[d + 1]? = some g' → g'.is_async = 0) (ht : trTarget inn t = some is) (hs : ∀ i ∈ is, base ≤ i)
    (hb : ∀ x, SB B M0 Wo A n inn (tb x) x) (body : BodyOk B A Wo n lay base D cenv ee elt gens sc pos cc (d + 1)) {I : Addr} {ai : It} {pr : List Addr} (htz : pr.length = 1 ∨ ∃ es c p, t = .Tuple es c p) {fr : Fr} (hpr : ∀ a ∈ pr, a ≠ D ∧ ∀ l ∈ lay, l.addr ≠ a) :
    ∀ {k : Nat} {a b : List AV × Cells}, Runs (fun s : List AV × Cells => s.2) (stepC Wo n ee is (ie.map tb) cc fr) ai k a b → ∀ {W : Addr → Prop} {ρ : List Addr} {s : Shared} {R : Result → Shared → Prop}, CSt B lay D W ρ a.2 s fr a.1 → n ≤ a.2.length → IterAt B s.heap W ρ I ai k pr →
      (∀ W' ρ' s', After B n (fun x => compX lay base D x ∨ x ∈ pr) W ρ a.2 s W' ρ' b.2 s' → CSt B lay D W' ρ' b.2 s' fr b.1 → R (.ok .next) s') →
      codeAny (model B.prog B.w) A (.compLoop (.ListComp elt gens sc pos) d (.ref I) (.ref D) cenv) R s := by
  intro k a b hr
  have prX : ∀ {W : Addr → Prop} {ρ : List Addr} {s : Shared} {k : Nat}, IterAt B s.heap W ρ I ai k pr → ∀ x, x ∈ pr → W x := fun ia x hx => (ia.priv x hx).1
  have head : ∀ {k : Nat} {W : Addr → Prop} {ρ : List Addr} {cs : Cells} {acc : List AV} {s : Shared} {R : Result → Shared → Prop} {y : Option AV}, CSt B lay D W ρ cs s fr acc → IterAt B s.heap W ρ I ai k pr → itemAt cs ai k = some y →
      (y = none → ∀ s', After B n (· ∈ pr) W ρ cs s W ρ cs s' → R (.ok .next) s') →
      (∀ x, y = some x → ∀ v W' s', After B n (· ∈ pr) W ρ cs s W' ρ cs s' → VRel B s'.heap W' ρ x v → IterAt B s'.heap W' ρ I ai (k + 1) pr →
        ∀ (E : Value → Shared → Prop), wpAny (model B.prog B.w) A (do assign t cenv v; let ok ← ifsGo cenv ie true; if ok then bodyT elt gens sc pos (d + 1) (.ref D) cenv else pure ()) (fun _ s'' => codeAny (model B.prog B.w) A (.compLoop (.ListComp elt gens sc pos) d (.ref I) (.ref D) cenv) R s'') E s') →
      codeAny (model B.prog B.w) A (.compLoop (.ListComp elt gens sc pos) d (.ref I) (.ref D) cenv) R s := by
    intro k W ρ cs acc s R y c ia hy hnone hsome
    refine codeAny_of_tree ?_
    rw [Around.under_of_weight (c := .compLoop (.ListComp elt gens sc pos) d (.ref I) (.ref D) cenv) rfl]
    show wpAny _ A ((compTurn (.ListComp elt gens sc pos) d (.ref I) (.ref D) cenv).onRaise (fun x => do noteFrame x cenv; theTreesLotGoes x)) _ _ s
    refine wpAny_noted ?_
    rw [compTurn_eq hg rfl ha']
    refine wpAny_bind (wpAny_standAt (wpAny_bind (wpAny_mono (next_sound (n := n) hh c.ok ia (tgt := t) hy htz (Q := fun r s' => match r with
      | none => R (.ok .next) s'
      | some v => ∀ E, wpAny (model B.prog B.w) A (do assign t cenv v; let ok ← ifsGo cenv ie true; if ok then bodyT elt gens sc pos (d + 1) (.ref D) cenv else pure ()) (fun _ s'' => codeAny (model B.prog B.w) A (.compLoop (.ListComp elt gens sc pos) d (.ref I) (.ref D) cenv) R s'') E s') ?_ ?_) (fun r s₁ h₁ => ?_) fun _ _ e => e)))
    · exact fun e s' af => hnone e s' af
    · exact fun x e v W' s' af r ia' => hsome x e v W' s' af r ia'
    · cases r with
      | none => exact wpAny_pure h₁
      | some v =>
        refine wpAny_bind (wpAny_mono h₁ (fun _ s₂ h₂ => ?_) fun _ _ e => e)
        have h₂ := h₂ (notedBy (model B.prog B.w) A cenv fun e s' => R (.error e) s')
        have key : (do assign t cenv v; let ok ← ifsGo cenv ie true; if ok = true then (do bodyT elt gens sc pos (d + 1) (.ref D) cenv; again (.compLoop (.ListComp elt gens sc pos) d (.ref I) (.ref D) cenv)) else again (.compLoop (.ListComp elt gens sc pos) d (.ref I) (.ref D) cenv) : Sem PySem.Fin) =
            (do (do assign t cenv v; let ok ← ifsGo cenv ie true; if ok = true then bodyT elt gens sc pos (d + 1) (.ref D) cenv else pure ()); again (.compLoop (.ListComp elt gens sc pos) d (.ref I) (.ref D) cenv)) := by
          simp only [bind_assoc]
          congr 1; funext _; congr 1; funext ok
          cases ok <;> simp
        show wpAny _ A (do assign t cenv v; let ok ← ifsGo cenv ie true; if ok = true then (do bodyT elt gens sc pos (d + 1) (.ref D) cenv; again (.compLoop (.ListComp elt gens sc pos) d (.ref I) (.ref D) cenv)) else again (.compLoop (.ListComp elt gens sc pos) d (.ref I) (.ref D) cenv) : Sem PySem.Fin) _ _ s₂
        rw [key]
        exact wpAny_bind (wpAny_mono h₂ (fun _ s₃ h₃ => wpAny_pure ⟨rfl, h₃⟩) fun _ _ e => e)
  induction hr with
  | done h =>
    intro W ρ s R c hn ia hR
    refine head c ia h (fun _ s' af => hR W ρ s' (af.weaken fun _ _ => .inr) ?_) fun x e => nomatch e
    exact c.after af (fun l hl hm => (hpr _ hm).2 l hl rfl) (fun hm => (hpr _ hm).1 rfl) (prX ia)
  | @step k x a b' c' h e r ih =>
    intro W ρ s R c hn ia hR
    obtain ⟨fr', hfr, e⟩ := bind_eq e
    obtain ⟨⟨q, cs₃⟩, hp, e⟩ := bind_eq e
    obtain ⟨hbT, hfl, hff⟩ := bindN_bindT hfr
    refine head c ia h (fun e => nomatch e) fun x' ex v W₁ s₁ af₁ r₁ ia₁ E => ?_
    obtain rfl := Option.some.inj ex
    have c₁ : CSt B lay D W₁ ρ a.2 s₁ fr a.1 := c.after af₁ (fun l hl hm => (hpr _ hm).2 l hl rfl) (fun hm => (hpr _ hm).1 rfl) (prX ia)
    refine wpAny_bind (bindT_sound (n := n) hh X.toEnvOk ht c₁.ok c₁.frm r₁ hbT fun W₂ s₂ af₂ F₂ => ?_)
    have hsX : ∀ a, slotX is lay a → W₁ a := fun a ha => c₁.frm.layW a (slotX_lay ha)
    have hsD : ¬ slotX is lay D := fun ha => let ⟨l, hl, e⟩ := slotX_lay ha; c₁.off l hl e
    have c₂ : CSt B lay D W₂ ρ a.2 s₂ fr' a.1 := ⟨af₂.ok, F₂, c₁.accAt af₂.step hsD hsX, c₁.lim, c₁.ownAt af₂.step, c₁.off⟩
    have ia₂ : IterAt B s₂.heap W₂ ρ I ai (k + 1) pr := ia₁.step c₁.ok.mem af₂.step (fun x hx ha => let ⟨l, hl, e⟩ := slotX_lay ha; (hpr x hx).2 l hl e) hsX
    refine wpAny_bind (ifs_sound hb ie ⟨X, c₂.ok, c₂.frm, hn⟩ hp fun W₃ ρ₃ s₃ af₃ => ?_)
    have c₃ := c₂.non af₃
    have ia₃ : IterAt B s₃.heap W₃ ρ₃ I ai (k + 1) pr := ia₂.step c₂.ok.mem af₃.step (fun x hx ha => ha) fun x hx => hx.elim
    have hn₃ := Nat.le_trans hn (af₃.length c₂.ok)
    have af₀₃ : After B n (fun x => compX lay base D x ∨ x ∈ pr) W ρ a.2 s W₃ ρ₃ cs₃ s₃ := ((af₁.weaken fun _ _ => .inr).trans (af₂.weaken fun x _ ⟨i, hi, hx⟩ => .inl (.inr ⟨i, hs i hi, hx⟩))).trans af₃.up
    cases q with
    | false =>
      obtain rfl := Option.some.inj e
      exact wpAny_pure (ih (c₃.forget hfl hff) hn₃ ia₃ fun W' ρ' s' af' c' => hR W' ρ' s' (af₀₃.trans af') c')
    | true =>
      refine body c₃ hn₃ e fun W₄ ρ₄ s₄ af₄ c₄ => ?_
      have ia₄ : IterAt B s₄.heap W₄ ρ₄ I ai (k + 1) pr := ia₃.step c₃.ok.mem af₄.step (fun x hx ha => by
        rcases ha with ha | ⟨i, _, ha⟩
        · exact (hpr x hx).1 ha
        · obtain ⟨l, hl, e⟩ := locX_lay ha; exact (hpr x hx).2 l hl e) (c₃.xW (base := base))
      exact ih (c₄.forget hfl hff) (Nat.le_trans hn₃ (af₄.length c₃.ok)) ia₄ fun W' ρ' s' af' c' => hR W' ρ' s' ((af₀₃.trans (af₄.weaken fun _ _ => .inl)).trans af') c'
theorem body_sound (hh : A.handled = none) (S : Stat B) {cenv : Env} {inn : Cx} {base : Nat} {tf : TrF} {elt : Expr} {gens : List Comprehension} {sc : Scope} {pos : Pos} (H : TrAll B M0 Wo A n inn tf) (X : EnvX B M0 A inn cenv lay) (hasy : ∀ g ∈ gens, g.is_async = 0) (rest : List Comprehension) :
    ∀ {cc : List Cl}, rest.mapM (trCl tf inn inn 0 base) = some cc → ∀ {d : Nat}, gens.drop d = rest → BodyOk B A Wo n lay base D cenv (tf.e inn elt) elt gens sc pos cc d := by
  induction rest with
  | nil =>
    intro cc G d hd fr W ρ cs s acc r Q E c hn e hQ
    rw [List.mapM_nil] at G
    obtain rfl := Option.some.inj G
    have hg : gens[d]? = none := List.getElem?_eq_none (List.drop_eq_nil_iff.mp hd)
    obtain ⟨q, hq, e⟩ := bind_eq e
    obtain ⟨hlim, e⟩ := if_eq e
    obtain rfl := Option.some.inj e
    unfold bodyT
    rw [hg]
    refine wpAny_bind (H.e elt ⟨X, c.ok, c.frm, hn⟩ hq fun v₁ W₁ ρ₁ s₁ af₁ r₁ => ?_)
    have c₁ := c.non af₁
    obtain ⟨vs, ⟨k, l⟩, r⟩ := c₁.lst
    refine wpAny_bind (append_at (hsz := by rw [List.size_toArray, ← r.length]; exact lim_size c.lim) l fun h' hs hD => wpAny_pure ?_)
    have af₂ : After B n (fun a => a = D) W₁ ρ₁ q.2 s₁ W₁ ρ₁ q.2 { s₁ with heap := h' } :=
      (After.refl c₁.ok).other (tk := s₁.toks) (fun a => a = D) (Nat.le_of_eq hs.1.symm) (fun a o e hne => hs.extBut a o hne e) (fun a e _ => e ▸ c₁.own.1) (fun _ e _ => e) (fun a ha e => c₁.own.2.1 (e ▸ ha)) (fun a t e => absurd (c₁.ok.mem.tabLt t) (Nat.not_lt.mpr (e ▸ c₁.own.2.2))) (fun _ _ => Iff.rfl) (fun a w => by rw [hs.1]; exact c₁.ok.mem.wlt a w)
    have hXW : ∀ a, a = D → W₁ a := fun a e => e ▸ c₁.own.1
    have rr := af₂.step.vals c₁.ok.mem hXW (r.append (.cons r₁ .nil))
    refine hQ W₁ ρ₁ _ (af₁.up.trans (af₂.weaken fun _ _ e => .inl e)) ⟨af₂.ok, c₁.frm.step c₁.ok.mem af₂.step (fun l hl => c₁.off l hl) hXW, ⟨vs ++ [v₁], ⟨k + 1, by rw [hD]; simp⟩, rr⟩, ?_, c₁.own, c₁.off⟩
    rw [List.length_append, List.length_singleton]; exact hlim
  | cons g rest ih =>
    intro cc G d hd fr W ρ cs s acc r Q E c hn e hQ
    rw [List.mapM_cons] at G
    obtain ⟨c1, h1, G⟩ := bind_eq G
    obtain ⟨cc', h2, G⟩ := bind_eq G
    obtain rfl := Option.some.inj G
    obtain ⟨is, I⟩ := trCl_inv h1
    obtain ⟨t, it, ie, a⟩ := g
    obtain ⟨rfl, ha, ht, hs, hf, hz⟩ := I
    dsimp only at ha ht hf hz e
    subst ha
    have hg : gens[d]? = some ⟨t, it, ie, 0⟩ := by
      have := List.getElem?_drop (xs := gens) (i := d) (j := 0)
      rw [hd] at this; exact this.symm
    have hd' : gens.drop (d + 1) = rest := by rw [← List.drop_drop, hd]; rfl
    obtain ⟨q, hq, e⟩ := bind_eq e
    have hfr : fr ++ List.replicate 0 none = fr := List.append_nil fr
    rw [hfr] at e
    have runs := runs_of e
    unfold bodyT
    rw [hg]
    refine wpAny_bind (wpAny_mono (H.it S it ⟨X, c.ok, c.frm, hn⟩ hq (Q := fun i s₁ => wpAny (model B.prog B.w) A (do let _ ← runOwn (.compStart (.ListComp elt gens sc pos) d i (.ref D) cenv) cenv; pure ()) Q E s₁) (E := E) fun I pr W₁ ρ₁ s₁ af₁ ia fresh htz => ?_) (fun x s₁ h₁ => ?_) fun _ _ e => e)
    · have c₁ := c.non af₁
      have prOff : ∀ a ∈ pr, a ≠ D ∧ ∀ l ∈ lay, l.addr ≠ a := fun a ha => by
        have hge := fresh a ha
        exact ⟨fun e => absurd (c.ok.mem.wlt D c.own.1) (Nat.not_lt.mpr (e ▸ hge)), fun l hl e => absurd (c.ok.mem.wlt _ (c.frm.own l hl).1) (Nat.not_lt.mpr (e ▸ hge))⟩
      have ha' : ∀ g', gens[d + 1]? = some g' → g'.is_async = 0 := fun g' hg' => hasy g' (List.mem_of_getElem? hg')
      have loop : codeAny (model B.prog B.w) A (.compLoop (.ListComp elt gens sc pos) d (.ref I) (.ref D) cenv) (fun r s' => match r with | .ok f => wpAny (model B.prog B.w) A (pure () : Sem Unit) Q E s' | .error e => cameBackBy (model B.prog B.w) A cenv E e s') s₁ := by
        refine loop_sound hh X hg ha' ht hs H.b (ih h2 hd') (tgtOk_zip hz htz) prOff runs c₁ (Nat.le_trans hn (af₁.length c.ok)) ia fun W' ρ' s' af' c' => wpAny_pure ?_
        refine hQ W' ρ' s' ?_ c'
        exact (af₁.up.trans (af'.weaken (Y := fun x => compX lay base D x ∨ x ∈ pr) fun _ _ h => h)).weaken fun x l h => h.elim id fun hx => absurd l (Nat.not_lt.mpr (fresh x hx))
      refine wpAny_bind (wpAny_runOwn ?_)
      rw [mark_none]
      exact codeAny_compStart_gen hg rfl loop (self_sound ia.st loop)
    · refine wpAny_bind (wpAny_standAt ?_)
      rw [hf]
      refine wpAny_bind (wpAny_pure (wpAny_bind (wpAny_holding (wpAny_mono h₁ (fun i s₂ h₂ => h₂) fun _ _ e => e))))
end
end Ev
namespace Ev
open PySem PySem.W PyProof.Rows PySem.SeqAt
section
variable {B : Base} {M0 : List (Tx × Nat)} {Wo : Wd} {cx : Cx} {A : Around} {n : Nat} {env : Env} {lay : List Loc} {fr : Fr}
structure CompEnd (B : Base) (n : Nat) (W : Addr → Prop) (ρ : List Addr) (cs : Cells) (s : Shared) (cs' : Cells) (xs : List AV) (D L : Addr) (W' : Addr → Prop) (ρ' : List Addr) (s' : Shared) : Prop where
  af : After B n Non W ρ cs s W' ρ' cs' s'
  ownD : W' D ∧ D ∉ ρ' ∧ B.h₀.objs.size ≤ D ∧ s.heap.objs.size ≤ D
  ownL : W' L ∧ L ∉ ρ' ∧ B.h₀.objs.size ≤ L ∧ s.heap.objs.size ≤ L
  ne : D ≠ L
  lst : ∃ vs : List Value, s'.heap.PlainList D vs.toArray ∧ VRels B s'.heap W' ρ' xs vs
  lim : xs.length ≤ lim
  ns : ∃ m, s'.heap.Ns L m
theorem comp_core (hh : A.handled = none) (S : Stat B) {sc : Scope} (hk : ScOk cx sc) {tf : TrF} (H : TrAll B M0 Wo A n cx tf) (Hi : TrAll B M0 Wo A n (cx.inner sc) tf) {elt : Expr} {pos : Pos} {is : List Nat} {cc : List Cl} {t it : Expr} {ie : List Expr} {rest : List Comprehension}
    (G : rest.mapM (trCl tf (cx.inner sc) (cx.inner sc) 0 cx.n) = some cc) (ht : trTarget (cx.inner sc) t = some is) (hs : ∀ i ∈ is, cx.n ≤ i) (hz : tgtOk t (trI tf cx it).zip = true) (hasy : ∀ g ∈ rest, g.is_async = 0)
    {W : Addr → Prop} {ρ : List Addr} {cs cs' : Cells} {s : Shared} {xs : List AV} {RR : Value → Addr → Result → Shared → Prop} {E : Value → Shared → Prop} (T : At B M0 A n cx env lay fr W ρ cs s)
    (e : evC Wo n (tf.e (cx.inner sc) elt) (⟨(ownNames sc).length, is, trI tf cx it, ie.map (tf.b (cx.inner sc))⟩ :: cc) fr cs [] = some (xs, cs')) (hRR : ∀ D L W' ρ' s', CompEnd B n W ρ cs s cs' xs D L W' ρ' s' → RR (.ref D) L (.ok .next) s') :
    wpAny (model B.prog B.w) A (eval it env) (fun x s₁ => wpAny (model B.prog B.w) A (pyIter x) (fun i s₂ => wpAny (model B.prog B.w) A (newList []) (fun acc s₃ =>
      wpAny (model B.prog B.w) A (newFunctionEnv sc env.globals (clOf env sc.names []) [] env.qual none .none (some env)) (fun cenv s₄ =>
        codeAny (model B.prog B.w) A (.compStart (.ListComp elt (⟨t, it, ie, 0⟩ :: rest) sc pos) 0 i acc { cenv with scope := relabel sc env }) (RR acc cenv.locals) s₄) E s₃) E s₂) E s₁) E s := by
  obtain ⟨X, ok, F, hn⟩ := T
  obtain ⟨q, hq, e⟩ := bind_eq e
  have runs := runs_of e
  refine H.it S it ⟨X, ok, F, hn⟩ hq fun I pr W₁ ρ₁ s₁ af₁ ia fresh htz => ?_
  refine wpAny_newObj_type (newEnv_comp ?_)
  have m₁ := af₁.ok.mem
  generalize hH1 : s₁.heap.push { cls := .type "list", dict := none, data := .seq ([] : List Value).toArray } = H1
  have z1 : H1.objs.size = s₁.heap.objs.size + 1 := by rw [← hH1, Heap.size_push]
  generalize hH2 : pushCells (H1.push { cls := .type "dict", data := .dict #[] }) sc.names = H2
  have hgrow : (H1.push { cls := .type "dict", data := .dict #[] }).objs.size ≤ H2.objs.size := hH2 ▸ pushCells_size _ _
  have z2 : H1.objs.size + 1 ≤ H2.objs.size := by rw [Heap.size_push] at hgrow; exact hgrow
  have keep1 : ∀ a o, H1.get? a = some o → H2.get? a = some o := fun a o e => hH2 ▸ pushCells_keeps _ _ _ _ (Heap.get?_push_of_some _ e)
  have keep : ∀ a o, s₁.heap.get? a = some o → H2.get? a = some o := fun a o e => keep1 a o (hH1 ▸ Heap.get?_push_of_some _ e)
  have hD : H2.get? s₁.heap.objs.size = some { cls := .type "list", dict := none, data := .seq ([] : List Value).toArray } := keep1 _ _ (hH1 ▸ Heap.get?_push_size _ rfl)
  have hNsL : H2.Ns H1.objs.size (fun _ => none) := (Heap.Ns.new H1 (.type "dict")).at' fun o e => hH2 ▸ pushCells_keeps _ _ _ _ e
  have hcells := cellsFrom_ok sc.names (H1.push { cls := .type "dict", data := .dict #[] }) (H1.objs.size + 1) [] ⟨fun _ _ hm => (nomatch hm), List.Pairwise.nil⟩ (by rw [Heap.size_push]; exact Nat.le_refl _)
  rw [Heap.size_push, hH2] at hcells
  have room : After B n Non W₁ ρ₁ q.2 s₁ (Plus W₁ s₁.heap.objs.size H2.objs.size) ρ₁ q.2 { s₁ with heap := H2, toks := s₁.toks } := af₁.ok.room (by omega) keep
  have c0 : ∀ {x : Str} {c : Addr}, (innCells sc (H1.objs.size + 1) env).lookup x = some c → (x, NameKind.cell) ∈ sc.names → (cellsFrom (H1.objs.size + 1) sc.names []).lookup x = some c := fun {x c} h hm => by
    obtain ⟨c', h1, h2⟩ := innCells_own (env := env) (N := H1.objs.size + 1) hm
    rw [h] at h1; cases h1; exact h2
  have cell0 : ∀ {x : Str} {c : Addr}, (innCells sc (H1.objs.size + 1) env).lookup x = some c → (x, NameKind.cell) ∈ sc.names → H2.IsCell c none ∧ H1.objs.size + 1 ≤ c := fun h hm => hcells.empty _ _ (mem_of_lookup (c0 h hm))
  have ρlt : ∀ a ∈ ρ₁, a < s₁.heap.objs.size := fun a z => m₁.wlt a (m₁.own a z).1
  have newOwn : ∀ a, s₁.heap.objs.size ≤ a → a < H2.objs.size → Plus W₁ s₁.heap.objs.size H2.objs.size a ∧ a ∉ ρ₁ ∧ B.h₀.objs.size ≤ a := fun a h1 h2 => ⟨.inr ⟨h1, h2⟩, fun z => absurd (ρlt a z) (Nat.not_lt.mpr h1), Nat.le_trans m₁.size h1⟩
  have hk' : (ownP sc).length = (ownNames sc).length := by rw [ownNames_eq, List.length_map]
  have FO : Frm B (layOf H1.objs.size (innCells sc (H1.objs.size + 1) env) sc) (List.replicate (ownNames sc).length none) (Plus W₁ s₁.heap.objs.size H2.objs.size) ρ₁ H2 := by
    refine Frm.ofOwn hk.nd (by rw [List.length_replicate, hk']) (fun i p x hp hx hl => ⟨_, hNsL, ?_⟩) (fun i p x hp hx hc => ?_) (fun x y c hx hy hmx hmy => ?_) (fun x c hx hm => ?_) (newOwn _ (by omega) (by omega)) (fun x c hx hm => ?_)
    · have := List.eq_of_mem_replicate (List.mem_of_getElem? hx)
      subst this; trivial
    · have := List.eq_of_mem_replicate (List.mem_of_getElem? hx)
      subst this
      have hm := (mem_ownP (List.mem_of_getElem? hp)).1
      obtain ⟨c, h1, _⟩ := innCells_own (env := env) (N := H1.objs.size + 1) (x := p.1) (by rw [← hc]; exact hm)
      exact ⟨c, none, h1, (cell0 h1 (by rw [← hc]; exact hm)).1, trivial⟩
    · exact name_of_addr hcells.apart (mem_of_lookup (c0 hx hmx)) (mem_of_lookup (c0 hy hmy))
    · have := (cell0 hx hm).2
      intro e; rw [e] at this; omega
    · have h1 := cell0 hx hm
      have h2 := h1.1.lt
      exact newOwn c (by omega) h2
  have F₁ := F.after ok af₁
  have F₂ : Frm B lay fr (Plus W₁ s₁.heap.objs.size H2.objs.size) ρ₁ H2 := F₁.after af₁.ok room
  have layLt : ∀ l ∈ lay, @LT.lt Nat _ l.addr s.heap.objs.size := fun l hl => ok.mem.wlt _ (F.own l hl).1
  have ownGe : ∀ l ∈ layOf H1.objs.size (innCells sc (H1.objs.size + 1) env) sc, @LE.le Nat _ H1.objs.size l.addr := fun l hl => by
    obtain ⟨p, hp, rfl⟩ := List.mem_map.mp hl
    have hm := mem_ownP hp
    rcases hm.2 with h | h
    · unfold locOf; rw [h]; exact Nat.le_refl _
    · obtain ⟨c, h1, _⟩ := innCells_own (env := env) (N := H1.objs.size + 1) (x := p.1) (by rw [← h]; exact hm.1)
      have := (cell0 h1 (by rw [← h]; exact hm.1)).2
      unfold locOf; rw [h, h1]
      show H1.objs.size ≤ c
      omega
  have sz1 := af₁.step.size
  have c₂ : CSt B (lay ++ layOf H1.objs.size (innCells sc (H1.objs.size + 1) env) sc) s₁.heap.objs.size (Plus W₁ s₁.heap.objs.size H2.objs.size) ρ₁ q.2 { s₁ with heap := H2, toks := s₁.toks } (fr ++ List.replicate (ownNames sc).length none) [] := by
    refine ⟨room.ok, F₂.more FO fun l hl l' hl' e => ?_, ⟨[], ⟨_, hD⟩, .nil⟩, Nat.zero_le _, newOwn _ (Nat.le_refl _) (by omega), fun l hl e => ?_⟩
    · have h1 := layLt l hl
      have h2 := ownGe l' hl'
      have e : @Eq Nat l.addr l'.addr := e; omega
    · rcases List.mem_append.mp hl with hl | hl
      · have h1 := layLt l hl; have e : @Eq Nat l.addr s₁.heap.objs.size := e; omega
      · have h1 := ownGe l hl; have e : @Eq Nat l.addr s₁.heap.objs.size := e; omega
  have prLt : ∀ a ∈ pr, @LT.lt Nat _ a s₁.heap.objs.size := fun a ha => m₁.wlt a (ia.priv a ha).1
  have prOff : ∀ a ∈ pr, a ≠ s₁.heap.objs.size ∧ ∀ l ∈ lay ++ layOf H1.objs.size (innCells sc (H1.objs.size + 1) env) sc, l.addr ≠ a := fun a ha => by
    have h1 := prLt a ha
    have h2 : @LE.le Nat _ s.heap.objs.size a := fresh a ha
    refine ⟨Nat.ne_of_lt h1, fun l hl e => ?_⟩
    rcases List.mem_append.mp hl with hl | hl
    · have h3 := layLt l hl; have e : @Eq Nat l.addr a := e; omega
    · have h3 := ownGe l hl; have e : @Eq Nat l.addr a := e; omega
  have ia₂ : IterAt B H2 (Plus W₁ s₁.heap.objs.size H2.objs.size) ρ₁ I q.1 0 pr := ia.step m₁ room.step (fun _ _ h => h) fun _ h => h.elim
  have X' := X.inner hk (L := H1.objs.size) (N := H1.objs.size + 1)
  have hasy' : ∀ g ∈ (⟨t, it, ie, 0⟩ :: rest : List Comprehension), g.is_async = 0 := fun g hg => (List.mem_cons.mp hg).elim (fun e => e ▸ rfl) (hasy g)
  have loop : codeAny (model B.prog B.w) A (.compLoop (.ListComp elt (⟨t, it, ie, 0⟩ :: rest) sc pos) 0 (.ref I) (.ref s₁.heap.objs.size) (innEnv sc H1.objs.size (H1.objs.size + 1) env)) (RR (.ref s₁.heap.objs.size) H1.objs.size) { s₁ with heap := H2, toks := s₁.toks } := by
    refine loop_sound hh X' rfl (fun g' hg' => hasy' g' (List.mem_of_getElem? hg')) ht hs Hi.b (body_sound hh S Hi X' hasy' rest G (d := 1) rfl) (tgtOk_zip hz htz) prOff runs c₂ (Nat.le_trans hn (af₁.length ok)) ia₂ fun W' ρ' s' af' c' => ?_
    refine hRR _ _ W' ρ' s' ?_
    have freshX : ∀ x, (compX (lay ++ layOf H1.objs.size (innCells sc (H1.objs.size + 1) env) sc) cx.n s₁.heap.objs.size x ∨ x ∈ pr) → s.heap.objs.size ≤ x := fun x hx => by
      rcases hx with (rfl | ⟨i, hi, l, hl, rfl⟩) | hx
      · exact sz1
      · rw [List.getElem?_append_right (by rw [X.len]; exact hi)] at hl
        have := ownGe l (List.mem_of_getElem? hl)
        omega
      · exact fresh x hx
    have tot : After B n Non W ρ cs s W' ρ' cs' s' := (af₁.trans room).fresh (X := Non) af' freshX
    have oL := newOwn H1.objs.size (by omega) (by omega)
    have hLlt : H1.objs.size < H2.objs.size := by omega
    refine ⟨tot, ⟨c'.own.1, c'.own.2.1, c'.own.2.2, sz1⟩, ⟨(af'.step.wiff _ hLlt).mpr oL.1, fun z => (af'.step.fresh _ z).elim oL.2.1 fun h => absurd hLlt (Nat.not_lt.mpr h), oL.2.2, by omega⟩, (fun e => by have e : @Eq Nat s₁.heap.objs.size H1.objs.size := e; omega), c'.lst, c'.lim, ?_⟩
    by_cases hloc : ∃ p ∈ ownP sc, p.2 = .local
    · obtain ⟨p, hp, hl⟩ := hloc
      have hm : locOf H1.objs.size (innCells sc (H1.objs.size + 1) env) p ∈ lay ++ layOf H1.objs.size (innCells sc (H1.objs.size + 1) env) sc := List.mem_append_right _ (List.mem_map_of_mem hp)
      have he : locOf H1.objs.size (innCells sc (H1.objs.size + 1) env) p = .ns H1.objs.size p.1 := by unfold locOf; rw [hl]; rfl
      rw [he] at hm
      obtain ⟨i, hi⟩ := List.mem_iff_getElem?.mp hm
      obtain ⟨x, _, m, hm, _⟩ := c'.frm.relAt hi
      exact ⟨m, hm⟩
    · refine ⟨_, hNsL.at' fun o e => af'.step.kept _ o e oL.2.1 (fun tb => absurd (m₁.tabLt tb) (Nat.not_lt.mpr oL.2.2)) fun hx => ?_⟩
      rcases hx with (h | ⟨i, hi, l, hl, h⟩) | h
      · have h : @Eq Nat H1.objs.size s₁.heap.objs.size := h; omega
      · rw [List.getElem?_append_right (by rw [X.len]; exact hi)] at hl
        obtain ⟨p, hp, rfl⟩ := List.mem_map.mp (List.mem_of_getElem? hl)
        have hm := mem_ownP hp
        rcases hm.2 with h2 | h2
        · exact hloc ⟨p, hp, h2⟩
        · obtain ⟨c, h1, _⟩ := innCells_own (env := env) (N := H1.objs.size + 1) (x := p.1) (by rw [← h2]; exact hm.1)
          have h3 := (cell0 h1 (by rw [← h2]; exact hm.1)).2
          unfold locOf at h
          rw [h2, h1] at h
          have h : c = H1.objs.size := h
          have h : @Eq Nat c H1.objs.size := h; omega
      · have := prLt _ h; have h4 : @LT.lt Nat _ H1.objs.size s₁.heap.objs.size := this; omega
  exact codeAny_compStart_gen (g := ⟨t, it, ie, 0⟩) rfl rfl loop (self_sound ia₂.st loop)
end
end Ev
namespace Ev
open PySem PySem.W PyProof.Rows PySem.SeqAt
section
variable {B : Base} {M0 : List (Tx × Nat)} {Wo : Wd} {cx : Cx} {A : Around} {n : Nat} {env : Env} {lay : List Loc} {fr : Fr} {W : Addr → Prop} {ρ : List Addr} {cs cs' : Cells} {h : Heap} {s : Shared}
theorem Mem.free (m : Mem B W ρ cs h) {D : Addr} (hD : D ∉ ρ) (hb : B.h₀.objs.size ≤ D) : Mem B (fun a => W a ∧ a ≠ D) ρ cs h := by
  refine ⟨m.len, fun i o a e g => (m.cell i o a e g).mono rfl (fun a o e _ => e) (fun a _ w => w.1) (fun _ _ e => e), m.inj, fun a ha => ⟨⟨(m.own a ha).1, fun e => hD (e ▸ ha)⟩, (m.own a ha).2⟩, fun a w => m.wlt a w.1, fun a o e => ⟨(m.base a o e).1, fun w => (m.base a o e).2 w.1⟩, fun p hp => ?_, m.size⟩
  obtain ⟨t, w, l⟩ := m.tab p hp
  exact ⟨t, ⟨w, fun e => absurd l (Nat.not_lt.mpr (e ▸ hb))⟩, l⟩
theorem Mem.adopt (m : Mem B W ρ cs h) {D : Addr} (hW : W D) (hD : D ∉ ρ) (hb : B.h₀.objs.size ≤ D) {o : AObj} (c : CRel B h W (ρ ++ [D]) D o) : Mem B W (ρ ++ [D]) (cs ++ [o]) h := by
  refine ⟨by simp [m.len], fun i o' a e g => ?_, ?_, fun a z => ?_, m.wlt, m.base, m.tab, m.size⟩
  · by_cases hi : i < cs.length
    · rw [List.getElem?_append_left hi] at e
      rw [List.getElem?_append_left (m.len ▸ hi)] at g
      exact (m.cell i o' a e g).mono rfl (fun a o e _ => e) (fun a _ w => w) fun j b q => getElem?_append_some _ q
    · have hi' : i = cs.length := by
        have := (List.getElem?_eq_some_iff.mp e).1
        simp at this; omega
      subst hi'
      simp at e; subst e
      rw [m.len] at g
      simp at g; subst g
      exact c
  · exact List.nodup_append.mpr ⟨m.inj, by simp, fun a ha b hb e => by simp at hb; subst hb; exact hD (e ▸ ha)⟩
  · rcases List.mem_append.mp z with z | z
    · exact m.own a z
    · simp at z; subst z; exact ⟨hW, hb⟩
theorem mk_fin {W W' : Addr → Prop} {ρ ρ' : List Addr} {cs cs' : Cells} {s s' : Shared} {xs : List AV} {D : Addr} {vs : List Value} {m : Bool} {r : AV × Cells} (o : Ok B W ρ cs s) (hn : n ≤ cs.length) (af : After B n Non W ρ cs s W' ρ' cs' s')
    (ownD : W' D ∧ D ∉ ρ' ∧ B.h₀.objs.size ≤ D ∧ s.heap.objs.size ≤ D) (l : s'.heap.PlainList D vs.toArray) (rv : VRels B s'.heap W' ρ' xs vs) (e : mk m xs cs' = some r) :
    ∃ W'' ρ'', After B n Non W ρ cs s W'' ρ'' r.2 s' ∧ VRel B s'.heap W'' ρ'' r.1 (.ref D) ∧ (∀ a, a ≠ D → (W'' a ↔ W' a)) ∧ ∀ a ∈ ρ'', a ∈ ρ' ∨ a = D := by
  obtain ⟨hl, e⟩ := if_eq e
  cases m with
  | false =>
    obtain rfl := Option.some.inj e
    refine ⟨fun a => W' a ∧ a ≠ D, ρ', ⟨⟨af.ok.mem.free ownD.2.1 ownD.2.2.1, af.ok.gens⟩, ⟨af.step.kept, fun a hlt => ⟨fun w => (af.step.wiff a hlt).mp w.1, fun w => ⟨(af.step.wiff a hlt).mpr w, fun e => absurd hlt (Nat.not_lt.mpr (e ▸ ownD.2.2.2))⟩⟩, af.step.pre, af.step.fresh, af.step.size⟩, af.os, af.low⟩, ?_, fun a ha => ⟨fun w => w.1, fun w => ⟨w, ha⟩⟩, fun a ha => .inl ha⟩
    exact .lst l hl (fun w => w.2 rfl) (rv.mono (fun _ _ e w => e) (fun _ _ w => w.1) fun _ _ e => e)
  | true =>
    obtain rfl := Option.some.inj e
    have hn' := Nat.le_trans hn (af.length o)
    refine ⟨W', ρ' ++ [D], ⟨⟨af.ok.mem.adopt ownD.1 ownD.2.1 ownD.2.2.1 ⟨vs, l, hl, rv.mono (fun _ _ e _ => e) (fun _ _ w => w) fun _ _ e => getElem?_append_some _ e⟩, af.ok.gens⟩, ⟨af.step.kept, af.step.wiff, fun i a e => getElem?_append_some _ (af.step.pre i a e), fun a ha => ?_, af.step.size⟩, af.os, af.low.trans (lowTo_append hn' _)⟩, .ref ?_, fun _ _ => Iff.rfl, fun a ha => (List.mem_append.mp ha).imp id mem_one⟩
    · rcases List.mem_append.mp ha with ha | ha
      · exact af.step.fresh a ha
      · exact .inr (mem_one ha ▸ ownD.2.2.2)
    · rw [af.ok.mem.len]; exact List.getElem?_concat_length
theorem CompEnd.letGo {xs : List AV} {D L : Addr} {W' : Addr → Prop} {ρ' : List Addr} {s' : Shared} (c : CompEnd B n W ρ cs s cs' xs D L W' ρ' s') {h' : Heap} (hs : Heap.SameBut L s'.heap h') :
    After B n Non W ρ cs s W' ρ' cs' { s' with heap := h' } ∧ ∃ vs : List Value, h'.PlainList D vs.toArray ∧ VRels B h' W' ρ' xs vs := by
  have tb : ∀ a, B.isTab a → ¬ a = L := fun a t e => absurd (c.af.ok.mem.tabLt t) (Nat.not_lt.mpr (e ▸ c.ownL.2.2.1))
  refine ⟨c.af.other (tk := s'.toks) (fun a => a = L) (Nat.le_of_eq hs.1.symm) (fun a o e hne => hs.extBut a o hne e) (fun a e _ => e ▸ c.ownL.1) (fun x e hlt => absurd hlt (Nat.not_lt.mpr (e ▸ c.ownL.2.2.2))) (fun a ha e => c.ownL.2.1 (e ▸ ha)) tb (fun _ _ => Iff.rfl) (fun a w => by rw [hs.1]; exact c.af.ok.mem.wlt a w), ?_⟩
  obtain ⟨vs, ⟨k, l⟩, r⟩ := c.lst
  exact ⟨vs, ⟨k, hs.extBut _ _ c.ne l⟩, r.mono (fun a o e w => hs.extBut a o (fun q => w (q ▸ c.ownL.1)) e) (fun _ _ w => w) fun _ _ e => e⟩
theorem hnames_of {sc : Scope} (hk : (sc.names.map (·.1)).Nodup) : ∀ x ∈ sc.names, x.2 = .local → sc.names.lookup x.1 = some .local := fun x hx hl => by
  rw [lookup_of_mem hk hx, hl]
structure CP (tf : TrF) (cx : Cx) (sc : Scope) (gens : List Comprehension) (cl cc : List Cl) (is : List Nat) (t it : Expr) (ie : List Expr) (rest : List Comprehension) : Prop where
  gens : gens = ⟨t, it, ie, 0⟩ :: rest
  cl : cl = ⟨(ownNames sc).length, is, trI tf cx it, ie.map (tf.b (cx.inner sc))⟩ :: cc
  cc : rest.mapM (trCl tf (cx.inner sc) (cx.inner sc) 0 cx.n) = some cc
  tgt : trTarget (cx.inner sc) t = some is
  low : ∀ i ∈ is, cx.n ≤ i
  folded : ∀ x env, foldedSetIterable it env x = pure x
  zip : tgtOk t (trI tf cx it).zip = true
  asy : ∀ g ∈ rest, g.is_async = 0
theorem mapM_asy {tf : TrF} {inn : Cx} {base : Nat} {rest : List Comprehension} : ∀ {cc : List Cl}, rest.mapM (trCl tf inn inn 0 base) = some cc → ∀ g ∈ rest, g.is_async = 0 := by
  induction rest with
  | nil => intro cc _ g hg; cases hg
  | cons x r ih =>
    intro cc h g hg
    rw [List.mapM_cons] at h
    obtain ⟨c1, h1, h⟩ := bind_eq h
    obtain ⟨c2, h2, _⟩ := bind_eq h
    obtain ⟨is, I⟩ := trCl_inv h1
    rcases List.mem_cons.mp hg with rfl | hg
    · exact I.asy
    · exact ih h2 g hg
theorem CP.of {tf : TrF} {sc : Scope} {gens : List Comprehension} {cl : List Cl} (h : trCs tf cx (cx.inner sc) gens = some cl) : ∃ cc is t it ie rest, CP tf cx sc gens cl cc is t it ie rest := by
  cases gens with
  | nil => cases h
  | cons g rest =>
    obtain ⟨c1, h1, h⟩ := bind_eq h
    obtain ⟨cc, h2, rfl⟩ := map_eq h
    obtain ⟨is, I⟩ := trCl_inv h1
    obtain ⟨t, it, ie, a⟩ := g
    obtain ⟨rfl, ha, ht, hs, hf, hz⟩ := I
    dsimp only at ha
    subst ha
    exact ⟨cc, is, t, it, ie, rest, rfl, by rw [show (cx.inner sc).n - cx.n = (ownNames sc).length from Nat.add_sub_cancel_left ..], h2, ht, hs, hf, hz, mapM_asy h2⟩
theorem SE_comp (hh : A.handled = none) (S : Stat B) {sc : Scope} (hk : ScOk cx sc) {tf : TrF} (H : TrAll B M0 Wo A n cx tf) (Hi : TrAll B M0 Wo A n (cx.inner sc) tf) {elt : Expr} {gens : List Comprehension} {cl : List Cl} {pos : Pos} {m : Bool} (hc : trCs tf cx (cx.inner sc) gens = some cl) :
    SE B M0 Wo A n cx (eComp m (tf.e (cx.inner sc) elt) cl) (.ListComp elt gens sc pos) := by
  intro env lay fr W ρ cs r s Q E T e hQ
  obtain ⟨q, hq, e'⟩ := bind_eq e
  obtain ⟨cc, is, t, it, ie, rest, rfl, rfl, G, ht, hs, hf, hz, hasy⟩ := CP.of hc
  rw [arm_eval_ListComp]
  refine wpAny_comprehension_free (use := none) (g := ⟨t, it, ie, 0⟩) (gs := rest) rfl (hf · env) (T.X.clos hk) hk.kind (hnames_of hk.nd) ?_
  refine comp_core (RR := fun acc C => compPost (model B.prog B.w) A E none Q acc C) hh S hk H Hi G ht hs hz hasy T hq fun D L W' ρ' s' ce => ?_
  obtain ⟨m', hm'⟩ := ce.ns
  refine ⟨m', hm', fun h' hsb => ?_⟩
  obtain ⟨af, vs, l, rv⟩ := ce.letGo hsb
  obtain ⟨W'', ρ'', af', rz, _⟩ := mk_fin T.ok T.hn af ce.ownD l rv e'
  exact hQ _ _ _ _ af' rz
end
end Ev
namespace Ev
open PySem PySem.W PyProof.Rows PySem.SeqAt
noncomputable def FRel (B : Base) (h : Heap) (W : Addr → Prop) (ρ : List Addr) (fl : Fl) (w : Flow) : Prop := match fl with
  | .next => w = .next
  | .brk => w = .brk
  | .cont => w = .cont
  | .ret x => ∃ v, w = .ret v ∧ VRel B h W ρ x v
section
variable {B : Base} {M0 : List (Tx × Nat)} {Wo : Wd} {cx : Cx} {A : Around} {n f : Nat}
noncomputable abbrev PostS (B : Base) (n : Nat) (lay : List Loc) (W : Addr → Prop) (ρ : List Addr) (cs : Cells) (s : Shared) (o : Ou) (Q : Flow → Shared → Prop) : Prop :=
  ∀ fl W' ρ' s', After B n (layX lay) W ρ cs s W' ρ' o.cs s' → Frm B lay o.fr W' ρ' s'.heap → FRel B s'.heap W' ρ' o.fl fl → Q fl s'
noncomputable def SS (B : Base) (M0 : List (Tx × Nat)) (Wo : Wd) (A : Around) (n : Nat) (cx : Cx) (c : MS) (st : Stmt) : Prop :=
  ∀ ⦃env : Env⦄ ⦃lay : List Loc⦄ ⦃fr : Fr⦄ ⦃W : Addr → Prop⦄ ⦃ρ : List Addr⦄ ⦃cs : Cells⦄ ⦃s : Shared⦄ ⦃o : Ou⦄ ⦃Q : Flow → Shared → Prop⦄ ⦃E : Value → Shared → Prop⦄, At B M0 A n cx env lay fr W ρ cs s →
    c Wo n fr cs = some o → PostS B n lay W ρ cs s o Q → wpAny (model B.prog B.w) A (exec st env) Q E s
noncomputable def SSs (B : Base) (M0 : List (Tx × Nat)) (Wo : Wd) (A : Around) (n : Nat) (cx : Cx) (c : List MS) (st : List Stmt) : Prop :=
  ∀ ⦃env : Env⦄ ⦃lay : List Loc⦄ ⦃fr : Fr⦄ ⦃W : Addr → Prop⦄ ⦃ρ : List Addr⦄ ⦃cs : Cells⦄ ⦃s : Shared⦄ ⦃o : Ou⦄ ⦃Q : Flow → Shared → Prop⦄ ⦃E : Value → Shared → Prop⦄, At B M0 A n cx env lay fr W ρ cs s →
    evSs Wo n c fr cs = some o → PostS B n lay W ρ cs s o Q → wpAny (model B.prog B.w) A (execs st env) Q E s
noncomputable abbrev PostT' (B : Base) (n : Nat) (lay : List Loc) (W : Addr → Prop) (ρ : List Addr) (cs : Cells) (s : Shared) (r : Fr × Cells) (Q : Unit → Shared → Prop) : Prop :=
  ∀ W' ρ' s', After B n (layX lay) W ρ cs s W' ρ' r.2 s' → Frm B lay r.1 W' ρ' s'.heap → Q () s'
noncomputable def ST (B : Base) (M0 : List (Tx × Nat)) (Wo : Wd) (A : Around) (n : Nat) (cx : Cx) (c : MT) (t : Expr) : Prop :=
  ∀ ⦃env : Env⦄ ⦃lay : List Loc⦄ ⦃fr : Fr⦄ ⦃W : Addr → Prop⦄ ⦃ρ : List Addr⦄ ⦃cs : Cells⦄ ⦃s : Shared⦄ ⦃x : AV⦄ ⦃v : Value⦄ ⦃r : Fr × Cells⦄ ⦃Q : Unit → Shared → Prop⦄ ⦃E : Value → Shared → Prop⦄, At B M0 A n cx env lay fr W ρ cs s →
    VRel B s.heap W ρ x v → c x Wo n fr cs = some r → PostT' B n lay W ρ cs s r Q → wpAny (model B.prog B.w) A (assign t env v) Q E s
section
variable {env : Env} {lay : List Loc} {fr : Fr} {W W₁ : Addr → Prop} {ρ ρ₁ : List Addr} {cs cs₁ : Cells} {s s₁ : Shared}
theorem At.go (T : At B M0 A n cx env lay fr W ρ cs s) {fr₁ : Fr} (a : After B n (layX lay) W ρ cs s W₁ ρ₁ cs₁ s₁) (F : Frm B lay fr₁ W₁ ρ₁ s₁.heap) : At B M0 A n cx env lay fr₁ W₁ ρ₁ cs₁ s₁ := ⟨T.X, a.ok, F, Nat.le_trans T.hn (a.length T.ok)⟩
theorem After.postS {o : Ou} {Q : Flow → Shared → Prop} (a : After B n (layX lay) W ρ cs s W₁ ρ₁ cs₁ s₁) (hQ : PostS B n lay W ρ cs s o Q) : PostS B n lay W₁ ρ₁ cs₁ s₁ o Q := fun fl W' ρ' s' b F r => hQ fl W' ρ' s' (a.trans b) F r
end
theorem SS_fail {x : Stmt} : SS B M0 Wo A n cx sFail x := by
  intro env lay fr W ρ cs s o Q E T e
  cases e
theorem SSs_map {t : Stmt → MS} (h : ∀ x, SS B M0 Wo A n cx (t x) x) (ss : List Stmt) : SSs B M0 Wo A n cx (ss.map t) ss := by
  induction ss with
  | nil =>
    intro env lay fr W ρ cs s o Q E T e hQ
    obtain rfl := Option.some.inj e
    exact wpAny_execs_nil (hQ _ _ _ _ (After.refl T.ok) T.F rfl)
  | cons x xs ih =>
    intro env lay fr W ρ cs s o Q E T e hQ
    obtain ⟨⟨fl₁, fr₁, cs₁⟩, hq, e⟩ := bind_eq e
    refine wpAny_execs_cons (h x T hq fun fl W₁ ρ₁ s₁ af₁ F₁ r₁ => ?_)
    cases fl₁ with
    | next => obtain rfl := r₁; exact ih (T.go af₁ F₁) e (af₁.postS hQ)
    | brk => obtain rfl := Option.some.inj e; obtain rfl := r₁; exact hQ _ _ _ _ af₁ F₁ rfl
    | cont => obtain rfl := Option.some.inj e; obtain rfl := r₁; exact hQ _ _ _ _ af₁ F₁ rfl
    | ret v => obtain rfl := Option.some.inj e; obtain ⟨w, rfl, r₁⟩ := r₁; exact hQ _ _ _ _ af₁ F₁ ⟨w, rfl, r₁⟩
theorem notInteractive {env : Env} (h : env.scope.kind = .function) : interactive env = false := by unfold interactive; rw [h]; rfl
theorem SS_expr {a : ME} {e : Expr} {p : Pos} (hs : ∀ l env, swapsWith e none l env = pure false) (h : SE B M0 Wo A n cx a e) : SS B M0 Wo A n cx (sExpr a) (.Expr e p) := by
  intro env lay fr W ρ cs s o Q E T ev hQ
  obtain ⟨q, hq, ev⟩ := bind_eq ev
  obtain ⟨hv, ev⟩ := if_eq ev
  obtain rfl := Option.some.inj ev
  rw [arm_exec_Expr, notInteractive T.X.kind, hs]
  refine wpAny_bind (wpAny_standAt ?_)
  rw [if_neg Bool.false_ne_true]
  refine wpAny_bind (wpAny_pure ?_)
  rw [if_neg Bool.false_ne_true]
  refine wpAny_bind (h T hq fun v₁ W₁ ρ₁ s₁ af₁ r₁ => ?_)
  rw [r₁.ofNone hv, show dropValue e p .none = pure .next by cases e <;> rfl]
  exact wpAny_pure (hQ _ _ _ _ af₁.up (T.after af₁).F rfl)
theorem SS_ret {a : ME} {e : Expr} {p : Pos} (h : SE B M0 Wo A n cx a e) : SS B M0 Wo A n cx (sRet a) (.Return (some e) p) := by
  intro env lay fr W ρ cs s o Q E T ev hQ
  obtain ⟨q, hq, rfl⟩ := map_eq ev
  rw [arm_exec_Return]
  refine wpAny_bind (wpAny_standAt ?_)
  rw [arm_evalOpt_some]
  exact wpAny_bind (h T hq fun v₁ W₁ ρ₁ s₁ af₁ r₁ => wpAny_pure (hQ (.ret v₁) _ _ _ af₁.up (T.after af₁).F ⟨v₁, rfl, r₁⟩))
theorem SS_brk {p : Pos} : SS B M0 Wo A n cx sBrk (.Break p) := by
  intro env lay fr W ρ cs s o Q E T ev hQ
  obtain rfl := Option.some.inj ev
  rw [arm_exec_Break]
  exact wpAny_bind (wpAny_standAt (wpAny_pure (hQ .brk _ _ _ (After.refl T.ok) T.F rfl)))
theorem SS_cont {p : Pos} : SS B M0 Wo A n cx sCont (.Continue p) := by
  intro env lay fr W ρ cs s o Q E T ev hQ
  obtain rfl := Option.some.inj ev
  rw [arm_exec_Continue]
  exact wpAny_bind (wpAny_standAt (wpAny_pure (hQ .cont _ _ _ (After.refl T.ok) T.F rfl)))
theorem SS_assert {a : MB} {e : Expr} {msg : Option Expr} {p : Pos} (h : SB B M0 Wo A n cx a e) : SS B M0 Wo A n cx (sAssert a) (.Assert e msg p) := by
  intro env lay fr W ρ cs s o Q E T ev hQ
  obtain ⟨q, hq, ev⟩ := bind_eq ev
  obtain ⟨hb, ev⟩ := if_eq ev
  obtain rfl := Option.some.inj ev
  exact wpAny_Assert_holds (h T hq fun W₁ ρ₁ s₁ af₁ => ⟨hb, hQ .next _ _ _ af₁.up (T.after af₁).F rfl⟩)
theorem SS_ite {c : MB} {a b : List MS} {e : Expr} {x y : List Stmt} {p : Pos} (h : SB B M0 Wo A n cx c e) (h1 : SSs B M0 Wo A n cx a x) (h2 : SSs B M0 Wo A n cx b y) : SS B M0 Wo A n cx (sIte c a b) (.If e x y p) := by
  intro env lay fr W ρ cs s o Q E T ev hQ
  obtain ⟨⟨q, cs₁⟩, hq, ev⟩ := bind_eq ev
  refine wpAny_If (h T hq fun W₁ ρ₁ s₁ af₁ => ?_)
  cases q with
  | false => exact h2 (T.after af₁) ev (af₁.up.postS hQ)
  | true => exact h1 (T.after af₁) ev (af₁.up.postS hQ)
theorem ST_var {x : Str} {i : Nat} {p : Pos} (hi : trSlot cx x = some i) : ST B M0 Wo A n cx (tVar i) (.Name x p) := by
  intro env lay fr W ρ cs s z v r Q E T rv e hQ
  obtain ⟨_, e⟩ := if_eq e
  obtain rfl := Option.some.inj e
  exact wpAny_assign_Name (store_sound (n := n) T.ok T.X.toEnvOk T.F hi rv fun s₁ af₁ F₁ _ => hQ _ _ _ (af₁.weaken fun a _ h => locX_lay h) F₁)
theorem ST_idx (R : Rx B M0 Wo A) {a b : ME} {o i : Expr} {p : Pos} (h1 : SE B M0 Wo A n cx a o) (h2 : SE B M0 Wo A n cx b i) : ST B M0 Wo A n cx (tIdx a b) (.Subscript o i p) := by
  intro env lay fr W ρ cs s z v r Q E T rv e hQ
  obtain ⟨q, hq, e⟩ := bind_eq e
  obtain ⟨j, hj, e⟩ := bind_eq e
  rw [arm_assign_Subscript]
  refine wpAny_bind (wpAny_holding (h1 T hq fun v₁ W₁ ρ₁ s₁ af₁ r₁ => ?_))
  refine wpAny_bind (wpAny_holding (h2 (T.after af₁) hj fun v₂ W₂ ρ₂ s₂ af₂ r₂ => ?_))
  have T₂ := (T.after af₁).after af₂
  have r₁' := af₂.val af₁.ok r₁
  have r' := af₂.val af₁.ok (af₁.val T.ok rv)
  refine wpAny_bind (wpAny_standAt (wpAny_bind (wpAny_holding ?_)))
  have fin : ∀ {cs₃ : Cells}, r = (fr, cs₃) → ∀ W₃ ρ₃ s₃, After B n Non W₂ ρ₂ j.2 s₂ W₃ ρ₃ cs₃ s₃ → Q () s₃ := fun er W₃ ρ₃ s₃ af₃ => by
    subst er
    exact hQ _ _ _ ((af₁.trans af₂).trans af₃).up (T₂.after af₃).F
  cases hi : isInst j.2 q.1 with
  | true =>
    rw [hi, if_pos rfl] at e
    obtain ⟨w, hw, e⟩ := map_eq e
    exact R.setI hi hw T₂.hn af₂.ok r₁' r₂ r' fun W₃ ρ₃ s₃ af₃ => wpAny_release (fin e.symm W₃ ρ₃ s₃ af₃)
  | false =>
    rw [hi, if_neg Bool.false_ne_true] at e
    obtain ⟨w, hw, e⟩ := map_eq e
    exact setIdx_sound af₂.ok r₁' r₂ r' hw fun W₃ ρ₃ s₃ af₃ => wpAny_release (fin e.symm W₃ ρ₃ s₃ af₃)
theorem ST_whole {a : ME} {o : Expr} {q p : Pos} (h1 : SE B M0 Wo A n cx a o) : ST B M0 Wo A n cx (tWhole a) (.Subscript o (.Slice none none none q) p) := by
  intro env lay fr W ρ cs s z v r Q E T rv e hQ
  obtain ⟨g, hg, e⟩ := bind_eq e
  obtain ⟨i, hi, e⟩ := bind_eq e
  obtain ⟨ys, hz, e⟩ := bind_eq e
  obtain ⟨xs, hc, e⟩ := bind_eq e
  obtain ⟨hlow, e⟩ := if_eq e
  obtain rfl := Option.some.inj e
  rw [arm_assign_Subscript]
  refine wpAny_bind (wpAny_holding (h1 T hg fun v₁ W₁ ρ₁ s₁ af₁ r₁ => wpAny_bind (wpAny_holding ?_)))
  obtain ⟨ad, hv, gi⟩ := r₁.ofRef hi
  obtain ⟨us, b, hb, ⟨k2, lb⟩, bd, wb, rb⟩ := (af₁.val T.ok rv).ofLst hz
  obtain ⟨vs, ⟨k, l⟩, bl, rl⟩ := af₁.ok.mem.listAt hc gi
  rw [hv, hb, arm_eval_Slice]
  refine wpAny_bind (wpAny_pure (wpAny_bind (wpAny_holding (wpAny_pure (wpAny_bind (wpAny_holding (wpAny_pure ?_)))))))
  refine wpAny_newObj_type (T := "slice") (data := .fields #[.none, .none, .none]) ?_
  have a0 : After B n Non W₁ ρ₁ g.2 s₁ W₁ ρ₁ g.2 { s₁ with heap := s₁.heap.push { cls := .type "slice", data := .fields #[.none, .none, .none] } } := af₁.ok.push _ (tk := s₁.toks)
  refine wpAny_bind (wpAny_standAt (wpAny_bind (wpAny_holding ?_)))
  have wa := (af₁.ok.mem.own ad (List.mem_of_getElem? gi)).1
  have l0 := Heap.get?_push_of_some { cls := .type "slice", data := .fields #[.none, .none, .none] } l
  have hl : n ≤ i ∨ ∀ k, belows k xs = true → belows k ys = true := ((Bool.or_eq_true _ _).mp hlow).imp of_decide_eq_true fun h k _ => belows_mono (Nat.zero_le k) h
  refine setItem_whole l0 (Heap.get?_push_of_some _ lb) ⟨_, Heap.get?_push_size _ rfl, rfl, rfl⟩ (fun e => wb (e ▸ wa)) ?_ (wpAny_release ?_)
  · rw [List.size_toArray, List.size_toArray, ← rl.length, ← rb.length]
    exact Nat.le_trans (Nat.add_le_add bl bd) (by decide)
  · have tl := turn_list (tk := s₁.toks) (n := n) (us := us) a0.ok gi hc (a0.vals af₁.ok rb) bd hl ?_ (Heap.SameBut.update (h := s₁.heap.push { cls := .type "slice", data := .fields #[.none, .none, .none] }) (a := ad) (f := Obj.mapSeq fun xs => xs.extract 0 0 ++ us.toArray ++ xs.extract vs.toArray.size xs.size))
    · exact hQ _ _ _ ((af₁.trans a0).trans tl).up ((((T.after af₁).after a0).after tl).F)
    · have := Heap.get?_update_self (h := s₁.heap.push { cls := .type "slice", data := .fields #[.none, .none, .none] }) (a := ad) (Obj.mapSeq fun xs => xs.extract 0 0 ++ us.toArray ++ xs.extract vs.toArray.size xs.size) l0 rfl
      exact ⟨if us.length = vs.length then k else k + 1, by rw [this]; simp [Obj.mapSeq]⟩
theorem ST_attr (R : Rx B M0 Wo A) {a : ME} {o : Expr} {nm : Str} {p : Pos} (hnm : tx nm = headersName) (h1 : SE B M0 Wo A n cx a o) : ST B M0 Wo A n cx (tAttr a (tx nm)) (.Attribute o nm p) := by
  intro env lay fr W ρ cs s z v r Q E T rv e hQ
  have hs : nm = headersStr := headers_str hnm
  rw [hnm] at e
  obtain ⟨g, hg, e⟩ := bind_eq e
  obtain ⟨⟨d, es⟩, hi, e⟩ := bind_eq e
  obtain ⟨hp, e⟩ := if_eq e
  obtain rfl := Option.some.inj e
  rw [arm_assign_Attribute]
  refine wpAny_bind (wpAny_holding (h1 T hg fun v₁ W₁ ρ₁ s₁ af₁ r₁ => wpAny_bind (wpAny_standAt (wpAny_bind (wpAny_holding ?_)))))
  have r' := af₁.val T.ok rv
  obtain ⟨ad, dx, hv, hd, gd, hI, ob, ho, hH⟩ := isInst_at af₁.ok r₁ hi
  have hdp : dput headersName z es = [(headersTx, z)] := by
    rcases af₁.ok.mem.idictAt hd gd with c | ⟨x, vv, hsh, tk, k, hes, _, _⟩
    · rw [c.1]; rfl
    · rw [hes]; rfl
  have wdx := (af₁.ok.mem.own dx (List.mem_of_getElem? gd)).1
  rw [hv, hs]
  rw [hdp] at hQ
  refine R.setA af₁.ok.kept hI ho hH fun h' tk hsh tk' nn hsb ho' => wpAny_release ?_
  have rz : VRel B h' W₁ ρ₁ z v := r'.mono (fun a o e w => hsb.extBut a o (fun q => w (q ▸ wdx)) e) (fun _ _ w => w) fun _ _ e => e
  have hlow : n ≤ d ∨ ∀ k old, g.2[d]? = some old → belowO k old = true → belowO k (.idict [(headersTx, z)]) = true :=
    (put_low hp).imp id fun h k old hold hb => Bool.and_eq_true_iff.mpr ⟨below_mono (Nat.zero_le k) h, rfl⟩
  have af₂ : After B n Non W₁ ρ₁ g.2 s₁ W₁ ρ₁ (g.2.set d (.idict [(headersTx, z)])) { s₁ with heap := h', toks := tk } :=
    af₁.ok.setCell gd hsb (.inr ⟨_, _, _, _, _, rfl, ho', rz⟩) hlow
  exact hQ W₁ ρ₁ _ (af₁.trans af₂).up ((T.after af₁).after af₂).F
end
end Ev
namespace Ev
open PySem PySem.W PyProof.Rows PySem.SeqAt
section
variable {B : Base} {M0 : List (Tx × Nat)} {Wo : Wd} {cx : Cx} {A : Around} {n f : Nat}
theorem slot_kind {x : Str} {i : Nat} (h : trSlot cx x = some i) : (kindOf cx x = some .local ∨ kindOf cx x = some .cell) ∧ cx.slots.lookup (tx x) = some i := if_eq h
theorem slot_load {env : Env} {lay : List Loc} {fr : Fr} {W : Addr → Prop} {ρ : List Addr} {s : Shared} {x : Str} {i : Nat} {a : AV} {M : Model} {E : Value → Shared → Prop} (X : EnvOk B cx env lay) (F : Frm B lay fr W ρ s.heap) (hi : trSlot cx x = some i) (hf : (fr[i]?).join = some a) {Q : Value → Shared → Prop} (hQ : ∀ v, VRel B s.heap W ρ a v → Q v s) : wpAny M A (loadName env x) Q E s := by
  obtain ⟨hk, hl⟩ := slot_kind hi
  refine load_sound X F ?_ (fun h => ?_) hl hf hQ
  · rcases hk with h | h <;> rw [h] <;> rfl
  · rcases hk with h' | h' <;> rw [h'] at h <;> cases h
theorem set_same {fr : Fr} {i : Nat} {a : AV} (h : (fr[i]?).join = some a) : fr.set i (some a) = fr := by
  obtain ⟨hl, he⟩ := List.getElem?_eq_some_iff.mp (Option.join_eq_some_iff.mp h)
  rw [← he]; exact List.set_getElem_self ..
theorem SS_aug {x : Str} {i : Nat} {op : BOp} {o : Operator} {a : ME} {e : Expr} {p q : Pos} (hi : trSlot cx x = some i) (ho : trBOp o = some op) (h : SE B M0 Wo A n cx a e) : SS B M0 Wo A n cx (sAug i op a) (.AugAssign (.Name x q) o e p) := by
  intro env lay fr W ρ cs s o' Q E T ev hQ
  obtain ⟨old, hf, ev⟩ := bind_eq ev
  obtain ⟨r, hr, ev⟩ := bind_eq ev
  refine wpAny_AugAssign_Name (slot_load T.X.toEnvOk T.F hi hf fun v₀ r₀ => ?_)
  refine h T hr fun v₁ W₁ ρ₁ s₁ af₁ r₁ => ?_
  have T₁ := T.after af₁
  have r₀' := af₁.val T.ok r₀
  rw [← bopOf_tr ho]
  rcases ite_eq ev with ⟨_, ev⟩ | ev
  · cases op with
    | add =>
      obtain ⟨z, hz, rfl⟩ := map_eq ev
      refine extendv_sound af₁.ok r₀' r₁ hz fun W₂ ρ₂ s₂ af₂ => ?_
      refine store_sound (n := n) af₂.ok T.X.toEnvOk (T₁.after af₂).F hi (af₂.val af₁.ok r₀') fun s₃ af₃ F₃ _ => ?_
      rw [set_same hf] at F₃
      exact hQ .next _ _ _ ((af₁.trans af₂).up.trans (af₃.weaken fun a _ h => locX_lay h)) F₃ rfl
    | _ => cases ev
  · obtain ⟨z, hz, rfl⟩ := map_eq ev
    refine augv_sound (n := n) af₁.ok r₀' r₁ hz fun v₂ W₂ ρ₂ s₂ af₂ r₂ => ?_
    refine store_sound (n := n) af₂.ok T.X.toEnvOk (T₁.after af₂).F hi r₂ fun s₃ af₃ F₃ _ => ?_
    exact hQ .next _ _ _ ((af₁.trans af₂).up.trans (af₃.weaken fun a _ h => locX_lay h)) F₃ rfl
theorem SS_del (R : Rx B M0 Wo A) {a b : ME} {o i : Expr} {p q : Pos} (h1 : SE B M0 Wo A n cx a o) (h2 : SE B M0 Wo A n cx b i) : SS B M0 Wo A n cx (sDel a b) (.Delete [.Subscript o i q] p) := by
  intro env lay fr W ρ cs s o' Q E T ev hQ
  obtain ⟨r, hr, ev⟩ := bind_eq ev
  obtain ⟨j, hj, ev⟩ := bind_eq ev
  obtain ⟨hi, ev⟩ := if_eq ev
  obtain ⟨w, hw, rfl⟩ := map_eq ev
  rw [arm_exec_Delete, arm_deleteEach_cons, arm_delete_Subscript]
  refine wpAny_bind (wpAny_standAt (wpAny_bind (wpAny_bind (wpAny_bind (h1 T hr fun v₁ W₁ ρ₁ s₁ af₁ r₁ => ?_)))))
  refine wpAny_bind (wpAny_holding (h2 (T.after af₁) hj fun v₂ W₂ ρ₂ s₂ af₂ r₂ => ?_))
  have T₂ := (T.after af₁).after af₂
  refine wpAny_bind (wpAny_standAt (wpAny_bind (wpAny_holding ?_)))
  refine R.delI hi hw T₂.hn af₂.ok (af₂.val af₁.ok r₁) r₂ fun W₃ ρ₃ s₃ af₃ => wpAny_release ?_
  rw [arm_deleteEach_nil]
  exact wpAny_pure (wpAny_pure (hQ .next _ _ _ ((af₁.trans af₂).trans af₃).up (T₂.after af₃).F rfl))
theorem swapped_none {t e : Expr} {env : Env} (h1 : ∀ ts k p, t ≠ .Tuple ts k p) (h2 : ∀ ts p, t ≠ .List ts p) : swappedStores [t] e env = pure none := by
  unfold swappedStores
  cases t <;> first | exact absurd rfl (h1 _ _ _) | exact absurd rfl (h2 _ _) | rfl
theorem SS_assign {a : ME} {e : Expr} {ct : MT} {t : Expr} {p : Pos} (h1 : ∀ ts k p, t ≠ .Tuple ts k p) (h2 : ∀ ts p, t ≠ .List ts p) (h3 : ∀ e p, t ≠ .Starred e p) (hs : ∀ l env, swapsWith e (some t) l env = pure false) (h : SE B M0 Wo A n cx a e) (ht : ST B M0 Wo A n cx ct t) : SS B M0 Wo A n cx (sAssign ct a) (.Assign [t] e p) := by
  intro env lay fr W ρ cs s o Q E T ev hQ
  obtain ⟨q, hq, ev⟩ := bind_eq ev
  obtain ⟨r, hr, rfl⟩ := map_eq ev
  rw [arm_exec_Assign]
  refine wpAny_bind (wpAny_standAt ?_)
  show wpAny _ A (swapsWith e (some t) p.line env >>= _) Q E s
  rw [hs]
  refine wpAny_bind (wpAny_pure ?_)
  rw [if_neg Bool.false_ne_true]
  refine wpAny_bind (h T hq fun v₁ W₁ ρ₁ s₁ af₁ r₁ => ?_)
  rw [swapped_none h1 h2]
  refine wpAny_bind (wpAny_pure ?_)
  have he : (assignEach [t] env).map (·.2) = [assign t env] := by
    cases t <;> first | exact absurd rfl (h3 _ _) | rfl
  rw [he]
  show wpAny _ A (do assign t env v₁; pure .next) Q E s₁
  exact wpAny_bind (ht (T.after af₁) r₁ hr fun W₂ ρ₂ s₂ af₂ F₂ => wpAny_pure (hQ .next _ _ _ (af₁.up.trans af₂) F₂ rfl))
noncomputable abbrev swapG (env : Env) (line : Nat) : Expr → Option Str := fun | .Name id pos => if env.kindOf id == some .local && pos.line == line then some id else none | _ => none
theorem swapped_cases {ts : List Expr} {k : Nat} {p : Pos} {e : Expr} {env : Env} (h : foldOk e = true) : swappedStores [.Tuple ts k p] e env = pure none ∨ ∃ line, swappedStores [.Tuple ts k p] e env = pure (some (ts.filterMap (swapG env line))) ∧ (ts.length = 2 ∨ ts.length = 3) ∧ (ts.filterMap (swapG env line)).length = ts.length := by
  cases e with
  | Tuple vs k2 p2 =>
    unfold swappedStores
    simp only
    split
    · exact .inl rfl
    · rename_i h1
      split
      · exact .inl rfl
      · split
        · exact .inl rfl
        · rename_i h3
          split
          · exact .inl rfl
          · rename_i h4
            split
            · rename_i h5
              exfalso
              replace h : (!vs.all (constantsAlone 8) || vs.all (foldedForSure 8)) = true := h
              rw [h5] at h
              exact h4 h
            · refine .inr ⟨_, rfl, ?_, ?_⟩
              · by_cases h2 : ts.length = 2
                · exact .inl h2
                · by_cases h3 : ts.length = 3
                  · exact .inr h3
                  · refine absurd ?_ h1
                    simp [h2, h3]
              · simp only [Bool.or_eq_true, bne_iff_ne, ne_eq, not_or, Decidable.not_not] at h3
                exact h3.1
  | _ => exact .inl rfl
theorem swaps_tuple {e : Expr} {ts : List Expr} {k : Nat} {p : Pos} {l : Nat} {env : Env} : swapsWith e (some (.Tuple ts k p)) l env = pure false := by
  cases e <;> rfl
theorem swap_parts {env : Env} {line : Nat} (ts : List Expr) : ∀ {is : List Nat}, NameSlots cx ts is → (ts.filterMap (swapG env line)).length = ts.length → ∃ ps : List (Str × Nat), ts.filterMap (swapG env line) = ps.map (·.1) ∧ is = ps.map (·.2) ∧ ∀ q ∈ ps, trSlot cx q.1 = some q.2 := by
  induction ts with
  | nil => intro is h _; exact ⟨[], rfl, h.nil, fun _ h => nomatch h⟩
  | cons t ts ih =>
    intro is h hl
    obtain ⟨x, p, i, js, rfl, hi, rfl, h'⟩ := h.cons
    by_cases hc : (env.kindOf x == some .local && p.line == line) = true
    · have hx : swapG env line (.Name x p) = some x := if_pos hc
      rw [List.filterMap_cons_some hx] at hl ⊢
      obtain ⟨ps, h1, h2, h3⟩ := ih h' (Nat.succ.inj hl)
      exact ⟨(x, i) :: ps, congrArg (x :: ·) h1, congrArg (i :: ·) h2, fun q hq => (List.mem_cons.mp hq).elim (fun e => e ▸ hi) (h3 q)⟩
    · have hx : swapG env line (.Name x p) = none := if_neg hc
      rw [List.filterMap_cons_none hx] at hl
      exact absurd (hl ▸ List.length_filterMap_le (swapG env line) ts) (Nat.not_succ_le_self _)
theorem binds_sound {env : Env} {lay : List Loc} (X : EnvOk B cx env lay) {Q : Unit → Shared → Prop} {E : Value → Shared → Prop} (ps : List (Str × Nat)) : (∀ q ∈ ps, trSlot cx q.1 = some q.2) → ∀ {xs : List AV} {vs : List Value} {W : Addr → Prop} {ρ : List Addr} {cs : Cells} {s : Shared} {fr : Fr}, Ok B W ρ cs s → Frm B lay fr W ρ s.heap → VRels B s.heap W ρ xs vs → ps.length = xs.length →
    (∀ s', After B n (layX lay) W ρ cs s W ρ cs s' → Frm B lay (setAll (ps.map (·.2)) xs fr) W ρ s'.heap → Q () s') → wpAny (model B.prog B.w) A (assignInOrder (ps.map fun q => bindName env q.1) vs) Q E s := by
  induction ps with
  | nil =>
    intro _ xs vs W ρ cs s fr o F r hl hQ
    obtain rfl := List.length_eq_zero_iff.mp hl.symm
    obtain rfl := r.inv
    exact wpAny_pure (hQ s (After.refl o) F)
  | cons p ps ih =>
    intro hp xs vs W ρ cs s fr o F r hl hQ
    cases xs with
    | nil => cases hl
    | cons z xs =>
    obtain ⟨v, us, rfl, hd, tl⟩ := r.inv
    show wpAny _ A (do holding us (bindName env p.1 v); assignInOrder (ps.map fun q => bindName env q.1) us) Q E s
    refine wpAny_bind (wpAny_holding (wpAny_bindName (store_sound (n := n) o X F (hp p List.mem_cons_self) hd fun s₁ af₁ F₁ hlt => ?_)))
    refine ih (fun q hq => hp q (List.mem_cons_of_mem _ hq)) af₁.ok F₁ (af₁.step.vals o.mem (fun a ha => F.layW a (locX_lay ha)) tl) (Nat.succ.inj hl) fun s₂ af₂ F₂ => ?_
    exact hQ s₂ ((af₁.weaken fun a _ ha => locX_lay ha).trans af₂) F₂
theorem set_rev {is : List Nat} {xs : List AV} {fr : Fr} (hn : is.Nodup) (hl : is.length = 2 ∨ is.length = 3) (hx : is.length = xs.length) : setAll is.reverse xs.reverse fr = setAll is xs fr := by
  rcases hl with hl | hl
  · obtain ⟨a, b, rfl⟩ := len_two hl
    obtain ⟨x, y, rfl⟩ := len_two (hx.symm.trans hl)
    have hn := (List.nodup_cons.mp hn).1
    exact List.set_comm (l := fr) (some y) (some x) fun e : b = a => hn (by rw [e]; exact List.mem_cons_self)
  · obtain ⟨a, r, rfl⟩ := List.exists_cons_of_length_eq_add_one hl
    obtain ⟨b, c, rfl⟩ := len_two (Nat.succ.inj hl)
    obtain ⟨x, q, rfl⟩ := List.exists_cons_of_length_eq_add_one (hx.symm.trans hl)
    obtain ⟨y, z, rfl⟩ := len_two (Nat.succ.inj (hx.symm.trans hl))
    obtain ⟨h1, hn⟩ := List.nodup_cons.mp hn
    have h2 := (List.nodup_cons.mp hn).1
    show ((fr.set c (some z)).set b (some y)).set a (some x) = ((fr.set a (some x)).set b (some y)).set c (some z)
    rw [List.set_comm (l := fr) _ _ (fun e : c = b => h2 (by rw [e]; exact List.mem_cons_self)), List.set_comm (l := fr.set b (some y)) _ _ (fun e : c = a => h1 (by rw [e]; exact List.mem_cons_of_mem _ List.mem_cons_self)), List.set_comm (l := fr) _ _ (fun e : b = a => h1 (by rw [e]; exact List.mem_cons_self))]
theorem vrels_reverse {h : Heap} {W : Addr → Prop} {ρ : List Addr} {xs : List AV} {vs : List Value} (r : VRels B h W ρ xs vs) : VRels B h W ρ xs.reverse vs.reverse := r.ind (P := fun xs vs => VRels B h W ρ xs.reverse vs.reverse) .nil fun q _ r => by
  rw [List.reverse_cons, List.reverse_cons]; exact r.append (.cons q .nil)
theorem SS_asgT (hh : A.handled = none) {a : ME} {e : Expr} {is : List Nat} {ts : List Expr} {k : Nat} {p q : Pos} (hnd : is.Nodup) (hfo : foldOk e = true) (h : SE B M0 Wo A n cx a e) (ns : NameSlots cx ts is) : SS B M0 Wo A n cx (sAsgT is a) (.Assign [.Tuple ts k q] e p) := by
  intro env lay fr W ρ cs s o Q E T ev hQ
  obtain ⟨g, hg, ev⟩ := bind_eq ev
  obtain ⟨xs, hx, ev⟩ := bind_eq ev
  obtain ⟨hlen, ev⟩ := if_eq ev
  obtain rfl := Option.some.inj ev
  rw [arm_exec_Assign]
  refine wpAny_bind (wpAny_standAt ?_)
  show wpAny _ A (swapsWith e (some (.Tuple ts k q)) p.line env >>= _) Q E s
  rw [swaps_tuple]
  refine wpAny_bind (wpAny_pure ?_)
  rw [if_neg Bool.false_ne_true]
  refine wpAny_bind (h T hg fun v₁ W₁ ρ₁ s₁ af₁ r₁ => ?_)
  have T₁ := T.after af₁
  have he := ns.each (env := env)
  rcases swapped_cases (ts := ts) (k := k) (p := q) (env := env) hfo with hsw | ⟨line, hsw, hlen3, hnl⟩
  · rw [hsw]
    refine wpAny_bind (wpAny_pure ?_)
    show wpAny _ A (do assign (.Tuple ts k q) env v₁; pure .next) Q E s₁
    rw [arm_assign_Tuple]
    refine wpAny_bind (wpAny_bind (wpAny_standAt ?_))
    unfold unpack
    rw [he.2.1, he.2.2, he.1, hlen]
    refine wpAny_bind (wpAny_holding (unpackItems_sound (n := n) hh af₁.ok r₁ hx fun us W₂ s₂ af₂ r₂ => ?_))
    refine assigns_sound (n := n) T.X.toEnvOk ns af₂.ok (T₁.after af₂).F r₂ hlen fun s₃ af₃ F₃ => wpAny_pure ?_
    exact hQ .next _ _ _ ((af₁.trans af₂).up.trans (af₃.weaken fun a _ h => slotX_lay h)) F₃ rfl
  · rw [hsw]
    obtain ⟨ps, h1, h2, h3⟩ := swap_parts (env := env) (line := line) ts ns hnl
    refine wpAny_bind (wpAny_pure ?_)
    show wpAny _ A (do rule "assign.swapped-stores"; let items ← unpackItems v₁ (ts.filterMap (swapG env line)).length none; assignInOrder ((ts.filterMap (swapG env line)).reverse.map fun n => bindName env n) items.reverse; pure .next) Q E s₁
    refine wpAny_bind (wpAny_rule ?_)
    rw [hnl, he.1, hlen]
    refine wpAny_bind (unpackItems_sound (n := n) hh af₁.ok r₁ hx fun us W₂ s₂ af₂ r₂ => ?_)
    have hpl : ps.reverse.length = xs.reverse.length := by rw [List.length_reverse, List.length_reverse, ← hlen, h2, List.length_map]
    have e1 : ((ts.filterMap (swapG env line)).reverse.map fun n => bindName env n) = ps.reverse.map fun q => bindName env q.1 := by rw [h1, ← List.map_reverse, List.map_map]; rfl
    rw [e1]
    refine wpAny_bind (binds_sound (n := n) T.X.toEnvOk ps.reverse (fun q hq => h3 q (List.mem_reverse.mp hq)) af₂.ok (T₁.after af₂).F (vrels_reverse r₂) hpl fun s₃ af₃ F₃ => wpAny_pure ?_)
    rw [List.map_reverse, ← h2, set_rev hnd (he.1 ▸ hlen3) hlen] at F₃
    exact hQ .next _ _ _ ((af₁.trans af₂).up.trans af₃) F₃ rfl
theorem subOf_eq {e : Expr} {q : Expr × Expr} (h : subOf e = some q) : ∃ p, e = .Subscript q.1 q.2 p := by
  cases e with
  | Subscript o i p =>
    have h : (if isSlice i then none else some (o, i)) = some q := h
    cases hs : isSlice i with
    | true => rw [hs] at h; cases h
    | false => rw [hs] at h; obtain rfl := Option.some.inj h; exact ⟨p, rfl⟩
  | _ => cases h
end
end Ev
namespace Ev
open PySem PySem.W PyProof.Rows PySem.SeqAt
section
variable {B : Base} {M0 : List (Tx × Nat)} {Wo : Wd} {cx : Cx} {A : Around} {n : Nat}
theorem SS_asgC (hh : A.handled = none) (S : Stat B) {sc : Scope} (hk : ScOk cx sc) {tf : TrF} (H : TrAll B M0 Wo A n cx tf) (Hi : TrAll B M0 Wo A n (cx.inner sc) tf) {elt : Expr} {gens : List Comprehension} {cl : List Cl} {m : Bool} {pos p q : Pos} {x : Str} {i : Nat} (hi : trSlot cx x = some i) (hc : trCs tf cx (cx.inner sc) gens = some cl) :
    SS B M0 Wo A n cx (sAssign (tVar i) (eComp m (tf.e (cx.inner sc) elt) cl)) (.Assign [.Name x q] (.ListComp elt gens sc pos) p) := by
  have hse : SE B M0 Wo A n cx (eComp m (tf.e (cx.inner sc) elt) cl) (.ListComp elt gens sc pos) := SE_comp hh S hk H Hi hc
  intro env lay fr W ρ cs s o Q E T ev hQ
  obtain ⟨g, hg, ev⟩ := bind_eq ev
  obtain ⟨r, hr, rfl⟩ := map_eq ev
  obtain ⟨hlt, hr⟩ := if_eq hr
  obtain rfl := Option.some.inj hr
  obtain ⟨b, hb⟩ : ∃ b, swapsWith (.ListComp elt gens sc pos) (some (.Name x q)) p.line env = pure b := ⟨_, rfl⟩
  cases b
  · rw [arm_exec_Assign]
    refine wpAny_bind (wpAny_standAt ?_)
    show wpAny _ A (swapsWith (.ListComp elt gens sc pos) (some (.Name x q)) p.line env >>= _) Q E s
    rw [hb]
    refine wpAny_bind (wpAny_pure ?_)
    rw [if_neg Bool.false_ne_true]
    refine wpAny_bind (hse T hg fun v₁ W₁ ρ₁ s₁ af₁ r₁ => ?_)
    rw [swapped_none (t := .Name x q) (fun _ _ _ e => nomatch e) (fun _ _ e => nomatch e)]
    refine wpAny_bind (wpAny_pure ?_)
    show wpAny _ A (do assign (.Name x q) env v₁; pure .next) Q E s₁
    refine wpAny_bind (wpAny_assign_Name (store_sound (n := n) af₁.ok T.X.toEnvOk (T.after af₁).F hi r₁ fun s₂ af₂ F₂ _ => wpAny_pure ?_))
    exact hQ .next _ _ _ (af₁.up.trans (af₂.weaken fun a _ h => locX_lay h)) F₂ rfl
  · rw [exec_Assign_Name_used _ _ _ _ hb]
    obtain ⟨cc, is, t, it, ie, rest, rfl, rfl, G, ht, hs, hf, hz, hasy⟩ := CP.of hc
    obtain ⟨g', hg', e⟩ := bind_eq hg
    obtain ⟨X, ok, F, hn⟩ := T
    refine wpAny_bind (wpAny_standAt (wpAny_bind ?_))
    show wpAny _ A (do let _ ← comprehension (.ListComp elt (⟨t, it, ie, 0⟩ :: rest) sc pos) sc env _ (newList []) false (eval it env) (some (assign (.Name x q) env))) _ _ s
    refine wpAny_bind (wpAny_mono (wpAny_comprehension_free (use := some (assign (.Name x q) env)) (Q := fun _ s' => Q .next s') (g := ⟨t, it, ie, 0⟩) (gs := rest) rfl (hf · env) (X.clos hk) hk.kind (hnames_of hk.nd) ?_) (fun _ s' hq => wpAny_pure (wpAny_pure hq)) fun _ _ e => e)
    refine comp_core (RR := fun acc C => compPost (model B.prog B.w) A E (some (assign (.Name x q) env)) (fun _ s' => Q .next s') acc C) hh S hk H Hi G ht hs hz hasy ⟨X, ok, F, hn⟩ hg' fun D L W' ρ' s' ce => ?_
    show wpAny _ A (assign (.Name x q) env (.ref D)) _ E s'
    obtain ⟨vs, l, r⟩ := ce.lst
    obtain ⟨W'', ρ'', af, rz, hWW, hρρ⟩ := mk_fin ok hn ce.af ce.ownD l r e
    have F' := F.after ok af
    have wL : W'' L := (hWW L (fun e => ce.ne e.symm)).mpr ce.ownL.1
    have pL : L ∉ ρ'' := fun hm => (hρρ L hm).elim ce.ownL.2.1 fun e => ce.ne e.symm
    have layL : ∀ l ∈ lay, l.addr ≠ L := fun l hl e => absurd (ok.mem.wlt _ (F.own l hl).1) (Nat.not_lt.mpr (e ▸ ce.ownL.2.2.2))
    refine wpAny_assign_Name (store_sound (n := n) af.ok X.toEnvOk F' hi rz fun s₂ af₂ F₂ _ => ?_)
    obtain ⟨mL, hmL⟩ := ce.ns
    have tb : ∀ a, B.isTab a → ¬ a = L := fun a t e => absurd (af.ok.mem.tabLt t) (Nat.not_lt.mpr (e ▸ ce.ownL.2.2.1))
    refine ⟨mL, hmL.at' fun o e => af₂.step.kept _ o e pL (fun t => tb L t rfl) (fun hx => ?_), fun h' hsb => ?_⟩
    · obtain ⟨l, hl, e⟩ := locX_lay hx; exact layL l hl e
    · have af₃ : After B n (fun a => a = L) W'' ρ'' g.2 s₂ W'' ρ'' g.2 { s₂ with heap := h' } :=
        (After.refl af₂.ok).other (tk := s₂.toks) (fun a => a = L) (Nat.le_of_eq hsb.1.symm) (fun a o e hne => hsb.extBut a o hne e) (fun a e _ => e ▸ wL) (fun _ e _ => e) (fun a ha e => pL (e ▸ ha)) tb (fun _ _ => Iff.rfl) (fun a w => by rw [hsb.1]; exact af₂.ok.mem.wlt a w)
      have F₃ := F₂.step af₂.ok.mem af₃.step (fun l hl => layL l hl) fun a e => e ▸ wL
      exact hQ .next _ _ _ ((af.up.trans (af₂.weaken fun a _ h => locX_lay h)).fresh af₃ fun a e => e ▸ ce.ownL.2.2.2) F₃ rfl
theorem SS_while {c : MB} {b : List MS} {e : Expr} {x : List Stmt} {p : Pos} (h : SB B M0 Wo A n cx c e) (h1 : SSs B M0 Wo A n cx b x) : SS B M0 Wo A n cx (sWhile c b) (.While e x [] p) := by
  intro env lay fr W ρ cs s o Q E T ev hQ
  refine wpAny_While ?_
  let st : Fr → Cells → Option Ou := fun fr cs => (c Wo n fr cs).bind fun r => if r.1 then evSs Wo n b fr r.2 else some ⟨.brk, fr, r.2⟩
  refine codeAny_whileLoop (fun m s' => ∃ fr' cs' W' ρ', At B M0 A n cx env lay fr' W' ρ' cs' s' ∧ whileGo st m fr' cs' = some o ∧ After B n (layX lay) W ρ cs s W' ρ' cs' s') ?_ loopFuel ⟨fr, cs, W, ρ, T, ev, After.refl T.ok⟩
  rintro m s₁ ⟨fr₁, cs₁, W₁, ρ₁, T₁, ev₁, af₁⟩
  cases m with
  | zero => cases ev₁
  | succ m =>
  obtain ⟨⟨fl₁, fr₃, cs₃⟩, hq, ev₁⟩ := bind_eq ev₁
  obtain ⟨⟨r, cs₂⟩, hr, hq⟩ := bind_eq hq
  refine h T₁ hr fun W₂ ρ₂ s₂ af₂ => ?_
  have T₂ := T₁.after af₂
  cases r with
  | false =>
    obtain ⟨rfl, rfl, rfl⟩ := Ou.mk.inj (Option.some.inj hq)
    obtain rfl := Option.some.inj ev₁
    rw [if_neg Bool.false_ne_true]
    exact wpAny_execs_nil (hQ .next _ _ _ (af₁.trans af₂.up) T₂.F rfl)
  | true =>
    rw [if_pos rfl]
    refine h1 T₂ hq fun fl W₃ ρ₃ s₃ af₃ F₃ r₃ => ?_
    have af := (af₁.trans af₂.up).trans af₃
    have T₃ := T₂.go af₃ F₃
    cases fl₁ with
    | next => obtain rfl := r₃; exact ⟨m, Nat.lt_succ_self _, fr₃, cs₃, _, _, T₃, ev₁, af⟩
    | cont => obtain rfl := r₃; exact ⟨m, Nat.lt_succ_self _, fr₃, cs₃, _, _, T₃, ev₁, af⟩
    | brk => obtain rfl := r₃; obtain rfl := Option.some.inj ev₁; exact hQ .next _ _ _ af F₃ rfl
    | ret v => obtain ⟨w, rfl, r₃⟩ := r₃; obtain rfl := Option.some.inj ev₁; exact hQ _ _ _ _ af F₃ ⟨w, rfl, r₃⟩
inductive FRuns (st : AV → Fr → Cells → Option Ou) (it : It) : Nat → Nat → Fr → Cells → Ou → Prop
  | done {k : Nat} {fr : Fr} {cs : Cells} (h : itemAt cs it k = some none) : FRuns st it 0 k fr cs ⟨.next, fr, cs⟩
  | turn {m k : Nat} {x : AV} {fr : Fr} {cs : Cells} {o o' : Ou} (h : itemAt cs it k = some (some x)) (e : st x fr cs = some o) (hf : o.fl = .next ∨ o.fl = .cont) (r : FRuns st it m (k + 1) o.fr o.cs o') : FRuns st it (m + 1) k fr cs o'
  | brk {k : Nat} {x : AV} {fr : Fr} {cs : Cells} {o : Ou} (h : itemAt cs it k = some (some x)) (e : st x fr cs = some o) (hf : o.fl = .brk) : FRuns st it 0 k fr cs ⟨.next, o.fr, o.cs⟩
  | ret {k : Nat} {x : AV} {fr : Fr} {cs : Cells} {o : Ou} {v : AV} (h : itemAt cs it k = some (some x)) (e : st x fr cs = some o) (hf : o.fl = .ret v) : FRuns st it 0 k fr cs ⟨.ret v, o.fr, o.cs⟩
theorem FRuns.step {st : AV → Fr → Cells → Option Ou} {it : It} {k : Nat} {x : AV} {fr : Fr} {cs : Cells} {o o' : Ou} (h : itemAt cs it k = some (some x)) (e : st x fr cs = some o) {G : Fr → Cells → Option Ou}
    (ih : G o.fr o.cs = some o' → ∃ m, FRuns st it m (k + 1) o.fr o.cs o') (ev : o.then G = some o') : ∃ m, FRuns st it m k fr cs o' := by
  obtain ⟨fl, fr₁, cs₁⟩ := o
  cases fl with
  | next => obtain ⟨m, r⟩ := ih ev; exact ⟨m + 1, .turn h e (.inl rfl) r⟩
  | cont => obtain ⟨m, r⟩ := ih ev; exact ⟨m + 1, .turn h e (.inr rfl) r⟩
  | brk => obtain rfl := Option.some.inj ev; exact ⟨0, .brk h e rfl⟩
  | ret v => obtain rfl := Option.some.inj ev; exact ⟨0, .ret h e rfl⟩
theorem fruns_items {st : AV → Fr → Cells → Option Ou} {xs : List AV} (ys : List AV) : ∀ {k : Nat} {fr : Fr} {cs : Cells} {o : Ou}, xs.drop k = ys → forItems st ys fr cs = some o → ∃ m, FRuns st (.items xs) m k fr cs o := by
  induction ys with
  | nil =>
    intro k fr cs o hd h
    obtain rfl := Option.some.inj h
    exact ⟨0, .done (congrArg some (List.getElem?_eq_none (List.drop_eq_nil_iff.mp hd)))⟩
  | cons y ys ih =>
    intro k fr cs o hd h
    obtain ⟨b, hb, h⟩ := bind_eq h
    have h0 : xs[k]? = some y := by
      have := List.getElem?_drop (xs := xs) (i := k) (j := 0)
      rw [hd] at this; exact this.symm
    exact FRuns.step (congrArg some h0) hb (fun e => ih (by rw [← List.drop_drop, hd]; rfl) e) h
theorem fruns_cell {st : AV → Fr → Cells → Option Ou} {i : Nat} (fu : Nat) : ∀ {k : Nat} {fr : Fr} {cs : Cells} {o : Ou}, forCell st i fu k fr cs = some o → ∃ m, FRuns st (.cell i) m k fr cs o := by
  induction fu with
  | zero => intro k fr cs o h; cases h
  | succ fu ih =>
    intro k fr cs o h
    obtain ⟨xs, hc, h⟩ := bind_eq h
    have hi : itemAt cs (.cell i) k = some xs[k]? := congrArg (Option.map fun xs => xs[k]?) hc
    cases hx : xs[k]? with
    | none =>
      rw [hx] at h hi
      obtain rfl := Option.some.inj h
      exact ⟨0, .done hi⟩
    | some x =>
      rw [hx] at h hi
      obtain ⟨b, hb, h⟩ := bind_eq h
      exact FRuns.step hi hb (fun e => ih e) h
theorem fruns_of {st : AV → Fr → Cells → Option Ou} {it : It} {fr : Fr} {cs : Cells} {o : Ou} (h : forGo st it fr cs = some o) : ∃ m, FRuns st it m 0 fr cs o := by
  cases it with
  | items xs => exact fruns_items xs rfl h
  | cell i => exact fruns_cell _ h
theorem SS_for (hh : A.handled = none) {is : List Nat} {ci : MI} {b : List MS} {t it : Expr} {x : List Stmt} {p : Pos} (ht : trTarget cx t = some is) (hi : SI B M0 Wo A n cx ci it) (hf : ∀ x env, foldedSetIterable it env x = pure x) (hz : tgtOk t ci.zip = true) (h1 : SSs B M0 Wo A n cx b x) :
    SS B M0 Wo A n cx (sFor is ci b) (.For t it x [] p) := by
  intro env lay fr W ρ cs s o Q E T ev hQ
  obtain ⟨q, hq, ev⟩ := bind_eq ev
  obtain ⟨m, runs⟩ := fruns_of ev
  obtain ⟨X, ok, F, hn⟩ := T
  refine wpAny_For (hi ⟨X, ok, F, hn⟩ hq fun I pr W₁ ρ₁ s₁ af₁ ia fresh htz => ?_) (hf · env)
  have F₁ := F.after ok af₁
  have prOff : ∀ a ∈ pr, ∀ l ∈ lay, l.addr ≠ a := fun a ha l hl e => absurd (ok.mem.wlt _ (F.own l hl).1) (Nat.not_lt.mpr (e ▸ fresh a ha))
  have htz := tgtOk_zip hz htz
  let st : AV → Fr → Cells → Option Ou := fun x fr cs => (bindT is x fr).bind fun fr' => evSs Wo n b fr' cs
  refine codeAny_forLoop_any (fun m s' => ∃ k fr' cs' W' ρ', Ok B W' ρ' cs' s' ∧ Frm B lay fr' W' ρ' s'.heap ∧ n ≤ cs'.length ∧ FRuns st q.1 m k fr' cs' o ∧ IterAt B s'.heap W' ρ' I q.1 k pr ∧ After B n (fun a => layX lay a ∨ a ∈ pr) W₁ ρ₁ q.2 s₁ W' ρ' cs' s') ?_ m
    ⟨0, fr, q.2, W₁, ρ₁, af₁.ok, F₁, Nat.le_trans hn (af₁.length ok), runs, ia, After.refl af₁.ok⟩
  rintro m s₂ ⟨k, fr₂, cs₂, W₂, ρ₂, ok₂, F₂, hn₂, runs₂, ia₂, af₂⟩
  have fin : ∀ {fl : Flow} {fr' : Fr} {cs' : Cells} {l : Fl} {W' : Addr → Prop} {ρ' : List Addr} {s' : Shared}, o = ⟨l, fr', cs'⟩ → After B n (fun a => layX lay a ∨ a ∈ pr) W₁ ρ₁ q.2 s₁ W' ρ' cs' s' → Frm B lay fr' W' ρ' s'.heap → FRel B s'.heap W' ρ' l fl → Q fl s' := by
    rintro fl fr' cs' l W' ρ' s' rfl af F' r
    refine hQ fl W' ρ' s' ?_ F' r
    exact (af₁.up.trans af).weaken fun a hlt h => h.elim id fun h => absurd hlt (Nat.not_lt.mpr (fresh a h))
  have head : ∀ {y : Option AV}, itemAt cs₂ q.1 k = some y → ∀ {P : Option Value → Shared → Prop} {E : Value → Shared → Prop}, (y = none → ∀ s', After B n (· ∈ pr) W₂ ρ₂ cs₂ s₂ W₂ ρ₂ cs₂ s' → P none s') →
      (∀ x, y = some x → ∀ v W' s', After B n (· ∈ pr) W₂ ρ₂ cs₂ s₂ W' ρ₂ cs₂ s' → VRel B s'.heap W' ρ₂ x v → IterAt B s'.heap W' ρ₂ I q.1 (k + 1) pr → P (some v) s') →
      wpAny (model B.prog B.w) A (pyNext (.ref I)) (fun r s₁ => match r with | none => P none s₁ | some v => wpAny (model B.prog B.w) A (letOwnedTupleGo t (.ref I) v) (fun _ s₂ => P (some v) s₂) E s₁) E s₂ :=
    fun hy _ _ hnone hsome => next_sound (n := n) hh ok₂ ia₂ hy htz hnone hsome
  have prW : ∀ x ∈ pr, W₂ x := fun x hx => (ia₂.priv x hx).1
  -- one turn
  have turn : ∀ {x' : AV} {o₁ : Ou}, st x' fr₂ cs₂ = some o₁ → ∀ {v : Value} {W₃ : Addr → Prop} {s₃ : Shared}, After B n (· ∈ pr) W₂ ρ₂ cs₂ s₂ W₃ ρ₂ cs₂ s₃ → VRel B s₃.heap W₃ ρ₂ x' v → IterAt B s₃.heap W₃ ρ₂ I q.1 (k + 1) pr → ∀ {P : Flow → Shared → Prop} {E : Value → Shared → Prop},
      (∀ fl W₄ ρ₄ s₄, After B n (fun a => layX lay a ∨ a ∈ pr) W₁ ρ₁ q.2 s₁ W₄ ρ₄ o₁.cs s₄ → Frm B lay o₁.fr W₄ ρ₄ s₄.heap → IterAt B s₄.heap W₄ ρ₄ I q.1 (k + 1) pr → n ≤ o₁.cs.length → FRel B s₄.heap W₄ ρ₄ o₁.fl fl → P fl s₄) →
      wpAny (model B.prog B.w) A (assign t env v) (fun _ s₄ => wpAny (model B.prog B.w) A (execs x env) P E s₄) E s₃ := by
    intro x' o₁ hst v W₃ s₃ af₃ r₃ ia₃ P E hP
    obtain ⟨fr', hfr, hev⟩ := bind_eq hst
    have F₃ : Frm B lay fr₂ W₃ ρ₂ s₃.heap := F₂.step ok₂.mem af₃.step (fun l hl hm => prOff _ hm l hl rfl) prW
    refine bindT_sound (n := n) hh X.toEnvOk ht af₃.ok F₃ r₃ hfr fun W₄ s₄ af₄ F₄ => ?_
    have ia₄ : IterAt B s₄.heap W₄ ρ₂ I q.1 (k + 1) pr := ia₃.step af₃.ok.mem af₄.step (fun a ha hx => let ⟨l, hl, e⟩ := slotX_lay hx; prOff a ha l hl e) fun a hx => F₃.layW a (slotX_lay hx)
    refine h1 ⟨X, af₄.ok, F₄, hn₂⟩ hev fun fl W₅ ρ₅ s₅ af₅ F₅ r₅ => ?_
    have ia₅ : IterAt B s₅.heap W₅ ρ₅ I q.1 (k + 1) pr := ia₄.step af₄.ok.mem af₅.step (fun a ha ⟨l, hl, e⟩ => prOff a ha l hl e) F₄.layW
    refine hP fl W₅ ρ₅ s₅ ?_ F₅ ia₅ (Nat.le_trans hn₂ (af₅.length af₄.ok)) r₅
    exact ((af₂.trans (af₃.weaken fun _ _ => .inr)).trans (af₄.weaken fun a _ h => .inl (slotX_lay h))).trans (af₅.weaken fun _ _ => .inl)
  have go : ∀ {x' : AV} {o₁ : Ou}, itemAt cs₂ q.1 k = some (some x') → st x' fr₂ cs₂ = some o₁ → ∀ {P : Flow → Shared → Prop} {N : Shared → Prop} {E : Value → Shared → Prop},
      (∀ fl W₄ ρ₄ s₄, After B n (fun a => layX lay a ∨ a ∈ pr) W₁ ρ₁ q.2 s₁ W₄ ρ₄ o₁.cs s₄ → Frm B lay o₁.fr W₄ ρ₄ s₄.heap → IterAt B s₄.heap W₄ ρ₄ I q.1 (k + 1) pr → n ≤ o₁.cs.length → FRel B s₄.heap W₄ ρ₄ o₁.fl fl → P fl s₄) →
      wpAny (model B.prog B.w) A (pyNext (.ref I)) (fun r s₁ => match r with
        | none => N s₁
        | some v => wpAny (model B.prog B.w) A (letOwnedTupleGo t (.ref I) v) (fun _ s₂ => wpAny (model B.prog B.w) A (assign t env v) (fun _ s₄ => wpAny (model B.prog B.w) A (execs x env) P E s₄) E s₂) E s₁) E s₂ := by
    intro x' o₁ h e P N E hP
    refine wpAny_mono (head h (P := fun r s' => match r with | none => False | some v => wpAny (model B.prog B.w) A (assign t env v) (fun _ s₄ => wpAny (model B.prog B.w) A (execs x env) P E s₄) E s') (fun e => nomatch e) fun x'' ex v W' s' af r ia' => ?_) (fun r s' hr => ?_) fun _ _ e => e
    · obtain rfl := Option.some.inj ex
      exact turn e af r ia' hP
    · cases r with
      | none => exact hr.elim
      | some v => exact hr
  cases runs₂ with
  | done h =>
    refine wpAny_mono (head h (P := fun r s' => match r with | none => Q .next s' | some v => False) (fun _ s' af => fin rfl (af₂.trans (af.weaken fun _ _ => .inr)) (F₂.step ok₂.mem af.step (fun l hl hm => prOff _ hm l hl rfl) prW) rfl) fun x e => nomatch e) (fun r s' hr => ?_) fun _ _ e => e
    cases r with
    | none => exact wpAny_execs_nil hr
    | some v => exact wpAny_mono hr (fun _ s'' h => h.elim) fun _ _ e => e
  | @turn m' _ x' _ _ o₁ _ h e hf r =>
    refine go h e fun fl W₄ ρ₄ s₄ af₄ F₄ ia₄ hn₄ r₄ => ?_
    have next : ∃ m, m < m' + 1 ∧ ∃ k fr' cs' W' ρ', Ok B W' ρ' cs' s₄ ∧ Frm B lay fr' W' ρ' s₄.heap ∧ n ≤ cs'.length ∧ FRuns st q.1 m k fr' cs' o ∧ IterAt B s₄.heap W' ρ' I q.1 k pr ∧ After B n (fun a => layX lay a ∨ a ∈ pr) W₁ ρ₁ q.2 s₁ W' ρ' cs' s₄ :=
      ⟨m', Nat.lt_succ_self _, k + 1, o₁.fr, o₁.cs, W₄, ρ₄, af₄.ok, F₄, hn₄, r, ia₄, af₄⟩
    rcases hf with hf | hf <;> rw [hf] at r₄ <;> obtain rfl := r₄ <;> exact next
  | @brk _ x' _ _ o₁ h e hf =>
    refine go h e fun fl W₄ ρ₄ s₄ af₄ F₄ ia₄ hn₄ r₄ => ?_
    rw [hf] at r₄
    obtain rfl := r₄
    exact fin rfl af₄ F₄ rfl
  | @ret _ x' _ _ o₁ v h e hf =>
    refine go h e fun fl W₄ ρ₄ s₄ af₄ F₄ ia₄ hn₄ r₄ => ?_
    rw [hf] at r₄
    obtain ⟨w, rfl, r₄⟩ := r₄
    exact fin rfl af₄ F₄ ⟨w, rfl, r₄⟩
theorem SS_items (hh : A.handled = none) (S : Stat B) {a : ME} {t o : Expr} {nm : Str} {ap cp : Pos} {x : List Stmt} {p : Pos} (hb : plainBase o = true) (hnm : tx nm = itemsName) (hline : ap.endLine = cp.line) (h : SE B M0 Wo A n cx a o) :
    SS B M0 Wo A n cx (sItems a) (.For t (.Call (.Attribute o nm ap) [] [] cp) x [] p) := by
  obtain rfl : nm = "items" := by rw [tx_of hnm]; decide +kernel
  intro env lay fr W ρ cs s o' Q E T ev hQ
  obtain ⟨g, hg, ev⟩ := bind_eq ev
  obtain ⟨es, he, ev⟩ := bind_eq ev
  obtain ⟨hem, ev⟩ := if_eq ev
  obtain rfl := Option.some.inj ev
  obtain ⟨i, hi, he⟩ := bind_eq he
  refine wpAny_For ?_ (fun _ => rfl)
  rw [arm_eval_Call, attributeBase_plain hb]
  refine wpAny_bind (h T hg fun v₁ W₁ ρ₁ s₁ af₁ r₁ => wpAny_bind (wpAny_standAt ?_))
  obtain ⟨d, hv, gi⟩ := r₁.ofRef hi
  obtain ⟨kvs, l, r⟩ := af₁.ok.mem.dictAt he gi
  rw [List.isEmpty_iff.mp hem] at r
  cases r
  rw [hv]
  have hd : (d == sysModules) = false := beq_false_of_ne fun e => absurd S.sysm (Nat.not_lt.mpr (e ▸ (af₁.ok.mem.own d (List.mem_of_getElem? gi)).2))
  obtain ⟨ep, hm⟩ := l.dictAt
  refine methodCall_gen (ks := []) (es := []) hline (fun _ _ => ⟨rfl, rfl⟩) (by decide) (Nat.zero_le _) rfl fun pl => getMethod_builtin l.typeIs PySem.F.plainAttrs_dict PySem.F.slot_dict_items PySem.F.type_dict_items l.mapOf.noDict ?_
  show wpAny _ A (callWith cp (.builtin "dict.items") [.ref d] [] []) _ E s₁
  refine method_meetsIn PySem.F.slot_dict_items PySem.F.entry_dict_items rfl (PySem.evalArgs_none ⟨rfl, l.typeIs, PySem.F.args_dict_items_1 _, _, meets_dict_items (strKind B.prog B.w) d hd, ⟨_, l⟩, ?_⟩)
  refine wpAny_pyIter_items (knd := strKind B.prog B.w) (d := d) (kvs := []) (ep := ep) ⟨_, Heap.get?_push_size _ rfl, rfl, rfl⟩ (hm.push _) ?_
  refine codeAny_forLoop_any (fun m s' => s' = { s₁ with heap := (s₁.heap.push { cls := .type "dict_items", data := .fields #[.ref d] }).push { cls := .type "dict_itemiterator", data := .fields #[.none, .bool false, .ref d, .int 0 0, .int ([] : List (Str × Value)).length 0, .int ep 0, .none, .none] } }) ?_ 0 rfl
  rintro m s' rfl
  refine with_size (wpAny_pyNext_items_end (knd := strKind B.prog B.w) (d := d) (ep := ep) (kvs := []) (i := 0) hh (Heap.get?_push_size _ rfl) ((hm.push _).push _) rfl fun h' he hsz => wpAny_execs_nil ?_)
  have z1 : (s₁.heap.push { cls := .type "dict_items", data := .fields #[.ref d] }).objs.size = s₁.heap.objs.size + 1 := Heap.size_push ..
  have hsz' : s₁.heap.objs.size ≤ h'.objs.size := Nat.le_trans (Nat.le_succ _) (Nat.le_trans (Nat.le_of_eq z1.symm) (Nat.le_trans (Nat.le_succ _) (Nat.le_trans (Nat.le_of_eq (Heap.size_push ..).symm) hsz)))
  have af₂ : After B n Non W₁ ρ₁ g.2 s₁ W₁ ρ₁ g.2 { s₁ with heap := h', toks := s₁.toks } := af₁.ok.grow hsz' fun a o e => he _ _ (fun q => by
    have h1 : @LT.lt Nat _ a s₁.heap.objs.size := Heap.lt_size e
    rw [show a = (s₁.heap.push { cls := .type "dict_items", data := .fields #[.ref d] }).objs.size from q, z1] at h1
    exact absurd h1 (Nat.not_lt.mpr (Nat.le_succ _))) (Heap.get?_push_of_some _ (Heap.get?_push_of_some _ e))
  exact hQ .next W₁ ρ₁ { s₁ with heap := h' } (af₁.trans af₂).up ((T.after af₁).after af₂).F rfl
end
end Ev
namespace Ev
open PySem PySem.W PyProof.Rows PySem.SeqAt
theorem assign_fail {B : Base} {M0 : List (Tx × Nat)} {Wo : Wd} {cx : Cx} {A : Around} {n : Nat} {t : MT} {e : Stmt} : SS B M0 Wo A n cx (sAssign t eFail) e := by
  intro env lay fr W ρ cs s o Q E T e
  cases e
section
variable {B : Base} {M0 : List (Tx × Nat)} {Wo : Wd} {cx : Cx} {A : Around} {n : Nat}
theorem trF_sp {t : TrF} (H : TrAll B M0 Wo A n cx t) (x : Expr) : SP B M0 Wo A n cx (trF t cx x) x := by
  cases x with
  | FormattedValue v c f p =>
    show SP B M0 Wo A n cx (if c = -1 ∧ f.isNone then t.e cx v else eFail) _
    by_cases h : c = -1 ∧ f.isNone = true
    · rw [if_pos h]
      obtain ⟨rfl, hf⟩ := h
      obtain rfl := Option.isNone_iff_eq_none.mp hf
      exact SP_form (H.e v)
    · rw [if_neg h]; exact SE_fail.sp
  | Constant c k p =>
    cases c with
    | str s => exact (SE_lit_const (c := .str s)).sp
    | _ => exact SE_fail.sp
  | _ => exact SE_fail.sp
theorem kw_ok (R : Rx B M0 Wo A) {t : TrF} (H : TrAll B M0 Wo A n cx t) {o : Expr} {nm : Str} {ap p : Pos} {as : List Expr} {k : Keyword} (h : plainBase o = true ∧ ap.endLine = p.line ∧ as.length < 20) : SE B M0 Wo A n cx (trKw t cx o nm as k) (.Call (.Attribute o nm ap) as [k] p) := by
  obtain ⟨arg, v, q⟩ := k
  show SE B M0 Wo A n cx (if arg.map tx = some nameTx then (cx.meths.lookup (tx nm)).elim eFail fun m => eMethk (t.e cx o) m (as.map (t.e cx)) (t.e cx v) else eFail) _
  by_cases ha : arg.map tx = some nameTx
  · rw [if_pos ha]
    obtain ⟨kn, rfl, hkn⟩ := map_eq ha
    cases hm : cx.meths.lookup (tx nm) with
    | none => exact SE_fail
    | some m => exact SE_methk R h.1 h.2.1 h.2.2 hkn hm (H.e o) H.ok (H.e v)
  · rw [if_neg ha]; exact SE_fail
theorem meth_ok (R : Rx B M0 Wo A) {t : TrF} (H : TrAll B M0 Wo A n cx t) {o : Expr} {nm : Str} {ap p : Pos} {as : List Expr} {ks : List Keyword} : SE B M0 Wo A n cx (trMeth t cx o nm ap as ks p) (.Call (.Attribute o nm ap) as ks p) := by
  unfold trMeth
  by_cases h : plainBase o = true ∧ ap.endLine = p.line ∧ as.length < 20
  · rw [if_pos h]
    cases ks with
    | nil => exact SE_meth R h.1 h.2.1 h.2.2 (H.e o) H.ok
    | cons k ks =>
      cases ks with
      | nil => exact kw_ok R H h
      | cons => exact SE_fail
  · rw [if_neg h]; exact SE_fail
theorem cls?_eq {v : NV} (h : v.cls? = true) : v = .lit .cls := by
  cases v with
  | lit v => cases v <;> first | rfl | cases h
  | _ => cases h
theorem call_ok (R : Rx B M0 Wo A) (hk : ∀ s, Kept B s.heap → KeepOk (model B.prog B.w) A s (.ref B.clsA)) {t : TrF} (H : TrAll B M0 Wo A n cx t) {f : Expr} {as : List Expr} {ks : List Keyword} {p : Pos} : SE B M0 Wo A n cx (trCall t cx f as ks p) (.Call f as ks p) := by
  cases f with
  | Name x q =>
    show SE B M0 Wo A n cx (if (ks.isEmpty && decide (as.length < 20)) = true then (if (nameV cx x).cls? then (if as.isEmpty then eNew else eFail) else eCall (eName (nameV cx x)) (as.map (t.e cx))) else eFail) _
    by_cases h : (ks.isEmpty && decide (as.length < 20)) = true
    · rw [if_pos h]
      obtain rfl := List.isEmpty_iff.mp (Bool.and_eq_true_iff.mp h).1
      have hn : SE B M0 Wo A n cx (eName (nameV cx x)) (.Name x q) := SE_name R.S
      by_cases hc : (nameV cx x).cls? = true
      · rw [if_pos hc]
        rw [cls?_eq hc] at hn
        cases as with
        | nil => exact SE_new R hk hn
        | cons => exact SE_fail
      · rw [if_neg hc]; exact SE_call R hn H.ok
    · rw [if_neg h]; exact SE_fail
  | Attribute o nm ap => exact meth_ok R H
  | _ => exact SE_fail
theorem sub_ok {t : TrF} (H : TrAll B M0 Wo A n cx t) {m : Bool} {o i : Expr} {p : Pos} : SE B M0 Wo A n cx (trSub t cx m (t.e cx o) i) (.Subscript o i p) := by
  cases i with
  | Slice lo hi st q =>
    cases st with
    | none => exact SE_slc (H.e o) (SO_all H.e lo) (SO_all H.e hi)
    | some => exact SE_fail
  | _ => exact SE_idx (fun _ _ _ e => nomatch e) (H.e o) (H.e _)
theorem trCmp_inv {t : TrF} {ops : List CmpOp} {bs : List Expr} {q : COp × ME} (h : trCmp t cx ops bs = some q) : ∃ op b, ops = [op] ∧ bs = [b] ∧ notSet b = true ∧ q = (trCOp op, t.e cx b) := by
  obtain ⟨op, h1, h⟩ := bind_eq h
  obtain ⟨b, h2, h⟩ := bind_eq h
  obtain ⟨h3, h⟩ := if_eq h
  exact ⟨op, b, one?_eq h1, one?_eq h2, h3, (Option.some.inj h).symm⟩
theorem comp_ok (R : Rx B M0 Wo A) {t : TrF} (H : ∀ cx, TrAll B M0 Wo A n cx t) {m : Bool} {elt : Expr} {gens : List Comprehension} {sc : Scope} {p : Pos} : SE B M0 Wo A n cx (trComp t cx m elt gens sc) (.ListComp elt gens sc p) := by
  unfold trComp
  by_cases h : scopeOk cx sc = true
  · rw [if_pos h]
    cases hc : trCs t cx (cx.inner sc) gens with
    | none => exact SE_fail
    | some c => exact SE_comp R.hh R.S (.of h) (H cx) (H _) hc
  · rw [if_neg h]; exact SE_fail
theorem attr_ok (R : Rx B M0 Wo A) {t : TrF} (H : TrAll B M0 Wo A n cx t) {o : Expr} {nm : Str} {p : Pos} : SE B M0 Wo A n cx (trAttr o (t.e cx o) nm) (.Attribute o nm p) := by
  unfold trAttr
  by_cases h : plainBase o = true
  · rw [if_pos h]
    by_cases h1 : tx nm = appendTx
    · rw [if_pos h1]; exact SE_attrApp h h1 (H.e o)
    rw [if_neg h1]
    by_cases h2 : tx nm = headersName
    · rw [if_pos h2]; exact SE_attr R h h2 (H.e o)
    · rw [if_neg h2]; exact SE_fail
  · rw [if_neg h]; exact SE_fail
theorem stepE_ok (R : Rx B M0 Wo A) (hk : ∀ s, Kept B s.heap → KeepOk (model B.prog B.w) A s (.ref B.clsA)) {t : TrF} (H : ∀ cx, TrAll B M0 Wo A n cx t) (cx : Cx) (e : Expr) : SE B M0 Wo A n cx (stepE t cx e) e := by
  cases e with
  | Constant c k p => exact SE_lit_const
  | Name x p => exact SE_name R.S
  | BoolOp op vs p => exact SE_bool (H cx).e
  | IfExp c a b p => exact SE_ite ((H cx).b c) ((H cx).e a) ((H cx).e b)
  | BinOp a op b p =>
    show SE B M0 Wo A n cx ((trBOp op).elim eFail fun o => eBin (cx.mark p) o (t.e cx a) (t.e cx b)) _
    cases ho : trBOp op with
    | none => exact SE_fail
    | some o => exact SE_bin ho ((H cx).e a) ((H cx).e b)
  | UnaryOp op a p =>
    cases op with
    | USub => exact SE_neg ((H cx).e a)
    | Not => exact SE_not ((H cx).e a)
    | _ => exact SE_fail
  | Compare a ops bs p =>
    show SE B M0 Wo A n cx ((trCmp t cx ops bs).elim eFail fun q => eCmp q.1 (t.e cx a) q.2) _
    cases hq : trCmp t cx ops bs with
    | none => exact SE_fail
    | some q =>
      obtain ⟨op, b, rfl, rfl, hb, rfl⟩ := trCmp_inv hq
      exact SE_cmp R (marks_of hb op) ((H cx).e a) ((H cx).e b)
  | Tuple es k p =>
    cases es with
    | nil => exact SE_fail
    | cons => exact SE_tup ((H cx).ok.all _)
  | List es p => exact SE_list ((H cx).ok.all es)
  | Dict ks vs p =>
    cases ks with
    | nil =>
      cases vs with
      | nil => exact SE_dict
      | cons => exact SE_fail
    | cons => exact SE_fail
  | ListComp elt gens sc p => exact comp_ok R H
  | Call f as ks p => exact call_ok R hk (H cx)
  | Attribute o nm p => exact attr_ok R (H cx)
  | Subscript o i p => exact sub_ok (H cx)
  | JoinedStr vs p => exact SE_fstr (trF_sp (H cx))
  | Lambda as b sc p =>
    show SE B M0 Wo A n cx (if noFree sc = true ∧ plainLam as = true ∧ cx.lamOk = true then eLam else eFail) _
    by_cases h : noFree sc = true ∧ plainLam as = true ∧ cx.lamOk = true
    · rw [if_pos h]; exact SE_lam h.2.2 h.2.1 h.1
    · rw [if_neg h]; exact SE_fail
  | _ => exact SE_fail
theorem stepB_ok (R : Rx B M0 Wo A) (hk : ∀ s, Kept B s.heap → KeepOk (model B.prog B.w) A s (.ref B.clsA)) {t : TrF} (H : ∀ cx, TrAll B M0 Wo A n cx t) (cx : Cx) (e : Expr) : SB B M0 Wo A n cx (stepB t cx e) e := by
  have he := stepE_ok R hk H cx e
  cases e with
  | UnaryOp op a p =>
    cases op with
    | Not => exact SB_not ((H cx).b a)
    | _ => exact SB_plain rfl he
  | BoolOp op vs p => exact SB_bool (H cx).b
  | IfExp c a b p => exact SB_ite ((H cx).b c) ((H cx).b a) ((H cx).b b)
  | Compare a ops bs p =>
    show SB B M0 Wo A n cx ((trCmp t cx ops bs).elim eFail fun q => bCmp q.1 (t.e cx a) q.2) _
    cases hq : trCmp t cx ops bs with
    | none => exact SB_fail
    | some q =>
      obtain ⟨op, b, rfl, rfl, hb, rfl⟩ := trCmp_inv hq
      exact SB_cmp R (marks_of hb op) ((H cx).e a) ((H cx).e b)
  | _ => exact SB_plain rfl he
theorem stepE_star {t : TrF} {x : Expr} (h : isStar x = true) : stepE t cx x = eFail := by
  cases x with
  | Starred => rfl
  | _ => cases h
theorem tr_ok (R : Rx B M0 Wo A) (hk : ∀ s, Kept B s.heap → KeepOk (model B.prog B.w) A s (.ref B.clsA)) (f : Nat) : ∀ cx, TrAll B M0 Wo A n cx (tr f) := by
  induction f with
  | zero => exact fun cx => ⟨fun _ => by exact SE_fail, fun _ => by exact SB_fail, fun _ _ => rfl⟩
  | succ f ih => exact fun cx => ⟨stepE_ok R hk ih cx, stepB_ok R hk ih cx, fun x h => stepE_star h⟩
noncomputable def LcOk (B : Base) (M0 : List (Tx × Nat)) (Wo : Wd) (A : Around) (n : Nat) (t : TrF) : Prop := ∀ cx elt gens sc p, t.e cx (.ListComp elt gens sc p) = eFail ∨ ∃ tf, (∀ cx, TrAll B M0 Wo A n cx tf) ∧ t.e cx (.ListComp elt gens sc p) = trComp tf cx (cx.mark p) elt gens sc
theorem tr_lc (R : Rx B M0 Wo A) (hk : ∀ s, Kept B s.heap → KeepOk (model B.prog B.w) A s (.ref B.clsA)) (f : Nat) : LcOk B M0 Wo A n (tr f) := fun cx elt gens sc p => by
  cases f with
  | zero => exact .inl rfl
  | succ f => exact .inr ⟨tr f, tr_ok R hk f, rfl⟩
theorem swaps_not {e : Expr} (h : (isLC e || isSC e) = false) (t : Option Expr) : ∀ l env, swapsWith e t l env = pure false := by
  intro l env
  cases e <;> first | rfl | cases h
theorem lc_eq {e : Expr} (h : isLC e = true) : ∃ elt gens sc p, e = .ListComp elt gens sc p := by
  cases e with
  | ListComp elt gens sc p => exact ⟨_, _, _, _, rfl⟩
  | _ => cases h
theorem asg_name (R : Rx B M0 Wo A) {t : TrF} (H : ∀ cx, TrAll B M0 Wo A n cx t) (L : LcOk B M0 Wo A n t) {x : Str} {i : Nat} {e : Expr} {p q : Pos} (hs : isSC e = false) (hi : trSlot cx x = some i) : SS B M0 Wo A n cx (sAssign (tVar i) (t.e cx e)) (.Assign [.Name x q] e p) := by
  cases hl : isLC e with
  | false => exact SS_assign (fun _ _ _ e => nomatch e) (fun _ _ e => nomatch e) (fun _ _ e => nomatch e) (swaps_not (by rw [hl, hs]; rfl) _) ((H cx).e e) (ST_var hi)
  | true =>
    obtain ⟨elt, gens, sc, r, rfl⟩ := lc_eq hl
    rcases L cx elt gens sc r with h | ⟨tf, Hf, h⟩
    · rw [h]; exact assign_fail
    · rw [h]
      unfold trComp
      by_cases hsc : scopeOk cx sc = true
      · rw [if_pos hsc]
        cases hc : trCs tf cx (cx.inner sc) gens with
        | none => exact assign_fail
        | some c => exact SS_asgC R.hh R.S (.of hsc) (Hf cx) (Hf _) hi hc
      · rw [if_neg hsc]; exact assign_fail
theorem swaps_sub {e o i : Expr} {q : Pos} {l : Nat} {env : Env} : swapsWith e (some (.Subscript o i q)) l env = pure false := by cases e <;> rfl
theorem swaps_attr {e o : Expr} {nm : Str} {q : Pos} {l : Nat} {env : Env} : swapsWith e (some (.Attribute o nm q)) l env = pure false := by cases e <;> rfl
theorem sub_tgt (R : Rx B M0 Wo A) {t : TrF} (H : TrAll B M0 Wo A n cx t) {o i : Expr} {q : Pos} {c : MT} (h : trTSub t cx o i = some c) : ST B M0 Wo A n cx c (.Subscript o i q) := by
  cases i with
  | Slice lo hi st r =>
    obtain ⟨hc, h⟩ := if_eq h
    have h1 := Bool.and_eq_true_iff.mp hc
    have h2 := Bool.and_eq_true_iff.mp h1.2
    obtain rfl := Option.isNone_iff_eq_none.mp h1.1
    obtain rfl := Option.isNone_iff_eq_none.mp h2.1
    obtain rfl := Option.isNone_iff_eq_none.mp h2.2
    obtain rfl := Option.some.inj h
    exact ST_whole (H.e o)
  | _ => obtain rfl := Option.some.inj h; exact ST_idx R (H.e o) (H.e _)
theorem asg_ok (R : Rx B M0 Wo A) {t : TrF} (H : ∀ cx, TrAll B M0 Wo A n cx t) (L : LcOk B M0 Wo A n t) {g e : Expr} {p : Pos} (hs : isSC e = false) : SS B M0 Wo A n cx (trAsg t cx g e) (.Assign [g] e p) := by
  unfold trAsg
  cases htu : tupleOf g with
  | some ts =>
    obtain ⟨k, q, rfl⟩ := tupleOf_eq htu
    show SS B M0 Wo A n cx ((ts.mapM fun e => (nameOf e).bind (trSlot cx)).elim sFail fun is => if is.Nodup ∧ foldOk e = true then sAsgT is (t.e cx e) else sFail) _
    cases hm : ts.mapM fun e => (nameOf e).bind (trSlot cx) with
    | none => exact SS_fail
    | some is =>
      show SS B M0 Wo A n cx (if is.Nodup ∧ foldOk e = true then sAsgT is (t.e cx e) else sFail) _
      by_cases h : is.Nodup ∧ foldOk e = true
      · rw [if_pos h]; exact SS_asgT R.hh h.1 h.2 ((H cx).e e) hm
      · rw [if_neg h]; exact SS_fail
  | none =>
    show SS B M0 Wo A n cx ((trT t cx g).elim sFail fun c => sAssign c (t.e cx e)) _
    cases ht : trT t cx g with
    | none => exact SS_fail
    | some c =>
      cases g with
      | Name x q =>
        obtain ⟨i, hi, rfl⟩ := map_eq ht
        exact asg_name R H L hs hi
      | Subscript o i q => exact SS_assign (fun _ _ _ e => nomatch e) (fun _ _ e => nomatch e) (fun _ _ e => nomatch e) (fun _ _ => swaps_sub) ((H cx).e e) (sub_tgt R (H cx) ht)
      | Attribute o nm q =>
        obtain ⟨hn, ht⟩ := if_eq ht
        obtain rfl := Option.some.inj ht
        exact SS_assign (fun _ _ _ e => nomatch e) (fun _ _ e => nomatch e) (fun _ _ e => nomatch e) (fun _ _ => swaps_attr) ((H cx).e e) (ST_attr R hn ((H cx).e o))
      | _ => cases ht
theorem itemsOf_eq {e : Expr} {q : Expr × Str × Pos × Pos} (h : itemsOf e = some q) : e = .Call (.Attribute q.1 q.2.1 q.2.2.1) [] [] q.2.2.2 := by
  cases e with
  | Call f as ks p =>
    cases as with
    | nil =>
      cases ks with
      | nil =>
        cases f with
        | Attribute o nm r => obtain rfl := Option.some.inj h; rfl
        | _ => cases h
      | cons => cases h
    | cons => cases h
  | _ => cases h
theorem for_ok (R : Rx B M0 Wo A) {t : TrF} (H : TrAll B M0 Wo A n cx t) {g it : Expr} {b : List Stmt} {cb : List MS} {p : Pos} (hb : SSs B M0 Wo A n cx cb b) : SS B M0 Wo A n cx (trFor t cx g it cb) (.For g it b [] p) := by
  unfold trFor
  cases hg : trTarget cx g with
  | none => exact SS_fail
  | some is =>
    show SS B M0 Wo A n cx (orElse (itemsSrc it) (fun o => sItems (t.e cx o)) (if (tgtOk g (trI t cx it).zip && notSet it) = true then sFor is (trI t cx it) cb else sFail)) _
    cases hs : itemsSrc it with
    | some o =>
      obtain ⟨q, hq, h⟩ := bind_eq hs
      obtain ⟨⟨h1, h2, h3⟩, h⟩ := if_eq h
      obtain rfl := Option.some.inj h
      rw [itemsOf_eq hq]
      exact SS_items R.hh R.S h2 h1 h3 (H.e _)
    | none =>
      show SS B M0 Wo A n cx (if (tgtOk g (trI t cx it).zip && notSet it) = true then sFor is (trI t cx it) cb else sFail) _
      by_cases h : (tgtOk g (trI t cx it).zip && notSet it) = true
      · rw [if_pos h]
        have h := Bool.and_eq_true_iff.mp h
        exact SS_for R.hh hg (H.it R.S it) (folded_of h.2) h.1 hb
      · rw [if_neg h]; exact SS_fail
theorem stepS_ok (R : Rx B M0 Wo A) {t : TrF} (H : ∀ cx, TrAll B M0 Wo A n cx t) (L : LcOk B M0 Wo A n t) {ss : Cx → List Stmt → List MS} (hss : ∀ cx b, SSs B M0 Wo A n cx (ss cx b) b) (cx : Cx) (s : Stmt) : SS B M0 Wo A n cx (stepS t ss cx s) s := by
  cases s with
  | Expr e p =>
    show SS B M0 Wo A n cx (if (isLC e || isSC e) = true then sFail else sExpr (t.e cx e)) _
    cases h : isLC e || isSC e with
    | true => exact SS_fail
    | false => exact SS_expr (swaps_not h none) ((H cx).e e)
  | Assign ts e p =>
    show SS B M0 Wo A n cx (if isSC e = true then sFail else (one? ts).elim sFail fun g => trAsg t cx g e) _
    cases h : isSC e with
    | true => exact SS_fail
    | false =>
      show SS B M0 Wo A n cx ((one? ts).elim sFail fun g => trAsg t cx g e) _
      cases ho : one? ts with
      | none => exact SS_fail
      | some g => rw [one?_eq ho]; exact asg_ok R H L h
  | AugAssign g op e p =>
    show SS B M0 Wo A n cx ((trBOp op).elim sFail fun o => trAug t cx g o e) _
    cases ho : trBOp op with
    | none => exact SS_fail
    | some o =>
      show SS B M0 Wo A n cx ((nameOf g).elim sFail fun x => (trSlot cx x).elim sFail fun i => sAug i o (t.e cx e)) _
      cases hx : nameOf g with
      | some x =>
        obtain ⟨q, rfl⟩ := nameOf_eq hx
        show SS B M0 Wo A n cx ((trSlot cx x).elim sFail fun i => sAug i o (t.e cx e)) _
        cases hi : trSlot cx x with
        | none => exact SS_fail
        | some i => exact SS_aug hi ho ((H cx).e e)
      | none => exact SS_fail
  | Delete ts p =>
    show SS B M0 Wo A n cx (((one? ts).bind subOf).elim sFail fun p => sDel (t.e cx p.1) (t.e cx p.2)) _
    cases hq : (one? ts).bind subOf with
    | none => exact SS_fail
    | some q =>
      obtain ⟨g, hg, hq⟩ := bind_eq hq
      obtain ⟨r, rfl⟩ := subOf_eq hq
      rw [one?_eq hg]
      exact SS_del R ((H cx).e _) ((H cx).e _)
  | If c a b p => exact SS_ite ((H cx).b c) (hss cx a) (hss cx b)
  | While c b els p =>
    cases els with
    | nil => exact SS_while ((H cx).b c) (hss cx b)
    | cons => exact SS_fail
  | For g it b els p =>
    cases els with
    | nil => exact for_ok R (H cx) (hss cx b)
    | cons => exact SS_fail
  | Return e p =>
    cases e with
    | none => exact SS_fail
    | some e => exact SS_ret ((H cx).e e)
  | Break p => exact SS_brk
  | Continue p => exact SS_cont
  | Assert c m p => exact SS_assert ((H cx).b c)
  | _ => exact SS_fail
theorem trSs_ok (R : Rx B M0 Wo A) (hk : ∀ s, Kept B s.heap → KeepOk (model B.prog B.w) A s (.ref B.clsA)) (g f : Nat) : ∀ cx ss, SSs B M0 Wo A n cx (trSs (tr g) f cx ss) ss := by
  induction f with
  | zero =>
    intro cx ss env lay fr W ρ cs s o Q E T e
    cases e
  | succ f ih => exact fun cx ss => SSs_map (stepS_ok R (tr_ok R hk g) (tr_lc R hk g) ih cx) ss
end
end Ev
namespace Ev
open PySem PySem.W PyProof.Rows PySem.SeqAt
section
variable {B : Base} {W W' : Addr → Prop} {ρ ρ' : List Addr} {cs cs' : Cells} {h : Heap} {s s' : Shared}
theorem take_some {α : Type} {l : List α} {n i : Nat} {a : α} (h : (l.take n)[i]? = some a) : l[i]? = some a ∧ i < n := by
  rw [List.getElem?_take] at h
  split at h
  · exact ⟨h, by assumption⟩
  · cases h
theorem Mem.takeN (m : Mem B W ρ cs h) {n : Nat} (hl : Low n cs) (hn : n ≤ cs.length) : Mem B W (ρ.take n) (cs.take n) h := by
  refine ⟨by rw [List.length_take, List.length_take, m.len], fun i o a e g => ?_, m.inj.sublist (List.take_sublist _ _), fun a ha => m.own a (List.mem_of_mem_take ha), m.wlt, m.base, m.tab, m.size⟩
  obtain ⟨e, hi⟩ := take_some e
  obtain ⟨g, _⟩ := take_some g
  exact (m.cell i o a e g).low (hl i o hi e)
theorem Mem.low (m : Mem B W ρ cs h) : Low cs.length cs := fun i o hi e => by
  obtain ⟨a, g⟩ := m.addrOf e
  have := (m.cell i o a e g).bound
  rwa [← m.len] at this
theorem low_take {k n : Nat} (hl : Low k cs) : Low k (cs.take n) := fun i o hi e => hl i o hi (take_some e).1
theorem After.lower {n n' : Nat} {X : Addr → Prop} (a : After B n X W ρ cs s W' ρ' cs' s') (h : n' ≤ n) : After B n' X W ρ cs s W' ρ' cs' s' := ⟨a.ok, a.step, a.os, fun k hk => a.low k (Nat.le_trans hk h)⟩
theorem shut_sound {v : AV} {vv : Value} (o : Ok B W ρ cs s) (a : After B cs.length Non W ρ cs s W' ρ' cs' s') (r : VRel B s'.heap W' ρ' v vv) : ∃ ρ'', After B cs.length Non W ρ cs s W' ρ'' (shut cs.length v cs').2 s' ∧ VRel B s'.heap W' ρ'' (shut cs.length v cs').1 vv := by
  unfold shut
  split
  · rename_i hb
    have hl : Low cs.length cs' := a.low _ (Nat.le_refl _) o.mem.low
    refine ⟨ρ'.take cs.length, ⟨⟨a.ok.mem.takeN hl (a.length o), a.ok.gens⟩, ⟨fun x ob e m t y => a.step.kept x ob e m t y, a.step.wiff, fun i x e => ?_, fun x hx => a.step.fresh x (List.mem_of_mem_take hx), a.step.size⟩, a.os, fun k hk l => low_take (a.low k hk l)⟩, ?_⟩
    · rw [List.getElem?_take, if_pos, a.step.pre i x e]
      have := (List.getElem?_eq_some_iff.mp e).1
      rw [o.mem.len]; exact this
    · exact r.low (below_mono (Nat.zero_le _) hb)
  · exact ⟨ρ', a, r⟩
end
theorem bindL_skip {k : Str → Option NameKind} {x : Str} : ∀ {bs : List (Str × Value)} {m : Str → Option Value}, (∀ p ∈ bs, p.1 ≠ x) → bindL k bs m x = m x
  | [], _, _ => rfl
  | (y, v) :: r, m, h => by
    rw [bindL, bindL_skip fun p hp => h p (List.mem_cons_of_mem _ hp)]
    split
    · show (if x = y then some v else m x) = m x
      rw [if_neg (fun e => h (y, v) List.mem_cons_self (Eq.symm e))]
    · rfl
theorem bindL_mem {k : Str → Option NameKind} {x : Str} {v : Value} (hk : k x = some .local) : ∀ {bs : List (Str × Value)} {m : Str → Option Value}, (bs.map (·.1)).Nodup → (x, v) ∈ bs → bindL k bs m x = some v
  | (y, u) :: r, m, hn, hm => by
    rw [List.map_cons, List.nodup_cons] at hn
    rw [bindL]
    rcases List.mem_cons.mp hm with e | hm
    · cases e
      rw [bindL_skip fun p hp (e : p.1 = x) => hn.1 (List.mem_map.mpr ⟨p, hp, e⟩), if_pos hk]
      show (if x = x then some v else m x) = some v
      rw [if_pos rfl]
    · exact bindL_mem hk hn.2 hm
theorem bindC_skip {k : Str → Option NameKind} {x : Str} : ∀ {bs : List (Str × Value)} {m : Str → Option Value}, (∀ p ∈ bs, p.1 ≠ x) → bindC k bs m x = m x
  | [], _, _ => rfl
  | (y, v) :: r, m, h => by
    rw [bindC, bindC_skip fun p hp => h p (List.mem_cons_of_mem _ hp)]
    split
    · rfl
    · show (if x = y then some v else m x) = m x
      rw [if_neg (fun e => h (y, v) List.mem_cons_self (Eq.symm e))]
theorem bindC_mem {k : Str → Option NameKind} {x : Str} {v : Value} (hk : k x ≠ some .local) : ∀ {bs : List (Str × Value)} {m : Str → Option Value}, (bs.map (·.1)).Nodup → (x, v) ∈ bs → bindC k bs m x = some v
  | (y, u) :: r, m, hn, hm => by
    rw [List.map_cons, List.nodup_cons] at hn
    rw [bindC]
    rcases List.mem_cons.mp hm with e | hm
    · cases e
      rw [bindC_skip fun p hp (e : p.1 = x) => hn.1 (List.mem_map.mpr ⟨p, hp, e⟩), if_neg hk]
      show (if x = x then some v else m x) = some v
      rw [if_pos rfl]
    · exact bindC_mem hk hn.2 hm
structure Tops where
  globs : List (Tx × AV)
  meths : List (Tx × Nat)
  marks : List (Nat × Nat)
  lams : List Nat
noncomputable def Tops.cx (T : Tops) (k : Nat) (sc : Scope) : Cx := { Cx.top T.globs T.meths T.marks sc with lamOk := T.lams.contains k }
noncomputable def lamHook (B : Base) (A : Around) (env : Env) : Prop := ∀ {args : Arguments} {body : Expr} {sc : Scope} {pos : Pos} {n : Nat} {W : Addr → Prop} {ρ : List Addr} {cs : Cells} {s : Shared} {Q E : Value → Shared → Prop}, plainLam args = true → noFree sc = true → Ok B W ρ cs s → PostV B n W ρ cs s cs .lam Q →
    wpAny (model B.prog B.w) A (eval (.Lambda args body sc pos) env) Q E s
structure DefAt (B : Base) (T : Tops) (k : Nat) (F : Fn) (fd : FuncData) (body : List Stmt) (params : List Str) : Prop where
  ob : ∃ o, B.h₀.get? (B.fnA k) = some o ∧ o.data = .func fd
  text : fd.body = .stmts body
  code : ∀ h, Kept B h → h.CodeRec fd.code fd.qualname
  kind : fd.scope.kind = .function
  co : fd.scope.isCoroutine = false
  gen : fd.scope.isGenerator = false
  clo : fd.closure = []
  glo : fd.globals = mainGlobals
  bui : fd.builtins = builtinsNs
  nd : (fd.scope.names.map (·.1)).Nodup
  free : ∀ p ∈ fd.scope.names, p.2 ≠ .free
  tr : ∃ g f, F.body = trSs (tr g) f (T.cx k fd.scope) body
  slots : F.slots = (ownP fd.scope).length
  par : (ownP fd.scope).map (·.1) = params ++ ((ownP fd.scope).drop params.length).map (·.1)
  plen : params.length ≤ (ownP fd.scope).length
  lam : T.lams.contains k = true → ∀ A L, lamHook B A (callEnvC fd L (B.fnA k))
noncomputable def BindOk (B : Base) (F : Fn) (fd : FuncData) (params : List Str) : Prop := ∀ {args : List AV} {kw : Option AV} {cs cs' : Cells} {as : List AV} {n : Nat} {W : Addr → Prop} {ρ : List Addr} {s : Shared} {vs : List Value} {kws : List (Str × Value)} {A : Around} {E : Value → Shared → Prop} {Q : List (Str × Value) → Shared → Prop},
  F.bind args kw cs = some (as, cs') → n ≤ cs.length → Ok B W ρ cs s → VRels B s.heap W ρ args vs → KwRel B s.heap W ρ kw kws →
    (∀ us W' ρ' s', After B n Non W ρ cs s W' ρ' cs' s' → VRels B s'.heap W' ρ' as us → us.length = params.length → Q (params.zip us) s') → wpAny (model B.prog B.w) A (bindArgs fd ⟨vs, kws⟩) Q E s
theorem zip_get {α β : Type} {l : List α} {r : List β} {i : Nat} {p : α × β} (h : (l.zip r)[i]? = some p) : l[i]? = some p.1 ∧ r[i]? = some p.2 := by
  rw [List.getElem?_zip_eq_some] at h; exact h
theorem map_zip_fst {α β : Type} : ∀ {l : List α} {r : List β}, r.length = l.length → (l.zip r).map (·.1) = l
  | [], _, _ => by simp
  | a :: l, [], h => by simp at h
  | a :: l, b :: r, h => by simp [map_zip_fst (l := l) (r := r) (by simpa using h)]
section
variable {B : Base} {M0 : List (Tx × Nat)} {Wo : Wd} {A : Around}
theorem run_sound {T : Tops} {k : Nat} {F : Fn} {fd : FuncData} {body : List Stmt} {params : List Str} (D : DefAt B T k F fd body params) (hb : BindOk B F fd params) (hdep : A.depth < recursionLimit) (S : Stat B)
    (glob : ∀ p ∈ T.globs, GlobOk B p) (hm : T.meths = M0) (sub : ∀ env g f cx ss n, SSs B M0 Wo (A.deeper env) n cx (trSs (tr g) f cx ss) ss)
    {args : List AV} {kw : Option AV} {cs cs' : Cells} {z : AV} {n : Nat} {W : Addr → Prop} {ρ : List Addr} {s : Shared} {vs : List Value} {kws : List (Str × Value)} {R : Result → Shared → Prop}
    (e : F.run Wo n args kw cs = some (z, cs')) (hn : n ≤ cs.length) (o : Ok B W ρ cs s) (r : VRels B s.heap W ρ args vs) (rk : KwRel B s.heap W ρ kw kws)
    (hR : ∀ v W' ρ' s', After B n Non W ρ cs s W' ρ' cs' s' → VRel B s'.heap W' ρ' z v → R (.ok (.ret v)) s') : codeAny (model B.prog B.w) A (.call (.ref (B.fnA k)) ⟨vs, kws⟩) R s := by
  obtain ⟨⟨as, cs₁⟩, hbd, e⟩ := bind_eq e
  obtain ⟨⟨ofl, ofr, ocs⟩, hou, e⟩ := bind_eq e
  obtain ⟨v₀, hv₀, e⟩ := mapS e
  obtain ⟨rfl, rfl⟩ := pair_eq e
  obtain ⟨ob, hob, hod⟩ := D.ob
  refine codeAny_call_function hdep (o.kept _ _ hob) hod D.co D.gen D.text (D.code _ o.kept) ?_
  refine hb hbd hn o r rk fun us W₁ ρ₁ s₁ af₁ r₁ hul => ?_
  rw [D.clo, D.glo, D.bui]
  have hal : as.length = params.length := by rw [r₁.length, hul]
  have hpn : ((ownP fd.scope).map (·.1)).Nodup := ownP_nodup D.nd
  have hparN : params.Nodup := by have := D.par ▸ hpn; exact (List.nodup_append.mp this).1
  have hbm : ((params.zip us).map (·.1)) = params := map_zip_fst hul
  have parAt : ∀ {i : Nat} {p : Str × NameKind}, (ownP fd.scope)[i]? = some p → i < params.length → params[i]? = some p.1 := by
    intro i p hp hi
    have h1 : ((ownP fd.scope).map (·.1))[i]? = some p.1 := by rw [List.getElem?_map, hp]; rfl
    rw [D.par, List.getElem?_append_left hi] at h1; exact h1
  have memOwn : ∀ x ∈ params, ∃ p ∈ ownP fd.scope, p.1 = x := by
    intro x hx
    have : x ∈ (ownP fd.scope).map (·.1) := by rw [D.par]; exact List.mem_append_left _ hx
    obtain ⟨p, hp, e⟩ := List.mem_map.mp this
    exact ⟨p, hp, e⟩
  refine wpAny_newFunctionEnv_cells D.kind (fun x hx => ?_) fun env he s₂ IC => ?_
  · obtain ⟨p, hp, hpx⟩ := memOwn x.1 (by rw [← hbm]; exact List.mem_map_of_mem hx)
    have hm' := mem_ownP hp
    have hl := lookup_of_mem D.nd hm'.1
    rw [hpx] at hl
    rcases hm'.2 with h | h
    · exact .inl (by rw [hl, h])
    · refine .inr ⟨by rw [hl, h], cellsFrom_some (.inl ?_)⟩
      rw [← hpx, ← h]; exact hm'.1
  · have hcalls : env = callEnvC fd s₁.heap.objs.size (B.fnA k) := by
      rw [he]; unfold callEnvC; rw [D.glo, D.bui]
    have hloc : env.locals = s₁.heap.objs.size := by rw [he]; rfl
    have hcel : env.cells = cellsFrom (s₁.heap.objs.size + 1) fd.scope.names [] := by rw [he]; rfl
    have hsc : env.scope = fd.scope := by rw [he]; rfl
    obtain ⟨h₂, tk₂, hs₂⟩ := IC.toInCall.same
    have keep : ∀ a o, s₁.heap.get? a = some o → s₂.heap.get? a = some o := IC.toInCall.keep
    have hLlt : env.locals < s₂.heap.objs.size := IC.toInCall.ns.lt
    have hsz : s₁.heap.objs.size ≤ s₂.heap.objs.size := by rw [hloc] at hLlt; exact Nat.le_of_lt hLlt
    have room : After B n Non W₁ ρ₁ cs₁ s₁ (Plus W₁ s₁.heap.objs.size s₂.heap.objs.size) ρ₁ cs₁ s₂ := by
      have := af₁.ok.room (n := n) (X := Non) (h' := s₂.heap) (tk := s₂.toks) hsz keep
      rw [hs₂] at this ⊢; exact this
    have m₁ := af₁.ok.mem
    have ρlt : ∀ a ∈ ρ₁, a < s₁.heap.objs.size := fun a z => m₁.wlt a (m₁.own a z).1
    have newOwn : ∀ a, s₁.heap.objs.size ≤ a → a < s₂.heap.objs.size → Plus W₁ s₁.heap.objs.size s₂.heap.objs.size a ∧ a ∉ ρ₁ ∧ B.h₀.objs.size ≤ a := fun a h1 h2 => ⟨.inr ⟨h1, h2⟩, fun z => absurd (ρlt a z) (Nat.not_lt.mpr h1), Nat.le_trans m₁.size h1⟩
    have kindAt : ∀ {p : Str × NameKind}, p ∈ ownP fd.scope → env.kindOf p.1 = some p.2 := fun {p} hp => by
      unfold Env.kindOf; rw [hsc]; exact lookup_of_mem D.nd (mem_ownP hp).1
    have cellAt : ∀ {p : Str × NameKind}, p ∈ ownP fd.scope → p.2 = .cell → ∃ c, env.cells.lookup p.1 = some c := fun {p} hp hc => by
      rw [hcel]
      exact Option.isSome_iff_exists.mp (cellsFrom_some (.inl (by rw [← hc]; exact (mem_ownP hp).1)))
    have cellGe : ∀ {x : Str} {c : Addr}, env.cells.lookup x = some c → env.locals < c := fun h => IC.above _ _ (mem_of_lookup h)
    have r₂ := room.vals af₁.ok r₁
    have F₂ : Frm B (layOf env.locals env.cells fd.scope) (as.map some ++ List.replicate (F.slots - as.length) none) (Plus W₁ s₁.heap.objs.size s₂.heap.objs.size) ρ₁ s₂.heap := by
      have valAt : ∀ {i : Nat} {p : Str × NameKind} {x : Option AV}, (ownP fd.scope)[i]? = some p → (as.map some ++ List.replicate (F.slots - as.length) none)[i]? = some x → x = none ∨ ∃ a v, x = some a ∧ (p.1, v) ∈ params.zip us ∧ VRel B s₂.heap (Plus W₁ s₁.heap.objs.size s₂.heap.objs.size) ρ₁ a v := by
        intro i p x hp hx
        by_cases hi : i < as.length
        · rw [List.getElem?_append_left (by rw [List.length_map]; exact hi), List.getElem?_map] at hx
          obtain ⟨a, ha, rfl⟩ := Option.map_eq_some_iff.mp hx
          obtain ⟨v, hv, rv⟩ := r₂.get ha
          refine .inr ⟨a, v, rfl, ?_, rv⟩
          have hpar := parAt hp (hal ▸ hi)
          exact List.mem_of_getElem? (List.getElem?_zip_eq_some.mpr ⟨hpar, hv⟩)
        · rw [List.getElem?_append_right (by rw [List.length_map]; omega)] at hx
          exact .inl (List.eq_of_mem_replicate (List.mem_of_getElem? hx))
      refine Frm.ofOwn D.nd ?_ (fun i p x hp hx hl => ⟨_, IC.toInCall.ns, ?_⟩) (fun i p x hp hx hc => ?_) (fun x y c hx hy hmx hmy => name_of_addr IC.apart (mem_of_lookup hx) (mem_of_lookup hy)) (fun x c hx hm e => absurd (cellGe hx) (by rw [e]; exact Nat.lt_irrefl _)) (newOwn _ (by rw [hloc]; exact Nat.le_refl _) hLlt) (fun x c hx hm => ?_)
      · rw [List.length_append, List.length_map, List.length_replicate, D.slots, hal]
        have := D.plen; omega
      · rcases valAt hp hx with rfl | ⟨a, v, rfl, hmem, rv⟩
        · trivial
        · exact ⟨v, bindL_mem (by rw [kindAt (List.mem_of_getElem? hp), hl]) (by rw [hbm]; exact hparN) hmem, rv⟩
      · obtain ⟨c, hcc⟩ := cellAt (List.mem_of_getElem? hp) hc
        refine ⟨c, _, hcc, IC.cell _ _ hcc, ?_⟩
        rcases valAt hp hx with rfl | ⟨a, v, rfl, hmem, rv⟩
        · trivial
        · exact ⟨v, bindC_mem (by rw [kindAt (List.mem_of_getElem? hp), hc]; simp) (by rw [hbm]; exact hparN) hmem, rv⟩
      · have h1 := cellGe hx
        have h2 := (IC.cell _ _ hx).lt
        exact newOwn c (by rw [hloc] at h1; exact Nat.le_of_lt h1) h2
    have X : EnvX B M0 (A.deeper env) (T.cx k fd.scope) env (layOf env.locals env.cells fd.scope) := by
      have own : ∀ {x : Str} {i : Nat}, (T.cx k fd.scope).slots.lookup (tx x) = some i → ∃ p, (ownP fd.scope)[i]? = some p ∧ p.1 = x := by
        intro x i h
        obtain ⟨j, rfl, hj⟩ := numbered_lookup (show (numbered 0 (ownNames fd.scope)).lookup (tx x) = some i from h)
        rw [ownNames_eq, List.getElem?_map] at hj
        obtain ⟨p, hp, e⟩ := Option.map_eq_some_iff.mp hj
        exact ⟨p, by rw [Nat.zero_add]; exact hp, tx_inj e⟩
      have layAt : ∀ {i : Nat} {p : Str × NameKind}, (ownP fd.scope)[i]? = some p → (layOf env.locals env.cells fd.scope)[i]? = some (locOf env.locals env.cells p) := fun hp => by
        unfold layOf; rw [List.getElem?_map, hp]; rfl
      have kindTop : ∀ x, kindOf (T.cx k fd.scope) x = env.kindOf x := fun x => by unfold Env.kindOf; rw [hsc]; rfl
      refine { kind := by rw [hsc]; exact D.kind, names := by rw [hsc]; rfl, globals := by rw [he]; rfl, builtins := by rw [he]; rfl, globs := glob, loc := fun x i hl hi => ?_, cel := fun x i hl hi => ?_, meths := hm, len := ?_, lam := fun q => by rw [hcalls]; exact D.lam q _ _ }
      · obtain ⟨p, hp, rfl⟩ := own hi
        rw [kindTop, kindAt (List.mem_of_getElem? hp)] at hl
        cases hl' : p.2 with
        | «local» => rw [layAt hp]; unfold locOf; rw [hl']; rfl
        | _ => rw [hl'] at hl; cases hl
      · obtain ⟨p, hp, rfl⟩ := own hi
        rw [kindTop, kindAt (List.mem_of_getElem? hp)] at hl
        have hm' := mem_ownP (List.mem_of_getElem? hp)
        have hpc : p.2 = .cell := by
          rcases hl with h | h
          · injection h
          · injection h with h
            exact absurd h (D.free p hm'.1)
        obtain ⟨c, hcc⟩ := cellAt (List.mem_of_getElem? hp) hpc
        refine ⟨c, hcc, ?_⟩
        rw [layAt hp]; unfold locOf; rw [hpc, hcc]; rfl
      · show (layOf env.locals env.cells fd.scope).length = (ownNames fd.scope).length
        unfold layOf; rw [List.length_map, ownNames_eq, List.length_map]
    refine ⟨S.lim.keeps room.ok.kept, codeAny_func ?_⟩
    · obtain ⟨g, f, hf⟩ := D.tr
      rw [hf] at hou
      have hn₁ : n ≤ cs₁.length := Nat.le_trans hn (af₁.length o)
      refine sub env g f _ body n ⟨X, room.ok, F₂, hn₁⟩ hou fun fl W₃ ρ₃ s₃ af₃ F₃ r₃ => ?_
      have tot : After B n Non W ρ cs s W₃ ρ₃ ocs s₃ := (af₁.trans room).fresh (X := Non) af₃ fun x hx => by
        obtain ⟨l, hl, rfl⟩ := hx
        obtain ⟨p, hp, rfl⟩ := List.mem_map.mp hl
        have h0 : s.heap.objs.size ≤ s₁.heap.objs.size := af₁.step.size
        rcases (mem_ownP hp).2 with h | h
        · unfold locOf; rw [h]
          show s.heap.objs.size ≤ env.locals
          rw [hloc]; exact h0
        · obtain ⟨c, hcc⟩ := cellAt hp h
          unfold locOf; rw [h, hcc]
          show s.heap.objs.size ≤ c
          have := cellGe hcc
          rw [hloc] at this
          exact Nat.le_trans h0 (Nat.le_of_lt this)
      cases ofl with
      | next =>
        obtain rfl := Option.some.inj hv₀
        obtain rfl := r₃
        exact hR .none _ _ _ tot .none
      | ret x =>
        obtain rfl := Option.some.inj hv₀
        obtain ⟨w, rfl, r₃⟩ := r₃
        exact hR _ _ _ _ tot r₃
      | brk => cases hv₀
      | cont => cases hv₀
end
end Ev
namespace Ev
open PySem PySem.W PyProof.Rows PySem.SeqAt
structure ClsOk (B : Base) (P : Prog) (M0 : List (Tx × Nat)) : Prop where
  hga : findIn B.K (.ref B.clsA) "__getattribute__" = some (some (.builtin "object.__getattribute__"))
  hk : findIn B.K (.ref B.clsA) "__getattr__" = some none
  meth : ∀ {t : Tx} {k : Nat}, M0.lookup t = some k → findIn B.K (.ref B.clsA) ⟨t.toArray⟩ = some (some (.ref (B.fnA k))) ∧ typeIn B.K (.ref (B.fnA k)) = some (.type "function")
  hdr : M0.lookup headersTx = none
  getH : findIn B.K (.ref B.clsA) headersStr = some none
  cls : (clsIn B.K B.clsA).any (·.hasDict) = true
  setattr : findIn B.K (.ref B.clsA) "__setattr__" = some (some (.builtin "object.__setattr__"))
  plain : plainOver B.K B.clsA = true
  noseq : noSeq B.K B.clsA = true
  setitem : findIn B.K (.ref B.clsA) "__setitem__" = some (some (.ref (B.fnA P.setN))) ∧ typeIn B.K (.ref (B.fnA P.setN)) = some (.type "function")
  delitem : findIn B.K (.ref B.clsA) "__delitem__" = some (some (.ref (B.fnA P.delN))) ∧ typeIn B.K (.ref (B.fnA P.delN)) = some (.type "function")
  makes : makesIn B.K B.clsA = true
  init : findIn B.K (.ref B.clsA) "__init__" = some (some (.ref (B.fnA P.initN))) ∧ typeIn B.K (.ref (B.fnA P.initN)) = some (.type "function")
theorem look_empty (nm : Str) : lookIn nm { cls := .type "dict", data := .dict #[] } = some none := rfl
theorem look_h {hsh : Int} {tk : Tok} {v : Value} {n : Nat} : lookIn headersStr (hObj hsh tk v n) = some (some v) := by
  unfold lookIn
  simp only [List.find?, Value.isStr, beq_self_eq_true]
theorem look_other {nm : Str} (hne : nm ≠ headersStr) {hsh : Int} {tk : Tok} {v : Value} {n : Nat} : lookIn nm (hObj hsh tk v n) = some none := by
  unfold lookIn
  have : (headersStr == nm) = false := by simpa using fun e => hne e.symm
  simp only [List.find?, Value.isStr, this, List.any_cons, DictEntry.refKey, List.any_nil, Bool.or_false]
  rfl
section
variable {B : Base} {P : Prog} {M0 : List (Tx × Nat)} {A : Around} {s : Shared} {a dx : Addr} {o : Obj}
theorem Stat.kin (S : Stat B) {h : Heap} (k : Kept B h) : B.K.In h := Frag.In.keeps S.k k
theorem inst_of (I : Ev.InstAt B s.heap a dx) (ho : s.heap.get? dx = some o) : PySem.W.InstAt s.heap a { cls := .ref B.clsA, dict := some dx, data := .plain } B.clsA (some o) := ⟨I, rfl, rfl, ho⟩
theorem shadow_of (hH : HObj o) {nm : Str} (hne : nm ≠ headersStr) : shadowIn (some o) nm = some false := by
  rcases hH with rfl | ⟨hsh, tk, v, n, rfl⟩
  · rfl
  · show (lookIn nm _).map _ = _
    rw [look_other hne]; rfl
theorem hook_meth (S : Stat B) (C : ClsOk B P M0) {nm : Str} {k : Nat} (hm : M0.lookup (tx nm) = some k) (K : Kept B s.heap) (I : Ev.InstAt B s.heap a dx) (ho : s.heap.get? dx = some o) (hH : HObj o) (hne : nm ≠ headersStr) {pl : Sem Bool} {R : Value × List Value → Shared → Prop} {E : Value → Shared → Prop} (h : R (.ref (B.fnA k), [.ref a]) s) :
    wpAny (model B.prog B.w) A (getMethod (.ref a) nm pl) R E s := by
  obtain ⟨h1, h2⟩ := C.meth hm
  rw [str_tx] at h1
  exact method_fn (S.kin K) (inst_of I ho) C.hga C.hk h1 h2 (shadow_of hH hne) h
theorem hook_getA (S : Stat B) (C : ClsOk B P M0) (K : Kept B s.heap) (I : Ev.InstAt B s.heap a dx) {hsh : Int} {tk : Tok} {v : Value} {n : Nat} (ho : s.heap.get? dx = some (hObj hsh tk v n)) (hv : handedIn v = true) {E Q : Value → Shared → Prop} (h : ∀ t, Q v { s with toks := t }) :
    wpAny (model B.prog B.w) A (getAttr (.ref a) headersStr true) Q E s := by
  refine get_value (S.kin K) (inst_of I ho) C.hga ?_ hv (h _)
  obtain ⟨cd, hc, hd⟩ := any_some C.cls
  unfold findObj
  rw [hc, C.getH]
  simp only [Option.bind_some]
  have : PySem.W.ownOf cd (some (hObj hsh tk v n)) headersStr = some (some v) := by
    unfold PySem.W.ownOf; rw [hd, if_pos rfl]; exact look_h
  rw [this]; rfl
theorem put_empty (hs : Int) (tk : Tok) (v : Value) : Obj.putName headersStr hs (.str headersStr tk) v { cls := .type "dict", data := .dict #[] } = hObj hs tk v 1 := by rfl
theorem put_h (hs hs' : Int) (tk tk' : Tok) (v v' : Value) (n : Nat) : Obj.putName headersStr hs (.str headersStr tk) v (hObj hs' tk' v' n) = hObj hs' tk' v n := by rfl
theorem hook_setA (S : Stat B) (C : ClsOk B P M0) (K : Kept B s.heap) (I : Ev.InstAt B s.heap a dx) (ho : s.heap.get? dx = some o) (hH : HObj o) {v : Value} {E : Value → Shared → Prop} {Q : Unit → Shared → Prop}
    (h : ∀ h' tk hsh tk' n, Heap.SameBut dx s.heap h' → h'.get? dx = some (hObj hsh tk' v n) → Q () { s with heap := h', toks := tk }) : wpAny (model B.prog B.w) A (setAttr (.ref a) headersStr v) Q E s := by
  have X := S.kin K
  have J := inst_of I ho
  refine set_plain X J C.setattr ?_
  obtain ⟨hh, g, dr, t, os⟩ := s
  replace X : B.K.In hh := X
  dsimp only
  refine osa_open X J C.plain (r := none) (by unfold takerIn; rw [C.getH]; rfl) fun b => ?_
  obtain ⟨cd, hc, hd⟩ := any_some C.cls
  have hx : hh.get? a = some { cls := .ref B.clsA, dict := some dx, data := .plain } := I
  refine wpAny_bind (wpAny_pure (wpAny_bind (wpAny_bind (wpAny_loadPart hx (wpAny_bind ((looks_clsIn X hc).here ?_))))))
  rw [hd]
  refine wpAny_pure (a := some dx) (wpAny_bind (wpAny_pure (wpAny_bind ?_)))
  unfold nsSet
  refine wpAny_bind (wpAny_bind (wpAny_askSetting (wpAny_pure (wpAny_bind (wpAny_mkText (wpAny_bind (wpAny_loadPart ho ?_)))))))
  have fin : ∀ (hs : Int) (tk : Tok) (hsh : Int) (tk' : Tok) (n : Nat), Obj.putName headersStr hs (.str headersStr tk) v o = hObj hsh tk' v n → (hh.update dx (Obj.putName headersStr hs (.str headersStr tk) v)).get? dx = some (hObj hsh tk' v n) := by
    intro hs tk hsh tk' n e
    have := Heap.get?_update_self (h := hh) (a := dx) (Obj.putName headersStr hs (.str headersStr tk) v) ho (by rw [e]; rfl)
    rw [this, e]
  rcases hH with rfl | ⟨hsh, tk, v', n, rfl⟩
  · dsimp only
    have c : (!(#[] : Array DictEntry).any (·.key.isStr headersStr) && (#[] : Array DictEntry).any (·.refKey)) = false := by simp
    rw [aRefKeyMayBeTheName_at, c]
    refine wpAny_updatePart ho ?_
    have D' := fin (PyData.keyHash B.w.params headersStr) (t + 1) _ _ _ (put_empty _ _ _)
    refine wpAny_bind (wpAny_lookBehind D' (by exact pastItsLine_dict (by rw [sizeLine_eq]; simp)) ?_)
    exact wpAny_pure (h _ _ _ _ _ (Heap.SameBut.update ..) D')
  · dsimp only
    have c : (!(#[⟨hsh, .str headersStr tk, v'⟩] : Array DictEntry).any (·.key.isStr headersStr) && (#[⟨hsh, .str headersStr tk, v'⟩] : Array DictEntry).any (·.refKey)) = false := by
      simp [DictEntry.refKey]
    rw [aRefKeyMayBeTheName_at, c]
    refine wpAny_updatePart ho ?_
    have D' := fin (PyData.keyHash B.w.params headersStr) (t + 1) _ _ _ (put_h _ _ _ _ _ _ _)
    refine wpAny_bind (wpAny_lookBehind D' (by exact pastItsLine_dict (by rw [sizeLine_eq]; simp)) ?_)
    exact wpAny_pure (h _ _ _ _ _ (Heap.SameBut.update ..) D')
theorem hook_setI (S : Stat B) (C : ClsOk B P M0) (K : Kept B s.heap) (I : Ev.InstAt B s.heap a dx) (ho : s.heap.get? dx = some o) {i v : Value} {E : Value → Shared → Prop} {Q : Unit → Shared → Prop}
    (h : wpAny (model B.prog B.w) A (call (.ref (B.fnA P.setN)) [.ref a, i, v]) (fun _ s' => Q () s') E s) : wpAny (model B.prog B.w) A (setItem (.ref a) i v) Q E s := by
  have X := S.kin K
  have J := inst_of I ho
  unfold setItem sequenceKey
  refine wpAny_holding (wpAny_bind (wpAny_bind (J.type.here ?_)))
  refine wpAny_bind ((anyM_none X C.noseq).here ?_)
  rw [if_pos (show (!false) = true from rfl)]
  exact wpAny_pure (wpAny_bind (special_fn X J C.setitem.1 C.setitem.2 (wpAny_mono h (fun _ _ z => wpAny_pure z) fun _ _ z => z)))
theorem hook_delI (S : Stat B) (C : ClsOk B P M0) (K : Kept B s.heap) (I : Ev.InstAt B s.heap a dx) (ho : s.heap.get? dx = some o) {i : Value} {E : Value → Shared → Prop} {Q : Unit → Shared → Prop}
    (h : wpAny (model B.prog B.w) A (call (.ref (B.fnA P.delN)) [.ref a, i]) (fun _ s' => Q () s') E s) : wpAny (model B.prog B.w) A (delItem (.ref a) i) Q E s := by
  have X := S.kin K
  have J := inst_of I ho
  unfold delItem sequenceKey
  refine wpAny_holding (wpAny_bind (wpAny_bind (J.type.here ?_)))
  refine wpAny_bind ((anyM_none X C.noseq).here ?_)
  rw [if_pos (show (!false) = true from rfl)]
  exact wpAny_pure (wpAny_bind (special_fn X J C.delitem.1 C.delitem.2 (wpAny_mono h (fun _ _ z => wpAny_pure z) fun _ _ z => z)))
theorem hook_keep (S : Stat B) (C : ClsOk B P M0) {s : Shared} (K : Kept B s.heap) : KeepOk (model B.prog B.w) A s (.ref B.clsA) := fun Q E hq => by
  have Y := makes_of (M := model B.prog B.w) (S.kin K) C.makes
  obtain ⟨oc, od, cd, sl, hC, _⟩ := Y.obj
  unfold keeperOf
  refine wpAny_bind (wpAny_load hC ?_)
  dsimp only
  exact wpAny_bind (Y.call.here (wpAny_pure (hq _)))
end
end Ev
namespace Ev
open PySem PySem.W PyProof.Rows PySem.SeqAt
structure Room (A : Around) (k : Nat) : Prop where
  hh : A.handled = none
  depth : A.depth + 4 * k + 8 < recursionLimit
  units : A.units + 8 * k + 64 < cLine
theorem Room.deeper {A : Around} {k : Nat} (r : Room A (k + 1)) (env : Env) : Room (A.deeper env) k :=
  ⟨r.hh, by have := r.depth; show A.depth + 1 + 4 * k + 8 < _; omega, by have := r.units; show A.units + 3 + 8 * k + 64 < _; omega⟩
theorem weight_tc (args : Args) : (Code.builtin "type.__call__" args).weight ≤ 2 := by
  unfold Code.weight
  have h1 : (Code.builtin "type.__call__" args).frames = 0 := rfl
  have h2 : (Code.builtin "type.__call__" args).isGuard = false := rfl
  have h3 : (Code.builtin "type.__call__" args).isCaller = false := rfl
  rw [h1, h2, h3]
  split <;> simp
theorem units_tc (args : Args) : (Code.builtin "type.__call__" args).cUnits = 1 := rfl
theorem Room.makes {A : Around} {k : Nat} (r : Room A (k + 1)) (args : Args) (env : Env) : Room ((A.under (.builtin "type.__call__" args)).deeper env) k ∧ (A.under (.builtin "type.__call__" args)).depth < recursionLimit := by
  have h1 := r.depth
  have h2 := r.units
  have h3 := weight_tc args
  have h4 := units_tc args
  have e1 : (A.under (.builtin "type.__call__" args)).depth = A.depth + (Code.builtin "type.__call__" args).weight := rfl
  have e2 : (A.under (.builtin "type.__call__" args)).units = A.units + (Code.builtin "type.__call__" args).cUnits := rfl
  refine ⟨⟨r.hh, ?_, ?_⟩, ?_⟩
  · show (A.under (.builtin "type.__call__" args)).depth + 1 + 4 * k + 8 < _
    rw [e1]; omega
  · show (A.under (.builtin "type.__call__" args)).units + 3 + 8 * k + 64 < _
    rw [e2]; omega
  · rw [e1]; omega
section
variable {B : Base} {W W' : Addr → Prop} {ρ ρ' : List Addr} {cs cs' : Cells} {h : Heap} {s s' : Shared}
theorem Mem.adopt2 (m : Mem B W ρ cs h) {a b : Addr} (ha : W a ∧ a ∉ ρ ∧ B.h₀.objs.size ≤ a) (hb : W b ∧ b ∉ ρ ∧ B.h₀.objs.size ≤ b) (hab : a ≠ b) {o p : AObj} (c : CRel B h W (ρ ++ [a, b]) a o) (d : CRel B h W (ρ ++ [a, b]) b p) : Mem B W (ρ ++ [a, b]) (cs ++ [o, p]) h := by
  refine ⟨by simp [m.len], fun i o' x e g => ?_, ?_, fun x z => ?_, m.wlt, m.base, m.tab, m.size⟩
  · by_cases hi : i < cs.length
    · rw [List.getElem?_append_left hi] at e
      rw [List.getElem?_append_left (m.len ▸ hi)] at g
      exact (m.cell i o' x e g).mono rfl (fun a o e _ => e) (fun a _ w => w) fun j b q => getElem?_append_some _ q
    · rw [List.getElem?_append_right (Nat.le_of_not_lt hi)] at e
      rw [List.getElem?_append_right (m.len ▸ Nat.le_of_not_lt hi), ← m.len] at g
      match hj : i - cs.length with
      | 0 => rw [hj] at e g; simp at e g; subst e; subst g; exact c
      | 1 => rw [hj] at e g; simp at e g; subst e; subst g; exact d
      | k + 2 => rw [hj] at e; simp at e
  · exact List.nodup_append.mpr ⟨m.inj, by simp [hab], fun x hx y hy e => by
      subst e
      rcases List.mem_cons.mp hy with rfl | hy
      · exact ha.2.1 hx
      · simp at hy; subst hy; exact hb.2.1 hx⟩
  · rcases List.mem_append.mp z with z | z
    · exact m.own x z
    · rcases List.mem_cons.mp z with rfl | z
      · exact ⟨ha.1, ha.2.2⟩
      · simp at z; subst z; exact ⟨hb.1, hb.2.2⟩
end
section
variable {B : Base} {n : Nat} {W W' : Addr → Prop} {ρ ρ' : List Addr} {cs cs' : Cells} {s s' : Shared}
theorem KwRel.closed {kw : Option AV} {kws : List (Str × Value)} (r : KwRel B s.heap W ρ kw kws) (h : kw.all (below 0) = true) : KwRel B s.heap W [] kw kws := by
  cases r with
  | none => exact .none
  | some r => exact .some (r.low (n := 0) h)
theorem closed_sound {v : AV} {vv : Value} (o : Ok B W ρ cs s) (a : After B 0 Non W [] [] s W' ρ' cs' s') (r : VRel B s'.heap W' ρ' v vv) (hb : below 0 v = true) : After B n Non W ρ cs s W' ρ cs s' ∧ VRel B s'.heap W' ρ v vv := by
  have m := o.mem
  have k : ∀ x ob, s.heap.get? x = some ob → ¬ B.isTab x → s'.heap.get? x = some ob := fun x ob e t => a.step.kept x ob e (by simp) t fun z => z
  have ρt : ∀ x ∈ ρ, ¬ B.isTab x := fun x hx t => by
    obtain ⟨p, hp, rfl⟩ := List.mem_map.mp t
    exact absurd (m.tab p hp).2.2 (Nat.not_lt.mpr (m.own _ hx).2)
  have wk : ∀ x ob, s.heap.get? x = some ob → ¬ W x → s'.heap.get? x = some ob := fun x ob e w => k x ob e (m.notW w).2
  have ρlt : ∀ x ∈ ρ, x < s.heap.objs.size := fun x z => m.wlt x (m.own x z).1
  refine ⟨⟨⟨⟨m.len, fun i ob x e g => ?_, m.inj, fun x hx => ⟨(a.step.wiff x (ρlt x hx)).mpr (m.own x hx).1, (m.own x hx).2⟩, a.ok.mem.wlt, a.ok.mem.base, a.ok.mem.tab, a.ok.mem.size⟩, a.ok.gens⟩, ⟨fun x ob e _ t _ => k x ob e t, a.step.wiff, fun _ _ e => e, fun _ h => .inl h, a.step.size⟩, a.os, LowTo.refl _ _⟩, ?_⟩
  · have c := m.cell i ob x e g
    obtain ⟨o', ho'⟩ := c.getSome
    exact c.mono ((k x o' ho' (ρt x (List.mem_of_getElem? g))).trans ho'.symm) wk (fun x l w => (a.step.wiff x l).mp w) fun _ _ e => e
  · have r0 : VRel B s'.heap W' [] v vv := by simpa using r.low (n := 0) hb
    exact r0.mono (fun _ _ e _ => e) (fun _ _ w => w) (fun i x e => by simp at e)
end
structure ProgOk (B : Base) (P : Prog) (T : Tops) : Prop where
  S : Stat B
  C : ClsOk B P T.meths
  defs : ∀ {k : Nat} {F : Fn}, P.fs[k]? = some F → ∃ fd body params, DefAt B T k F fd body params ∧ BindOk B F fd params
  glob : ∀ p ∈ T.globs, GlobOk B p
  fnObj : ∀ k, ∃ o fd, B.h₀.get? (B.fnA k) = some o ∧ o.data = .func fd
  reM : ∀ {A : Around}, A.handled = none → A.units + 16 < cLine → ∀ {nm : Str} {k : Nat} {cs : Cells} {xs : List AV} {z : AV} {cs' : Cells} {n : Nat}, methOk cs (.re k) (mnOf nm) = true → mcall n (.re k) (mnOf nm) xs cs = some (z, cs') → ∀ {s : Shared} {pl : Sem Bool} {R : Value × List Value → Shared → Prop} {E : Value → Shared → Prop}, Kept B s.heap →
    (∀ f, (∀ s', Kept B s'.heap → KeepOk (model B.prog B.w) A s' f) →
      (∀ {s' : Shared} {W' : Addr → Prop} {ρ : List Addr} {vs : List Value} {Q : Value → Shared → Prop} {E : Value → Shared → Prop}, Ok B W' ρ cs s' → n ≤ cs.length → VRels B s'.heap W' ρ xs vs → PostV B n W' ρ cs s' cs' z Q → wpAny (model B.prog B.w) A (PySem.call f (.ref (B.reA k) :: vs) []) Q E s') → R (f, [.ref (B.reA k)]) s) →
    wpAny (model B.prog B.w) A (getMethod (.ref (B.reA k)) nm pl) R E s
section
variable {B : Base} {P : Prog} {T : Tops}
theorem calls_ok (O : ProgOk B P T) {k : Nat} (ih : ∀ A, Room A k → Rx B T.meths (callAt P k) A) {A : Around} (r : Room A (k + 1)) : CallOk B (callAt P (k + 1)).cf A := by
  intro f args kw cs cs' z n W ρ s vs kws Q E e hn o rv rk hQ
  have e : (P.fs[f]?).bind (fun F => closed (callAt P k) F args kw cs) = some (z, cs') := e
  obtain ⟨F, hF, e⟩ := bind_eq e
  obtain ⟨fd, body, params, D, hb⟩ := O.defs hF
  have run : ∀ {n' : Nat} {W : Addr → Prop} {ρ : List Addr} {s : Shared} {vs : List Value} {kws : List (Str × Value)} {cs₁ cs₂ : Cells} {z₀ : AV} {Q : Value → Shared → Prop}, F.run (callAt P k) n' args kw cs₁ = some (z₀, cs₂) → n' ≤ cs₁.length → Ok B W ρ cs₁ s → VRels B s.heap W ρ args vs → KwRel B s.heap W ρ kw kws →
      PostV B n' W ρ cs₁ s cs₂ z₀ Q → wpAny (model B.prog B.w) A (PySem.call (.ref (B.fnA f)) vs kws) Q E s := by
    intro n' W ρ s vs kws cs₁ cs₂ z₀ Q hr hl o rv rk hQ
    refine wpAny_call (run_sound D hb (by have := r.depth; omega) O.S O.glob rfl (fun env g f cx ss m => ?_) hr hl o rv rk hQ)
    have R := ih _ (r.deeper env)
    show SSs B T.meths (callAt P k) (A.deeper env) m cx _ _
    exact trSs_ok R (fun s => hook_keep O.S O.C) g f cx ss
  have opened : openRun (callAt P k) F args kw cs = some (z, cs') → wpAny (model B.prog B.w) A (PySem.call (.ref (B.fnA f)) vs kws) Q E s := by
    intro e
    obtain ⟨⟨z₀, cs₀⟩, hr, e⟩ := map_eq e
    refine run hr (Nat.le_refl _) o rv rk fun v W' ρ' s' af rz => ?_
    obtain ⟨ρ'', af', rz'⟩ := shut_sound o af rz
    have e : shut cs.length z₀ cs₀ = (z, cs') := e
    rw [e] at af' rz'
    exact hQ v W' ρ'' s' (af'.lower hn) rz'
  rcases orElse_eq e with ⟨v, hv, e⟩ | e
  · obtain ⟨hbel, hv⟩ := if_eq hv
    obtain ⟨⟨z₀, cs₀⟩, hr, hv⟩ := bind_eq hv
    obtain ⟨hz, hv⟩ := if_eq hv
    obtain rfl := Option.some.inj hv
    obtain ⟨rfl, rfl⟩ := pair_eq e
    obtain ⟨hb1, hb2⟩ := Bool.and_eq_true_iff.mp hbel
    have o₀ : Ok B W [] [] s := ⟨o.mem.takeN (n := 0) (fun i _ hi => absurd hi (Nat.not_lt_zero i)) (Nat.zero_le _), o.gens⟩
    refine run hr (Nat.le_refl 0) o₀ (rv.low (n := 0) hb1) (rk.closed hb2) fun v W' ρ' s' af rz => ?_
    obtain ⟨af', rz'⟩ := closed_sound (n := n) o af rz hz
    exact hQ v W' ρ s' af' rz'
  · exact opened e
theorem new_ok (O : ProgOk B P T) {k : Nat} (ih : ∀ A, Room A k → Rx B T.meths (callAt P k) A) {A : Around} (r : Room A (k + 1)) : NewOk B (callAt P (k + 1)).new A := by
  intro cs cs' z n W ρ s Q E e hn o hQ
  have e : (P.fs[P.initN]?).bind (fun F => (F.run (callAt P k) cs.length [.ref cs.length] none (cs ++ [.inst (cs.length + 1), .idict []])).bind fun r => if r.1.none? then some (.ref cs.length, r.2) else none) = some (z, cs') := e
  obtain ⟨F, hF, e⟩ := bind_eq e
  obtain ⟨⟨z₀, cs₀⟩, hr, e⟩ := bind_eq e
  obtain ⟨fd, body, params, D, hb⟩ := O.defs hF
  obtain ⟨hz, e⟩ := if_eq e
  obtain rfl : z₀ = .none := none?_eq hz
  obtain ⟨rfl, rfl⟩ := pair_eq e
  next =>
    have X := O.S.kin o.kept
    obtain ⟨h, g, d, t, os⟩ := s
    refine wpAny_call (make_core (makes_of X O.C.makes) (looks_findIn X O.C.init.1) (fun self => bind_fn X self O.C.init.2) (.inl rfl) ?_)
    have m := o.mem
    have hz1 : (h.push emptyDict).objs.size = h.objs.size + 1 := Heap.size_push ..
    have hz2 : ((h.push emptyDict).push (instObj B.clsA h.objs.size)).objs.size = h.objs.size + 2 := by rw [Heap.size_push, hz1]
    have room : After B cs.length Non W ρ cs ⟨h, g, d, t, os⟩ (Plus W h.objs.size ((h.push emptyDict).push (instObj B.clsA h.objs.size)).objs.size) ρ cs ⟨(h.push emptyDict).push (instObj B.clsA h.objs.size), g, d, t, os⟩ :=
      o.room (s := ⟨h, g, d, t, os⟩) (by show h.objs.size ≤ _; rw [hz2]; omega) fun a ob e => Heap.get?_push_of_some _ (Heap.get?_push_of_some _ e)
    have ρlt : ∀ a ∈ ρ, a < h.objs.size := fun a z => m.wlt a (m.own a z).1
    have g0 : ((h.push emptyDict).push (instObj B.clsA h.objs.size)).get? h.objs.size = some emptyDict := Heap.get?_push_of_some _ (Heap.get?_push_size _ rfl)
    have g1 : ((h.push emptyDict).push (instObj B.clsA h.objs.size)).get? (h.objs.size + 1) = some (instObj B.clsA h.objs.size) := by
      have := Heap.get?_push_size (h.push emptyDict) (o := instObj B.clsA h.objs.size) rfl
      rw [hz1] at this; exact this
    have own : ∀ a, h.objs.size ≤ a → a < h.objs.size + 2 → Plus W h.objs.size ((h.push emptyDict).push (instObj B.clsA h.objs.size)).objs.size a ∧ a ∉ ρ ∧ B.h₀.objs.size ≤ a := fun a h1 h2 =>
      ⟨.inr ⟨h1, by rw [hz2]; exact h2⟩, fun z => absurd (ρlt a z) (Nat.not_lt.mpr h1), Nat.le_trans m.size h1⟩
    have m2 := room.ok.mem.adopt2 (a := h.objs.size + 1) (b := h.objs.size) (own _ (Nat.le_succ _) (Nat.lt_succ_self _)) (own _ (Nat.le_refl _) (Nat.lt_succ_of_lt (Nat.lt_succ_self _))) (Nat.succ_ne_self _) (o := .inst (cs.length + 1)) (p := .idict [])
      ⟨_, g1, by rw [List.getElem?_append_right (by rw [m.len]; exact Nat.le_succ _), m.len, Nat.add_sub_cancel_left]; rfl⟩ (.inl ⟨rfl, g0⟩)
    have af₁ : After B cs.length Non W ρ cs ⟨h, g, d, t, os⟩ (Plus W h.objs.size ((h.push emptyDict).push (instObj B.clsA h.objs.size)).objs.size) (ρ ++ [h.objs.size + 1, h.objs.size]) (cs ++ [.inst (cs.length + 1), .idict []]) ⟨(h.push emptyDict).push (instObj B.clsA h.objs.size), g, d, t, os⟩ := by
      refine ⟨⟨m2, o.gens⟩, ⟨room.step.kept, room.step.wiff, fun i a e => getElem?_append_some _ (room.step.pre i a e), fun a ha => ?_, room.step.size⟩, rfl, fun k hk hl i ob hi e => ?_⟩
      · rcases List.mem_append.mp ha with ha | ha
        · exact .inl ha
        · rcases List.mem_cons.mp ha with rfl | ha
          · exact .inr (Nat.le_succ _)
          · simp at ha; subst ha; exact .inr (Nat.le_refl _)
      · rw [List.getElem?_append_left (Nat.lt_of_lt_of_le hi hk)] at e
        exact hl i ob hi e
    have hρ : (ρ ++ [h.objs.size + 1, h.objs.size])[cs.length]? = some (h.objs.size + 1) := by rw [List.getElem?_append_right (by rw [m.len]; exact Nat.le_refl _), m.len]; simp
    refine run_sound D hb (r.makes ⟨[.ref B.clsA], []⟩ default).2 O.S O.glob rfl (fun env g f cx ss m => ?_) hr (by simp) af₁.ok (.cons (.ref hρ) .nil) .none fun v W' ρ' s' af rz => ?_
    · have R := ih _ (r.makes ⟨[.ref B.clsA], []⟩ env).1
      show SSs B T.meths (callAt P k) _ m cx _ _
      exact trSs_ok R (fun s => hook_keep O.S O.C) g f cx ss
    · obtain rfl := rz.inv
      refine ⟨rfl, ?_⟩
      exact hQ _ W' ρ' s' ((af₁.trans af).lower hn) (.ref (af.step.pre _ _ hρ))
theorem rx_all (O : ProgOk B P T) : ∀ k A, Room A k → Rx B T.meths (callAt P k) A := by
  intro k
  induction k with
  | zero =>
    intro A r
    refine { S := O.S, hh := r.hh, room := by have := r.units; omega, fnObj := O.fnObj, call := fun e => ?_, new := fun e => ?_, meth := fun h => by intro s a dx o pl R E K I ho hH hne hR; exact hook_meth O.S O.C h K I ho hH hne hR, hdr := O.C.hdr, getA := fun K I ho hv h => hook_getA O.S O.C K I ho hv h, setA := fun K I ho hH h => hook_setA O.S O.C K I ho hH h, setI := fun hi e => ?_, delI := fun hi e => ?_, reM := fun h1 h2 => by intro s pl R E K h; exact O.reM r.hh (by have := r.units; omega) h1 h2 K h }
    all_goals exact absurd e (by simp [callAt])
  | succ k ih =>
    intro A r
    have cok : CallOk B (callAt P (k + 1)).cf A := calls_ok O ih r
    refine { S := O.S, hh := r.hh, room := by have := r.units; omega, fnObj := O.fnObj, call := cok, new := new_ok O ih r, meth := fun h => by intro s a dx o pl R E K I ho hH hne hR; exact hook_meth O.S O.C h K I ho hH hne hR, hdr := O.C.hdr, getA := fun K I ho hv h => hook_getA O.S O.C K I ho hv h, setA := fun K I ho hH h => hook_setA O.S O.C K I ho hH h, setI := fun hi e hn o pr pi pv hQ => ?_, delI := fun hi e hn o pr pi hQ => ?_, reM := fun h1 h2 => by intro s pl R E K h; exact O.reM r.hh (by have := r.units; omega) h1 h2 K h }
    · obtain ⟨⟨d, es⟩, hi⟩ := Option.isSome_iff_exists.mp hi
      obtain ⟨ad, dx, rfl, hd, gd, hI, ob, hob, hH⟩ := isInst_at o pr hi
      exact hook_setI O.S O.C o.kept hI hob (cok e hn o (.cons pr (.cons pi (.cons pv .nil))) .none fun v W' ρ' s' af _ => hQ W' ρ' s' af)
    · obtain ⟨⟨d, es⟩, hi⟩ := Option.isSome_iff_exists.mp hi
      obtain ⟨ad, dx, rfl, hd, gd, hI, ob, hob, hH⟩ := isInst_at o pr hi
      exact hook_delI O.S O.C o.kept hI hob (cok e hn o (.cons pr (.cons pi .nil)) .none fun v W' ρ' s' af _ => hQ W' ρ' s' af)
end
end Ev
namespace Ev
open PySem PySem.W PyProof.Rows PySem.SeqAt
section
variable {B : Base} {F : Fn} {fd : FuncData} {params : List Str}
theorem bindOk_plain (hko : F.ko = false) (hkd : F.kd = false) (dv : List Value) (drel : ∀ h W ρ, VRels B h W ρ F.dfl dv) (hnp : params.length = F.np)
    (hb : ∀ (vs : List Value) (s : Shared), vs.length ≤ F.np → F.np ≤ vs.length + F.dfl.length → Kept B s.heap → ∀ (A : Around) (E : Value → Shared → Prop) (Q : List (Str × Value) → Shared → Prop), Q (params.zip (vs ++ dv.drop (dv.length - (F.np - vs.length)))) s → wpAny (model B.prog B.w) A (bindArgs fd ⟨vs, []⟩) Q E s) : BindOk B F fd params := by
  intro args kw cs cs' as n W ρ s vs kws A E Q e hn o rv rk hQ
  obtain ⟨hlen, e⟩ := if_eq e
  rw [hko, hkd] at e
  cases kw with
    | some v => cases e
    | none =>
      obtain ⟨rfl, rfl⟩ := pair_eq e
      cases rk
      have hvl := rv.length
      have hdl := (drel s.heap W ρ).length
      rw [hvl] at hlen
      refine hb vs s hlen.1 hlen.2 o.kept _ _ _ ?_
      refine hQ _ W ρ s (After.refl o) ?_ ?_
      · rw [← hvl, ← hdl]
        exact rv.append ((drel s.heap W ρ).drop _)
      · rw [hdl] at hlen
        rw [List.length_append, List.length_drop, Nat.sub_sub_self (Nat.sub_le_iff_le_add'.mpr hlen.2), Nat.add_sub_cancel' hlen.1, hnp]
theorem bindOk_kw (hko : F.ko = true) (hkd : F.kd = false) (hdf : F.dfl = []) (hnp : params.length = F.np + 1)
    (hb : ∀ (vs : List Value) (v : Value) (s : Shared), vs.length = F.np → Kept B s.heap → ∀ (A : Around) (E : Value → Shared → Prop) (Q : List (Str × Value) → Shared → Prop), Q (params.zip (vs ++ [v])) s → wpAny (model B.prog B.w) A (bindArgs fd ⟨vs, [("name", v)]⟩) Q E s) : BindOk B F fd params := by
  intro args kw cs cs' as n W ρ s vs kws A E Q e hn o rv rk hQ
  obtain ⟨hlen, e⟩ := if_eq e
  rw [hko, hkd] at e
  rw [hdf] at e hlen
  cases kw with
    | none => cases e
    | some x =>
      obtain ⟨rfl, rfl⟩ := pair_eq e
      cases rk with | some r =>
      have hvl := rv.length
      simp only [List.length_nil, Nat.add_zero] at hlen
      refine hb vs _ s (by omega) o.kept _ _ _ ?_
      refine hQ _ W ρ s (After.refl o) ?_ ?_
      · simp only [List.drop_nil, List.append_nil]
        exact rv.append (.cons r .nil)
      · rw [List.length_append, List.length_singleton]; omega
theorem bindOk_kd (hko : F.ko = false) (hkd : F.kd = true) (hdf : F.dfl = []) (hnp : params.length = F.np + 1)
    (hb : ∀ (vs : List Value), vs.length = F.np → bindArgs fd ⟨vs, []⟩ = (do let d ← alloc { cls := .type "dict", data := .dict #[] }; pure (params.zip (vs ++ [.ref d])))) : BindOk B F fd params := by
  intro args kw cs cs' as n W ρ s vs kws A E Q e hn o rv rk hQ
  obtain ⟨hlen, e⟩ := if_eq e
  rw [hko, hkd] at e
  rw [hdf] at e hlen
  cases kw with
    | some v => cases e
    | none =>
      obtain ⟨rfl, rfl⟩ := pair_eq e
      cases rk
      have hvl := rv.length
      simp only [List.length_nil, Nat.add_zero] at hlen
      rw [hb vs (by omega)]
      refine wpAny_bind (wpAny_alloc (wpAny_pure ?_))
      have af : After B n Non W ρ cs s _ _ _ { s with heap := s.heap.push { cls := .type "dict", data := .dict #[] } } := o.alloc hn (tk := s.toks) (co := .dict []) ⟨[], Heap.DictOf.new _, .nil⟩
      refine hQ _ _ _ _ af ?_ ?_
      · simp only [List.drop_nil, List.append_nil]
        exact (af.vals o rv).append (.cons (.ref (by rw [o.mem.len]; simp)) .nil)
      · rw [List.length_append, List.length_singleton]; omega
end
end Ev
namespace Ev
open PySem PySem.W PyProof.Rows PySem.SeqAt
open PySem.Builtin.Re
open PySem (Sre.M)
theorem owner_re : Manifest.owners.lookup (String.ofList ['n', 'r', 'e', 't', 't', 'a', 'P', '.', 'e', 'r'].reverse) = Manifest.owners.lookup "re.Pattern" := by kernel_rfl
theorem plainAttrs_re : PlainAttrs "re.Pattern" :=
  ⟨⟨"object.__getattribute__", by rw [typeLookup_type, builtinLookup_eq_fast]; kernel_rfl, by decide +kernel⟩, by rw [typeLookup_type, builtinLookup_eq_fast]; kernel_rfl⟩
theorem slot_re_search : Slot "re.Pattern" "search" "re.Pattern.search" :=
  .of (owner := "re.Pattern") (n := "search") (by rw [typeLookup_type, builtinLookup_eq_fast]; kernel_rfl) (by decide +kernel) (by decide +kernel) (by decide +kernel)
    (by first | exact .inl (by decide +kernel) | exact .inr (by decide +kernel)) (by rw [isSubtype_type]; kernel_rfl)
theorem slot_re_sub : Slot "re.Pattern" "sub" "re.Pattern.sub" :=
  .of (owner := "re.Pattern") (n := "sub") (by rw [typeLookup_type, builtinLookup_eq_fast]; kernel_rfl) (by decide +kernel) (by decide +kernel) (by decide +kernel)
    (by first | exact .inl (by decide +kernel) | exact .inr (by decide +kernel)) (by rw [isSubtype_type]; kernel_rfl)
theorem type_re_search : typeOf (.builtin "re.Pattern.search") = pure (.type "method_descriptor") := by show builtinType _ = _; rw [builtinType_eq_fast]; kernel_rfl
theorem type_re_sub : typeOf (.builtin "re.Pattern.sub") = pure (.type "method_descriptor") := by show builtinType _ = _; rw [builtinType_eq_fast]; kernel_rfl
theorem entry_re_search : entryFor table "re.Pattern.search" = some Builtin.«re.Pattern.search» := entryFor_of_tree (by kernel_rfl)
theorem entry_re_sub : entryFor table "re.Pattern.sub" = some Builtin.«re.Pattern.sub» := entryFor_of_tree (by kernel_rfl)
theorem entry_re_subloop : entryFor table "re.Pattern.sub.loop" = some Builtin.«re.Pattern.sub.loop» := entryFor_of_tree (by kernel_rfl)
theorem plain_re_subloop : plainId "re.Pattern.sub.loop" = true := by decide +kernel
theorem args_re_search (a b : Value) : argsOk "re.Pattern.search" ⟨[a, b], []⟩ := by unfold argsOk; kernel_rfl
theorem args_re_sub (a b c : Value) : argsOk "re.Pattern.sub" ⟨[a, b, c], []⟩ := by unfold argsOk; kernel_rfl
end Ev
namespace Ev
open PySem PySem.W PyProof.Rows PySem.SeqAt
open PySem.Builtin.Re
noncomputable def codeName : Array Nat := #[14, 10, 4, 1, 1, 22, 0, 31, 16, 127, 0, 13, 7, 22, 0, 31, 16, 127, 0, 1]
noncomputable def codeValue : Array Nat := #[14, 14, 4, 1, 1, 9, 4294966783, 0, 0, 2147483648, 0, 0, 0, 0, 0, 13, 11, 9, 4294966783, 0, 0, 2147483648, 0, 0, 0, 0, 0, 1]
noncomputable def codeTwin : Array Nat := #[14, 14, 4, 1, 1, 9, 0, 64, 0, 1342177280, 0, 0, 0, 0, 0, 17, 0, 13, 11, 9, 0, 64, 0, 1342177280, 0, 0, 0, 0, 0, 17, 1, 1]
noncomputable def CodeOk (code : Array Nat) (ok : Nat → Bool) : Prop := ∀ c, ok c = true → ∀ seen, ∃ seen', Sre.inSet code c code.size 5 true seen = .ok (false, seen')
theorem codeName_ok : CodeOk codeName okSign := by
  intro c hc seen
  have h : (32 : Nat) ≤ c ∧ c < 127 := by simpa [okSign] using hc
  have e : Sre.inSet codeName c codeName.size 5 true seen = if (decide (0 ≤ c) && decide (c ≤ 31)) = true then .ok (true, seen.add 22) else if (c == 127) = true then .ok (true, (seen.add 22).add 16) else .ok (false, ((seen.add 22).add 16).add 0) := rfl
  rw [e, if_neg (by simp; omega), if_neg (by simp; omega)]
  exact ⟨_, rfl⟩
theorem charset_miss (ok : Nat → Bool) (w : Nat → Nat) (h : ((List.range 128).all fun c => !ok c || !(w (c / 32)).testBit (c % 32)) = true) (hl : ∀ c, ok c = true → c < 128) {c : Nat} (hc : ok c = true) : (w (c / 32)).testBit (c % 32) = false := by
  have := List.all_eq_true.mp h c (List.mem_range.mpr (hl c hc))
  rw [hc] at this
  simpa using this
theorem codeValue_ok : CodeOk codeValue okSign := by
  intro c hc seen
  have e : Sre.inSet codeValue c codeValue.size 5 true seen = if (decide (c < 256) && (codeValue.getD (5 + (1 + c / 32)) 0).testBit (c % 32)) = true then .ok (true, seen.add 9) else .ok (false, (seen.add 9).add 0) := rfl
  have m := charset_miss okSign (fun k => codeValue.getD (5 + (1 + k)) 0) (by decide +kernel) (fun c hc => by simp [okSign] at hc; omega) hc
  have m : (codeValue.getD (5 + (1 + c / 32)) 0).testBit (c % 32) = false := m
  rw [e, m, Bool.and_false, if_neg (by decide)]
  exact ⟨_, rfl⟩
theorem codeTwin_ok : CodeOk codeTwin noAmp := by
  intro c hc seen
  have e : Sre.inSet codeTwin c codeTwin.size 5 true seen = if (decide (c < 256) && (codeTwin.getD (5 + (1 + c / 32)) 0).testBit (c % 32)) = true then .ok (true, seen.add 9) else .ok (false, (seen.add 9).add 0) := rfl
  have m := charset_miss noAmp (fun k => codeTwin.getD (5 + (1 + k)) 0) (by decide +kernel) (fun c hc => by simp [noAmp] at hc; omega) hc
  have m : (codeTwin.getD (5 + (1 + c / 32)) 0).testBit (c % 32) = false := m
  rw [e, m, Bool.and_false, if_neg (by decide)]
  exact ⟨_, rfl⟩
theorem admitted_none {m : Sre.M} {ok : Nat → Bool} (hC : CodeOk m.code ok) (ht : ∀ i, i < m.lim → ok (m.text.getD i 0) = true) : ∀ (fuel s : Nat) (seen : Sre.Seen), ∃ seen', m.admitted fuel s seen = .ok (none, seen')
  | 0, _, seen => ⟨seen, rfl⟩
  | fuel + 1, s, seen => by
    rw [Sre.M.admitted]
    split
    · exact ⟨_, rfl⟩
    · rename_i h
      obtain ⟨seen', e⟩ := hC _ (ht s (by omega)) seen
      rw [e]
      exact admitted_none hC ht fuel (s + 1) seen'
noncomputable def Says (m : Sre.M) : Prop := m.answer = some false ∧ m.frames = [] ∧ m.outcome.isSome = false
theorem attempt_says {m : Sre.M} {ok : Nat → Bool} {s : Nat} {first : Bool} (hC : CodeOk m.code ok) (ht : ∀ i, i < m.lim → ok (m.text.getD i 0) = true) (h4 : m.hasFirstSet = true) (hf : m.frames = []) (ho : m.outcome.isSome = false) : Says (m.attemptFrom s first) := by
  unfold Sre.M.attemptFrom
  rw [h4]
  obtain ⟨seen', e⟩ := admitted_none hC ht (m.lim + 1 - s) s m.seen
  rw [if_neg (by decide), e]
  exact ⟨rfl, hf, ho⟩
theorem search_says {code : Array Nat} {ok : Nat → Bool} {text : Array Nat} {groups : Nat} (hC : CodeOk code ok) (h4 : ∀ (m : Sre.M), m.code = code → m.hasFirstSet = true) (ht : ∀ i, i < text.size → ok (text.getD i 0) = true) : Says (Sre.forSearch code text groups 0 text.size false) := by
  unfold Sre.forSearch
  dsimp only
  split
  · exact ⟨rfl, rfl, rfl⟩
  · exact attempt_says hC ht (h4 _ rfl) rfl rfl
theorem first_name : ∀ (m : Sre.M), m.code = codeName → m.hasFirstSet = true := fun m h => by unfold Sre.M.hasFirstSet; rw [h]; rfl
theorem first_value : ∀ (m : Sre.M), m.code = codeValue → m.hasFirstSet = true := fun m h => by unfold Sre.M.hasFirstSet; rw [h]; rfl
theorem first_twin : ∀ (m : Sre.M), m.code = codeTwin → m.hasFirstSet = true := fun m h => by unfold Sre.M.hasFirstSet; rw [h]; rfl
theorem says_step {m : Sre.M} (h : Says m) : m.runFor reTurnSteps = { m with outcome := some .failed } := by
  obtain ⟨h1, h2, h3⟩ := h
  have e1 : m.step = { m with outcome := some .failed } := by
    unfold Sre.M.step
    rw [h3, if_neg (by decide), h1, h2]
    rfl
  show Sre.M.runFor 4 m = _
  rw [Sre.M.runFor, h3, if_neg (by decide), e1]
  rfl
section
variable {prog : Program} {w : World} {A : Around} {E : Value → Shared → Prop} {s : Shared}
theorem wpAny_rules {l : List Nat} {f : Nat → Unit → Sem (ForInStep Unit)} {Q : Unit → Shared → Prop} (hf : ∀ i u (R : ForInStep Unit → Shared → Prop), R (.yield ()) s → wpAny (model prog w) A (f i u) R E s) (h : Q () s) : wpAny (model prog w) A (forIn l () f) Q E s := by
  induction l with
  | nil => rw [List.forIn_nil]; exact wpAny_pure h
  | cons a l ih =>
    rw [List.forIn_cons]
    exact wpAny_bind (hf a () _ ih)
theorem runToEnd_none {m : Sre.M} (h : Says m) {Q : Option Sre.M → Shared → Prop} (hq : Q none s) : wpAny (model prog w) A (reRunToEnd m) Q E s := by
  unfold reRunToEnd
  have e : reDrive (2 ^ 64) m = pure { m with outcome := some .failed } := by
    show reDrive (18446744073709551615 + 1) m = _
    rw [reDrive, says_step h]
    rfl
  rw [e]
  refine wpAny_bind (wpAny_pure ?_)
  refine wpAny_bind (wpAny_rules (fun i u R hr => ?_) ?_)
  · split
    · exact wpAny_bind (wpAny_rule (wpAny_pure hr))
    · exact wpAny_pure hr
  · exact wpAny_pure hq
noncomputable def PatAt (h : Heap) (P : Addr) (code : Array Nat) : Prop :=
  ∃ (o : Obj) (fs : Array Value) (T : Addr) (ot : Obj) (ws : Array Value) (n : Nat), h.get? P = some o ∧ o.cls = .type "re.Pattern" ∧ o.dict = none ∧ o.data = .fields fs ∧ fs.getD 5 .none = .ref T ∧ reRawNat (fs.getD 6 .none) = 0 ∧
    h.get? T = some ot ∧ ot.data = .seq ws n ∧ (ws.map reRawOf).map (·.toNat) = code
theorem PatAt.keeps {h h' : Heap} {P : Addr} {code : Array Nat} (x : PatAt h P code) (k : ∀ a o, h.get? a = some o → h'.get? a = some o) : PatAt h' P code :=
  let ⟨o, fs, T, ot, ws, n, h1, h2, h3, h4, h5, h6, h7, h8⟩ := x; ⟨o, fs, T, ot, ws, n, k _ _ h1, h2, h3, h4, h5, h6, k _ _ h7, h8⟩
theorem wpAny_rawItems {T : Addr} {ot : Obj} {ws : Array Value} {n : Nat} {Q : Array Int → Shared → Prop} (h : s.heap.get? T = some ot) (hd : ot.data = .seq ws n) (hq : Q (ws.map reRawOf) s) : wpAny (model prog w) A (reRawItems (.ref T)) Q E s := by
  unfold reRawItems seqItems?
  refine wpAny_bind (wpAny_bind (wpAny_load h ?_))
  rw [hd]
  exact wpAny_pure (wpAny_pure hq)
theorem call_search {P : Addr} {code : Array Nat} {ok : Nat → Bool} {t : Array Nat} {tk : Tok} {Q : Value → Shared → Prop} (x : PatAt s.heap P code) (hC : CodeOk code ok) (h4 : ∀ (m : Sre.M), m.code = code → m.hasFirstSet = true) (ht : ∀ i, i < t.size → ok (t.getD i 0) = true)
    (hb : t.size < 2 ^ 62) (hq : Q .none s) : wpAny (model prog w) A (call (.builtin "re.Pattern.search") [.ref P, .str ⟨t⟩ tk]) Q E s := by
  obtain ⟨o, fs, T, ot, ws, n, h1, h2, h3, h4', h5, h6, h7, h8, h9⟩ := x
  refine call_meets slot_re_search ⟨_, h1, h2⟩ entry_re_search (args_re_search _ _) (S := fun _ R s' => s' = s ∧ R (.ok (.ret .none)) s') ?_ ⟨rfl, hq⟩
  intro prog w A R s' hs
  obtain ⟨rfl, hr⟩ := hs
  show wpAny _ _ (do let t ← reTarget "re.Pattern.search" "search" _; reAnswer t (Sre.forSearch t.code t.text t.groups t.pos t.lim false)) _ _ _
  have hn : reNamed "re.Pattern.search" "search" ["string", "pos", "endpos"] 1 [Value.str ⟨t⟩ tk] [] = pure [some (Value.str ⟨t⟩ tk), none, none] := by rfl
  unfold reTarget
  dsimp only
  rw [hn]
  refine wpAny_bind (wpAny_bind (wpAny_pure ?_))
  dsimp only
  refine wpAny_bind (wpAny_pure ?_)
  refine wpAny_bind (wpAny_pure ?_)
  refine wpAny_bind (wpAny_fieldsOf h1 h4' ?_)
  refine wpAny_bind (wpAny_bind (wpAny_pure ?_))
  refine wpAny_pure ?_
  dsimp only
  rw [h6, h5]
  rw [if_neg (by decide), if_neg (by decide)]
  refine wpAny_bind (wpAny_pure ?_)
  refine wpAny_bind (wpAny_rawItems h7 h8 ?_)
  refine wpAny_pure ?_
  dsimp only
  rw [h9]
  have e1 : min (Int.toNat 0) t.size = 0 := Nat.zero_min _
  have e2 : min (2 ^ 63 - 1 : Int).toNat t.size = t.size := by
    apply Nat.min_eq_right
    have : (2 ^ 63 - 1 : Int).toNat = 2 ^ 63 - 1 := by decide +kernel
    rw [this]
    omega
  rw [e1, e2]
  unfold reAnswer
  refine wpAny_bind (runToEnd_none (search_says hC h4 ht) ?_)
  exact wpAny_pure hr
theorem wpAny_whole {P : Addr} {code t : Array Nat} {tk : Tok} {Q : ReTarget → Shared → Prop} (x : PatAt s.heap P code) (hq : ∀ g, Q ⟨.ref P, .str ⟨t⟩ tk, code, t, 0, g, 0, t.size⟩ s) : wpAny (model prog w) A (reWholeTarget (.ref P) (.str ⟨t⟩ tk)) Q E s := by
  obtain ⟨o, fs, T, ot, ws, n, h1, h2, h3, h4', h5, h6, h7, h8, h9⟩ := x
  unfold reWholeTarget
  refine wpAny_bind (wpAny_fieldsOf h1 h4' ?_)
  refine wpAny_bind (wpAny_bind (wpAny_pure (wpAny_pure ?_)))
  dsimp only
  rw [h6, h5]
  rw [if_neg (by decide), if_neg (by decide)]
  refine wpAny_bind (wpAny_pure ?_)
  refine wpAny_bind (wpAny_rawItems h7 h8 (wpAny_pure ?_))
  rw [h9]
  exact hq _
theorem special_function : typeLookup (.type "function") "__call__" = pure (some (.builtin "function.__call__")) := by rw [typeLookup_type, builtinLookup_eq_fast]; kernel_rfl
theorem sub_str_bytearray : isSubtype (.type "str") (.type "bytearray") = pure false := by rw [isSubtype_type]; kernel_rfl
theorem all_getD {ok : Nat → Bool} {t : Tx} (h : t.all ok = true) : ∀ i, i < t.toArray.size → ok (t.toArray.getD i 0) = true := fun i hi => by
  have hi : i < t.length := by simpa using hi
  rw [show t.toArray.getD i 0 = t[i] by simp [Array.getD, hi]]
  exact List.all_eq_true.mp h _ (List.getElem_mem hi)
theorem slice_all {t : Tx} {Q : Value → Shared → Prop} (hb : t.length ≤ lim) (hq : ∀ tk, Q (.str ⟨t.toArray⟩ tk) { s with toks := s.toks + 1 }) : wpAny (model prog w) A (reSlice t.toArray 0 0 t.toArray.size) Q E s := by
  have e : reSlice t.toArray 0 0 t.toArray.size = mkStr ⟨t.toArray⟩ := by
    show mkStr ⟨t.toArray.extract 0 t.toArray.size⟩ = _
    rw [Array.extract_size]
  rw [e]
  exact wpAny_mkStr (hq _) (by rw [strOf_len]; exact lim_size hb)
theorem slice_none {t : Array Nat} {Q : Value → Shared → Prop} (hq : ∀ tk, Q (.str ⟨#[]⟩ tk) { s with toks := s.toks + 1 }) : wpAny (model prog w) A (reSlice t 0 0 0) Q E s := by
  have e : reSlice t 0 0 0 = mkStr ⟨#[]⟩ := by
    show mkStr ⟨t.extract 0 0⟩ = _
    rw [show t.extract 0 0 = #[] by simp]
  rw [e]
  exact wpAny_mkStr (hq _) (by decide)
theorem wpAny_seqItems {D : Addr} {o : Obj} {xs : Array Value} {n : Nat} {Q : Option (Array Value) → Shared → Prop} (h : s.heap.get? D = some o) (hd : o.data = .seq xs n) (hq : Q (some xs) s) : wpAny (model prog w) A (seqItems? (.ref D)) Q E s := by
  unfold seqItems?
  refine wpAny_bind (wpAny_load h ?_)
  rw [hd]
  exact wpAny_pure hq
theorem subloop_meets {P f D : Addr} {code : Array Nat} {ok : Nat → Bool} {t : Tx} {tk : Tok} (hC : CodeOk code ok) (h4 : ∀ (m : Sre.M), m.code = code → m.hasFirstSet = true) (ht : t.all ok = true) (hb : t.length ≤ lim) :
    Meets (Builtin.«re.Pattern.sub.loop» ⟨[.ref P, .str ⟨t.toArray⟩ tk, .ref f, rawInt 1, rawInt 0, rawInt 0, rawInt 0, rawInt 0, .bool false, .ref D, .bool false], []⟩)
      (fun A R s => PatAt s.heap P code ∧ IsL s.heap D #[] 0 ∧ ∀ h' tk' tk'', Heap.SameBut D s.heap h' → R (.ok (.ret (.str ⟨t.toArray⟩ tk'))) { s with heap := h', toks := tk'' }) := by
  intro prog w A R s hs
  obtain ⟨x, hl, hr⟩ := hs
  unfold Builtin.«re.Pattern.sub.loop»
  simp only [rawInt]
  refine wpAny_bind (wpAny_whole x fun g => ?_)
  rw [if_neg (by decide)]
  dsimp only
  rw [if_neg (by decide)]
  refine wpAny_bind (m := reNextFound _ _ _) (runToEnd_none (search_says hC h4 (all_getD ht)) ?_)
  dsimp only
  by_cases h0 : t = []
  · subst h0
    rw [if_neg (by decide)]
    refine wpAny_bind (m := reSlice _ _ _ _) (slice_none fun u => ?_)
    refine wpAny_bind (wpAny_seqItems hl rfl ?_)
    rw [if_pos (by rfl)]
    refine wpAny_bind (wpAny_pure ?_)
    rw [if_neg (by decide)]
    exact wpAny_pure (hr s.heap u _ (Heap.SameBut.refl D s.heap))
  · rw [if_pos (by simp; exact List.length_pos_iff.mpr h0)]
    refine wpAny_bind (m := reSlice _ _ _ _) (slice_all hb fun u => ?_)
    refine wpAny_bind (wpAny_updateSeq hl rfl ?_ (by decide) (by rw [Array.size_push]; decide))
    have l2 : IsL (s.heap.update D (Obj.mapSeq (·.push (.str ⟨t.toArray⟩ u)))) D #[.str ⟨t.toArray⟩ u] 1 := IsL.update hl (·.push (.str ⟨t.toArray⟩ u))
    refine wpAny_bind (m := reSlice _ _ _ _) (slice_none fun u' => ?_)
    refine wpAny_bind (wpAny_seqItems l2 rfl ?_)
    rw [if_neg (by simp)]
    have l3 : s.heap.update D (Obj.mapSeq (·.push (.str ⟨t.toArray⟩ u))) |>.IsList D (strValues [((⟨t.toArray⟩ : Str), u)]).toArray := l2.isList
    have l4 : [((⟨t.toArray⟩ : Str), u)].map (·.1) = [t].map fun x => (⟨x.toArray⟩ : Str) := rfl
    have l5 : JoinOk ⟨([] : Tx).toArray⟩ ([t].map fun x => (⟨x.toArray⟩ : Str)) = true := joinOk (sep := []) (xs := [t]) (Nat.zero_le _) (show t.length ≤ lim from hb)
    refine wpAny_bind (SC.join l3 l4 l5 fun tk' k => ?_)
    have e : Txt.join ⟨([] : Tx).toArray⟩ ([t].map fun x => (⟨x.toArray⟩ : Str)) = ⟨t.toArray⟩ := (StrLaws.glued_eq_join _ _).trans (strJoin [] [t])
    rw [if_neg (by decide)]
    have e' : Txt.join ⟨#[]⟩ ([t].map fun x => (⟨x.toArray⟩ : Str)) = ⟨t.toArray⟩ := e
    rw [e']
    exact wpAny_pure (hr _ tk' k (Heap.SameBut.update ..))
theorem call_sub {P f : Addr} {of : Obj} {code : Array Nat} {ok : Nat → Bool} {t : Tx} {tk : Tok} {Q : Value → Shared → Prop} (x : PatAt s.heap P code) (hC : CodeOk code ok) (h4 : ∀ (m : Sre.M), m.code = code → m.hasFirstSet = true) (ht : t.all ok = true)
    (hb : t.length ≤ lim) (hf : s.heap.get? f = some of) (hfc : of.cls = .type "function") (hq : ∀ h' tk' tk'', (∀ a o, s.heap.get? a = some o → h'.get? a = some o) → s.heap.objs.size ≤ h'.objs.size → Q (.str ⟨t.toArray⟩ tk') { s with heap := h', toks := tk'' }) :
    wpAny (model prog w) A (call (.builtin "re.Pattern.sub") [.ref P, .ref f, .str ⟨t.toArray⟩ tk]) Q E s := by
  have x' := x
  obtain ⟨o, fs, T, ot, ws, n, h1, h2, h3, h4', h5, h6, h7, h8, h9⟩ := x'
  refine call_meets slot_re_sub ⟨_, h1, h2⟩ entry_re_sub (args_re_sub _ _ _) (S := fun A R s' => s' = s ∧ ∀ h' tk' tk'', (∀ a o, s.heap.get? a = some o → h'.get? a = some o) → s.heap.objs.size ≤ h'.objs.size → R (.ok (.ret (.str ⟨t.toArray⟩ tk'))) { s with heap := h', toks := tk'' }) ?_ ⟨rfl, hq⟩
  clear hq
  intro prog w A R s' hs
  obtain ⟨rfl, hr⟩ := hs
  have hn : reNamed "re.Pattern.sub" "sub" ["repl", "string", "count"] 2 [.ref f, Value.str ⟨t.toArray⟩ tk] [] = pure [some (.ref f), some (Value.str ⟨t.toArray⟩ tk), none] := by rfl
  show wpAny _ _ (reSubstitute "re.Pattern.sub" "sub" false _) _ _ _
  unfold reSubstitute
  dsimp only
  rw [hn]
  refine wpAny_bind (wpAny_pure ?_)
  dsimp only
  refine wpAny_bind (wpAny_pure ?_)
  refine wpAny_bind (wpAny_specialOf ⟨_, hf, hfc⟩ special_function ?_)
  rw [if_pos (by rfl)]
  refine wpAny_bind (wpAny_pure ?_)
  rw [if_pos (by rfl)]
  refine wpAny_bind (wpAny_pure ?_)
  refine wpAny_bind (wpAny_holding (wpAny_whole x fun g => ?_))
  rw [if_pos (by rfl)]
  refine wpAny_bind (m := reNotHeld _ _) ?_
  · unfold reNotHeld
    refine wpAny_bind (wpAny_isInstance (typeIs_str _ _ _) sub_str_bytearray ?_)
    rw [if_neg (by decide)]
    refine wpAny_pure ?_
    refine wpAny_bind (wpAny_newList ?_)
    have hk : ∀ a o, s'.heap.get? a = some o → (s'.heap.push { cls := .type "list", data := .seq #[] }).get? a = some o := fun a o e => Heap.get?_push_of_some _ e
    refine wpAny_pure ⟨plainId_quiet plain_re_subloop _, codeAny_builtin entry_re_subloop ?_⟩
    rw [Around.under_plainId plain_re_subloop _]
    refine subloop_meets hC h4 ht hb prog w A R _ ⟨x.keeps hk, IsL.new _ _, fun h' tk' tk'' hs => hr h' tk' tk'' (fun a o e => ?_) ?_⟩
    · rw [hs.2 a (fun z => Nat.lt_irrefl _ (z ▸ Heap.lt_size e))]; exact hk a o e
    · show s'.heap.objs.size ≤ h'.objs.size
      rw [hs.1, Heap.size_push]; exact Nat.le_succ _
end
end Ev
namespace Ev
open PySem PySem.W PyProof.Rows PySem.SeqAt
section
variable {B : Base} {M0 : List (Tx × Nat)} {Wo : Wd} {A : Around} {n : Nat} {env : Env} {W : Addr → Prop} {ρ : List Addr} {cs cs' : Cells} {h h' : Heap} {s : Shared}
theorem Mem.table (m : Mem B W ρ cs h) {p : Addr × Addr} (hp : p ∈ B.tabs) {ps : Array Value} (hx : Heap.ExtBut p.2 h h') (hsz : h.objs.size ≤ h'.objs.size) (ht : h'.get? p.2 = some (tabObj ps)) (tr : TriplesOk ps.toList) (pre : ∃ more, ps = B.ps p.2 ++ more) : Mem B W ρ cs h' := by
  obtain ⟨_, wP, lP⟩ := m.tab p hp
  have nP : ∀ a, ¬ W a → a ≠ p.2 := fun a w e => w (e ▸ wP)
  have ρP : ∀ a ∈ ρ, a ≠ p.2 := fun a ha e => absurd lP (Nat.not_lt.mpr (e ▸ (m.own a ha).2))
  refine ⟨m.len, fun i o a e g => ?_, m.inj, m.own, fun a w => Nat.lt_of_lt_of_le (m.wlt a w) hsz, fun a o e => ?_, fun q hq => ?_, Nat.le_trans m.size hsz⟩
  · have c := m.cell i o a e g
    obtain ⟨ob, hob⟩ := c.getSome
    exact c.mono ((hx _ _ (ρP a (List.mem_of_getElem? g)) hob).trans hob.symm) (fun a o e w => hx _ _ (nP a w) e) (fun _ _ w => w) fun _ _ e => e
  · have z := m.base a o e
    exact ⟨hx _ _ (nP a z.2) z.1, z.2⟩
  · obtain ⟨⟨qs, c, t⟩, w, l⟩ := m.tab q hq
    by_cases e : q.2 = p.2
    · exact ⟨⟨ps, by rw [e]; exact ht, tr, by rw [e]; exact pre⟩, w, l⟩
    · exact ⟨⟨qs, hx _ _ e c, t⟩, w, l⟩
theorem Ok.table (o : Ok B W ρ cs s) {p : Addr × Addr} (hp : p ∈ B.tabs) {ps : Array Value} {tk : Nat} (hx : Heap.ExtBut p.2 s.heap h') (hsz : s.heap.objs.size ≤ h'.objs.size) (ht : h'.get? p.2 = some (tabObj ps)) (tr : TriplesOk ps.toList) (pre : ∃ more, ps = B.ps p.2 ++ more) :
    After B n Non W ρ cs s W ρ cs { s with heap := h', toks := tk } :=
  ⟨⟨o.mem.table hp hx hsz ht tr pre, o.gens⟩, ⟨fun a ob e _ t _ => hx _ _ (fun z => t (z ▸ List.mem_map_of_mem hp)) e, fun _ _ => Iff.rfl, fun _ _ e => e, fun _ z => .inl z, hsz⟩, rfl, LowTo.refl _ _⟩
theorem clOf_none {env : Env} : ∀ {names : List (Str × NameKind)} {acc : List (Str × Addr)}, (∀ p ∈ names, p.2 ≠ .free) → clOf env names acc = acc
  | [], _, _ => rfl
  | (x, k) :: r, acc, h => by
    have hk : (k == NameKind.free) = false := by
      have : k ≠ .free := h (x, k) List.mem_cons_self
      simpa using this
    unfold clOf
    rw [hk, if_neg (by decide)]
    exact clOf_none fun p hp => h p (List.mem_cons_of_mem _ hp)
theorem lam_hook (S : Stat B) {c P : Addr} (hp : (c, P) ∈ B.tabs) (C : CodeHd B.h₀ c P) (bm : ∃ bm ob, B.mg "__builtins__" = some (.ref bm) ∧ bm ≠ builtinsNs ∧ B.h₀.get? bm = some ob ∧ ob.cls = .type "module" ∧ ob.dict = some builtinsNs ∧ ob.data = .plain)
    (hge : env.globals = mainGlobals) (hcode : env.code = .ref c) : lamHook B A env := by
  intro args body sc pos n W ρ cs s Q E hl hf o hQ
  have hm := o.mem
  obtain ⟨⟨ps, hP, tr, pre⟩, wP, lP⟩ := hm.tab _ hp
  have hdef : defaultsOf args env = ([], []) := by
    unfold plainLam at hl
    split at hl
    · rfl
    · cases hl
  have hcl : closureFor sc env = pure [] := by
    have hn : ∀ p ∈ sc.names, p.2 ≠ .free := fun p hp => by
      have := List.all_eq_true.mp hf p hp
      simpa using this
    rw [closureFor_eq fun p hp e => absurd e (hn p hp), clOf_none hn]
  have gG : s.heap.Ns mainGlobals B.mg := S.g.keeps o.kept
  have hgP : mainGlobals ≠ P := fun q => by
    obtain ⟨ob, es, ep, e, hd, _⟩ := S.g
    exact (hm.base _ _ e).2 (q ▸ wP)
  obtain ⟨bm, ob, b1, b2, b3, b4, b5, b6⟩ := bm
  have hbP : bm ≠ P := fun q => (hm.base _ _ b3).2 (q ▸ wP)
  have hbG : bm ≠ mainGlobals := fun q => by
    obtain ⟨o', es, ep, e, hd, _⟩ := S.g
    rw [q, e] at b3; cases b3; rw [hd] at b6; cases b6
  have hb : s.heap.BuiltinsAt B.mg P := ⟨bm, ob, b1, b2, hbG, hbP, o.kept _ _ b3, b4, b5, b6⟩
  refine kla_eval hdef ?_
  cases hf' : codeAmong pos ps.toList with
  | none =>
    refine kla_makeFunction (mg := B.mg) hcl hge gG hcode (C.keeps o.kept) hP tr hf' hgP hb fun c' ctv h' tk hx hge hlt hrec htb => ?_
    have a1 : After B n Non W ρ cs s W ρ cs { s with heap := h', toks := tk } := o.table hp hx (Nat.le_trans hge (Nat.le_of_lt hlt)) htb (by
        rw [Array.toList_append]; exact TriplesOk_snoc _ _ _ _ tr) (by
        obtain ⟨more, e⟩ := pre
        exact ⟨more ++ #[rawInt pos.line, rawInt pos.col, .ref c'], by rw [e, Array.append_assoc]⟩)
    have a2 := a1.trans (a1.ok.push (kla_obj "<lambda>" (env.qual ++ "<lambda>") args body sc [] ((B.mg "__name__").getD .none) c' ctv) (tk := tk))
    exact hQ _ W ρ _ a2 (.lam (Heap.get?_push_size _ rfl) (a1.ok.newNot (Nat.le_refl _)) rfl)
  | some cv =>
    refine kla_makeFunctionHit (mg := B.mg) hcl hge gG hcode (C.keeps o.kept) hP tr hf' hb fun ctv h' tk hk hsz => ?_
    have a1 : After B n Non W ρ cs s W ρ cs { s with heap := h', toks := tk } := o.grow hsz hk
    have a2 := a1.trans (a1.ok.push { cls := .type "function", data := .func (kla_fn "<lambda>" (env.qual ++ "<lambda>") args body sc [] ((B.mg "__name__").getD .none) cv ctv) } (tk := tk))
    exact hQ _ W ρ _ a2 (.lam (Heap.get?_push_size _ rfl) (a1.ok.newNot (Nat.le_refl _)) rfl)
end
end Ev
namespace Ev
open PySem PySem.W PyProof.Rows PySem.SeqAt
section
variable {B : Base}
theorem reM_of (p0 : PatAt B.h₀ (B.reA 0) codeName) (p1 : PatAt B.h₀ (B.reA 1) codeValue) (p2 : PatAt B.h₀ (B.reA 2) codeTwin) {A : Around} {nm : Str} {k : Nat} {cs : Cells} {xs : List AV} {z : AV} {cs' : Cells} {n : Nat}
    (hm : methOk cs (.re k) (mnOf nm) = true) (e : mcall n (.re k) (mnOf nm) xs cs = some (z, cs')) {s : Shared} {pl : Sem Bool} {R : Value × List Value → Shared → Prop} {E : Value → Shared → Prop} (K : Kept B s.heap)
    (hR : ∀ f, (∀ s', Kept B s'.heap → KeepOk (model B.prog B.w) A s' f) →
      (∀ {s' : Shared} {W' : Addr → Prop} {ρ : List Addr} {vs : List Value} {Q : Value → Shared → Prop} {E : Value → Shared → Prop}, Ok B W' ρ cs s' → n ≤ cs.length → VRels B s'.heap W' ρ xs vs → PostV B n W' ρ cs s' cs' z Q → wpAny (model B.prog B.w) A (PySem.call f (.ref (B.reA k) :: vs) []) Q E s') → R (f, [.ref (B.reA k)]) s) :
    wpAny (model B.prog B.w) A (getMethod (.ref (B.reA k)) nm pl) R E s := by
  have keep : ∀ {id : String}, ∀ s', Kept B s'.heap → KeepOk (model B.prog B.w) A s' (.builtin id) := fun s' _ => .plain fun a => by simp
  have e : reCall (mnOf nm) k xs cs = some (z, cs') := e
  cases hmn : mnOf nm with
  | search =>
    rw [hmn] at e
    obtain ⟨y, hy, e⟩ := bind_eq e
    obtain ⟨t, ht, e⟩ := bind_eq e
    obtain ⟨hk, e⟩ := if_eq e
    obtain ⟨rfl, rfl⟩ := pair_eq e
    obtain rfl := mnOf_name hmn (by decide)
    have pat : ∃ code, PatAt B.h₀ (B.reA k) code ∧ CodeOk code okSign ∧ ∀ (m : Sre.M), m.code = code → m.hasFirstSet = true := by
      match k, hk.1 with
      | 0, _ => exact ⟨_, p0, codeName_ok, first_name⟩
      | 1, _ => exact ⟨_, p1, codeValue_ok, first_value⟩
    obtain ⟨code, P, hC, h4⟩ := pat
    obtain ⟨o, fs, T, ot, ws, n', h1, h2, h3, h4', _⟩ := P.keeps K
    refine getMethod_builtin ⟨_, h1, h2⟩ plainAttrs_re slot_re_search type_re_search (fun a e => by cases e; exact ⟨_, h1, h3⟩) (hR _ keep fun o hn r hQ => ?_)
    obtain ⟨v, rfl, q⟩ := r.ofOne hy
    obtain ⟨tk, rfl, b⟩ := q.ofStr ht
    exact call_search (P.keeps o.kept) hC h4 (all_getD hk.2) (by rw [List.size_toArray]; exact Nat.lt_of_le_of_lt b (by decide)) (hQ _ _ _ _ (After.refl o) .none)
  | sub =>
    rw [hmn] at e
    obtain ⟨y, hy, e⟩ := bind_eq e
    obtain ⟨hl, e⟩ := if_eq e
    obtain ⟨t, ht, e⟩ := bind_eq e
    obtain ⟨⟨h2, hs⟩, e⟩ := if_eq e
    obtain ⟨rfl, rfl⟩ := pair_eq e
    subst h2
    obtain rfl := mnOf_name hmn (by decide)
    obtain ⟨o, fs, T, ot, ws, n', h1, h2, h3, h4', _⟩ := p2.keeps K
    refine getMethod_builtin ⟨_, h1, h2⟩ plainAttrs_re slot_re_sub type_re_sub (fun a e => by cases e; exact ⟨_, h1, h3⟩) (hR _ keep fun o hn r hQ => ?_)
    obtain ⟨v, u, rfl, q, q2⟩ := r.ofTwo hy
    rw [lam?_eq hl] at q
    obtain ⟨f, ob, rfl, g, w, c⟩ := q.inv
    obtain ⟨tk, rfl, b⟩ := q2.ofStr ht
    exact call_sub (p2.keeps o.kept) codeTwin_ok first_twin hs b g c fun h' tk' tk'' hk hs => hQ _ _ _ _ (o.grow hs hk) (.str _ _ b)
  | _ => rw [hmn] at e; cases e
end
end Ev
namespace Ev
open PySem PySem.W PyProof.Rows PySem.SeqAt
theorem lookup_filter {P a : Addr} (ha : a ≠ P) : ∀ K : Frag, (K.filter fun p => p.1 != P).lookup a = K.lookup a
  | [] => rfl
  | (b, o) :: r => by
    rw [List.filter_cons]
    by_cases hb : b = P
    · rw [if_neg (by simpa using hb), lookup_filter ha r, List.lookup_cons]
      have : (a == b) = false := by
        apply beq_false_of_ne
        exact fun e => ha (e.trans hb)
      rw [this]
    · rw [if_pos (by simpa using hb), List.lookup_cons, List.lookup_cons, lookup_filter ha r]
theorem lookup_filter_self {P : Addr} : ∀ K : Frag, (K.filter fun p => p.1 != P).lookup P = none
  | [] => rfl
  | (b, o) :: r => by
    rw [List.filter_cons]
    by_cases hb : b = P
    · rw [if_neg (by simpa using hb)]; exact lookup_filter_self r
    · rw [if_pos (by simpa using hb), List.lookup_cons]
      have : (P == b) = false := by
        apply beq_false_of_ne
        exact fun e => hb e.symm
      rw [this]; exact lookup_filter_self r
structure Lay where
  fns : List Addr
  cls : Addr
  res : List Addr
  code : Addr
  tab : Addr
noncomputable def Lay.fn (Y : Lay) (k : Nat) : Addr := (Y.fns[k]?).getD (Y.fns.headD 0)
noncomputable def Lay.K (Y : Lay) (K : Frag) : Frag := K.filter fun p => p.1 != Y.tab
noncomputable def baseOf (prog : Program) (w : World) (h : Heap) (K : Frag) (Y : Lay) (mg mb : Str → Option Value) : Base :=
  { prog, w, h₀ := h.hide Y.tab, tabs := [(Y.code, Y.tab)], ps := fun _ => #[], fnA := Y.fn, clsA := Y.cls, reA := fun k => (Y.res[k]?).getD 0, mg, mb, K := Y.K K }
noncomputable def fdIn (K : Frag) (a : Addr) : Option FuncData := match K.lookup a with
  | some ⟨_, _, .func fd, _⟩ => some fd
  | _ => none
theorem fdIn_get {K : Frag} {h : Heap} (X : K.In h) {a : Addr} {fd : FuncData} (e : fdIn K a = some fd) : ∃ o, h.get? a = some o ∧ o.data = .func fd := by
  unfold fdIn at e
  split at e
  · rename_i q; cases e; exact ⟨_, X _ _ q, rfl⟩
  · cases e
noncomputable def parsOf (p : Arguments) : List Str := p.args.map (·.arg) ++ p.kwonlyargs.map (·.arg) ++ (p.kwarg.map (·.arg)).toList
noncomputable def coreIn (K : Frag) (T : Tops) (k : Nat) (a : Addr) : Option Fn := (fdIn K a).bind fun fd => match fd.body with
  | .stmts b => some { np := fd.params.args.length, dfl := fd.params.defaults.map fun _ => AV.none, ko := !fd.params.kwonlyargs.isEmpty, kd := fd.params.kwarg.isSome, slots := (ownNames fd.scope).length, body := trSs (tr 60) 60 (T.cx k fd.scope) b }
  | .expr _ => none
noncomputable def coreAll (K : Frag) (T : Tops) : Nat → List Addr → List (Option Fn)
  | _, [] => []
  | k, a :: r => coreIn K T k a :: coreAll K T (k + 1) r
theorem coreAll_get {K : Frag} {T : Tops} {F : Fn} : ∀ {k n : Nat} {as : List Addr} {fs : List Fn}, coreAll K T n as = fs.map some → fs[k]? = some F → ∃ a, as[k]? = some a ∧ coreIn K T (n + k) a = some F
  | _, _, [], [], _, e => by simp at e
  | _, _, [], _ :: _, h, _ => by simp [coreAll] at h
  | _, _, _ :: _, [], h, _ => by simp [coreAll] at h
  | 0, n, a :: as, f :: fs, h, e => by
    simp only [coreAll, List.map_cons, List.cons.injEq] at h
    simp at e; subst e
    exact ⟨a, rfl, h.1⟩
  | k + 1, n, a :: as, f :: fs, h, e => by
    simp only [coreAll, List.map_cons, List.cons.injEq] at h
    obtain ⟨b, h1, h2⟩ := coreAll_get (k := k) h.2 (by simpa using e)
    exact ⟨b, by simpa using h1, by rw [show n + (k + 1) = n + 1 + k by omega]; exact h2⟩
noncomputable def codeRecIn (K : Frag) (cd : Value) (q : Str) : Bool := match cd with
  | .ref c => (match K.lookup c with
    | some ⟨_, _, .fields vs, _⟩ => (match (vs[1]? : Option Value) with
      | some (Value.str x _) => x == q
      | _ => false)
    | _ => false)
  | _ => false
theorem codeRecIn_of {K : Frag} {h : Heap} (X : K.In h) {cd : Value} {q : Str} (e : codeRecIn K cd q = true) : h.CodeRec cd q := by
  unfold codeRecIn at e
  split at e
  · split at e
    · rename_i q'
      split at e
      · rename_i hv
        rw [beq_iff_eq] at e; subst e
        exact ⟨_, _, _, _, rfl, X _ _ q', rfl, hv⟩
      · cases e
    · cases e
  · cases e
noncomputable def isRef (v : Value) (a : Addr) : Bool := match v with
  | .ref b => b == a
  | _ => false
theorem isRef_eq {v : Value} {a : Addr} (h : isRef v a = true) : v = .ref a := by
  unfold isRef at h
  split at h
  · rw [beq_iff_eq] at h; rw [h]
  · cases h
noncomputable def defIn (K : Frag) (lams : List Nat) (code : Addr) (k : Nat) (fd : FuncData) : Bool :=
  fd.scope.kind == .function && (!fd.scope.isCoroutine && (!fd.scope.isGenerator && (fd.closure.isEmpty && (fd.globals == mainGlobals && (fd.builtins == builtinsNs && (decide ((fd.scope.names.map (·.1)).Nodup) &&
    (fd.scope.names.all (fun p => p.2 != .free) && (decide (((ownP fd.scope).map (·.1)).take (parsOf fd.params).length = parsOf fd.params) && (codeRecIn K fd.code fd.qualname && (!lams.contains k || isRef fd.code code))))))))))
noncomputable def defsIn (K : Frag) (lams : List Nat) (code : Addr) : Nat → List Addr → Bool
  | _, [] => true
  | k, a :: r => (fdIn K a).any (defIn K lams code k) && defsIn K lams code (k + 1) r
theorem defsIn_get {K : Frag} {lams : List Nat} {code : Addr} : ∀ {k n : Nat} {as : List Addr} {a : Addr}, defsIn K lams code n as = true → as[k]? = some a → (fdIn K a).any (defIn K lams code (n + k)) = true
  | _, _, [], _, _, e => by simp at e
  | 0, n, a :: as, b, h, e => by
    simp only [defsIn, Bool.and_eq_true] at h
    simp at e; subst e; exact h.1
  | k + 1, n, a :: as, b, h, e => by
    simp only [defsIn, Bool.and_eq_true] at h
    have := defsIn_get (k := k) h.2 (by simpa using e)
    rw [show n + (k + 1) = n + 1 + k by omega]; exact this
noncomputable def fdD (K : Frag) (a : Addr) : FuncData := (fdIn K a).getD default
noncomputable def BindP (K : Frag) (S : Setting) (fd : FuncData) (np d : Nat) : Prop := ∀ vs : List Value, vs.length ≤ np → np ≤ vs.length + d → peek K S (bindArgs fd ⟨vs, []⟩) = some ((parsOf fd.params).zip (vs ++ List.replicate (np - vs.length) Value.none))
noncomputable def BindN (K : Frag) (S : Setting) (fd : FuncData) (np : Nat) : Prop := ∀ (vs : List Value) (v : Value), vs.length = np → peek K S (bindArgs fd ⟨vs, [("name", v)]⟩) = some ((parsOf fd.params).zip (vs ++ [v]))
noncomputable def BindD (fd : FuncData) (np : Nat) : Prop := ∀ vs : List Value, vs.length = np → bindArgs fd ⟨vs, []⟩ = (do let d ← alloc { cls := .type "dict", data := .dict #[] }; pure ((parsOf fd.params).zip (vs ++ [.ref d])))
noncomputable def BindK (K : Frag) (S : Setting) (fd : FuncData) (F : Fn) : Prop := match F.ko, F.kd with
  | false, false => BindP K S fd F.np F.dfl.length
  | true, false => BindN K S fd F.np
  | false, true => BindD fd F.np
  | true, true => False
noncomputable def BindsK (K : Frag) (S : Setting) : List FuncData → List Fn → Prop
  | [], _ => True
  | _, [] => True
  | a :: as, F :: fs => BindK K S a F ∧ BindsK K S as fs
theorem BindsK.get {K : Frag} {S : Setting} {a : FuncData} {F : Fn} : ∀ {k : Nat} {as : List FuncData} {fs : List Fn}, BindsK K S as fs → as[k]? = some a → fs[k]? = some F → BindK K S a F
  | _, [], _, _, e, _ => by simp at e
  | _, _ :: _, [], _, _, e => by simp at e
  | 0, a :: as, f :: fs, h, e1, e2 => by
    simp at e1 e2; subst e1 e2; exact h.1
  | k + 1, a :: as, f :: fs, h, e1, e2 => BindsK.get (k := k) h.2 (by simpa using e1) (by simpa using e2)
noncomputable abbrev Shape := Arguments × Value × Value
noncomputable def shp (fd : FuncData) : Shape := (fd.params, fd.defaults, fd.kwdefaults)
theorem shp_eq {fd : FuncData} {p : Arguments} {d k : Value} (e : shp fd = (p, d, k)) : fd = { fd with params := p, defaults := d, kwdefaults := k } := by
  cases e; rfl
noncomputable def BindS (K : Frag) (S : Setting) (x : Shape) (F : Fn) : Prop := ∀ fd : FuncData, BindK K S { fd with params := x.1, defaults := x.2.1, kwdefaults := x.2.2 } F
noncomputable def BindsS (K : Frag) (S : Setting) : List Shape → List Fn → Prop
  | [], _ => True
  | _, [] => True
  | a :: as, F :: fs => BindS K S a F ∧ BindsS K S as fs
theorem BindsS.toK {K : Frag} {S : Setting} : ∀ {xs : List Shape} {fds : List FuncData} {fs : List Fn}, BindsS K S xs fs → fds.map shp = xs → BindsK K S fds fs
  | _, [], _, _, _ => trivial
  | _, _ :: _, [], _, _ => trivial
  | [], _ :: _, _ :: _, _, e => by cases e
  | x :: xs, fd :: fds, F :: fs, h, e => by
    have e' := List.cons.inj (show shp fd :: fds.map shp = x :: xs from e)
    refine ⟨?_, h.2.toK e'.2⟩
    rw [shp_eq e'.1]; exact h.1 fd
theorem nones_rel {B : Base} {h : Heap} {W : Addr → Prop} {ρ : List Addr} : ∀ n : Nat, VRels B h W ρ (List.replicate n AV.none) (List.replicate n Value.none)
  | 0 => .nil
  | n + 1 => .cons .none (nones_rel n)
theorem drop_rep {α : Type} (x : α) (m n : Nat) : (List.replicate m x).drop (m - n) = List.replicate (m - (m - n)) x := by rw [List.drop_replicate]
theorem bindOk_of {B : Base} {K : Frag} {a : Addr} {F : Fn} {fd : FuncData} {T : Tops} {k : Nat} (hf : fdIn K a = some fd) (hc : coreIn K T k a = some F) {K2 : Frag} (X2 : ∀ h, Kept B h → K2.In h) (hb : BindK K2 ⟨B.prog, B.w.params⟩ fd F) (h1 : F.ko = true → fd.params.kwonlyargs.length = 1 ∧ fd.params.kwarg = none ∧ F.dfl = [])
    (h2 : F.kd = true → fd.params.kwonlyargs = [] ∧ fd.params.defaults = []) (h3 : fd.params.kwonlyargs.isEmpty = true ∨ F.ko = true) : BindOk B F fd (parsOf fd.params) := by
  unfold coreIn at hc
  rw [hf] at hc
  simp only [Option.bind_some] at hc
  split at hc
  · rename_i body _
    have hF := Option.some.inj hc
    clear hc
    have hnp : F.np = fd.params.args.length := by rw [← hF]
    have hdf : F.dfl = List.replicate fd.params.defaults.length AV.none := by rw [← hF]; exact List.map_const' ..
    have hko : F.ko = !fd.params.kwonlyargs.isEmpty := by rw [← hF]
    have hkd : F.kd = fd.params.kwarg.isSome := by rw [← hF]
    have hlen : F.dfl.length = fd.params.defaults.length := by rw [hdf, List.length_replicate]
    have plen : (parsOf fd.params).length = F.np + fd.params.kwonlyargs.length + (if F.kd then 1 else 0) := by
      unfold parsOf
      rw [List.length_append, List.length_append, List.length_map, List.length_map, hnp, hkd]
      cases fd.params.kwarg <;> rfl
    unfold BindK at hb
    split at hb
    · rename_i e1 e2
      have hk0 : fd.params.kwonlyargs = [] := by
        rw [e1] at hko
        simpa using hko
      refine @bindOk_plain B F fd (parsOf fd.params) e1 e2 (List.replicate fd.params.defaults.length Value.none) (fun h W ρ => by rw [hdf]; exact nones_rel _) (by rw [plen, hk0, e2]; simp) fun vs s l1 l2 kp A E Q hq => ?_
      have hb := hb vs l1 l2
      have hz : vs ++ List.replicate (F.np - vs.length) Value.none = vs ++ (List.replicate fd.params.defaults.length Value.none).drop ((List.replicate fd.params.defaults.length Value.none).length - (F.np - vs.length)) := by
        rw [List.length_replicate, List.drop_replicate]
        congr 2
        rw [hlen] at l2
        exact (Nat.sub_sub_self (Nat.sub_le_iff_le_add'.mpr l2)).symm
      rw [← hz] at hq
      exact (Looks.of_peek (M := model B.prog B.w) (X2 _ kp) hb).here hq
    · rename_i e1 e2
      obtain ⟨g1, g2, g3⟩ := h1 e1
      refine @bindOk_kw B F fd (parsOf fd.params) e1 e2 g3 (by rw [plen, g1, e2]; simp) fun vs v s l kp A E Q hq => ?_
      have hb := hb vs v l
      exact (Looks.of_peek (M := model B.prog B.w) (X2 _ kp) hb).here hq
    · rename_i e1 e2
      obtain ⟨g1, g2⟩ := h2 e2
      refine @bindOk_kd B F fd (parsOf fd.params) e1 e2 (by rw [hdf, g2]; rfl) (by rw [plen, g1, e2]; simp) fun vs l => ?_
      have hb := hb vs l
      exact hb
    · exact hb.elim
  · cases hc
end Ev
namespace Ev
open PySem PySem.W PyProof.Rows PySem.SeqAt
noncomputable def patIn (K : Frag) (P : Addr) (code : Array Nat) : Bool := match K.lookup P with
  | some ⟨.type c, none, .fields fs, _⟩ => c == "re.Pattern" && (Builtin.Re.reRawNat (fs.getD 6 .none) == 0 && (match fs.getD 5 .none with
    | .ref T => (match K.lookup T with
      | some ⟨_, _, .seq ws _, _⟩ => decide ((ws.map Builtin.Re.reRawOf).map (·.toNat) = code)
      | _ => false)
    | _ => false))
  | _ => false
theorem patIn_of {K : Frag} {h : Heap} (X : K.In h) {P : Addr} {code : Array Nat} (e : patIn K P code = true) : PatAt h P code := by
  unfold patIn at e
  split at e
  · rename_i c fs sl q
    simp only [Bool.and_eq_true, beq_iff_eq] at e
    obtain ⟨rfl, h6, e⟩ := e
    split at e
    · rename_i T hT
      split at e
      · rename_i q2
        exact ⟨_, fs, T, _, _, _, X _ _ q, rfl, rfl, rfl, hT, h6, X _ _ q2, rfl, of_decide_eq_true e⟩
      · cases e
    · cases e
  · cases e
noncomputable def codeIn (K : Frag) (c P : Addr) : Bool := match K.lookup c with
  | some ⟨.type n, _, .fields vs, _⟩ => n == "code" && (decide (c ≠ P) && ((match (vs[11]? : Option Value) with
      | some v => isRef v P
      | none => false) && ((match (vs.getD 18 .none : Value) with
      | .str _ _ => true
      | _ => false) && ((match (vs.getD 7 .none : Value) with
      | .int _ _ => true
      | _ => false) && ((match (vs.getD 9 .none : Value) with
      | .bool _ => true
      | _ => false) && (match (vs.getD 10 .none : Value) with
      | .int _ _ => true
      | _ => false))))))
  | _ => false
theorem codeIn_of {K : Frag} {h : Heap} (X : K.In h) {c P : Addr} (e : codeIn K c P = true) : CodeHd h c P ∧ isCodeTable h P := by
  unfold codeIn at e
  split at e
  · rename_i n d vs sl q
    simp only [Bool.and_eq_true, beq_iff_eq, decide_eq_true_eq] at e
    obtain ⟨rfl, hne, h11, h18, h7, h9, h10⟩ := e
    split at h11
    · rename_i v hv
      have hv' := isRef_eq h11
      subst hv'
      split at h18
      · rename_i f tf e18
        split at h7
        · rename_i i ti e7
          split at h9
          · rename_i b e9
            split at h10
            · rename_i j tj e10
              have e11 : vs.getD 11 .none = .ref P := by
                rw [Array.getD_eq_getD_getElem?, hv]; rfl
              exact ⟨⟨_, vs, f, tf, i, ti, b, j, tj, X _ _ q, rfl, rfl, hv, e11, e18, e7, e9, e10, hne⟩, ⟨c, _, vs, X _ _ q, rfl, rfl, hv⟩⟩
            · cases h10
          · cases h9
        · cases h7
      · cases h18
    · cases h11
  · cases e
noncomputable def tabIn (K : Frag) (P : Addr) : Bool := match K.lookup P with
  | some ⟨.none, none, .fields fs, sl⟩ => fs.isEmpty && sl.isEmpty
  | _ => false
theorem tabIn_of {K : Frag} {h : Heap} (X : K.In h) {P : Addr} (e : tabIn K P = true) : h.get? P = some (tabObj #[]) := by
  unfold tabIn at e
  split at e
  · rename_i fs sl q
    simp only [Bool.and_eq_true, Array.isEmpty_iff] at e
    obtain ⟨rfl, rfl⟩ := e
    exact X _ _ q
  · cases e
noncomputable def globIn (K : Frag) (t : Tx) : Option Value := match nsIn K mainGlobals ⟨t.toArray⟩ with
  | some (some v) => some v
  | some none => if (⟨t.toArray⟩ : Str) = "__name__" then none else bootBuiltins ⟨t.toArray⟩
  | none => none
noncomputable def globV (Y : Lay) : AV → Option Value
  | .fn n => some (.ref (Y.fn n))
  | .cls => some (.ref Y.cls)
  | .re n => some (.ref ((Y.res[n]?).getD 0))
  | .bi b => some (.builtin (bfS b))
  | .ty t => some (.type (tyS t))
  | _ => none
theorem globV_rel {prog : Program} {w : World} {h' : Heap} {K : Frag} {Y : Lay} {mg mb : Str → Option Value} {x : AV} {v : Value} (e : globV Y x = some v) (h : Heap) (W : Addr → Prop) (ρ : List Addr) : VRel (baseOf prog w h' K Y mg mb) h W ρ x v := by
  cases x <;> first
    | (cases e; first | exact .fn _ | exact .cls | exact .re _ | exact .bi _ | exact .ty _)
    | (cases e)
theorem ns_hide {h : Heap} {P a : Addr} {m : Str → Option Value} (n : h.Ns a m) (hP : h.get? P = some (tabObj #[])) : (h.hide P).Ns a m := by
  obtain ⟨o, es, ep, e, hd, r⟩ := n
  have : a ≠ P := fun q => by rw [q, hP] at e; cases e; cases hd
  exact ⟨o, es, ep, (Heap.hide_ne h this).trans e, hd, r⟩
section
variable {prog : Program} {w : World} {h : Heap} {K : Frag} {Y : Lay} {mg mb : Str → Option Value} {P : Prog} {T : Tops}
structure Checks (K K2 : Frag) (S : Setting) (Y : Lay) (P : Prog) (T : Tops) : Prop where
  tab : tabIn K Y.tab = true
  code : codeIn K Y.code Y.tab = true
  core : coreAll (Y.K K) T 0 Y.fns = P.fs.map some
  defs : defsIn (Y.K K) T.lams Y.code 0 Y.fns = true
  binds : BindsK K2 S (Y.fns.map (fdD (Y.K K))) P.fs
  sub : ∀ a o, K2.lookup a = Option.some o → (Y.K K).lookup a = Option.some o
  kws : (P.fs.zip Y.fns).all (fun p => (!p.1.ko || ((fdD (Y.K K) p.2).params.kwonlyargs.length == 1 && ((fdD (Y.K K) p.2).params.kwarg.isNone && p.1.dfl.isEmpty))) && (!p.1.kd || ((fdD (Y.K K) p.2).params.kwonlyargs.isEmpty && (fdD (Y.K K) p.2).params.defaults.isEmpty))) = true
  globs : T.globs.map (fun p => globIn K p.1) = T.globs.map (fun p => globV Y p.2)
  some : (T.globs.all fun p => (globV Y p.2).isSome) = true
  re0 : patIn (Y.K K) ((Y.res[0]?).getD 0) codeName = true
  re1 : patIn (Y.K K) ((Y.res[1]?).getD 0) codeValue = true
  re2 : patIn (Y.K K) ((Y.res[2]?).getD 0) codeTwin = true
  pos : 0 < Y.fns.length
theorem progOk_of (X : K.In h) {K2 : Frag} (C : Checks K K2 ⟨prog, w.params⟩ Y P T) (G : h.Ns mainGlobals mg) (Gb : h.Ns builtinsNs mb) (lim : h.NoLimit) (hmb : ∀ x : Str, x ≠ "__name__" → mb x = bootBuiltins x) (hsz : sysModules < h.objs.size)
    (bm : ∃ bm ob, mg "__builtins__" = Option.some (.ref bm) ∧ bm ≠ builtinsNs ∧ h.get? bm = Option.some ob ∧ ob.cls = .type "module" ∧ ob.dict = Option.some builtinsNs ∧ ob.data = .plain)
    (cls : ClsOk (baseOf prog w h K Y mg mb) P T.meths) : ProgOk (baseOf prog w h K Y mg mb) P T := by
  have hP := tabIn_of X C.tab
  have XK : (Y.K K).In (h.hide Y.tab) := fun a o e => by
    by_cases ha : a = Y.tab
    · subst ha; unfold Lay.K at e; rw [lookup_filter_self] at e; cases e
    · unfold Lay.K at e; rw [lookup_filter ha] at e
      rw [Heap.hide_ne h ha]; exact X _ _ e
  have S : Stat (baseOf prog w h K Y mg mb) := by
    obtain ⟨mc, l1, l2⟩ := lim
    exact ⟨by show sysModules < (h.hide Y.tab).objs.size; rw [Heap.hide_size]; exact hsz, ns_hide G hP, ns_hide Gb hP, ⟨mc, ns_hide l1 hP, l2⟩, XK⟩
  have kept : ∀ h', Kept (baseOf prog w h K Y mg mb) h' → (Y.K K).In h' := fun h' k => Frag.In.keeps XK k
  obtain ⟨cd, tb⟩ := codeIn_of X C.code
  have cd' : CodeHd (h.hide Y.tab) Y.code Y.tab := by
    obtain ⟨o, vs, f, tf, i, ti, b, j, tj, e, r⟩ := cd
    have hne : Y.code ≠ Y.tab := r.2.2.2.2.2.2.2.2
    exact ⟨o, vs, f, tf, i, ti, b, j, tj, (Heap.hide_ne h hne).trans e, r⟩
  have fnAt : ∀ {k : Nat} {F : Fn}, P.fs[k]? = Option.some F → ∃ fd, fdIn (Y.K K) (Y.fn k) = Option.some fd ∧ coreIn (Y.K K) T k (Y.fn k) = Option.some F ∧ defIn (Y.K K) T.lams Y.code k fd = true ∧ Y.fns[k]? = Option.some (Y.fn k) := by
    intro k F hF
    obtain ⟨a, ha, hc⟩ := coreAll_get C.core hF
    rw [Nat.zero_add] at hc
    have e : Y.fn k = a := by unfold Lay.fn; rw [ha]; rfl
    have hd := defsIn_get C.defs ha
    rw [Nat.zero_add] at hd
    rw [e]
    cases hf : fdIn (Y.K K) a with
    | none => rw [hf] at hd; cases hd
    | some fd => rw [hf] at hd; exact ⟨fd, rfl, hc, hd, ha⟩
  refine { S := S, C := cls, defs := fun {k F} hF => ?_, glob := fun p hp => ?_, fnObj := fun k => ?_, reM := fun h1 h2 => ?_ }
  · obtain ⟨fd, hf, hc, hd, hk⟩ := fnAt hF
    have hbk := C.binds.get (by rw [List.getElem?_map, hk]; rfl) hF
    have hkw := List.all_eq_true.mp C.kws (F, Y.fn k) (List.mem_of_getElem? (List.getElem?_zip_eq_some.mpr ⟨hF, hk⟩))
    have hfd : fdD (Y.K K) (Y.fn k) = fd := by unfold fdD; rw [hf]; rfl
    simp only [hfd, Bool.and_eq_true, Bool.or_eq_true, Bool.not_eq_true', beq_iff_eq] at hkw
    have hb : BindOk (baseOf prog w h K Y mg mb) F fd (parsOf fd.params) := by
      refine bindOk_of (B := baseOf prog w h K Y mg mb) hf hc (fun h' k => fun a o e => kept h' k a o (C.sub a o e)) (hfd ▸ hbk) (fun e => ?_) (fun e => ?_) ?_
      · rcases hkw.1 with q | q
        · rw [e] at q; cases q
        · exact ⟨q.1, Option.isNone_iff_eq_none.mp q.2.1, List.isEmpty_iff.mp q.2.2⟩
      · rcases hkw.2 with q | q
        · rw [e] at q; cases q
        · exact ⟨List.isEmpty_iff.mp q.1, List.isEmpty_iff.mp q.2⟩
      · unfold coreIn at hc
        rw [hf] at hc
        simp only [Option.bind_some] at hc
        split at hc
        · have := Option.some.inj hc
          rw [← this]
          simp only [Bool.not_eq_true']
          cases fd.params.kwonlyargs.isEmpty <;> simp
        · cases hc
    unfold coreIn at hc
    rw [hf] at hc
    simp only [Option.bind_some] at hc
    split at hc
    · rename_i body hbody
      have hFe := Option.some.inj hc
      unfold defIn at hd
      simp only [Bool.and_eq_true, Bool.or_eq_true, Bool.not_eq_true', beq_iff_eq, decide_eq_true_eq, List.isEmpty_iff] at hd
      obtain ⟨d1, d2, d3, d4, d5, d6, d7, d8, d9, d10, d11⟩ := hd
      have hpl : (parsOf fd.params).length ≤ (ownP fd.scope).length := by
        have := congrArg List.length d9
        rw [List.length_take, List.length_map] at this
        omega
      refine ⟨fd, body, parsOf fd.params, { ob := fdIn_get XK hf, text := hbody, code := fun h' k' => codeRecIn_of (kept h' k') d10, kind := d1, co := d2, gen := d3, clo := d4, glo := d5, bui := d6, nd := d7, free := fun p hp e => ?_, tr := ⟨60, 60, by rw [← hFe]⟩, slots := by rw [← hFe]; show (ownNames fd.scope).length = _; rw [ownNames_eq, List.length_map], par := ?_, plen := hpl, lam := fun q A L => ?_ }, hb⟩
      · have := List.all_eq_true.mp d8 p hp
        rw [e] at this; cases this
      · rw [List.map_drop]
        conv => rhs; lhs; rw [← d9]
        rw [List.take_append_drop]
      · rcases d11 with q' | q'
        · rw [q] at q'; cases q'
        · refine lam_hook (B := baseOf prog w h K Y mg mb) (P := Y.tab) (c := Y.code) S (List.mem_singleton.mpr rfl) cd' ?_ d5 (isRef_eq q')
          obtain ⟨bm, ob, b1, b2, b3, b4, b5, b6⟩ := bm
          refine ⟨bm, ob, b1, b2, (Heap.hide_ne h fun q => ?_).trans b3, b4, b5, b6⟩
          rw [q, hP] at b3; cases b3; cases b4
    · cases hc
  · have hs := List.all_eq_true.mp C.some p hp
    obtain ⟨v, hv⟩ := Option.isSome_iff_exists.mp hs
    have hg : globIn K p.1 = globV Y p.2 := by
      have := C.globs
      obtain ⟨i, hi, rfl⟩ := List.mem_iff_getElem.mp hp
      have h1 := congrArg (fun l => l[i]?) this
      simpa [hi] using h1
    rw [hv] at hg
    refine ⟨v, globV_rel hv, ?_⟩
    unfold globIn at hg
    show mg _ = _ ∨ (mg _ = _ ∧ mb _ = _)
    split at hg
    · rename_i u hn
      cases hg
      exact .inl (mg_of X G hn)
    · rename_i hn
      split at hg
      · cases hg
      · rename_i hne
        exact .inr ⟨mg_none_of X G hn, by rw [hmb _ hne, hg]⟩
    · cases hg
  · have at0 : ∃ o fd, (h.hide Y.tab).get? (Y.fn k) = Option.some o ∧ o.data = .func fd := by
      have hd : ∃ j : Nat, Y.fns[j]? = Option.some (Y.fn k) := by
        unfold Lay.fn
        cases hk : Y.fns[k]? with
        | some a => exact ⟨k, hk⟩
        | none =>
          refine ⟨0, ?_⟩
          have := C.pos
          cases hl : Y.fns with
          | nil => rw [hl] at this; simp at this
          | cons a r => rfl
      obtain ⟨j, hj⟩ := hd
      have := defsIn_get C.defs hj
      cases hf : fdIn (Y.K K) (Y.fn k) with
      | none => rw [hf] at this; cases this
      | some fd => obtain ⟨o, g, e⟩ := fdIn_get XK hf; exact ⟨o, fd, g, e⟩
    exact at0
  · intro nm k cs xs z cs' n hm e s pl R E K' hR
    exact reM_of (B := baseOf prog w h K Y mg mb) (patIn_of XK C.re0) (patIn_of XK C.re1) (patIn_of XK C.re2) hm e K' hR
end
end Ev
namespace Ev
open PySem PySem.W PyProof.Rows PySem.SeqAt
noncomputable def MethsOk (K : Frag) (cls : Addr) (fnA : Nat → Addr) : List (Tx × Nat) → Prop
  | [] => True
  | (t, k) :: r => (findIn K (.ref cls) ⟨t.toArray⟩ = some (some (.ref (fnA k))) ∧ typeIn K (.ref (fnA k)) = some (.type "function")) ∧ MethsOk K cls fnA r
theorem MethsOk.get {K : Frag} {cls : Addr} {fnA : Nat → Addr} : ∀ {M : List (Tx × Nat)} {t : Tx} {k : Nat}, MethsOk K cls fnA M → M.lookup t = some k → findIn K (.ref cls) ⟨t.toArray⟩ = some (some (.ref (fnA k))) ∧ typeIn K (.ref (fnA k)) = some (.type "function")
  | [], _, _, _, e => by cases e
  | (a, b) :: r, t, k, h, e => by
    rw [List.lookup_cons] at e
    split at e
    · rename_i q
      cases e; rw [beq_iff_eq.mp q]; exact h.1
    · exact h.2.get e
theorem script_rel {B : Base} {h : Heap} {W : Addr → Prop} {ρ : List Addr} : ∀ {vs : List Value} {ns : List Int}, IntsAre vs ns → VRels B h W ρ (ns.map AV.int) vs
  | _, _, .nil => .nil
  | _, _, .cons n t r => .cons (.int n t) (script_rel r)
theorem room_caller (k : Nat) (h : k ≤ 100) : Room callerA k := ⟨rfl, by show 301 + 4 * k + 8 < 1000; omega, by show 4 + 8 * k + 64 < 9900; omega⟩
section
variable {prog : Program} {w : World} {K : Frag} {Y : Lay} {mg mb : Str → Option Value} {P : Prog} {T : Tops} {s₁ : Shared}
theorem law_top (X : K.In s₁.heap) {K2 : Frag} (C : Checks K K2 ⟨prog, w.params⟩ Y P T) (G : s₁.heap.Ns mainGlobals mg) (Gb : s₁.heap.Ns builtinsNs mb) (lim' : s₁.heap.NoLimit) (hmb : ∀ x : Str, x ≠ "__name__" → mb x = bootBuiltins x) (hsz : sysModules < s₁.heap.objs.size)
    (bm : ∃ bm ob, mg "__builtins__" = Option.some (.ref bm) ∧ bm ≠ builtinsNs ∧ s₁.heap.get? bm = Option.some ob ∧ ob.cls = .type "module" ∧ ob.dict = Option.some builtinsNs ∧ ob.data = .plain)
    (cls : ClsOk (baseOf prog w s₁.heap K Y mg mb) P T.meths) (hgens : s₁.gens = #[])
    {a : Addr} {vs : List Value} {ns : List Int} (l : s₁.heap.PlainList a vs.toArray) (hI : IntsAre vs ns) (hlen : ns.length ≤ 63) {k lawN : Nat} (hk : k ≤ 100)
    (hrun : ∃ cs', (callAt P k).cf lawN [.lst (ns.map AV.int)] none [] = some (.bool true, cs')) {Q E : Value → Shared → Prop}
    (hQ : ∀ s', OldK s₁.heap s'.heap → s'.os = s₁.os → AllBare s'.gens → Q (.bool true) s') : wpAny (model prog w) callerA (call (.ref (Y.fn lawN)) [.ref a]) Q E s₁ := by
  obtain ⟨cs', hrun⟩ := hrun
  have O := progOk_of X C G Gb lim' hmb hsz bm cls
  have R := rx_all O k callerA (room_caller k hk)
  have hP := tabIn_of X C.tab
  have hm : Mem (baseOf prog w s₁.heap K Y mg mb) (fun a => a = Y.tab) [] [] s₁.heap :=
    ⟨rfl, fun i o a e _ => by simp at e, List.nodup_nil, fun a ha => by simp at ha, fun a ha => ha ▸ Heap.lt_size hP, fun b o e => ⟨Heap.of_hide e, fun q => by
        rw [q] at e
        have e : (s₁.heap.hide Y.tab).get? Y.tab = some o := e
        rw [Heap.hide_self] at e; cases e⟩,
      fun p hp => by
        rcases List.mem_singleton.mp hp with rfl
        exact ⟨⟨#[], hP, trivial, #[], rfl⟩, rfl, by show Y.tab < (s₁.heap.hide Y.tab).objs.size; rw [Heap.hide_size]; exact Heap.lt_size hP⟩,
      by show (s₁.heap.hide Y.tab).objs.size ≤ _; rw [Heap.hide_size]; exact Nat.le_refl _⟩
  have ok : Ok (baseOf prog w s₁.heap K Y mg mb) (fun a => a = Y.tab) [] [] s₁ := ⟨hm, .of_eq hgens⟩
  have ha : ¬ a = Y.tab := fun q => by
    obtain ⟨n, l⟩ := l
    rw [q, hP] at l; cases l
  refine R.call hrun (Nat.le_refl 0) ok (.cons (.lst l (by rw [List.length_map]; have : lim = 100000 := rfl; omega) ha (script_rel hI)) .nil) .none fun v W' ρ' s' af rv => ?_
  cases rv
  refine hQ s' ⟨fun b o e => ?_, fun b o e => ?_⟩ af.os af.ok.gens
  · by_cases hb : b = Y.tab
    · subst hb
      rw [hP] at e; cases e
      obtain ⟨⟨ps, h1, h2, more, h3⟩, _⟩ := af.ok.mem.tab (Y.code, Y.tab) (List.mem_singleton.mpr rfl)
      exact .inr (.inl ⟨(codeIn_of X C.code).2, rfl, #[], more, rfl, by rw [h1, h3]; rfl⟩)
    · exact .inl (af.ok.mem.base b o ((Heap.hide_ne s₁.heap hb).trans e)).1
  · by_cases hb : b = Y.tab
    · subst hb
      obtain ⟨⟨ps, h1, _⟩, _⟩ := af.ok.mem.tab (Y.code, Y.tab) (List.mem_singleton.mpr rfl)
      exact ⟨_, h1⟩
    · exact ⟨o, (af.ok.mem.base b o ((Heap.hide_ne s₁.heap hb).trans e)).1⟩
theorem good_true {c : ClaimW} {cl : Str → Option Addr} {mean : ExcName → Option Value} {args : List WData} {s' : Shared} (hr : ∀ cls, c.raises args cls = false) (hp : c.post args (.bool true) args = true) (h1 : OldK s₁.heap s'.heap) (h2 : s'.os = s₁.os) (h3 : AllBare s'.gens) :
    GoodWG c cl mean args s₁ (.ok (.ret (.bool true))) s' :=
  ⟨.inl ⟨_, _, [], rfl, hr, ReadsW.bool true, hp, fun _ => ⟨List.nodup_nil, fun _ hm => (nomatch hm)⟩⟩, h1, h2, h3⟩
end
end Ev
namespace Ev
open PySem PySem.W PyProof.Rows PySem.SeqAt
noncomputable def fragOf (h : Heap) (as : List Addr) : Frag := as.filterMap fun a => (h.get? a).map fun o => (a, o)
theorem lookup_frag {h : Heap} : ∀ {l : List Nat} {a : Addr} {o : Obj}, (l.filterMap fun a => (h.get? a).map fun o => (a, o)).lookup a = some o → h.get? a = some o
  | [], _, _, e => by cases e
  | b :: r, a, o, e => by
    rw [List.filterMap_cons] at e
    cases hb : h.get? b with
    | none => rw [hb] at e; exact lookup_frag e
    | some x =>
      rw [hb] at e
      simp only [Option.map_some, List.lookup_cons] at e
      split at e
      · rename_i q
        cases e; rw [beq_iff_eq.mp q]; exact hb
      · exact lookup_frag e
theorem fragOf_in (h : Heap) (as : List Addr) : (fragOf h as).In h := fun _ _ e => lookup_frag e
structure Sight where
  Y : Lay
  P : Prog
  T : Tops
  law : Str
  lawA : Addr
  shapes : List Shape
  K2 : Frag
  as : List Addr
noncomputable def clsNames : List Str := ["__getattribute__", "__getattr__", headersStr, "__setattr__", "__setitem__", "__delitem__", "__init__"]
noncomputable def obsE (Z : Sight) (s : Shared) :=
  let K := fragOf s.heap Z.as
  let J := Z.Y.K K
  ([tabIn K Z.Y.tab, codeIn K Z.Y.code Z.Y.tab, defsIn J Z.T.lams Z.Y.code 0 Z.Y.fns,
    (Z.P.fs.zip Z.Y.fns).all (fun p => (!p.1.ko || ((fdD J p.2).params.kwonlyargs.length == 1 && ((fdD J p.2).params.kwarg.isNone && p.1.dfl.isEmpty))) && (!p.1.kd || ((fdD J p.2).params.kwonlyargs.isEmpty && (fdD J p.2).params.defaults.isEmpty))),
    patIn J ((Z.Y.res[0]?).getD 0) codeName, patIn J ((Z.Y.res[1]?).getD 0) codeValue, patIn J ((Z.Y.res[2]?).getD 0) codeTwin,
    (clsIn J Z.Y.cls).any (·.hasDict), plainOver J Z.Y.cls, noSeq J Z.Y.cls, makesIn J Z.Y.cls, Nat.blt sysModules s.heap.objs.size],
   coreAll J Z.T 0 Z.Y.fns, Z.T.globs.map (fun p => globIn K p.1),
   Z.T.meths.map (fun p => (findIn J (.ref Z.Y.cls) ⟨p.1.toArray⟩, typeIn J (.ref (Z.Y.fn p.2)))),
   clsNames.map (fun n => findIn J (.ref Z.Y.cls) n), [Z.P.setN, Z.P.delN, Z.P.initN].map (fun k => typeIn J (.ref (Z.Y.fn k))),
   Z.Y.fns.map (fun a => shp (fdD J a)), Z.K2.map (fun p => J.lookup p.1), nsIn K mainGlobals Z.law)
noncomputable def valE (Z : Sight) :=
  ([true, true, true, true, true, true, true, true, true, true, true, true],
   Z.P.fs.map some, Z.T.globs.map (fun p => globV Z.Y p.2),
   Z.T.meths.map (fun p => (some (some (Value.ref (Z.Y.fn p.2))), some (Value.type "function"))),
   [some (some (Value.builtin "object.__getattribute__")), some none, some none, some (some (.builtin "object.__setattr__")), some (some (.ref (Z.Y.fn Z.P.setN))), some (some (.ref (Z.Y.fn Z.P.delN))), some (some (.ref (Z.Y.fn Z.P.initN)))],
   [some (Value.type "function"), some (.type "function"), some (.type "function")],
   Z.shapes, Z.K2.map (fun p => some p.2), some (some (Value.ref Z.lawA)))
theorem sub_of {K J : Frag} (e : K.map (fun p => J.lookup p.1) = K.map (fun p => some p.2)) : ∀ a o, K.lookup a = some o → J.lookup a = some o := by
  induction K with
  | nil => intro a o h; cases h
  | cons p r ih =>
    intro a o h
    rw [List.map_cons, List.map_cons, List.cons.injEq] at e
    rw [show p = (p.1, p.2) from rfl, List.lookup_cons] at h
    split at h
    · rename_i q
      cases h; rw [beq_iff_eq.mp q]; exact e.1
    · exact ih e.2 a o h
theorem meths_of {K : Frag} {cls : Addr} {fnA : Nat → Addr} : ∀ {M : List (Tx × Nat)}, M.map (fun p => (findIn K (.ref cls) ⟨p.1.toArray⟩, typeIn K (.ref (fnA p.2)))) = M.map (fun p => (some (some (Value.ref (fnA p.2))), some (Value.type "function"))) → MethsOk K cls fnA M
  | [], _ => trivial
  | p :: r, e => by
    rw [List.map_cons, List.map_cons, List.cons.injEq, Prod.mk.injEq] at e
    exact ⟨e.1, meths_of e.2⟩
theorem obs_law {Z : Sight} {s₀ s₁ : Shared} {prog : Program} {w : World} {mg mb : Str → Option Value} (e : obsE Z s₀ = valE Z) (keeps : ∀ b o, s₀.heap.get? b = some o → s₁.heap.get? b = some o) (hsome : (Z.T.globs.all fun p => (globV Z.Y p.2).isSome) = true) (hpos : 0 < Z.Y.fns.length)
    (hdr : Z.T.meths.lookup headersTx = none) (hb : BindsS Z.K2 ⟨prog, w.params⟩ Z.shapes Z.P.fs) (hsz : s₀.heap.objs.size ≤ s₁.heap.objs.size) :
    ∃ K : Frag, K.In s₁.heap ∧ Checks K Z.K2 ⟨prog, w.params⟩ Z.Y Z.P Z.T ∧ ClsOk (baseOf prog w s₁.heap K Z.Y mg mb) Z.P Z.T.meths ∧ nsIn K mainGlobals Z.law = some (some (.ref Z.lawA)) ∧ sysModules < s₁.heap.objs.size := by
  unfold obsE valE at e
  dsimp only at e
  simp only [Prod.mk.injEq, List.cons.injEq, List.map_cons, List.map_nil, clsNames, and_true] at e
  obtain ⟨⟨b1, b2, b3, b4, b5, b6, b7, b8, b9, b10, b11, b12⟩, e1, e2, e3, ⟨f1, f2, f3, f4, f5, f6, f7⟩, ⟨t1, t2, t3⟩, e6, e7, e8⟩ := e
  refine ⟨fragOf s₀.heap Z.as, Frag.In.keeps (fragOf_in _ _) keeps, { tab := b1, code := b2, core := e1, defs := b3, binds := hb.toK (by rw [List.map_map]; exact e6), sub := sub_of e7, kws := b4, globs := e2, some := hsome, re0 := b5, re1 := b6, re2 := b7, pos := hpos },
    { hga := f1, hk := f2, meth := fun h => (meths_of e3).get h, hdr := hdr, getH := f3, cls := b8, setattr := f4, plain := b9, noseq := b10, setitem := ⟨f5, t1⟩, delitem := ⟨f6, t2⟩, makes := b11, init := ⟨f7, t3⟩ }, e8, ?_⟩
  exact Nat.lt_of_lt_of_le (Nat.le_of_ble_eq_true b12) hsz
noncomputable def fdOf : Stmt → Option (Str × Arguments)
  | .FunctionDef n ps _ _ _ _ _ _ _ _ => some (n, ps)
  | _ => none
noncomputable def inCls : Stmt → List Stmt
  | .ClassDef _ _ _ b _ _ _ _ _ _ _ => b
  | x => [x]
noncomputable def shapesOf (p : Program) (l : List (Str × Value)) : List Shape := l.map fun x => (((((p.main.body.flatMap inCls).filterMap fdOf).lookup x.1).getD ⟨[], [], none, [], [], none, []⟩), x.2, .none)
end Ev
namespace Ev.Lib
noncomputable def f_heappush : Fn := { np := 2, dfl := [], ko := false, kd := false, slots := 2, body := [
  sExpr (eMeth (eVar 0) .append none [eVar 1]),
  sExpr (eCall (eLit (.fn 2)) [eVar 0, eLit (.int 0), eBin false .sub (eCall (eLit (.bi .len)) [eVar 0]) (eLit (.int 1))])] }
noncomputable def f_heappop : Fn := { np := 1, dfl := [], ko := false, kd := false, slots := 3, body := [
  sAssign (tVar 1) (eMeth (eVar 0) .pop none []),
  sIte (bOf (eVar 0)) [
    sAssign (tVar 2) (eIdx (eVar 0) (eLit (.int 0))),
    sAssign (tIdx (eVar 0) (eLit (.int 0))) (eVar 1),
    sExpr (eCall (eLit (.fn 3)) [eVar 0, eLit (.int 0)]),
    sRet (eVar 2)] [],
  sRet (eVar 1)] }
noncomputable def f__siftdown : Fn := { np := 3, dfl := [], ko := false, kd := false, slots := 6, body := [
  sAssign (tVar 3) (eIdx (eVar 0) (eVar 2)),
  sWhile (bCmp .gt (eVar 2) (eVar 1)) [
    sAssign (tVar 4) (eBin false .shr (eBin false .sub (eVar 2) (eLit (.int 1))) (eLit (.int 1))),
    sAssign (tVar 5) (eIdx (eVar 0) (eVar 4)),
    sIte (bCmp .lt (eVar 3) (eVar 5)) [
      sAssign (tIdx (eVar 0) (eVar 2)) (eVar 5),
      sAssign (tVar 2) (eVar 4),
      sCont] [],
    sBrk],
  sAssign (tIdx (eVar 0) (eVar 2)) (eVar 3)] }
noncomputable def f__siftup : Fn := { np := 2, dfl := [], ko := false, kd := false, slots := 7, body := [
  sAssign (tVar 2) (eCall (eLit (.bi .len)) [eVar 0]),
  sAssign (tVar 3) (eVar 1),
  sAssign (tVar 4) (eIdx (eVar 0) (eVar 1)),
  sAssign (tVar 5) (eBin false .add (eBin false .mul (eLit (.int 2)) (eVar 1)) (eLit (.int 1))),
  sWhile (bCmp .lt (eVar 5) (eVar 2)) [
    sAssign (tVar 6) (eBin false .add (eVar 5) (eLit (.int 1))),
    sIte (bAO true [bCmp .lt (eVar 6) (eVar 2), bNot (bCmp .lt (eIdx (eVar 0) (eVar 5)) (eIdx (eVar 0) (eVar 6)))]) [
      sAssign (tVar 5) (eVar 6)] [],
    sAssign (tIdx (eVar 0) (eVar 1)) (eIdx (eVar 0) (eVar 5)),
    sAssign (tVar 1) (eVar 5),
    sAssign (tVar 5) (eBin false .add (eBin false .mul (eLit (.int 2)) (eVar 1)) (eLit (.int 1)))],
  sAssign (tIdx (eVar 0) (eVar 1)) (eVar 4),
  sExpr (eCall (eLit (.fn 2)) [eVar 0, eVar 3, eVar 1])] }
noncomputable def f_translate : Fn := { np := 1, dfl := [], ko := false, kd := false, slots := 3, body := [
  sAssign (tVar 1) (eCall (eLit (.ty .object)) []),
  sAssign (tVar 2) (eCall (eLit (.fn 5)) [eVar 0, eVar 1, eLit (.str [46])]),
  sRet (eCall (eLit (.fn 6)) [eVar 2, eVar 1])] }
noncomputable def f__translate : Fn := { np := 3, dfl := [], ko := false, kd := false, slots := 13, body := [
  sAssign (tVar 3) (eList true []),
  sAssign (tVar 4) (eAttrApp (eVar 3)),
  sAsgT [5, 6] (eTup [eLit (.int 0), eCall (eLit (.bi .len)) [eVar 0]]),
  sWhile (bCmp .lt (eVar 5) (eVar 6)) [
    sAssign (tVar 7) (eIdx (eVar 0) (eVar 5)),
    sAssign (tVar 5) (eBin false .add (eVar 5) (eLit (.int 1))),
    sIte (bCmp .eq (eVar 7) (eLit (.str [42]))) [
      sIte (bAO false [bNot (bOf (eVar 3)), bCmp .isnot (eIdx (eVar 3) (eNeg (eLit (.int 1)))) (eVar 1)]) [
        sExpr (eCall (eVar 4) [eVar 1])] []] [
      sIte (bCmp .eq (eVar 7) (eLit (.str [63]))) [
        sExpr (eCall (eVar 4) [eVar 2])] [
        sIte (bCmp .eq (eVar 7) (eLit (.str [91]))) [
          sAssign (tVar 8) (eVar 5),
          sIte (bAO true [bCmp .lt (eVar 8) (eVar 6), bCmp .eq (eIdx (eVar 0) (eVar 8)) (eLit (.str [33]))]) [
            sAssign (tVar 8) (eBin false .add (eVar 8) (eLit (.int 1)))] [],
          sIte (bAO true [bCmp .lt (eVar 8) (eVar 6), bCmp .eq (eIdx (eVar 0) (eVar 8)) (eLit (.str [93]))]) [
            sAssign (tVar 8) (eBin false .add (eVar 8) (eLit (.int 1)))] [],
          sWhile (bAO true [bCmp .lt (eVar 8) (eVar 6), bCmp .ne (eIdx (eVar 0) (eVar 8)) (eLit (.str [93]))]) [
            sAssign (tVar 8) (eBin false .add (eVar 8) (eLit (.int 1)))],
          sIte (bCmp .ge (eVar 8) (eVar 6)) [
            sExpr (eCall (eVar 4) [eLit (.str [92, 91])])] [
            sAssign (tVar 9) (eSlc false (eVar 0) (eVar 5) (eVar 8)),
            sIte (bCmp .notin (eLit (.str [45])) (eVar 9)) [
              sAssign (tVar 9) (eMeth (eVar 9) .replace none [eLit (.str [92]), eLit (.str [92, 92])])] [
              sAssign (tVar 10) (eList true []),
              sAssign (tVar 11) (eIte (bCmp .eq (eIdx (eVar 0) (eVar 5)) (eLit (.str [33]))) (eBin false .add (eVar 5) (eLit (.int 2))) (eBin false .add (eVar 5) (eLit (.int 1)))),
              sWhile (bOf (eLit (.bool true))) [
                sAssign (tVar 11) (eMeth (eVar 0) .other none [eLit (.str [45]), eVar 11, eVar 8]),
                sIte (bCmp .lt (eVar 11) (eLit (.int 0))) [
                  sBrk] [],
                sExpr (eMeth (eVar 10) .append none [eSlc false (eVar 0) (eVar 5) (eVar 11)]),
                sAssign (tVar 5) (eBin false .add (eVar 11) (eLit (.int 1))),
                sAssign (tVar 11) (eBin false .add (eVar 11) (eLit (.int 3)))],
              sAssign (tVar 12) (eSlc false (eVar 0) (eVar 5) (eVar 8)),
              sIte (bOf (eVar 12)) [
                sExpr (eMeth (eVar 10) .append none [eVar 12])] [
                sFail],
              sFor [11] (iRange [eBin false .sub (eCall (eLit (.bi .len)) [eVar 10]) (eLit (.int 1)), eLit (.int 0), eNeg (eLit (.int 1))]) [
                sIte (bCmp .gt (eIdx (eIdx (eVar 10) (eBin false .sub (eVar 11) (eLit (.int 1)))) (eNeg (eLit (.int 1)))) (eIdx (eIdx (eVar 10) (eVar 11)) (eLit (.int 0)))) [
                  sAssign (tIdx (eVar 10) (eBin false .sub (eVar 11) (eLit (.int 1)))) (eBin false .add (eSlc false (eIdx (eVar 10) (eBin false .sub (eVar 11) (eLit (.int 1)))) (eLit (.none)) (eNeg (eLit (.int 1)))) (eSlc false (eIdx (eVar 10) (eVar 11)) (eLit (.int 1)) (eLit (.none)))),
                  sDel (eVar 10) (eVar 11)] []],
              sAssign (tVar 9) (eMeth (eLit (.str [45])) .join none [eFail])],
            sAssign (tVar 9) (eMeth (eLit (.re 2)) .sub none [eLam, eVar 9]),
            sAssign (tVar 5) (eBin false .add (eVar 8) (eLit (.int 1))),
            sIte (bNot (bOf (eVar 9))) [
              sExpr (eCall (eVar 4) [eLit (.str [40, 63, 33, 41])])] [
              sIte (bCmp .eq (eVar 9) (eLit (.str [33]))) [
                sExpr (eCall (eVar 4) [eLit (.str [46])])] [
                sIte (bCmp .eq (eIdx (eVar 9) (eLit (.int 0))) (eLit (.str [33]))) [
                  sAssign (tVar 9) (eBin false .add (eLit (.str [94])) (eSlc false (eVar 9) (eLit (.int 1)) (eLit (.none))))] [
                  sIte (bCmp .in_ (eIdx (eVar 9) (eLit (.int 0))) (eTup [eLit (.str [94]), eLit (.str [91])])) [
                    sAssign (tVar 9) (eBin false .add (eLit (.str [92])) (eVar 9))] []],
                sExpr (eCall (eVar 4) [eFstr [eLit (.str [91]), eVar 9, eLit (.str [93])]])]]]] [
          sExpr (eCall (eVar 4) [eCall eFail [eVar 7]])]]]],
  sAssert (bCmp .eq (eVar 5) (eVar 6)),
  sRet (eVar 3)] }
noncomputable def f__join_translated_parts : Fn := { np := 2, dfl := [], ko := false, kd := false, slots := 7, body := [
  sAssign (tVar 2) (eList true []),
  sAssign (tVar 3) (eAttrApp (eVar 2)),
  sAsgT [4, 5] (eTup [eLit (.int 0), eCall (eLit (.bi .len)) [eVar 0]]),
  sWhile (bAO true [bCmp .lt (eVar 4) (eVar 5), bCmp .isnot (eIdx (eVar 0) (eVar 4)) (eVar 1)]) [
    sExpr (eCall (eVar 3) [eIdx (eVar 0) (eVar 4)]),
    sAug 4 .add (eLit (.int 1))],
  sWhile (bCmp .lt (eVar 4) (eVar 5)) [
    sAssert (bCmp .is (eIdx (eVar 0) (eVar 4)) (eVar 1)),
    sAug 4 .add (eLit (.int 1)),
    sIte (bCmp .eq (eVar 4) (eVar 5)) [
      sExpr (eCall (eVar 3) [eLit (.str [46, 42])]),
      sBrk] [],
    sAssert (bCmp .isnot (eIdx (eVar 0) (eVar 4)) (eVar 1)),
    sAssign (tVar 6) (eList true []),
    sWhile (bAO true [bCmp .lt (eVar 4) (eVar 5), bCmp .isnot (eIdx (eVar 0) (eVar 4)) (eVar 1)]) [
      sExpr (eMeth (eVar 6) .append none [eIdx (eVar 0) (eVar 4)]),
      sAug 4 .add (eLit (.int 1))],
    sAssign (tVar 6) (eMeth (eLit (.str [])) .join none [eVar 6]),
    sIte (bCmp .eq (eVar 4) (eVar 5)) [
      sExpr (eCall (eVar 3) [eLit (.str [46, 42])]),
      sExpr (eCall (eVar 3) [eVar 6])] [
      sExpr (eCall (eVar 3) [eFstr [eLit (.str [40, 63, 62, 46, 42, 63]), eVar 6, eLit (.str [41])]])]],
  sAssert (bCmp .eq (eVar 4) (eVar 5)),
  sAssign (tVar 2) (eMeth (eLit (.str [])) .join none [eVar 2]),
  sRet (eFstr [eLit (.str [40, 63, 115, 58]), eVar 2, eLit (.str [41, 92, 90])])] }
noncomputable def f___init__ : Fn := { np := 2, dfl := [.none], ko := false, kd := false, slots := 4, body := [
  sAssign (tVar 1) (eIte (bCmp .isnot (eVar 1) (eLit (.none))) (eVar 1) (eList true [])),
  sIte (bCmp .isnot (eCall (eLit (.ty .type)) [eVar 1]) (eLit (.ty .list))) [
    sFail] [],
  sAssign (tAttr (eVar 0) [95, 104, 101, 97, 100, 101, 114, 115]) (eVar 1),
  sIte (bOf (eLit (.bool true))) [
    sFor [2, 3] (iVal (eVar 1)) [
      sExpr (eMethk (eVar 0) 8 [eVar 2] (eLit (.bool true))),
      sExpr (eMethk (eVar 0) 8 [eVar 3] (eLit (.bool false)))]] []] }
noncomputable def f__convert_string_type : Fn := { np := 2, dfl := [], ko := true, kd := false, slots := 4, body := [
  sIte (bCmp .is (eCall (eLit (.ty .type)) [eVar 1]) (eLit (.ty .str))) [
    sAssign (tVar 3) (eIte (bOf (eVar 2)) (eLit (.re 0)) (eLit (.re 1))),
    sIte (bOf (eMeth (eVar 3) .search none [eVar 1])) [
      sFail] [],
    sRet (eVar 1)] [],
  sFail] }
noncomputable def f___setitem__ : Fn := { np := 3, dfl := [], ko := false, kd := false, slots := 3, body := [
  sDel (eVar 0) (eVar 1),
  sExpr (eMeth (eAttr (eVar 0) [95, 104, 101, 97, 100, 101, 114, 115]) .append none [eTup [eMethk (eVar 0) 8 [eVar 1] (eLit (.bool true)), eMethk (eVar 0) 8 [eVar 2] (eLit (.bool false))]])] }
noncomputable def f___delitem__ : Fn := { np := 2, dfl := [], ko := false, kd := false, slots := 2, body := [
  sAssign (tVar 1) (eMethk (eVar 0) 8 [eMeth (eVar 1) .lower none []] (eLit (.bool true))),
  sAssign (tWhole (eAttr (eVar 0) [95, 104, 101, 97, 100, 101, 114, 115])) (eComp false (eVar 2) [⟨1, [2], iVal (eAttr (eVar 0) [95, 104, 101, 97, 100, 101, 114, 115]), [bCmp .ne (eMeth (eIdx (eVar 2) (eLit (.int 0))) .lower none []) (eVar 1)]⟩])] }
noncomputable def f_get_all : Fn := { np := 2, dfl := [], ko := false, kd := false, slots := 2, body := [
  sAssign (tVar 1) (eMethk (eVar 0) 8 [eMeth (eVar 1) .lower none []] (eLit (.bool true))),
  sRet (eComp false (eIdx (eVar 2) (eLit (.int 1))) [⟨1, [2], iVal (eAttr (eVar 0) [95, 104, 101, 97, 100, 101, 114, 115]), [bCmp .eq (eMeth (eIdx (eVar 2) (eLit (.int 0))) .lower none []) (eVar 1)]⟩])] }
noncomputable def f_get : Fn := { np := 3, dfl := [.none], ko := false, kd := false, slots := 5, body := [
  sAssign (tVar 1) (eMethk (eVar 0) 8 [eMeth (eVar 1) .lower none []] (eLit (.bool true))),
  sFor [3, 4] (iVal (eAttr (eVar 0) [95, 104, 101, 97, 100, 101, 114, 115])) [
    sIte (bCmp .eq (eMeth (eVar 3) .lower none []) (eVar 1)) [
      sRet (eVar 4)] []],
  sRet (eVar 2)] }
noncomputable def f_items : Fn := { np := 1, dfl := [], ko := false, kd := false, slots := 1, body := [
  sRet (eSlc false (eAttr (eVar 0) [95, 104, 101, 97, 100, 101, 114, 115]) (eLit (.none)) (eLit (.none)))] }
noncomputable def f_add_header : Fn := { np := 3, dfl := [], ko := false, kd := true, slots := 7, body := [
  sAssign (tVar 4) (eList true []),
  sIte (bCmp .isnot (eVar 2) (eLit (.none))) [
    sAssign (tVar 2) (eMethk (eVar 0) 8 [eVar 2] (eLit (.bool false))),
    sExpr (eMeth (eVar 4) .append none [eVar 2])] [],
  sItems (eVar 3),
  sExpr (eMeth (eAttr (eVar 0) [95, 104, 101, 97, 100, 101, 114, 115]) .append none [eTup [eMethk (eVar 0) 8 [eVar 1] (eLit (.bool true)), eMeth (eLit (.str [59, 32])) .join none [eVar 4]]])] }
end Ev.Lib
namespace Ev.L3
open PySem
noncomputable def f__law_places : Fn := { np := 1, dfl := [], ko := false, kd := false, slots := 3, body := [
  sAssign (tVar 1) eNew,
  sFor [2] (iRange [eCall (eLit (.bi .len)) [eVar 0]]) [
    sExpr (eMeth (eVar 1) .other (some 14) [eIdx (eVar 0) (eVar 2), eCall (eLit (.ty .str)) [eBin false .add (eVar 2) (eLit (.int 1))]])],
  sRet (eComp false (eComp false (eCall (eLit (.ty .int)) [eVar 4]) [⟨1, [4], iVal (eMeth (eVar 1) .other (some 11) [eVar 3]), []⟩]) [⟨1, [3], iVal (eLit (.str [97, 98, 99])), []⟩])] }
noncomputable def f__law_ahead : Fn := { np := 2, dfl := [], ko := false, kd := false, slots := 3, body := [
  sAssign (tVar 2) (eComp false (eVar 3) [⟨1, [3], iVal (eVar 0), [bCmp .gt (eVar 3) (eVar 1)]⟩]),
  sRet (eIte (bCmp .ne (eVar 2) (eList false [])) (eIdx (eVar 2) (eLit (.int 0))) (eNeg (eLit (.int 1))))] }
noncomputable def f__law_found : Fn := { np := 2, dfl := [], ko := false, kd := false, slots := 10, body := [
  sAsgT [2, 3] (eTup [eList true [eTup [eLit (.int 0), eLit (.str []), eLit (.int 0), eLit (.int 0)]], eList true [eTup [eLit (.int 0), eLit (.int 0)]]]),
  sWhile (bCmp .ne (eVar 2) (eList false [])) [
    sAsgT [4, 5, 6, 7] (eCall (eLit (.fn 1)) [eVar 2]),
    sIte (bAO false [bCmp .lt (eVar 6) (eLit (.int 0)), bCmp .lt (eVar 7) (eLit (.int 0))]) [
      sRet (eVar 5)] [],
    sFor [8] (iRange [eLit (.int 3)]) [
      sAssign (tVar 9) (eTup [eCall (eLit (.fn 16)) [eIdx (eVar 0) (eVar 8), eVar 6], eCall (eLit (.fn 16)) [eIdx (eVar 1) (eVar 8), eVar 7]]),
      sIte (bAO true [bCmp .ne (eVar 9) (eTup [eNeg (eLit (.int 1)), eNeg (eLit (.int 1))]), bCmp .notin (eVar 9) (eVar 3)]) [
        sExpr (eMeth (eVar 3) .append none [eVar 9]),
        sExpr (eCall (eLit (.fn 0)) [eVar 2, eTup [eBin false .add (eVar 4) (eLit (.int 1)), eBin false .add (eVar 5) (eIdx (eLit (.str [97, 98, 99])) (eVar 8)), eIdx (eVar 9) (eLit (.int 0)), eIdx (eVar 9) (eLit (.int 1))]])] []]],
  sRet (eLit (.str []))] }
noncomputable def f__law_takes : Fn := { np := 2, dfl := [], ko := false, kd := false, slots := 5, body := [
  sIte (bCmp .ne (eBin false .add (eSlc false (eVar 0) (eLit (.none)) (eLit (.int 4))) (eSlc false (eVar 0) (eNeg (eLit (.int 5))) (eLit (.none)))) (eLit (.str [40, 63, 115, 58, 46, 42, 41, 92, 90]))) [
    sRet (eLit (.bool false))] [],
  sAssign (tVar 2) (eLit (.int 0)),
  sFor [3] (iVal (eSlc false (eMeth (eSlc false (eVar 0) (eLit (.int 4)) (eNeg (eLit (.int 5)))) .split none [eLit (.str [40, 63, 62, 46, 42, 63])]) (eLit (.int 1)) (eLit (.none)))) [
    sAssign (tVar 4) (eComp false (eVar 5) [⟨1, [5], iRange [eVar 2, eCall (eLit (.bi .len)) [eVar 1]], [bCmp .in_ (eIdx (eVar 1) (eVar 5)) (eSlc false (eVar 3) (eLit (.int 1)) (eNeg (eLit (.int 2))))]⟩]),
    sIte (bCmp .eq (eVar 4) (eList false [])) [
      sRet (eLit (.bool false))] [],
    sAssign (tVar 2) (eBin false .add (eIdx (eVar 4) (eLit (.int 0))) (eLit (.int 1)))],
  sRet (eLit (.bool true))] }
noncomputable def f__law_lies : Fn := { np := 2, dfl := [], ko := false, kd := false, slots := 3, body := [
  sFor [2] (iVal (eMeth (eVar 1) .lower none [])) [
    sIte (bCmp .eq (eSlc false (eVar 0) (eLit (.none)) (eLit (.int 1))) (eVar 2)) [
      sAssign (tVar 0) (eSlc false (eVar 0) (eLit (.int 1)) (eLit (.none)))] []],
  sRet (eCmp .eq (eVar 0) (eLit (.str [])))] }
noncomputable def f_law : Fn := { np := 1, dfl := [], ko := false, kd := false, slots := 9, body := [
  sAssign (tVar 1) (eSlc false (eBin false .add (eSlc false (eVar 0) (eLit (.none)) (eLit (.int 3))) (eList false [eLit (.int 233833), eLit (.int 120328), eLit (.int 6)])) (eLit (.none)) (eLit (.int 3))),
  sAssign (tVar 2) (eBin false .add (eBin false .mod (eIdx (eVar 1) (eLit (.int 2))) (eLit (.int 7))) (eLit (.int 1))),
  sAsgT [3, 4] (eComp false (eMeth (eLit (.str [])) .join none [eComp false (eIdx (eLit (.str [97, 98, 99, 65, 66, 67])) (eBin false .mod (eBin false .fdiv (eBin false .mod (eVar 9) (eLit (.int 279936))) (eBin false .pow (eLit (.int 6)) (eVar 10))) (eLit (.int 6)))) [⟨1, [10], iRange [eVar 2], []⟩]]) [⟨1, [9], iVal (eSlc false (eVar 1) (eLit (.none)) (eLit (.int 2))), []⟩]),
  sAssign (tVar 5) (eCall (eLit (.fn 17)) [eCall (eLit (.fn 15)) [eVar 3], eCall (eLit (.fn 15)) [eVar 4]]),
  sIte (bCmp .eq (eVar 5) (eLit (.str []))) [
    sRet (eCmp .eq (eMeth (eVar 3) .lower none []) (eMeth (eVar 4) .lower none []))] [],
  sAssign (tVar 6) (eCall (eLit (.fn 4)) [eBin false .add (eLit (.str [42])) (eMeth (eLit (.str [])) .join none [eComp false (eBin false .add (eBin false .add (eBin false .add (eLit (.str [91])) (eVar 9)) (eMeth (eVar 9) .upper none [])) (eLit (.str [93, 42]))) [⟨1, [9], iVal (eVar 5), []⟩]])]),
  sIte (bAO false [bCmp .gt (eCall (eLit (.bi .len)) [eVar 5]) (eBin false .add (eBin false .fdiv (eVar 2) (eLit (.int 2))) (eLit (.int 1))), bCmp .eq (eCall (eLit (.fn 18)) [eVar 6, eVar 3]) (eCall (eLit (.fn 18)) [eVar 6, eVar 4])]) [
    sRet (eLit (.bool false))] [],
  sAssign (tVar 7) (eList false [eLit (.str [])]),
  sFor [8] (iRange [eBin false .sub (eCall (eLit (.bi .len)) [eVar 5]) (eLit (.int 1))]) [
    sAssign (tVar 7) (eComp false (eBin false .add (eVar 9) (eVar 10)) [⟨2, [9], iVal (eVar 7), []⟩, ⟨0, [10], iVal (eLit (.str [97, 98, 99])), []⟩])],
  sRet (eCmp .eq (eComp false (eVar 9) [⟨1, [9], iVal (eVar 7), [bCmp .ne (eCall (eLit (.fn 19)) [eVar 9, eVar 3]) (eCall (eLit (.fn 19)) [eVar 9, eVar 4])]⟩]) (eList false []))] }
noncomputable def fs : List Fn := [Lib.f_heappush, Lib.f_heappop, Lib.f__siftdown, Lib.f__siftup, Lib.f_translate, Lib.f__translate, Lib.f__join_translated_parts, Lib.f___init__, Lib.f__convert_string_type, Lib.f___setitem__, Lib.f___delitem__, Lib.f_get_all, Lib.f_get, Lib.f_items, Lib.f_add_header, f__law_places, f__law_ahead, f__law_found, f__law_takes, f__law_lies, f_law]
noncomputable def prog : Prog := { fs := fs, initN := 7, setN := 9, delN := 10 }
noncomputable def globs : List (Tx × AV) := [([104, 101, 97, 112, 112, 117, 115, 104], .fn 0), ([104, 101, 97, 112, 112, 111, 112], .fn 1), ([95, 115, 105, 102, 116, 100, 111, 119, 110], .fn 2), ([95, 115, 105, 102, 116, 117, 112], .fn 3), ([116, 114, 97, 110, 115, 108, 97, 116, 101], .fn 4), ([95, 116, 114, 97, 110, 115, 108, 97, 116, 101], .fn 5), ([95, 106, 111, 105, 110, 95, 116, 114, 97, 110, 115, 108, 97, 116, 101, 100, 95, 112, 97, 114, 116, 115], .fn 6), ([95, 108, 97, 119, 95, 112, 108, 97, 99, 101, 115], .fn 15), ([95, 108, 97, 119, 95, 97, 104, 101, 97, 100], .fn 16), ([95, 108, 97, 119, 95, 102, 111, 117, 110, 100], .fn 17), ([95, 108, 97, 119, 95, 116, 97, 107, 101, 115], .fn 18), ([95, 108, 97, 119, 95, 108, 105, 101, 115], .fn 19), ([108, 97, 119], .fn 20), ([72, 101, 97, 100, 101, 114, 115], .cls), ([95, 110, 97, 109, 101, 95, 100, 105, 115, 97, 108, 108, 111, 119, 101, 100, 95, 114, 101], .re 0), ([95, 118, 97, 108, 117, 101, 95, 100, 105, 115, 97, 108, 108, 111, 119, 101, 100, 95, 114, 101], .re 1), ([95, 116, 119, 105, 110, 95, 114, 101, 95, 49], .re 2), ([108, 101, 110], .bi .len), ([109, 97, 120], .bi .max), ([109, 105, 110], .bi .min), ([115, 117, 109], .bi .sum), ([105, 110, 116], .ty .int), ([115, 116, 114], .ty .str), ([108, 105, 115, 116], .ty .list), ([114, 97, 110, 103, 101], .ty .range), ([122, 105, 112], .ty .zip), ([116, 121, 112, 101], .ty .type), ([111, 98, 106, 101, 99, 116], .ty .object)]
noncomputable def meths : List (Tx × Nat) := [([95, 95, 105, 110, 105, 116, 95, 95], 7), ([95, 99, 111, 110, 118, 101, 114, 116, 95, 115, 116, 114, 105, 110, 103, 95, 116, 121, 112, 101], 8), ([103, 101, 116, 95, 97, 108, 108], 11), ([103, 101, 116], 12), ([105, 116, 101, 109, 115], 13), ([97, 100, 100, 95, 104, 101, 97, 100, 101, 114], 14)]
noncomputable def marks : List (Nat × Nat) := [(116, 10), (142, 29), (178, 10), (191, 16), (21, 54), (88, 16), (251, 17), (251, 34)]
end Ev.L3
namespace Ev.L3
open PySem PySem.W
noncomputable def tops : Tops := { globs, meths, marks, lams := [5] }
noncomputable def lay : Lay := { fns := [231, 238, 245, 252, 198, 217, 224, 76, 83, 97, 102, 121, 129, 146, 179, 257, 262, 269, 274, 281, 286], cls := 182, res := [48, 53, 191], code := 216, tab := 212 }
end Ev.L3
namespace Hp
variable {α : Type}
structure TO (lt : α → α → Bool) : Prop where
  asym : ∀ {a b}, lt a b = true → lt b a = false
  trans : ∀ {a b c}, lt b a = false → lt c b = false → lt c a = false
noncomputable def sd (lt : α → α → Bool) (item : α) : Nat → List α → Nat → List α
  | 0, xs, pos => xs.set pos item
  | f + 1, xs, pos => if 0 < pos then match xs[(pos - 1) / 2]? with
    | some p => if lt item p then sd lt item f (xs.set pos p) ((pos - 1) / 2) else xs.set pos item
    | none => xs
    else xs.set pos item
noncomputable def kid (lt : α → α → Bool) (xs : List α) (c : Nat) : Nat := match xs[c]?, xs[c + 1]? with
  | some a, some b => if lt a b then c else c + 1
  | _, _ => c
noncomputable def su (lt : α → α → Bool) : Nat → List α → Nat → List α × Nat
  | 0, xs, pos => (xs, pos)
  | f + 1, xs, pos => if 2 * pos + 1 < xs.length then match xs[kid lt xs (2 * pos + 1)]? with
    | some v => su lt f (xs.set pos v) (kid lt xs (2 * pos + 1))
    | none => (xs, pos)
    else (xs, pos)
noncomputable def push (lt : α → α → Bool) (xs : List α) (x : α) : List α := sd lt x xs.length (xs ++ [x]) xs.length
noncomputable def fix (lt : α → α → Bool) (x : α) (xs : List α) : List α := sd lt x (su lt xs.length xs 0).2 ((su lt xs.length xs 0).1.set (su lt xs.length xs 0).2 x) (su lt xs.length xs 0).2
noncomputable def rest (lt : α → α → Bool) (xs : List α) : List α := match xs.getLast? with
  | some l => match xs.dropLast with
    | [] => []
    | y :: ys => fix lt l (l :: ys)
  | none => []
noncomputable def Le (lt : α → α → Bool) (xs : List α) (i j : Nat) : Prop := ∀ a b, xs[i]? = some a → xs[j]? = some b → lt b a = false
noncomputable def Heap (lt : α → α → Bool) (xs : List α) : Prop := ∀ i, 0 < i → Le lt xs ((i - 1) / 2) i
structure Hole (lt : α → α → Bool) (xs : List α) (pos : Nat) : Prop where
  other : ∀ i, 0 < i → i ≠ pos → (i - 1) / 2 ≠ pos → Le lt xs ((i - 1) / 2) i
  over : 0 < pos → ∀ i, 0 < i → (i - 1) / 2 = pos → Le lt xs ((pos - 1) / 2) i
noncomputable def Under (lt : α → α → Bool) (item : α) (xs : List α) (pos : Nat) : Prop := ∀ i b, 0 < i → (i - 1) / 2 = pos → xs[i]? = some b → lt b item = false
theorem get_set_ne {xs : List α} {p i : Nat} {v : α} (h : p ≠ i) : (xs.set p v)[i]? = xs[i]? := by rw [List.getElem?_set_ne h]
theorem get_set {xs : List α} {p : Nat} {v : α} (h : p < xs.length) : (xs.set p v)[p]? = some v := by rw [List.getElem?_set_self h]
theorem le_set_ne {lt : α → α → Bool} {xs : List α} {p i j : Nat} {v : α} (hi : p ≠ i) (hj : p ≠ j) (h : Le lt xs i j) : Le lt (xs.set p v) i j := fun a b ea eb => by
  rw [get_set_ne hi] at ea; rw [get_set_ne hj] at eb; exact h a b ea eb
theorem heap_of_hole {lt : α → α → Bool} {xs : List α} {pos : Nat} {item : α} (hp : pos < xs.length) (H : Hole lt xs pos) (U : Under lt item xs pos) (L : 0 < pos → ∀ a, xs[(pos - 1) / 2]? = some a → lt item a = false) : Heap lt (xs.set pos item) := by
  intro i hi
  by_cases h1 : i = pos
  · subst h1
    intro a b ea eb
    rw [get_set hp] at eb; cases eb
    rw [get_set_ne (by omega)] at ea
    exact L hi a ea
  · by_cases h2 : (i - 1) / 2 = pos
    · intro a b ea eb
      rw [h2, get_set hp] at ea; cases ea
      rw [get_set_ne (by omega)] at eb
      exact U i b hi h2 eb
    · exact le_set_ne (Ne.symm h2) (Ne.symm h1) (H.other i hi h1 h2)
theorem sd_heap {lt : α → α → Bool} (O : TO lt) {item : α} : ∀ (f : Nat) (xs : List α) (pos : Nat), pos ≤ f → pos < xs.length → Hole lt xs pos → Under lt item xs pos → Heap lt (sd lt item f xs pos)
  | 0, xs, pos, hf, hp, H, U => heap_of_hole hp H U fun h => absurd h (by omega)
  | f + 1, xs, pos, hf, hp, H, U => by
    rw [sd]
    split
    · rename_i h0
      have hq : (pos - 1) / 2 < xs.length := by omega
      split
      · rename_i p hpp
        split
        · rename_i hlt
          refine sd_heap O f (xs.set pos p) ((pos - 1) / 2) (by omega) (by simpa using hq) ⟨fun i hi h1 h2 => ?_, fun h3 i hi h2 => ?_⟩ fun i b hi h2 eb => ?_
          · by_cases e : i = pos
            · subst e; exact absurd rfl h2
            · by_cases e2 : (i - 1) / 2 = pos
              · intro a b ea eb
                rw [e2, get_set hp] at ea; cases ea
                rw [get_set_ne (by omega)] at eb
                exact H.over h0 i hi e2 _ b hpp eb
              · exact le_set_ne (Ne.symm e2) (Ne.symm e) (H.other i hi e e2)
          · have up : Le lt xs (((pos - 1) / 2 - 1) / 2) ((pos - 1) / 2) := H.other _ h3 (by omega) (by omega)
            intro a b ea eb
            rw [get_set_ne (by omega)] at ea
            have hap : lt p a = false := up a p ea hpp
            by_cases e : i = pos
            · subst e; rw [get_set hp] at eb; cases eb; exact hap
            · rw [get_set_ne (Ne.symm e)] at eb
              have := H.other i hi e (by omega)
              rw [h2] at this
              exact O.trans hap (this p b hpp eb)
          · by_cases e : i = pos
            · subst e; rw [get_set hp] at eb; cases eb; exact O.asym hlt
            · rw [get_set_ne (Ne.symm e)] at eb
              have := H.other i hi e (by omega)
              rw [h2] at this
              exact O.trans (O.asym hlt) (this p b hpp eb)
        · rename_i hlt
          exact heap_of_hole hp H U fun _ a ea => by rw [hpp] at ea; cases ea; simpa using hlt
      · rename_i hn
        rw [List.getElem?_eq_none_iff] at hn; omega
    · exact heap_of_hole hp H U fun h => absurd h (by assumption)
theorem swap_perm {xs : List α} {i j : Nat} {v item : α} (hi : i < xs.length) (hj : xs[j]? = some v) (hij : i ≠ j) : ((xs.set i v).set j item).Perm (xs.set i item) := by
  have hjl : j < xs.length := (List.getElem?_eq_some_iff.mp hj).1
  have h := List.set_set_perm (as := xs.set i item) (i := i) (j := j) (by simpa using hi) (by simpa using hjl)
  have e1 : (xs.set i item)[j]'(by simpa using hjl) = v := by
    rw [List.getElem_set_ne (by omega)]
    exact (List.getElem?_eq_some_iff.mp hj).2
  have e2 : (xs.set i item)[i]'(by simpa using hi) = item := by simp
  rw [e1, e2, List.set_set] at h
  exact h
theorem sd_perm {lt : α → α → Bool} {item : α} : ∀ (f : Nat) (xs : List α) (pos : Nat), pos < xs.length → (sd lt item f xs pos).Perm (xs.set pos item)
  | 0, xs, pos, hp => .refl _
  | f + 1, xs, pos, hp => by
    rw [sd]
    split
    · rename_i h0
      split
      · rename_i p hpp
        split
        · exact (sd_perm f (xs.set pos p) ((pos - 1) / 2) (by simp; omega)).trans (swap_perm hp hpp (by omega))
        · exact .refl _
      · rename_i hn
        rw [List.getElem?_eq_none_iff] at hn; omega
    · exact .refl _
theorem push_perm {lt : α → α → Bool} (xs : List α) (x : α) : (push lt xs x).Perm (x :: xs) := by
  have h := sd_perm (lt := lt) (item := x) xs.length (xs ++ [x]) xs.length (by simp)
  have e : (xs ++ [x]).set xs.length x = xs ++ [x] := by simp
  rw [e] at h
  exact h.trans (List.perm_append_singleton x xs)
theorem push_heap {lt : α → α → Bool} (O : TO lt) {xs : List α} (H : Heap lt xs) (x : α) : Heap lt (push lt xs x) := by
  refine sd_heap O xs.length (xs ++ [x]) xs.length (Nat.le_refl _) (by simp) ⟨fun i hi h1 h2 => ?_, fun h3 i hi h2 => ?_⟩ fun i b hi h2 eb => ?_
  · intro a b ea eb
    have : i < xs.length := by
      have := (List.getElem?_eq_some_iff.mp eb).1
      simp at this; omega
    rw [List.getElem?_append_left (by omega)] at ea
    rw [List.getElem?_append_left (by omega)] at eb
    exact H i hi a b ea eb
  · intro a b ea eb
    have := (List.getElem?_eq_some_iff.mp eb).1
    simp at this; omega
  · have := (List.getElem?_eq_some_iff.mp eb).1
    simp at this; omega
theorem kid_spec {lt : α → α → Bool} (O : TO lt) {xs : List α} {c : Nat} (hc : c < xs.length) : ∃ v, xs[kid lt xs c]? = some v ∧ (kid lt xs c = c ∨ kid lt xs c = c + 1) ∧ (∀ b, xs[c]? = some b → lt b v = false) ∧ ∀ b, xs[c + 1]? = some b → lt b v = false := by
  have irr : ∀ a : α, lt a a = false := fun a => by
    cases h : lt a a with
    | false => rfl
    | true => rw [O.asym h] at h; cases h
  have ec : xs[c]? = some xs[c] := by simp [hc]
  unfold kid
  rw [ec]
  cases h : xs[c + 1]? with
  | none => exact ⟨xs[c], ec, .inl rfl, fun b e => by cases e; exact irr _, fun b e => by cases e⟩
  | some b =>
    dsimp only
    cases hlt : lt xs[c] b with
    | true => exact ⟨xs[c], by simpa using ec, .inl (by simp), fun y e => by cases e; exact irr _, fun y e => by cases e; exact O.asym hlt⟩
    | false => exact ⟨b, by simpa using h, .inr (by simp), fun y e => by cases e; exact hlt, fun y e => by cases e; exact irr _⟩
theorem su_spec {lt : α → α → Bool} (O : TO lt) (item : α) : ∀ (f : Nat) (xs : List α) (pos : Nat), xs.length ≤ f + pos → pos < xs.length → Hole lt xs pos →
    (su lt f xs pos).2 < (su lt f xs pos).1.length ∧ (su lt f xs pos).1.length = xs.length ∧ Hole lt (su lt f xs pos).1 (su lt f xs pos).2 ∧ xs.length ≤ 2 * (su lt f xs pos).2 + 1 ∧ ((su lt f xs pos).1.set (su lt f xs pos).2 item).Perm (xs.set pos item)
  | 0, xs, pos, hf, hp, H => by omega
  | f + 1, xs, pos, hf, hp, H => by
    rw [su]
    split
    · rename_i hc
      obtain ⟨v, hv, hk, hl, hr⟩ := kid_spec O hc
      rw [hv]
      dsimp only
      have hkl : kid lt xs (2 * pos + 1) < xs.length := (List.getElem?_eq_some_iff.mp hv).1
      generalize hkd : kid lt xs (2 * pos + 1) = k at *
      have H' : Hole lt (xs.set pos v) k := by
        refine ⟨fun i hi h1 h2 => ?_, fun h3 i hi h2 => ?_⟩
        · by_cases e : i = pos
          · subst e
            intro a b ea eb
            rw [get_set hp] at eb; cases eb
            rw [get_set_ne (by omega)] at ea
            exact H.over hi k (by omega) (by omega) a v ea hv
          · by_cases e2 : (i - 1) / 2 = pos
            · intro a b ea eb
              rw [e2, get_set hp] at ea; cases ea
              rw [get_set_ne (Ne.symm e)] at eb
              have : i = 2 * pos + 1 ∨ i = 2 * pos + 1 + 1 := by omega
              rcases this with rfl | rfl
              · exact hl b eb
              · exact hr b eb
            · exact le_set_ne (Ne.symm e2) (Ne.symm e) (H.other i hi e e2)
        · have hkp : (k - 1) / 2 = pos := by omega
          intro a b ea eb
          rw [hkp, get_set hp] at ea; cases ea
          rw [get_set_ne (by omega)] at eb
          have := H.other i hi (by omega) (by omega)
          rw [h2] at this
          exact this v b hv eb
      obtain ⟨q1, q2, q3, q4, q5⟩ := su_spec O item f (xs.set pos v) k (by simp; omega) (by simpa using hkl) H'
      exact ⟨q1, by simpa using q2, q3, by simpa using q4, q5.trans (swap_perm hp hv (by omega))⟩
    · exact ⟨hp, rfl, H, by omega, .refl _⟩
theorem su_len {lt : α → α → Bool} : ∀ (f : Nat) (xs : List α) (pos : Nat), pos < xs.length → (su lt f xs pos).2 < (su lt f xs pos).1.length ∧ (su lt f xs pos).1.length = xs.length
  | 0, xs, pos, hp => ⟨hp, rfl⟩
  | f + 1, xs, pos, hp => by
    rw [su]
    split
    · split
      · rename_i v hv
        have hkl : kid lt xs (2 * pos + 1) < xs.length := (List.getElem?_eq_some_iff.mp hv).1
        have := su_len (lt := lt) f (xs.set pos v) (kid lt xs (2 * pos + 1)) (by simpa using hkl)
        exact ⟨this.1, by simpa using this.2⟩
      · exact ⟨hp, rfl⟩
    · exact ⟨hp, rfl⟩
theorem fix_spec {lt : α → α → Bool} (O : TO lt) {x : α} {xs : List α} (hx : 0 < xs.length) (H : Hole lt xs 0) : Heap lt (fix lt x xs) ∧ (fix lt x xs).Perm (xs.set 0 x) := by
  obtain ⟨q1, q2, q3, q4, q5⟩ := su_spec O x xs.length xs 0 (by omega) hx H
  unfold fix
  generalize su lt xs.length xs 0 = r at *
  have hn : ∀ i : Nat, 0 < i → (i - 1) / 2 = r.2 → r.1.length ≤ i := fun i hi h => by omega
  refine ⟨sd_heap O _ _ _ (Nat.le_refl _) (by simpa using q1) ⟨fun i hi h1 h2 => le_set_ne (Ne.symm h2) (Ne.symm h1) (q3.other i hi h1 h2), fun h3 i hi h2 a b ea eb => ?_⟩ fun i b hi h2 eb => ?_, ?_⟩
  · have := (List.getElem?_eq_some_iff.mp eb).1
    have := hn i hi h2
    simp at *; omega
  · have := (List.getElem?_eq_some_iff.mp eb).1
    have := hn i hi h2
    simp at *; omega
  · have := sd_perm (lt := lt) (item := x) r.2 (r.1.set r.2 x) r.2 (by simpa using q1)
    rw [List.set_set] at this
    exact this.trans q5
theorem heap_root {lt : α → α → Bool} (O : TO lt) {xs : List α} (H : Heap lt xs) {m : α} (hm : xs[0]? = some m) : ∀ (i : Nat) (b : α), xs[i]? = some b → lt b m = false := by
  intro i
  induction i using Nat.strongRecOn with
  | ind i ih =>
    intro b hb
    by_cases h : i = 0
    · subst h
      rw [hm] at hb; cases hb
      cases h : lt m m with
      | false => rfl
      | true => rw [O.asym h] at h; cases h
    · have hl : (i - 1) / 2 < xs.length := by have := (List.getElem?_eq_some_iff.mp hb).1; omega
      have e : xs[(i - 1) / 2]? = some xs[(i - 1) / 2] := by simp [hl]
      exact O.trans (ih _ (by omega) _ e) (H i (by omega) _ b e hb)
theorem rest_spec {lt : α → α → Bool} (O : TO lt) {m : α} {xs : List α} (H : Heap lt (m :: xs)) : Heap lt (rest lt (m :: xs)) ∧ (m :: rest lt (m :: xs)).Perm (m :: xs) ∧ ∀ b ∈ m :: xs, lt b m = false := by
  refine ⟨?_, ?_, fun b hb => ?_⟩
  · unfold rest
    rw [List.getLast?_eq_some_getLast (by simp)]
    dsimp only
    split
    · intro i hi a b ea eb; simp at eb
    · rename_i y ys e
      have hd : ∀ i, i < (y :: ys).length → (y :: ys)[i]? = (m :: xs)[i]? := fun i hi => by
        rw [← e, List.dropLast_eq_take, List.getElem?_take]
        have : (y :: ys).length = (m :: xs).length - 1 := by rw [← e]; simp
        rw [if_pos (by omega)]
      refine (fix_spec O (by simp) ⟨fun i hi h1 h2 a b ea eb => ?_, fun h => absurd h (Nat.lt_irrefl _)⟩).1
      have hi' : i < ys.length + 1 := by simpa using (List.getElem?_eq_some_iff.mp eb).1
      have g : ∀ j, 0 < j → j < ys.length + 1 → ((m :: xs).getLast (by simp) :: ys)[j]? = (m :: xs)[j]? := fun j hj hl => by
        rw [← hd j (by simpa using hl)]
        cases j with
        | zero => omega
        | succ j => rfl
      rw [g _ (by omega) (by omega)] at ea
      rw [g _ hi hi'] at eb
      exact H i hi a b ea eb
  · unfold rest
    rw [List.getLast?_eq_some_getLast (by simp)]
    dsimp only
    split
    · rename_i e
      have : xs = [] := by
        cases xs with
        | nil => rfl
        | cons a r => simp at e
      subst this; exact .refl _
    · rename_i y ys e
      have hym : y = m ∧ xs ≠ [] := by
        cases xs with
        | nil => simp at e
        | cons a r => simp at e; exact ⟨e.1.symm, by simp⟩
      obtain ⟨rfl, hx⟩ := hym
      have hH : Hole lt ((y :: xs).getLast (by simp) :: ys) 0 := by
        have hd : ∀ i, i < (y :: ys).length → (y :: ys)[i]? = (y :: xs)[i]? := fun i hi => by
          rw [← e, List.dropLast_eq_take, List.getElem?_take]
          have : (y :: ys).length = (y :: xs).length - 1 := by rw [← e]; simp
          rw [if_pos (by omega)]
        refine ⟨fun i hi h1 h2 a b ea eb => ?_, fun h => absurd h (Nat.lt_irrefl _)⟩
        have hi' : i < ys.length + 1 := by simpa using (List.getElem?_eq_some_iff.mp eb).1
        have g : ∀ j, 0 < j → j < ys.length + 1 → ((y :: xs).getLast (by simp) :: ys)[j]? = (y :: xs)[j]? := fun j hj hl => by
          rw [← hd j (by simpa using hl)]
          cases j with
          | zero => omega
          | succ j => rfl
        rw [g _ (by omega) (by omega)] at ea
        rw [g _ hi hi'] at eb
        exact H i hi a b ea eb
      have p := (fix_spec O (x := (y :: xs).getLast (by simp)) (by simp) hH).2
      rw [List.set_cons_zero] at p
      have e2 : y :: ys ++ [(y :: xs).getLast (by simp)] = y :: xs := by rw [← e]; exact List.dropLast_concat_getLast _
      have e3 : ys ++ [(y :: xs).getLast (by simp)] = xs := by simpa using e2
      refine .cons y (p.trans ?_)
      conv => rhs; rw [← e3]
      exact (List.perm_append_singleton _ _).symm
  · obtain ⟨i, hi, rfl⟩ := List.mem_iff_getElem.mp hb
    exact heap_root O H rfl i _ (by simp)
end Hp
namespace Ev
theorem lt_ok {a b : Nat} (h : Nat.blt a b = true) : a < b := Nat.le_of_ble_eq_true h
theorem bindE {α β : Type} {a : Option α} {f : α → Option β} {x : α} {r : Option β} (h : a = some x) (h2 : f x = r) : a.bind f = r := by rw [h]; exact h2
theorem mapE {α β : Type} {a : Option α} {f : α → β} {x : α} {r : Option β} (h : a = some x) (h2 : some (f x) = r) : a.map f = r := by rw [h]; exact h2
section
variable {W : Wd} {n i : Nat} {fr fr₁ fr₂ : Fr} {cs cs₁ cs₂ cs₃ cs₄ : Cells} {a b e f o : ME} {x y v : AV} {r as : List ME} {ss : List MS} {s : MS} {c : MB} {z : Option (AV × Cells)} {q : Option Ou}
theorem ss_next (h : s W n fr cs = some ⟨.next, fr₁, cs₁⟩) (h2 : evSs W n ss fr₁ cs₁ = q) : evSs W n (s :: ss) fr cs = q := bindE h h2
theorem ss_cont (h : s W n fr cs = some ⟨.cont, fr₁, cs₁⟩) : evSs W n (s :: ss) fr cs = some ⟨.cont, fr₁, cs₁⟩ := bindE h rfl
theorem ss_brk (h : s W n fr cs = some ⟨.brk, fr₁, cs₁⟩) : evSs W n (s :: ss) fr cs = some ⟨.brk, fr₁, cs₁⟩ := bindE h rfl
theorem ss_ret (h : s W n fr cs = some ⟨.ret v, fr₁, cs₁⟩) : evSs W n (s :: ss) fr cs = some ⟨.ret v, fr₁, cs₁⟩ := bindE h rfl
theorem as_var (h : e W n fr cs = some (v, cs₁)) (hi : i < fr.length) : sAssign (tVar i) e W n fr cs = some ⟨.next, fr.set i (some v), cs₁⟩ := bindE h (mapE (if_pos hi) rfl)
theorem as_idx {p : ME} (he : e W n fr cs = some (v, cs₁)) (ho : o W n fr cs₁ = some (x, cs₂)) (hi : p W n fr cs₂ = some (y, cs₃)) (hn : isInst cs₃ x = false) (hs : setIdx n x y v cs₃ = some cs₄) : sAssign (tIdx o p) e W n fr cs = some ⟨.next, fr, cs₄⟩ :=
  bindE he (mapE (bindE ho (bindE hi ((if_neg (by rw [hn]; exact Bool.false_ne_true)).trans (mapE hs rfl)))) rfl)
theorem s_if {t : Bool} {ss' : List MS} (h : c W n fr cs = some (t, cs₁)) (h2 : (if t then evSs W n ss fr cs₁ else evSs W n ss' fr cs₁) = q) : sIte c ss ss' W n fr cs = q := bindE h h2
theorem s_expr (h : e W n fr cs = some (.none, cs₁)) : sExpr e W n fr cs = some ⟨.next, fr, cs₁⟩ := bindE h rfl
theorem s_ret (h : e W n fr cs = some (v, cs₁)) : sRet e W n fr cs = some ⟨.ret v, fr, cs₁⟩ := mapE h rfl
theorem b_cmp {op : COp} {t : Bool} (ha : a W n fr cs = some (x, cs₁)) (hb : b W n fr cs₁ = some (y, cs₂)) (hc : cmpv cs₂ op x y = some t) : bCmp op a b W n fr cs = some (t, cs₂) := bindE ha (bindE hb (mapE hc rfl))
theorem e_cmp {op : COp} {t : Bool} (ha : a W n fr cs = some (x, cs₁)) (hb : b W n fr cs₁ = some (y, cs₂)) (hc : cmpv cs₂ op x y = some t) : eCmp op a b W n fr cs = some (.bool t, cs₂) := bindE ha (bindE hb (mapE hc rfl))
theorem e_bin {m : Bool} {op : BOp} (ha : a W n fr cs = some (x, cs₁)) (hb : b W n fr cs₁ = some (y, cs₂)) (hz : binv m op x y cs₂ = z) : eBin m op a b W n fr cs = z := bindE ha (bindE hb hz)
theorem e_idx (ha : a W n fr cs = some (x, cs₁)) (hb : b W n fr cs₁ = some (y, cs₂)) (hz : idxv cs₂ x y = some v) : eIdx a b W n fr cs = some (v, cs₂) := bindE ha (bindE hb (mapE hz rfl))
theorem e_call {xs : List AV} (hf : f W n fr cs = some (x, cs₁)) (ha : evEs W n as fr cs₁ = some (xs, cs₂)) (hz : callv W x xs n cs₂ = z) : eCall f as W n fr cs = z := bindE hf (bindE ha hz)
theorem es_cons {xs : List AV} (h : a W n fr cs = some (x, cs₁)) (h2 : evEs W n r fr cs₁ = some (xs, cs₂)) : evEs W n (a :: r) fr cs = some (x :: xs, cs₂) := bindE h (mapE h2 rfl)
theorem e_meth {nm : MN} {own : Option Nat} {xs : List AV} (ho : o W n fr cs = some (x, cs₁)) (ha : evEs W n as fr cs₁ = some (xs, cs₂)) (hn : isInst cs₁ x = false) (hm : methOk cs₁ x nm = true) (hz : mcall n x nm xs cs₂ = z) : eMeth o nm own as W n fr cs = z :=
  bindE ho (bindE ha ((if_neg (by rw [hn]; exact Bool.false_ne_true)).trans ((if_pos hm).trans hz)))
theorem e_own {nm : MN} {k : Nat} {xs : List AV} (ho : o W n fr cs = some (x, cs₁)) (ha : evEs W n as fr cs₁ = some (xs, cs₂)) (hn : isInst cs₁ x = true) (hz : W.cf k (x :: xs) none cs₂ = z) : eMeth o nm (some k) as W n fr cs = z :=
  bindE ho (bindE ha ((if_pos hn).trans hz))
theorem e_ownk {k : Nat} {xs : List AV} (ho : o W n fr cs = some (x, cs₁)) (ha : evEs W n as fr cs₁ = some (xs, cs₂)) (hk : e W n fr cs₂ = some (v, cs₃)) (hn : isInst cs₁ x = true) (hz : W.cf k (x :: xs) (some v) cs₃ = z) : eMethk o k as e W n fr cs = z :=
  bindE ho (bindE ha (bindE hk ((if_pos hn).trans hz)))
theorem run_of {F : Fn} {args ps : List AV} {kw : Option AV} {fl : Fl} (hb : F.bind args kw cs = some (ps, cs₁)) (h : evSs W n F.body (ps.map some ++ List.replicate (F.slots - ps.length) none) cs₁ = some ⟨fl, fr₁, cs₂⟩) (hv : retv fl = some v) : F.run W n args kw cs = some (v, cs₂) := bindE hb (bindE h (mapE hv rfl))
noncomputable def stepW (W : Wd) (n : Nat) (c : MB) (b : List MS) (fr : Fr) (cs : Cells) : Option Ou := (c W n fr cs).bind fun r => if r.1 then evSs W n b fr r.2 else some ⟨.brk, fr, r.2⟩
noncomputable def stepF (W : Wd) (n : Nat) (t : List Nat) (b : List MS) (x : AV) (fr : Fr) (cs : Cells) : Option Ou := (bindT t x fr).bind fun fr' => evSs W n b fr' cs
theorem st_t (hc : c W n fr cs = some (true, cs₁)) (h : evSs W n ss fr cs₁ = q) : stepW W n c ss fr cs = q := bindE hc h
theorem st_f (hc : c W n fr cs = some (false, cs₁)) : stepW W n c ss fr cs = some ⟨.brk, fr, cs₁⟩ := bindE hc rfl
theorem wh_next {st : Fr → Cells → Option Ou} {f : Nat} (h : st fr cs = some ⟨.next, fr₁, cs₁⟩) (h2 : whileGo st f fr₁ cs₁ = q) : whileGo st (f + 1) fr cs = q := bindE h h2
theorem wh_cont {st : Fr → Cells → Option Ou} {f : Nat} (h : st fr cs = some ⟨.cont, fr₁, cs₁⟩) (h2 : whileGo st f fr₁ cs₁ = q) : whileGo st (f + 1) fr cs = q := bindE h h2
theorem wh_brk {st : Fr → Cells → Option Ou} {f : Nat} (h : st fr cs = some ⟨.brk, fr₁, cs₁⟩) : whileGo st (f + 1) fr cs = some ⟨.next, fr₁, cs₁⟩ := bindE h rfl
theorem lt_int {x y : Int} : cmpv cs .lt (.int x) (.int y) = some (decide (x < y)) := rfl
theorem lt_true {x y : Int} (h : x < y) : cmpv cs .lt (.int x) (.int y) = some true := congrArg some (decide_eq_true h)
theorem lt_false {x y : Int} (h : ¬ x < y) : cmpv cs .lt (.int x) (.int y) = some false := congrArg some (decide_eq_false h)
theorem b_ao {t : Bool} {cs' : List MB} {g : Option (Bool × Cells)} {u : Bool} (h : c W n fr cs = some (t, cs₁)) (h2 : (if t = u then evAO W n u cs' fr cs₁ else some (t, cs₁)) = g) : bAO u (c :: cs') W n fr cs = g := bindE h h2
theorem ao_one {t u : Bool} (h : c W n fr cs = some (t, cs₁)) : evAO W n u [c] fr cs = some (t, cs₁) := bindE h (by cases t <;> cases u <;> rfl)
theorem b_not {t : Bool} (h : c W n fr cs = some (t, cs₁)) : bNot c W n fr cs = some (!t, cs₁) := mapE h rfl
theorem gt_int {x y : Int} : cmpv cs .gt (.int x) (.int y) = some (decide (y < x)) := rfl
theorem eq_int {x y : Int} : cmpv cs .eq (.int x) (.int y) = some (x == y) := rfl
theorem eq_str {x y : Tx} : cmpv cs .eq (.str x) (.str y) = some (x == y) := rfl
theorem shr_int {m : Bool} {x : Int} (h : 0 ≤ x) : binv m .shr (.int x) (.int 1) cs = some (.int (x / 2), cs) := mapE (if_pos ⟨rfl, h⟩) rfl
theorem mul_int {m : Bool} {x y : Int} (h : x.natAbs < 2 ^ 64) (h' : y.natAbs < 2 ^ 64) : binv m .mul (.int x) (.int y) cs = some (.int (x * y), cs) := if_pos ⟨h, h'⟩
theorem list_at {xs : List AV} (hc : cs[i]? = some (.list xs)) : listAt cs i = some xs := by unfold listAt; rw [hc]; rfl
theorem list_of {xs : List AV} (hc : cs[i]? = some (.list xs)) : listOf cs (.ref i) = some xs := list_at hc
theorem no_inst {xs : List AV} (hc : cs[i]? = some (.list xs)) : isInst cs (.ref i) = false := by
  show ((((cs[i]?).bind AObj.inst?).bind _).isSome) = false
  rw [hc]; rfl
theorem meth_list {nm : MN} {xs : List AV} (hc : cs[i]? = some (.list xs)) (h : nm.ofList = true) : methOk cs (.ref i) nm = true := by
  show ((listAt cs i).isSome && nm.ofList) = true
  rw [list_at hc, h]; rfl
theorem idxZ_nat {n p : Nat} (h : p < n) : idxZ n (p : Int) = some p := by
  unfold idxZ
  rw [if_pos (Int.natCast_nonneg p), if_pos (Int.ofNat_lt.mpr h), Int.toNat_natCast]
theorem set_self {o : AObj} (h : cs[i]? = some o) : cs.set i o = cs := by
  obtain ⟨hi, rfl⟩ := List.getElem?_eq_some_iff.mp h
  exact List.set_getElem_self hi
theorem get_set_self {o o' : AObj} (h : cs[i]? = some o) : (cs.set i o')[i]? = some o' := List.getElem?_set_self (List.getElem?_eq_some_iff.mp h).1
theorem set_take {cs : Cells} {i : Nat} {o : AObj} : (cs.set i o).take cs.length = cs.set i o := List.take_of_length_le (Nat.le_of_eq (List.length_set ..))
end
theorem below_ref {i : Nat} {r : List AV} : belows 0 (.ref i :: r) = false := by
  show (decide (i < 0) && _) = false
  rw [decide_eq_false (Nat.not_lt_zero i), Bool.false_and]
theorem call_run {P : Prog} {k j : Nat} {F : Fn} {args : List AV} {kw : Option AV} {cs cs₂ cs₃ : Cells} {v : AV} (h : P.fs[j]? = some F) (hb : belows 0 args = false) (hr : F.run (callAt P k) cs.length args kw cs = some (v, cs₂)) (hv : below 0 v = true) (ht : cs₂.take cs.length = cs₃) : (callAt P (k + 1)).cf j args kw cs = some (v, cs₃) := by
  refine bindE (f := fun F => closed (callAt P k) F args kw cs) h ?_
  show orElse (if (belows 0 args && kw.all (below 0)) = true then _ else none) _ (openRun (callAt P k) F args kw cs) = _
  rw [hb, Bool.false_and, if_neg Bool.false_ne_true]
  refine mapE hr ?_
  unfold shut
  rw [if_pos hv, ht]
namespace Lib
variable {α : Type} (enc : α → AV) (lt : α → α → Bool)
structure Enc : Prop where
  lt : ∀ (cs : Cells) (a b : α), ltv cs fuelEq (enc a) (enc b) = some (lt a b)
  below : ∀ a, below 0 (enc a) = true
variable {enc lt} {P : Prog} {k n i : Nat} {cs : Cells} {W : Wd}
noncomputable def sdTest : MB := bCmp .gt (eVar 2) (eVar 1)
noncomputable def sdBody : List MS := [
    sAssign (tVar 4) (eBin false .shr (eBin false .sub (eVar 2) (eLit (.int 1))) (eLit (.int 1))),
    sAssign (tVar 5) (eIdx (eVar 0) (eVar 4)),
    sIte (bCmp .lt (eVar 3) (eVar 5)) [
      sAssign (tIdx (eVar 0) (eVar 2)) (eVar 5),
      sAssign (tVar 2) (eVar 4),
      sCont] [],
    sBrk]
theorem idx_list {xs : List α} {p : Nat} {x : α} (hc : cs[i]? = some (.list (xs.map enc))) (hx : xs[p]? = some x) : idxv cs (.ref i) (.int (p : Int)) = some (enc x) := by
  show (listOf cs (.ref i)).bind (fun ys => (idxZ ys.length (p : Int)).bind fun k => ys[k]?) = _
  rw [list_of hc, Option.bind_some, List.length_map, idxZ_nat (List.getElem?_eq_some_iff.mp hx).1, Option.bind_some, List.getElem?_map, hx]; rfl
theorem set_list (E : Enc enc lt) {xs : List α} {p : Nat} {v : α} (hc : cs[i]? = some (.list (xs.map enc))) (hp : p < xs.length) : setIdx n (.ref i) (.int (p : Int)) (enc v) cs = some (cs.set i (.list ((xs.set p v).map enc))) := by
  show (listAt cs i).bind (fun ys => if put n i (enc v) = true ∧ (0 : Int) ≤ (p : Int) ∧ (p : Int) < ys.length then some (cs.set i (.list (ys.set (p : Int).toNat (enc v)))) else none) = _
  rw [list_at hc, Option.bind_some, if_pos, Int.toNat_natCast, List.map_set]
  exact ⟨by unfold put; rw [E.below, Bool.or_true], Int.natCast_nonneg p, by rw [List.length_map]; exact Int.ofNat_lt.mpr hp⟩
theorem half (p : Nat) : (((p + 1 : Nat) : Int) - 1) / 2 = ((p / 2 : Nat) : Int) := by rw [Int.natCast_succ, Int.add_sub_cancel]; exact (Int.natCast_ediv p 2).symm
theorem pred_nn (p : Nat) : (0 : Int) ≤ ((p + 1 : Nat) : Int) - 1 := by rw [Int.natCast_succ, Int.add_sub_cancel]; exact Int.natCast_nonneg p
noncomputable abbrev sdF (i : Nat) (p : Nat) (x : AV) (v4 v5 : Option AV) : Fr := [some (.ref i), some (.int 0), some (.int (p : Int)), some x, v4, v5]
theorem sd_head {x : AV} {p : Nat} {y : AV} {v4 v5 : Option AV} {t : Bool} (hx : idxv cs (.ref i) (.int ((p / 2 : Nat) : Int)) = some y) (hl : cmpv cs .lt x y = some t) {q : Option Ou}
    (h : (if t then evSs W n [sAssign (tIdx (eVar 0) (eVar 2)) (eVar 5), sAssign (tVar 2) (eVar 4), sCont] (sdF i (p + 1) x (some (.int ((p / 2 : Nat) : Int))) (some y)) cs else evSs W n [] (sdF i (p + 1) x (some (.int ((p / 2 : Nat) : Int))) (some y)) cs).bind
      (fun o => match o.fl with | .next => evSs W n [sBrk] o.fr o.cs | .brk => some o | .cont => some o | .ret _ => some o) = q) : stepW W n sdTest sdBody (sdF i (p + 1) x v4 v5) cs = q := by
  have s1 := as_var (i := 4) (W := W) (n := n) (fr := sdF i (p + 1) x v4 v5) (e_bin (e_bin (m := false) (op := .sub) (a := eVar 2) (b := eLit (.int 1)) rfl rfl rfl) (rfl : eLit (.int 1) W n _ _ = _) (shr_int (cs := cs) (m := false) (pred_nn p))) (lt_ok rfl)
  rw [half] at s1
  refine st_t (b_cmp rfl rfl (congrArg some (decide_eq_true (Int.natCast_pos.mpr (Nat.succ_pos p))))) (ss_next s1 (ss_next (as_var (e_idx rfl rfl hx) (lt_ok rfl)) ?_))
  refine (congrArg (Option.bind · _) ?_).trans h
  exact s_if (b_cmp rfl rfl hl) rfl
noncomputable def SdEnd (enc : α → AV) (i : Nat) (st : Fr → Cells → Option Ou) (item : α) (p f : Nat) (len : Nat) (cs : Cells) (v4 v5 : Option AV) (zs : List α) : Prop :=
  ∃ (v4' v5' : Option AV) (q : Nat) (ys : List α), whileGo st f (sdF i p (enc item) v4 v5) cs = some ⟨.next, sdF i q (enc item) v4' v5', cs.set i (.list (ys.map enc))⟩ ∧ q < ys.length ∧ ys.length = len ∧ ys.set q item = zs
theorem SdEnd.stop {st : Fr → Cells → Option Ou} {item : α} {p f : Nat} {xs : List α} {v4 v5 v4' v5' : Option AV} (hc : cs[i]? = some (.list (xs.map enc))) (h : st (sdF i p (enc item) v4 v5) cs = some ⟨.brk, sdF i p (enc item) v4' v5', cs⟩) (hp : p < xs.length) : SdEnd enc i st item p (f + 1) xs.length cs v4 v5 (xs.set p item) :=
  ⟨v4', v5', p, xs, (wh_brk h).trans (by rw [set_self hc]), hp, rfl, rfl⟩
theorem SdEnd.turn {st : Fr → Cells → Option Ou} {item x : α} {p q f : Nat} {xs zs : List α} {v4 v5 v4' v5' : Option AV} (h : st (sdF i p (enc item) v4 v5) cs = some ⟨.cont, sdF i q (enc item) v4' v5', cs.set i (.list ((xs.set p x).map enc))⟩)
    (h2 : SdEnd enc i st item q f (xs.set p x).length (cs.set i (.list ((xs.set p x).map enc))) v4' v5' zs) : SdEnd enc i st item p (f + 1) xs.length cs v4 v5 zs := by
  obtain ⟨v4'', v5'', r, ys, e, h1, h2, h3⟩ := h2
  rw [List.set_set] at e
  exact ⟨v4'', v5'', r, ys, wh_cont h e, h1, h2.trans (List.length_set ..), h3⟩
theorem sd_zero {x : AV} {v4 v5 : Option AV} : stepW W n sdTest sdBody (sdF i 0 x v4 v5) cs = some ⟨.brk, sdF i 0 x v4 v5, cs⟩ := st_f rfl
theorem sd_loop (E : Enc enc lt) {item : α} (g : Nat) : ∀ (p f : Nat) (xs : List α) (cs : Cells) (v4 v5 : Option AV), p ≤ g → p < f → cs[i]? = some (.list (xs.map enc)) → p < xs.length →
    SdEnd enc i (stepW W n sdTest sdBody) item p f xs.length cs v4 v5 (Hp.sd lt item g xs p) := by
  induction g with
  | zero =>
    intro p f xs cs v4 v5 hg hf hc hp
    obtain rfl := Nat.le_zero.mp hg
    obtain ⟨f, rfl⟩ := Nat.exists_eq_succ_of_ne_zero (Nat.ne_of_gt hf)
    exact .stop hc sd_zero hp
  | succ g ih =>
    intro p f xs cs v4 v5 hg hf hc hp
    obtain ⟨f, rfl⟩ := Nat.exists_eq_succ_of_ne_zero (Nat.ne_of_gt (Nat.lt_of_le_of_lt (Nat.zero_le _) hf))
    cases p with
    | zero => exact .stop hc sd_zero hp
    | succ p =>
    have hpp : p / 2 ≤ p := Nat.div_le_self p 2
    have hq : p / 2 < xs.length := Nat.lt_of_le_of_lt hpp (Nat.lt_of_succ_lt hp)
    have hx : xs[p / 2]? = some xs[p / 2] := List.getElem?_eq_getElem hq
    rw [Hp.sd, if_pos (Nat.succ_pos p), Nat.add_sub_cancel, hx]
    have hl := E.lt cs item xs[p / 2]
    generalize xs[p / 2] = y at *
    dsimp only
    cases hlt : lt item y with
    | true =>
      rw [hlt] at hl
      refine .turn (sd_head (idx_list hc hx) hl (bindE (ss_next (as_idx rfl rfl rfl (no_inst hc) (set_list E hc hp)) rfl) rfl)) ?_
      exact ih (p / 2) f (xs.set (p + 1) y) _ _ _ (Nat.le_trans hpp (Nat.le_of_succ_le_succ hg)) (Nat.lt_of_le_of_lt hpp (Nat.lt_of_succ_lt_succ hf)) (get_set_self hc) (by rw [List.length_set]; exact hq)
    | false =>
      rw [hlt] at hl
      exact .stop hc (sd_head (idx_list hc hx) hl rfl) hp
theorem sd_run (E : Enc enc lt) (hP : P.fs[2]? = some f__siftdown) {xs : List α} {p : Nat} {item : α} (hc : cs[i]? = some (.list (xs.map enc))) (hx : xs[p]? = some item) (hp : p < 3000) :
    (callAt P (k + 1)).cf 2 [.ref i, .int 0, .int (p : Int)] none cs = some (.none, cs.set i (.list ((Hp.sd lt item p xs p).map enc))) := by
  have hpl : p < xs.length := (List.getElem?_eq_some_iff.mp hx).1
  obtain ⟨v4, v5, q, ys, e, h1, h2, h3⟩ := sd_loop (W := callAt P k) (n := cs.length) (item := item) E p p loopFuel xs cs none none (Nat.le_refl _) (Nat.lt_trans hp (by decide)) hc hpl
  rw [← h3]
  have hset := set_list (n := cs.length) E (p := q) (v := item) (get_set_self (o' := .list (ys.map enc)) hc) h1
  rw [List.set_set] at hset
  exact call_run hP below_ref (run_of rfl (ss_next (as_var (e_idx rfl rfl (idx_list hc hx)) (lt_ok rfl)) (ss_next e (ss_next (as_idx rfl rfl rfl (no_inst (get_set_self hc)) hset) rfl))) rfl) rfl set_take
noncomputable def suTest : MB := bCmp .lt (eVar 5) (eVar 2)
noncomputable def suPick : MB := bAO true [bCmp .lt (eVar 6) (eVar 2), bNot (bCmp .lt (eIdx (eVar 0) (eVar 5)) (eIdx (eVar 0) (eVar 6)))]
noncomputable def suRest : List MS := [
    sAssign (tIdx (eVar 0) (eVar 1)) (eIdx (eVar 0) (eVar 5)),
    sAssign (tVar 1) (eVar 5),
    sAssign (tVar 5) (eBin false .add (eBin false .mul (eLit (.int 2)) (eVar 1)) (eLit (.int 1)))]
noncomputable def suBody : List MS := sAssign (tVar 6) (eBin false .add (eVar 5) (eLit (.int 1))) :: sIte suPick [sAssign (tVar 5) (eVar 6)] [] :: suRest
noncomputable abbrev suF (i p L : Nat) (x : AV) (c : Nat) (v6 : Option AV) : Fr := [some (.ref i), some (.int (p : Int)), some (.int (L : Int)), some (.int 0), some x, some (.int (c : Int)), v6]
theorem su_rest (E : Enc enc lt) {x : AV} {p L c : Nat} {v6 : Option AV} {xs : List α} {y : α} (hc : cs[i]? = some (.list (xs.map enc))) (hp : p < xs.length) (hy : xs[c]? = some y) (hl : c < 10000) :
    evSs W n suRest (suF i p L x c v6) cs = some ⟨.next, suF i c L x (2 * c + 1) v6, cs.set i (.list ((xs.set p y).map enc))⟩ :=
  ss_next (as_idx (e_idx rfl rfl (idx_list hc hy)) rfl rfl (no_inst hc) (set_list E hc hp)) (ss_next (as_var rfl (lt_ok rfl)) (ss_next (as_var (e_bin (e_bin rfl rfl (mul_int (by decide) (by rw [Int.natAbs_natCast]; exact Nat.lt_trans hl (by decide)))) rfl rfl) (lt_ok rfl)) rfl))
theorem su_step {x : AV} {p L c : Nat} {v6 : Option AV} {t : Bool} (hl : c < L) (h : suPick W n (suF i p L x c (some (.int ((c + 1 : Nat) : Int)))) cs = some (t, cs)) {q : Option Ou}
    (h2 : evSs W n suRest (suF i p L x (if t then c + 1 else c) (some (.int ((c + 1 : Nat) : Int)))) cs = q) : stepW W n suTest suBody (suF i p L x c v6) cs = q := by
  refine st_t (b_cmp rfl rfl (lt_true (Int.ofNat_lt.mpr hl))) (ss_next (as_var (v := .int ((c + 1 : Nat) : Int)) (e_bin rfl rfl rfl) (lt_ok rfl)) ?_)
  cases t with
  | true => exact ss_next (s_if h (ss_next (as_var rfl (lt_ok rfl)) rfl)) h2
  | false => exact ss_next (s_if h rfl) h2
theorem su_pick_one {x : AV} {p L c : Nat} (h : ¬ c + 1 < L) : suPick W n (suF i p L x c (some (.int ((c + 1 : Nat) : Int)))) cs = some (false, cs) := b_ao (b_cmp rfl rfl (lt_false fun z => h (Int.ofNat_lt.mp z))) rfl
theorem su_pick_two {x : AV} {p L c : Nat} {a b : AV} {t : Bool} (h : c + 1 < L) (ha : idxv cs (.ref i) (.int (c : Int)) = some a) (hb : idxv cs (.ref i) (.int ((c + 1 : Nat) : Int)) = some b) (ht : cmpv cs .lt a b = some t) :
    suPick W n (suF i p L x c (some (.int ((c + 1 : Nat) : Int)))) cs = some (!t, cs) :=
  b_ao (b_cmp rfl rfl (lt_true (Int.ofNat_lt.mpr h))) (ao_one (b_not (b_cmp (e_idx rfl rfl ha) (e_idx rfl rfl hb) ht)))
theorem su_turn (E : Enc enc lt) {x : AV} {xs : List α} {p c : Nat} {v6 : Option AV} (hl : xs.length < 3000) (hc : cs[i]? = some (.list (xs.map enc))) (hp : p < xs.length) (h : c < xs.length) :
    ∃ v, xs[Hp.kid lt xs c]? = some v ∧ c ≤ Hp.kid lt xs c ∧ stepW W n suTest suBody (suF i p xs.length x c v6) cs = some ⟨.next, suF i (Hp.kid lt xs c) xs.length x (2 * Hp.kid lt xs c + 1) (some (.int ((c + 1 : Nat) : Int))), cs.set i (.list ((xs.set p v).map enc))⟩ := by
  have ha : xs[c]? = some xs[c] := List.getElem?_eq_getElem h
  have hk : Hp.kid lt xs c = (match some xs[c], xs[c + 1]? with | some a, some b => if lt a b then c else c + 1 | _, _ => c) := by rw [← ha]; rfl
  cases hb : xs[c + 1]? with
  | none =>
    rw [hb] at hk
    rw [hk]
    exact ⟨_, ha, Nat.le_refl c, su_step h (su_pick_one fun z => by rw [List.getElem?_eq_getElem z] at hb; cases hb) (su_rest E hc hp ha (Nat.lt_trans h (Nat.lt_trans hl (by decide))))⟩
  | some b =>
    rw [hb] at hk
    have h2 := (List.getElem?_eq_some_iff.mp hb).1
    have hp2 := su_pick_two (W := W) (n := n) (p := p) (x := x) h2 (idx_list hc ha) (idx_list hc hb) (E.lt cs _ _)
    have hk : Hp.kid lt xs c = if lt xs[c] b then c else c + 1 := hk
    cases hlt : lt xs[c] b with
    | true =>
      rw [hlt] at hk hp2
      rw [show Hp.kid lt xs c = c from hk]
      exact ⟨_, ha, Nat.le_refl c, su_step h hp2 (su_rest E hc hp ha (Nat.lt_trans h (Nat.lt_trans hl (by decide))))⟩
    | false =>
      rw [hlt] at hk hp2
      rw [show Hp.kid lt xs c = c + 1 from hk]
      exact ⟨_, hb, Nat.le_succ c, su_step h hp2 (su_rest E hc hp hb (Nat.lt_trans h2 (Nat.lt_trans hl (by decide))))⟩
theorem su_loop (E : Enc enc lt) {x : AV} (g : Nat) : ∀ (p f : Nat) (xs : List α) (cs : Cells) (v6 : Option AV), xs.length ≤ g + p → xs.length < f + p → xs.length < 3000 → cs[i]? = some (.list (xs.map enc)) → p < xs.length →
    ∃ (v6' : Option AV), whileGo (stepW W n suTest suBody) f (suF i p xs.length x (2 * p + 1) v6) cs =
      some ⟨.next, suF i (Hp.su lt g xs p).2 xs.length x (2 * (Hp.su lt g xs p).2 + 1) v6', cs.set i (.list ((Hp.su lt g xs p).1.map enc))⟩ := by
  induction g with
  | zero => intro p f xs cs v6 hg _ _ _ hp; exact absurd hp (Nat.not_lt.mpr (Nat.zero_add p ▸ hg))
  | succ g ih =>
    intro p f xs cs v6 hg hf hl hc hp
    cases f with
    | zero => exact absurd (Nat.zero_add p ▸ hf) (Nat.lt_asymm hp)
    | succ f =>
    rw [Hp.su]
    by_cases h : 2 * p + 1 < xs.length
    · rw [if_pos h]
      obtain ⟨v, hv, hk, e⟩ := su_turn (W := W) (n := n) (v6 := v6) (x := x) E hl hc hp h
      rw [hv]
      have hkl : Hp.kid lt xs (2 * p + 1) < (xs.set p v).length := by rw [List.length_set]; exact (List.getElem?_eq_some_iff.mp hv).1
      have hpk : p + 1 ≤ Hp.kid lt xs (2 * p + 1) := Nat.le_trans (Nat.succ_le_succ (Nat.le_mul_of_pos_left p (by decide))) hk
      have hlen : (xs.set p v).length = xs.length := List.length_set ..
      have e' := ih (Hp.kid lt xs (2 * p + 1)) f (xs.set p v) (cs.set i (.list ((xs.set p v).map enc))) (some (.int ((2 * p + 1 + 1 : Nat) : Int))) (by rw [hlen]; exact Nat.le_trans hg (by rw [Nat.succ_add]; exact Nat.add_le_add_left hpk g)) (by rw [hlen]; exact Nat.lt_of_lt_of_le hf (by rw [Nat.succ_add]; exact Nat.add_le_add_left hpk f)) (by rw [hlen]; exact hl) (get_set_self hc) hkl
      rw [hlen, List.set_set] at e'
      exact e'.imp fun _ e' => wh_next e e'
    · rw [if_neg h]
      exact ⟨v6, (wh_brk (st_f (b_cmp rfl rfl (lt_false fun z => h (Int.ofNat_lt.mp z))))).trans (by rw [set_self hc])⟩
theorem len_list {β : Type} {f : β → AV} {xs : List β} (hc : cs[i]? = some (.list (xs.map f))) : callv W (.bi .len) [.ref i] n cs = some (.int (xs.length : Int), cs) := by
  show (listOf cs (.ref i)).map (fun ys => (AV.int (ys.length : Int), cs)) = _
  rw [list_of hc, Option.map_some, List.length_map]
theorem su_run (E : Enc enc lt) (hP : P.fs[2]? = some f__siftdown) (hQ : P.fs[3]? = some f__siftup) {xs : List α} {item : α} (hc : cs[i]? = some (.list (xs.map enc))) (hx : xs[0]? = some item) (hl : xs.length < 3000) :
    (callAt P (k + 2)).cf 3 [.ref i, .int 0] none cs = some (.none, cs.set i (.list ((Hp.fix lt item xs).map enc))) := by
  have hpl : 0 < xs.length := (List.getElem?_eq_some_iff.mp hx).1
  obtain ⟨v6, e⟩ := su_loop (W := callAt P (k + 1)) (n := cs.length) (x := enc item) E xs.length 0 loopFuel xs cs none (Nat.le_refl _) (Nat.lt_trans hl (by decide)) hl hc hpl
  have hu := Hp.su_len (lt := lt) xs.length xs 0 hpl
  unfold Hp.fix
  generalize Hp.su lt xs.length xs 0 = r at *
  have hset := set_list (n := cs.length) E (p := r.2) (v := item) (get_set_self (o' := .list (r.1.map enc)) hc) hu.1
  rw [List.set_set] at hset
  have hrun := sd_run (k := k) E hP (cs := cs.set i (.list ((r.1.set r.2 item).map enc))) (get_set_self hc) (List.getElem?_set_self hu.1) (Nat.lt_trans hu.1 (hu.2 ▸ hl))
  rw [List.set_set] at hrun
  exact call_run hQ below_ref (run_of rfl (ss_next (as_var (e_call rfl rfl (len_list hc)) (lt_ok rfl)) (ss_next (as_var rfl (lt_ok rfl)) (ss_next (as_var (e_idx rfl rfl (idx_list (p := 0) hc hx)) (lt_ok rfl)) (ss_next (as_var (e_bin (e_bin rfl rfl (mul_int (by decide) (by decide))) rfl rfl) (lt_ok rfl)) (ss_next e
    (ss_next (as_idx rfl rfl rfl (no_inst (get_set_self hc)) hset) (ss_next (s_expr (e_call rfl rfl hrun)) rfl))))))) rfl) rfl set_take
theorem append_list (E : Enc enc lt) {xs : List α} {x : α} (hc : cs[i]? = some (.list (xs.map enc))) (hl : xs.length < 2900) : mcall n (.ref i) .append [enc x] cs = some (.none, cs.set i (.list ((xs ++ [x]).map enc))) := by
  show (listAt cs i).bind (fun ys => if (put n i (enc x) && decide (ys.length < lim)) = true then some (AV.none, cs.set i (.list (ys ++ [enc x]))) else none) = _
  rw [list_at hc, Option.bind_some, if_pos, List.map_append]; · rfl
  rw [List.length_map, put, E.below, Bool.or_true, Bool.true_and]
  exact decide_eq_true (Nat.lt_trans hl (by decide))
theorem len_pred {L : Nat} {v : Int} (h : v + 1 = (L : Int)) : binv false .sub (.int (L : Int)) (.int 1) cs = some (.int v, cs) := by rw [← h]; exact congrArg (fun z : Int => some (AV.int z, cs)) (Int.add_sub_cancel v 1)
theorem push_run (E : Enc enc lt) (hP : P.fs[2]? = some f__siftdown) (hQ : P.fs[0]? = some f_heappush) {xs : List α} {x : α} (hc : cs[i]? = some (.list (xs.map enc))) (hl : xs.length < 2900) :
    (callAt P (k + 2)).cf 0 [.ref i, enc x] none cs = some (.none, cs.set i (.list ((Hp.push lt xs x).map enc))) := by
  have hg := get_set_self (o' := .list ((xs ++ [x]).map enc)) hc
  have hrun := sd_run (k := k) E hP hg (p := xs.length) (item := x) (List.getElem?_concat_length) (Nat.lt_trans hl (by decide))
  rw [List.set_set] at hrun
  exact call_run hQ below_ref (run_of rfl (ss_next (s_expr (e_meth rfl (es_cons rfl rfl) (no_inst hc) (meth_list hc rfl) (append_list E hc hl))) (ss_next (s_expr (e_call rfl (es_cons rfl (es_cons rfl (es_cons (e_bin (e_call rfl rfl (len_list hg)) rfl (len_pred (v := (xs.length : Int)) (by rw [List.length_append]; rfl))) rfl))) hrun)) rfl)) rfl) rfl set_take
theorem pop_list {ys : List AV} {v : AV} (hc : cs[i]? = some (.list ys)) (hl : ys.getLast? = some v) : mcall n (.ref i) .pop [] cs = some (v, cs.set i (.list ys.dropLast)) := by
  show (listAt cs i).bind (fun xs => (xs.getLast?).map fun v => (v, cs.set i (.list xs.dropLast))) = _
  rw [list_at hc, Option.bind_some, hl]; rfl
theorem truthy_list {ys : List AV} (hc : cs[i]? = some (.list ys)) : truthy cs (.ref i) = some (!ys.isEmpty) := by
  show (listOf cs (.ref i)).map (!·.isEmpty) = _
  rw [list_of hc]; rfl
theorem b_of {e : ME} {fr : Fr} {cs₁ : Cells} {x : AV} {t : Bool} (h : e W n fr cs = some (x, cs₁)) (ht : truthy cs₁ x = some t) : bOf e W n fr cs = some (t, cs₁) := bindE h (mapE ht rfl)
theorem pop_run (E : Enc enc lt) (hP : P.fs[2]? = some f__siftdown) (hQ : P.fs[3]? = some f__siftup) (hR : P.fs[1]? = some f_heappop) {xs : List α} {m : α} (hc : cs[i]? = some (.list ((m :: xs).map enc))) (hl : xs.length < 2900) :
    (callAt P (k + 3)).cf 1 [.ref i] none cs = some (enc m, cs.set i (.list ((Hp.rest lt (m :: xs)).map enc))) := by
  cases xs with
  | nil =>
    have hg := get_set_self (o' := .list []) hc
    exact call_run hR below_ref (run_of rfl (ss_next (as_var (e_meth rfl rfl (no_inst hc) (meth_list hc rfl) (pop_list hc rfl)) (lt_ok rfl)) (ss_next (s_if (b_of rfl (truthy_list hg)) rfl) (ss_ret (s_ret rfl)))) rfl) (E.below m) set_take
  | cons y ys =>
    have hrest : ∃ l zs, (m :: y :: ys).getLast? = some l ∧ (m :: y :: ys).dropLast = m :: zs ∧ zs.length = ys.length ∧ Hp.rest lt (m :: y :: ys) = Hp.fix lt l (l :: zs) :=
      ⟨(y :: ys).getLast (List.cons_ne_nil _ _), (y :: ys).dropLast, List.getLast?_eq_some_getLast (List.cons_ne_nil _ _), rfl, List.length_dropLast .., by unfold Hp.rest; rw [List.getLast?_eq_some_getLast (List.cons_ne_nil _ _)]; rfl⟩
    obtain ⟨l, zs, h1, h2, h3, hrest⟩ := hrest
    rw [hrest]
    have hp := pop_list (n := cs.length) (v := enc l) hc (by rw [List.getLast?_map, h1]; rfl)
    rw [← List.map_dropLast, h2] at hp
    have hg := get_set_self (o' := .list ((m :: zs).map enc)) hc
    have hset := set_list (n := cs.length) E (p := 0) (v := l) hg (Nat.succ_pos _)
    have hrun := su_run (k := k) E hP hQ (get_set_self (o' := .list (((m :: zs).set 0 l).map enc)) hg) (item := l) rfl (by rw [List.length_set, List.length_cons, h3]; exact Nat.lt_trans hl (by decide))
    rw [List.set_set] at hset hrun
    rw [List.set_set] at hrun
    exact call_run hR below_ref (run_of rfl (ss_next (as_var (e_meth rfl rfl (no_inst hc) (meth_list hc rfl) hp) (lt_ok rfl)) (ss_ret (s_if (b_of rfl (truthy_list hg)) (ss_next (as_var (e_idx rfl rfl (idx_list (p := 0) hg rfl)) (lt_ok rfl)) (ss_next (as_idx rfl rfl rfl (no_inst hg) hset) (ss_next (s_expr (e_call rfl rfl hrun)) (ss_ret (s_ret rfl)))))))) rfl) (E.below m) set_take
end Lib
end Ev
namespace Ev.Lib
section
variable {W : Wd} {n i f j : Nat} {fr fr₁ : Fr} {cs cs₁ cs₂ cs₃ : Cells} {xs : List AV} {x v : AV} {st : AV → Fr → Cells → Option Ou} {q : Option Ou}
theorem fc_end (hl : listAt cs i = some xs) (h : xs[j]? = none) : forCell st i (f + 1) j fr cs = some ⟨.next, fr, cs⟩ := bindE hl (by rw [h]; rfl)
theorem fc_next (hl : listAt cs i = some xs) (h : xs[j]? = some x) (hs : st x fr cs = some ⟨.next, fr₁, cs₁⟩) (h2 : forCell st i f (j + 1) fr₁ cs₁ = q) : forCell st i (f + 1) j fr cs = q := bindE hl (by rw [h]; exact bindE hs h2)
theorem fc_ret (hl : listAt cs i = some xs) (h : xs[j]? = some x) (hs : st x fr cs = some ⟨.ret v, fr₁, cs₁⟩) : forCell st i (f + 1) j fr cs = some ⟨.ret v, fr₁, cs₁⟩ := bindE hl (by rw [h]; exact bindE hs rfl)
variable {σ : Type} {cells : σ → Cells} {sg : AV → σ → Option σ} {s s' : σ} {r : Option σ}
theorem gc_end (hl : listAt (cells s) i = some xs) (h : xs[j]? = none) : goCell cells i sg (f + 1) j s = some s := bindE hl (by rw [h]; rfl)
theorem gc_next (hl : listAt (cells s) i = some xs) (h : xs[j]? = some x) (hs : sg x s = some s') (h2 : goCell cells i sg f (j + 1) s' = r) : goCell cells i sg (f + 1) j s = r := bindE hl (by rw [h]; exact bindE hs h2)
theorem drop_get {α : Type} {hl r : List α} {p : α} (h : hl.drop j = p :: r) : hl[j]? = some p ∧ hl.drop (j + 1) = r := by
  have h0 := List.getElem?_drop (xs := hl) (i := j) (j := 0)
  rw [h] at h0
  exact ⟨h0.symm, by rw [← List.drop_drop, h]; rfl⟩
noncomputable abbrev stC (W : Wd) (n : Nat) (elt : ME) (t : List Nat) (ifs : List MB) (fr : Fr) (x : AV) (s : List AV × Cells) : Option (List AV × Cells) := (bindN t x fr).bind fun fr' => (evAO W n true ifs fr' s.2).bind fun p => if p.1 then evC W n elt [] fr' p.2 s.1 else some (s.1, p.2)
theorem e_comp {m : Bool} {elt : ME} {k : Nat} {t : List Nat} {it : MI} {ifs : List MB} {i' : It} {acc : List AV} {z : Option (AV × Cells)} (hi : it.run W n fr cs = some (i', cs₁)) (hg : goIt (fun s : List AV × Cells => s.2) (stC W n elt t ifs (fr ++ List.replicate k none)) loopFuel i' ([], cs₁) = some (acc, cs₂)) (hm : mk m acc cs₂ = z) :
    eComp m elt [⟨k, t, it, ifs⟩] W n fr cs = z := bindE (bindE hi hg) hm
theorem i_val {e : ME} {i' : It} (h : e W n fr cs = some (x, cs₁)) (hi : itv cs₁ x = some i') : (iVal e).run W n fr cs = some (i', cs₁) := bindE h (mapE hi rfl)
theorem itv_cell (hc : cs[i]? = some (.list xs)) : itv cs (.ref i) = some (.cell i) := mapE (list_at hc) rfl
theorem s_for {t : List Nat} {it : MI} {b : List MS} {i' : It} (hi : it.run W n fr cs = some (i', cs₁)) (h : forGo (stepF W n t b) i' fr cs₁ = q) : sFor t it b W n fr cs = q := bindE hi h
theorem e_attr {o : ME} {nm : Tx} (h : o W n fr cs = some (x, cs₁)) (hv : attrv cs₁ x nm = some v) : eAttr o nm W n fr cs = some (v, cs₁) := bindE h (mapE hv rfl)
theorem e_ite {c : MB} {a b : ME} {t : Bool} {z : Option (AV × Cells)} (h : c W n fr cs = some (t, cs₁)) (h2 : (if t then a W n fr cs₁ else b W n fr cs₁) = z) : eIte c a b W n fr cs = z := bindE h h2
theorem e_tup2 {a b : ME} {y : AV} (h : a W n fr cs = some (x, cs₁)) (h2 : b W n fr cs₁ = some (y, cs₂)) : eTup [a, b] W n fr cs = some (.tup [x, y], cs₂) := bindE (es_cons h (es_cons h2 rfl)) rfl
end
variable {P : Prog} {k n i d l : Nat} {cs : Cells} {W : Wd}
noncomputable abbrev hTx : Tx := [95, 104, 101, 97, 100, 101, 114, 115]
noncomputable def encH (p : Tx × Tx) : AV := .tup [.str p.1, .str p.2]
structure Tab (cs : Cells) (i d l : Nat) (hl : List (Tx × Tx)) : Prop where
  inst : cs[i]? = some (.inst d)
  dict : cs[d]? = some (.idict [(hTx, .ref l)])
  list : cs[l]? = some (.list (hl.map encH))
theorem Tab.of {hl : List (Tx × Tx)} (t : Tab cs i d l hl) : instOf cs (.ref i) = some (d, [(hTx, .ref l)]) := by
  show ((cs[i]?).bind AObj.inst?).bind (fun d => ((cs[d]?).bind AObj.idict?).map fun es => (d, es)) = _
  rw [t.inst]
  show ((cs[d]?).bind AObj.idict?).map _ = _
  rw [t.dict]; rfl
theorem Tab.attr {hl : List (Tx × Tx)} (t : Tab cs i d l hl) : attrv cs (.ref i) hTx = some (.ref l) := bindE t.of rfl
theorem Tab.isI {hl : List (Tx × Tx)} (t : Tab cs i d l hl) : isInst cs (.ref i) = true := congrArg Option.isSome t.of
theorem Tab.ne {hl : List (Tx × Tx)} (t : Tab cs i d l hl) : l ≠ i ∧ l ≠ d := ⟨fun e => (by have := t.list; rw [e, t.inst] at this; cases this), fun e => (by have := t.list; rw [e, t.dict] at this; cases this)⟩
theorem Tab.put {hl hl' : List (Tx × Tx)} (t : Tab cs i d l hl) : Tab (cs.set l (.list (hl'.map encH))) i d l hl' :=
  ⟨by rw [List.getElem?_set_ne t.ne.1]; exact t.inst, by rw [List.getElem?_set_ne t.ne.2]; exact t.dict, get_set_self t.list⟩
theorem getApp {x : Cells} {j : Nat} {o : AObj} (e : cs[j]? = some o) : (cs ++ x)[j]? = some o := by
  rw [List.getElem?_append_left (List.getElem?_eq_some_iff.mp e).1]; exact e
theorem Tab.app {hl : List (Tx × Tx)} (t : Tab cs i d l hl) (x : Cells) : Tab (cs ++ x) i d l hl := ⟨getApp t.inst, getApp t.dict, getApp t.list⟩
theorem Tab.lt {hl : List (Tx × Tx)} (t : Tab cs i d l hl) : l < cs.length := (List.getElem?_eq_some_iff.mp t.list).1
theorem conv_run (hP : P.fs[8]? = some f__convert_string_type) {s : Tx} {b : Bool} (hs : s.all okSign = true) : (callAt P (k + 1)).cf 8 [.ref i, .str s] (some (.bool b)) cs = some (.str s, cs) := by
  have hm : ∀ j, j < 2 → mcall cs.length (.re j) .search [.str s] cs = some (.none, cs) := fun j hj => if_pos ⟨hj, hs⟩
  refine call_run hP below_ref (run_of rfl (ss_ret (s_if (b_cmp (e_call rfl rfl rfl) rfl (rfl : isv (.ty .str) (.ty .str) = some true)) (ss_next (as_var (v := .re (cond b 0 1)) (e_ite (b_of rfl (rfl : _ = some b)) (by cases b <;> rfl)) (lt_ok rfl)) (ss_next (s_if (b_of (e_meth rfl rfl rfl rfl (hm _ ?_)) (rfl : _ = some false)) rfl) (ss_ret (s_ret rfl)))))) rfl) rfl List.take_length
  cases b <;> decide
theorem mem_all {s : Tx} {p : Nat → Bool} (h : s.all p = true) (f : Nat → Nat) (hf : ∀ c, p c = true → p (f c) = true) : (s.map f).all p = true := by
  rw [List.all_map]
  exact List.all_eq_true.mpr fun c hc => hf c (List.all_eq_true.mp h c hc)
theorem low_ok {c : Nat} (h : okSign c = true) : okSign (lowC c) = true := by
  obtain ⟨h1, h2⟩ := Bool.and_eq_true_iff.mp h
  have h1 := of_decide_eq_true h1
  unfold lowC
  by_cases hc : 65 ≤ c ∧ c ≤ 90
  · rw [if_pos hc]
    exact Bool.and_eq_true_iff.mpr ⟨decide_eq_true (Nat.le_trans h1 (Nat.le_add_right c 32)), decide_eq_true (Nat.lt_of_le_of_lt (Nat.add_le_add_right hc.2 32) (by decide))⟩
  · rw [if_neg hc]; exact h
theorem ok_ascii {s : Tx} (h : s.all okSign = true) : ascii s = true :=
  List.all_eq_true.mpr fun c hc => decide_eq_true (Nat.lt_trans (of_decide_eq_true (Bool.and_eq_true_iff.mp (List.all_eq_true.mp h c hc)).2) (by decide))
theorem lower_run {s : Tx} (h : s.all okSign = true) : mcall n (.str s) .lower [] cs = some (.str (s.map lowC), cs) := if_pos (ok_ascii h)
theorem name_run (hP : P.fs[8]? = some f__convert_string_type) {hl : List (Tx × Tx)} (t : Tab cs i d l hl) {nm : Tx} {fr : Fr} (hn : nm.all okSign = true) (h0 : eVar 0 (callAt P (k + 1)) n fr cs = some (.ref i, cs)) (h1 : eVar 1 (callAt P (k + 1)) n fr cs = some (.str nm, cs)) :
    eMethk (eVar 0) 8 [eMeth (eVar 1) .lower none []] (eLit (.bool true)) (callAt P (k + 1)) n fr cs = some (.str (nm.map lowC), cs) :=
  e_ownk h0 (es_cons (e_meth h1 rfl rfl rfl (lower_run hn)) rfl) rfl t.isI (conv_run hP (mem_all hn lowC fun _ => low_ok))
theorem append_h {hl : List (Tx × Tx)} {a b : Tx} (hc : cs[l]? = some (.list (hl.map encH))) (hlen : hl.length < 3000) : mcall n (.ref l) .append [.tup [.str a, .str b]] cs = some (.none, cs.set l (.list ((hl ++ [(a, b)]).map encH))) := by
  refine bindE (f := fun ys => if (put n l (.tup [.str a, .str b]) && decide (ys.length < lim)) = true then some (AV.none, cs.set l (.list (ys ++ [.tup [.str a, .str b]]))) else none) (list_at hc) ?_
  rw [if_pos, List.map_append]; · rfl
  rw [List.length_map]
  exact Bool.and_eq_true_iff.mpr ⟨Bool.or_true _, decide_eq_true (Nat.lt_trans hlen (by decide))⟩
theorem mk_cell {xs : List AV} (h : xs.length ≤ lim) : mk true xs cs = some (.ref cs.length, cs ++ [.list xs]) := if_pos h
theorem app_get {x : Cells} {j : Nat} : (cs ++ x)[cs.length + j]? = x[j]? := by rw [List.getElem?_append_right (Nat.le_add_right ..), Nat.add_sub_cancel_left]
theorem app_set {x : Cells} {j : Nat} {o : AObj} : (cs ++ x).set (cs.length + j) o = cs ++ x.set j o := by rw [List.set_append_right _ _ (Nat.le_add_right ..), Nat.add_sub_cancel_left]
theorem add_run (hP : P.fs[8]? = some f__convert_string_type) (hQ : P.fs[14]? = some f_add_header) {hl : List (Tx × Tx)} (t : Tab cs i d l hl) (hlen : hl.length < 3000) {nm v : Tx} (hn : nm.all okSign = true) (hv : v.all okSign = true) (hvl : v.length ≤ lim) :
    (callAt P (k + 2)).cf 14 [.ref i, .str nm, .str v] none cs = some (.none, cs.set l (.list ((hl ++ [(nm, v)]).map encH))) := by
  have e0 : cs ++ [AObj.dict []] ++ [AObj.list []] = cs ++ [.dict [], .list []] := List.append_assoc ..
  have hmk : mk true [] (cs ++ [AObj.dict []]) = some (.ref (cs.length + 1), cs ++ [.dict [], .list []]) := by rw [mk_cell (Nat.zero_le _), e0, List.length_append]; rfl
  have t1 := t.app [.dict [], .list []]
  have t2 := t.app [.dict [], .list [.str v]]
  have g1 : (cs ++ [AObj.dict [], AObj.list []])[cs.length + 1]? = some (.list []) := app_get
  have g2 : (cs ++ [AObj.dict [], AObj.list [.str v]])[cs.length + 1]? = some (.list [.str v]) := app_get
  have g3 : (cs ++ [AObj.dict [], AObj.list [.str v]])[cs.length]? = some (.dict []) := app_get (j := 0)
  have hap : mcall cs.length (.ref (cs.length + 1)) .append [.str v] (cs ++ [.dict [], .list []]) = some (.none, cs ++ [.dict [], .list [.str v]]) := by
    refine bindE (f := fun ys => if (put cs.length (cs.length + 1) (.str v) && decide (ys.length < lim)) = true then some (AV.none, (cs ++ [AObj.dict [], AObj.list []]).set (cs.length + 1) (.list (ys ++ [.str v]))) else none) (list_at g1) ?_
    refine (if_pos (Bool.and_eq_true_iff.mpr ⟨Bool.or_true _, decide_eq_true (by decide)⟩)).trans ?_
    rw [app_set]; rfl
  have ha := append_h (n := cs.length) (a := nm) (b := v) t2.list hlen
  rw [List.set_append_left _ _ t.lt] at ha
  have hj : mcall cs.length (.str [59, 32]) .join [.ref (cs.length + 1)] (cs ++ [.dict [], .list [.str v]]) = some (.str v, cs ++ [.dict [], .list [.str v]]) :=
    bindE (f := fun xs => if (joinTx [59, 32] xs).length ≤ lim then some (AV.str (joinTx [59, 32] xs), cs ++ [AObj.dict [], .list [.str v]]) else none) (bindE (list_of g2) rfl) (if_pos hvl)
  have hit : sItems (eVar 3) (callAt P (k + 1)) cs.length [some (.ref i), some (.str nm), some (.str v), some (.ref cs.length), some (.ref (cs.length + 1)), none, none] (cs ++ [.dict [], .list [.str v]]) = some ⟨.next, [some (.ref i), some (.str nm), some (.str v), some (.ref cs.length), some (.ref (cs.length + 1)), none, none], cs ++ [.dict [], .list [.str v]]⟩ :=
    bindE rfl (bindE (bindE rfl (show dictAt _ _ = some [] from by unfold dictAt; rw [g3]; rfl)) rfl)
  refine call_run hQ below_ref (run_of rfl (ss_next (as_var (v := .ref (cs.length + 1)) (bindE rfl hmk) (lt_ok rfl)) (ss_next (s_if (b_cmp rfl rfl (rfl : _ = some true)) (ss_next (as_var (e_ownk rfl (es_cons rfl rfl) rfl t1.isI (conv_run hP hv)) (lt_ok rfl)) (ss_next (s_expr (e_meth rfl rfl (no_inst g1) (meth_list g1 rfl) hap)) rfl)))
    (ss_next hit (ss_next (s_expr (e_meth (e_attr rfl t2.attr) (es_cons (e_tup2 (e_ownk rfl (es_cons rfl rfl) rfl t2.isI (conv_run hP hn)) (e_meth rfl rfl rfl rfl hj)) rfl) (no_inst t2.list) (meth_list t2.list rfl) ha)) rfl)))) rfl) rfl ?_
  rw [List.take_append_of_le_length (Nat.le_of_eq (List.length_set ..).symm), set_take]
theorem new_run (hQ : P.fs[7]? = some f___init__) (hI : P.initN = 7) : (callAt P (k + 1)).new cs = some (.ref cs.length, cs ++ [.inst (cs.length + 1), .idict [(hTx, .ref (cs.length + 2))], .list []]) := by
  have e0 : cs ++ [AObj.inst (cs.length + 1), .idict []] ++ [AObj.list []] = cs ++ [.inst (cs.length + 1), .idict [], .list []] := List.append_assoc ..
  have hmk : mk true [] (cs ++ [.inst (cs.length + 1), .idict []]) = some (.ref (cs.length + 2), cs ++ [.inst (cs.length + 1), .idict [], .list []]) := by rw [mk_cell (Nat.zero_le _), e0, List.length_append]; rfl
  have g0 : (cs ++ [AObj.inst (cs.length + 1), .idict [], .list []])[cs.length]? = some (.inst (cs.length + 1)) := app_get (j := 0)
  have g1 : (cs ++ [AObj.inst (cs.length + 1), .idict [], .list []])[cs.length + 1]? = some (.idict []) := app_get
  have g2 : (cs ++ [AObj.inst (cs.length + 1), .idict [], .list []])[cs.length + 2]? = some (.list []) := app_get
  have g3 : (cs ++ [AObj.inst (cs.length + 1), .idict [(hTx, .ref (cs.length + 2))], .list []])[cs.length + 2]? = some (.list []) := app_get
  have ht : callv (callAt P k) (.ty .type) [.ref (cs.length + 2)] cs.length (cs ++ [.inst (cs.length + 1), .idict [], .list []]) = some (.ty .list, cs ++ [.inst (cs.length + 1), .idict [], .list []]) := mapE (list_of g2) rfl
  have hi : instOf (cs ++ [AObj.inst (cs.length + 1), .idict [], .list []]) (.ref cs.length) = some (cs.length + 1, []) :=
    bindE rfl (bindE (show instAt _ _ = some (cs.length + 1) from by unfold instAt; rw [g0]; rfl) (mapE (show idictAt _ _ = some [] from by unfold idictAt; rw [g1]; rfl) rfl))
  have hput : put cs.length (cs.length + 1) (.ref (cs.length + 2)) = true := by unfold put; rw [decide_eq_true (Nat.le_succ _)]; rfl
  have hset : (cs ++ [AObj.inst (cs.length + 1), .idict [], .list []]).set (cs.length + 1) (.idict (dput hTx (.ref (cs.length + 2)) [])) = cs ++ [.inst (cs.length + 1), .idict [(hTx, .ref (cs.length + 2))], .list []] := app_set
  have hta : sAssign (tAttr (eVar 0) hTx) (eVar 1) (callAt P k) cs.length [some (.ref cs.length), some (.ref (cs.length + 2)), none, none] (cs ++ [.inst (cs.length + 1), .idict [], .list []]) = some ⟨.next, [some (.ref cs.length), some (.ref (cs.length + 2)), none, none], cs ++ [.inst (cs.length + 1), .idict [(hTx, .ref (cs.length + 2))], .list []]⟩ :=
    bindE rfl (mapE (bindE rfl (bindE hi (if_pos hput))) (by rw [hset]))
  have hrun : f___init__.run (callAt P k) cs.length [.ref cs.length] none (cs ++ [.inst (cs.length + 1), .idict []]) = some (.none, cs ++ [.inst (cs.length + 1), .idict [(hTx, .ref (cs.length + 2))], .list []]) :=
    run_of rfl (ss_next (as_var (e_ite (b_cmp rfl rfl (rfl : _ = some false)) (bindE rfl hmk)) (lt_ok rfl)) (ss_next (s_if (b_cmp (e_call rfl rfl ht) rfl (rfl : _ = some false)) rfl) (ss_next hta (ss_next (s_if (b_of rfl (rfl : _ = some true)) (ss_next (s_for (i_val rfl (itv_cell g3)) (fc_end (f := 3999) (list_at g3) rfl)) rfl)) rfl)))) rfl
  show (P.fs[P.initN]?).bind (fun F => (F.run (callAt P k) cs.length [.ref cs.length] none (cs ++ [.inst (cs.length + 1), .idict []])).bind fun r => if r.1.none? then some (AV.ref cs.length, r.2) else none) = _
  rw [hI]
  exact bindE hQ (bindE hrun rfl)
end Ev.Lib
namespace Ev.Lib
variable {W : Wd} {n k : Nat} {t : List Nat} {fr : Fr} {cs : Cells} {ifs : List MB} {e : ME}
theorem goItems_pure {fx : AV → Fr} {b : AV → Bool} {g : AV → AV} (xs : List AV) : ∀ acc : List AV, (∀ x ∈ xs, bindN t x fr = some (fx x)) → (∀ x ∈ xs, evAO W n true ifs (fx x) cs = some (b x, cs)) → (∀ x ∈ xs, b x = true → e W n (fx x) cs = some (g x, cs)) → acc.length + xs.length ≤ lim →
    goItems (stC W n e t ifs fr) xs (acc, cs) = some (acc ++ (xs.filter b).map g, cs) := by
  induction xs with
  | nil => intro acc _ _ _ _; rw [List.filter_nil, List.map_nil, List.append_nil]; rfl
  | cons x xs ih =>
    intro acc h1 h2 h3 hl
    rw [List.length_cons] at hl
    have ih := fun acc => ih acc (fun y hy => h1 y (List.mem_cons_of_mem _ hy)) (fun y hy => h2 y (List.mem_cons_of_mem _ hy)) (fun y hy => h3 y (List.mem_cons_of_mem _ hy))
    have hb1 := h1 x List.mem_cons_self
    have hb2 := h2 x List.mem_cons_self
    cases hb : b x with
    | false =>
      rw [hb] at hb2
      rw [List.filter_cons_of_neg (by rw [hb]; exact Bool.false_ne_true)]
      exact bindE (x := (acc, cs)) (bindE hb1 (bindE hb2 rfl)) (ih acc (Nat.le_of_succ_le hl))
    | true =>
      rw [hb] at hb2
      rw [List.filter_cons_of_pos hb, List.map_cons]
      refine bindE (x := (acc ++ [g x], cs)) (bindE hb1 (bindE hb2 (bindE (h3 x List.mem_cons_self hb) (if_pos (Nat.lt_of_lt_of_le (Nat.lt_add_of_pos_right (Nat.succ_pos _)) hl))))) ?_
      refine (ih (acc ++ [g x]) (by rw [List.length_append, List.length_singleton, Nat.add_assoc, Nat.add_comm 1]; exact hl)).trans ?_
      rw [List.append_assoc]; rfl
theorem comp_pure {m : Bool} {it : MI} {fx : AV → Fr} {b : AV → Bool} {g : AV → AV} {xs : List AV} {z : Option (AV × Cells)} (hI : it.run W n fr cs = some (.items xs, cs)) (h1 : ∀ x ∈ xs, bindN t x (fr ++ List.replicate k none) = some (fx x)) (h2 : ∀ x ∈ xs, evAO W n true ifs (fx x) cs = some (b x, cs)) (h3 : ∀ x ∈ xs, b x = true → e W n (fx x) cs = some (g x, cs)) (hl : xs.length ≤ lim)
    (hm : mk m ((xs.filter b).map g) cs = z) : eComp m e [⟨k, t, it, ifs⟩] W n fr cs = z :=
  e_comp hI ((goItems_pure xs [] h1 h2 h3 (Nat.le_trans (Nat.le_of_eq (Nat.zero_add _)) hl)).trans (by rw [List.nil_append])) hm
theorem allStr_ones (l : List Nat) : allStr (l.map fun c => AV.str [c]) = some (l.map fun c => [c]) := by
  induction l with
  | nil => rfl
  | cons c l ih => exact bindE rfl (mapE ih rfl)
theorem joinTx_ones (l : List Nat) : joinTx [] (l.map fun c => [c]) = l := by
  induction l with
  | nil => rfl
  | cons c l ih => rw [List.map_cons, joinTx_cons, ih]; rfl
theorem allInt_map (l : List Int) : allInt (l.map AV.int) = some l := by
  induction l with
  | nil => rfl
  | cons c l ih => exact bindE rfl (mapE ih rfl)
theorem bsum {l : List Int} : callv W (.bi .sum) [.lst (l.map AV.int)] n cs = some (.int l.sum, cs) := mapE (f := fun xs : List Int => (AV.int xs.sum, cs)) (allInt_map l) rfl
end Ev.Lib
namespace Ev.Lib
section
variable {W : Wd} {n i k : Nat} {fr fr₁ : Fr} {cs cs₁ cs₂ cs₃ cs₄ : Cells} {a b e o : ME} {x y v z : AV} {ys xs : List AV} {as : List ME}
theorem idx_at (hc : cs[i]? = some (.list xs)) (hx : xs[k]? = some x) : idxv cs (.ref i) (.int (k : Int)) = some x := by
  show (listOf cs (.ref i)).bind (fun ys => (idxZ ys.length (k : Int)).bind fun k => ys[k]?) = _
  rw [list_of hc, Option.bind_some, idxZ_nat (List.getElem?_eq_some_iff.mp hx).1, Option.bind_some, hx]
theorem idx_lst (hx : xs[k]? = some x) : idxv cs (.lst xs) (.int (k : Int)) = some x := by
  show (idxZ xs.length (k : Int)).bind (fun k => xs[k]?) = _
  rw [idxZ_nat (List.getElem?_eq_some_iff.mp hx).1, Option.bind_some, hx]
theorem idx_str {s : Tx} {c : Nat} (hx : s[k]? = some c) : idxv cs (.str s) (.int (k : Int)) = some (.str [c]) := by
  show (idxZ s.length (k : Int)).bind (fun k => (s[k]?).map fun c => AV.str [c]) = _
  rw [idxZ_nat (List.getElem?_eq_some_iff.mp hx).1, Option.bind_some, hx]; rfl
theorem asg_t {is : List Nat} (h : e W n fr cs = some (.tup xs, cs₁)) (hl : is.length = xs.length) : sAsgT is e W n fr cs = some ⟨.next, setAll is xs fr, cs₁⟩ := bindE h (bindE rfl (if_pos hl))
theorem asg_l {is : List Nat} (h : e W n fr cs = some (.lst xs, cs₁)) (hl : is.length = xs.length) : sAsgT is e W n fr cs = some ⟨.next, setAll is xs fr, cs₁⟩ := bindE h (bindE rfl (if_pos hl))
theorem e_tup (h : evEs W n as fr cs = some (xs, cs₁)) (hl : xs.length ≤ 100) : eTup as W n fr cs = some (.tup xs, cs₁) := bindE h (if_pos (Nat.le_trans hl (by decide)))
theorem len_at (hc : cs[i]? = some (.list xs)) : callv W (.bi .len) [.ref i] n cs = some (.int (xs.length : Int), cs) := by
  show (listOf cs (.ref i)).map (fun ys => (AV.int (ys.length : Int), cs)) = _
  rw [list_of hc]; rfl
theorem e_slc {m : Bool} {lo hi : ME} {l h : AV} {q : Option (AV × Cells)} (ho : o W n fr cs = some (x, cs₁)) (hl : lo W n fr cs₁ = some (l, cs₂)) (hh : hi W n fr cs₂ = some (h, cs₃)) (hq : slcv m cs₃ x l h = q) : eSlc m o lo hi W n fr cs = q := bindE ho (bindE hl (bindE hh hq))
theorem e_neg {j : Int} (h : a W n fr cs = some (.int j, cs₁)) : eNeg a W n fr cs = some (.int (-j), cs₁) := bindE h rfl
end
theorem forItems_cons {st : AV → Fr → Cells → Option Ou} {x : AV} {r : List AV} {fr fr' : Fr} {cs cs' : Cells} {q : Option Ou} (h : st x fr cs = some ⟨.next, fr', cs'⟩) (h2 : forItems st r fr' cs' = q) : forItems st (x :: r) fr cs = q := bindE h h2
theorem forItems_ret {st : AV → Fr → Cells → Option Ou} {x v : AV} {r : List AV} {fr fr' : Fr} {cs cs' : Cells} (h : st x fr cs = some ⟨.ret v, fr', cs'⟩) : forItems st (x :: r) fr cs = some ⟨.ret v, fr', cs'⟩ := bindE h rfl
theorem mk_lst {l : List AV} {cs : Cells} (hl : l.length ≤ 1000) : mk false l cs = some (.lst l, cs) := if_pos (Nat.le_trans hl (by decide))
theorem filter_all {α : Type} {l : List α} : (l.filter fun _ => true) = l := List.filter_eq_self.mpr fun _ _ => rfl
theorem goCell_pure {W : Wd} {n l : Nat} {t : List Nat} {fr : Fr} {cs : Cells} {ifs : List MB} {e : ME} {fx : AV → Fr} {b : AV → Bool} {g : AV → AV} {xs : List AV} (hc : cs[l]? = some (.list xs)) (h1 : ∀ x ∈ xs, bindN t x fr = some (fx x)) (h2 : ∀ x ∈ xs, evAO W n true ifs (fx x) cs = some (b x, cs)) (h3 : ∀ x ∈ xs, b x = true → e W n (fx x) cs = some (g x, cs)) (r : List AV) :
    ∀ (f j : Nat) (acc : List AV), xs.drop j = r → r.length < f → acc.length + r.length ≤ lim → goCell (fun s : List AV × Cells => s.2) l (stC W n e t ifs fr) f j (acc, cs) = some (acc ++ (r.filter b).map g, cs) := by
  induction r with
  | nil =>
    intro f j acc hd hf ha
    obtain ⟨f, rfl⟩ := Nat.exists_eq_succ_of_ne_zero (Nat.ne_of_gt hf)
    exact (gc_end (s := (acc, cs)) (list_at hc) (List.getElem?_eq_none (List.drop_eq_nil_iff.mp hd))).trans (by rw [List.filter_nil, List.map_nil, List.append_nil])
  | cons x r ih =>
    intro f j acc hd hf ha
    obtain ⟨f, rfl⟩ := Nat.exists_eq_succ_of_ne_zero (Nat.ne_of_gt (Nat.lt_of_le_of_lt (Nat.zero_le _) hf))
    obtain ⟨h0, hd'⟩ := drop_get hd
    have hm := List.mem_of_getElem? h0
    rw [List.length_cons] at ha
    have hll : acc.length < lim := Nat.lt_of_lt_of_le (Nat.lt_add_of_pos_right (Nat.succ_pos _)) ha
    have hb1 := h1 x hm
    have hb2 := h2 x hm
    cases hb : b x with
    | false =>
      rw [hb] at hb2
      rw [List.filter_cons_of_neg (by rw [hb]; exact Bool.false_ne_true)]
      exact gc_next (s := (acc, cs)) (list_at hc) h0 (bindE hb1 (bindE hb2 rfl)) (ih f (j + 1) acc hd' (Nat.lt_of_succ_lt_succ hf) (Nat.le_of_succ_le ha))
    | true =>
      rw [hb] at hb2
      rw [List.filter_cons_of_pos hb, List.map_cons]
      refine gc_next (s := (acc, cs)) (s' := (acc ++ [g x], cs)) (list_at hc) h0 (bindE hb1 (bindE hb2 (bindE (h3 x hm hb) (if_pos hll)))) ?_
      rw [ih f (j + 1) (acc ++ [g x]) hd' (Nat.lt_of_succ_lt_succ hf) (by rw [List.length_append, List.length_singleton, Nat.add_assoc, Nat.add_comm 1]; exact ha), List.append_assoc]
      rfl
theorem comp_cell {W : Wd} {n k l : Nat} {t : List Nat} {fr : Fr} {cs : Cells} {ifs : List MB} {e : ME} {m : Bool} {it : MI} {fx : AV → Fr} {b : AV → Bool} {g : AV → AV} {xs : List AV} {z : Option (AV × Cells)} (hI : it.run W n fr cs = some (.cell l, cs)) (hc : cs[l]? = some (.list xs)) (h1 : ∀ x ∈ xs, bindN t x (fr ++ List.replicate k none) = some (fx x)) (h2 : ∀ x ∈ xs, evAO W n true ifs (fx x) cs = some (b x, cs)) (h3 : ∀ x ∈ xs, b x = true → e W n (fx x) cs = some (g x, cs)) (hl : xs.length < 3000)
    (hm : mk m ((xs.filter b).map g) cs = z) : eComp m e [⟨k, t, it, ifs⟩] W n fr cs = z :=
  e_comp hI ((goCell_pure hc h1 h2 h3 xs loopFuel 0 [] rfl (Nat.lt_trans hl (by decide)) (Nat.le_trans (Nat.le_of_eq (Nat.zero_add _)) (Nat.le_of_lt (Nat.lt_trans hl (by decide))))).trans (by rw [List.nil_append])) hm
theorem rangeL_map (m : Nat) : ∀ i : Nat, rangeL (i : Int) 1 m = (List.range' i m).map fun k : Nat => AV.int (k : Int) := by
  induction m with
  | zero => intro i; rfl
  | succ m ih => intro i; show AV.int i :: rangeL ((i + 1 : Nat) : Int) 1 m = _; rw [ih]; rfl
theorem range_list (m : Nat) : rangeL 0 1 m = (List.range m).map fun k : Nat => AV.int (k : Int) := by rw [List.range_eq_range']; exact rangeL_map m 0
theorem range_of {m : Nat} (h : m ≤ 1000) : rangeOf [(m : Int)] = some ((List.range m).map fun k : Nat => AV.int (k : Int)) := by
  show (if near _ = true then some (rangeL 0 1 ((m : Int)).toNat) else none) = _
  rw [Int.toNat_natCast, if_pos, range_list]
  exact decide_eq_true ⟨by omega, by omega⟩
theorem i_range {W : Wd} {n : Nat} {fr : Fr} {cs cs₁ : Cells} {es : List ME} {q xs : List AV} (h : evEs W n es fr cs = some (q, cs₁)) (h2 : (allInt q).bind rangeOf = some xs) : (iRange es).run W n fr cs = some (.items xs, cs₁) := bindE h (mapE h2 rfl)
theorem cf_closed {P : Prog} {k j : Nat} {F : Fn} {args : List AV} {cs cs' : Cells} {v : AV} (h : P.fs[j]? = some F) (hb : belows 0 args = true) (hr : F.run (callAt P k) 0 args none [] = some (v, cs')) (hv : below 0 v = true) : (callAt P (k + 1)).cf j args none cs = some (v, cs) := by
  refine bindE (f := fun F => closed (callAt P k) F args none cs) h ?_
  show orElse (if (belows 0 args && true) = true then (F.run (callAt P k) 0 args none []).bind fun r => if below 0 r.1 = true then some r.1 else none else none) (fun v => some (v, cs)) _ = _
  rw [hb, hr, if_pos (by rfl), Option.bind_some, if_pos hv]; rfl
theorem bel_map {α : Type} {f : α → AV} (hf : ∀ x, below 0 (f x) = true) (l : List α) : belows 0 (l.map f) = true := by
  induction l with
  | nil => rfl
  | cons x r ih => exact Bool.and_eq_true_iff.mpr ⟨hf x, ih⟩
theorem bel_ints (l : List Int) : belows 0 (l.map AV.int) = true := bel_map (fun _ => rfl) l
theorem ss_app {W : Wd} {n : Nat} {r : List MS} {fr₁ : Fr} {cs₁ : Cells} {q : Option Ou} (l : List MS) : ∀ {fr : Fr} {cs : Cells}, evSs W n l fr cs = some ⟨.next, fr₁, cs₁⟩ → evSs W n r fr₁ cs₁ = q → evSs W n (l ++ r) fr cs = q := by
  induction l with
  | nil =>
    intro fr cs h h2
    have e : (Ou.mk .next fr cs) = Ou.mk .next fr₁ cs₁ := Option.some.inj h
    rw [show fr = fr₁ from congrArg Ou.fr e, show cs = cs₁ from congrArg Ou.cs e]
    exact h2
  | cons s l ih =>
    intro fr cs h h2
    unfold evSs at h
    cases hs : s W n fr cs with
    | none => rw [hs] at h; cases h
    | some o =>
      rw [hs] at h
      refine bindE hs ?_
      obtain ⟨fl, fr', cs'⟩ := o
      cases fl with
      | next => exact ih h h2
      | brk => cases h
      | cont => cases h
      | ret v => cases h
theorem eq_nil {xs : List AV} {cs : Cells} : cmpv cs .eq (.lst xs) (.lst []) = some xs.isEmpty := by
  cases xs with
  | nil => rfl
  | cons x r => rfl
theorem ne_nil {xs : List AV} {cs : Cells} : cmpv cs .ne (.lst xs) (.lst []) = some (!xs.isEmpty) := by
  cases xs with
  | nil => rfl
  | cons x r => rfl
theorem ne_cell {cs : Cells} {i : Nat} {xs : List AV} (hc : cs[i]? = some (.list xs)) : cmpv cs .ne (.ref i) (.lst []) = some (!xs.isEmpty) := by
  show ((listOf cs (.ref i)).bind (fun xs => (listOf cs (.lst [])).bind fun ys => if xs.length = ys.length then eqvs (eqv cs 7) xs ys else some false)).map (!·) = _
  rw [list_of hc]
  cases xs with
  | nil => rfl
  | cons x r => rfl
noncomputable def headTx (x : AV) : Tx := (((x.tup?.getD []).head?).bind AV.str?).getD []
theorem all_run {P : Prog} {k i d l : Nat} {cs : Cells} (hP : P.fs[8]? = some f__convert_string_type) (hQ : P.fs[11]? = some f_get_all) {hl : List (Tx × Tx)} (t : Tab cs i d l hl) (hk : ∀ p ∈ hl, p.1.all okSign = true) (hlen : hl.length ≤ 1000) {nm : Tx} (hn : nm.all okSign = true) :
    (callAt P (k + 2)).cf 11 [.ref i, .str nm] none cs = some (.lst ((hl.filter fun p => decide (p.1.map lowC = nm.map lowC)).map fun p => .str p.2), cs) := by
  have hnm := as_var (i := 1) (name_run (P := P) (k := k) (n := cs.length) (fr := [some (.ref i), some (.str nm)]) hP t hn rfl rfl) (lt_ok rfl)
  have hc : eComp false (eIdx (eVar 2) (eLit (.int 1))) [⟨1, [2], iVal (eAttr (eVar 0) hTx), [bCmp .eq (eMeth (eIdx (eVar 2) (eLit (.int 0))) .lower none []) (eVar 1)]⟩] (callAt P (k + 1)) cs.length [some (.ref i), some (.str (nm.map lowC))] cs = some (.lst ((hl.filter fun p => decide (p.1.map lowC = nm.map lowC)).map fun p => .str p.2), cs) := by
    refine comp_cell (fx := fun x => [some (.ref i), some (.str (nm.map lowC)), some x]) (b := fun x => decide ((headTx x).map lowC = nm.map lowC)) (g := fun x => (x.tup?.getD []).getD 1 .none) (i_val (e_attr rfl t.attr) (itv_cell t.list)) t.list (fun x hx => rfl) (fun x hx => ?_) (fun x hx _ => ?_) (by rw [List.length_map]; exact Nat.lt_of_le_of_lt hlen (by decide)) ?_
    · obtain ⟨p, hp, rfl⟩ := List.mem_map.mp hx
      exact ao_one (b_cmp (e_meth (e_idx rfl rfl rfl) rfl rfl rfl (lower_run (hk p hp))) rfl (by rw [eq_str]; exact congrArg some (Bool.eq_iff_iff.mpr (by rw [beq_iff_eq, decide_eq_true_iff]; exact Iff.rfl))))
    · obtain ⟨p, hp, rfl⟩ := List.mem_map.mp hx
      exact e_idx rfl rfl rfl
    · rw [List.filter_map, List.map_map]
      exact mk_lst (by rw [List.length_map]; exact Nat.le_trans (List.length_filter_le _ _) hlen)
  exact call_run hQ below_ref (run_of rfl (ss_next hnm (ss_ret (s_ret hc))) rfl) (bel_map (fun _ => rfl) _) List.take_length
end Ev.Lib
namespace Bf
structure En (σ C : Type) where
  size : Nat
  word : List C
  st : σ
section
variable {σ C : Type} [DecidableEq σ] (lt : En σ C → En σ C → Bool) (step : σ → C → σ) (goal dead : σ → Bool) (cs : List C)
noncomputable def run (s : σ) (w : List C) : σ := w.foldl step s
noncomputable def push1 (e : En σ C) (hm : List (En σ C) × List σ) (c : C) : List (En σ C) × List σ :=
  if dead (step e.st c) = false ∧ step e.st c ∉ hm.2 then (Hp.push lt hm.1 ⟨e.size + 1, e.word ++ [c], step e.st c⟩, hm.2 ++ [step e.st c]) else hm
noncomputable def spread (e : En σ C) (hm : List (En σ C) × List σ) : List (En σ C) × List σ := cs.foldl (push1 lt step dead e) hm
noncomputable def go : Nat → List (En σ C) → List σ → Option (Option (En σ C))
  | 0, _, _ => none
  | f + 1, xs, ms => match xs with
    | [] => some none
    | e :: r => if goal e.st then some (some e) else go f (spread lt step dead cs e (Hp.rest lt (e :: r), ms)).1 (spread lt step dead cs e (Hp.rest lt (e :: r), ms)).2
noncomputable def Good : σ → List C → Prop
  | _, [] => True
  | s, c :: w => goal s = false ∧ c ∈ cs ∧ dead (step s c) = false ∧ Good (step s c) w
variable (start : σ) (U : List σ)
structure Sys : Prop where
  to : Hp.TO lt
  size : ∀ a b, lt a b = false → b.size ≤ a.size
  univ : ∀ s ∈ U, ∀ c ∈ cs, dead (step s c) = false → step s c ∈ U
structure EnOk (ms : List σ) (e : En σ C) : Prop where
  good : Good step goal dead cs start e.word
  len : e.word.length = e.size
  run : run step start e.word = e.st
  met : e.st ∈ ms
  cs : ∀ c ∈ e.word, c ∈ cs
structure Inv (xs : List (En σ C)) (ms ps : List σ) : Prop where
  heap : Hp.Heap lt xs
  ent : ∀ e ∈ xs, EnOk step goal dead cs start ms e
  clo : ∀ s ∈ ms, s ∈ ps ∨ ∃ e ∈ xs, e.st = s
  pgo : ∀ s ∈ ps, goal s = false
  pcl : ∀ s ∈ ps, ∀ c ∈ cs, dead (step s c) = false → step s c ∈ ms
  two : ∀ e ∈ xs, ∀ e' ∈ xs, e.size ≤ e'.size + 1
  reach : ∀ u, Good step goal dead cs start u → run step start u ∈ ps ∨ ∃ e ∈ xs, ∃ v, Good step goal dead cs e.st v ∧ run step e.st v = run step start u ∧ e.size + v.length ≤ u.length
  nd : ms.Nodup
  sub : ∀ s ∈ ms, s ∈ U
end
theorem nodup_le {α : Type} [DecidableEq α] {l : List α} : ∀ {m : List α}, l.Nodup → (∀ x ∈ l, x ∈ m) → l.length ≤ m.length := by
  induction l with
  | nil => intro m _ _; exact Nat.zero_le _
  | cons a l ih =>
    intro m hn hs
    obtain ⟨h1, h2⟩ := List.nodup_cons.mp hn
    have ha := hs a List.mem_cons_self
    have hl := ih (m := m.erase a) h2 fun x hx => (List.mem_erase_of_ne (fun e => h1 (by rw [← e]; exact hx))).mpr (hs x (List.mem_cons_of_mem _ hx))
    rw [List.length_erase_of_mem ha] at hl
    rw [List.length_cons]
    have := List.length_pos_of_mem ha
    omega
section
variable {σ C : Type} [DecidableEq σ] {lt : En σ C → En σ C → Bool} {step : σ → C → σ} {goal dead : σ → Bool} {cs : List C} {start : σ} {U : List σ}
structure Mid (step : σ → C → σ) (dead : σ → Bool) (cs : List C) (lt : En σ C → En σ C → Bool) (e : En σ C) (xs : List (En σ C)) (ms : List σ) (l : List C) (hm : List (En σ C) × List σ) : Prop where
  heap : Hp.Heap lt hm.1
  old : ∀ x ∈ xs, x ∈ hm.1
  ent : ∀ x ∈ hm.1, x ∈ xs ∨ ∃ c ∈ cs, x = ⟨e.size + 1, e.word ++ [c], step e.st c⟩ ∧ x.st ∈ hm.2 ∧ dead x.st = false
  keep : ∀ s ∈ ms, s ∈ hm.2
  new : ∀ s ∈ hm.2, s ∈ ms ∨ ((∃ x ∈ hm.1, x.st = s) ∧ ∃ c ∈ cs, s = step e.st c ∧ dead s = false)
  all : ∀ c ∈ l, dead (step e.st c) = false → step e.st c ∈ hm.2
  nd : hm.2.Nodup
  len : hm.1.length + ms.length = xs.length + hm.2.length
theorem Mid.push (T : Hp.TO lt) {e : En σ C} {xs : List (En σ C)} {ms : List σ} {l : List C} {hm : List (En σ C) × List σ} (M : Mid step dead cs lt e xs ms l hm) {c : C} (hc : c ∈ cs) : Mid step dead cs lt e xs ms (l ++ [c]) (push1 lt step dead e hm c) := by
  unfold push1
  by_cases h : dead (step e.st c) = false ∧ step e.st c ∉ hm.2
  · rw [if_pos h]
    have hp : ∀ x, x ∈ Hp.push lt hm.1 ⟨e.size + 1, e.word ++ [c], step e.st c⟩ ↔ x = ⟨e.size + 1, e.word ++ [c], step e.st c⟩ ∨ x ∈ hm.1 := fun x => (Hp.push_perm hm.1 _).mem_iff.trans List.mem_cons
    refine ⟨Hp.push_heap T M.heap _, fun x hx => (hp x).mpr (.inr (M.old x hx)), fun x hx => ?_, fun s hs => List.mem_append_left _ (M.keep s hs), fun s hs => ?_, fun d hd hdd => ?_, ?_, ?_⟩
    · rcases (hp x).mp hx with rfl | hx
      · exact .inr ⟨c, hc, rfl, List.mem_append_right _ List.mem_cons_self, h.1⟩
      · rcases M.ent x hx with h | ⟨d, hd, he, hm, hdd⟩
        · exact .inl h
        · exact .inr ⟨d, hd, he, List.mem_append_left _ hm, hdd⟩
    · rcases List.mem_append.mp hs with hs | hs
      · rcases M.new s hs with h | ⟨⟨x, hx, he⟩, h⟩
        · exact .inl h
        · exact .inr ⟨⟨x, (hp x).mpr (.inr hx), he⟩, h⟩
      · obtain rfl := List.mem_singleton.mp hs
        exact .inr ⟨⟨_, (hp _).mpr (.inl rfl), rfl⟩, c, hc, rfl, h.1⟩
    · rcases List.mem_append.mp hd with hd | hd
      · exact List.mem_append_left _ (M.all d hd hdd)
      · rw [List.mem_singleton.mp hd]; exact List.mem_append_right _ List.mem_cons_self
    · exact List.nodup_append.mpr ⟨M.nd, List.nodup_cons.mpr ⟨List.not_mem_nil, List.nodup_nil⟩, fun a ha b hb e => h.2 (by rw [← List.mem_singleton.mp hb, ← e]; exact ha)⟩
    · rw [(Hp.push_perm hm.1 _).length_eq, List.length_cons, List.length_append, List.length_singleton]
      have := M.len
      omega
  · rw [if_neg h]
    refine { M with all := fun d hd hdd => ?_ }
    rcases List.mem_append.mp hd with hd | hd
    · exact M.all d hd hdd
    · rw [List.mem_singleton.mp hd] at hdd ⊢
      exact Classical.byContradiction fun z => h ⟨hdd, z⟩
theorem mid_all (T : Hp.TO lt) {e : En σ C} {xs : List (En σ C)} {ms : List σ} (r : List C) : ∀ {l : List C} {hm : List (En σ C) × List σ}, (∀ c ∈ r, c ∈ cs) → Mid step dead cs lt e xs ms l hm → Mid step dead cs lt e xs ms (l ++ r) (r.foldl (push1 lt step dead e) hm) := by
  induction r with
  | nil => intro l hm _ M; rw [List.append_nil]; exact M
  | cons c r ih =>
    intro l hm hr M
    have := ih (fun d hd => hr d (List.mem_cons_of_mem _ hd)) (M.push T (hr c List.mem_cons_self))
    rw [List.append_assoc] at this
    exact this
theorem run_snoc (s : σ) (w : List C) (c : C) : run step s (w ++ [c]) = step (run step s w) c := by unfold run; rw [List.foldl_append]; rfl
theorem good_snoc {c : C} (w : List C) : ∀ {s : σ}, Good step goal dead cs s w → goal (run step s w) = false → c ∈ cs → dead (step (run step s w) c) = false → Good step goal dead cs s (w ++ [c]) := by
  induction w with
  | nil => intro s _ h1 h2 h3; exact ⟨h1, h2, h3, trivial⟩
  | cons d w ih => intro s h h1 h2 h3; exact ⟨h.1, h.2.1, h.2.2.1, ih h.2.2.2 h1 h2 h3⟩
theorem turn (S : Sys lt step dead cs U) {e : En σ C} {r : List (En σ C)} {ms ps : List σ} (I : Inv lt step goal dead cs start U (e :: r) ms ps) (hg : goal e.st = false) :
    Inv lt step goal dead cs start U (spread lt step dead cs e (Hp.rest lt (e :: r), ms)).1 (spread lt step dead cs e (Hp.rest lt (e :: r), ms)).2 (e.st :: ps) ∧
    (spread lt step dead cs e (Hp.rest lt (e :: r), ms)).1.length + ms.length + 1 = (e :: r).length + (spread lt step dead cs e (Hp.rest lt (e :: r), ms)).2.length ∧ ∀ x ∈ (spread lt step dead cs e (Hp.rest lt (e :: r), ms)).1, x.size ≤ e.size + 1 := by
  obtain ⟨h1, h2, h3⟩ := Hp.rest_spec S.to I.heap
  have hmin : ∀ x ∈ e :: r, e.size ≤ x.size := fun x hx => S.size x e (h3 x hx)
  have hmem : ∀ x, x ∈ e :: r ↔ x = e ∨ x ∈ Hp.rest lt (e :: r) := fun x => h2.mem_iff.symm.trans List.mem_cons
  have e0 := I.ent e List.mem_cons_self
  have M : Mid step dead cs lt e (Hp.rest lt (e :: r)) ms ([] ++ cs) (spread lt step dead cs e (Hp.rest lt (e :: r), ms)) :=
    mid_all S.to cs (fun c hc => hc) ⟨h1, fun x hx => hx, fun x hx => .inl hx, fun s hs => hs, fun s hs => .inl hs, fun c hc => (nomatch hc), I.nd, rfl⟩
  rw [List.nil_append] at M
  have hlen := h2.length_eq
  rw [List.length_cons] at hlen
  generalize spread lt step dead cs e (Hp.rest lt (e :: r), ms) = hm at M
  generalize Hp.rest lt (e :: r) = xs at M hmem hlen
  have hsz : ∀ x ∈ hm.1, e.size ≤ x.size ∧ x.size ≤ e.size + 1 := fun x hx => by
    rcases M.ent x hx with h | ⟨c, _, rfl, _, _⟩
    · have hx' := (hmem x).mpr (.inr h)
      exact ⟨hmin x hx', I.two x hx' e List.mem_cons_self⟩
    · exact ⟨Nat.le_succ _, Nat.le_refl _⟩
  have clo : ∀ s ∈ hm.2, s ∈ e.st :: ps ∨ ∃ x ∈ hm.1, x.st = s := fun s hs => by
    rcases M.new s hs with h | ⟨h, _⟩
    · rcases I.clo s h with h | ⟨x, hx, rfl⟩
      · exact .inl (List.mem_cons_of_mem _ h)
      · rcases (hmem x).mp hx with rfl | hx
        · exact .inl List.mem_cons_self
        · exact .inr ⟨x, M.old x hx, rfl⟩
    · exact .inr h
  have pcl : ∀ s ∈ e.st :: ps, ∀ c ∈ cs, dead (step s c) = false → step s c ∈ hm.2 := fun s hs c hc hd => by
    rcases List.mem_cons.mp hs with rfl | hs
    · exact M.all c hc hd
    · exact M.keep _ (I.pcl s hs c hc hd)
  have far : ∀ (v : List C) (t : σ), t ∈ hm.2 → Good step goal dead cs t v → run step t v ∈ e.st :: ps ∨ ∃ x ∈ hm.1, ∃ w, Good step goal dead cs x.st w ∧ run step x.st w = run step t v ∧ x.size + w.length ≤ e.size + 1 + v.length := by
    intro v
    induction v with
    | nil =>
      intro t ht hgd
      rcases clo t ht with h | ⟨x, hx, rfl⟩
      · exact .inl h
      · exact .inr ⟨x, hx, [], trivial, rfl, (hsz x hx).2⟩
    | cons c v ih =>
      intro t ht hgd
      rcases clo t ht with h | ⟨x, hx, rfl⟩
      · rcases ih (step t c) (pcl t h c hgd.2.1 hgd.2.2.1) hgd.2.2.2 with h | ⟨x, hx, w, g, e1, e2⟩
        · exact .inl h
        · exact .inr ⟨x, hx, w, g, e1, Nat.le_trans e2 (Nat.add_le_add_left (Nat.le_succ _) _)⟩
      · exact .inr ⟨x, hx, c :: v, hgd, rfl, Nat.add_le_add_right (hsz x hx).2 _⟩
  refine ⟨⟨M.heap, fun x hx => ?_, clo, fun s hs => ?_, pcl, fun x hx y hy => Nat.le_trans (hsz x hx).2 (Nat.succ_le_succ (hsz y hy).1), fun u hu => ?_, M.nd, fun s hs => ?_⟩, ?_, fun x hx => (hsz x hx).2⟩
  · rcases M.ent x hx with h | ⟨c, hc, rfl, hm', hdd⟩
    · have o := I.ent x ((hmem x).mpr (.inr h))
      exact ⟨o.good, o.len, o.run, M.keep _ o.met, o.cs⟩
    · refine ⟨good_snoc e.word e0.good (by rw [e0.run]; exact hg) hc (by rw [e0.run]; exact hdd), by rw [List.length_append, e0.len]; rfl, by rw [run_snoc, e0.run], hm', fun d hd => ?_⟩
      rcases List.mem_append.mp hd with hd | hd
      · exact e0.cs d hd
      · rw [List.mem_singleton.mp hd]; exact hc
  · rcases List.mem_cons.mp hs with rfl | hs
    · exact hg
    · exact I.pgo s hs
  · rcases I.reach u hu with h | ⟨x, hx, v, g, e1, e2⟩
    · exact .inl (List.mem_cons_of_mem _ h)
    · rcases (hmem x).mp hx with rfl | hx
      · cases v with
        | nil => exact .inl (by rw [← e1]; exact List.mem_cons_self)
        | cons c v =>
          rcases far v (step x.st c) (M.all c g.2.1 g.2.2.1) g.2.2.2 with h | ⟨y, hy, w, g', e3, e4⟩
          · exact .inl (e1 ▸ h)
          · refine .inr ⟨y, hy, w, g', e3.trans e1, Nat.le_trans e4 (Nat.le_trans (Nat.le_of_eq ?_) e2)⟩
            rw [List.length_cons]; omega
      · exact .inr ⟨x, M.old x hx, v, g, e1, e2⟩
  · rcases M.new s hs with h | ⟨_, c, hc, rfl, hd⟩
    · exact I.sub s h
    · exact S.univ _ (I.sub _ e0.met) c hc hd
  · have := M.len
    rw [List.length_cons]
    rw [List.length_cons] at hlen
    omega
noncomputable def Found (step : σ → C → σ) (goal dead : σ → Bool) (cs : List C) (start : σ) : Option (En σ C) → Prop
  | none => ∀ u, Good step goal dead cs start u → goal (run step start u) = false
  | some e => Good step goal dead cs start e.word ∧ e.word.length = e.size ∧ run step start e.word = e.st ∧ goal e.st = true ∧ (∀ c ∈ e.word, c ∈ cs) ∧ ∀ u, Good step goal dead cs start u → goal (run step start u) = true → e.size ≤ u.length
theorem go_found (S : Sys lt step dead cs U) : ∀ (f : Nat) {xs : List (En σ C)} {ms ps : List σ}, Inv lt step goal dead cs start U xs ms ps → xs.length + U.length < f + ms.length → ∃ r, go lt step goal dead cs f xs ms = some r ∧ Found step goal dead cs start r := by
  intro f
  induction f with
  | zero =>
    intro xs ms ps I h
    have := nodup_le I.nd I.sub
    omega
  | succ f ih =>
    intro xs ms ps I h
    cases xs with
    | nil =>
      refine ⟨none, rfl, fun u hu => ?_⟩
      rcases I.reach u hu with h | ⟨x, hx, _⟩
      · exact I.pgo _ h
      · cases hx
    | cons e r =>
      unfold go
      dsimp only
      cases hg : goal e.st with
      | true =>
        have o := I.ent e List.mem_cons_self
        refine ⟨some e, if_pos rfl, o.good, o.len, o.run, hg, o.cs, fun u hu hgu => ?_⟩
        rcases I.reach u hu with h | ⟨x, hx, v, g, e1, e2⟩
        · rw [I.pgo _ h] at hgu; cases hgu
        · exact Nat.le_trans (S.size x e ((Hp.rest_spec S.to I.heap).2.2 x hx)) (Nat.le_trans (Nat.le_add_right _ _) e2)
      | false =>
        obtain ⟨I', hl, _⟩ := turn S I hg
        rw [if_neg Bool.false_ne_true]
        exact ih I' (by omega)
theorem inv0 (hs : start ∈ U) : Inv lt step goal dead cs start U [⟨0, [], start⟩] [start] [] := by
  refine ⟨fun i hi a b ea eb => ?_, fun e he => ?_, fun s h => .inr ⟨_, List.mem_cons_self, (List.mem_singleton.mp h).symm⟩, fun s h => (nomatch h), fun s h => (nomatch h), fun e he e' he' => ?_, fun u hu => .inr ⟨_, List.mem_cons_self, u, hu, rfl, Nat.le_of_eq (Nat.zero_add _)⟩, List.nodup_cons.mpr ⟨List.not_mem_nil, List.nodup_nil⟩, fun s h => by rw [List.mem_singleton.mp h]; exact hs⟩
  · rw [List.getElem?_eq_none (Nat.succ_le_of_lt hi)] at eb; cases eb
  · rw [List.mem_singleton.mp he]; exact ⟨trivial, rfl, rfl, List.mem_cons_self, fun c h => (nomatch h)⟩
  · rw [List.mem_singleton.mp he, List.mem_singleton.mp he']; exact Nat.le_succ _
end
end Bf
namespace J3
noncomputable def eat : List Nat → List Nat → List Nat
  | s, [] => s
  | s, x :: w => match s with
    | [] => []
    | c :: r => if c = x then eat r w else eat (c :: r) w
noncomputable def lies (s w : List Nat) : Bool := (eat s w).isEmpty
theorem eat_nil (w : List Nat) : eat [] w = [] := by
  cases w with
  | nil => rfl
  | cons x w => rfl
theorem lies_nil (w : List Nat) : lies [] w = true := by unfold lies; rw [eat_nil]; rfl
theorem lies_eq {x : Nat} {s w : List Nat} : lies (x :: s) (x :: w) = lies s w := by unfold lies; rw [eat, if_pos rfl]
theorem lies_ne {c x : Nat} {s w : List Nat} (h : c ≠ x) : lies (c :: s) (x :: w) = lies (c :: s) w := by unfold lies; rw [eat, if_neg h]
theorem lies_cons {c : Nat} {s : List Nat} : lies (c :: s) [] = false := rfl
theorem lies_tail (w : List Nat) : ∀ {c : Nat} {s : List Nat}, lies (c :: s) w = true → lies s w = true := by
  induction w with
  | nil => intro c s h; cases h
  | cons x w ih =>
    intro c s h
    cases s with
    | nil => exact lies_nil _
    | cons d s =>
      have hw : lies (d :: s) w = true := by
        by_cases e : c = x
        · subst e; rwa [lies_eq] at h
        · rw [lies_ne e] at h; exact ih h
      by_cases e : d = x
      · subst e; rw [lies_eq]; exact ih hw
      · rw [lies_ne e]; exact hw
theorem lies_mono {s w : List Nat} {x : Nat} (h : lies s w = true) : lies s (x :: w) = true := by
  cases s with
  | nil => exact lies_nil _
  | cons c s =>
    by_cases e : c = x
    · subst e; rw [lies_eq]; exact lies_tail w h
    · rw [lies_ne e]; exact h
theorem lies_self (w : List Nat) : lies w w = true := by
  induction w with
  | nil => rfl
  | cons x w ih => rw [lies_eq]; exact ih
theorem lies_len (w : List Nat) : ∀ {s : List Nat}, lies s w = true → s.length ≤ w.length := by
  induction w with
  | nil =>
    intro s h
    cases s with
    | nil => exact Nat.le_refl _
    | cons => cases h
  | cons x w ih =>
    intro s h
    cases s with
    | nil => exact Nat.zero_le _
    | cons c s =>
      by_cases e : c = x
      · subst e; rw [lies_eq] at h; exact Nat.succ_le_succ (ih h)
      · rw [lies_ne e] at h; exact Nat.le_succ_of_le (ih h)
theorem lies_same (w : List Nat) : ∀ {s : List Nat}, lies s w = true → s.length = w.length → s = w := by
  induction w with
  | nil =>
    intro s h hl
    exact List.length_eq_zero_iff.mp hl
  | cons x w ih =>
    intro s h hl
    cases s with
    | nil => cases hl
    | cons c s =>
      by_cases e : c = x
      · subst e; rw [lies_eq] at h; rw [ih h (Nat.succ.inj hl)]
      · rw [lies_ne e] at h
        have := lies_len w h
        rw [hl, List.length_cons] at this
        exact absurd this (Nat.not_succ_le_self _)
noncomputable def code : List Nat → Nat
  | [] => 0
  | c :: s => c * 3 ^ s.length + code s
noncomputable def sig : Nat → List Nat → Nat
  | 0, _ => 1
  | _ + 1, [] => 0
  | j + 1, x :: w => sig (j + 1) w ||| (sig j w <<< (x * 3 ^ j))
theorem code_lt : ∀ {s : List Nat}, (∀ c ∈ s, c < 3) → code s < 3 ^ s.length
  | [], _ => Nat.one_pos
  | c :: s, h => by
    have h1 := code_lt (s := s) fun d hd => h d (List.mem_cons_of_mem _ hd)
    have h2 := h c List.mem_cons_self
    show c * 3 ^ s.length + code s < 3 ^ (s.length + 1)
    rw [Nat.pow_succ]
    have : c * 3 ^ s.length ≤ 2 * 3 ^ s.length := Nat.mul_le_mul_right _ (by omega)
    omega
theorem sig_lt (w : List Nat) : ∀ {j : Nat}, (∀ x ∈ w, x < 3) → sig j w < 2 ^ 3 ^ j := by
  induction w with
  | nil =>
    intro j _
    cases j with
    | zero => exact Nat.lt_of_lt_of_le (by decide : 1 < 2) (Nat.le_refl _)
    | succ j => exact Nat.two_pow_pos _
  | cons x w ih =>
    intro j h
    have hw : ∀ y ∈ w, y < 3 := fun y hy => h y (List.mem_cons_of_mem _ hy)
    cases j with
    | zero => exact Nat.lt_of_lt_of_le (by decide : 1 < 2) (Nat.le_refl _)
    | succ j =>
      show sig (j + 1) w ||| (sig j w <<< (x * 3 ^ j)) < 2 ^ 3 ^ (j + 1)
      refine Nat.or_lt_two_pow (ih hw) ?_
      rw [Nat.shiftLeft_eq]
      have hx := h x List.mem_cons_self
      have h1 := ih (j := j) hw
      refine Nat.lt_of_lt_of_le (Nat.mul_lt_mul_of_pos_right h1 (Nat.two_pow_pos _)) ?_
      rw [← Nat.pow_add]
      refine Nat.pow_le_pow_right (by decide) ?_
      rw [Nat.pow_succ]
      have : x * 3 ^ j ≤ 2 * 3 ^ j := Nat.mul_le_mul_right _ (by omega)
      omega
theorem sig_bit (w : List Nat) : ∀ {j : Nat} {s : List Nat}, s.length = j → (∀ c ∈ s, c < 3) → (∀ x ∈ w, x < 3) → (sig j w).testBit (code s) = lies s w := by
  induction w with
  | nil =>
    intro j s hl hs _
    subst hl
    cases s with
    | nil => rfl
    | cons c s => exact Nat.zero_testBit _
  | cons x w ih =>
    intro j s hl hs hw
    have hw' : ∀ y ∈ w, y < 3 := fun y hy => hw y (List.mem_cons_of_mem _ hy)
    subst hl
    cases s with
    | nil =>
      rw [lies_nil]
      show (sig 0 (x :: w)).testBit 0 = true
      rw [sig]; rfl
    | cons c s =>
      have hs' : ∀ d ∈ s, d < 3 := fun d hd => hs d (List.mem_cons_of_mem _ hd)
      have hc := code_lt hs'
      show (sig (s.length + 1) w ||| (sig s.length w <<< (x * 3 ^ s.length))).testBit (c * 3 ^ s.length + code s) = _
      rw [Nat.testBit_or, Nat.testBit_shiftLeft]
      have h1 := ih (j := s.length + 1) (s := c :: s) rfl hs hw'
      rw [show (sig (s.length + 1) w).testBit (c * 3 ^ s.length + code s) = lies (c :: s) w from h1]
      by_cases e : c = x
      · subst e
        rw [decide_eq_true (Nat.le_add_right _ _), Nat.add_sub_cancel_left, Bool.true_and, ih rfl hs' hw', lies_eq]
        cases hq : lies (c :: s) w with
        | true => rw [lies_tail w hq]; rfl
        | false => rfl
      · rw [lies_ne e]
        suffices hz : (decide (c * 3 ^ s.length + code s ≥ x * 3 ^ s.length) && (sig s.length w).testBit (c * 3 ^ s.length + code s - x * 3 ^ s.length)) = false by rw [hz, Bool.or_false]
        by_cases g : x < c
        · have h3 : (x + 1) * 3 ^ s.length ≤ c * 3 ^ s.length := Nat.mul_le_mul_right _ g
          rw [Nat.succ_mul] at h3
          rw [Nat.testBit_lt_two_pow (Nat.lt_of_lt_of_le (sig_lt w hw') (Nat.pow_le_pow_right (by decide) (by omega))), Bool.and_false]
        · have h3 : (c + 1) * 3 ^ s.length ≤ x * 3 ^ s.length := Nat.mul_le_mul_right _ (by omega)
          rw [Nat.succ_mul] at h3
          rw [decide_eq_false (by omega), Bool.false_and]
noncomputable def words : Nat → List (List Nat)
  | 0 => [[]]
  | n + 1 => (words n).flatMap fun w => [0 :: w, 1 :: w, 2 :: w]
theorem mem_words : ∀ {n : Nat} {w : List Nat}, w.length = n → (∀ x ∈ w, x < 3) → w ∈ words n
  | 0, w, hl, _ => by rw [List.length_eq_zero_iff.mp hl]; exact List.mem_cons_self
  | n + 1, [], hl, _ => nomatch hl
  | n + 1, x :: w, hl, h => by
    refine List.mem_flatMap.mpr ⟨w, mem_words (Nat.succ.inj hl) fun y hy => h y (List.mem_cons_of_mem _ hy), ?_⟩
    have hx := h x List.mem_cons_self
    match x, hx with
    | 0, _ => exact List.mem_cons_self
    | 1, _ => exact List.mem_cons_of_mem _ List.mem_cons_self
    | 2, _ => exact List.mem_cons_of_mem _ (List.mem_cons_of_mem _ List.mem_cons_self)
inductive Tr where
  | nil
  | node (l : Tr) (k v : Nat) (r : Tr)
noncomputable def Tr.ins (k v : Nat) : Tr → Tr
  | .nil => .node .nil k v .nil
  | .node l k' v' r => bif Nat.blt k k' then .node (Tr.ins k v l) k' v' r else bif Nat.blt k' k then .node l k' v' (Tr.ins k v r) else .node l k' v' r
noncomputable def Tr.get (k : Nat) : Tr → Nat
  | .nil => 0
  | .node l k' v' r => bif Nat.blt k k' then Tr.get k l else bif Nat.blt k' k then Tr.get k r else v'
noncomputable def book (n : Nat) : Tr := (words n).foldl (fun t w => Tr.ins (sig (n / 2 + 1) w) (code w) t) .nil
noncomputable def known (n : Nat) : Bool := (fun t => (words n).all fun w => Nat.beq (Tr.get (sig (n / 2 + 1) w) t) (code w)) (book n)
theorem known_all : ((List.range 7).all fun n => known (n + 1)) = true := by decide +kernel
theorem code_inj : ∀ {s t : List Nat}, s.length = t.length → (∀ c ∈ s, c < 3) → (∀ c ∈ t, c < 3) → code s = code t → s = t
  | [], t, hl, _, _, _ => (List.length_eq_zero_iff.mp hl.symm).symm
  | c :: s, [], hl, _, _, _ => nomatch hl
  | c :: s, d :: t, hl, hs, ht, e => by
    have hl' : s.length = t.length := Nat.succ.inj hl
    have hs' : ∀ x ∈ s, x < 3 := fun x hx => hs x (List.mem_cons_of_mem _ hx)
    have ht' : ∀ x ∈ t, x < 3 := fun x hx => ht x (List.mem_cons_of_mem _ hx)
    have h1 := code_lt hs'
    have h2 := code_lt ht'
    have e : c * 3 ^ s.length + code s = d * 3 ^ t.length + code t := e
    rw [← hl'] at e h2
    have hp : 0 < 3 ^ s.length := Nat.pow_pos (by decide)
    have hcd : c = d := by
      have a1 : (c * 3 ^ s.length + code s) / 3 ^ s.length = c := by rw [Nat.mul_comm, Nat.mul_add_div hp, Nat.div_eq_of_lt h1, Nat.add_zero]
      have a2 : (d * 3 ^ s.length + code t) / 3 ^ s.length = d := by rw [Nat.mul_comm, Nat.mul_add_div hp, Nat.div_eq_of_lt h2, Nat.add_zero]
      rw [← a1, e, a2]
    rw [hcd] at e
    rw [hcd, code_inj hl' hs' ht' (Nat.add_left_cancel e)]
theorem simon {n : Nat} (h1 : 1 ≤ n) (h7 : n ≤ 7) {a b : List Nat} (ha : a.length = n) (hb : b.length = n) (wa : ∀ x ∈ a, x < 3) (wb : ∀ x ∈ b, x < 3) (h : ∀ s : List Nat, s.length = n / 2 + 1 → (∀ c ∈ s, c < 3) → lies s a = lies s b) : a = b := by
  have hk := List.all_eq_true.mp known_all (n - 1) (List.mem_range.mpr (by omega))
  rw [Nat.sub_add_cancel h1] at hk
  have get : ∀ {w : List Nat}, w.length = n → (∀ x ∈ w, x < 3) → Tr.get (sig (n / 2 + 1) w) (book n) = code w := fun {w} hw hx => Nat.eq_of_beq_eq_true (List.all_eq_true.mp hk w (mem_words hw hx))
  refine code_inj (ha.trans hb.symm) wa wb ?_
  rw [← get ha wa, ← get hb wb]
  congr 1
  refine Nat.eq_of_testBit_eq fun i => ?_
  by_cases hi : i < 3 ^ (n / 2 + 1)
  · obtain ⟨s, hs, hc, rfl⟩ := decode (n / 2 + 1) i hi
    rw [sig_bit a hs hc wa, sig_bit b hs hc wb, h s hs hc]
  · have hle : 2 ^ 3 ^ (n / 2 + 1) ≤ 2 ^ i := Nat.pow_le_pow_right (by decide) (Nat.le_of_not_lt hi)
    rw [Nat.testBit_lt_two_pow (Nat.lt_of_lt_of_le (sig_lt a wa) hle), Nat.testBit_lt_two_pow (Nat.lt_of_lt_of_le (sig_lt b wb) hle)]
where
  decode : ∀ (j i : Nat), i < 3 ^ j → ∃ s : List Nat, s.length = j ∧ (∀ c ∈ s, c < 3) ∧ code s = i
    | 0, i, h => ⟨[], rfl, fun c h => (nomatch h), (Nat.lt_one_iff.mp h).symm⟩
    | j + 1, i, h => by
      have hp : 0 < 3 ^ j := Nat.pow_pos (by decide)
      obtain ⟨s, h1, h2, h3⟩ := decode j (i % 3 ^ j) (Nat.mod_lt _ hp)
      refine ⟨i / 3 ^ j :: s, congrArg (· + 1) h1, fun c hc => ?_, ?_⟩
      · rcases List.mem_cons.mp hc with rfl | hc
        · rw [Nat.pow_succ, Nat.mul_comm] at h; exact Nat.div_lt_of_lt_mul (Nat.mul_comm 3 _ ▸ h)
        · exact h2 c hc
      · show i / 3 ^ j * 3 ^ s.length + code s = i
        rw [h1, h3, Nat.mul_comm]; exact Nat.div_add_mod i (3 ^ j)
end J3
namespace J3
open Bf
noncomputable def ltw : List Nat → List Nat → Bool
  | [], [] => false
  | [], _ :: _ => true
  | _ :: _, [] => false
  | a :: r, b :: q => if a < b then true else if b < a then false else ltw r q
noncomputable abbrev E := En (Int × Int) Nat
noncomputable def lt (a b : E) : Bool := decide (a.size < b.size) || (decide (a.size = b.size) && (ltw a.word b.word || (decide (a.word = b.word) && (decide (a.st.1 < b.st.1) || (decide (a.st.1 = b.st.1) && decide (a.st.2 < b.st.2))))))
theorem ltw_irr : ∀ a : List Nat, ltw a a = false
  | [] => rfl
  | a :: r => by rw [ltw, if_neg (Nat.lt_irrefl a), if_neg (Nat.lt_irrefl a)]; exact ltw_irr r
theorem ltw_asymm : ∀ {a b : List Nat}, ltw a b = true → ltw b a = false
  | [], [], h => nomatch h
  | [], _ :: _, _ => rfl
  | _ :: _, [], h => nomatch h
  | a :: r, b :: q, h => by
    rw [ltw] at h ⊢
    by_cases h1 : a < b
    · rw [if_neg (Nat.lt_asymm h1), if_pos h1]
    · rw [if_neg h1] at h
      by_cases h2 : b < a
      · rw [if_pos h2] at h; cases h
      · rw [if_neg h2] at h
        rw [if_neg h2, if_neg h1]; exact ltw_asymm h
theorem ltw_trans : ∀ {a b c : List Nat}, ltw a b = false → ltw b c = false → ltw a c = false ∧ (a = c → a = b)
  | a, b, [], h1, h2 => by
    cases b with
    | nil =>
      cases a with
      | nil => exact ⟨rfl, fun h => h⟩
      | cons => exact ⟨rfl, fun h => nomatch h⟩
    | cons y q =>
      cases a with
      | nil => cases h1
      | cons => exact ⟨rfl, fun h => nomatch h⟩
  | a, [], z :: t, h1, h2 => nomatch h2
  | [], y :: q, z :: t, h1, h2 => nomatch h1
  | x :: r, y :: q, z :: t, h1, h2 => by
    rw [ltw] at h1 h2 ⊢
    by_cases a1 : x < y
    · rw [if_pos a1] at h1; cases h1
    rw [if_neg a1] at h1
    by_cases a2 : y < z
    · rw [if_pos a2] at h2; cases h2
    rw [if_neg a2] at h2
    have a3 : ¬ x < z := by omega
    rw [if_neg a3]
    by_cases b1 : y < x
    · have b2 : z < x := by omega
      rw [if_pos b2]
      exact ⟨rfl, fun e => absurd (List.cons.inj e).1 (Nat.ne_of_gt b2)⟩
    · rw [if_neg b1] at h1
      by_cases b2 : z < y
      · have b3 : z < x := by omega
        rw [if_pos b3]
        exact ⟨rfl, fun e => absurd (List.cons.inj e).1 (Nat.ne_of_gt b3)⟩
      · rw [if_neg b2] at h2
        have b3 : ¬ z < x := by omega
        rw [if_neg b3]
        have ih := ltw_trans h1 h2
        exact ⟨ih.1, fun e => by rw [ih.2 (List.cons.inj e).2, show x = y from by omega]⟩
theorem lt_iff {a b : E} : lt a b = true ↔ a.size < b.size ∨ (a.size = b.size ∧ (ltw a.word b.word = true ∨ (a.word = b.word ∧ (a.st.1 < b.st.1 ∨ (a.st.1 = b.st.1 ∧ a.st.2 < b.st.2))))) := by
  unfold lt
  rw [Bool.or_eq_true, Bool.and_eq_true, Bool.or_eq_true, Bool.and_eq_true, Bool.or_eq_true, Bool.and_eq_true, decide_eq_true_iff, decide_eq_true_iff, decide_eq_true_iff, decide_eq_true_iff, decide_eq_true_iff, decide_eq_true_iff]
theorem not_lt {a b : E} (h : lt a b = false) : ¬ (a.size < b.size ∨ (a.size = b.size ∧ (ltw a.word b.word = true ∨ (a.word = b.word ∧ (a.st.1 < b.st.1 ∨ (a.st.1 = b.st.1 ∧ a.st.2 < b.st.2)))))) := fun z => by
  rw [lt_iff.mpr z] at h; cases h
theorem lt_to : Hp.TO lt := by
  refine ⟨fun {a b} h => ?_, fun {a b c} h1 h2 => ?_⟩
  · refine Bool.eq_false_iff.mpr fun z => ?_
    rcases lt_iff.mp h with h | ⟨h1, h⟩ <;> rcases lt_iff.mp z with z | ⟨z1, z⟩
    · omega
    · omega
    · omega
    · rcases h with h | ⟨h2, h⟩ <;> rcases z with z | ⟨z2, z⟩
      · rw [ltw_asymm h] at z; cases z
      · rw [z2, ltw_irr] at h; cases h
      · rw [h2, ltw_irr] at z; cases z
      · omega
  · refine Bool.eq_false_iff.mpr fun z => ?_
    have h1 := not_lt h1
    have h2 := not_lt h2
    rcases lt_iff.mp z with z | ⟨z1, z⟩
    · have a1 : ¬ b.size < a.size := fun q => h1 (.inl q)
      have a2 : ¬ c.size < b.size := fun q => h2 (.inl q)
      omega
    · have a1 : ¬ b.size < a.size := fun q => h1 (.inl q)
      have a2 : ¬ c.size < b.size := fun q => h2 (.inl q)
      have e1 : b.size = a.size := by omega
      have e2 : c.size = b.size := by omega
      have w1 : ltw b.word a.word = false := Bool.eq_false_iff.mpr fun q => h1 (.inr ⟨e1, .inl q⟩)
      have w2 : ltw c.word b.word = false := Bool.eq_false_iff.mpr fun q => h2 (.inr ⟨e2, .inl q⟩)
      obtain ⟨w3, w4⟩ := ltw_trans w2 w1
      rcases z with z | ⟨z2, z⟩
      · rw [w3] at z; cases z
      · have q2 := w4 z2
        have q1 : b.word = a.word := q2.symm.trans z2
        have s1 : ¬ (b.st.1 < a.st.1 ∨ (b.st.1 = a.st.1 ∧ b.st.2 < a.st.2)) := fun q => h1 (.inr ⟨e1, .inr ⟨q1, q⟩⟩)
        have s2 : ¬ (c.st.1 < b.st.1 ∨ (c.st.1 = b.st.1 ∧ c.st.2 < b.st.2)) := fun q => h2 (.inr ⟨e2, .inr ⟨q2, q⟩⟩)
        omega
theorem lt_size (a b : E) (h : lt a b = false) : b.size ≤ a.size := Nat.le_of_not_lt fun q => not_lt h (.inl q)
noncomputable def plc (w : List Nat) (c : Nat) : List Int := ((List.range w.length).filter fun k => decide (w[k]? = some c)).map fun k => ((k + 1 : Nat) : Int)
noncomputable def ah (ps : List Int) (p : Int) : Int := ((ps.filter fun x => decide (p < x)).head?).getD (-1)
theorem ah_eq (w : List Nat) (c p : Nat) : ah (plc w c) (p : Int) = (((List.range w.length).find? fun k => decide (p ≤ k) && decide (w[k]? = some c)).map fun k => ((k + 1 : Nat) : Int)).getD (-1) := by
  unfold ah plc
  rw [List.filter_map, List.filter_filter, List.head?_map, List.head?_filter]
  congr 3
  funext k
  congr 1
  exact decide_eq_decide.mpr ⟨fun h => Nat.le_of_lt_succ (Int.ofNat_lt.mp h), fun h => Int.ofNat_lt.mpr (Nat.lt_succ_of_le h)⟩
theorem never (l : List Nat) {c : Nat} {s : List Nat} (h : c ∉ l) : lies (c :: s) l = false := by
  induction l with
  | nil => rfl
  | cons x l ih =>
    obtain ⟨h1, h2⟩ := not_or.mp fun z => h (List.mem_cons.mpr z)
    rw [lies_ne h1]; exact ih h2
theorem skip (l : List Nat) {c : Nat} {s r : List Nat} (h : c ∉ l) : lies (c :: s) (l ++ c :: r) = lies s r := by
  induction l with
  | nil => exact lies_eq
  | cons x l ih =>
    obtain ⟨h1, h2⟩ := not_or.mp fun z => h (List.mem_cons.mpr z)
    rw [List.cons_append, lies_ne h1]; exact ih h2
theorem ah_cases (w : List Nat) (c p : Nat) : (ah (plc w c) (p : Int) = -1 ∧ ∀ s, lies (c :: s) (w.drop p) = false) ∨ ∃ p' : Nat, ah (plc w c) (p : Int) = (p' : Int) ∧ p' ≤ w.length ∧ ∀ s, lies (c :: s) (w.drop p) = lies s (w.drop p') := by
  rw [ah_eq]
  cases hf : (List.range w.length).find? fun k => decide (p ≤ k) && decide (w[k]? = some c) with
  | none =>
    refine .inl ⟨rfl, fun s => never _ fun hm => ?_⟩
    obtain ⟨i, hi⟩ := List.mem_iff_getElem?.mp hm
    rw [List.getElem?_drop] at hi
    have := List.find?_eq_none.mp hf (p + i) (List.mem_range.mpr (List.getElem?_eq_some_iff.mp hi).1)
    exact this (Bool.and_eq_true_iff.mpr ⟨decide_eq_true (Nat.le_add_right _ _), decide_eq_true hi⟩)
  | some k =>
    obtain ⟨h1, h2, h3⟩ := List.find?_range_eq_some.mp hf
    obtain ⟨a1, a2⟩ := Bool.and_eq_true_iff.mp h1
    have a1 := of_decide_eq_true a1
    have a2 := of_decide_eq_true a2
    have hk := List.mem_range.mp h2
    refine .inr ⟨k + 1, rfl, hk, fun s => ?_⟩
    have e : w.drop p = (w.drop p).take (k - p) ++ c :: w.drop (k + 1) := by
      have e1 := (List.take_append_drop (k - p) (w.drop p)).symm
      rw [List.drop_drop, Nat.add_sub_cancel' a1] at e1
      obtain ⟨hlt, he⟩ := List.getElem?_eq_some_iff.mp a2
      rw [List.drop_eq_getElem_cons hlt, he] at e1
      exact e1
    rw [e]
    refine skip _ fun hm => ?_
    obtain ⟨i, hi⟩ := List.mem_iff_getElem?.mp hm
    have hlt : i < k - p := Nat.lt_of_lt_of_le (List.getElem?_eq_some_iff.mp hi).1 (List.length_take_le ..)
    rw [List.getElem?_take_of_lt hlt, List.getElem?_drop] at hi
    have := h3 (p + i) (by omega)
    rw [decide_eq_true (Nat.le_add_right p i), decide_eq_true hi] at this
    cases this
noncomputable def step (a b : List Nat) (st : Int × Int) (c : Nat) : Int × Int := (ah (plc a c) st.1, ah (plc b c) st.2)
noncomputable def goal (st : Int × Int) : Bool := decide (st.1 < 0) || decide (st.2 < 0)
noncomputable def dead (st : Int × Int) : Bool := decide (st = (-1, -1))
noncomputable abbrev C3 : List Nat := [0, 1, 2]
theorem mem_C3 {c : Nat} : c ∈ C3 ↔ c < 3 := by
  simp only [List.mem_cons, List.not_mem_nil, or_false]; omega
theorem goal_nat (p q : Nat) : goal ((p : Int), (q : Int)) = false := by
  unfold goal
  rw [decide_eq_false (Int.not_lt.mpr (Int.natCast_nonneg p)), decide_eq_false (Int.not_lt.mpr (Int.natCast_nonneg q))]; rfl
section
variable {a b : List Nat}
theorem tell (t : List Nat) : ∀ {p q : Nat}, (∀ c ∈ t, c < 3) → lies t (a.drop p) ≠ lies t (b.drop q) → ∃ u, u.length ≤ t.length ∧ Good (step a b) goal dead C3 ((p : Int), (q : Int)) u ∧ goal (run (step a b) ((p : Int), (q : Int)) u) = true := by
  induction t with
  | nil => intro p q _ h; exact absurd (by rw [lies_nil, lies_nil]) h
  | cons c t ih =>
    intro p q hc h
    have hcm : c ∈ C3 := mem_C3.mpr (hc c List.mem_cons_self)
    have ht : ∀ d ∈ t, d < 3 := fun d hd => hc d (List.mem_cons_of_mem _ hd)
    rcases ah_cases a c p with ⟨e1, k1⟩ | ⟨p', e1, _, k1⟩ <;> rcases ah_cases b c q with ⟨e2, k2⟩ | ⟨q', e2, _, k2⟩
    · rw [k1, k2] at h; exact absurd rfl h
    · have es : step a b ((p : Int), (q : Int)) c = (-1, (q' : Int)) := Prod.ext e1 e2
      refine ⟨[c], Nat.succ_le_succ (Nat.zero_le _), ⟨goal_nat p q, hcm, ?_, trivial⟩, ?_⟩
      · rw [es]; exact decide_eq_false fun z => absurd (Prod.mk.inj z).2 (by omega)
      · show goal (step a b ((p : Int), (q : Int)) c) = true
        rw [es]; rfl
    · have es : step a b ((p : Int), (q : Int)) c = ((p' : Int), -1) := Prod.ext e1 e2
      refine ⟨[c], Nat.succ_le_succ (Nat.zero_le _), ⟨goal_nat p q, hcm, ?_, trivial⟩, ?_⟩
      · rw [es]; exact decide_eq_false fun z => absurd (Prod.mk.inj z).1 (by omega)
      · show goal (step a b ((p : Int), (q : Int)) c) = true
        rw [es]; exact Bool.or_eq_true_iff.mpr (.inr rfl)
    · have es : step a b ((p : Int), (q : Int)) c = ((p' : Int), (q' : Int)) := Prod.ext e1 e2
      rw [k1, k2] at h
      obtain ⟨u, h1, h2, h3⟩ := ih ht h
      refine ⟨c :: u, Nat.succ_le_succ h1, ⟨goal_nat p q, hcm, ?_, ?_⟩, ?_⟩
      · rw [es]; exact decide_eq_false fun z => absurd (Prod.mk.inj z).1 (by omega)
      · rw [es]; exact h2
      · show goal (run (step a b) (step a b ((p : Int), (q : Int)) c) u) = true
        rw [es]; exact h3
theorem told (u : List Nat) : ∀ {p q : Nat}, Good (step a b) goal dead C3 ((p : Int), (q : Int)) u → goal (run (step a b) ((p : Int), (q : Int)) u) = true → lies u (a.drop p) ≠ lies u (b.drop q) := by
  induction u with
  | nil => intro p q _ h; rw [show run (step a b) ((p : Int), (q : Int)) [] = ((p : Int), (q : Int)) from rfl, goal_nat] at h; cases h
  | cons c u ih =>
    intro p q hg h
    obtain ⟨_, _, hd, hg⟩ := hg
    have h : goal (run (step a b) (step a b ((p : Int), (q : Int)) c) u) = true := h
    have stop : ∀ st : Int × Int, goal st = true → Good (step a b) goal dead C3 st u → u = [] := fun st h1 h2 => by
      cases u with
      | nil => rfl
      | cons d u => rw [h2.1] at h1; cases h1
    rcases ah_cases a c p with ⟨e1, k1⟩ | ⟨p', e1, _, k1⟩ <;> rcases ah_cases b c q with ⟨e2, k2⟩ | ⟨q', e2, _, k2⟩
    · have es : step a b ((p : Int), (q : Int)) c = (-1, -1) := Prod.ext e1 e2
      rw [es] at hd; cases hd
    · have es : step a b ((p : Int), (q : Int)) c = (-1, (q' : Int)) := Prod.ext e1 e2
      rw [es] at hg
      obtain rfl := stop _ rfl hg
      rw [k1, k2, lies_nil]; exact Bool.false_ne_true
    · have es : step a b ((p : Int), (q : Int)) c = ((p' : Int), -1) := Prod.ext e1 e2
      rw [es] at hg
      obtain rfl := stop _ (Bool.or_eq_true_iff.mpr (.inr rfl)) hg
      rw [k1, k2, lies_nil]; exact fun z => Bool.false_ne_true z.symm
    · have es : step a b ((p : Int), (q : Int)) c = ((p' : Int), (q' : Int)) := Prod.ext e1 e2
      rw [es] at hg h
      rw [k1, k2]; exact ih hg h
noncomputable def nums (n : Nat) : List Int := -1 :: (List.range (n + 1)).map fun k : Nat => (k : Int)
noncomputable def univ (n m : Nat) : List (Int × Int) := (nums n).flatMap fun x => (nums m).map fun y => (x, y)
theorem mem_nums {n k : Nat} (h : k ≤ n) : (k : Int) ∈ nums n := List.mem_cons_of_mem _ (List.mem_map_of_mem (f := fun k : Nat => (k : Int)) (List.mem_range.mpr (Nat.lt_succ_of_le h)))
theorem ah_mem (w : List Nat) (c : Nat) (x : Int) : ah (plc w c) x ∈ nums w.length := by
  unfold ah
  cases hh : ((plc w c).filter fun y => decide (x < y)).head? with
  | none => exact List.mem_cons_self
  | some y =>
    obtain ⟨k, hk, rfl⟩ := List.mem_map.mp (List.mem_filter.mp (List.mem_of_head? hh)).1
    exact mem_nums (List.mem_range.mp (List.mem_filter.mp hk).1)
theorem mem_univ {n m : Nat} {x y : Int} (hx : x ∈ nums n) (hy : y ∈ nums m) : (x, y) ∈ univ n m := List.mem_flatMap.mpr ⟨x, hx, List.mem_map_of_mem (f := fun y => (x, y)) hy⟩
theorem univ_len {n m : Nat} : (univ n m).length = (n + 2) * (m + 2) := by
  unfold univ
  rw [List.length_flatMap, show (nums n).map (fun x => ((nums m).map fun y => (x, y)).length) = (nums n).map fun _ => m + 2 from List.map_congr_left fun x _ => by unfold nums; rw [List.length_map, List.length_cons, List.length_map, List.length_range], List.map_const']
  rw [List.sum_replicate_nat]
  unfold nums
  rw [List.length_cons, List.length_map, List.length_range]
theorem sys (a b : List Nat) : Sys lt (step a b) dead C3 (univ a.length b.length) := ⟨lt_to, lt_size, fun s _ c _ _ => mem_univ (ah_mem a c s.1) (ah_mem b c s.2)⟩
theorem best {n : Nat} (h1 : 1 ≤ n) (h7 : n ≤ 7) (ha : a.length = n) (hb : b.length = n) (wa : ∀ x ∈ a, x < 3) (wb : ∀ x ∈ b, x < 3) :
    ∃ r, go lt (step a b) goal dead C3 100 [⟨0, [], (0, 0)⟩] [(0, 0)] = some r ∧ (r = none → a = b) ∧ ∀ e, r = some e → e.word ≠ [] ∧ (∀ c ∈ e.word, c < 3) ∧ e.word.length ≤ n / 2 + 1 ∧ lies e.word a ≠ lies e.word b ∧ ∀ t : List Nat, t.length < e.word.length → (∀ c ∈ t, c < 3) → lies t a = lies t b := by
  obtain ⟨r, hr, hf⟩ := go_found (goal := goal) (sys a b) 100 (inv0 (start := ((0 : Int), (0 : Int))) (mem_univ (mem_nums (k := 0) (Nat.zero_le _)) (mem_nums (k := 0) (Nat.zero_le _)))) (by
    rw [univ_len, ha, hb]
    have : (n + 2) * (n + 2) ≤ 9 * 9 := Nat.mul_le_mul (by omega) (by omega)
    show 1 + (n + 2) * (n + 2) < 100 + 1
    omega)
  refine ⟨r, hr, fun e => ?_, fun e he => ?_⟩
  · subst e
    have hl : lies a a = lies a b := Classical.byContradiction fun z => by
      obtain ⟨u, _, h2, h3⟩ := tell (a := a) (b := b) a (p := 0) (q := 0) wa z
      exact absurd ((hf u h2).symm.trans h3) Bool.false_ne_true
    rw [lies_self] at hl
    exact lies_same b hl.symm (ha.trans hb.symm)
  · subst he
    obtain ⟨hg, hlen, hrun, hgo, hcs, hmin⟩ := hf
    have hd : lies e.word a ≠ lies e.word b := told e.word (p := 0) (q := 0) hg (by rw [show run (step a b) (((0 : Nat) : Int), ((0 : Nat) : Int)) e.word = e.st from hrun]; exact hgo)
    have hshort : ∀ t : List Nat, (∀ c ∈ t, c < 3) → lies t a ≠ lies t b → e.word.length ≤ t.length := fun t ht hne => by
      obtain ⟨u, g1, g2, g3⟩ := tell (a := a) (b := b) t (p := 0) (q := 0) ht hne
      rw [hlen]; exact Nat.le_trans (hmin u g2 g3) g1
    refine ⟨fun z => hd (by rw [z, lies_nil, lies_nil]), fun c hc => mem_C3.mp (hcs c hc), ?_, hd, fun t hlt ht => Classical.byContradiction fun z => absurd (hshort t ht z) (Nat.not_le.mpr hlt)⟩
    refine Classical.byContradiction fun z => hd ?_
    have hab : a = b := simon h1 h7 ha hb wa wb fun s hs hc => Classical.byContradiction fun y => z (hs ▸ hshort s hc y)
    rw [hab]
end
end J3
namespace Ev.L3
open Ev.Lib
noncomputable def sg (d : Nat) : Nat := if d < 3 then 97 + d else 62 + d
noncomputable def wTx (ds : List Nat) : Tx := ds.map sg
noncomputable def low (ds : List Nat) : List Nat := ds.map (· % 3)
structure Sign (d : Nat) : Prop where
  low : lowC (sg d) = 97 + d % 3
  ok : okSign (sg d) = true
theorem sign {d : Nat} (h : d < 6) : Sign d := by
  match d, h with
  | 0, _ => exact ⟨rfl, rfl⟩
  | 1, _ => exact ⟨rfl, rfl⟩
  | 2, _ => exact ⟨rfl, rfl⟩
  | 3, _ => exact ⟨rfl, rfl⟩
  | 4, _ => exact ⟨rfl, rfl⟩
  | 5, _ => exact ⟨rfl, rfl⟩
noncomputable def tx3 (s : List Nat) : Tx := s.map (97 + ·)
structure Word (ds : List Nat) : Prop where
  len : ds.length ≤ 7
  lt : ∀ d ∈ ds, d < 6
theorem low_lt {ds : List Nat} : ∀ x ∈ low ds, x < 3 := fun x hx => by
  obtain ⟨d, _, rfl⟩ := List.mem_map.mp hx
  exact Nat.mod_lt _ (by decide)
theorem low_len {ds : List Nat} : (low ds).length = ds.length := List.length_map ..
noncomputable def ent (ds : List Nat) (k : Nat) : Tx × Tx := ([(wTx ds).getD k 0], natTx (k + 1))
theorem ent_at {ds : List Nat} {k d : Nat} (h : ds[k]? = some d) : ent ds k = ([sg d], natTx (k + 1)) := by
  unfold ent wTx
  rw [List.getD_eq_getElem?_getD, List.getElem?_map, h]; rfl
noncomputable def cellsH (hl : List (Tx × Tx)) : Cells := [.inst 1, .idict [(hTx, .ref 2)], .list (hl.map encH)]
theorem tabH (hl : List (Tx × Tx)) : Tab (cellsH hl) 0 1 2 hl := ⟨rfl, rfl, rfl⟩
theorem digit {k : Nat} (h : k < 10) : natTx k = [48 + k] := if_pos h
theorem digit_ok {k : Nat} (h : k < 10) : (natTx k).all okSign = true := by
  rw [digit h]
  show (okSign (48 + k) && true) = true
  rw [Bool.and_true]
  exact Bool.and_eq_true_iff.mpr ⟨decide_eq_true (Nat.le_trans (by decide) (Nat.le_add_right 48 k)), decide_eq_true (Nat.lt_of_lt_of_le (Nat.add_lt_add_left h 48) (by decide))⟩
theorem digit_int {k : Nat} (h : k < 10) : intTx (natTx k) = some (k : Int) := by
  rw [digit h]
  show (if 48 ≤ 48 + k ∧ 48 + k ≤ 57 then some (((48 + k - 48 : Nat) : Int)) else none) = _
  rw [if_pos ⟨Nat.le_add_right _ _, by omega⟩, Nat.add_sub_cancel_left]
section
variable {W : Wd} {n d k : Nat} {cs : Cells}
noncomputable def addBody : List MS := [sExpr (eMeth (eVar 1) .other (some 14) [eIdx (eVar 0) (eVar 2), eCall (eLit (.ty .str)) [eBin false .add (eVar 2) (eLit (.int 1))]])]
theorem add_turn {ds : List Nat} (D : Word ds) {hl : List (Tx × Tx)} (hh : hl.length ≤ 1000) (hk : k < ds.length) {v2 : Option AV} :
    stepF (callAt prog (d + 2)) 0 [2] addBody (.int (k : Int)) [some (.str (wTx ds)), some (.ref 0), v2] (cellsH hl) = some ⟨.next, [some (.str (wTx ds)), some (.ref 0), some (.int (k : Int))], cellsH (hl ++ [ent ds k])⟩ := by
  have hd : ds[k]? = some ds[k] := List.getElem?_eq_getElem hk
  have h6 := D.lt _ (List.getElem_mem hk)
  have hw : (wTx ds)[k]? = some (sg ds[k]) := by unfold wTx; rw [List.getElem?_map, hd]; rfl
  have h10 : k + 1 < 10 := Nat.lt_of_le_of_lt (Nat.le_trans hk D.len) (by decide)
  have hok : [sg ds[k]].all okSign = true := by show (okSign _ && true) = true; rw [(sign h6).ok]; rfl
  have hadd := add_run (P := prog) (k := d) rfl rfl (tabH hl) (Nat.lt_of_le_of_lt hh (by decide)) (nm := [sg ds[k]]) (v := natTx (k + 1)) hok (digit_ok h10) (by rw [digit h10]; exact (show 1 ≤ lim by decide))
  rw [← ent_at hd] at hadd
  have hs : callv (callAt prog (d + 2)) (.ty .str) [.int ((k + 1 : Nat) : Int)] 0 (cellsH hl) = some (.str (natTx (k + 1)), cellsH hl) := if_pos ⟨Int.natCast_nonneg _, Int.ofNat_lt.mpr (Nat.lt_trans h10 (by decide))⟩
  exact bindE rfl (ss_next (s_expr (e_own rfl (es_cons (e_idx rfl rfl (idx_str hw)) (es_cons (e_call rfl (es_cons (e_bin rfl rfl rfl) rfl) hs) rfl)) (tabH hl).isI hadd)) rfl)
theorem add_loop {ds : List Nat} (D : Word ds) (l : List Nat) : ∀ {hl : List (Tx × Tx)} {v2 : Option AV}, (∀ k ∈ l, k < ds.length) → hl.length + l.length ≤ 1000 → ∃ v2', forItems (stepF (callAt prog (d + 2)) 0 [2] addBody) (l.map fun k : Nat => AV.int (k : Int)) [some (.str (wTx ds)), some (.ref 0), v2] (cellsH hl) = some ⟨.next, [some (.str (wTx ds)), some (.ref 0), v2'], cellsH (hl ++ l.map (ent ds))⟩ := by
  induction l with
  | nil => intro hl v2 _ _; exact ⟨v2, by rw [List.map_nil, List.map_nil, List.append_nil]; rfl⟩
  | cons k l ih =>
    intro hl v2 hk hle
    rw [List.length_cons] at hle
    obtain ⟨v2', e⟩ := ih (hl := hl ++ [ent ds k]) (v2 := some (.int (k : Int))) (fun j hj => hk j (List.mem_cons_of_mem _ hj)) (by rw [List.length_append, List.length_singleton]; omega)
    rw [List.append_assoc] at e
    exact ⟨v2', forItems_cons (add_turn D (by omega) (hk k List.mem_cons_self)) e⟩
noncomputable def ents (ds : List Nat) : List (Tx × Tx) := (List.range ds.length).map (ent ds)
theorem ents_ok {ds : List Nat} (D : Word ds) : ∀ p ∈ ents ds, p.1.all okSign = true := fun p hp => by
  obtain ⟨k, hk, rfl⟩ := List.mem_map.mp hp
  have hk := List.mem_range.mp hk
  rw [ent_at (List.getElem?_eq_getElem hk)]
  show (okSign _ && true) = true
  rw [(sign (D.lt _ (List.getElem_mem hk))).ok]; rfl
theorem ents_of {ds : List Nat} (D : Word ds) {c : Nat} : ((ents ds).filter fun p => decide (p.1.map lowC = [97 + c])).map (fun p => intTx p.2) = (J3.plc (low ds) c).map some := by
  unfold ents J3.plc
  rw [List.filter_map, List.map_map, List.map_map, low_len]
  have h1 : ∀ k ∈ List.range ds.length, ((fun p : Tx × Tx => decide (p.1.map lowC = [97 + c])) ∘ ent ds) k = decide ((low ds)[k]? = some c) := fun k hk => by
    have hk := List.mem_range.mp hk
    have hd : ds[k]? = some ds[k] := List.getElem?_eq_getElem hk
    show decide ((ent ds k).1.map lowC = [97 + c]) = _
    rw [ent_at hd]
    show decide ([lowC (sg ds[k])] = [97 + c]) = _
    rw [(sign (D.lt _ (List.getElem_mem hk))).low, show (low ds)[k]? = some (ds[k] % 3) from by unfold low; rw [List.getElem?_map, hd]; rfl]
    exact decide_eq_decide.mpr ⟨fun e => congrArg some (Nat.add_left_cancel (List.cons.inj e).1), fun e => by rw [Option.some.inj e]⟩
  rw [List.filter_congr h1]
  refine List.map_congr_left fun k hk => ?_
  have hk := List.mem_range.mp (List.mem_filter.mp hk).1
  show intTx (ent ds k).2 = some ((k + 1 : Nat) : Int)
  rw [ent_at (List.getElem?_eq_getElem hk)]
  exact digit_int (Nat.lt_of_le_of_lt (Nat.le_trans hk D.len) (by decide))
noncomputable def plcV (ds : List Nat) : AV := .lst ((List.range 3).map fun c => .lst ((J3.plc (low ds) c).map .int))
noncomputable def cInt : ME := eComp false (eCall (eLit (.ty .int)) [eVar 4]) [⟨1, [4], iVal (eMeth (eVar 1) .other (some 11) [eVar 3]), []⟩]
theorem ints_of {l : List (Tx × Tx)} : ∀ {xs : List Int}, l.map (fun p => intTx p.2) = xs.map some → (l.map fun p => AV.int ((intTx p.2).getD 0)) = xs.map .int ∧ ∀ p ∈ l, (intTx p.2).isSome = true := by
  induction l with
  | nil =>
    intro xs h
    cases xs with
    | nil => exact ⟨rfl, fun p h => (nomatch h)⟩
    | cons => cases h
  | cons p l ih =>
    intro xs h
    cases xs with
    | nil => cases h
    | cons x xs =>
      have h := List.cons.inj h
      have hx : intTx p.2 = some x := h.1
      obtain ⟨h1, h2⟩ := ih h.2
      refine ⟨?_, fun q hq => ?_⟩
      · rw [List.map_cons, List.map_cons, h1, hx]; rfl
      · rcases List.mem_cons.mp hq with rfl | hq
        · rw [hx]; rfl
        · exact h2 q hq
theorem int_run {ds : List Nat} (D : Word ds) {c : Nat} (hc : c < 3) {x0 v2 : Option AV} : cInt (callAt prog (d + 2)) n ([x0, some (.ref 0), v2] ++ [some (.str [97 + c])]) (cellsH (ents ds)) = some (.lst ((J3.plc (low ds) c).map .int), cellsH (ents ds)) := by
  have hl : (ents ds).length ≤ 7 := by unfold ents; rw [List.length_map, List.length_range]; exact D.len
  have hno : [97 + c].all okSign = true ∧ [97 + c].map lowC = [97 + c] := by
    match c, hc with
    | 0, _ => exact ⟨rfl, rfl⟩
    | 1, _ => exact ⟨rfl, rfl⟩
    | 2, _ => exact ⟨rfl, rfl⟩
  have hall := all_run (P := prog) (k := d) rfl rfl (tabH (ents ds)) (ents_ok D) (Nat.le_trans hl (by decide)) hno.1
  rw [hno.2] at hall
  obtain ⟨h1, h2⟩ := ints_of (ents_of D (c := c))
  have hfl : ((ents ds).filter fun p => decide (p.1.map lowC = [97 + c])).length ≤ 1000 := Nat.le_trans (List.length_filter_le _ _) (Nat.le_trans hl (by decide))
  generalize (ents ds).filter (fun p => decide (p.1.map lowC = [97 + c])) = l at hall h1 h2 hfl
  refine comp_pure (fx := fun x => [x0, some (.ref 0), v2, some (.str [97 + c]), some x]) (b := fun _ => true) (g := fun x => .int (((x.str?).bind intTx).getD 0)) (i_val (e_own rfl (es_cons rfl rfl) (tabH (ents ds)).isI hall) rfl) (fun x hx => rfl) (fun x hx => rfl) (fun x hx _ => ?_) (by rw [List.length_map]; exact Nat.le_trans hfl (by decide)) ?_
  · obtain ⟨p, hp, rfl⟩ := List.mem_map.mp hx
    obtain ⟨z, hz⟩ := Option.isSome_iff_exists.mp (h2 p hp)
    refine e_call rfl (es_cons rfl rfl) ?_
    show ((some p.2).bind intTx).map (fun i => (AV.int i, cellsH (ents ds))) = some (AV.int (((some p.2).bind intTx).getD 0), cellsH (ents ds))
    rw [Option.bind_some, hz]; rfl
  · rw [filter_all, List.map_map]
    have e : (l.map ((fun x : AV => AV.int (((x.str?).bind intTx).getD 0)) ∘ fun p => AV.str p.2)) = (J3.plc (low ds) c).map .int := h1
    rw [e]
    exact mk_lst (by rw [← h1, List.length_map]; exact hfl)
theorem places_run {ds : List Nat} (D : Word ds) (cs : Cells) : (callAt prog (d + 3)).cf 15 [.str (wTx ds)] none cs = some (plcV ds, cs) := by
  have hnew := new_run (P := prog) (k := d + 1) (cs := []) rfl rfl
  obtain ⟨v2, e⟩ := add_loop (d := d) D (List.range ds.length) (hl := []) (v2 := none) (fun k hk => List.mem_range.mp hk) (by rw [List.length_range]; exact Nat.le_trans (Nat.le_of_eq (Nat.zero_add _)) (Nat.le_trans D.len (by decide)))
  rw [List.nil_append] at e
  have hI : (iRange [eCall (eLit (.bi .len)) [eVar 0]]).run (callAt prog (d + 2)) 0 [some (.str (wTx ds)), some (.ref 0), none] (cellsH []) = some (.items ((List.range ds.length).map fun k : Nat => AV.int (k : Int)), cellsH []) := by
    have hl : evEs (callAt prog (d + 2)) 0 [eCall (eLit (.bi .len)) [eVar 0]] [some (.str (wTx ds)), some (.ref 0), none] (cellsH []) = some ([.int ((wTx ds).length : Int)], cellsH []) := rfl
    rw [show (wTx ds).length = ds.length from List.length_map ..] at hl
    exact i_range hl (range_of (Nat.le_trans D.len (by decide)))
  have hfor : sFor [2] (iRange [eCall (eLit (.bi .len)) [eVar 0]]) addBody (callAt prog (d + 2)) 0 [some (.str (wTx ds)), some (.ref 0), none] (cellsH []) = some ⟨.next, [some (.str (wTx ds)), some (.ref 0), v2], cellsH (ents ds)⟩ := s_for hI e
  have hc : eComp false cInt [⟨1, [3], iVal (eLit (.str [97, 98, 99])), []⟩] (callAt prog (d + 2)) 0 [some (.str (wTx ds)), some (.ref 0), v2] (cellsH (ents ds)) = some (plcV ds, cellsH (ents ds)) := by
    refine comp_pure (xs := (List.range 3).map fun c => .str [97 + c]) (fx := fun x => [some (.str (wTx ds)), some (.ref 0), v2, some x]) (b := fun _ => true) (g := fun x => .lst ((J3.plc (low ds) ((x.str?.getD []).getD 0 0 - 97)).map .int)) rfl (fun x hx => rfl) (fun x hx => rfl) (fun x hx _ => ?_) (by decide) ?_
    · obtain ⟨c, hc, rfl⟩ := List.mem_map.mp hx
      have e : ((AV.str [97 + c]).str?.getD []).getD 0 0 - 97 = c := Nat.add_sub_cancel_left 97 c
      rw [e]
      exact int_run D (List.mem_range.mp hc)
    · rw [filter_all]
      exact mk_lst (by decide : 3 ≤ 1000)
  refine cf_closed (P := prog) (k := d + 2) (F := f__law_places) (args := [.str (wTx ds)]) rfl rfl (run_of rfl (ss_next (as_var hnew (lt_ok rfl)) (ss_next hfor (ss_ret (s_ret hc)))) rfl) ?_
  exact bel_map (f := fun c => AV.lst ((J3.plc (low ds) c).map .int)) (fun c => bel_ints _) (List.range 3)
theorem ahead_run (ps : List Int) (hp : ps.length ≤ 1000) (p : Int) (cs : Cells) : (callAt prog (d + 1)).cf 16 [.lst (ps.map .int), .int p] none cs = some (.int (J3.ah ps p), cs) := by
  have hc : eComp false (eVar 3) [⟨1, [3], iVal (eVar 0), [bCmp .gt (eVar 3) (eVar 1)]⟩] (callAt prog d) 0 [some (.lst (ps.map .int)), some (.int p), none] [] = some (.lst ((ps.filter fun x => decide (p < x)).map .int), []) := by
    refine comp_pure (xs := ps.map .int) (fx := fun x => [some (.lst (ps.map .int)), some (.int p), none, some x]) (b := fun x => decide (p < x.int?.getD 0)) (g := fun x => x) (i_val rfl rfl) (fun x hx => rfl) (fun x hx => ?_) (fun x hx _ => rfl) (by rw [List.length_map]; exact Nat.le_trans hp (by decide)) ?_
    · obtain ⟨y, hy, rfl⟩ := List.mem_map.mp hx
      exact ao_one (b_cmp rfl rfl gt_int)
    · rw [List.map_id', List.filter_map]
      exact mk_lst (by rw [List.length_map]; exact Nat.le_trans (List.length_filter_le _ _) hp)
  unfold J3.ah
  generalize ps.filter (fun x => decide (p < x)) = l at hc
  have hr : eIte (bCmp .ne (eVar 2) (eList false [])) (eIdx (eVar 2) (eLit (.int 0))) (eNeg (eLit (.int 1))) (callAt prog d) 0 [some (.lst (ps.map .int)), some (.int p), some (.lst (l.map .int))] [] = some (.int (l.head?.getD (-1)), []) := by
    refine e_ite (b_cmp rfl rfl ne_nil) ?_
    cases l with
    | nil => rfl
    | cons x l => exact e_idx rfl rfl (idx_lst (k := 0) rfl)
  exact cf_closed (P := prog) (k := d) (F := f__law_ahead) (args := [.lst (ps.map .int), .int p]) rfl (Bool.and_eq_true_iff.mpr ⟨bel_ints ps, rfl⟩) (run_of rfl (ss_next (as_var hc (lt_ok rfl)) (ss_ret (s_ret hr))) rfl) rfl
end
end Ev.L3
namespace Ev.L3
open Ev.Lib
noncomputable def encSt (st : Int × Int) : AV := .tup [.int st.1, .int st.2]
noncomputable def encE (e : J3.E) : AV := .tup [.int (e.size : Int), .str (tx3 e.word), .int e.st.1, .int e.st.2]
theorem tx3_lt : ∀ a b : List Nat, ltTx (tx3 a) (tx3 b) = J3.ltw a b
  | [], [] => rfl
  | [], _ :: _ => rfl
  | _ :: _, [] => rfl
  | a :: r, b :: q => by
    show (if 97 + a < 97 + b then true else if 97 + b < 97 + a then false else ltTx (tx3 r) (tx3 q)) = if a < b then true else if b < a then false else J3.ltw r q
    rw [tx3_lt r q]
    by_cases h : a < b
    · rw [if_pos h, if_pos (Nat.add_lt_add_left h 97)]
    · rw [if_neg h, if_neg fun z => h (Nat.lt_of_add_lt_add_left z)]
      by_cases h' : b < a
      · rw [if_pos h', if_pos (Nat.add_lt_add_left h' 97)]
      · rw [if_neg h', if_neg fun z => h' (Nat.lt_of_add_lt_add_left z)]
theorem tx3_inj : ∀ {a b : List Nat}, tx3 a = tx3 b → a = b
  | [], [], _ => rfl
  | [], _ :: _, h => nomatch h
  | _ :: _, [], h => nomatch h
  | a :: r, b :: q, h => by
    have h := List.cons.inj h
    rw [Nat.add_left_cancel h.1, tx3_inj h.2]
theorem int_beq (a b : Int) : (a == b) = decide (a = b) := Bool.eq_iff_iff.mpr (by rw [beq_iff_eq, decide_eq_true_iff])
theorem encE_lt : Enc encE J3.lt := by
  refine ⟨fun cs a b => ?_, fun a => rfl⟩
  obtain ⟨n, u, p, q⟩ := a
  obtain ⟨m, v, x, y⟩ := b
  show (if ((n : Int) == (m : Int)) = true then (if (tx3 u == tx3 v) = true then (if (p == x) = true then (if (q == y) = true then some false else some (decide (q < y))) else some (decide (p < x))) else some (ltTx (tx3 u) (tx3 v))) else some (decide ((n : Int) < (m : Int)))) =
    some (decide (n < m) || (decide (n = m) && (J3.ltw u v || (decide (u = v) && (decide (p < x) || (decide (p = x) && decide (q < y)))))))
  have h1 : ((n : Int) == (m : Int)) = decide (n = m) := Bool.eq_iff_iff.mpr (by rw [beq_iff_eq, decide_eq_true_iff]; exact Int.ofNat_inj)
  have h2 : (tx3 u == tx3 v) = decide (u = v) := Bool.eq_iff_iff.mpr (by rw [beq_iff_eq, decide_eq_true_iff]; exact ⟨tx3_inj, fun e => by rw [e]⟩)
  have h3 : decide ((n : Int) < (m : Int)) = decide (n < m) := decide_eq_decide.mpr Int.ofNat_lt
  rw [h1, h2, h3, tx3_lt, int_beq, int_beq]
  by_cases e1 : n = m
  · subst e1
    rw [decide_eq_true (rfl : n = n), if_pos rfl, decide_eq_false (Nat.lt_irrefl n), Bool.false_or, Bool.true_and]
    by_cases e2 : u = v
    · subst e2
      rw [decide_eq_true (rfl : u = u), if_pos rfl, J3.ltw_irr, Bool.false_or, Bool.true_and]
      by_cases e3 : p = x
      · subst e3
        rw [decide_eq_true (rfl : p = p), if_pos rfl, decide_eq_false (Int.lt_irrefl p), Bool.false_or, Bool.true_and]
        by_cases e4 : q = y
        · subst e4
          rw [decide_eq_true (rfl : q = q), if_pos rfl, decide_eq_false (Int.lt_irrefl q)]
        · rw [decide_eq_false e4, if_neg Bool.false_ne_true]
      · rw [decide_eq_false e3, if_neg Bool.false_ne_true, Bool.false_and, Bool.or_false]
    · rw [decide_eq_false e2, if_neg Bool.false_ne_true, Bool.false_and, Bool.or_false]
  · rw [decide_eq_false e1, if_neg Bool.false_ne_true, Bool.false_and, Bool.or_false]
noncomputable def cells2 (xs : List J3.E) (ms : List (Int × Int)) : Cells := [.list (xs.map encE), .list (ms.map encSt)]
noncomputable abbrev frF (one other : AV) (v4 v5 v6 v7 v8 v9 : Option AV) : Fr := [some one, some other, some (.ref 0), some (.ref 1), v4, v5, v6, v7, v8, v9]
section
variable {W : Wd} {n d : Nat} {cs : Cells} {a b : List Nat} {one other : AV} {v4 v5 v6 v7 v8 v9 : Option AV} {xs : List J3.E} {ms : List (Int × Int)}
theorem plc_at {ds : List Nat} {k : Nat} (hk : k < 3) : idxv cs (plcV ds) (.int (k : Int)) = some (.lst ((J3.plc (low ds) k).map .int)) :=
  idx_lst (by rw [List.getElem?_map, List.getElem?_range hk]; rfl)
theorem plc_len {ds : List Nat} {k : Nat} (h : ds.length ≤ 7) : (J3.plc (low ds) k).length ≤ 1000 := by
  unfold J3.plc
  rw [List.length_map]
  refine Nat.le_trans (List.length_filter_le _ _) ?_
  rw [List.length_range, low_len]; exact Nat.le_trans h (by decide)
theorem memb {st : Int × Int} (ms : List (Int × Int)) : membv cs (encSt st) (ms.map encSt) = some (decide (st ∈ ms)) := by
  induction ms with
  | nil => rfl
  | cons x ms ih =>
    show ((some ((x.1 == st.1) && ((x.2 == st.2) && true))).bind fun t => (membv cs (encSt st) (ms.map encSt)).map (t || ·)) = _
    rw [ih]
    show some (((x.1 == st.1) && ((x.2 == st.2) && true)) || decide (st ∈ ms)) = _
    rw [Bool.and_true, int_beq, int_beq]
    refine congrArg some (Bool.eq_iff_iff.mpr ?_)
    rw [Bool.or_eq_true, Bool.and_eq_true, decide_eq_true_iff, decide_eq_true_iff, decide_eq_true_iff, decide_eq_true_iff, List.mem_cons]
    exact or_congr_left ⟨fun h => Prod.ext h.1.symm h.2.symm, fun h => by rw [h]; exact ⟨rfl, rfl⟩⟩
theorem ne_dead {st : Int × Int} : cmpv cs .ne (encSt st) (.tup [.int (-1), .int (-1)]) = some (!J3.dead st) := by
  show some (!((st.1 == -1) && ((st.2 == -1) && true))) = _
  rw [Bool.and_true, int_beq, int_beq]
  refine congrArg (fun t => some (!t)) (Bool.eq_iff_iff.mpr ?_)
  unfold J3.dead
  rw [Bool.and_eq_true, decide_eq_true_iff, decide_eq_true_iff, decide_eq_true_iff]
  exact ⟨fun h => Prod.ext h.1 h.2, fun h => by rw [h]; exact ⟨rfl, rfl⟩⟩
noncomputable def bNew : MB := bAO true [bCmp .ne (eVar 9) (eTup [eNeg (eLit (.int 1)), eNeg (eLit (.int 1))]), bCmp .notin (eVar 9) (eVar 3)]
noncomputable def pushSs : List MS := [
        sExpr (eMeth (eVar 3) .append none [eVar 9]),
        sExpr (eCall (eLit (.fn 0)) [eVar 2, eTup [eBin false .add (eVar 4) (eLit (.int 1)), eBin false .add (eVar 5) (eIdx (eLit (.str [97, 98, 99])) (eVar 8)), eIdx (eVar 9) (eLit (.int 0)), eIdx (eVar 9) (eLit (.int 1))]])]
noncomputable def goBody : List MS := [
      sAssign (tVar 9) (eTup [eCall (eLit (.fn 16)) [eIdx (eVar 0) (eVar 8), eVar 6], eCall (eLit (.fn 16)) [eIdx (eVar 1) (eVar 8), eVar 7]]),
      sIte bNew pushSs []]
theorem new_test {st : Int × Int} : bNew W n (frF one other v4 v5 v6 v7 v8 (some (encSt st))) (cells2 xs ms) = some (decide (J3.dead st = false ∧ st ∉ ms), cells2 xs ms) := by
  have h1 : bCmp .ne (eVar 9) (eTup [eNeg (eLit (.int 1)), eNeg (eLit (.int 1))]) W n (frF one other v4 v5 v6 v7 v8 (some (encSt st))) (cells2 xs ms) = some (!J3.dead st, cells2 xs ms) := b_cmp rfl rfl ne_dead
  have h2 : bCmp .notin (eVar 9) (eVar 3) W n (frF one other v4 v5 v6 v7 v8 (some (encSt st))) (cells2 xs ms) = some (!decide (st ∈ ms), cells2 xs ms) := b_cmp rfl rfl (by
    show (membv (cells2 xs ms) (encSt st) (ms.map encSt)).map (!·) = _
    rw [memb]; rfl)
  refine b_ao h1 ?_
  cases hd : J3.dead st with
  | true => exact congrArg (fun t => some (t, cells2 xs ms)) (decide_eq_false fun h => Bool.noConfusion h.1).symm
  | false =>
    refine (ao_one h2).trans (congrArg (fun t => some (t, cells2 xs ms)) ?_)
    by_cases hm : st ∈ ms
    · rw [decide_eq_true hm, decide_eq_false (fun h => h.2 hm)]; rfl
    · rw [decide_eq_false hm, decide_eq_true ⟨rfl, hm⟩]; rfl
theorem push_ss {e : J3.E} {st : Int × Int} {k : Nat} (hk : k < 3) (hx : xs.length < 2900) (hm : ms.length < 2900) (hw : e.word.length ≤ 1000) {v6 v7 : Option AV} :
    evSs (callAt prog (d + 3)) 0 pushSs (frF one other (some (.int (e.size : Int))) (some (.str (tx3 e.word))) v6 v7 (some (.int (k : Int))) (some (encSt st))) (cells2 xs ms) =
      some ⟨.next, frF one other (some (.int (e.size : Int))) (some (.str (tx3 e.word))) v6 v7 (some (.int (k : Int))) (some (encSt st)), cells2 (Hp.push J3.lt xs ⟨e.size + 1, e.word ++ [k], st⟩) (ms ++ [st])⟩ := by
  have hap : mcall 0 (.ref 1) .append [encSt st] (cells2 xs ms) = some (.none, cells2 xs (ms ++ [st])) := by
    have hl : (ms.map encSt).length < lim := by rw [List.length_map]; exact Nat.lt_trans hm (by decide)
    show (listAt (cells2 xs ms) 1).bind (fun ys => if (put 0 1 (encSt st) && decide (ys.length < lim)) = true then some (AV.none, (cells2 xs ms).set 1 (.list (ys ++ [encSt st]))) else none) = _
    rw [list_at (xs := ms.map encSt) rfl, Option.bind_some, if_pos (Bool.and_eq_true_iff.mpr ⟨(rfl : put 0 1 (encSt st) = true), decide_eq_true hl⟩)]
    unfold cells2
    rw [List.map_append]; rfl
  have hp := push_run (P := prog) (k := d + 1) (x := (⟨e.size + 1, e.word ++ [k], st⟩ : J3.E)) encE_lt rfl rfl (show (cells2 xs (ms ++ [st]))[0]? = some (.list (xs.map encE)) from rfl) hx
  have habc : eIdx (eLit (.str [97, 98, 99])) (eVar 8) (callAt prog (d + 3)) 0 (frF one other (some (.int (e.size : Int))) (some (.str (tx3 e.word))) v6 v7 (some (.int (k : Int))) (some (encSt st))) (cells2 xs (ms ++ [st])) = some (.str [97 + k], cells2 xs (ms ++ [st])) :=
    e_idx rfl rfl (idx_str (by
      match k, hk with
      | 0, _ => rfl
      | 1, _ => rfl
      | 2, _ => rfl))
  have hadd : binv false .add (.str (tx3 e.word)) (.str [97 + k]) (cells2 xs (ms ++ [st])) = some (.str (tx3 (e.word ++ [k])), cells2 xs (ms ++ [st])) := by
    refine (if_pos (show (tx3 e.word).length + 1 ≤ lim from ?_)).trans ?_
    · unfold tx3; rw [List.length_map]; exact Nat.le_trans (Nat.succ_le_succ hw) (by decide)
    · unfold tx3; rw [List.map_append]; rfl
  exact ss_next (s_expr (e_meth rfl (es_cons rfl rfl) rfl rfl hap)) (ss_next (s_expr (e_call rfl (es_cons rfl (es_cons (e_tup (es_cons (e_bin rfl rfl rfl) (es_cons (e_bin rfl habc hadd) (es_cons (e_idx rfl rfl rfl) (es_cons (e_idx rfl rfl rfl) rfl)))) (by decide : 4 ≤ 100)) rfl)) hp)) rfl)
noncomputable abbrev p1 (a b : List Nat) (e : J3.E) (hm : List J3.E × List (Int × Int)) (k : Nat) : List J3.E × List (Int × Int) := Bf.push1 J3.lt (J3.step (low a) (low b)) J3.dead e hm k
theorem go_turn {e : J3.E} {hm : List J3.E × List (Int × Int)} {k : Nat} (hk : k < 3) (ha : a.length ≤ 7) (hb : b.length ≤ 7) (hx : hm.1.length < 2900) (hmm : hm.2.length < 2900) (hw : e.word.length ≤ 1000) {v8 v9 : Option AV} :
    ∃ v9', stepF (callAt prog (d + 3)) 0 [8] goBody (.int (k : Int)) (frF (plcV a) (plcV b) (some (.int (e.size : Int))) (some (.str (tx3 e.word))) (some (.int e.st.1)) (some (.int e.st.2)) v8 v9) (cells2 hm.1 hm.2) =
      some ⟨.next, frF (plcV a) (plcV b) (some (.int (e.size : Int))) (some (.str (tx3 e.word))) (some (.int e.st.1)) (some (.int e.st.2)) (some (.int (k : Int))) v9', cells2 (p1 a b e hm k).1 (p1 a b e hm k).2⟩ := by
  have h1 := ahead_run (d := d + 2) (J3.plc (low a) k) (plc_len ha) e.st.1 (cells2 hm.1 hm.2)
  have h2 := ahead_run (d := d + 2) (J3.plc (low b) k) (plc_len hb) e.st.2 (cells2 hm.1 hm.2)
  have h3 : sAssign (tVar 9) (eTup [eCall (eLit (.fn 16)) [eIdx (eVar 0) (eVar 8), eVar 6], eCall (eLit (.fn 16)) [eIdx (eVar 1) (eVar 8), eVar 7]]) (callAt prog (d + 3)) 0 (frF (plcV a) (plcV b) (some (.int (e.size : Int))) (some (.str (tx3 e.word))) (some (.int e.st.1)) (some (.int e.st.2)) (some (.int (k : Int))) v9) (cells2 hm.1 hm.2) = some ⟨.next, frF (plcV a) (plcV b) (some (.int (e.size : Int))) (some (.str (tx3 e.word))) (some (.int e.st.1)) (some (.int e.st.2)) (some (.int (k : Int))) (some (encSt (J3.step (low a) (low b) e.st k))), cells2 hm.1 hm.2⟩ := as_var (v := encSt (J3.step (low a) (low b) e.st k)) (e_tup2 (e_call rfl (es_cons (e_idx rfl rfl (plc_at hk)) (es_cons rfl rfl)) h1) (e_call rfl (es_cons (e_idx rfl rfl (plc_at hk)) (es_cons rfl rfl)) h2)) (lt_ok rfl)
  have ht := new_test (W := callAt prog (d + 3)) (n := 0) (one := plcV a) (other := plcV b) (v4 := some (.int (e.size : Int))) (v5 := some (.str (tx3 e.word))) (v6 := some (.int e.st.1)) (v7 := some (.int e.st.2)) (v8 := some (.int (k : Int))) (xs := hm.1) (ms := hm.2) (st := J3.step (low a) (low b) e.st k)
  refine ⟨some (encSt (J3.step (low a) (low b) e.st k)), bindE rfl (ss_next h3 ?_)⟩
  unfold p1 Bf.push1
  by_cases h : J3.dead (J3.step (low a) (low b) e.st k) = false ∧ J3.step (low a) (low b) e.st k ∉ hm.2
  · rw [decide_eq_true h] at ht
    rw [if_pos h]
    exact ss_next (s_if ht (push_ss hk hx hmm hw)) rfl
  · rw [decide_eq_false h] at ht
    rw [if_neg h]
    exact ss_next (s_if ht rfl) rfl
theorem p1_len (e : J3.E) (hm : List J3.E × List (Int × Int)) (k : Nat) : (p1 a b e hm k).1.length ≤ hm.1.length + 1 ∧ (p1 a b e hm k).2.length ≤ hm.2.length + 1 := by
  unfold p1 Bf.push1
  by_cases h : J3.dead (J3.step (low a) (low b) e.st k) = false ∧ J3.step (low a) (low b) e.st k ∉ hm.2
  · rw [if_pos h]
    exact ⟨Nat.le_of_eq (Hp.push_perm hm.1 _).length_eq, Nat.le_of_eq (List.length_append ..)⟩
  · rw [if_neg h]; exact ⟨Nat.le_succ _, Nat.le_succ _⟩
theorem go_loop {e : J3.E} (ha : a.length ≤ 7) (hb : b.length ≤ 7) (hw : e.word.length ≤ 1000) (l : List Nat) : ∀ {hm : List J3.E × List (Int × Int)} {v8 v9 : Option AV}, (∀ k ∈ l, k < 3) → hm.1.length + l.length < 2900 → hm.2.length + l.length < 2900 →
    ∃ v8' v9', forItems (stepF (callAt prog (d + 3)) 0 [8] goBody) (l.map fun k : Nat => AV.int (k : Int)) (frF (plcV a) (plcV b) (some (.int (e.size : Int))) (some (.str (tx3 e.word))) (some (.int e.st.1)) (some (.int e.st.2)) v8 v9) (cells2 hm.1 hm.2) =
      some ⟨.next, frF (plcV a) (plcV b) (some (.int (e.size : Int))) (some (.str (tx3 e.word))) (some (.int e.st.1)) (some (.int e.st.2)) v8' v9', cells2 (l.foldl (p1 a b e) hm).1 (l.foldl (p1 a b e) hm).2⟩ := by
  induction l with
  | nil => intro hm v8 v9 _ _ _; exact ⟨v8, v9, rfl⟩
  | cons k l ih =>
    intro hm v8 v9 hk h1 h2
    rw [List.length_cons] at h1 h2
    obtain ⟨q1, q2⟩ := p1_len (a := a) (b := b) e hm k
    obtain ⟨w9, e1⟩ := go_turn (d := d) (e := e) (hm := hm) (v8 := v8) (v9 := v9) (hk k List.mem_cons_self) ha hb (by omega) (by omega) hw
    obtain ⟨v8', v9', e2⟩ := ih (hm := p1 a b e hm k) (v8 := some (.int (k : Int))) (v9 := w9) (fun j hj => hk j (List.mem_cons_of_mem _ hj)) (by omega) (by omega)
    exact ⟨v8', v9', forItems_cons e1 e2⟩
noncomputable def wTest : MB := bCmp .ne (eVar 2) (eList false [])
noncomputable def bNeg : MB := bAO false [bCmp .lt (eVar 6) (eLit (.int 0)), bCmp .lt (eVar 7) (eLit (.int 0))]
noncomputable def wBody : List MS := [
    sAsgT [4, 5, 6, 7] (eCall (eLit (.fn 1)) [eVar 2]),
    sIte bNeg [sRet (eVar 5)] [],
    sFor [8] (iRange [eLit (.int 3)]) goBody]
theorem neg_test {st : Int × Int} : bNeg W n (frF one other v4 v5 (some (.int st.1)) (some (.int st.2)) v8 v9) cs = some (J3.goal st, cs) := by
  refine b_ao (b_cmp rfl rfl lt_int) ?_
  unfold J3.goal
  cases decide (st.1 < 0) with
  | true => rfl
  | false => exact ao_one (b_cmp rfl rfl lt_int)
noncomputable def flOf (r : Option J3.E) : Fl := match r with
  | none => .next
  | some e => .ret (.str (tx3 e.word))
theorem while_run (ha : a.length ≤ 7) (hb : b.length ≤ 7) : ∀ (f : Nat) {F : Nat} {xs : List J3.E} {ms ps : List (Int × Int)} {r : Option J3.E} {v4 v5 v6 v7 v8 v9 : Option AV}, f ≤ F → Bf.Inv J3.lt (J3.step (low a) (low b)) J3.goal J3.dead J3.C3 (0, 0) (J3.univ (low a).length (low b).length) xs ms ps → Bf.go J3.lt (J3.step (low a) (low b)) J3.goal J3.dead J3.C3 f xs ms = some r → xs.length ≤ ms.length → (∀ e ∈ xs, e.size + f ≤ 1000) →
    ∃ fr' cs', whileGo (stepW (callAt prog (d + 3)) 0 wTest wBody) F (frF (plcV a) (plcV b) v4 v5 v6 v7 v8 v9) (cells2 xs ms) = some ⟨flOf r, fr', cs'⟩ := by
  intro f
  induction f with
  | zero => intro F xs ms ps r v4 v5 v6 v7 v8 v9 _ _ h; cases h
  | succ f ih =>
    intro F xs ms ps r v4 v5 v6 v7 v8 v9 hF I h h1 h3
    obtain ⟨F, rfl⟩ := Nat.exists_eq_succ_of_ne_zero (Nat.ne_of_gt (Nat.lt_of_lt_of_le (Nat.succ_pos f) hF))
    have hms : ms.length ≤ 81 := by
      have h := Bf.nodup_le I.nd I.sub
      rw [J3.univ_len, low_len, low_len] at h
      exact Nat.le_trans h (Nat.mul_le_mul (Nat.add_le_add_right ha 2) (Nat.add_le_add_right hb 2))
    cases xs with
    | nil =>
      obtain rfl : none = r := Option.some.inj h
      exact ⟨_, _, wh_brk (st_f (b_cmp rfl rfl (ne_cell (xs := []) rfl)))⟩
    | cons e r' =>
      have hxl := Nat.le_trans h1 hms
      have hpop := pop_run (P := prog) (k := d) encE_lt rfl rfl rfl (show (cells2 (e :: r') ms)[0]? = some (.list ((e :: r').map encE)) from rfl) (by rw [List.length_cons] at hxl; omega)
      have hpop : (callAt prog (d + 3)).cf 1 [.ref 0] none (cells2 (e :: r') ms) = some (.tup [.int (e.size : Int), .str (tx3 e.word), .int e.st.1, .int e.st.2], cells2 (Hp.rest J3.lt (e :: r')) ms) := hpop
      have hc : wTest (callAt prog (d + 3)) 0 (frF (plcV a) (plcV b) v4 v5 v6 v7 v8 v9) (cells2 (e :: r') ms) = some (true, cells2 (e :: r') ms) := b_cmp rfl rfl (ne_cell (xs := (e :: r').map encE) rfl)
      have hcall : eCall (eLit (.fn 1)) [eVar 2] (callAt prog (d + 3)) 0 (frF (plcV a) (plcV b) v4 v5 v6 v7 v8 v9) (cells2 (e :: r') ms) = some (.tup [.int (e.size : Int), .str (tx3 e.word), .int e.st.1, .int e.st.2], cells2 (Hp.rest J3.lt (e :: r')) ms) := e_call rfl rfl hpop
      have s1 : sAsgT [4, 5, 6, 7] (eCall (eLit (.fn 1)) [eVar 2]) (callAt prog (d + 3)) 0 (frF (plcV a) (plcV b) v4 v5 v6 v7 v8 v9) (cells2 (e :: r') ms) = some ⟨.next, frF (plcV a) (plcV b) (some (.int (e.size : Int))) (some (.str (tx3 e.word))) (some (.int e.st.1)) (some (.int e.st.2)) v8 v9, cells2 (Hp.rest J3.lt (e :: r')) ms⟩ :=
        asg_t (is := [4, 5, 6, 7]) (xs := [.int (e.size : Int), .str (tx3 e.word), .int e.st.1, .int e.st.2]) hcall rfl
      have ht := neg_test (W := callAt prog (d + 3)) (n := 0) (cs := cells2 (Hp.rest J3.lt (e :: r')) ms) (one := plcV a) (other := plcV b) (v4 := some (.int (e.size : Int))) (v5 := some (.str (tx3 e.word))) (st := e.st) (v8 := v8) (v9 := v9)
      have h : (if J3.goal e.st = true then some (some e) else Bf.go J3.lt (J3.step (low a) (low b)) J3.goal J3.dead J3.C3 f (J3.C3.foldl (p1 a b e) (Hp.rest J3.lt (e :: r'), ms)).1 (J3.C3.foldl (p1 a b e) (Hp.rest J3.lt (e :: r'), ms)).2) = some r := h
      cases hg : J3.goal e.st with
      | true =>
        rw [hg] at ht
        rw [hg, if_pos rfl] at h
        obtain rfl := Option.some.inj h
        exact ⟨_, _, bindE (st_t hc (ss_next s1 (ss_ret (s_if ht (ss_ret (s_ret rfl)))))) rfl⟩
      | false =>
        rw [hg] at ht
        rw [hg, if_neg Bool.false_ne_true] at h
        have hrl := (Hp.rest_spec J3.lt_to I.heap).2.1.length_eq
        rw [List.length_cons] at hrl
        have hes := h3 e List.mem_cons_self
        obtain ⟨I', hl, hsz⟩ := Bf.turn (J3.sys (low a) (low b)) I hg
        obtain ⟨w8, w9, e2⟩ := go_loop (d := d) (e := e) (v8 := v8) (v9 := v9) ha hb (by rw [(I.ent e List.mem_cons_self).len]; exact Nat.le_trans (Nat.le_add_right _ _) hes) J3.C3 (hm := (Hp.rest J3.lt (e :: r'), ms)) (fun k hk => J3.mem_C3.mp hk) (by
          show (Hp.rest J3.lt (e :: r')).length + 3 < 2900
          omega) (by show ms.length + 3 < 2900; omega)
        have I' : Bf.Inv J3.lt (J3.step (low a) (low b)) J3.goal J3.dead J3.C3 (0, 0) (J3.univ (low a).length (low b).length) (J3.C3.foldl (p1 a b e) (Hp.rest J3.lt (e :: r'), ms)).1 (J3.C3.foldl (p1 a b e) (Hp.rest J3.lt (e :: r'), ms)).2 (e.st :: ps) := I'
        have hl : (J3.C3.foldl (p1 a b e) (Hp.rest J3.lt (e :: r'), ms)).1.length + ms.length + 1 = (e :: r').length + (J3.C3.foldl (p1 a b e) (Hp.rest J3.lt (e :: r'), ms)).2.length := hl
        have hsz : ∀ x ∈ (J3.C3.foldl (p1 a b e) (Hp.rest J3.lt (e :: r'), ms)).1, x.size ≤ e.size + 1 := hsz
        generalize J3.C3.foldl (p1 a b e) (Hp.rest J3.lt (e :: r'), ms) = hm at h e2 I' hl hsz
        obtain ⟨fr', cs', e3⟩ := ih (F := F) (v4 := some (.int (e.size : Int))) (v5 := some (.str (tx3 e.word))) (v6 := some (.int e.st.1)) (v7 := some (.int e.st.2)) (v8 := w8) (v9 := w9) (Nat.le_of_succ_le_succ hF) I' h (by omega) (fun x hx => by
          have := hsz x hx
          omega)
        exact ⟨fr', cs', wh_next (st_t hc (ss_next s1 (ss_next (s_if ht rfl) (ss_next (s_for rfl e2) rfl)))) e3⟩
noncomputable def foundTx (r : Option J3.E) : List Nat := (r.map (·.word)).getD []
theorem found_run (ha : a.length ≤ 7) (hb : b.length ≤ 7) {r : Option J3.E} (h : Bf.go J3.lt (J3.step (low a) (low b)) J3.goal J3.dead J3.C3 100 [⟨0, [], (0, 0)⟩] [(0, 0)] = some r) (cs : Cells) : (callAt prog (d + 4)).cf 17 [plcV a, plcV b] none cs = some (.str (tx3 (foundTx r)), cs) := by
  have I := Bf.inv0 (lt := J3.lt) (step := J3.step (low a) (low b)) (goal := J3.goal) (dead := J3.dead) (cs := J3.C3) (start := ((0 : Int), (0 : Int))) (J3.mem_univ (n := (low a).length) (m := (low b).length) (J3.mem_nums (k := 0) (Nat.zero_le _)) (J3.mem_nums (k := 0) (Nat.zero_le _)))
  obtain ⟨fr', cs', e⟩ := while_run (d := d) ha hb 100 (F := loopFuel) (v4 := none) (v5 := none) (v6 := none) (v7 := none) (v8 := none) (v9 := none) (by decide) I h (Nat.le_refl _) (fun e he => by rw [List.mem_singleton.mp he]; decide)
  have s1 : sAsgT [2, 3] (eTup [eList true [eTup [eLit (.int 0), eLit (.str []), eLit (.int 0), eLit (.int 0)]], eList true [eTup [eLit (.int 0), eLit (.int 0)]]]) (callAt prog (d + 3)) 0 [some (plcV a), some (plcV b), none, none, none, none, none, none, none, none] [] = some ⟨.next, frF (plcV a) (plcV b) none none none none none none, cells2 [⟨0, [], (0, 0)⟩] [(0, 0)]⟩ := rfl
  have hb2 : belows 0 [plcV a, plcV b] = true := Bool.and_eq_true_iff.mpr ⟨bel_map (f := fun c => AV.lst ((J3.plc (low a) c).map .int)) (fun c => bel_ints _) (List.range 3), Bool.and_eq_true_iff.mpr ⟨bel_map (f := fun c => AV.lst ((J3.plc (low b) c).map .int)) (fun c => bel_ints _) (List.range 3), rfl⟩⟩
  have hw : sWhile wTest wBody (callAt prog (d + 3)) 0 (frF (plcV a) (plcV b) none none none none none none) (cells2 [⟨0, [], (0, 0)⟩] [(0, 0)]) = some ⟨flOf r, fr', cs'⟩ := e
  cases r with
  | none => exact cf_closed (P := prog) (k := d + 3) (F := f__law_found) rfl hb2 (run_of rfl (ss_next s1 (ss_next hw (ss_ret (s_ret rfl)))) rfl) rfl
  | some e => exact cf_closed (P := prog) (k := d + 3) (F := f__law_found) rfl hb2 (run_of rfl (ss_next s1 (ss_ret hw)) rfl) rfl
end
end Ev.L3
namespace Ev.L3
open Ev.Lib
section
variable {W : Wd} {n d : Nat} {cs : Cells}
theorem clamp_nat {m k : Nat} : clampZ m (k : Int) = min k m := by
  unfold clampZ
  rw [if_neg (Int.not_lt.mpr (Int.natCast_nonneg k))]; omega
theorem slc_to {s : Tx} {k : Nat} : slcv false cs (.str s) .none (.int (k : Int)) = some (.str (s.take k), cs) := by
  have b : boundv s.length s.length (.int (k : Int)) = some (min k s.length) := congrArg some clamp_nat
  have e : cut s 0 (min k s.length) = s.take k := by unfold cut; rw [List.drop_zero, ← List.take_eq_take_min]
  show (boundv s.length 0 .none).bind (fun l => (boundv s.length s.length (.int (k : Int))).map fun h => (AV.str (cut s l h), cs)) = _
  rw [show boundv s.length 0 .none = some 0 from rfl, Option.bind_some, b, Option.map_some, e]
theorem slc_from {s : Tx} {k : Nat} : slcv false cs (.str s) (.int (k : Int)) .none = some (.str (s.drop k), cs) := by
  have b : boundv s.length 0 (.int (k : Int)) = some (min k s.length) := congrArg some clamp_nat
  have e : cut s (min k s.length) s.length = s.drop k := by
    unfold cut
    rw [List.take_length]
    by_cases h : k ≤ s.length
    · rw [Nat.min_eq_left h]
    · rw [Nat.min_eq_right (Nat.le_of_not_le h), List.drop_length, List.drop_eq_nil_of_le (Nat.le_of_not_le h)]
  show (boundv s.length 0 (.int (k : Int))).bind (fun l => (boundv s.length s.length .none).map fun h => (AV.str (cut s l h), cs)) = _
  rw [b, Option.bind_some, show boundv s.length s.length .none = some s.length from rfl, Option.map_some, e]
theorem clamp_neg {m k : Nat} (h : 0 < k) (hk : k ≤ m) : clampZ m (-(k : Int)) = m - k := by
  unfold clampZ
  rw [if_pos (by omega)]; omega
theorem lower_word {ds : List Nat} (D : Word ds) : mcall n (.str (wTx ds)) .lower [] cs = some (.str (tx3 (low ds)), cs) := by
  have ha : ascii (wTx ds) = true := by
    unfold wTx ascii
    rw [List.all_map]
    exact List.all_eq_true.mpr fun x hx => decide_eq_true (Nat.lt_trans (of_decide_eq_true (Bool.and_eq_true_iff.mp (sign (D.lt x hx)).ok).2) (by decide))
  have e : (wTx ds).map lowC = tx3 (low ds) := by
    unfold wTx tx3 low
    rw [List.map_map, List.map_map]
    exact List.map_congr_left fun x hx => (sign (D.lt x hx)).low
  rw [← e]
  exact if_pos ha
theorem items3 {w : List Nat} (hw : ∀ x ∈ w, x < 3) : itv cs (.str (tx3 w)) = some (.items (w.map fun c => .str [97 + c])) := by
  have ha : ascii (tx3 w) = true := by
    unfold tx3 ascii
    rw [List.all_map]
    exact List.all_eq_true.mpr fun x hx => decide_eq_true (Nat.lt_trans (Nat.add_lt_add_left (hw x hx) 97) (by decide))
  refine (if_pos ha).trans ?_
  unfold tx3
  rw [List.map_map]; rfl
noncomputable def eatBody : List MS := [
    sIte (bCmp .eq (eSlc false (eVar 0) (eLit (.none)) (eLit (.int 1))) (eVar 2)) [
      sAssign (tVar 0) (eSlc false (eVar 0) (eLit (.int 1)) (eLit (.none)))] []]
theorem eat_loop {x1 : Option AV} (w : List Nat) : ∀ {s : List Nat} {v2 : Option AV}, ∃ v2', forItems (stepF W 0 [2] eatBody) (w.map fun c => .str [97 + c]) [some (.str (tx3 s)), x1, v2] cs = some ⟨.next, [some (.str (tx3 (J3.eat s w))), x1, v2'], cs⟩ := by
  induction w with
  | nil => intro s v2; exact ⟨v2, by cases s <;> rfl⟩
  | cons x w ih =>
    intro s v2
    have h0 : bCmp .eq (eSlc false (eVar 0) (eLit (.none)) (eLit (.int 1))) (eVar 2) W 0 [some (.str (tx3 s)), x1, some (.str [97 + x])] cs = some ((tx3 s).take 1 == [97 + x], cs) :=
      b_cmp (e_slc rfl rfl rfl (slc_to (k := 1))) rfl eq_str
    cases s with
    | nil =>
      obtain ⟨v, e⟩ := ih (s := []) (v2 := some (.str [97 + x]))
      rw [J3.eat_nil] at e
      exact ⟨v, forItems_cons (bindE rfl (ss_next (s_if h0 rfl) rfl)) e⟩
    | cons c s =>
      have hb : ((tx3 (c :: s)).take 1 == [97 + x]) = decide (c = x) := Bool.eq_iff_iff.mpr (by
        rw [beq_iff_eq, decide_eq_true_iff]
        exact ⟨fun e => Nat.add_left_cancel (List.cons.inj e).1, fun e => by rw [e]; rfl⟩)
      rw [hb] at h0
      by_cases e : c = x
      · rw [decide_eq_true e] at h0
        obtain ⟨v, e2⟩ := ih (s := s) (v2 := some (.str [97 + x]))
        rw [J3.eat, if_pos e]
        exact ⟨v, forItems_cons (bindE rfl (ss_next (s_if h0 (ss_next (as_var (e_slc rfl rfl rfl (slc_from (k := 1))) (lt_ok rfl)) rfl)) rfl)) e2⟩
      · rw [decide_eq_false e] at h0
        obtain ⟨v, e2⟩ := ih (s := c :: s) (v2 := some (.str [97 + x]))
        rw [J3.eat, if_neg e]
        exact ⟨v, forItems_cons (bindE rfl (ss_next (s_if h0 rfl) rfl)) e2⟩
theorem lies_run {ds : List Nat} (D : Word ds) (t : List Nat) (cs : Cells) : (callAt prog (d + 1)).cf 19 [.str (tx3 t), .str (wTx ds)] none cs = some (.bool (J3.lies t (low ds)), cs) := by
  obtain ⟨v, e⟩ := eat_loop (W := callAt prog d) (cs := []) (x1 := some (.str (wTx ds))) (low ds) (s := t) (v2 := none)
  have hf : sFor [2] (iVal (eMeth (eVar 1) .lower none [])) eatBody (callAt prog d) 0 [some (.str (tx3 t)), some (.str (wTx ds)), none] [] = _ := s_for (i_val (e_meth rfl rfl rfl rfl (lower_word D)) (items3 low_lt)) e
  have hr : eCmp .eq (eVar 0) (eLit (.str [])) (callAt prog d) 0 [some (.str (tx3 (J3.eat t (low ds)))), some (.str (wTx ds)), v] [] = some (.bool (J3.lies t (low ds)), []) := by
    refine e_cmp rfl rfl ?_
    unfold J3.lies
    cases J3.eat t (low ds) with
    | nil => rfl
    | cons c s => rfl
  exact cf_closed (P := prog) (k := d) (F := f__law_lies) (args := [.str (tx3 t), .str (wTx ds)]) rfl rfl (run_of rfl (ss_next hf (ss_ret (s_ret hr))) rfl) rfl
noncomputable def pat (s : List Nat) : Tx := 42 :: s.flatMap fun c => [91, 97 + c, 65 + c, 93, 42]
noncomputable def sep : Tx := [40, 63, 62, 46, 42, 63]
noncomputable def piece (c : Nat) : Tx := [91, 97 + c, 65 + c, 93, 41]
noncomputable def mid (s : List Nat) : Tx := s.flatMap fun c => sep ++ piece c
noncomputable def rx (s : List Nat) : Tx := [40, 63, 115, 58] ++ mid s ++ [46, 42, 41, 92, 90]
noncomputable def strIs (r : Option (AV × Cells)) (t : Tx) : Bool := ((r.bind fun z => z.1.str?).map (· == t)).getD false
theorem strIs_of {r : Option (AV × Cells)} {t : Tx} (h : strIs r t = true) : ∃ cs, r = some (.str t, cs) := by
  cases r with
  | none => cases h
  | some z =>
    obtain ⟨v, cs⟩ := z
    unfold strIs at h
    cases hs : v.str? with
    | none => rw [Option.bind_some, hs] at h; cases h
    | some u =>
      rw [Option.bind_some, hs] at h
      have h : (u == t) = true := h
      exact ⟨cs, by rw [str?_eq hs, beq_iff_eq.mp h]⟩
noncomputable def check (s : List Nat) : Bool := strIs (Lib.f_translate.run (callAt prog 10) 0 [.str (pat s)] none []) (rx s) && (partOk (mid s) sep && (partTx (mid s) sep == [] :: s.map piece))
theorem check1 : (J3.words 1 ++ J3.words 2).all check = true := by decide +kernel
theorem check3 : (J3.words 3).all check = true := by decide +kernel
theorem check40 : ((J3.words 3).all fun w => check (0 :: w)) = true := by decide +kernel
theorem check41 : ((J3.words 3).all fun w => check (1 :: w)) = true := by decide +kernel
theorem check42 : ((J3.words 3).all fun w => check (2 :: w)) = true := by decide +kernel
structure Short (s : List Nat) : Prop where
  ne : s ≠ []
  len : s.length ≤ 4
  lt : ∀ c ∈ s, c < 3
theorem Short.ok {s : List Nat} (S : Short s) : check s = true := by
  have hp : 0 < s.length := List.length_pos_iff.mpr S.ne
  have h4 := S.len
  have h : s.length = 1 ∨ s.length = 2 ∨ s.length = 3 ∨ s.length = 4 := by omega
  rcases h with h | h | h | h
  · exact List.all_eq_true.mp check1 s (List.mem_append_left _ (J3.mem_words h S.lt))
  · exact List.all_eq_true.mp check1 s (List.mem_append_right _ (J3.mem_words h S.lt))
  · exact List.all_eq_true.mp check3 s (J3.mem_words h S.lt)
  · obtain ⟨c, w, rfl⟩ := List.exists_cons_of_length_eq_add_one h
    have hw := J3.mem_words (Nat.succ.inj h) fun x hx => S.lt x (List.mem_cons_of_mem _ hx)
    have hc := S.lt c List.mem_cons_self
    match c, hc with
    | 0, _ => exact List.all_eq_true.mp check40 w hw
    | 1, _ => exact List.all_eq_true.mp check41 w hw
    | 2, _ => exact List.all_eq_true.mp check42 w hw
theorem Short.tr {s : List Nat} (S : Short s) (cs : Cells) : (callAt prog 11).cf 4 [.str (pat s)] none cs = some (.str (rx s), cs) := by
  obtain ⟨cs', e⟩ := strIs_of (Bool.and_eq_true_iff.mp S.ok).1
  exact cf_closed (P := prog) (k := 10) (args := [.str (pat s)]) rfl rfl e rfl
theorem Short.part {s : List Nat} (S : Short s) : partOk (mid s) sep = true ∧ partTx (mid s) sep = [] :: s.map piece := by
  have h := Bool.and_eq_true_iff.mp (Bool.and_eq_true_iff.mp S.ok).2
  exact ⟨h.1, beq_iff_eq.mp h.2⟩
end
end Ev.L3
namespace Ev.L3
open Ev.Lib
section
variable {W : Wd} {n d : Nat} {cs : Cells}
theorem rx_len (s : List Nat) : (rx s).length = 4 + (mid s).length + 5 := by unfold rx; rw [List.length_append, List.length_append]; rfl
theorem rx_head {s : List Nat} : slcv false cs (.str (rx s)) .none (.int 4) = some (.str [40, 63, 115, 58], cs) := slc_to (k := 4)
theorem rx_tail {s : List Nat} : slcv false cs (.str (rx s)) (.int (-5)) .none = some (.str [46, 42, 41, 92, 90], cs) := by
  have b : boundv (rx s).length 0 (.int (-5)) = some (4 + (mid s).length) := congrArg some ((clamp_neg (k := 5) (by decide) (by rw [rx_len]; omega)).trans (by rw [rx_len]; omega))
  have e : cut (rx s) (4 + (mid s).length) (rx s).length = [46, 42, 41, 92, 90] := by
    unfold cut
    rw [List.take_length]
    unfold rx
    exact List.drop_left' (by rw [List.length_append]; rfl)
  show (boundv (rx s).length 0 (.int (-5))).bind (fun l => (boundv (rx s).length (rx s).length .none).map fun h => (AV.str (cut (rx s) l h), cs)) = _
  rw [b, Option.bind_some, show boundv (rx s).length (rx s).length .none = some (rx s).length from rfl, Option.map_some, e]
theorem rx_mid {s : List Nat} : slcv false cs (.str (rx s)) (.int 4) (.int (-5)) = some (.str (mid s), cs) := by
  have b0 : boundv (rx s).length 0 (.int 4) = some 4 := congrArg some ((clamp_nat (k := 4)).trans (by rw [rx_len]; omega))
  have b : boundv (rx s).length (rx s).length (.int (-5)) = some (4 + (mid s).length) := congrArg some ((clamp_neg (k := 5) (by decide) (by rw [rx_len]; omega)).trans (by rw [rx_len]; omega))
  have e : cut (rx s) 4 (4 + (mid s).length) = mid s := by
    unfold cut rx
    rw [List.take_left' (by rw [List.length_append]; rfl)]; rfl
  show (boundv (rx s).length 0 (.int 4)).bind (fun l => (boundv (rx s).length (rx s).length (.int (-5))).map fun h => (AV.str (cut (rx s) l h), cs)) = _
  rw [b0, Option.bind_some, b, Option.map_some, e]
theorem tail_lst {x : AV} {xs : List AV} (hl : xs.length ≤ 900) : slcv false cs (.lst (x :: xs)) (.int 1) .none = some (.lst xs, cs) := by
  have b0 : boundv (x :: xs).length 0 (.int 1) = some 1 := congrArg some ((clamp_nat (k := 1)).trans (by rw [List.length_cons]; omega))
  show (boundv (x :: xs).length 0 (.int 1)).bind (fun l => (boundv (x :: xs).length (x :: xs).length .none).bind fun h => mk false (cut (x :: xs) l h) cs) = _
  rw [b0, Option.bind_some, show boundv (x :: xs).length (x :: xs).length .none = some (x :: xs).length from rfl, Option.bind_some]
  unfold cut
  rw [List.take_length]
  exact mk_lst (Nat.le_trans hl (by decide))
noncomputable def cSpots : ME := eComp false (eVar 5) [⟨1, [5], iRange [eVar 2, eCall (eLit (.bi .len)) [eVar 1]], [bCmp .in_ (eIdx (eVar 1) (eVar 5)) (eSlc false (eVar 3) (eLit (.int 1)) (eNeg (eLit (.int 2))))]⟩]
noncomputable def takeBody : List MS := [
    sAssign (tVar 4) cSpots,
    sIte (bCmp .eq (eVar 4) (eList false [])) [
      sRet (eLit (.bool false))] [],
    sAssign (tVar 2) (eBin false .add (eIdx (eVar 4) (eLit (.int 0))) (eLit (.int 1)))]
noncomputable def spots (w : List Nat) (c p : Nat) : List Nat := (List.range' p (w.length - p)).filter fun k => decide (w[k]? = some c)
theorem in_piece_all : ∀ e, e < 6 → ∀ c, c < 3 → ([97 + c, 65 + c].contains (sg e)) = decide (e % 3 = c) := by decide
theorem in_piece {e c : Nat} (he : e < 6) (hc : c < 3) : cmpv cs .in_ (.str [sg e]) (.str [97 + c, 65 + c]) = some (decide (e % 3 = c)) := congrArg some (in_piece_all e he c hc)
theorem spots_run {ds : List Nat} (D : Word ds) {c p : Nat} (hc : c < 3) (hp : p ≤ ds.length) {x0 v4 : Option AV} : cSpots W n [x0, some (.str (wTx ds)), some (.int (p : Int)), some (.str (piece c)), v4] cs = some (.lst ((spots (low ds) c p).map fun k : Nat => AV.int (k : Int)), cs) := by
  have hw : (wTx ds).length = ds.length := List.length_map ..
  have hI : (iRange [eVar 2, eCall (eLit (.bi .len)) [eVar 1]]).run W n [x0, some (.str (wTx ds)), some (.int (p : Int)), some (.str (piece c)), v4] cs = some (.items ((List.range' p (ds.length - p)).map fun k : Nat => AV.int (k : Int)), cs) := by
    have hl : evEs W n [eVar 2, eCall (eLit (.bi .len)) [eVar 1]] [x0, some (.str (wTx ds)), some (.int (p : Int)), some (.str (piece c)), v4] cs = some ([.int (p : Int), .int ((wTx ds).length : Int)], cs) := rfl
    rw [hw] at hl
    refine i_range hl ?_
    show (if (near (p : Int) && near (ds.length : Int)) = true then some (rangeL (p : Int) 1 ((ds.length : Int) - (p : Int)).toNat) else none) = _
    have hlen := D.len
    have n1 : near (p : Int) = true := decide_eq_true ⟨by omega, by omega⟩
    have n2 : near (ds.length : Int) = true := decide_eq_true ⟨by omega, by omega⟩
    rw [n1, n2, Bool.and_self, if_pos rfl, rangeL_map, show ((ds.length : Int) - (p : Int)).toNat = ds.length - p from by omega]
  refine comp_pure (fx := fun x => [x0, some (.str (wTx ds)), some (.int (p : Int)), some (.str (piece c)), v4, some x]) (b := fun x => decide ((low ds)[(x.int?.getD 0).toNat]? = some c)) (g := fun x => x) hI (fun x hx => rfl) (fun x hx => ?_) (fun x hx _ => rfl) (by rw [List.length_map, List.length_range']; exact Nat.le_trans (Nat.sub_le _ _) (Nat.le_trans D.len (by decide))) ?_
  · obtain ⟨k, hk, rfl⟩ := List.mem_map.mp hx
    obtain ⟨i, hi, e⟩ := List.mem_range'.mp hk
    have hk : k < ds.length := by omega
    have hd : ds[k]? = some ds[k] := List.getElem?_eq_getElem hk
    have hsl : slcv false cs (.str (piece c)) (.int 1) (.int (-2)) = some (.str [97 + c, 65 + c], cs) := rfl
    refine ao_one (b_cmp (e_idx rfl rfl (idx_str (c := sg ds[k]) (by unfold wTx; rw [List.getElem?_map, hd]; rfl))) (e_slc rfl rfl rfl hsl) ((in_piece (D.lt _ (List.getElem_mem hk)) hc).trans ?_))
    show some (decide (ds[k] % 3 = c)) = some (decide ((low ds)[k]? = some c))
    rw [show (low ds)[k]? = some (ds[k] % 3) from by unfold low; rw [List.getElem?_map, hd]; rfl]
    exact congrArg some (decide_eq_decide.mpr ⟨fun e => congrArg some e, fun e => Option.some.inj e⟩)
  · rw [List.map_id', List.filter_map]
    have e : (List.range' p (ds.length - p)).filter ((fun x : AV => decide ((low ds)[(x.int?.getD 0).toNat]? = some c)) ∘ fun k : Nat => AV.int (k : Int)) = spots (low ds) c p := by unfold spots; rw [low_len]; rfl
    rw [e]
    refine mk_lst ?_
    rw [List.length_map]
    unfold spots
    exact Nat.le_trans (List.length_filter_le _ _) (by rw [List.length_range', low_len]; exact Nat.le_trans (Nat.sub_le _ _) (Nat.le_trans D.len (by decide)))
theorem spots_lies (w : List Nat) (c p : Nat) : (spots w c p = [] ∧ ∀ s, J3.lies (c :: s) (w.drop p) = false) ∨ ∃ k r, spots w c p = k :: r ∧ k < w.length ∧ ∀ s, J3.lies (c :: s) (w.drop p) = J3.lies s (w.drop (k + 1)) := by
  cases hs : spots w c p with
  | nil =>
    refine .inl ⟨rfl, fun s => J3.never _ fun hm => ?_⟩
    obtain ⟨i, hi⟩ := List.mem_iff_getElem?.mp hm
    rw [List.getElem?_drop] at hi
    have hlt := (List.getElem?_eq_some_iff.mp hi).1
    have := List.filter_eq_nil_iff.mp hs (p + i) (List.mem_range'.mpr ⟨i, by omega, by omega⟩)
    exact this (decide_eq_true hi)
  | cons k r =>
    have hh : (spots w c p).head? = some k := by rw [hs]; rfl
    unfold spots at hh
    rw [List.head?_filter] at hh
    obtain ⟨h1, h2, h3⟩ := List.find?_range'_eq_some.mp hh
    have a2 := of_decide_eq_true h1
    obtain ⟨i, hi, e⟩ := List.mem_range'.mp h2
    obtain ⟨hlt, he⟩ := List.getElem?_eq_some_iff.mp a2
    have a1 : p ≤ k := by omega
    refine .inr ⟨k, r, rfl, hlt, fun s => ?_⟩
    have e : w.drop p = (w.drop p).take (k - p) ++ c :: w.drop (k + 1) := by
      have e1 := (List.take_append_drop (k - p) (w.drop p)).symm
      rw [List.drop_drop, Nat.add_sub_cancel' a1, List.drop_eq_getElem_cons hlt, he] at e1
      exact e1
    rw [e]
    refine J3.skip _ fun hm => ?_
    obtain ⟨i, hi⟩ := List.mem_iff_getElem?.mp hm
    have hlt : i < k - p := Nat.lt_of_lt_of_le (List.getElem?_eq_some_iff.mp hi).1 (List.length_take_le ..)
    rw [List.getElem?_take_of_lt hlt, List.getElem?_drop] at hi
    have := h3 (p + i) (by omega) (by omega)
    rw [decide_eq_true hi] at this
    cases this
theorem take_loop {ds : List Nat} (D : Word ds) {x0 : Option AV} (s : List Nat) : ∀ {p : Nat} {v3 v4 : Option AV}, (∀ c ∈ s, c < 3) → p ≤ ds.length →
    ∃ fr', forItems (stepF W 0 [3] takeBody) ((s.map piece).map .str) [x0, some (.str (wTx ds)), some (.int (p : Int)), v3, v4] cs = some ⟨if J3.lies s ((low ds).drop p) = true then .next else .ret (.bool false), fr', cs⟩ ∧ (J3.lies s ((low ds).drop p) = true → fr'.length = 5) := by
  induction s with
  | nil => intro p v3 v4 _ _; exact ⟨_, by rw [if_pos (J3.lies_nil _)]; rfl, fun _ => rfl⟩
  | cons c s ih =>
    intro p v3 v4 hc hp
    have hr := spots_run (W := W) (n := 0) (cs := cs) D (hc c List.mem_cons_self) hp (x0 := x0) (v4 := v4)
    rcases spots_lies (low ds) c p with ⟨e1, e2⟩ | ⟨k, r, e1, e2, e3⟩
    · rw [e1] at hr
      rw [e2 s, if_neg Bool.false_ne_true]
      exact ⟨_, forItems_ret (bindE rfl (ss_next (as_var hr (lt_ok rfl)) (ss_ret (s_if (b_cmp rfl rfl eq_nil) (ss_ret (s_ret rfl)))))), fun h => Bool.noConfusion h⟩
    · rw [e1] at hr
      rw [e3 s]
      rw [low_len] at e2
      obtain ⟨fr', h1, h2⟩ := ih (p := k + 1) (v3 := some (.str (piece c))) (v4 := some (.lst ((k :: r).map fun k : Nat => AV.int (k : Int)))) (fun x hx => hc x (List.mem_cons_of_mem _ hx)) e2
      have hidx : eBin false .add (eIdx (eVar 4) (eLit (.int 0))) (eLit (.int 1)) W 0 [x0, some (.str (wTx ds)), some (.int (p : Int)), some (.str (piece c)), some (.lst ((k :: r).map fun k : Nat => AV.int (k : Int)))] cs = some (.int ((k + 1 : Nat) : Int), cs) := e_bin (e_idx rfl rfl (idx_lst (k := 0) rfl)) rfl rfl
      exact ⟨fr', forItems_cons (bindE rfl (ss_next (as_var hr (lt_ok rfl)) (ss_next (s_if (b_cmp rfl rfl eq_nil) rfl) (ss_next (as_var hidx (lt_ok rfl)) rfl)))) h1, h2⟩
theorem takes_run {ds s : List Nat} (D : Word ds) (S : Short s) (cs : Cells) : (callAt prog (d + 1)).cf 18 [.str (rx s), .str (wTx ds)] none cs = some (.bool (J3.lies s (low ds)), cs) := by
  obtain ⟨fr', h1, _⟩ := take_loop (W := callAt prog d) (cs := []) D (x0 := some (.str (rx s))) s (p := 0) (v3 := none) (v4 := none) S.lt (Nat.zero_le _)
  rw [List.drop_zero] at h1
  have hp := S.part
  have hsp : mcall 0 (.str (mid s)) .split [.str sep] [] = some (.lst (([] :: s.map piece).map .str), []) := by
    show (if partOk (mid s) sep = true then mk false ((partTx (mid s) sep).map .str) [] else none) = _
    rw [if_pos hp.1, hp.2]
    exact mk_lst (by rw [List.length_map, List.length_cons, List.length_map]; exact Nat.le_trans (Nat.succ_le_succ S.len) (by decide))
  have t1 : bCmp .ne (eBin false .add (eSlc false (eVar 0) (eLit (.none)) (eLit (.int 4))) (eSlc false (eVar 0) (eNeg (eLit (.int 5))) (eLit (.none)))) (eLit (.str [40, 63, 115, 58, 46, 42, 41, 92, 90])) (callAt prog d) 0 [some (.str (rx s)), some (.str (wTx ds)), none, none, none] [] = some (false, []) :=
    b_cmp (e_bin (e_slc rfl rfl rfl rx_head) (e_slc rfl rfl rfl rx_tail) rfl) rfl rfl
  have hfor : sFor [3] (iVal (eSlc false (eMeth (eSlc false (eVar 0) (eLit (.int 4)) (eNeg (eLit (.int 5)))) .split none [eLit (.str [40, 63, 62, 46, 42, 63])]) (eLit (.int 1)) (eLit (.none)))) takeBody (callAt prog d) 0 [some (.str (rx s)), some (.str (wTx ds)), some (.int 0), none, none] [] = _ :=
    s_for (i_val (e_slc (e_meth (e_slc rfl rfl rfl rx_mid) rfl rfl rfl hsp) rfl rfl (tail_lst (by rw [List.length_map, List.length_map]; exact Nat.le_trans S.len (by decide)))) rfl) h1
  cases hl : J3.lies s (low ds) with
  | true =>
    rw [hl, if_pos rfl] at hfor
    exact cf_closed (P := prog) (k := d) (F := f__law_takes) (args := [.str (rx s), .str (wTx ds)]) rfl rfl (run_of rfl (ss_next (s_if t1 rfl) (ss_next (as_var rfl (lt_ok rfl)) (ss_next hfor (ss_ret (s_ret rfl))))) rfl) rfl
  | false =>
    rw [hl, if_neg Bool.false_ne_true] at hfor
    exact cf_closed (P := prog) (k := d) (F := f__law_takes) (args := [.str (rx s), .str (wTx ds)]) rfl rfl (run_of rfl (ss_next (s_if t1 rfl) (ss_next (as_var rfl (lt_ok rfl)) (ss_ret hfor))) rfl) rfl
end
end Ev.L3
namespace Ev.L3
open Ev.Lib
noncomputable def dig (x : Int) (k : Nat) : Nat := (x % 279936 / ((6 ^ k : Nat) : Int) % 6).toNat
noncomputable def wordOf (x : Int) (N : Nat) : List Nat := (List.range N).map (dig x)
theorem dig_lt (x : Int) (k : Nat) : dig x k < 6 := by
  unfold dig
  have h1 := Int.emod_nonneg (x % 279936 / ((6 ^ k : Nat) : Int)) (by decide : (6 : Int) ≠ 0)
  have h2 := Int.emod_lt_of_pos (x % 279936 / ((6 ^ k : Nat) : Int)) (by decide : (0 : Int) < 6)
  omega
theorem wordOf_ok {x : Int} {N : Nat} (h : N ≤ 7) : Word (wordOf x N) := by
  refine ⟨?_, fun d hd => ?_⟩
  · unfold wordOf; rw [List.length_map, List.length_range]; exact h
  · obtain ⟨k, _, rfl⟩ := List.mem_map.mp hd
    exact dig_lt x k
theorem wordOf_len {x : Int} {N : Nat} : (wordOf x N).length = N := by unfold wordOf; rw [List.length_map, List.length_range]
section
variable {W : Wd} {n : Nat} {cs : Cells} {s0 s1 s2 s3 s4 s5 s6 s7 s8 : Option AV}
noncomputable def eDig : ME := eIdx (eLit (.str [97, 98, 99, 65, 66, 67])) (eBin false .mod (eBin false .fdiv (eBin false .mod (eVar 9) (eLit (.int 279936))) (eBin false .pow (eLit (.int 6)) (eVar 10))) (eLit (.int 6)))
noncomputable def cWord : ME := eMeth (eLit (.str [])) .join none [eComp false eDig [⟨1, [10], iRange [eVar 2], []⟩]]
theorem dig_run {x : Int} {k : Nat} (hk : k < 7) : eDig W n [s0, s1, s2, s3, s4, s5, s6, s7, s8, some (.int x), some (.int (k : Int))] cs = some (.str [sg (dig x k)], cs) := by
  have hpw : binv false .pow (.int 6) (.int (k : Int)) cs = some (.int ((6 ^ k : Nat) : Int), cs) :=
    mapE (if_pos ⟨Int.natCast_nonneg k, Int.ofNat_le.mpr (Nat.le_trans (Nat.le_of_lt hk) (by decide)), by decide, by decide⟩) (by rw [Int.toNat_natCast]; exact congrArg (fun z : Int => some (AV.int z, cs)) (Int.natCast_pow 6 k).symm)
  have hpos : 0 < 6 ^ k := Nat.pow_pos (by decide)
  have hle : 6 ^ k < 2 ^ 64 := Nat.lt_of_lt_of_le (Nat.pow_lt_pow_right (by decide) hk) (by decide)
  have hdv : binv false .fdiv (.int (x % 279936)) (.int ((6 ^ k : Nat) : Int)) cs = some (.int (x % 279936 / ((6 ^ k : Nat) : Int)), cs) := mapE (if_pos ⟨Int.natCast_pos.mpr hpos, by rw [Int.natAbs_natCast]; exact hle⟩) rfl
  have hz : x % 279936 / ((6 ^ k : Nat) : Int) % 6 = (dig x k : Int) := by
    unfold dig
    rw [Int.toNat_of_nonneg (Int.emod_nonneg _ (by decide))]
  have hmod : binv false .mod (.int (x % 279936 / ((6 ^ k : Nat) : Int))) (.int 6) cs = some (.int (dig x k : Int), cs) := by
    rw [← hz]; rfl
  refine e_idx rfl (e_bin (e_bin (e_bin rfl rfl rfl) (e_bin rfl rfl hpw) hdv) rfl hmod) (idx_str ?_)
  have h := dig_lt x k
  generalize dig x k = e at h
  match e, h with
  | 0, _ => rfl
  | 1, _ => rfl
  | 2, _ => rfl
  | 3, _ => rfl
  | 4, _ => rfl
  | 5, _ => rfl
theorem word_run {x : Int} {N : Nat} (hN : N ≤ 7) : cWord W n [s0, s1, some (.int (N : Int)), s3, s4, s5, s6, s7, s8, some (.int x)] cs = some (.str (wTx (wordOf x N)), cs) := by
  have hI : (iRange [eVar 2]).run W n [s0, s1, some (.int (N : Int)), s3, s4, s5, s6, s7, s8, some (.int x)] cs = some (.items ((List.range N).map fun k : Nat => AV.int (k : Int)), cs) := i_range rfl (range_of (Nat.le_trans hN (by decide)))
  have hc : eComp false eDig [⟨1, [10], iRange [eVar 2], []⟩] W n [s0, s1, some (.int (N : Int)), s3, s4, s5, s6, s7, s8, some (.int x)] cs = some (.lst ((wTx (wordOf x N)).map fun c => .str [c]), cs) := by
    refine comp_pure (fx := fun v => [s0, s1, some (.int (N : Int)), s3, s4, s5, s6, s7, s8, some (.int x), some v]) (b := fun _ => true) (g := fun v => .str [sg (dig x (v.int?.getD 0).toNat)]) hI (fun v hv => rfl) (fun v hv => rfl) (fun v hv _ => ?_) (by rw [List.length_map, List.length_range]; exact Nat.le_trans hN (by decide)) ?_
    · obtain ⟨k, hk, rfl⟩ := List.mem_map.mp hv
      exact dig_run (Nat.lt_of_lt_of_le (List.mem_range.mp hk) hN)
    · rw [filter_all, List.map_map]
      have e : ((wTx (wordOf x N)).map fun c => AV.str [c]) = (List.range N).map ((fun v : AV => AV.str [sg (dig x (v.int?.getD 0).toNat)]) ∘ fun k : Nat => AV.int (k : Int)) := by
        unfold wTx wordOf
        rw [List.map_map, List.map_map]; rfl
      rw [← e]
      exact mk_lst (by rw [List.length_map, wTx, List.length_map, wordOf_len]; exact Nat.le_trans hN (by decide))
  refine e_meth rfl (es_cons hc rfl) rfl rfl ?_
  refine bindE (f := fun xs => if (joinTx [] xs).length ≤ lim then some (AV.str (joinTx [] xs), cs) else none) (allStr_ones (wTx (wordOf x N))) ?_
  rw [joinTx_ones]
  exact if_pos (by rw [wTx, List.length_map, wordOf_len]; exact Nat.le_trans hN (by decide))
theorem words_run {x y z : Int} {N : Nat} (hN : N ≤ 7) : eComp false cWord [⟨1, [9], iVal (eSlc false (eVar 1) (eLit (.none)) (eLit (.int 2))), []⟩] W n [s0, some (.lst [.int x, .int y, .int z]), some (.int (N : Int)), s3, s4, s5, s6, s7, s8] cs = some (.lst [.str (wTx (wordOf x N)), .str (wTx (wordOf y N))], cs) := by
  have hs : slcv false cs (.lst [.int x, .int y, .int z]) .none (.int 2) = some (.lst [.int x, .int y], cs) := rfl
  refine comp_pure (xs := [.int x, .int y]) (fx := fun v => [s0, some (.lst [.int x, .int y, .int z]), some (.int (N : Int)), s3, s4, s5, s6, s7, s8, some v]) (b := fun _ => true) (g := fun v => .str (wTx (wordOf (v.int?.getD 0) N))) (i_val (e_slc rfl rfl rfl hs) rfl) (fun v hv => rfl) (fun v hv => rfl) (fun v hv _ => ?_) (show 2 ≤ lim by decide) rfl
  rcases List.mem_cons.mp hv with rfl | hv
  · exact word_run hN
  · rw [List.mem_singleton.mp hv]; exact word_run hN
noncomputable def ePat : ME := eBin false .add (eBin false .add (eBin false .add (eLit (.str [91])) (eVar 9)) (eMeth (eVar 9) .upper none [])) (eLit (.str [93, 42]))
noncomputable def cPat : ME := eBin false .add (eLit (.str [42])) (eMeth (eLit (.str [])) .join none [eComp false ePat [⟨1, [9], iVal (eVar 5), []⟩]])
theorem allStr_map {α : Type} {f : α → Tx} (l : List α) : allStr (l.map fun c => AV.str (f c)) = some (l.map f) := by
  induction l with
  | nil => rfl
  | cons c l ih => exact bindE rfl (mapE ih rfl)
theorem joinTx_map {α : Type} {f : α → Tx} (l : List α) : joinTx [] (l.map f) = l.flatMap f := by
  induction l with
  | nil => rfl
  | cons c l ih => rw [List.map_cons, joinTx_cons, ih, List.flatMap_cons]
theorem pat_run {s : List Nat} (S : Short s) : cPat W n [s0, s1, s2, s3, s4, some (.str (tx3 s)), s6, s7, s8] cs = some (.str (pat s), cs) := by
  have hc : eComp false ePat [⟨1, [9], iVal (eVar 5), []⟩] W n [s0, s1, s2, s3, s4, some (.str (tx3 s)), s6, s7, s8] cs = some (.lst (s.map fun c => .str [91, 97 + c, 65 + c, 93, 42]), cs) := by
    refine comp_pure (xs := s.map fun c => .str [97 + c]) (fx := fun v => [s0, s1, s2, s3, s4, some (.str (tx3 s)), s6, s7, s8, some v]) (b := fun _ => true) (g := fun v => .str [91, 97 + ((v.str?.getD []).getD 0 0 - 97), 65 + ((v.str?.getD []).getD 0 0 - 97), 93, 42]) (i_val rfl (items3 S.lt)) (fun v hv => rfl) (fun v hv => rfl) (fun v hv _ => ?_) (by rw [List.length_map]; exact Nat.le_trans S.len (by decide)) ?_
    · obtain ⟨c, hc, rfl⟩ := List.mem_map.mp hv
      have hc := S.lt c hc
      match c, hc with
      | 0, _ => rfl
      | 1, _ => rfl
      | 2, _ => rfl
    · rw [filter_all, List.map_map]
      have e : (s.map fun c => AV.str [91, 97 + c, 65 + c, 93, 42]) = s.map ((fun v : AV => AV.str [91, 97 + ((v.str?.getD []).getD 0 0 - 97), 65 + ((v.str?.getD []).getD 0 0 - 97), 93, 42]) ∘ fun c => AV.str [97 + c]) := by
        refine List.map_congr_left fun c _ => ?_
        show _ = AV.str [91, 97 + (97 + c - 97), 65 + (97 + c - 97), 93, 42]
        rw [Nat.add_sub_cancel_left]
      rw [← e]
      exact mk_lst (by rw [List.length_map]; exact Nat.le_trans S.len (by decide))
  have hlen : (s.flatMap fun c => [91, 97 + c, 65 + c, 93, 42]).length ≤ 20 := by
    rw [List.length_flatMap, show (s.map fun c => [91, 97 + c, 65 + c, 93, 42].length) = s.map fun _ => 5 from rfl, List.map_const', List.sum_replicate_nat]
    have := S.len
    omega
  have hj : mcall n (.str []) .join [.lst (s.map fun c => .str [91, 97 + c, 65 + c, 93, 42])] cs = some (.str (s.flatMap fun c => [91, 97 + c, 65 + c, 93, 42]), cs) := by
    refine bindE (f := fun xs => if (joinTx [] xs).length ≤ lim then some (AV.str (joinTx [] xs), cs) else none) (allStr_map (f := fun c => [91, 97 + c, 65 + c, 93, 42]) s) ?_
    rw [joinTx_map]
    exact if_pos (Nat.le_trans hlen (by decide))
  refine e_bin rfl (e_meth rfl (es_cons hc rfl) rfl rfl hj) ?_
  exact if_pos (show 1 + (s.flatMap fun c => [91, 97 + c, 65 + c, 93, 42]).length ≤ lim from Nat.le_trans (Nat.add_le_add_left hlen 1) (by decide))
noncomputable def wR : Nat → List (List Nat)
  | 0 => [[]]
  | n + 1 => (wR n).flatMap fun w => [w ++ [0], w ++ [1], w ++ [2]]
theorem wR_mem : ∀ {n : Nat} {t : List Nat}, t ∈ wR n → t.length = n ∧ ∀ c ∈ t, c < 3
  | 0, t, h => by rw [List.mem_singleton.mp h]; exact ⟨rfl, fun c h => (nomatch h)⟩
  | n + 1, t, h => by
    obtain ⟨w, hw, ht⟩ := List.mem_flatMap.mp h
    obtain ⟨h1, h2⟩ := wR_mem hw
    have : ∃ x, x < 3 ∧ t = w ++ [x] := by
      rcases List.mem_cons.mp ht with rfl | ht
      · exact ⟨0, by decide, rfl⟩
      · rcases List.mem_cons.mp ht with rfl | ht
        · exact ⟨1, by decide, rfl⟩
        · exact ⟨2, by decide, List.mem_singleton.mp ht⟩
    obtain ⟨x, hx, rfl⟩ := this
    refine ⟨by rw [List.length_append, h1]; rfl, fun c hc => ?_⟩
    rcases List.mem_append.mp hc with hc | hc
    · exact h2 c hc
    · rw [List.mem_singleton.mp hc]; exact hx
noncomputable def ssParts : List MS := [
  sAssign (tVar 7) (eList false [eLit (.str [])]),
  sFor [8] (iRange [eBin false .sub (eCall (eLit (.bi .len)) [eVar 5]) (eLit (.int 1))]) [
    sAssign (tVar 7) (eComp false (eBin false .add (eVar 9) (eVar 10)) [⟨2, [9], iVal (eVar 7), []⟩, ⟨0, [10], iVal (eLit (.str [97, 98, 99])), []⟩])]]
theorem parts1 (a : Nat) : evSs W n ssParts [s0, s1, s2, s3, s4, some (.str [97 + a]), s6, none, none] [] = some ⟨.next, [s0, s1, s2, s3, s4, some (.str [97 + a]), s6, some (.lst ((wR 0).map fun t => .str (tx3 t))), none], []⟩ := by kernel_rfl
theorem parts2 (a b : Nat) : evSs W n ssParts [s0, s1, s2, s3, s4, some (.str [97 + a, 97 + b]), s6, none, none] [] = some ⟨.next, [s0, s1, s2, s3, s4, some (.str [97 + a, 97 + b]), s6, some (.lst ((wR 1).map fun t => .str (tx3 t))), some (.int 0)], []⟩ := by kernel_rfl
theorem parts3 (a b c : Nat) : evSs W n ssParts [s0, s1, s2, s3, s4, some (.str [97 + a, 97 + b, 97 + c]), s6, none, none] [] = some ⟨.next, [s0, s1, s2, s3, s4, some (.str [97 + a, 97 + b, 97 + c]), s6, some (.lst ((wR 2).map fun t => .str (tx3 t))), some (.int 1)], []⟩ := by kernel_rfl
theorem parts4 (a b c d : Nat) : evSs W n ssParts [s0, s1, s2, s3, s4, some (.str [97 + a, 97 + b, 97 + c, 97 + d]), s6, none, none] [] = some ⟨.next, [s0, s1, s2, s3, s4, some (.str [97 + a, 97 + b, 97 + c, 97 + d]), s6, some (.lst ((wR 3).map fun t => .str (tx3 t))), some (.int 2)], []⟩ := by kernel_rfl
theorem parts_run {s : List Nat} (S : Short s) : ∃ v8, evSs W n ssParts [s0, s1, s2, s3, s4, some (.str (tx3 s)), s6, none, none] [] = some ⟨.next, [s0, s1, s2, s3, s4, some (.str (tx3 s)), s6, some (.lst ((wR (s.length - 1)).map fun t => .str (tx3 t))), v8], []⟩ := by
  match s, S.ne, S.len with
  | [a], _, _ => exact ⟨_, parts1 a⟩
  | [a, b], _, _ => exact ⟨_, parts2 a b⟩
  | [a, b, c], _, _ => exact ⟨_, parts3 a b c⟩
  | [a, b, c, d], _, _ => exact ⟨_, parts4 a b c d⟩
  | _ :: _ :: _ :: _ :: _ :: r, _, h => exact absurd h (by simp)
noncomputable def cPart : ME := eComp false (eVar 9) [⟨1, [9], iVal (eVar 7), [bCmp .ne (eCall (eLit (.fn 19)) [eVar 9, eVar 3]) (eCall (eLit (.fn 19)) [eVar 9, eVar 4])]⟩]
theorem part_run {a b : List Nat} (A : Word a) (B : Word b) {l : List (List Nat)} (hl : l.length ≤ 1000) (h : ∀ t ∈ l, J3.lies t (low a) = J3.lies t (low b)) : cPart (callAt prog 11) n [s0, s1, s2, some (.str (wTx a)), some (.str (wTx b)), s5, s6, some (.lst (l.map fun t => .str (tx3 t))), s8] cs = some (.lst [], cs) := by
  refine comp_pure (xs := l.map fun t => .str (tx3 t)) (fx := fun v => [s0, s1, s2, some (.str (wTx a)), some (.str (wTx b)), s5, s6, some (.lst (l.map fun t => .str (tx3 t))), s8, some v]) (b := fun _ => false) (g := fun v => v) rfl (fun v hv => rfl) (fun v hv => ?_) (fun v hv h => Bool.noConfusion h) (by rw [List.length_map]; exact Nat.le_trans hl (by decide)) ?_
  · obtain ⟨t, ht, rfl⟩ := List.mem_map.mp hv
    have h1 := lies_run (d := 10) A t cs
    have h2 := lies_run (d := 10) B t cs
    rw [← h t ht] at h2
    refine ao_one (b_cmp (e_call rfl rfl h1) (e_call rfl rfl h2) ?_)
    show some (J3.lies t (low a) != J3.lies t (low a)) = _
    rw [bne_self_eq_false]
  · rw [List.filter_eq_nil_iff.mpr fun _ _ => Bool.false_ne_true]; rfl
end
end Ev.L3
namespace Ev.L3
open Ev.Lib
noncomputable def pad : List Int := [233833, 120328, 6]
theorem three (ns : List Int) : ∃ x y z : Int, (ns.take 3 ++ pad).take 3 = [x, y, z] := by
  have hl : ((ns.take 3 ++ pad).take 3).length = 3 := by rw [List.length_take, List.length_append]; exact Nat.min_eq_left (Nat.le_add_left 3 _)
  match (ns.take 3 ++ pad).take 3, hl with
  | [x, y, z], _ => exact ⟨x, y, z, rfl⟩
theorem cut3 {l : List Int} (hl : l.length ≤ 1000) {cs : Cells} : slcv false cs (.lst (l.map .int)) .none (.int 3) = some (.lst ((l.take 3).map .int), cs) := by
  have b : boundv (l.map AV.int).length (l.map AV.int).length (.int 3) = some (min 3 l.length) := congrArg some ((clamp_nat (k := 3)).trans (by rw [List.length_map]))
  have e : cut (l.map AV.int) 0 (min 3 l.length) = (l.take 3).map .int := by
    unfold cut
    rw [List.drop_zero, ← List.map_take, List.take_eq_take_min, Nat.min_assoc, Nat.min_self, ← List.take_eq_take_min]
  show (boundv (l.map AV.int).length 0 .none).bind (fun lo => (boundv (l.map AV.int).length (l.map AV.int).length (.int 3)).bind fun h => mk false (cut (l.map AV.int) lo h) cs) = _
  rw [show boundv (l.map AV.int).length 0 .none = some 0 from rfl, Option.bind_some, b, Option.bind_some, e]
  exact mk_lst (by rw [List.length_map]; exact Nat.le_trans (List.length_take_le' ..) hl)
noncomputable abbrev frL (ns : List Int) (x y z : Int) (N : Nat) (s3 s4 s5 s6 s7 s8 : Option AV) : Fr := [some (.lst (ns.map .int)), some (.lst [.int x, .int y, .int z]), some (.int (N : Int)), s3, s4, s5, s6, s7, s8]
noncomputable def l1 : MS := sAssign (tVar 1) (eSlc false (eBin false .add (eSlc false (eVar 0) (eLit (.none)) (eLit (.int 3))) (eList false [eLit (.int 233833), eLit (.int 120328), eLit (.int 6)])) (eLit (.none)) (eLit (.int 3)))
noncomputable def l2 : MS := sAssign (tVar 2) (eBin false .add (eBin false .mod (eIdx (eVar 1) (eLit (.int 2))) (eLit (.int 7))) (eLit (.int 1)))
noncomputable def l3 : MS := sAsgT [3, 4] (eComp false cWord [⟨1, [9], iVal (eSlc false (eVar 1) (eLit (.none)) (eLit (.int 2))), []⟩])
noncomputable def l4 : MS := sAssign (tVar 5) (eCall (eLit (.fn 17)) [eCall (eLit (.fn 15)) [eVar 3], eCall (eLit (.fn 15)) [eVar 4]])
noncomputable def l5 : MS := sIte (bCmp .eq (eVar 5) (eLit (.str []))) [sRet (eCmp .eq (eMeth (eVar 3) .lower none []) (eMeth (eVar 4) .lower none []))] []
noncomputable def l6 : MS := sAssign (tVar 6) (eCall (eLit (.fn 4)) [cPat])
noncomputable def bLong : MB := bAO false [bCmp .gt (eCall (eLit (.bi .len)) [eVar 5]) (eBin false .add (eBin false .fdiv (eVar 2) (eLit (.int 2))) (eLit (.int 1))), bCmp .eq (eCall (eLit (.fn 18)) [eVar 6, eVar 3]) (eCall (eLit (.fn 18)) [eVar 6, eVar 4])]
noncomputable def l7 : MS := sIte bLong [sRet (eLit (.bool false))] []
noncomputable def l8 : MS := sRet (eCmp .eq cPart (eList false []))
theorem l1_run {ns : List Int} (hn : ns.length ≤ 63) {x y z : Int} (h3 : (ns.take 3 ++ pad).take 3 = [x, y, z]) {W : Wd} : l1 W 0 [some (.lst (ns.map .int)), none, none, none, none, none, none, none, none] [] = some ⟨.next, [some (.lst (ns.map .int)), some (.lst [.int x, .int y, .int z]), none, none, none, none, none, none, none], []⟩ := by
  have hl2 : (ns.take 3 ++ pad).length ≤ 1000 := by rw [List.length_append]; exact Nat.le_trans (Nat.add_le_add_right (List.length_take_le ..) _) (by decide)
  have c2 := cut3 (cs := []) hl2
  rw [h3] at c2
  have hadd : binv false .add (.lst ((ns.take 3).map .int)) (.lst (pad.map .int)) ([] : Cells) = some (.lst ((ns.take 3 ++ pad).map .int), []) := by
    rw [List.map_append]
    exact mk_lst (by rw [← List.map_append, List.length_map]; exact hl2)
  exact as_var (e_slc (e_bin (e_slc rfl rfl rfl (cut3 (Nat.le_trans hn (by decide)))) rfl hadd) rfl rfl c2) (lt_ok rfl)
theorem size_of (z : Int) : ∃ N : Nat, z % 7 + 1 = (N : Int) ∧ 1 ≤ N ∧ N ≤ 7 := by
  have h1 := Int.emod_nonneg z (by decide : (7 : Int) ≠ 0)
  have h2 := Int.emod_lt_of_pos z (by decide : (0 : Int) < 7)
  exact ⟨(z % 7).toNat + 1, by omega, by omega, by omega⟩
section
variable {ns : List Int} {x y z : Int} {N : Nat}
theorem law_head (hn : ns.length ≤ 63) (h3 : (ns.take 3 ++ pad).take 3 = [x, y, z]) (hz : z % 7 + 1 = (N : Int)) (h7 : N ≤ 7) {r : Option J3.E} (h : Bf.go J3.lt (J3.step (low (wordOf x N)) (low (wordOf y N))) J3.goal J3.dead J3.C3 100 [⟨0, [], (0, 0)⟩] [(0, 0)] = some r) {rest : List MS} {q : Option Ou}
    (hq : evSs (callAt prog 11) 0 rest (frL ns x y z N (some (.str (wTx (wordOf x N)))) (some (.str (wTx (wordOf y N)))) (some (.str (tx3 (foundTx r)))) none none none) [] = q) :
    evSs (callAt prog 11) 0 (l1 :: l2 :: l3 :: l4 :: rest) [some (.lst (ns.map .int)), none, none, none, none, none, none, none, none] [] = q := by
  have e2 : l2 (callAt prog 11) 0 [some (.lst (ns.map .int)), some (.lst [.int x, .int y, .int z]), none, none, none, none, none, none, none] [] = some ⟨.next, frL ns x y z N none none none none none none, []⟩ := by
    refine as_var (v := .int (N : Int)) ?_ (lt_ok rfl)
    rw [← hz]; exact e_bin (e_bin rfl rfl rfl) rfl rfl
  have e3 : l3 (callAt prog 11) 0 (frL ns x y z N none none none none none none) [] = some ⟨.next, frL ns x y z N (some (.str (wTx (wordOf x N)))) (some (.str (wTx (wordOf y N)))) none none none none, []⟩ := asg_l (is := [3, 4]) (words_run h7) rfl
  have p1 := places_run (d := 8) (wordOf_ok (x := x) h7) []
  have p2 := places_run (d := 8) (wordOf_ok (x := y) h7) []
  have hf := found_run (d := 7) (a := wordOf x N) (b := wordOf y N) (by rw [wordOf_len]; exact h7) (by rw [wordOf_len]; exact h7) h []
  have e4 : l4 (callAt prog 11) 0 (frL ns x y z N (some (.str (wTx (wordOf x N)))) (some (.str (wTx (wordOf y N)))) none none none none) [] = some ⟨.next, frL ns x y z N (some (.str (wTx (wordOf x N)))) (some (.str (wTx (wordOf y N)))) (some (.str (tx3 (foundTx r)))) none none none, []⟩ :=
    as_var (e_call rfl (es_cons (e_call rfl rfl p1) (es_cons (e_call rfl rfl p2) rfl)) hf) (lt_ok rfl)
  exact ss_next (l1_run hn h3) (ss_next e2 (ss_next e3 (ss_next e4 hq)))
theorem tail_run (h1 : 1 ≤ N) (h7 : N ≤ 7) {e : J3.E} (S : Short e.word) (hl : e.word.length ≤ N / 2 + 1) (hd : J3.lies e.word (low (wordOf x N)) ≠ J3.lies e.word (low (wordOf y N))) (hs : ∀ t : List Nat, t.length < e.word.length → (∀ c ∈ t, c < 3) → J3.lies t (low (wordOf x N)) = J3.lies t (low (wordOf y N))) :
    ∃ fr', evSs (callAt prog 11) 0 (l5 :: l6 :: l7 :: (ssParts ++ [l8])) (frL ns x y z N (some (.str (wTx (wordOf x N)))) (some (.str (wTx (wordOf y N)))) (some (.str (tx3 e.word))) none none none) [] = some ⟨.ret (.bool true), fr', []⟩ := by
  have A := wordOf_ok (x := x) h7
  have B := wordOf_ok (x := y) h7
  have t5 : bCmp .eq (eVar 5) (eLit (.str [])) (callAt prog 11) 0 (frL ns x y z N (some (.str (wTx (wordOf x N)))) (some (.str (wTx (wordOf y N)))) (some (.str (tx3 e.word))) none none none) [] = some (false, []) := b_cmp rfl rfl (by
    rw [eq_str]
    refine congrArg some (beq_eq_false_iff_ne.mpr fun h => S.ne ?_)
    exact List.map_eq_nil_iff.mp h)
  have e6 : l6 (callAt prog 11) 0 (frL ns x y z N (some (.str (wTx (wordOf x N)))) (some (.str (wTx (wordOf y N)))) (some (.str (tx3 e.word))) none none none) [] = some ⟨.next, frL ns x y z N (some (.str (wTx (wordOf x N)))) (some (.str (wTx (wordOf y N)))) (some (.str (tx3 e.word))) (some (.str (rx e.word))) none none, []⟩ :=
    as_var (e_call rfl (es_cons (pat_run S) rfl) (S.tr [])) (lt_ok rfl)
  have k1 := takes_run (d := 10) A S []
  have k2 := takes_run (d := 10) B S []
  have hlen : (tx3 e.word).length = e.word.length := List.length_map ..
  have hdv : binv false .fdiv (.int (N : Int)) (.int 2) ([] : Cells) = some (.int ((N / 2 : Nat) : Int), []) := rfl
  have t7 : bLong (callAt prog 11) 0 (frL ns x y z N (some (.str (wTx (wordOf x N)))) (some (.str (wTx (wordOf y N)))) (some (.str (tx3 e.word))) (some (.str (rx e.word))) none none) [] = some (false, []) := by
    refine b_ao (t := false) (b_cmp (x := .int ((tx3 e.word).length : Int)) (y := .int ((N / 2 + 1 : Nat) : Int)) rfl (e_bin (e_bin rfl rfl hdv) rfl rfl) ?_) (ao_one (b_cmp (e_call rfl rfl k1) (e_call rfl rfl k2) ?_))
    · rw [gt_int, hlen, decide_eq_false (Int.not_lt.mpr (Int.ofNat_le.mpr hl))]
    · show some (J3.lies e.word (low (wordOf x N)) == J3.lies e.word (low (wordOf y N))) = _
      exact congrArg some (beq_eq_false_iff_ne.mpr hd)
  obtain ⟨v8, e8⟩ := parts_run (W := callAt prog 11) (n := 0) (s0 := some (.lst (ns.map .int))) (s1 := some (.lst [.int x, .int y, .int z])) (s2 := some (.int (N : Int))) (s3 := some (.str (wTx (wordOf x N)))) (s4 := some (.str (wTx (wordOf y N)))) (s6 := some (.str (rx e.word))) S
  have hw : ∀ t ∈ wR (e.word.length - 1), J3.lies t (low (wordOf x N)) = J3.lies t (low (wordOf y N)) := fun t ht => by
    obtain ⟨q1, q2⟩ := wR_mem ht
    have := List.length_pos_iff.mpr S.ne
    exact hs t (by omega) q2
  have hwl : (wR (e.word.length - 1)).length ≤ 1000 := by
    have h4 : e.word.length - 1 ≤ 3 := by have := S.len; omega
    generalize e.word.length - 1 = j at h4
    match j, h4 with
    | 0, _ => decide
    | 1, _ => decide
    | 2, _ => decide
    | 3, _ => decide
  have e9 := part_run (n := 0) (cs := []) (s0 := some (.lst (ns.map .int))) (s1 := some (.lst [.int x, .int y, .int z])) (s2 := some (.int (N : Int))) (s5 := some (.str (tx3 e.word))) (s6 := some (.str (rx e.word))) (s8 := v8) A B hwl hw
  exact ⟨_, ss_next (s_if t5 rfl) (ss_next e6 (ss_next (s_if t7 rfl) (ss_app ssParts e8 (ss_ret (s_ret (e_cmp e9 rfl rfl))))))⟩
theorem same_run (hab : low (wordOf x N) = low (wordOf y N)) (h7 : N ≤ 7) {rest : List MS} : ∃ fr', evSs (callAt prog 11) 0 (l5 :: rest) (frL ns x y z N (some (.str (wTx (wordOf x N)))) (some (.str (wTx (wordOf y N)))) (some (.str (tx3 []))) none none none) [] = some ⟨.ret (.bool true), fr', []⟩ := by
  have A := wordOf_ok (x := x) h7
  have B := wordOf_ok (x := y) h7
  have w2 := lower_word (n := 0) (cs := []) B
  rw [← hab] at w2
  refine ⟨_, ss_ret (s_if (b_cmp rfl rfl rfl) (ss_ret (s_ret (e_cmp (e_meth rfl rfl rfl rfl (lower_word A)) (e_meth rfl rfl rfl rfl w2) ?_))))⟩
  rw [eq_str, beq_self_eq_true]
end
theorem run (ns : List Int) (hn : ns.length ≤ 63) : ∃ cs', (callAt prog 12).cf 20 [.lst (ns.map .int)] none [] = some (.bool true, cs') := by
  obtain ⟨x, y, z, h3⟩ := three ns
  obtain ⟨N, hz, h1, h7⟩ := size_of z
  obtain ⟨r, hr, hnone, hsome⟩ := J3.best (a := low (wordOf x N)) (b := low (wordOf y N)) h1 h7 (by rw [low_len, wordOf_len]) (by rw [low_len, wordOf_len]) low_lt low_lt
  have key : ∃ fr', evSs (callAt prog 11) 0 (l5 :: l6 :: l7 :: (ssParts ++ [l8])) (frL ns x y z N (some (.str (wTx (wordOf x N)))) (some (.str (wTx (wordOf y N)))) (some (.str (tx3 (foundTx r)))) none none none) [] = some ⟨.ret (.bool true), fr', []⟩ := by
    cases r with
    | none => exact same_run (hnone rfl) h7
    | some e =>
      obtain ⟨q1, q2, q3, q4, q5⟩ := hsome e rfl
      exact tail_run h1 h7 ⟨q1, Nat.le_trans q3 (by omega), q2⟩ q3 q4 q5
  obtain ⟨fr', hk⟩ := key
  exact ⟨[], cf_closed (P := prog) (k := 11) (j := 20) (cs := []) (F := f_law) (args := [.lst (ns.map .int)]) rfl (Bool.and_eq_true_iff.mpr ⟨bel_ints ns, rfl⟩) (run_of rfl (law_head hn h3 hz h7 hr hk) rfl) rfl⟩
end Ev.L3
open PySem PySem.W PyProof.Rows PySem.SeqAt Ev
namespace Ev.L3
noncomputable def text : Program := PySem.Challenge.pw_kt0058_03
noncomputable def seenText : Program := view text [28]
noncomputable def loose : List Str := text.boundNames.filter (· != "law")
noncomputable def sight : Sight := { Y := lay, P := prog, T := tops, law := "law", lawA := 286, shapes := shapesOf text [("heappush", .none), ("heappop", .none), ("_siftdown", .none), ("_siftup", .none), ("translate", .none), ("_translate", .none), ("_join_translated_parts", .none), ("__init__", .ref 69), ("_convert_string_type", .none), ("__setitem__", .none), ("__delitem__", .none), ("get_all", .none), ("get", .ref 122), ("items", .none), ("add_header", .none), ("_law_places", .none), ("_law_ahead", .none), ("_law_found", .none), ("_law_takes", .none), ("_law_lies", .none), ("law", .none)], K2 := [(69, { cls := .type "tuple", data := .seq #[.none] }), (122, { cls := .type "tuple", data := .seq #[.none] })], as := [3, 47, 48, 52, 53, 69, 75, 76, 82, 83, 96, 97, 101, 102, 120, 121, 122, 128, 129, 145, 146, 178, 179, 181, 182, 190, 191, 197, 198, 212, 216, 217, 223, 224, 230, 231, 237, 238, 244, 245, 251, 252, 256, 257, 261, 262, 268, 269, 273, 274, 280, 281, 285, 286] }
end Ev.L3
set_option maxRecDepth 1000000
set_option maxHeartbeats 0
namespace Ev.L3
noncomputable def Left (w : World) : Prop := (openEnds treeTable text w 5754).map (fun s => (openSeen seenText loose (importedModules text.main.body) (fun _ => true) true s, obsE sight s)) = some (openGood seenText loose, valE sight)
theorem left_ff (w : World) : Left ((w.withFollow "special-get-raises" false).withFollow "comprehension-iter-twice" false) := by
  unfold Left openEnds fencedOpening topFrom
  rw [Fast.te14082659384304107361, Fast.te14364793385576792824, Fast.te10274390034422433532, Fast.te14289696077712309145, Fast.te1435165496053646825]
  kernel_rfl
theorem left_ft (w : World) : Left ((w.withFollow "special-get-raises" false).withFollow "comprehension-iter-twice" true) := by
  unfold Left openEnds fencedOpening topFrom
  rw [Fast.te14082659384304107361, Fast.te14364793385576792824, Fast.te10274390034422433532, Fast.te14289696077712309145, Fast.te1435165496053646825]
  kernel_rfl
theorem left_tf (w : World) : Left ((w.withFollow "special-get-raises" true).withFollow "comprehension-iter-twice" false) := by
  unfold Left openEnds fencedOpening topFrom
  rw [Fast.te14082659384304107361, Fast.te14364793385576792824, Fast.te10274390034422433532, Fast.te14289696077712309145, Fast.te1435165496053646825]
  kernel_rfl
theorem left_tt (w : World) : Left ((w.withFollow "special-get-raises" true).withFollow "comprehension-iter-twice" true) := by
  unfold Left openEnds fencedOpening topFrom
  rw [Fast.te14082659384304107361, Fast.te14364793385576792824, Fast.te10274390034422433532, Fast.te14289696077712309145, Fast.te1435165496053646825]
  kernel_rfl
theorem left (w : World) : Left w := byRow2 "comprehension-iter-twice" (byRow2 "special-get-raises" (P := fun w => Left (w.withFollow "comprehension-iter-twice" false)) left_ff left_tf) (byRow2 "special-get-raises" (P := fun w => Left (w.withFollow "comprehension-iter-twice" true)) left_ft left_tt) w
end Ev.L3
namespace Ev.L3
theorem bind_all (S : Setting) : BindsS sight.K2 S sight.shapes prog.fs := by
  refine ⟨?_, ?_, ?_, ?_, ?_, ?_, ?_, ?_, ?_, ?_, ?_, ?_, ?_, ?_, ?_, ?_, ?_, ?_, ?_, ?_, ?_, trivial⟩ <;> intro fd
  · exact (show BindP _ _ _ 2 0 from fun vs h1 h2 => match vs, h1, h2 with | [], _, h => absurd h (by decide) | [_], _, h => absurd h (by simp) | [a, b], _, _ => by kernel_rfl | _ :: _ :: _ :: _, h, _ => absurd h (by simp))
  · exact (show BindP _ _ _ 1 0 from fun vs h1 h2 => match vs, h1, h2 with | [], _, h => absurd h (by decide) | [a], _, _ => by kernel_rfl | _ :: _ :: _, h, _ => absurd h (by simp))
  · exact (show BindP _ _ _ 3 0 from fun vs h1 h2 => match vs, h1, h2 with | [], _, h => absurd h (by decide) | [_], _, h => absurd h (by simp) | [_, _], _, h => absurd h (by simp) | [a, b, c], _, _ => by kernel_rfl | _ :: _ :: _ :: _ :: _, h, _ => absurd h (by simp))
  · exact (show BindP _ _ _ 2 0 from fun vs h1 h2 => match vs, h1, h2 with | [], _, h => absurd h (by decide) | [_], _, h => absurd h (by simp) | [a, b], _, _ => by kernel_rfl | _ :: _ :: _ :: _, h, _ => absurd h (by simp))
  · exact (show BindP _ _ _ 1 0 from fun vs h1 h2 => match vs, h1, h2 with | [], _, h => absurd h (by decide) | [a], _, _ => by kernel_rfl | _ :: _ :: _, h, _ => absurd h (by simp))
  · exact (show BindP _ _ _ 3 0 from fun vs h1 h2 => match vs, h1, h2 with | [], _, h => absurd h (by decide) | [_], _, h => absurd h (by simp) | [_, _], _, h => absurd h (by simp) | [a, b, c], _, _ => by kernel_rfl | _ :: _ :: _ :: _ :: _, h, _ => absurd h (by simp))
  · exact (show BindP _ _ _ 2 0 from fun vs h1 h2 => match vs, h1, h2 with | [], _, h => absurd h (by decide) | [_], _, h => absurd h (by simp) | [a, b], _, _ => by kernel_rfl | _ :: _ :: _ :: _, h, _ => absurd h (by simp))
  · exact (show BindP _ _ _ 2 1 from fun vs h1 h2 => match vs, h1, h2 with | [], _, h => absurd h (by decide) | [a], _, _ => by kernel_rfl | [a, b], _, _ => by kernel_rfl | _ :: _ :: _ :: _, h, _ => absurd h (by simp))
  · exact (show BindN _ _ _ 2 from fun vs v h => match vs, h with | [a, b], _ => by kernel_rfl | [], h => absurd h (by simp) | [_], h => absurd h (by simp) | _ :: _ :: _ :: _, h => absurd h (by simp))
  · exact (show BindP _ _ _ 3 0 from fun vs h1 h2 => match vs, h1, h2 with | [], _, h => absurd h (by decide) | [_], _, h => absurd h (by simp) | [_, _], _, h => absurd h (by simp) | [a, b, c], _, _ => by kernel_rfl | _ :: _ :: _ :: _ :: _, h, _ => absurd h (by simp))
  · exact (show BindP _ _ _ 2 0 from fun vs h1 h2 => match vs, h1, h2 with | [], _, h => absurd h (by decide) | [_], _, h => absurd h (by simp) | [a, b], _, _ => by kernel_rfl | _ :: _ :: _ :: _, h, _ => absurd h (by simp))
  · exact (show BindP _ _ _ 2 0 from fun vs h1 h2 => match vs, h1, h2 with | [], _, h => absurd h (by decide) | [_], _, h => absurd h (by simp) | [a, b], _, _ => by kernel_rfl | _ :: _ :: _ :: _, h, _ => absurd h (by simp))
  · exact (show BindP _ _ _ 3 1 from fun vs h1 h2 => match vs, h1, h2 with | [], _, h => absurd h (by decide) | [_], _, h => absurd h (by simp) | [a, b], _, _ => by kernel_rfl | [a, b, c], _, _ => by kernel_rfl | _ :: _ :: _ :: _ :: _, h, _ => absurd h (by simp))
  · exact (show BindP _ _ _ 1 0 from fun vs h1 h2 => match vs, h1, h2 with | [], _, h => absurd h (by decide) | [a], _, _ => by kernel_rfl | _ :: _ :: _, h, _ => absurd h (by simp))
  · exact (show BindD _ 3 from fun vs h => match vs, h with | [a, b, c], _ => by kernel_rfl | [], h => absurd h (by simp) | [_], h => absurd h (by simp) | [_, _], h => absurd h (by simp) | _ :: _ :: _ :: _ :: _, h => absurd h (by simp))
  · exact (show BindP _ _ _ 1 0 from fun vs h1 h2 => match vs, h1, h2 with | [], _, h => absurd h (by decide) | [a], _, _ => by kernel_rfl | _ :: _ :: _, h, _ => absurd h (by simp))
  · exact (show BindP _ _ _ 2 0 from fun vs h1 h2 => match vs, h1, h2 with | [], _, h => absurd h (by decide) | [_], _, h => absurd h (by simp) | [a, b], _, _ => by kernel_rfl | _ :: _ :: _ :: _, h, _ => absurd h (by simp))
  · exact (show BindP _ _ _ 2 0 from fun vs h1 h2 => match vs, h1, h2 with | [], _, h => absurd h (by decide) | [_], _, h => absurd h (by simp) | [a, b], _, _ => by kernel_rfl | _ :: _ :: _ :: _, h, _ => absurd h (by simp))
  · exact (show BindP _ _ _ 2 0 from fun vs h1 h2 => match vs, h1, h2 with | [], _, h => absurd h (by decide) | [_], _, h => absurd h (by simp) | [a, b], _, _ => by kernel_rfl | _ :: _ :: _ :: _, h, _ => absurd h (by simp))
  · exact (show BindP _ _ _ 2 0 from fun vs h1 h2 => match vs, h1, h2 with | [], _, h => absurd h (by decide) | [_], _, h => absurd h (by simp) | [a, b], _, _ => by kernel_rfl | _ :: _ :: _ :: _, h, _ => absurd h (by simp))
  · exact (show BindP _ _ _ 1 0 from fun vs h1 h2 => match vs, h1, h2 with | [], _, h => absurd h (by decide) | [a], _, _ => by kernel_rfl | _ :: _ :: _, h, _ => absurd h (by simp))
end Ev.L3
set_option maxHeartbeats 8000000 in
theorem PySem.Challenge.cw_kt0058_03_holds : PySem.Challenge.rw_kt0058_03.Holds := by
  w_on
  refine holds_law (by kernel_rfl) fun said => ?_
  refine holds_openX (q := Ev.L3.seenText) (loose := Ev.L3.loose) (Xt := fun _ => true) (XP := fun _ _ => True) (Yf := obsE Ev.L3.sight) (Ya := fun _ => valE Ev.L3.sight) (N := 5754) Ev.L3.left (fun _ _ => trivial) (fun _ _ _ _ _ => trivial) (by rfl) (by rfl) (by rfl) (fun _ _ => recFacts_nil rfl) (by rfl) said (by decide +kernel) ⟨rfl, rfl, rfl, rfl, rfl, by decide +kernel⟩ ?hw ?hc
  case hw => w_witness2
  intro w s₀ s₁ mg mb G y fa o pm cd doc dV kV ho hd hcd hD hmg hg args vals as L hpre hlay hrd hwl hlo
  clear ho hd hcd hD
  refine Ground.open G ?_
  intro T B D TE TW
  wrow_args hpre hlay hrd hwl hlo
  rename IntsAre _ _ => hI
  rename Heap.IsList _ _ _ => hL
  obtain ⟨hat, hsz⟩ := X.script_at L
  obtain ⟨K, KX, C, cls, hlaw, hs⟩ := obs_law (mg := mg) (mb := mb) y L.keeps (by kernel_rfl) (by decide) (by rfl) (Ev.L3.bind_all ⟨PySem.Challenge.pw_kt0058_03, w.params⟩) (by rw [hsz]; exact Nat.le_succ _)
  have e := hmg.symm.trans (mg_of KX T.g hlaw)
  obtain rfl := Value.ref.inj (Option.some.inj e)
  refine Ev.law_top (Y := Ev.L3.lay) (P := Ev.L3.prog) (T := Ev.L3.tops) (lawN := 20) (k := 12) KX C T.g T.b T.nolimit T.builtins hs T.bmain cls hg ⟨0, X.script_obj L hL⟩ hI ?len (by decide) (Ev.L3.run _ ?len) (fun s' h1 h2 h3 => good_true (fun _ => rfl) (by wrow_post) h1 h2 h3)
  case len => omega
